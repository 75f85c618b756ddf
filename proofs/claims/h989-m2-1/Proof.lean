import JvmDerived
import JvmDerived.Pilot.@@N@@Statement
import JvmDerived.Pilot.@@N@@Code
set_option linter.unusedVariables false
set_option linter.unusedSimpArgs false
namespace Jvm.Pilot.@@N@@.Own
open Jvm Jvm.ClassFile Sem Op Lib Jvm.Free Jvm.Stand Jvm.LawKit Jvm.RoadKit
/-- from S the run comes to an end of which P holds -/
def Go (tb : Tables) (e : Env) (below : List Frame) (P : State → Outcome → Prop) (S : State) : Prop :=
  ∃ s₂ o, Steps tb e below S s₂ ∧ s₂.status = .running ∧ Ended s₂ below o ∧ P s₂ o
theorem Go.step {tb : Tables} {e : Env} {below : List Frame} {P : State → Outcome → Prop} {S S' : State}
    (h : ∀ t, Steps tb e below S' t → Steps tb e below S t) (g : Go tb e below P S') : Go tb e below P S := by
  obtain ⟨t, o, h1, h2⟩ := g; exact ⟨t, o, h t h1, h2⟩
theorem Go.tr {tb : Tables} {e : Env} {below : List Frame} {P : State → Outcome → Prop} {S S' : State}
    (h : Steps tb e below S S') (g : Go tb e below P S') : Go tb e below P S := by
  obtain ⟨t, o, h1, h2⟩ := g; exact ⟨t, o, h.trans h1, h2⟩
theorem Go.start {tb : Tables} {e : Env} {below : List Frame} {P₀ : State → Outcome → Prop} {S S' : State} (q : S = S')
    (h : ∀ P : State → Outcome → Prop, (∀ s₂ o, P₀ s₂ o → P s₂ o) → Go tb e below P S') : Go tb e below P₀ S := by
  subst q; exact h P₀ fun _ _ h => h
/-- a value gets a name -/
theorem nm {α : Type} (F : α → Prop) (x : α) (H : ∀ z, z = x → F z) : F x := H x rfl
section Ends
variable {p : Program} {l : Launch} {e : Env} {R : Room} {s : State} {m : MethodId} {args : Array Value} {below : List Frame} {meth : Method} {c : Code} {T : State} {locs : List Loc} {cells slots : Nat}
theorem retGo (X : Stand p l e R s m args below meth c T locs cells slots) (hx : p.tables.exec = Jvm.exec) {P : State → Outcome → Prop} {Q : Option Value → Heap → List Loc → Prop} {kc ks : Nat}
    (hP : ∀ s₂ o, (∃ v L, o = .returned v ∧ Q v s₂.heap L ∧ FrameEnd s o s₂ L kc ks) → P s₂ o) {pc : Nat} {Ls : Array Slot} {w : Value} {t : FieldType} {i : Instr} {rest : List Value} (hret : meth.sig.returnType = some t) (hlk : meth.locks = false) (hn : narrow t w = w)
    (hi : (i = .ireturn ∧ (t = .int ∨ t = .boolean ∨ t = .byte ∨ t = .char ∨ t = .short) ∧ ∃ z, w = .int z) ∨ (i = .lreturn ∧ t = .long ∧ ∃ z, w = .long z) ∨ (i = .dreturn ∧ t = .double ∧ ∃ z, w = .double z) ∨ (i = .freturn ∧ t = .float ∧ ∃ z, w = .float z) ∨ (i = .areturn ∧ t.isReference = true ∧ w.isRef = true))
    (hd : decode c.code pc = .ok (i, 1)) (hc : cells ≤ kc) (hs : slots ≤ ks) (hQ : Q (some w) T.heap locs) : Go p.tables e below P (T.setTop (mkF m pc Ls (w :: rest))) := by
  obtain ⟨fs, hr, hrun, hended, hW, hsame⟩ := X.leave (v := some w) (fun h => by rw [hret] at h; cases h) hlk
  exact ⟨_, _, retOut X hx hret hn hi hd hr, hrun, hended, hP _ _ ⟨_, _, rfl, hQ, ⟨_, rfl⟩, hW, hsame.mono hc hs⟩⟩
theorem retGoW {vm1 : Vm} (X : Stand p l e R (s.setVm vm1) m args below meth c T locs cells slots) (hx : p.tables.exec = Jvm.exec) {n1 : Nat} (hS : s.Since vm1 n1) (hn1 : n1 ≤ T.heap.size) {P : State → Outcome → Prop} {Q : Option Value → Heap → List Loc → Prop} {kc ks : Nat}
    (hP : ∀ s₂ o, (∃ v L, o = .returned v ∧ Q v s₂.heap L ∧ ReturnedEndW s o s₂ L kc ks) → P s₂ o) {pc : Nat} {Ls : Array Slot} {w : Value} {t : FieldType} {i : Instr} {rest : List Value} (hret : meth.sig.returnType = some t) (hlk : meth.locks = false) (hn : narrow t w = w)
    (hi : (i = .ireturn ∧ (t = .int ∨ t = .boolean ∨ t = .byte ∨ t = .char ∨ t = .short) ∧ ∃ z, w = .int z) ∨ (i = .lreturn ∧ t = .long ∧ ∃ z, w = .long z) ∨ (i = .dreturn ∧ t = .double ∧ ∃ z, w = .double z) ∨ (i = .freturn ∧ t = .float ∧ ∃ z, w = .float z) ∨ (i = .areturn ∧ t.isReference = true ∧ w.isRef = true))
    (hd : decode c.code pc = .ok (i, 1)) (hc : cells ≤ kc) (hs : slots ≤ ks) (hQ : Q (some w) T.heap locs) : Go p.tables e below P (T.setTop (mkF m pc Ls (w :: rest))) := by
  obtain ⟨fs, hr, hrun, hended, _, hW, hI, hsame⟩ := X.leaveW hS hn1 (v := some w) (fun h => by rw [hret] at h; cases h) hlk
  exact ⟨_, _, retOut X hx hret hn hi hd hr, hrun, hended, hP _ _ ⟨_, _, rfl, hQ, ⟨_, rfl⟩, hW, hI, hsame.mono hc hs⟩⟩
theorem voidGo (X : Stand p l e R s m args below meth c T locs cells slots) (hx : p.tables.exec = Jvm.exec) {P : State → Outcome → Prop} {Q : Option Value → Heap → List Loc → Prop} {kc ks : Nat}
    (hP : ∀ s₂ o, (∃ v L, o = .returned v ∧ Q v s₂.heap L ∧ FrameEnd s o s₂ L kc ks) → P s₂ o) {pc : Nat} {Ls : Array Slot} (hret : meth.sig.returnType = none) (hlk : meth.locks = false)
    (hd : decode c.code pc = .ok (.return_, 1)) (hc : cells ≤ kc) (hs : slots ≤ ks) (hQ : Q none T.heap locs) : Go p.tables e below P (T.setTop (mkF m pc Ls [])) := by
  obtain ⟨fs, hr, hrun, hended, hW, hsame⟩ := X.leave (v := none) (fun _ => rfl) hlk
  exact ⟨_, _, X.returnOut hx hret hd hr, hrun, hended, hP _ _ ⟨_, _, rfl, hQ, ⟨_, rfl⟩, hW, hsame.mono hc hs⟩⟩
end Ends
/-! branches: what is compared, as whole numbers -/
def rel : ClassFile.Cond → Int → Int → Prop
  | .eq, a, b => a = b
  | .ne, a, b => ¬ a = b
  | .lt, a, b => a < b
  | .ge, a, b => b ≤ a
  | .gt, a, b => b < a
  | .le, a, b => a ≤ b
theorem icY {cd : ClassFile.Cond} {x y : Int32} (h : rel cd x.toInt y.toInt) : if_icmp.holds cd x y = true := by
  cases cd <;> simp only [rel] at h <;> simp [if_icmp.holds, Int32.lt_iff_toInt_lt, Int32.le_iff_toInt_le, ← Int32.toInt_inj] <;> omega
theorem icN {cd : ClassFile.Cond} {x y : Int32} (h : ¬ rel cd x.toInt y.toInt) : if_icmp.holds cd x y = false := by
  cases cd <;> simp only [rel] at h <;> simp [if_icmp.holds, Int32.lt_iff_toInt_lt, Int32.le_iff_toInt_le, ← Int32.toInt_inj] <;> omega
theorem ifY {cd : ClassFile.Cond} {x : Int32} (h : rel cd x.toInt 0) : ifCond.holds cd x = true := (if0 cd x).trans (icY h)
theorem ifN {cd : ClassFile.Cond} {x : Int32} (h : ¬ rel cd x.toInt 0) : ifCond.holds cd x = false := (if0 cd x).trans (icN h)
theorem acY_eq {a b : Addr} (h : a = b) : if_acmp.holds .eq (some a) (some b) = true := by subst h; simp [if_acmp.holds]
theorem acN_eq {a b : Addr} (h : ¬ a = b) : if_acmp.holds .eq (some a) (some b) = false := by simp [if_acmp.holds, h]
theorem acY_ne {a b : Addr} (h : ¬ a = b) : if_acmp.holds .ne (some a) (some b) = true := by simp [if_acmp.holds, h]
theorem acN_ne {a b : Addr} (h : ¬ ¬ a = b) : if_acmp.holds .ne (some a) (some b) = false := by
  have h' : a = b := Classical.byContradiction h
  subst h'; simp [if_acmp.holds]
theorem lcmp_rel {cd : ClassFile.Cond} {x y : Int64} : rel cd (lcmpW x y).toInt 0 ↔ rel cd x.toInt y.toInt := by
  have h1 : x < y ↔ x.toInt < y.toInt := Int64.lt_iff_toInt_lt
  have h2 : y < x ↔ y.toInt < x.toInt := Int64.lt_iff_toInt_lt
  have h3 : x = y ↔ x.toInt = y.toInt := Int64.toInt_inj.symm
  have e1 : (1 : Int32).toInt = 1 := rfl
  have e2 : (-1 : Int32).toInt = -1 := rfl
  have e3 : (0 : Int32).toInt = 0 := rfl
  unfold lcmpW
  by_cases c1 : x > y
  · rw [if_pos c1, e1]; have := h2.mp c1; cases cd <;> simp only [rel] <;> omega
  · rw [if_neg c1]
    have n1 : ¬ y.toInt < x.toInt := fun q => c1 (h2.mpr q)
    by_cases c2 : x = y
    · rw [if_pos c2, e3]; have q := h3.mp c2; cases cd <;> simp only [rel] <;> first | omega | simp [q]
    · rw [if_neg c2, e2]
      have n2 : ¬ x.toInt = y.toInt := fun q => c2 (h3.mpr q)
      cases cd <;> simp only [rel] <;> omega
theorem lcY {cd : ClassFile.Cond} {x y : Int64} (h : rel cd x.toInt y.toInt) : ifCond.holds cd (lcmpW x y) = true := ifY (lcmp_rel.mpr h)
theorem lcN {cd : ClassFile.Cond} {x y : Int64} (h : ¬ rel cd x.toInt y.toInt) : ifCond.holds cd (lcmpW x y) = false := ifN fun q => h (lcmp_rel.mp q)
theorem cmpV_rel {cd : ClassFile.Cond} {op : CmpOp} {i j : Int} : rel cd (cmpValue (some (compare i j)) op).toInt 0 ↔ rel cd i j := by
  have e1 : (1 : Int32).toInt = 1 := rfl
  have e2 : (-1 : Int32).toInt = -1 := rfl
  have e3 : (0 : Int32).toInt = 0 := rfl
  cases h : compare i j with
  | lt => have := (FP.Core.compare_lt_iff i j).mp h; show rel cd (-1 : Int32).toInt 0 ↔ _; rw [e2]; cases cd <;> simp only [rel] <;> omega
  | eq => have := (FP.Core.compare_eq_iff i j).mp h; show rel cd (0 : Int32).toInt 0 ↔ _; rw [e3]; cases cd <;> simp only [rel] <;> first | omega | simp [this]
  | gt => have := (FP.Core.compare_gt_iff i j).mp h; show rel cd (1 : Int32).toInt 0 ↔ _; rw [e1]; cases cd <;> simp only [rel] <;> omega
theorem dcY {cd : ClassFile.Cond} {op : CmpOp} {r : Option Ordering} {i j : Int} (q : r = some (compare i j)) (h : rel cd i j) : ifCond.holds cd (cmpValue r op) = true := by subst q; exact ifY (cmpV_rel.mpr h)
theorem dcN {cd : ClassFile.Cond} {op : CmpOp} {r : Option Ordering} {i j : Int} (q : r = some (compare i j)) (h : ¬ rel cd i j) : ifCond.holds cd (cmpValue r op) = false := by subst q; exact ifN fun z => h (cmpV_rel.mp z)
end Jvm.Pilot.@@N@@.Own
namespace Jvm.Pilot.@@N@@.Own
open Jvm Jvm.FP Jvm.FP.Core
/-! ## doubles as whole numbers of 2^-1074: what rounding leaves -/
/-- a double's value in units of 2^-1074 -/
def zv (a : UInt64) : Int := zval b64 (val64 a)
/-- a is finite and lies between lo * 2^k and hi * 2^k units -/
def DB (k : Nat) (lo hi : Int) (a : UInt64) : Prop := DFin a ∧ lo * ((2 ^ k : Nat) : Int) ≤ zv a ∧ zv a ≤ hi * ((2 ^ k : Nat) : Int)
/-- a is finite and is i * 2^k units -/
abbrev DE (k : Nat) (i : Int) (a : UInt64) : Prop := DB k i i a
theorem DE.eq {k : Nat} {i : Int} {a : UInt64} (h : DE k i a) : zv a = i * ((2 ^ k : Nat) : Int) := Int.le_antisymm h.2.2 h.2.1
theorem DE.of {k : Nat} {i : Int} {a : UInt64} (hf : DFin a) (h : zv a = i * ((2 ^ k : Nat) : Int)) : DE k i a := ⟨hf, Int.le_of_eq h.symm, Int.le_of_eq h⟩
theorem tn32 {q : Int32} (h0 : 0 ≤ q.toInt) : (q.toBitVec.toNat : Int) = q.toInt := by
  have l := q.toBitVec.isLt
  have e : q.toInt = q.toBitVec.toInt := rfl
  rw [e] at h0 ⊢
  rw [BitVec.toInt_eq_toNat_cond] at h0 ⊢
  split at h0 <;> split <;> omega
theorem nmul {a b : Int} {A B : Nat} (ha : a.natAbs ≤ A) (hb : b.natAbs ≤ B) : (a * b).natAbs ≤ A * B := by rw [Int.natAbs_mul]; exact Nat.mul_le_mul ha hb
theorem nab {a : Int} {A : Nat} (h : -(A : Int) ≤ a ∧ a ≤ A) : a.natAbs ≤ A := by omega
theorem bmul {a b : Int} {A B : Nat} (ha : -(A : Int) ≤ a ∧ a ≤ A) (hb : -(B : Int) ≤ b ∧ b ≤ B) : -((A * B : Nat) : Int) ≤ a * b ∧ a * b ≤ ((A * B : Nat) : Int) := by
  have := nmul (nab ha) (nab hb)
  omega
theorem le_mul1 {a b : Int} (ha : 0 ≤ a) (hb : 1 ≤ b) : a ≤ a * b := by have := Int.mul_le_mul_of_nonneg_left hb ha; rwa [Int.mul_one] at this
theorem pw_pos (k : Nat) : (0 : Int) < ((2 ^ k : Nat) : Int) := Int.natCast_pos.mpr (Nat.two_pow_pos k)
theorem DB.nn {k : Nat} {lo hi : Int} {a : UInt64} (h : DB k lo hi a) : Jvm.Free.Fl.NoNaN64 a := Jvm.Free.Fl.noNaN64_no.mpr h.1.notNaN
theorem DB.ne {k : Nat} {lo hi : Int} {a : UInt64} (h : DB k lo hi a) : val64 a ≠ .nan := h.1.ne_nan
/-- a number of 53 digits is a double -/
theorem rep {n : Int} {k : Nat} (hn : n.natAbs ≤ 2 ^ 53) (hk : k ≤ 2044) : ∃ s c q, FP.Core.fits b64 (.fin s c q) ∧ zval b64 (.fin s c q) = n * ((2 ^ k : Nat) : Int) := by
  have key : ∀ (n : Int) (k : Nat), n.natAbs < 2 ^ 53 → k ≤ 2045 → ∃ s c q, FP.Core.fits b64 (.fin s c q) ∧ zval b64 (.fin s c q) = n * ((2 ^ k : Nat) : Int) := by
    intro n k hn hk
    have q1 : b64.qmin = -1074 := by decide
    have q2 : b64.qmax = 971 := by decide
    obtain ⟨c', q', h1, h2⟩ := round_exact good_b64 (decide (n < 0)) (c := n.natAbs) (q := b64.qmin + (k : Int)) (show n.natAbs < 2 ^ b64.p from hn) (by omega) (by omega)
    refine ⟨_, c', q', h1 ▸ round_fits good_b64 _, ?_⟩
    show signed (decide (n < 0)) (inUnits c' q' b64.qmin) = _
    rw [h2]
    unfold inUnits
    rw [signed_mul, show (b64.qmin + (k : Int) - b64.qmin).toNat = k by omega]
    congr 1
    unfold signed
    by_cases h : n < 0 <;> simp [h] <;> omega
  by_cases h : n.natAbs < 2 ^ 53
  · exact key n k h (by omega)
  · have e : n.natAbs = 2 ^ 53 := by omega
    have : ∃ m : Int, n = m * 2 ∧ m.natAbs < 2 ^ 53 := by
      rcases Int.natAbs_eq n with q | q
      · exact ⟨2 ^ 52, by rw [q, e]; decide, by decide⟩
      · exact ⟨-2 ^ 52, by rw [q, e]; decide, by decide⟩
    obtain ⟨m, rfl, hm⟩ := this
    obtain ⟨s, c, q, h1, h2⟩ := key m (k + 1) hm (by omega)
    refine ⟨s, c, q, h1, ?_⟩
    rw [h2, Nat.pow_succ, Int.natCast_mul, Int.mul_assoc]
    congr 1
    rw [Int.mul_comm]; rfl
/-- a number between two finite ones is finite -/
theorem fin_between {a : UInt64} {lo hi : Int} {k : Nat} (hl : lo.natAbs ≤ 2 ^ 53) (hh : hi.natAbs ≤ 2 ^ 53) (hk : k ≤ 2044) (hn : val64 a ≠ .nan) (h1 : lo * ((2 ^ k : Nat) : Int) ≤ zv a) (h2 : zv a ≤ hi * ((2 ^ k : Nat) : Int)) : DB k lo hi a := by
  refine ⟨?_, h1, h2⟩
  obtain ⟨s1, c1, q1, f1, e1⟩ := rep hl hk
  obtain ⟨s2, c2, q2, f2, e2⟩ := rep hh hk
  have t1 : zmag b64 (.fin s1 c1 q1) < b64.tails * 2 ^ (b64.exps - 2) := zmag_lt_top good_b64 f1
  have t2 : zmag b64 (.fin s2 c2 q2) < b64.tails * 2 ^ (b64.exps - 2) := zmag_lt_top good_b64 f2
  rw [← e1] at h1
  rw [← e2] at h2
  unfold zv at h1 h2
  cases hv : val64 a with
  | nan => exact absurd hv hn
  | fin s c q => exact ⟨s, c, q, hv⟩
  | inf s =>
    exfalso
    rw [hv] at h1 h2
    have z : zmag b64 (.inf s) = b64.tails * 2 ^ (b64.exps - 2) := rfl
    unfold zval at h1 h2
    rw [z] at h1 h2
    generalize b64.tails * 2 ^ (b64.exps - 2) = top at *
    generalize zmag b64 (.fin s1 c1 q1) = m1 at *
    generalize zmag b64 (.fin s2 c2 q2) = m2 at *
    simp only [sgn] at h1 h2
    cases s <;> cases s1 <;> cases s2 <;> simp only [signed, if_true, Bool.false_eq_true, if_false] at h1 h2 <;> omega
theorem qmin_sub : ((2 ^ (b64.qmin - b64.qmin).toNat : Nat) : Int) = 1 := by rw [Int.sub_self]; rfl
/-- what lies between two numbers of 53 digits is rounded to something between them -/
theorem round_between {s : Bool} {c : Nat} {q : Int} {lo hi : Int} {k : Nat} {a : UInt64} (ha : val64 a = round b64 (.fin s c q)) (hl : lo.natAbs ≤ 2 ^ 53) (hh : hi.natAbs ≤ 2 ^ 53) (hk : k ≤ 2044) {e0 : Int} (h0 : e0 ≤ b64.qmin) (h0e : e0 ≤ q)
    (h1 : lo * ((2 ^ k : Nat) : Int) * ((2 ^ (b64.qmin - e0).toNat : Nat) : Int) ≤ signed s (inUnits c q e0)) (h2 : signed s (inUnits c q e0) ≤ hi * ((2 ^ k : Nat) : Int) * ((2 ^ (b64.qmin - e0).toNat : Nat) : Int)) : DB k lo hi a := by
  obtain ⟨s1, c1, q1, f1, e1⟩ := rep hl hk
  obtain ⟨s2, c2, q2, f2, e2⟩ := rep hh hk
  have hn : val64 a ≠ .nan := by rw [ha]; exact roundRatio_ne_nan _ _ _ _ _
  refine fin_between hl hh hk hn ?_ ?_
  · unfold zv; rw [ha, ← e1]; exact zval_round_ge good_b64 f1 (by simp) h0 h0e (by rw [e1]; exact h1)
  · unfold zv; rw [ha, ← e2]; exact zval_round_le good_b64 f2 (by simp) h0 h0e (by rw [e2]; exact h2)
theorem add_b {a b : UInt64} {k : Nat} {l1 h1 l2 h2 lo hi : Int} (ha : DB k l1 h1 a) (hb : DB k l2 h2 b) (hlo : lo ≤ l1 + l2) (hhi : h1 + h2 ≤ hi) (hl : lo.natAbs ≤ 2 ^ 53) (hh : hi.natAbs ≤ 2 ^ 53) (hk : k ≤ 2044) : DB k lo hi (FP.dadd a b) := by
  obtain ⟨⟨s, c, q, va⟩, a1, a2⟩ := ha
  obtain ⟨⟨t, d, r, vb⟩, b1, b2⟩ := hb
  have hv := val64_dadd a b
  have fa := val64_fits a
  have fb := val64_fits b
  unfold zv at a1 a2 b1 b2
  rw [va] at hv fa a1 a2
  rw [vb] at hv fb b1 b2
  obtain ⟨sg, n, e, h3, h4, h5⟩ := sum_units fa fb
  rw [h3] at hv
  have hp := pw_pos k
  refine round_between hv hl hh hk (e0 := b64.qmin) (Int.le_refl _) h4 ?_ ?_
  · rw [h5, qmin_sub, Int.mul_one]
    have := Int.mul_le_mul_of_nonneg_right hlo (Int.le_of_lt hp)
    rw [Int.add_mul] at this
    omega
  · rw [h5, qmin_sub, Int.mul_one]
    have := Int.mul_le_mul_of_nonneg_right hhi (Int.le_of_lt hp)
    rw [Int.add_mul] at this
    omega
theorem zv_dneg {a : UInt64} : zv (FP.dneg a) = -zv a := by unfold zv; rw [FP.val64_dneg, zval_negate]
theorem neg_b {a : UInt64} {k : Nat} {lo hi : Int} (ha : DB k lo hi a) : DB k (-hi) (-lo) (FP.dneg a) := by
  refine ⟨?_, ?_, ?_⟩
  · obtain ⟨s, c, q, va⟩ := ha.1
    exact ⟨!s, c, q, by rw [FP.val64_dneg, va]; rfl⟩
  · rw [zv_dneg, Int.neg_mul]; have := ha.2.2; omega
  · rw [zv_dneg, Int.neg_mul]; have := ha.2.1; omega
theorem sub_b {a b : UInt64} {k : Nat} {l1 h1 l2 h2 lo hi : Int} (ha : DB k l1 h1 a) (hb : DB k l2 h2 b) (hlo : lo ≤ l1 - h2) (hhi : h1 - l2 ≤ hi) (hl : lo.natAbs ≤ 2 ^ 53) (hh : hi.natAbs ≤ 2 ^ 53) (hk : k ≤ 2044) : DB k lo hi (FP.dsub a b) := by
  have e : FP.dsub a b = FP.dadd a (FP.dneg b) := by
    rw [FP.dneg_core hb.1.notNaN]; exact dsub_eq a b
  rw [e]
  exact add_b ha (neg_b hb) (by omega) (by omega) hl hh hk
theorem pw_1074 : ((2 ^ (b64.qmin - 2 * b64.qmin).toNat : Nat) : Int) = ((2 ^ 1074 : Nat) : Int) := by
  rw [show (b64.qmin - 2 * b64.qmin).toNat = 1074 by decide]
/-- the exact product of the two lies between -/
theorem mul_z {a b : UInt64} {k : Nat} {lo hi : Int} (fa : DFin a) (fb : DFin b) (h1 : lo * ((2 ^ k : Nat) : Int) * ((2 ^ 1074 : Nat) : Int) ≤ zv a * zv b) (h2 : zv a * zv b ≤ hi * ((2 ^ k : Nat) : Int) * ((2 ^ 1074 : Nat) : Int)) (hl : lo.natAbs ≤ 2 ^ 53) (hh : hi.natAbs ≤ 2 ^ 53) (hk : k ≤ 2044) : DB k lo hi (FP.dmul a b) := by
  obtain ⟨s, c, q, va⟩ := fa
  obtain ⟨t, d, r, vb⟩ := fb
  have hv := val64_dmul a b
  have fa := val64_fits a
  have fb := val64_fits b
  unfold zv at h1 h2
  rw [va] at hv fa h1 h2
  rw [vb] at hv fb h1 h2
  obtain ⟨g1, g2, g3⟩ := product_units fa fb
  rw [g1] at hv
  have e : signed (s != t) (inUnits (c * d) (q + r) (2 * b64.qmin)) = zval b64 (.fin s c q) * zval b64 (.fin t d r) := by
    rw [g3, signed_xor]; rfl
  refine round_between hv hl hh hk (e0 := 2 * b64.qmin) (by decide) g2 ?_ ?_
  · rw [e, pw_1074]; exact h1
  · rw [e, pw_1074]; exact h2
theorem pw_add (a b : Nat) : ((2 ^ (a + b) : Nat) : Int) = ((2 ^ a : Nat) : Int) * ((2 ^ b : Nat) : Int) := by rw [Nat.pow_add, Int.natCast_mul]
theorem mul_e {a b : UInt64} {k k1 k2 : Nat} {i j n : Int} (ha : DE k1 i a) (hb : DE k2 j b) (hk : k1 + k2 = k + 1074) (hn : i * j = n) (hh : n.natAbs ≤ 2 ^ 53) (hk' : k ≤ 2044) : DE k n (FP.dmul a b) := by
  have e : zv a * zv b = n * ((2 ^ k : Nat) : Int) * ((2 ^ 1074 : Nat) : Int) := by
    rw [ha.eq, hb.eq, ← hn, Int.mul_assoc (i * j), ← pw_add, ← hk, pw_add]
    simp only [Int.mul_assoc, Int.mul_left_comm]
  exact mul_z ha.1 hb.1 (Int.le_of_eq e.symm) (Int.le_of_eq e) hh hh hk'
/-- a bounded one times a known one that isn't negative -/
theorem mul_b {a b : UInt64} {k k1 k2 : Nat} {l1 h1 j lo hi : Int} (ha : DB k1 l1 h1 a) (hb : DE k2 j b) (hj : 0 ≤ j) (hk : k1 + k2 = k + 1074) (hlo : lo ≤ l1 * j) (hhi : h1 * j ≤ hi) (hl : lo.natAbs ≤ 2 ^ 53) (hh : hi.natAbs ≤ 2 ^ 53) (hk' : k ≤ 2044) : DB k lo hi (FP.dmul a b) := by
  have p1 := pw_pos k1
  have p2 := pw_pos k2
  have hz : 0 ≤ zv b := by rw [hb.eq]; exact Int.mul_nonneg hj (Int.le_of_lt p2)
  have e : ∀ x : Int, x * j * ((2 ^ k : Nat) : Int) * ((2 ^ 1074 : Nat) : Int) = x * ((2 ^ k1 : Nat) : Int) * zv b := fun x => by
    rw [hb.eq, Int.mul_assoc (x * j), ← pw_add, ← hk, pw_add]
    simp only [Int.mul_assoc, Int.mul_left_comm]
  have up : ∀ {x y : Int}, x ≤ y → x * ((2 ^ k : Nat) : Int) * ((2 ^ 1074 : Nat) : Int) ≤ y * ((2 ^ k : Nat) : Int) * ((2 ^ 1074 : Nat) : Int) := fun h =>
    Int.mul_le_mul_of_nonneg_right (Int.mul_le_mul_of_nonneg_right h (Int.le_of_lt (pw_pos _))) (Int.le_of_lt (pw_pos _))
  refine mul_z ha.1 hb.1 ?_ ?_ hl hh hk'
  · refine Int.le_trans (up hlo) ?_
    rw [e]; exact Int.mul_le_mul_of_nonneg_right ha.2.1 hz
  · refine Int.le_trans ?_ (up hhi)
    rw [e]; exact Int.mul_le_mul_of_nonneg_right ha.2.2 hz
theorem pw3 {A B C D E : Nat} (c : Nat) (h : A + B = C + D + E) : c * 2 ^ A * 2 ^ B = c * 2 ^ C * 2 ^ D * 2 ^ E := by
  rw [Nat.mul_assoc, ← Nat.pow_add, h, Nat.pow_add, Nat.pow_add, ← Nat.mul_assoc, ← Nat.mul_assoc]
theorem ev_aux (V : Int) (n d y : Nat) : V * ((2 ^ n * d : Nat) : Int) * ((2 ^ y : Nat) : Int) = V * ((d * 2 ^ y : Nat) : Int) * ((2 ^ n : Nat) : Int) := by
  rw [Int.natCast_mul, Int.natCast_mul]
  generalize ((2 ^ n : Nat) : Int) = x
  generalize ((2 ^ y : Nat) : Int) = z
  simp only [Int.mul_assoc, Int.mul_comm, Int.mul_left_comm]
/-- the quotient, with signs -/
theorem ratio_le {s : Bool} {A B : Nat} {e e0 : Int} {V : Datum} (hB : 0 < B) (hV : FP.Core.fits b64 V) (hn : V ≠ .nan) (h0 : e0 ≤ b64.qmin) (h0e : e0 ≤ e)
    (h : signed s (inUnits A e e0) ≤ zval b64 V * ((2 ^ (b64.qmin - e0).toNat * B : Nat) : Int)) : zval b64 (roundRatio b64 s A B e) ≤ zval b64 V := by
  have hle := zmag_roundRatio_le good_b64 (s := s) (A := A) hB hV hn h0 h0e
  have hge := zmag_roundRatio_ge good_b64 (s := s) (A := A) hB hV h0 h0e
  rw [Nat.mul_assoc] at hle hge
  have hP : 0 < 2 ^ (b64.qmin - e0).toNat * B := Nat.mul_pos (Nat.two_pow_pos _) hB
  unfold zval at h ⊢
  rw [sgn_roundRatio]
  rw [← signed_mul] at h
  have hz : zmag b64 V * (2 ^ (b64.qmin - e0).toNat * B) = 0 → zmag b64 V = 0 := by
    intro h
    rcases Nat.mul_eq_zero.mp h with h | h <;> omega
  generalize zmag b64 V * (2 ^ (b64.qmin - e0).toNat * B) = vP at *
  generalize sgn V = t at *
  cases s <;> cases t <;> simp only [signed, if_true, Bool.false_eq_true, if_false] at h ⊢
  · have := hle (by omega); omega
  · have := hle (by omega); have := hz (by omega); omega
  · omega
  · have := hge (by omega); omega
theorem ratio_ge {s : Bool} {A B : Nat} {e e0 : Int} {V : Datum} (hB : 0 < B) (hV : FP.Core.fits b64 V) (hn : V ≠ .nan) (h0 : e0 ≤ b64.qmin) (h0e : e0 ≤ e)
    (h : zval b64 V * ((2 ^ (b64.qmin - e0).toNat * B : Nat) : Int) ≤ signed s (inUnits A e e0)) : zval b64 V ≤ zval b64 (roundRatio b64 s A B e) := by
  have h1 := ratio_le (s := !s) (A := A) (B := B) (e := e) (V := negate V) hB (negate_fits hV) (negate_ne_nan hn) h0 h0e (by
    rw [zval_negate, Int.neg_mul]
    have : signed (!s) (inUnits A e e0) = -signed s (inUnits A e e0) := by cases s <;> simp [signed]
    rw [this]; omega)
  rw [zval_negate, ← negate_roundRatio, zval_negate] at h1
  omega
/-- the quotient by a positive number: no NaN, and at the least, at the most, what is so when multiplied back -/
theorem div_zz {a b : UInt64} (fa : DFin a) (fb : DFin b) (hb : 0 < zv b) : val64 (FP.ddiv a b) ≠ .nan ∧
    (∀ {k : Nat} {lo : Int}, lo.natAbs ≤ 2 ^ 53 → k ≤ 2044 → lo * ((2 ^ k : Nat) : Int) * zv b ≤ zv a * ((2 ^ 1074 : Nat) : Int) → lo * ((2 ^ k : Nat) : Int) ≤ zv (FP.ddiv a b)) ∧
    (∀ {k : Nat} {hi : Int}, hi.natAbs ≤ 2 ^ 53 → k ≤ 2044 → zv a * ((2 ^ 1074 : Nat) : Int) ≤ hi * ((2 ^ k : Nat) : Int) * zv b → zv (FP.ddiv a b) ≤ hi * ((2 ^ k : Nat) : Int)) := by
  obtain ⟨s, c, q, va⟩ := fa
  obtain ⟨t, d, r, vb⟩ := fb
  have hv := val64_ddiv a b
  have fa := val64_fits a
  have fb := val64_fits b
  have zea : zv a = zval b64 (.fin s c q) := by unfold zv; rw [va]
  have zeb : zv b = zval b64 (.fin t d r) := by unfold zv; rw [vb]
  rw [zea, zeb]
  rw [zeb] at hb
  rw [va] at hv fa
  rw [vb] at hv fb
  have qn : b64.qmin = -1074 := by decide
  have qx : b64.qmax = 971 := by decide
  have fa2 := fa.2.1
  have fb2 := fb.2.1
  have fb3 := fb.2.2.1
  have zb : zval b64 (.fin t d r) = signed t (d * 2 ^ (r - b64.qmin).toNat) := rfl
  have za : zval b64 (.fin s c q) = signed s (c * 2 ^ (q - b64.qmin).toNat) := rfl
  have hd : 0 < d := by
    refine Nat.pos_of_ne_zero fun e => ?_
    rw [zb, e, Nat.zero_mul, signed_zero] at hb
    omega
  have ht : t = false := by
    cases t with
    | false => rfl
    | true => rw [zb] at hb; simp only [signed, if_true] at hb; omega
  subst ht
  have hq : quotient b64 (.fin s c q) (.fin false d r) = roundRatio b64 s c d (q - r) := by
    show (if d = 0 then _ else roundRatio b64 (s != false) c d (q - r)) = _
    rw [if_neg (by omega)]; cases s <;> rfl
  rw [hq] at hv
  have hn : val64 (Core.ddiv a b) ≠ .nan := by rw [hv]; exact roundRatio_ne_nan _ _ _ _ _
  -- both sides times 2^(r - qmin)
  have hP := pw_pos (r - b64.qmin).toNat
  have ex : signed s (inUnits c (q - r) (2 * b64.qmin)) * ((2 ^ (r - b64.qmin).toNat : Nat) : Int) = zval b64 (.fin s c q) * ((2 ^ 1074 : Nat) : Int) * ((2 ^ 1074 : Nat) : Int) := by
    rw [za, ← signed_mul, ← signed_mul, ← signed_mul]
    exact congrArg (signed s) (pw3 (A := (q - r - 2 * b64.qmin).toNat) (D := 1074) (E := 1074) c (by omega))
  have ev : ∀ V : Int, V * ((2 ^ (b64.qmin - 2 * b64.qmin).toNat * d : Nat) : Int) * ((2 ^ (r - b64.qmin).toNat : Nat) : Int) = V * zval b64 (.fin false d r) * ((2 ^ 1074 : Nat) : Int) := fun V => by
    rw [zb, show (b64.qmin - 2 * b64.qmin).toNat = 1074 by decide]
    exact ev_aux V 1074 d _
  have p1074 := pw_pos 1074
  refine ⟨hn, fun {k lo} hl hk h1 => ?_, fun {k hi} hh hk h2 => ?_⟩
  · obtain ⟨s1, c1, q1, f1, e1⟩ := rep hl hk
    unfold zv; rw [hv, ← e1]
    refine ratio_ge hd f1 (by simp) (e0 := 2 * b64.qmin) (by decide) (by omega) ?_
    refine Int.le_of_mul_le_mul_right ?_ hP
    rw [ev, ex, e1]
    exact Int.mul_le_mul_of_nonneg_right h1 (Int.le_of_lt p1074)
  · obtain ⟨s2, c2, q2, f2, e2⟩ := rep hh hk
    unfold zv; rw [hv, ← e2]
    refine ratio_le hd f2 (by simp) (e0 := 2 * b64.qmin) (by decide) (by omega) ?_
    refine Int.le_of_mul_le_mul_right ?_ hP
    rw [ev, ex, e2]
    exact Int.mul_le_mul_of_nonneg_right h2 (Int.le_of_lt p1074)
/-- between lo and hi -/
theorem div_z {a b : UInt64} {k : Nat} {lo hi : Int} (fa : DFin a) (fb : DFin b) (hb : 0 < zv b) (h1 : lo * ((2 ^ k : Nat) : Int) * zv b ≤ zv a * ((2 ^ 1074 : Nat) : Int)) (h2 : zv a * ((2 ^ 1074 : Nat) : Int) ≤ hi * ((2 ^ k : Nat) : Int) * zv b) (hl : lo.natAbs ≤ 2 ^ 53) (hh : hi.natAbs ≤ 2 ^ 53) (hk : k ≤ 2044) : DB k lo hi (FP.ddiv a b) := by
  obtain ⟨n, ge, le⟩ := div_zz fa fb hb
  exact fin_between hl hh hk n (ge hl hk h1) (le hh hk h2)
/-- the quotient of two known numbers, the second one positive -/
theorem div_b {a b : UInt64} {k k1 k2 : Nat} {i j lo hi : Int} (ha : DE k1 i a) (hb : DE k2 j b) (hj : 0 < j) (hk : k1 + 1074 = k + k2) (hlo : lo * j ≤ i) (hhi : i ≤ hi * j) (hl : lo.natAbs ≤ 2 ^ 53) (hh : hi.natAbs ≤ 2 ^ 53) (hk' : k ≤ 2044) : DB k lo hi (FP.ddiv a b) := by
  have p2 := pw_pos k2
  have e : ∀ x : Int, x * ((2 ^ k : Nat) : Int) * zv b = x * j * ((2 ^ (k1 + 1074) : Nat) : Int) := fun x => by
    rw [hb.eq, hk, pw_add]
    simp only [Int.mul_assoc, Int.mul_left_comm]
  have e2 : zv a * ((2 ^ 1074 : Nat) : Int) = i * ((2 ^ (k1 + 1074) : Nat) : Int) := by rw [ha.eq, pw_add, Int.mul_assoc]
  refine div_z ha.1 hb.1 (by rw [hb.eq]; exact Int.mul_pos hj p2) ?_ ?_ hl hh hk'
  · rw [e, e2]; exact Int.mul_le_mul_of_nonneg_right hlo (Int.le_of_lt (pw_pos _))
  · rw [e, e2]; exact Int.mul_le_mul_of_nonneg_right hhi (Int.le_of_lt (pw_pos _))
theorem div_e {a b : UInt64} {k k1 k2 : Nat} {i j n : Int} (ha : DE k1 i a) (hb : DE k2 j b) (hj : 0 < j) (hk : k1 + 1074 = k + k2) (hn : n * j = i) (hh : n.natAbs ≤ 2 ^ 53) (hk' : k ≤ 2044) : DE k n (FP.ddiv a b) :=
  div_b ha hb hj hk (Int.le_of_eq hn) (Int.le_of_eq hn.symm) hh hh hk'
theorem add_e {a b : UInt64} {k : Nat} {i j n : Int} (ha : DE k i a) (hb : DE k j b) (hn : i + j = n) (hh : n.natAbs ≤ 2 ^ 53) (hk : k ≤ 2044) : DE k n (FP.dadd a b) := add_b ha hb (Int.le_of_eq hn.symm) (Int.le_of_eq hn) hh hh hk
theorem sub_e {a b : UInt64} {k : Nat} {i j n : Int} (ha : DE k i a) (hb : DE k j b) (hn : i - j = n) (hh : n.natAbs ≤ 2 ^ 53) (hk : k ≤ 2044) : DE k n (FP.dsub a b) := sub_b ha hb (Int.le_of_eq hn.symm) (Int.le_of_eq hn) hh hh hk
theorem i2d_e (x : Int32) : DE 1074 x.toInt (FP.i2d x) := DE.of (Core.i2d_fin x) (DInt_zval (i2d_int x))
theorem l2d_e {x : Int64} (h : x.toInt.natAbs ≤ 2 ^ 53) : DE 1074 x.toInt (FP.l2d x) := DE.of (Core.l2d_fin x) (DInt_zval (l2d_int h))
theorem zero_e (k : Nat) : DE k 0 FP.dconst0 := DE.of ⟨_, _, _, rfl⟩ (by rw [Int.zero_mul]; exact zval64_zero)
/-- in smaller units -/
theorem DB.down {a : UInt64} {k : Nat} {lo hi : Int} (h : DB k lo hi a) {k' n : Nat} (hk : k = k' + n) : DB k' (lo * ((2 ^ n : Nat) : Int)) (hi * ((2 ^ n : Nat) : Int)) a := by
  subst hk
  refine ⟨h.1, ?_, ?_⟩
  · have := h.2.1; rw [Nat.add_comm, pw_add, ← Int.mul_assoc] at this; exact this
  · have := h.2.2; rw [Nat.add_comm, pw_add, ← Int.mul_assoc] at this; exact this
/-- the quotient from below alone -/
theorem div_ge {a b : UInt64} {k k1 k2 : Nat} {i j lo : Int} (ha : DE k1 i a) (hb : DE k2 j b) (hj : 0 < j) (hk : k1 + 1074 = k + k2) (hlo : lo * j ≤ i) (hl : lo.natAbs ≤ 2 ^ 53) (hk' : k ≤ 2044) : lo * ((2 ^ k : Nat) : Int) ≤ zv (FP.ddiv a b) := by
  have p2 := pw_pos k2
  have e : ∀ x : Int, x * ((2 ^ k : Nat) : Int) * zv b = x * j * ((2 ^ (k1 + 1074) : Nat) : Int) := fun x => by
    rw [hb.eq, hk, pw_add]
    simp only [Int.mul_assoc, Int.mul_left_comm]
  have e2 : zv a * ((2 ^ 1074 : Nat) : Int) = i * ((2 ^ (k1 + 1074) : Nat) : Int) := by rw [ha.eq, pw_add, Int.mul_assoc]
  refine (div_zz ha.1 hb.1 (by rw [hb.eq]; exact Int.mul_pos hj p2)).2.1 hl hk' ?_
  rw [e, e2]; exact Int.mul_le_mul_of_nonneg_right hlo (Int.le_of_lt (pw_pos _))
/-- in greater units -/
theorem DB.up {a : UInt64} {k : Nat} {lo hi : Int} {n : Nat} (h : DB k (lo * ((2 ^ n : Nat) : Int)) (hi * ((2 ^ n : Nat) : Int)) a) : DB (k + n) lo hi a := by
  refine ⟨h.1, ?_, ?_⟩
  · have := h.2.1; rw [Int.mul_assoc, ← pw_add, Nat.add_comm] at this; exact this
  · have := h.2.2; rw [Int.mul_assoc, ← pw_add, Nat.add_comm] at this; exact this
/-- the product of two known numbers, between two that lie on a grid 2^g times as coarse -/
theorem mul_g {a b : UInt64} {k k1 k2 g : Nat} {i j lo hi : Int} (ha : DE k1 i a) (hb : DE k2 j b) (hk : k1 + k2 + g = k + 1074) (hlo : lo * ((2 ^ g : Nat) : Int) ≤ i * j) (hhi : i * j ≤ hi * ((2 ^ g : Nat) : Int)) (hl : lo.natAbs ≤ 2 ^ 53) (hh : hi.natAbs ≤ 2 ^ 53) (hk' : k ≤ 2044) : DB k lo hi (FP.dmul a b) := by
  have e : zv a * zv b = i * j * ((2 ^ (k1 + k2) : Nat) : Int) := by
    rw [ha.eq, hb.eq, pw_add]
    simp only [Int.mul_assoc, Int.mul_left_comm]
  have e2 : ∀ x : Int, x * ((2 ^ k : Nat) : Int) * ((2 ^ 1074 : Nat) : Int) = x * ((2 ^ g : Nat) : Int) * ((2 ^ (k1 + k2) : Nat) : Int) := fun x => by
    rw [Int.mul_assoc, ← pw_add, ← hk, Nat.add_comm, pw_add, ← Int.mul_assoc]
  refine mul_z ha.1 hb.1 ?_ ?_ hl hh hk'
  · rw [e, e2]; exact Int.mul_le_mul_of_nonneg_right hlo (Int.le_of_lt (pw_pos _))
  · rw [e, e2]; exact Int.mul_le_mul_of_nonneg_right hhi (Int.le_of_lt (pw_pos _))
theorem DB.wide {a : UInt64} {k : Nat} {lo hi lo' hi' : Int} (h : DB k lo hi a) (h1 : lo' ≤ lo) (h2 : hi ≤ hi') : DB k lo' hi' a :=
  ⟨h.1, Int.le_trans (Int.mul_le_mul_of_nonneg_right h1 (Int.le_of_lt (pw_pos k))) h.2.1, Int.le_trans h.2.2 (Int.mul_le_mul_of_nonneg_right h2 (Int.le_of_lt (pw_pos k)))⟩
theorem DE.cmp {a b : UInt64} {k : Nat} {i j : Int} (ha : DE k i a) (hb : DE k j b) : FP.dcmp a b = some (compare i j) := by
  rw [show FP.dcmp a b = some (compare (zv a) (zv b)) from dcmp_zval ha.ne hb.ne, ha.eq, hb.eq, compare_mul_pos _ _ _ (pw_pos k)]
theorem DB.lt {a b : UInt64} {k : Nat} {l1 h1 l2 h2 : Int} (ha : DB k l1 h1 a) (hb : DB k l2 h2 b) (h : h1 < l2) : FP.dcmp a b = some .lt := by
  rw [show FP.dcmp a b = some (compare (zv a) (zv b)) from dcmp_zval ha.ne hb.ne]
  congr 1
  rw [compare_lt_iff]
  have := Int.mul_lt_mul_of_pos_right h (pw_pos k)
  have := ha.2.2; have := hb.2.1
  omega
theorem DB.gt {a b : UInt64} {k : Nat} {l1 h1 l2 h2 : Int} (ha : DB k l1 h1 a) (hb : DB k l2 h2 b) (h : h2 < l1) : FP.dcmp a b = some .gt := by
  rw [show FP.dcmp a b = some (compare (zv a) (zv b)) from dcmp_zval ha.ne hb.ne]
  congr 1
  rw [compare_gt_iff]
  have := Int.mul_lt_mul_of_pos_right h (pw_pos k)
  have := ha.2.1; have := hb.2.2
  omega
/-- two doubles of one value that isn't nought are one -/
theorem DE.uniq {a b : UInt64} {k : Nat} {i : Int} (ha : DE k i a) (hb : DE k i b) (hi : i ≠ 0) : a = b := by
  have h1 := dcmp_key ha.ne hb.ne
  rw [dcmp_zval ha.ne hb.ne] at h1
  have e : zval b64 (val64 a) = zval b64 (val64 b) := (ha.eq).trans hb.eq.symm
  have h2 := Option.some.inj h1
  rw [(compare_eq_iff _ _).mpr e] at h2
  have h3 := (compare_eq_iff _ _).mp h2.symm
  have nz : ∀ {c : UInt64}, DE k i c → dkey c ≠ 0 := fun {c} hc h0 => by
    have q := dcmp_key hc.ne (b := 0) (by rw [val64_zero]; simp)
    rw [dcmp_zval hc.ne (by rw [val64_zero]; simp), zval64_zero] at q
    have q2 := Option.some.inj q
    have z : dkey 0 = 0 := by decide
    rw [h0, z, (compare_eq_iff (0 : Int) 0).mpr rfl] at q2
    have q3 := (compare_eq_iff _ _).mp q2
    have q4 : zv c = 0 := q3
    rw [hc.eq] at q4
    rcases Int.mul_eq_zero.mp q4 with q5 | q5
    · exact hi q5
    · have := pw_pos k; omega
  have n1 := nz ha
  have n2 := nz hb
  unfold dkey at h3 n1 n2
  apply UInt64.toNat_inj.mp
  have l1 := a.toNat_lt; have l2 := b.toNat_lt
  split at h3 <;> split at h3 <;> simp_all <;> omega
end Jvm.Pilot.@@N@@.Own
namespace Jvm.Pilot.@@N@@.Own
open Jvm Jvm.ClassFile Sem Op Lib Jvm.Free Jvm.Stand Jvm.LawKit Jvm.RoadKit
theorem ishl_v {tb : Tables} [Ours tb] {e : Env} {below : List Frame} {T target : State} {m : MethodId} {c : Code} {g : JFrame} (h : At T m c below) (hx : tb.exec = Jvm.exec) (hg : g.method = m) {x : Int32} {y : Int32} {v : Int32} {rest : List Value} (hd : decode c.code g.pc = .ok (.ishl, 1)) (hs : g.stack = .int y :: .int x :: rest) (hv : (x <<< (y &&& 31)) = v)
    (hr : Steps tb e below (T.setTop { g with pc := g.pc + 1, stack := .int v :: rest }) target) : Steps tb e below (T.setTop g) target := by subst hv; exact XS.ishl h hx hg hd hs hr
theorem iand_v {tb : Tables} [Ours tb] {e : Env} {below : List Frame} {T target : State} {m : MethodId} {c : Code} {g : JFrame} (h : At T m c below) (hx : tb.exec = Jvm.exec) (hg : g.method = m) {x : Int32} {y : Int32} {v : Int32} {rest : List Value} (hd : decode c.code g.pc = .ok (.iand, 1)) (hs : g.stack = .int y :: .int x :: rest) (hv : x &&& y = v)
    (hr : Steps tb e below (T.setTop { g with pc := g.pc + 1, stack := .int v :: rest }) target) : Steps tb e below (T.setTop g) target := by subst hv; exact XS.iand h hx hg hd hs hr
theorem ior_v {tb : Tables} [Ours tb] {e : Env} {below : List Frame} {T target : State} {m : MethodId} {c : Code} {g : JFrame} (h : At T m c below) (hx : tb.exec = Jvm.exec) (hg : g.method = m) {x : Int32} {y : Int32} {v : Int32} {rest : List Value} (hd : decode c.code g.pc = .ok (.ior, 1)) (hs : g.stack = .int y :: .int x :: rest) (hv : x ||| y = v)
    (hr : Steps tb e below (T.setTop { g with pc := g.pc + 1, stack := .int v :: rest }) target) : Steps tb e below (T.setTop g) target := by subst hv; exact XS.ior h hx hg hd hs hr
theorem i2c_v {tb : Tables} [Ours tb] {e : Env} {below : List Frame} {T target : State} {m : MethodId} {c : Code} {g : JFrame} (h : At T m c below) (hx : tb.exec = Jvm.exec) (hg : g.method = m) {x : Int32} {v : Int32} {rest : List Value} (hd : decode c.code g.pc = .ok (.i2c, 1)) (hs : g.stack = .int x :: rest) (hv : x.toUInt32.toUInt16.toUInt32.toInt32 = v)
    (hr : Steps tb e below (T.setTop { g with pc := g.pc + 1, stack := .int v :: rest }) target) : Steps tb e below (T.setTop g) target := by subst hv; exact XS.i2c h hx hg hd hs hr
theorem isub_v {tb : Tables} [Ours tb] {e : Env} {below : List Frame} {T target : State} {m : MethodId} {c : Code} {g : JFrame} (h : At T m c below) (hx : tb.exec = Jvm.exec) (hg : g.method = m) {x : Int32} {y : Int32} {v : Int32} {rest : List Value} (hd : decode c.code g.pc = .ok (.isub, 1)) (hs : g.stack = .int y :: .int x :: rest) (hv : x - y = v)
    (hr : Steps tb e below (T.setTop { g with pc := g.pc + 1, stack := .int v :: rest }) target) : Steps tb e below (T.setTop g) target := by subst hv; exact XS.isub h hx hg hd hs hr
theorem ishr_v {tb : Tables} [Ours tb] {e : Env} {below : List Frame} {T target : State} {m : MethodId} {c : Code} {g : JFrame} (h : At T m c below) (hx : tb.exec = Jvm.exec) (hg : g.method = m) {x : Int32} {y : Int32} {v : Int32} {rest : List Value} (hd : decode c.code g.pc = .ok (.ishr, 1)) (hs : g.stack = .int y :: .int x :: rest) (hv : (x >>> (y &&& 31)) = v)
    (hr : Steps tb e below (T.setTop { g with pc := g.pc + 1, stack := .int v :: rest }) target) : Steps tb e below (T.setTop g) target := by subst hv; exact XS.ishr h hx hg hd hs hr
theorem i2b_v {tb : Tables} [Ours tb] {e : Env} {below : List Frame} {T target : State} {m : MethodId} {c : Code} {g : JFrame} (h : At T m c below) (hx : tb.exec = Jvm.exec) (hg : g.method = m) {x : Int32} {v : Int32} {rest : List Value} (hd : decode c.code g.pc = .ok (.i2b, 1)) (hs : g.stack = .int x :: rest) (hv : x.toInt8.toInt32 = v)
    (hr : Steps tb e below (T.setTop { g with pc := g.pc + 1, stack := .int v :: rest }) target) : Steps tb e below (T.setTop g) target := by subst hv; exact XS.i2b h hx hg hd hs hr
theorem iushr_v {tb : Tables} [Ours tb] {e : Env} {below : List Frame} {T target : State} {m : MethodId} {c : Code} {g : JFrame} (h : At T m c below) (hx : tb.exec = Jvm.exec) (hg : g.method = m) {x : Int32} {y : Int32} {v : Int32} {rest : List Value} (hd : decode c.code g.pc = .ok (.iushr, 1)) (hs : g.stack = .int y :: .int x :: rest) (hv : ((x.toUInt32 >>> (y &&& 31).toUInt32).toInt32) = v)
    (hr : Steps tb e below (T.setTop { g with pc := g.pc + 1, stack := .int v :: rest }) target) : Steps tb e below (T.setTop g) target := by subst hv; exact XS.iushr h hx hg hd hs hr
theorem imul_v {tb : Tables} [Ours tb] {e : Env} {below : List Frame} {T target : State} {m : MethodId} {c : Code} {g : JFrame} (h : At T m c below) (hx : tb.exec = Jvm.exec) (hg : g.method = m) {x : Int32} {y : Int32} {v : Int32} {rest : List Value} (hd : decode c.code g.pc = .ok (.imul, 1)) (hs : g.stack = .int y :: .int x :: rest) (hv : x * y = v)
    (hr : Steps tb e below (T.setTop { g with pc := g.pc + 1, stack := .int v :: rest }) target) : Steps tb e below (T.setTop g) target := by subst hv; exact XS.imul h hx hg hd hs hr
theorem lushr_v {tb : Tables} [Ours tb] {e : Env} {below : List Frame} {T target : State} {m : MethodId} {c : Code} {g : JFrame} (h : At T m c below) (hx : tb.exec = Jvm.exec) (hg : g.method = m) {x : Int64} {y : Int32} {v : Int64} {rest : List Value} (hd : decode c.code g.pc = .ok (.lushr, 1)) (hs : g.stack = .int y :: .long x :: rest) (hv : ((x.toUInt64 >>> (y &&& 0x3f).toInt64.toUInt64).toInt64) = v)
    (hr : Steps tb e below (T.setTop { g with pc := g.pc + 1, stack := .long v :: rest }) target) : Steps tb e below (T.setTop g) target := by subst hv; exact XS.lushr h hx hg hd hs hr
theorem land_v {tb : Tables} [Ours tb] {e : Env} {below : List Frame} {T target : State} {m : MethodId} {c : Code} {g : JFrame} (h : At T m c below) (hx : tb.exec = Jvm.exec) (hg : g.method = m) {x : Int64} {y : Int64} {v : Int64} {rest : List Value} (hd : decode c.code g.pc = .ok (.land, 1)) (hs : g.stack = .long y :: .long x :: rest) (hv : x &&& y = v)
    (hr : Steps tb e below (T.setTop { g with pc := g.pc + 1, stack := .long v :: rest }) target) : Steps tb e below (T.setTop g) target := by subst hv; exact XS.land h hx hg hd hs hr
theorem l2i_v {tb : Tables} [Ours tb] {e : Env} {below : List Frame} {T target : State} {m : MethodId} {c : Code} {g : JFrame} (h : At T m c below) (hx : tb.exec = Jvm.exec) (hg : g.method = m) {x : Int64} {v : Int32} {rest : List Value} (hd : decode c.code g.pc = .ok (.l2i, 1)) (hs : g.stack = .long x :: rest) (hv : x.toInt32 = v)
    (hr : Steps tb e below (T.setTop { g with pc := g.pc + 1, stack := .int v :: rest }) target) : Steps tb e below (T.setTop g) target := by subst hv; exact XS.l2i h hx hg hd hs hr
theorem iadd_v {tb : Tables} [Ours tb] {e : Env} {below : List Frame} {T target : State} {m : MethodId} {c : Code} {g : JFrame} (h : At T m c below) (hx : tb.exec = Jvm.exec) (hg : g.method = m) {x : Int32} {y : Int32} {v : Int32} {rest : List Value} (hd : decode c.code g.pc = .ok (.iadd, 1)) (hs : g.stack = .int y :: .int x :: rest) (hv : x + y = v)
    (hr : Steps tb e below (T.setTop { g with pc := g.pc + 1, stack := .int v :: rest }) target) : Steps tb e below (T.setTop g) target := by subst hv; exact XS.iadd h hx hg hd hs hr
theorem irem_v {tb : Tables} [Ours tb] {e : Env} {below : List Frame} {T target : State} {m : MethodId} {c : Code} {g : JFrame} (h : At T m c below) (hx : tb.exec = Jvm.exec) (hg : g.method = m) {x : Int32} {y : Int32} {v : Int32} {rest : List Value} (hd : decode c.code g.pc = .ok (.irem, 1)) (hs : g.stack = .int y :: .int x :: rest) (hy : ¬ y = 0) (hv : x % y = v)
    (hr : Steps tb e below (T.setTop { g with pc := g.pc + 1, stack := .int v :: rest }) target) : Steps tb e below (T.setTop g) target := by subst hv; exact XS.irem h hx hg hd hs hy (by rw [irem_eq_mod]; exact hr)
end Jvm.Pilot.@@N@@.Own
namespace Jvm.Pilot.@@N@@.Own
open Jvm Jvm.ClassFile Jvm.RoadKit
theorem ns0_ {h : Heap} : ∀ x ∈ ([] : List Addr), ∀ cell : Cell, h[x]? = some cell → cell.vm.isStatics = false := fun x hx => absurd hx (by simp)
theorem nsX {h : Heap} {a : Addr} {ws : List Addr} (h1 : ∀ cell : Cell, h[a]? = some cell → cell.vm.isStatics = false) (h2 : ∀ x ∈ ws, ∀ cell : Cell, h[x]? = some cell → cell.vm.isStatics = false) : ∀ x ∈ a :: ws, ∀ cell : Cell, h[x]? = some cell → cell.vm.isStatics = false := fun x hx => by
  rcases List.mem_cons.mp hx with rfl | hx
  · exact h1
  · exact h2 x hx
/-- a static's value over a call that writes no statics -/
theorem Sta_keepX {Z : State} {h h' : Heap} {C n d : String} {v : Value} {ws : List Addr} (F : Sta Z h C n d v) (K : Keep h h' ws) (hns : ∀ x ∈ ws, ∀ cell : Cell, h[x]? = some cell → cell.vm.isStatics = false) : Sta Z h' C n d v := by
  obtain ⟨cf, i, k, f, st, cell, h1, h2, h3, h4, h5, h6, r⟩ := F
  exact ⟨cf, i, k, f, st, cell, h1, h2, h3, h4, K.2.1 st cell h5 (fun hx => by have := hns st hx cell h5; rw [h6] at this; cases this), h6, r⟩
/-- the cache of small Integers: two of its places -/
def Cach (Z : State) (h : Heap) (ca w0 w1 : Addr) : Prop := ∃ cl : Cell, Arr Z h ca cl (.object "java/lang/Integer") ∧ cl.slots.size = 256 ∧ cl.slots[128]? = some (.ref w0) ∧ cl.slots[129]? = some (.ref w1)
theorem Cach_keep {Z : State} {h h' : Heap} {ca w0 w1 : Addr} {ws : List Addr} (F : Cach Z h ca w0 w1) (K : Keep h h' ws) (q : ca ∉ ws) : Cach Z h' ca w0 w1 := by
  obtain ⟨cl, A, r⟩ := F
  exact ⟨cl, ⟨K.2.1 ca cl A.1 q, A.2⟩, r⟩
end Jvm.Pilot.@@N@@.Own
namespace Jvm.Pilot.@@N@@.Own
open Jvm Jvm.ClassFile Jvm.RoadKit
def Hi (c : Int32) : Prop := 55296 ≤ c.toInt ∧ c.toInt < 56320
def Lo (c : Int32) : Prop := 56320 ≤ c.toInt ∧ c.toInt < 57344
instance (c : Int32) : Decidable (Hi c) := by unfold Hi; infer_instance
instance (c : Int32) : Decidable (Lo c) := by unfold Lo; infer_instance
/-- the code points of a list of chars -/
def cpc : List Int32 → Int
  | [] => 0
  | [_] => 1
  | a :: b :: t => if Hi a ∧ Lo b then 1 + cpc t else 1 + cpc (b :: t)
/-- the i-th bit -/
def bit (s : Int32) (i : Nat) : Int := (s.toInt % 4294967296) / (2 ^ i : Nat) % 2
theorem bit01 (s : Int32) (i : Nat) : bit s i = 0 ∨ bit s i = 1 := by unfold bit; omega
/-- the char at place i: by its bit a surrogate (high at the even, low at the odd places) or a small one -/
def Ok (s : Int32) (i : Nat) (c : Int32) : Prop := (bit s i = 0 ∧ 0 ≤ c.toInt ∧ c.toInt ≤ 255) ∨ (bit s i = 1 ∧ i % 2 = 0 ∧ 55296 ≤ c.toInt ∧ c.toInt ≤ 55551) ∨ (bit s i = 1 ∧ i % 2 = 1 ∧ 56320 ≤ c.toInt ∧ c.toInt ≤ 56575)
def AllOk (s : Int32) : Nat → List Int32 → Prop
  | _, [] => True
  | i, c :: t => Ok s i c ∧ AllOk s (i + 1) t
def pr (s : Int32) (i : Nat) : Int := if bit s i = 1 ∧ bit s (i + 1) = 1 then 1 else 0
def plN (s : Int32) : Nat → Nat → Int
  | _, 0 => 0
  | _, 1 => 0
  | i, n + 2 => pr s i + plN s (i + 2) n
theorem cpc_notHi {b : Int32} (h : ¬ Hi b) : ∀ t, cpc (b :: t) = 1 + cpc t
  | [] => rfl
  | c :: t => by rw [cpc, if_neg (fun q => h q.1)]
theorem Ok.hi {s : Int32} {i : Nat} {c : Int32} (h : Ok s i c) (e : i % 2 = 0) : Hi c ↔ bit s i = 1 := by
  unfold Ok at h; unfold Hi; omega
theorem Ok.lo {s : Int32} {i : Nat} {c : Int32} (h : Ok s i c) (e : i % 2 = 1) : Lo c ↔ bit s i = 1 := by
  unfold Ok at h; unfold Lo; omega
theorem Ok.nothi {s : Int32} {i : Nat} {c : Int32} (h : Ok s i c) (e : i % 2 = 1) : ¬ Hi c := by
  unfold Ok at h; unfold Hi; omega
theorem cpc_law (s : Int32) : ∀ (l : List Int32) (i : Nat), i % 2 = 0 → AllOk s i l → cpc l = (l.length : Int) - plN s i l.length
  | [], _, _, _ => rfl
  | [_], _, _, _ => rfl
  | a :: b :: t, i, e, h => by
    obtain ⟨h1, h2, h3⟩ := h
    have ih := cpc_law s t (i + 2) (by omega) h3
    have q1 := h1.hi e
    have q2 := h2.lo (by omega)
    have q3 := h2.nothi (by omega)
    show (if Hi a ∧ Lo b then 1 + cpc t else 1 + cpc (b :: t)) = ((t.length + 2 : Nat) : Int) - (pr s i + plN s (i + 2) t.length)
    unfold pr
    by_cases q : Hi a ∧ Lo b
    · rw [if_pos q, if_pos ⟨q1.mp q.1, q2.mp q.2⟩]; omega
    · rw [if_neg q, if_neg (fun z => q ⟨q1.mpr z.1, q2.mpr z.2⟩), cpc_notHi q3]; omega
/-- the law's own sum over six places -/
def pj (s : Int32) (n j : Nat) : Int := if 2 * j + 1 < n then pr s (2 * j) else 0
theorem plN_sum (s : Int32) (n : Nat) (h : n ≤ 12) : plN s 0 n = pj s n 0 + pj s n 1 + pj s n 2 + pj s n 3 + pj s n 4 + pj s n 5 := by
  rcases n with _ | _ | _ | _ | _ | _ | _ | _ | _ | _ | _ | _ | _ | n <;> first | (simp [plN, pj]; done) | (simp [plN, pj]; omega)
/-- a char's two bytes, as putChar lays them -/
def lo8 (c : Int32) : Int32 := nar .byte ((c >>> ((0 : Int32) &&& 31)).toInt8.toInt32)
def hi8 (c : Int32) : Int32 := nar .byte ((c >>> ((8 : Int32) &&& 31)).toInt8.toInt32)
theorem lo8_v (c : Int32) (h : 0 ≤ c.toInt ∧ c.toInt < 65536) : (lo8 c &&& (255 : Int32)).toInt = c.toInt % 256 := by
  have f1 := c_mask (lo8 c) (255 : Int32) 8 (by decide) rfl
  have f2 := c_ishr c (0 : Int32) 0 rfl
  have f3 := c_i2b (c >>> ((0 : Int32) &&& 31))
  have f4 := c_i2b (c >>> ((0 : Int32) &&& 31)).toInt8.toInt32
  rw [f1]
  show (((c >>> ((0 : Int32) &&& 31)).toInt8.toInt32).toInt8.toInt32).toInt % _ = _
  omega
theorem hi8_v (c : Int32) (h : 0 ≤ c.toInt ∧ c.toInt < 65536) : (hi8 c &&& (255 : Int32)).toInt = c.toInt / 256 := by
  have f1 := c_mask (hi8 c) (255 : Int32) 8 (by decide) rfl
  have f2 := c_ishr c (8 : Int32) 8 rfl
  have f3 := c_i2b (c >>> ((8 : Int32) &&& 31))
  have f4 := c_i2b (c >>> ((8 : Int32) &&& 31)).toInt8.toInt32
  rw [f1]
  show (((c >>> ((8 : Int32) &&& 31)).toInt8.toInt32).toInt8.toInt32).toInt % _ = _
  omega
/-- what getChar makes of them is the char -/
theorem glue (c : Int32) (h : 0 ≤ c.toInt ∧ c.toInt < 65536) : ((((lo8 c &&& (255 : Int32)) <<< ((0 : Int32) &&& 31)) ||| ((hi8 c &&& (255 : Int32)) <<< ((8 : Int32) &&& 31))).toUInt32.toUInt16.toUInt32.toInt32) = c := by
  have a := lo8_v c h
  have b := hi8_v c h
  obtain ⟨x, hx⟩ : ∃ x, lo8 c &&& (255 : Int32) = x := ⟨_, rfl⟩
  obtain ⟨y, hy⟩ : ∃ y, hi8 c &&& (255 : Int32) = y := ⟨_, rfl⟩
  rw [hx] at a ⊢
  rw [hy] at b ⊢
  have f1 := c_ishl x (0 : Int32) 0 rfl
  have f2 := c_ishl y (8 : Int32) 8 rfl
  obtain ⟨u, hu⟩ : ∃ u, x <<< ((0 : Int32) &&& 31) = u := ⟨_, rfl⟩
  obtain ⟨v, hv⟩ : ∃ v, y <<< ((8 : Int32) &&& 31) = v := ⟨_, rfl⟩
  rw [hu] at f1 ⊢
  rw [hv] at f2 ⊢
  have r1 := rng32 u
  have r2 := rng32 v
  have v1 : u.toInt = c.toInt % 256 := by omega
  have v2 : v.toInt = c.toInt / 256 * 256 := by omega
  have f3 := c_or' u v 8 (by decide) 256 rfl (by omega) (by omega) (by omega)
  obtain ⟨w, hw⟩ : ∃ w, u ||| v = w := ⟨_, rfl⟩
  rw [hw] at f3 ⊢
  have r3 := rng32 w
  have f4 := c_i2c w
  exact Int32.toInt_inj.mp (by omega)
/-- the bytes of a list of chars -/
def enc (cs : List Int32) : List Value := cs.flatMap fun c => [.int (lo8 c), .int (hi8 c)]
theorem enc_len : ∀ cs, (enc cs).length = 2 * cs.length
  | [] => rfl
  | c :: t => by show (enc t).length + 1 + 1 = _; rw [enc_len t]; show _ = 2 * (t.length + 1); omega
theorem enc_lo : ∀ (cs : List Int32) (k : Nat) (d : Value), k < cs.length → (enc cs).getD (2 * k) d = .int (lo8 (cs.getD k 0))
  | c :: t, 0, _, _ => rfl
  | c :: t, k + 1, d, h => by rw [show 2 * (k + 1) = 2 * k + 1 + 1 by omega]; exact enc_lo t k d (by simpa using h)
theorem enc_hi : ∀ (cs : List Int32) (k : Nat) (d : Value), k < cs.length → (enc cs).getD (2 * k + 1) d = .int (hi8 (cs.getD k 0))
  | c :: t, 0, _, _ => rfl
  | c :: t, k + 1, d, h => by rw [show 2 * (k + 1) + 1 = 2 * k + 1 + 1 + 1 by omega]; exact enc_hi t k d (by simpa using h)
theorem drop2 (cs : List Int32) (k : Nat) (h : k + 1 < cs.length) : cs.drop k = cs.getD k 0 :: cs.drop (k + 1) ∧ cs.drop (k + 1) = cs.getD (k + 1) 0 :: cs.drop (k + 2) := by
  refine ⟨?_, ?_⟩
  · rw [List.drop_eq_getElem_cons (by omega)]; simp [List.getD, List.getElem?_eq_getElem (show k < cs.length by omega)]
  · rw [List.drop_eq_getElem_cons h]; simp [List.getD, List.getElem?_eq_getElem h]
theorem drop_end (cs : List Int32) (k : Nat) (h : cs.length ≤ k + 1) (h2 : k ≤ cs.length) : cpc (cs.drop k) = (cs.length : Int) - k := by
  have hl : (cs.drop k).length = cs.length - k := List.length_drop
  match hd : cs.drop k, hl with
  | [], hl => have : cs.length - k = 0 := hl.symm; show (0 : Int) = _; omega
  | [_], hl => have : cs.length - k = 1 := hl.symm; show (1 : Int) = _; omega
  | _ :: _ :: _, hl => simp at hl; omega
theorem cpc_le : ∀ l : List Int32, cpc l ≤ l.length
  | [] => Int.le_refl _
  | [_] => Int.le_refl _
  | a :: b :: t => by
    have h1 := cpc_le t
    have h2 := cpc_le (b :: t)
    rw [List.length_cons] at h2
    rw [cpc, List.length_cons, List.length_cons]
    split <;> omega
theorem cpc_ge : ∀ l : List Int32, 0 ≤ cpc l
  | [] => Int.le_refl _
  | [_] => by show (0 : Int) ≤ 1; decide
  | a :: b :: t => by
    have h1 := cpc_ge t
    have h2 := cpc_ge (b :: t)
    rw [cpc]
    split <;> omega
theorem map_getD : ∀ (cs : List Int32) (k : Nat) (d : Value), k < cs.length → (cs.map Value.int).getD k d = .int (cs.getD k 0)
  | c :: t, 0, _, _ => rfl
  | c :: t, k + 1, d, h => map_getD t k d (by simpa using h)
/-- the first k chars' bytes, then noughts -/
def tk (cs : List Int32) (k : Nat) : List Value := enc (cs.take k) ++ List.replicate (2 * (cs.length - k)) (.int 0)
theorem tk_cons (c : Int32) (t : List Int32) (k : Nat) : tk (c :: t) (k + 1) = .int (lo8 c) :: .int (hi8 c) :: tk t k := by
  unfold tk
  rw [List.take_succ_cons, List.length_cons, show t.length + 1 - (k + 1) = t.length - k by omega]
  rfl
theorem tk_set : ∀ (cs : List Int32) (k : Nat), k < cs.length → ((tk cs k).set (2 * k) (.int (lo8 (cs.getD k 0)))).set (2 * k + 1) (.int (hi8 (cs.getD k 0))) = tk cs (k + 1)
  | c :: t, 0, _ => by
    rw [tk_cons]
    unfold tk
    rw [List.take_zero, List.length_cons, show 2 * (t.length + 1 - 0) = 2 * t.length + 1 + 1 by omega]
    simp [enc, List.replicate_succ]
  | c :: t, k + 1, h => by
    rw [tk_cons, tk_cons, show 2 * (k + 1) + 1 = 2 * k + 1 + 1 + 1 by omega, show 2 * (k + 1) = 2 * k + 1 + 1 by omega]
    show _ :: _ :: (((tk t k).set (2 * k) (.int (lo8 (t.getD k 0)))).set (2 * k + 1) (.int (hi8 (t.getD k 0)))) = _
    rw [tk_set t k (by simpa using h)]
theorem tk_len (cs : List Int32) (k : Nat) (h : k ≤ cs.length) : (tk cs k).length = 2 * cs.length := by
  unfold tk
  rw [List.length_append, enc_len, List.length_take, List.length_replicate]
  omega
theorem tk_zero (cs : List Int32) : tk cs 0 = List.replicate (2 * cs.length) (.int 0) := by unfold tk; simp [enc]
theorem tk_all (cs : List Int32) : tk cs cs.length = enc cs := by unfold tk; simp
theorem lt32 {a b : Int32} (h : a.toInt < b.toInt) : a < b := Int32.lt_iff_toInt_lt.mpr h
theorem nlt32 {a : Int32} (h : 0 ≤ a.toInt) : ¬ a < 0 := fun q => by have q2 := Int32.lt_iff_toInt_lt.mp q; have z0 : (0 : Int32).toInt = 0 := rfl; omega
theorem cl32 {a : Int32} {k : Nat} (h : a.toInt = (k : Int)) : a.toNatClampNeg = k := by show a.toInt.toNat = _; omega
theorem all_getD {cs : List Int32} {P : Int32 → Prop} (h : ∀ j, j < cs.length → P (cs.getD j 0)) : ∀ x ∈ cs, P x := fun x hx => by
  obtain ⟨j, hj, rfl⟩ := List.getElem_of_mem hx
  have := h j hj
  simpa [List.getD, List.getElem?_eq_getElem hj] using this
theorem push_map : ∀ (cs : List Int32) (c : Int32) (k : Nat), cs.length = k → (cs.map Value.int ++ List.replicate 1 (Value.int (0 : Int32))).set k (.int c) = (cs ++ [c]).map Value.int := fun cs c k h => by
  subst h
  rw [List.set_append_right _ _ (by simp)]
  simp
theorem allok_push (s : Int32) : ∀ (cs : List Int32) (i : Nat) (c : Int32), AllOk s i cs → Ok s (i + cs.length) c → AllOk s i (cs ++ [c])
  | [], i, c, _, h => ⟨by simpa using h, trivial⟩
  | a :: t, i, c, h, h2 => ⟨h.1, allok_push s t (i + 1) c h.2 (by rw [List.length_cons] at h2; rw [show i + 1 + t.length = i + (t.length + 1) by omega]; exact h2)⟩
theorem cpc_small : ∀ (cs : List Int32), (∀ x ∈ cs, x.toInt ≤ 255) → cpc cs = cs.length
  | [], _ => rfl
  | a :: t, h => by
    rw [cpc_notHi (fun q => by have := h a List.mem_cons_self; unfold Hi at q; omega), cpc_small t (fun x hx => h x (List.mem_cons_of_mem _ hx)), List.length_cons]
    omega
theorem ushr0 (x : Int32) : ((x.toUInt32 >>> ((0 : Int32) &&& 31).toUInt32).toInt32).toInt = x.toInt := by
  have : x.toUInt32 >>> ((0 : Int32) &&& 31).toUInt32 = x.toUInt32 := by
    rw [show ((0 : Int32) &&& 31).toUInt32 = 0 from rfl]
    apply UInt32.toNat_inj.mp
    simp
  rw [this]
  rfl
theorem nar_c {x : Int32} (h : 0 ≤ x.toInt ∧ x.toInt < 65536) : narrow .char (.int x) = .int x := by
  show Value.int (x.toUInt32.toUInt16.toUInt32.toInt32) = _
  have f := c_i2c x
  exact congrArg Value.int (Int32.toInt_inj.mp (by omega))
theorem mem_getD (cs : List Int32) (k : Nat) (h : k < cs.length) : cs.getD k 0 ∈ cs := by
  simp [List.getD, List.getElem?_eq_getElem h]
end Jvm.Pilot.@@N@@.Own
namespace Jvm.Pilot.@@N@@.Own
open Jvm Jvm.ClassFile Sem Op Lib Bundle Jvm.Free Jvm.Stand Jvm.LawKit Jvm.RoadKit Jvm.Free.SB Jvm.Free.SBG
/-- a String whose value is null is no booked one -/
theorem safeNull {Z : State} {EL : List (String × Nat)} {vm : Vm} {h : Heap} {x : Addr} (hal : Z.vm.Alike vm) (E : Exa Z h x "java/lang/String") (F : Fld Z h x "java/lang/String" "value" "[B" .null) : Safe Z EL vm h x := fun B => by
  obtain ⟨p, -, u, a, -, q, -, G, hy⟩ := B
  rcases hy with rfl | rfl
  · obtain ⟨cell, cf, k, i, f, e1, e2, -, -, -, -, e7⟩ := F
    have hc := (show h[q.sa]? = some q.sC from G.ha).symm.trans e1
    obtain ⟨cS, ⟨⟨-, -, -, ⟨cv, kv, iv, s4, -⟩, -, -, -, s8, -⟩, -⟩, -⟩ := G
    obtain ⟨kv', z4⟩ := ff_back (U := Wst Z vm h) hal s4
    have e4 := z4.symm.trans e2
    simp only [Option.some.injEq, Prod.mk.injEq] at e4 hc
    rw [← hc, ← e4.2.2.2, s8] at e7
    cases e7
  · obtain ⟨cell, k, e1, e2, e3, -, -⟩ := E
    have hc := (show h[q.sd]? = some q.SA from G.hd).symm.trans e1
    obtain ⟨cS, -, -, f, -⟩ := G
    have f' : vm.findClass "[B" = some q.SA.cls := f
    rw [hal.findClass] at f'
    have hc' : q.SA = cell := Option.some.inj hc
    rw [← hc'] at e2
    obtain ⟨k1, q1, q2⟩ := Vm.findClass_spec f'
    obtain ⟨k2, q3, q4⟩ := Vm.findClass_spec e2
    cases q1.symm.trans q3
    exact absurd (q2.symm.trans q4) (by decide)
section EndsH
variable {p : Program} {l : Launch} {e : Env} {R : Room} {s : State} {m : MethodId} {args : Array Value} {below : List Frame} {meth : Method} {c : Code} {T : State} {locs : List Loc} {cells slots : Nat} {Z : State} {EL : List (String × Nat)}
theorem voidGoH {vm1 : Vm} (X : Stand p l e R (s.setVm vm1) m args below meth c T locs cells slots) (hx : p.tables.exec = Jvm.exec) {n1 : Nat} (hS : s.Since vm1 n1) (hn1 : n1 ≤ T.heap.size) {P : State → Outcome → Prop} {Q : Option Value → Heap → List Loc → Prop} {kc ks : Nat}
    (hP : ∀ s₂ o, (∃ v L, o = .returned v ∧ Q v s₂.heap L ∧ CHr Z EL s.vm s.heap s₂.vm s₂.heap ∧ ReturnedEndW s o s₂ L kc ks) → P s₂ o) {pc : Nat} {Ls : Array Slot} (hret : meth.sig.returnType = none) (hlk : meth.locks = false)
    (hd : decode c.code pc = .ok (.return_, 1)) (hc : cells ≤ kc) (hs : slots ≤ ks) (hC : CHr Z EL s.vm s.heap T.vm T.heap) (hQ : Q none T.heap locs) : Go p.tables e below P (T.setTop (mkF m pc Ls [])) := by
  obtain ⟨fs, hr, hrun, hended, _, hW, hI, hsame⟩ := X.leaveW hS hn1 (v := none) (fun _ => rfl) hlk
  exact ⟨_, _, X.returnOut hx hret hd hr, hrun, hended, hP _ _ ⟨_, _, rfl, hQ, hC, ⟨_, rfl⟩, hW, hI, hsame.mono hc hs⟩⟩
end EndsH
theorem foldr_mem {args : Array Value} {s : State} {d : Jvm.Cond} : ∀ {L : List Jvm.Cond}, (L.foldr Jvm.Cond.and d).before args s = true → ∀ w ∈ L, w.before args s = true
  | [], _, w, hw => by cases hw
  | c :: L, h, w, hw => by
    have h' : (Jvm.Cond.and c (L.foldr Jvm.Cond.and d)).before args s = true := h
    rw [Jvm.Cond.before_and, Bool.and_eq_true] at h'
    rcases List.mem_cons.mp hw with rfl | hw
    · exact h'.1
    · exact foldr_mem h'.2 w hw
end Jvm.Pilot.@@N@@.Own
namespace Jvm.Pilot.@@N@@
open Jvm Jvm.ClassFile Sem Op Lib Jvm.Free Jvm.Stand Jvm.LawKit Jvm.RoadKit Bundle Jvm.Pilot.@@N@@.Jvm.D Jvm.Pilot.@@N@@.Own
theorem pd_0 : parseMethodDescriptor "([BI)C" = some ⟨[(.array .byte), .int], some .char⟩ := by decide +kernel
theorem pd_1 : parseMethodDescriptor "(C)Z" = some ⟨[.char], some .boolean⟩ := by decide +kernel
theorem pd_2 : parseMethodDescriptor "(I)I" = some ⟨[.int], some .int⟩ := by decide +kernel
theorem pd_3 : parseMethodDescriptor "(I)[B" = some ⟨[.int], some (.array .byte)⟩ := by decide +kernel
theorem pd_4 : parseMethodDescriptor "([BII)V" = some ⟨[(.array .byte), .int, .int], none⟩ := by decide +kernel
theorem pd_5 : parseMethodDescriptor "([CI[BII)I" = some ⟨[(.array .char), .int, (.array .byte), .int, .int], some .int⟩ := by decide +kernel
theorem pd_6 : parseMethodDescriptor "([CII)[B" = some ⟨[(.array .char), .int, .int], some (.array .byte)⟩ := by decide +kernel
theorem pd_7 : parseMethodDescriptor "([BI)B" = some ⟨[(.array .byte), .int], some .byte⟩ := by decide +kernel
theorem pd_8 : parseMethodDescriptor "([CIILjava/lang/Void;)V" = some ⟨[(.array .char), .int, .int, (.object "java/lang/Void")], none⟩ := by decide +kernel
theorem pd_9 : parseMethodDescriptor "(IIILjava/util/function/BiFunction;)I" = some ⟨[.int, .int, .int, (.object "java/util/function/BiFunction")], some .int⟩ := by decide +kernel
theorem pd_10 : parseMethodDescriptor "([BIIZ)I" = some ⟨[(.array .byte), .int, .int, .boolean], some .int⟩ := by decide +kernel
theorem pd_11 : parseMethodDescriptor "()B" = some ⟨[], some .byte⟩ := by decide +kernel
theorem pd_12 : parseMethodDescriptor "()I" = some ⟨[], some .int⟩ := by decide +kernel
theorem pd_13 : parseMethodDescriptor "(III)I" = some ⟨[.int, .int, .int], some .int⟩ := by decide +kernel
theorem pd_14 : parseMethodDescriptor "()Z" = some ⟨[], some .boolean⟩ := by decide +kernel
theorem pd_15 : parseMethodDescriptor "(II)I" = some ⟨[.int, .int], some .int⟩ := by decide +kernel
theorem pd_16 : parseMethodDescriptor "(Ljava/lang/String;)I" = some ⟨[(.object "java/lang/String")], some .int⟩ := by decide +kernel
theorem pd_17 : parseMethodDescriptor "([BII)I" = some ⟨[(.array .byte), .int, .int], some .int⟩ := by decide +kernel
theorem pd_18 : parseMethodDescriptor "([C)V" = some ⟨[(.array .char)], none⟩ := by decide +kernel
theorem pd_19 : parseMethodDescriptor "(IIJJ)C" = some ⟨[.int, .int, .long, .long], some .char⟩ := by decide +kernel
theorem d1_0 : decode jdk_89_method_14_code 0 = .ok (.iload_n 0, 1) := by decide +kernel
theorem d1_1 : decode jdk_89_method_14_code 1 = .ok (.ldc 75, 2) := by decide +kernel
theorem d1_3 : decode jdk_89_method_14_code 3 = .ok (.if_icmp .lt 13, 3) := by decide +kernel
theorem d1_6 : decode jdk_89_method_14_code 6 = .ok (.iload_n 0, 1) := by decide +kernel
theorem d1_7 : decode jdk_89_method_14_code 7 = .ok (.ldc 76, 2) := by decide +kernel
theorem d1_9 : decode jdk_89_method_14_code 9 = .ok (.if_icmp .ge 7, 3) := by decide +kernel
theorem d1_12 : decode jdk_89_method_14_code 12 = .ok (.iconst 1, 1) := by decide +kernel
theorem d1_13 : decode jdk_89_method_14_code 13 = .ok (.goto 4, 3) := by decide +kernel
theorem d1_16 : decode jdk_89_method_14_code 16 = .ok (.iconst 0, 1) := by decide +kernel
theorem d1_17 : decode jdk_89_method_14_code 17 = .ok (.ireturn, 1) := by decide +kernel
theorem pn_1 : plainName "java/lang/Character" = true := by first | (simp [plainName, overriddenIn]; done) | decide +kernel
theorem ef_1 (m : MethodId) (x0 : Int32) : entryFrame m #[(.int x0)] 1 = mkF m 0 #[.val (.int x0)] [] := by first | (simp [entryFrame, mkF, argsToLocals, Value.category]; done) | rfl
def Q1 (Z : State) (cx : Int32) (h0 : Heap) (n0 : Nat) (v : Option Value) (h : Heap) (L : List Loc) : Prop := ∃ r : Int32, v = some (.int r) ∧ ((Hi cx ∧ r.toInt = 1) ∨ (¬ Hi cx ∧ r.toInt = 0)) ∧ Fr n0 L ∧ h = h0
set_option maxRecDepth 65536 in
set_option maxHeartbeats 40000000 in
theorem rm1 (l : Launch) (Z : State) (a0 : Array Value) (hw : ∀ d ∈ tables_1, d.before a0 Z = true) (ws : List Jvm.Cond) (cx : Int32) (h0 : Heap) (n0 : Nat) (Z0 : n0 ≤ h0.size) :
    MetFree l (⟨"java/lang/Character", "isHighSurrogate", "(C)Z"⟩ : MethodName) (head1 (Jvm.Cond.code (⟨"java/lang/Character", "isHighSurrogate", "(C)Z"⟩ : MethodName) jdk_89_method_14_code 1 (some .boolean) :: ws) ({ frames := 0, cells := 0, slots := 0, locals := 0 } : Room)) (fun a_ U => a_ = #[(.int cx)] ∧ Z.Warmed39 U.vm ∧ U.heap = h0) (fun _ _ _ _ _ => True) (fun _ U o U' => ∃ v L, o = .returned v ∧ Q1 Z cx h0 n0 v U'.heap L ∧ FrameEnd U o U' L (({ frames := 0, cells := 0, slots := 0, locals := 0 } : Room)).cells (({ frames := 0, cells := 0, slots := 0, locals := 0 } : Room)).slots) := by
  refine MetFree.of_bodySF (plainFor_of_name pn_1) hisR ?_
  intro p e s m args below meth c s₁ Bd hml0 hP0 hK
  obtain ⟨rfl, hZ, hh⟩ := hP0
  have hx := Bd.exec
  have hby := Bd.bytes
  have hml : c.maxLocals = 1 := hml0
  have hown : s.vm.findClass "java/lang/Character" = some m.cls := findClass_of_methodNamed Bd.named
  have hnm := (name_of_methodNamed Bd.named Bd.method).1
  have X0 : Stand p l e ({ frames := 0, cells := 0, slots := 0, locals := 0 } : Room) s m #[(.int cx)] below meth c s₁ [] 0 0 := Stand.of_body Bd
  have e0 : s₁.heap = h0 := by rw [← hh, Bd.state]; rfl
  have N0 := Fr.nil n0
  have hlk : meth.locks = false := BodyLoose.notSynchronized Bd
  refine Go.start (P₀ := fun s₂ o => ∃ v L, o = .returned v ∧ Q1 Z cx h0 n0 v s₂.heap L ∧ FrameEnd s o s₂ L (({ frames := 0, cells := 0, slots := 0, locals := 0 } : Room)).cells (({ frames := 0, cells := 0, slots := 0, locals := 0 } : Room)).slots) (congrArg s₁.setTop (ef_1 m cx)) ?_
  intro P hP
  show Go p.tables e below P (s₁.setTop (mkF m 0 #[.val (.int cx)] []))
  refine Go.step (fun t k => XS.iloadN X0.here hx rfl (hb hby d1_0) rfl  k) ?_
  show Go p.tables e below P (s₁.setTop (mkF m 1 #[.val (.int cx)] [(.int cx)]))
  refine Go.step (fun t k => X0.ldcInt hx hown (mvT hZ (hw _ (List.mem_of_getElem? (i := 109) rfl))) (g := (mkF m 1 #[.val (.int cx)] [(.int cx)])) rfl (hb hby d1_1) t k) ?_
  show Go p.tables e below P (s₁.setTop (mkF m 3 #[.val (.int cx)] [(.int (55296 : Int32)), (.int cx)]))
  by_cases hc3 : cx.toInt < (55296 : Int)
  · refine Go.step (fun t k => XS.icmpYes X0.here hx rfl (pc0 := 3) (pc' := 16) rfl (hb hby d1_3) rfl (icY (cd := .lt) hc3) (by decide) (by decide) k) ?_
    show Go p.tables e below P (s₁.setTop (mkF m 16 #[.val (.int cx)] []))
    refine Go.step (fun t k => XS.iconst X0.here hx rfl (hb hby d1_16) k) ?_
    show Go p.tables e below P (s₁.setTop (mkF m 17 #[.val (.int cx)] [(.int (0 : Int32))]))
    exact retGo X0 hx hP Bd.returns hlk rfl (Or.inl ⟨rfl, Or.inr (Or.inl rfl), _, rfl⟩) (hb hby d1_17) (by decide) (by decide) (by rw [e0]; exact ⟨0, rfl, Or.inr ⟨fun q => by unfold Hi at q; omega, rfl⟩, N0, rfl⟩)
  · refine Go.step (fun t k => XS.icmpNo X0.here hx rfl (hb hby d1_3) rfl (icN (cd := .lt) hc3) k) ?_
    show Go p.tables e below P (s₁.setTop (mkF m 6 #[.val (.int cx)] []))
    refine Go.step (fun t k => XS.iloadN X0.here hx rfl (hb hby d1_6) rfl  k) ?_
    show Go p.tables e below P (s₁.setTop (mkF m 7 #[.val (.int cx)] [(.int cx)]))
    refine Go.step (fun t k => X0.ldcInt hx hown (mvT hZ (hw _ (List.mem_of_getElem? (i := 110) rfl))) (g := (mkF m 7 #[.val (.int cx)] [(.int cx)])) rfl (hb hby d1_7) t k) ?_
    show Go p.tables e below P (s₁.setTop (mkF m 9 #[.val (.int cx)] [(.int (56320 : Int32)), (.int cx)]))
    by_cases hc9 : (56320 : Int) ≤ cx.toInt
    · refine Go.step (fun t k => XS.icmpYes X0.here hx rfl (pc0 := 9) (pc' := 16) rfl (hb hby d1_9) rfl (icY (cd := .ge) hc9) (by decide) (by decide) k) ?_
      show Go p.tables e below P (s₁.setTop (mkF m 16 #[.val (.int cx)] []))
      refine Go.step (fun t k => XS.iconst X0.here hx rfl (hb hby d1_16) k) ?_
      show Go p.tables e below P (s₁.setTop (mkF m 17 #[.val (.int cx)] [(.int (0 : Int32))]))
      exact retGo X0 hx hP Bd.returns hlk rfl (Or.inl ⟨rfl, Or.inr (Or.inl rfl), _, rfl⟩) (hb hby d1_17) (by decide) (by decide) (by rw [e0]; exact ⟨0, rfl, Or.inr ⟨fun q => by unfold Hi at q; omega, rfl⟩, N0, rfl⟩)
    · refine Go.step (fun t k => XS.icmpNo X0.here hx rfl (hb hby d1_9) rfl (icN (cd := .ge) hc9) k) ?_
      show Go p.tables e below P (s₁.setTop (mkF m 12 #[.val (.int cx)] []))
      refine Go.step (fun t k => XS.iconst X0.here hx rfl (hb hby d1_12) k) ?_
      show Go p.tables e below P (s₁.setTop (mkF m 13 #[.val (.int cx)] [(.int (1 : Int32))]))
      refine Go.step (fun t k => XS.goto X0.here hx rfl (pc0 := 13) (pc' := 17) rfl (hb hby d1_13) (by decide) (by decide) k) ?_
      show Go p.tables e below P (s₁.setTop (mkF m 17 #[.val (.int cx)] [(.int (1 : Int32))]))
      exact retGo X0 hx hP Bd.returns hlk rfl (Or.inl ⟨rfl, Or.inr (Or.inl rfl), _, rfl⟩) (hb hby d1_17) (by decide) (by decide) (by rw [e0]; exact ⟨1, rfl, Or.inl ⟨by unfold Hi; omega, rfl⟩, N0, rfl⟩)
theorem d2_0 : decode jdk_89_method_15_code 0 = .ok (.iload_n 0, 1) := by decide +kernel
theorem d2_1 : decode jdk_89_method_15_code 1 = .ok (.ldc 76, 2) := by decide +kernel
theorem d2_3 : decode jdk_89_method_15_code 3 = .ok (.if_icmp .lt 13, 3) := by decide +kernel
theorem d2_6 : decode jdk_89_method_15_code 6 = .ok (.iload_n 0, 1) := by decide +kernel
theorem d2_7 : decode jdk_89_method_15_code 7 = .ok (.ldc 77, 2) := by decide +kernel
theorem d2_9 : decode jdk_89_method_15_code 9 = .ok (.if_icmp .ge 7, 3) := by decide +kernel
theorem d2_12 : decode jdk_89_method_15_code 12 = .ok (.iconst 1, 1) := by decide +kernel
theorem d2_13 : decode jdk_89_method_15_code 13 = .ok (.goto 4, 3) := by decide +kernel
theorem d2_16 : decode jdk_89_method_15_code 16 = .ok (.iconst 0, 1) := by decide +kernel
theorem d2_17 : decode jdk_89_method_15_code 17 = .ok (.ireturn, 1) := by decide +kernel
theorem pn_2 : plainName "java/lang/Character" = true := by first | (simp [plainName, overriddenIn]; done) | decide +kernel
theorem ef_2 (m : MethodId) (x0 : Int32) : entryFrame m #[(.int x0)] 1 = mkF m 0 #[.val (.int x0)] [] := by first | (simp [entryFrame, mkF, argsToLocals, Value.category]; done) | rfl
def Q2 (Z : State) (cx : Int32) (h0 : Heap) (n0 : Nat) (v : Option Value) (h : Heap) (L : List Loc) : Prop := ∃ r : Int32, v = some (.int r) ∧ ((Lo cx ∧ r.toInt = 1) ∨ (¬ Lo cx ∧ r.toInt = 0)) ∧ Fr n0 L ∧ h = h0
set_option maxRecDepth 65536 in
set_option maxHeartbeats 40000000 in
theorem rm2 (l : Launch) (Z : State) (a0 : Array Value) (hw : ∀ d ∈ tables_1, d.before a0 Z = true) (ws : List Jvm.Cond) (cx : Int32) (h0 : Heap) (n0 : Nat) (Z0 : n0 ≤ h0.size) :
    MetFree l (⟨"java/lang/Character", "isLowSurrogate", "(C)Z"⟩ : MethodName) (head1 (Jvm.Cond.code (⟨"java/lang/Character", "isLowSurrogate", "(C)Z"⟩ : MethodName) jdk_89_method_15_code 1 (some .boolean) :: ws) ({ frames := 0, cells := 0, slots := 0, locals := 0 } : Room)) (fun a_ U => a_ = #[(.int cx)] ∧ Z.Warmed39 U.vm ∧ U.heap = h0) (fun _ _ _ _ _ => True) (fun _ U o U' => ∃ v L, o = .returned v ∧ Q2 Z cx h0 n0 v U'.heap L ∧ FrameEnd U o U' L (({ frames := 0, cells := 0, slots := 0, locals := 0 } : Room)).cells (({ frames := 0, cells := 0, slots := 0, locals := 0 } : Room)).slots) := by
  refine MetFree.of_bodySF (plainFor_of_name pn_2) hisR ?_
  intro p e s m args below meth c s₁ Bd hml0 hP0 hK
  obtain ⟨rfl, hZ, hh⟩ := hP0
  have hx := Bd.exec
  have hby := Bd.bytes
  have hml : c.maxLocals = 1 := hml0
  have hown : s.vm.findClass "java/lang/Character" = some m.cls := findClass_of_methodNamed Bd.named
  have hnm := (name_of_methodNamed Bd.named Bd.method).1
  have X0 : Stand p l e ({ frames := 0, cells := 0, slots := 0, locals := 0 } : Room) s m #[(.int cx)] below meth c s₁ [] 0 0 := Stand.of_body Bd
  have e0 : s₁.heap = h0 := by rw [← hh, Bd.state]; rfl
  have N0 := Fr.nil n0
  have hlk : meth.locks = false := BodyLoose.notSynchronized Bd
  refine Go.start (P₀ := fun s₂ o => ∃ v L, o = .returned v ∧ Q2 Z cx h0 n0 v s₂.heap L ∧ FrameEnd s o s₂ L (({ frames := 0, cells := 0, slots := 0, locals := 0 } : Room)).cells (({ frames := 0, cells := 0, slots := 0, locals := 0 } : Room)).slots) (congrArg s₁.setTop (ef_2 m cx)) ?_
  intro P hP
  show Go p.tables e below P (s₁.setTop (mkF m 0 #[.val (.int cx)] []))
  refine Go.step (fun t k => XS.iloadN X0.here hx rfl (hb hby d2_0) rfl  k) ?_
  show Go p.tables e below P (s₁.setTop (mkF m 1 #[.val (.int cx)] [(.int cx)]))
  refine Go.step (fun t k => X0.ldcInt hx hown (mvT hZ (hw _ (List.mem_of_getElem? (i := 110) rfl))) (g := (mkF m 1 #[.val (.int cx)] [(.int cx)])) rfl (hb hby d2_1) t k) ?_
  show Go p.tables e below P (s₁.setTop (mkF m 3 #[.val (.int cx)] [(.int (56320 : Int32)), (.int cx)]))
  by_cases hc3 : cx.toInt < (56320 : Int)
  · refine Go.step (fun t k => XS.icmpYes X0.here hx rfl (pc0 := 3) (pc' := 16) rfl (hb hby d2_3) rfl (icY (cd := .lt) hc3) (by decide) (by decide) k) ?_
    show Go p.tables e below P (s₁.setTop (mkF m 16 #[.val (.int cx)] []))
    refine Go.step (fun t k => XS.iconst X0.here hx rfl (hb hby d2_16) k) ?_
    show Go p.tables e below P (s₁.setTop (mkF m 17 #[.val (.int cx)] [(.int (0 : Int32))]))
    exact retGo X0 hx hP Bd.returns hlk rfl (Or.inl ⟨rfl, Or.inr (Or.inl rfl), _, rfl⟩) (hb hby d2_17) (by decide) (by decide) (by rw [e0]; exact ⟨0, rfl, Or.inr ⟨fun q => by unfold Lo at q; omega, rfl⟩, N0, rfl⟩)
  · refine Go.step (fun t k => XS.icmpNo X0.here hx rfl (hb hby d2_3) rfl (icN (cd := .lt) hc3) k) ?_
    show Go p.tables e below P (s₁.setTop (mkF m 6 #[.val (.int cx)] []))
    refine Go.step (fun t k => XS.iloadN X0.here hx rfl (hb hby d2_6) rfl  k) ?_
    show Go p.tables e below P (s₁.setTop (mkF m 7 #[.val (.int cx)] [(.int cx)]))
    refine Go.step (fun t k => X0.ldcInt hx hown (mvT hZ (hw _ (List.mem_of_getElem? (i := 114) rfl))) (g := (mkF m 7 #[.val (.int cx)] [(.int cx)])) rfl (hb hby d2_7) t k) ?_
    show Go p.tables e below P (s₁.setTop (mkF m 9 #[.val (.int cx)] [(.int (57344 : Int32)), (.int cx)]))
    by_cases hc9 : (57344 : Int) ≤ cx.toInt
    · refine Go.step (fun t k => XS.icmpYes X0.here hx rfl (pc0 := 9) (pc' := 16) rfl (hb hby d2_9) rfl (icY (cd := .ge) hc9) (by decide) (by decide) k) ?_
      show Go p.tables e below P (s₁.setTop (mkF m 16 #[.val (.int cx)] []))
      refine Go.step (fun t k => XS.iconst X0.here hx rfl (hb hby d2_16) k) ?_
      show Go p.tables e below P (s₁.setTop (mkF m 17 #[.val (.int cx)] [(.int (0 : Int32))]))
      exact retGo X0 hx hP Bd.returns hlk rfl (Or.inl ⟨rfl, Or.inr (Or.inl rfl), _, rfl⟩) (hb hby d2_17) (by decide) (by decide) (by rw [e0]; exact ⟨0, rfl, Or.inr ⟨fun q => by unfold Lo at q; omega, rfl⟩, N0, rfl⟩)
    · refine Go.step (fun t k => XS.icmpNo X0.here hx rfl (hb hby d2_9) rfl (icN (cd := .ge) hc9) k) ?_
      show Go p.tables e below P (s₁.setTop (mkF m 12 #[.val (.int cx)] []))
      refine Go.step (fun t k => XS.iconst X0.here hx rfl (hb hby d2_12) k) ?_
      show Go p.tables e below P (s₁.setTop (mkF m 13 #[.val (.int cx)] [(.int (1 : Int32))]))
      refine Go.step (fun t k => XS.goto X0.here hx rfl (pc0 := 13) (pc' := 17) rfl (hb hby d2_13) (by decide) (by decide) k) ?_
      show Go p.tables e below P (s₁.setTop (mkF m 17 #[.val (.int cx)] [(.int (1 : Int32))]))
      exact retGo X0 hx hP Bd.returns hlk rfl (Or.inl ⟨rfl, Or.inr (Or.inl rfl), _, rfl⟩) (hb hby d2_17) (by decide) (by decide) (by rw [e0]; exact ⟨1, rfl, Or.inl ⟨by unfold Lo; omega, rfl⟩, N0, rfl⟩)
theorem d3_0 : decode jdk_52_method_5_code 0 = .ok (.getstatic 44, 3) := by decide +kernel
theorem d3_3 : decode jdk_52_method_5_code 3 = .ok (.ifCond .ne 25, 3) := by decide +kernel
theorem d3_28 : decode jdk_52_method_5_code 28 = .ok (.iload_n 1, 1) := by decide +kernel
theorem d3_29 : decode jdk_52_method_5_code 29 = .ok (.iconst 1, 1) := by decide +kernel
theorem d3_30 : decode jdk_52_method_5_code 30 = .ok (.ishl, 1) := by decide +kernel
theorem d3_31 : decode jdk_52_method_5_code 31 = .ok (.istore_n 1, 1) := by decide +kernel
theorem d3_32 : decode jdk_52_method_5_code 32 = .ok (.aload_n 0, 1) := by decide +kernel
theorem d3_33 : decode jdk_52_method_5_code 33 = .ok (.iload_n 1, 1) := by decide +kernel
theorem d3_34 : decode jdk_52_method_5_code 34 = .ok (.iinc 1 1, 3) := by decide +kernel
theorem d3_37 : decode jdk_52_method_5_code 37 = .ok (.baload, 1) := by decide +kernel
theorem d3_38 : decode jdk_52_method_5_code 38 = .ok (.sipush 255, 3) := by decide +kernel
theorem d3_41 : decode jdk_52_method_5_code 41 = .ok (.iand, 1) := by decide +kernel
theorem d3_42 : decode jdk_52_method_5_code 42 = .ok (.getstatic 59, 3) := by decide +kernel
theorem d3_45 : decode jdk_52_method_5_code 45 = .ok (.ishl, 1) := by decide +kernel
theorem d3_46 : decode jdk_52_method_5_code 46 = .ok (.aload_n 0, 1) := by decide +kernel
theorem d3_47 : decode jdk_52_method_5_code 47 = .ok (.iload_n 1, 1) := by decide +kernel
theorem d3_48 : decode jdk_52_method_5_code 48 = .ok (.baload, 1) := by decide +kernel
theorem d3_49 : decode jdk_52_method_5_code 49 = .ok (.sipush 255, 3) := by decide +kernel
theorem d3_52 : decode jdk_52_method_5_code 52 = .ok (.iand, 1) := by decide +kernel
theorem d3_53 : decode jdk_52_method_5_code 53 = .ok (.getstatic 63, 3) := by decide +kernel
theorem d3_56 : decode jdk_52_method_5_code 56 = .ok (.ishl, 1) := by decide +kernel
theorem d3_57 : decode jdk_52_method_5_code 57 = .ok (.ior, 1) := by decide +kernel
theorem d3_58 : decode jdk_52_method_5_code 58 = .ok (.i2c, 1) := by decide +kernel
theorem d3_59 : decode jdk_52_method_5_code 59 = .ok (.ireturn, 1) := by decide +kernel
theorem pn_3 : plainName "java/lang/StringUTF16" = true := by first | (simp [plainName, overriddenIn]; done) | decide +kernel
theorem ef_3 (m : MethodId) (x0 : Addr) (x1 : Int32) : entryFrame m #[(.ref x0), (.int x1)] 2 = mkF m 0 #[.val (.ref x0), .val (.int x1)] [] := by first | (simp [entryFrame, mkF, argsToLocals, Value.category]; done) | rfl
def Q3 (Z : State) (b : Addr) (ix : Int32) (kb : ClassId) (zb : Int32) (cs : List Int32) (k0 : Nat) (h0 : Heap) (n0 : Nat) (v : Option Value) (h : Heap) (L : List Loc) : Prop := v = some (.int (cs.getD k0 0)) ∧ Fr n0 L ∧ h = h0
set_option maxRecDepth 65536 in
set_option maxHeartbeats 40000000 in
theorem rm3 (l : Launch) (Z : State) (a0 : Array Value) (hw : ∀ d ∈ tables_1, d.before a0 Z = true) (ws : List Jvm.Cond) (b : Addr) (ix : Int32) (kb : ClassId) (zb : Int32) (cs : List Int32) (k0 : Nat) (h0 : Heap) (n0 : Nat) (Z0 : n0 ≤ h0.size) (Vb : Arv Z h0 b kb .byte zb (enc cs) (.int (0 : Int32))) (hzb : zb.toInt = 2 * (cs.length : Int)) (hn : cs.length ≤ 12) (hc : ∀ x ∈ cs, 0 ≤ x.toInt ∧ x.toInt < 65536) (hk : ix.toInt = (k0 : Int)) (hlt : k0 < cs.length) (S0 : Sta Z h0 "java/lang/StringUTF16" "$assertionsDisabled" "Z" (.int (1 : Int32))) (S1 : Sta Z h0 "java/lang/StringUTF16" "HI_BYTE_SHIFT" "I" (.int (0 : Int32))) (S2 : Sta Z h0 "java/lang/StringUTF16" "LO_BYTE_SHIFT" "I" (.int (8 : Int32))) :
    MetFree l (⟨"java/lang/StringUTF16", "getChar", "([BI)C"⟩ : MethodName) (head1 (Jvm.Cond.code (⟨"java/lang/StringUTF16", "getChar", "([BI)C"⟩ : MethodName) jdk_52_method_5_code 2 (some .char) :: ws) ({ frames := 0, cells := 0, slots := 0, locals := 0 } : Room)) (fun a_ U => a_ = #[(.ref b), (.int ix)] ∧ Z.Warmed39 U.vm ∧ U.heap = h0) (fun _ _ _ _ _ => True) (fun _ U o U' => ∃ v L, o = .returned v ∧ Q3 Z b ix kb zb cs k0 h0 n0 v U'.heap L ∧ FrameEnd U o U' L (({ frames := 0, cells := 0, slots := 0, locals := 0 } : Room)).cells (({ frames := 0, cells := 0, slots := 0, locals := 0 } : Room)).slots) := by
  refine MetFree.of_bodySF (plainFor_of_name pn_3) hisR ?_
  intro p e s m args below meth c s₁ Bd hml0 hP0 hK
  obtain ⟨rfl, hZ, hh⟩ := hP0
  have hx := Bd.exec
  have hby := Bd.bytes
  have hml : c.maxLocals = 2 := hml0
  have hown : s.vm.findClass "java/lang/StringUTF16" = some m.cls := findClass_of_methodNamed Bd.named
  have hnm := (name_of_methodNamed Bd.named Bd.method).1
  have X0 : Stand p l e ({ frames := 0, cells := 0, slots := 0, locals := 0 } : Room) s m #[(.ref b), (.int ix)] below meth c s₁ [] 0 0 := Stand.of_body Bd
  have e0 : s₁.heap = h0 := by rw [← hh, Bd.state]; rfl
  have N0 := Fr.nil n0
  have hlk : meth.locks = false := BodyLoose.notSynchronized Bd
  refine Go.start (P₀ := fun s₂ o => ∃ v L, o = .returned v ∧ Q3 Z b ix kb zb cs k0 h0 n0 v s₂.heap L ∧ FrameEnd s o s₂ L (({ frames := 0, cells := 0, slots := 0, locals := 0 } : Room)).cells (({ frames := 0, cells := 0, slots := 0, locals := 0 } : Room)).slots) (congrArg s₁.setTop (ef_3 m b ix)) ?_
  intro P hP
  show Go p.tables e below P (s₁.setTop (mkF m 0 #[.val (.ref b), .val (.int ix)] []))
  have hcc := hc _ (mem_getD cs k0 hlt)
  have z0 : (0 : Int32).toInt = 0 := rfl
  have e1 : (1 : Int32).toInt = 1 := rfl
  obtain ⟨T_1, X_1, e_1, st_1⟩ := getS2 X0 hx hZ hown (host := "") (Or.inl (hw _ (List.mem_of_getElem? (i := 90) rfl))) Via.refl e0 (Sta_keepX S0 (Keep.refl h0 []) ns0_) (g := (mkF m 0 #[.val (.ref b), .val (.int ix)] [])) rfl (hb hby d3_0)
  refine Go.step (fun t k => st_1 t k) ?_
  show Go p.tables e below P (T_1.setTop (mkF m 3 #[.val (.ref b), .val (.int ix)] [(.int (1 : Int32))]))
  refine Go.step (fun t k => XS.ifYes X_1.here hx rfl (pc0 := 3) (pc' := 28) rfl (hb hby d3_3) rfl (ifY (cd := .ne) (by decide : ¬ (1 : Int) = 0)) (by decide) (by decide) k) ?_
  show Go p.tables e below P (T_1.setTop (mkF m 28 #[.val (.ref b), .val (.int ix)] []))
  refine Go.step (fun t k => XS.iloadN X_1.here hx rfl (hb hby d3_28) rfl  k) ?_
  show Go p.tables e below P (T_1.setTop (mkF m 29 #[.val (.ref b), .val (.int ix)] [(.int ix)]))
  refine Go.step (fun t k => XS.iconst X_1.here hx rfl (hb hby d3_29) k) ?_
  show Go p.tables e below P (T_1.setTop (mkF m 30 #[.val (.ref b), .val (.int ix)] [(.int (1 : Int32)), (.int ix)]))
  obtain ⟨i30, hi30⟩ : ∃ z : Int32, (ix <<< ((1 : Int32) &&& 31)) = z := ⟨_, rfl⟩
  refine Go.step (fun t k => ishl_v X_1.here hx rfl (hb hby d3_30) rfl  hi30 k) ?_
  show Go p.tables e below P (T_1.setTop (mkF m 31 #[.val (.ref b), .val (.int ix)] [(.int i30)]))
  have f30 := c_ishl ix (1 : Int32) 1 rfl; rw [hi30] at f30
  have g30 := rng32 i30
  have v30 : i30.toInt = 2 * (k0 : Int) := by omega
  have n30 : i30.toNatClampNeg = 2 * k0 := by show i30.toInt.toNat = _; omega
  refine Go.step (fun t k => XS.istoreN X_1.here hx rfl (hb hby d3_31) rfl (l' := #[.val (.ref b), .val (.int i30)]) rfl k) ?_
  show Go p.tables e below P (T_1.setTop (mkF m 32 #[.val (.ref b), .val (.int i30)] []))
  refine Go.step (fun t k => XS.aloadN X_1.here hx rfl (hb hby d3_32) rfl rfl k) ?_
  show Go p.tables e below P (T_1.setTop (mkF m 33 #[.val (.ref b), .val (.int i30)] [(.ref b)]))
  refine Go.step (fun t k => XS.iloadN X_1.here hx rfl (hb hby d3_33) rfl  k) ?_
  show Go p.tables e below P (T_1.setTop (mkF m 34 #[.val (.ref b), .val (.int i30)] [(.int i30), (.ref b)]))
  obtain ⟨i34, hi34⟩ : ∃ z : Int32, i30 + (1 : Int32) = z := ⟨_, rfl⟩
  refine Go.step (fun t k => XS.iinc X_1.here hx rfl (hb hby d3_34) rfl (l' := #[.val (.ref b), .val (.int (i30 + (1 : Int32)))]) rfl k) ?_
  show Go p.tables e below P (T_1.setTop (mkF m 37 #[.val (.ref b), .val (.int (i30 + (1 : Int32)))] [(.int i30), (.ref b)]))
  rw [hi34]
  show Go p.tables e below P (T_1.setTop (mkF m 37 #[.val (.ref b), .val (.int i34)] [(.int i30), (.ref b)]))
  have f34 := c_iadd i30 (1 : Int32); rw [hi34, e1] at f34
  have g34 := rng32 i34
  have v34 : i34.toInt = 2 * (k0 : Int) + 1 := by omega
  have n34 : i34.toNatClampNeg = 2 * k0 + 1 := by show i34.toInt.toNat = _; omega
  have vq_2 := Vb
  obtain ⟨cl_2, Ar_2, q_2, S_2, Nn_2, H_2, G_2⟩ := vq_2
  have hin_2 : ¬ (i30 < 0 ∨ cl_2.slots.size ≤ (i30).toNatClampNeg) := inb_of S_2 ⟨fun q => by rw [Int32.lt_iff_toInt_lt] at q; omega, by rw [Int32.lt_iff_toInt_lt]; omega⟩
  have hat_2 : cl_2.slots[(i30).toNatClampNeg]? = some (.int (lo8 (cs.getD k0 0))) := Has.at H_2 hin_2 (by rw [n30]; exact enc_lo cs k0 _ hlt)
  refine Go.step (fun t k => X_1.baloadBytes hx (j := i30) (v := (.int (lo8 (cs.getD k0 0)))) (by rw [e_1]; exact Ar_2.1) (State.isArrayOf_alike hZ.alike Ar_2.2.1) Ar_2.2.2 hin_2 hat_2 (g := (mkF m 37 #[.val (.ref b), .val (.int i34)] [(.int i30), (.ref b)])) rfl rfl (hb hby d3_37) t k) ?_
  show Go p.tables e below P (T_1.setTop (mkF m 38 #[.val (.ref b), .val (.int i34)] [(.int (lo8 (cs.getD k0 0)))]))
  refine Go.step (fun t k => XS.sipush X_1.here hx rfl (hb hby d3_38) k) ?_
  show Go p.tables e below P (T_1.setTop (mkF m 41 #[.val (.ref b), .val (.int i34)] [(.int (255 : Int32)), (.int (lo8 (cs.getD k0 0)))]))
  obtain ⟨i41, hi41⟩ : ∃ z : Int32, (lo8 (cs.getD k0 0)) &&& (255 : Int32) = z := ⟨_, rfl⟩
  refine Go.step (fun t k => iand_v X_1.here hx rfl (hb hby d3_41) rfl  hi41 k) ?_
  show Go p.tables e below P (T_1.setTop (mkF m 42 #[.val (.ref b), .val (.int i34)] [(.int i41)]))
  obtain ⟨T_3, X_3, e_3, st_3⟩ := getS2 X_1 hx hZ hown (host := "") (Or.inl (hw _ (List.mem_of_getElem? (i := 91) rfl))) Via.refl e_1 (Sta_keepX S1 (Keep.refl h0 []) ns0_) (g := (mkF m 42 #[.val (.ref b), .val (.int i34)] [(.int i41)])) rfl (hb hby d3_42)
  refine Go.step (fun t k => st_3 t k) ?_
  show Go p.tables e below P (T_3.setTop (mkF m 45 #[.val (.ref b), .val (.int i34)] [(.int (0 : Int32)), (.int i41)]))
  obtain ⟨i45, hi45⟩ : ∃ z : Int32, (i41 <<< ((0 : Int32) &&& 31)) = z := ⟨_, rfl⟩
  refine Go.step (fun t k => ishl_v X_3.here hx rfl (hb hby d3_45) rfl  hi45 k) ?_
  show Go p.tables e below P (T_3.setTop (mkF m 46 #[.val (.ref b), .val (.int i34)] [(.int i45)]))
  refine Go.step (fun t k => XS.aloadN X_3.here hx rfl (hb hby d3_46) rfl rfl k) ?_
  show Go p.tables e below P (T_3.setTop (mkF m 47 #[.val (.ref b), .val (.int i34)] [(.ref b), (.int i45)]))
  refine Go.step (fun t k => XS.iloadN X_3.here hx rfl (hb hby d3_47) rfl  k) ?_
  show Go p.tables e below P (T_3.setTop (mkF m 48 #[.val (.ref b), .val (.int i34)] [(.int i34), (.ref b), (.int i45)]))
  have vq_4 := Vb
  obtain ⟨cl_4, Ar_4, q_4, S_4, Nn_4, H_4, G_4⟩ := vq_4
  have hin_4 : ¬ (i34 < 0 ∨ cl_4.slots.size ≤ (i34).toNatClampNeg) := inb_of S_4 ⟨fun q => by rw [Int32.lt_iff_toInt_lt] at q; omega, by rw [Int32.lt_iff_toInt_lt]; omega⟩
  have hat_4 : cl_4.slots[(i34).toNatClampNeg]? = some (.int (hi8 (cs.getD k0 0))) := Has.at H_4 hin_4 (by rw [n34]; exact enc_hi cs k0 _ hlt)
  refine Go.step (fun t k => X_3.baloadBytes hx (j := i34) (v := (.int (hi8 (cs.getD k0 0)))) (by rw [e_3]; exact Ar_4.1) (State.isArrayOf_alike hZ.alike Ar_4.2.1) Ar_4.2.2 hin_4 hat_4 (g := (mkF m 48 #[.val (.ref b), .val (.int i34)] [(.int i34), (.ref b), (.int i45)])) rfl rfl (hb hby d3_48) t k) ?_
  show Go p.tables e below P (T_3.setTop (mkF m 49 #[.val (.ref b), .val (.int i34)] [(.int (hi8 (cs.getD k0 0))), (.int i45)]))
  refine Go.step (fun t k => XS.sipush X_3.here hx rfl (hb hby d3_49) k) ?_
  show Go p.tables e below P (T_3.setTop (mkF m 52 #[.val (.ref b), .val (.int i34)] [(.int (255 : Int32)), (.int (hi8 (cs.getD k0 0))), (.int i45)]))
  obtain ⟨i52, hi52⟩ : ∃ z : Int32, (hi8 (cs.getD k0 0)) &&& (255 : Int32) = z := ⟨_, rfl⟩
  refine Go.step (fun t k => iand_v X_3.here hx rfl (hb hby d3_52) rfl  hi52 k) ?_
  show Go p.tables e below P (T_3.setTop (mkF m 53 #[.val (.ref b), .val (.int i34)] [(.int i52), (.int i45)]))
  obtain ⟨T_5, X_5, e_5, st_5⟩ := getS2 X_3 hx hZ hown (host := "") (Or.inl (hw _ (List.mem_of_getElem? (i := 92) rfl))) Via.refl e_3 (Sta_keepX S2 (Keep.refl h0 []) ns0_) (g := (mkF m 53 #[.val (.ref b), .val (.int i34)] [(.int i52), (.int i45)])) rfl (hb hby d3_53)
  refine Go.step (fun t k => st_5 t k) ?_
  show Go p.tables e below P (T_5.setTop (mkF m 56 #[.val (.ref b), .val (.int i34)] [(.int (8 : Int32)), (.int i52), (.int i45)]))
  obtain ⟨i56, hi56⟩ : ∃ z : Int32, (i52 <<< ((8 : Int32) &&& 31)) = z := ⟨_, rfl⟩
  refine Go.step (fun t k => ishl_v X_5.here hx rfl (hb hby d3_56) rfl  hi56 k) ?_
  show Go p.tables e below P (T_5.setTop (mkF m 57 #[.val (.ref b), .val (.int i34)] [(.int i56), (.int i45)]))
  obtain ⟨i57, hi57⟩ : ∃ z : Int32, i45 ||| i56 = z := ⟨_, rfl⟩
  refine Go.step (fun t k => ior_v X_5.here hx rfl (hb hby d3_57) rfl  hi57 k) ?_
  show Go p.tables e below P (T_5.setTop (mkF m 58 #[.val (.ref b), .val (.int i34)] [(.int i57)]))
  obtain ⟨i58, hi58⟩ : ∃ z : Int32, i57.toUInt32.toUInt16.toUInt32.toInt32 = z := ⟨_, rfl⟩
  refine Go.step (fun t k => i2c_v X_5.here hx rfl (hb hby d3_58) rfl hi58 k) ?_
  show Go p.tables e below P (T_5.setTop (mkF m 59 #[.val (.ref b), .val (.int i34)] [(.int i58)]))
  have hr : i58 = cs.getD k0 0 := by rw [← hi58, ← hi57, ← hi45, ← hi56, ← hi41, ← hi52]; exact glue _ hcc
  subst hr
  show Go p.tables e below P (T_5.setTop (mkF m 59 #[.val (.ref b), .val (.int i34)] [(.int (cs.getD k0 0))]))
  exact retGo X_5 hx hP Bd.returns hlk (nar_c hcc) (Or.inl ⟨rfl, Or.inr (Or.inr (Or.inr (Or.inl rfl))), _, rfl⟩) (hb hby d3_59) (by decide) (by decide) (by rw [e_5]; exact ⟨rfl, N0, rfl⟩)
theorem d4_0 : decode jdk_52_method_11_code 0 = .ok (.getstatic 44, 3) := by decide +kernel
theorem d4_3 : decode jdk_52_method_11_code 3 = .ok (.ifCond .ne 16, 3) := by decide +kernel
theorem d4_19 : decode jdk_52_method_11_code 19 = .ok (.iload_n 2, 1) := by decide +kernel
theorem d4_20 : decode jdk_52_method_11_code 20 = .ok (.iload_n 1, 1) := by decide +kernel
theorem d4_21 : decode jdk_52_method_11_code 21 = .ok (.isub, 1) := by decide +kernel
theorem d4_22 : decode jdk_52_method_11_code 22 = .ok (.istore 4, 2) := by decide +kernel
theorem d4_24 : decode jdk_52_method_11_code 24 = .ok (.iload_n 1, 1) := by decide +kernel
theorem d4_25 : decode jdk_52_method_11_code 25 = .ok (.istore 5, 2) := by decide +kernel
theorem d4_27 : decode jdk_52_method_11_code 27 = .ok (.iload_n 3, 1) := by decide +kernel
theorem d4_28 : decode jdk_52_method_11_code 28 = .ok (.ifCond .eq 16, 3) := by decide +kernel
theorem d4_44 : decode jdk_52_method_11_code 44 = .ok (.iload 5, 2) := by decide +kernel
theorem d4_46 : decode jdk_52_method_11_code 46 = .ok (.iload_n 2, 1) := by decide +kernel
theorem d4_47 : decode jdk_52_method_11_code 47 = .ok (.iconst 1, 1) := by decide +kernel
theorem d4_48 : decode jdk_52_method_11_code 48 = .ok (.isub, 1) := by decide +kernel
theorem d4_49 : decode jdk_52_method_11_code 49 = .ok (.if_icmp .ge 39, 3) := by decide +kernel
theorem d4_52 : decode jdk_52_method_11_code 52 = .ok (.aload_n 0, 1) := by decide +kernel
theorem d4_53 : decode jdk_52_method_11_code 53 = .ok (.iload 5, 2) := by decide +kernel
theorem d4_55 : decode jdk_52_method_11_code 55 = .ok (.iinc 5 1, 3) := by decide +kernel
theorem d4_58 : decode jdk_52_method_11_code 58 = .ok (.invokestatic 71, 3) := by decide +kernel
theorem d4_61 : decode jdk_52_method_11_code 61 = .ok (.invokestatic 75, 3) := by decide +kernel
theorem d4_64 : decode jdk_52_method_11_code 64 = .ok (.ifCond .eq (-20), 3) := by decide +kernel
theorem d4_67 : decode jdk_52_method_11_code 67 = .ok (.aload_n 0, 1) := by decide +kernel
theorem d4_68 : decode jdk_52_method_11_code 68 = .ok (.iload 5, 2) := by decide +kernel
theorem d4_70 : decode jdk_52_method_11_code 70 = .ok (.invokestatic 71, 3) := by decide +kernel
theorem d4_73 : decode jdk_52_method_11_code 73 = .ok (.invokestatic 81, 3) := by decide +kernel
theorem d4_76 : decode jdk_52_method_11_code 76 = .ok (.ifCond .eq (-32), 3) := by decide +kernel
theorem d4_79 : decode jdk_52_method_11_code 79 = .ok (.iinc 4 (-1), 3) := by decide +kernel
theorem d4_82 : decode jdk_52_method_11_code 82 = .ok (.iinc 5 1, 3) := by decide +kernel
theorem d4_85 : decode jdk_52_method_11_code 85 = .ok (.goto (-41), 3) := by decide +kernel
theorem d4_88 : decode jdk_52_method_11_code 88 = .ok (.iload 4, 2) := by decide +kernel
theorem d4_90 : decode jdk_52_method_11_code 90 = .ok (.ireturn, 1) := by decide +kernel
theorem pn_4 : plainName "java/lang/StringUTF16" = true := by first | (simp [plainName, overriddenIn]; done) | decide +kernel
theorem ef_4 (m : MethodId) (x0 : Addr) (x1 : Int32) (x2 : Int32) (x3 : Int32) : entryFrame m #[(.ref x0), (.int x1), (.int x2), (.int x3)] 6 = mkF m 0 #[.val (.ref x0), .val (.int x1), .val (.int x2), .val (.int x3), .unset, .unset] [] := by first | (simp [entryFrame, mkF, argsToLocals, Value.category]; done) | rfl
def Q4 (Z : State) (b : Addr) (zn : Int32) (kb : ClassId) (zb : Int32) (cs : List Int32) (h0 : Heap) (n0 : Nat) (v : Option Value) (h : Heap) (L : List Loc) : Prop := ∃ r : Int32, v = some (.int r) ∧ r.toInt = cpc cs ∧ Fr n0 L ∧ h = h0
set_option maxRecDepth 65536 in
set_option maxHeartbeats 40000000 in
theorem rm4 (l : Launch) (Z : State) (a0 : Array Value) (hw : ∀ d ∈ tables_1, d.before a0 Z = true) (ws : List Jvm.Cond) (b : Addr) (zn : Int32) (kb : ClassId) (zb : Int32) (cs : List Int32) (h0 : Heap) (n0 : Nat) (Z0 : n0 ≤ h0.size) (Vb : Arv Z h0 b kb .byte zb (enc cs) (.int (0 : Int32))) (hzb : zb.toInt = 2 * (cs.length : Int)) (hn : cs.length ≤ 12) (hc : ∀ x ∈ cs, 0 ≤ x.toInt ∧ x.toInt < 65536) (hz : zn.toInt = (cs.length : Int)) (S0 : Sta Z h0 "java/lang/StringUTF16" "$assertionsDisabled" "Z" (.int (1 : Int32))) (S1 : Sta Z h0 "java/lang/StringUTF16" "HI_BYTE_SHIFT" "I" (.int (0 : Int32))) (S2 : Sta Z h0 "java/lang/StringUTF16" "LO_BYTE_SHIFT" "I" (.int (8 : Int32))) :
    MetFree l (⟨"java/lang/StringUTF16", "codePointCount", "([BIIZ)I"⟩ : MethodName) (head1 (Jvm.Cond.code (⟨"java/lang/StringUTF16", "codePointCount", "([BIIZ)I"⟩ : MethodName) jdk_52_method_11_code 6 (some .int) :: ws) ({ frames := 1, cells := 0, slots := 0, locals := 13 } : Room)) (fun a_ U => a_ = #[(.ref b), (.int (0 : Int32)), (.int zn), (.int (0 : Int32))] ∧ Z.Warmed39 U.vm ∧ U.heap = h0) (fun _ _ _ _ _ => True) (fun _ U o U' => ∃ v L, o = .returned v ∧ Q4 Z b zn kb zb cs h0 n0 v U'.heap L ∧ FrameEnd U o U' L (({ frames := 1, cells := 0, slots := 0, locals := 13 } : Room)).cells (({ frames := 1, cells := 0, slots := 0, locals := 13 } : Room)).slots) := by
  refine MetFree.of_bodySF (plainFor_of_name pn_4) hisR ?_
  intro p e s m args below meth c s₁ Bd hml0 hP0 hK
  obtain ⟨rfl, hZ, hh⟩ := hP0
  have hx := Bd.exec
  have hby := Bd.bytes
  have hml : c.maxLocals = 6 := hml0
  have hown : s.vm.findClass "java/lang/StringUTF16" = some m.cls := findClass_of_methodNamed Bd.named
  have hnm := (name_of_methodNamed Bd.named Bd.method).1
  have X0 : Stand p l e ({ frames := 1, cells := 0, slots := 0, locals := 13 } : Room) s m #[(.ref b), (.int (0 : Int32)), (.int zn), (.int (0 : Int32))] below meth c s₁ [] 0 0 := Stand.of_body Bd
  have e0 : s₁.heap = h0 := by rw [← hh, Bd.state]; rfl
  have N0 := Fr.nil n0
  have hlk : meth.locks = false := BodyLoose.notSynchronized Bd
  refine Go.start (P₀ := fun s₂ o => ∃ v L, o = .returned v ∧ Q4 Z b zn kb zb cs h0 n0 v s₂.heap L ∧ FrameEnd s o s₂ L (({ frames := 1, cells := 0, slots := 0, locals := 13 } : Room)).cells (({ frames := 1, cells := 0, slots := 0, locals := 13 } : Room)).slots) (congrArg s₁.setTop (ef_4 m b (0 : Int32) zn (0 : Int32))) ?_
  intro P hP
  show Go p.tables e below P (s₁.setTop (mkF m 0 #[.val (.ref b), .val (.int (0 : Int32)), .val (.int zn), .val (.int (0 : Int32)), .unset, .unset] []))
  have z0 : (0 : Int32).toInt = 0 := rfl
  have e1 : (1 : Int32).toInt = 1 := rfl
  have em : (-1 : Int32).toInt = -1 := rfl
  obtain ⟨T_1, X_1, e_1, st_1⟩ := getS2 X0 hx hZ hown (host := "") (Or.inl (hw _ (List.mem_of_getElem? (i := 90) rfl))) Via.refl e0 (Sta_keepX S0 (Keep.refl h0 []) ns0_) (g := (mkF m 0 #[.val (.ref b), .val (.int (0 : Int32)), .val (.int zn), .val (.int (0 : Int32)), .unset, .unset] [])) rfl (hb hby d4_0)
  refine Go.step (fun t k => st_1 t k) ?_
  show Go p.tables e below P (T_1.setTop (mkF m 3 #[.val (.ref b), .val (.int (0 : Int32)), .val (.int zn), .val (.int (0 : Int32)), .unset, .unset] [(.int (1 : Int32))]))
  refine Go.step (fun t k => XS.ifYes X_1.here hx rfl (pc0 := 3) (pc' := 19) rfl (hb hby d4_3) rfl (ifY (cd := .ne) (by decide : ¬ (1 : Int) = 0)) (by decide) (by decide) k) ?_
  show Go p.tables e below P (T_1.setTop (mkF m 19 #[.val (.ref b), .val (.int (0 : Int32)), .val (.int zn), .val (.int (0 : Int32)), .unset, .unset] []))
  refine Go.step (fun t k => XS.iloadN X_1.here hx rfl (hb hby d4_19) rfl  k) ?_
  show Go p.tables e below P (T_1.setTop (mkF m 20 #[.val (.ref b), .val (.int (0 : Int32)), .val (.int zn), .val (.int (0 : Int32)), .unset, .unset] [(.int zn)]))
  refine Go.step (fun t k => XS.iloadN X_1.here hx rfl (hb hby d4_20) rfl  k) ?_
  show Go p.tables e below P (T_1.setTop (mkF m 21 #[.val (.ref b), .val (.int (0 : Int32)), .val (.int zn), .val (.int (0 : Int32)), .unset, .unset] [(.int (0 : Int32)), (.int zn)]))
  obtain ⟨i21, hi21⟩ : ∃ z : Int32, zn - (0 : Int32) = z := ⟨_, rfl⟩
  refine Go.step (fun t k => isub_v X_1.here hx rfl (hb hby d4_21) rfl  hi21 k) ?_
  show Go p.tables e below P (T_1.setTop (mkF m 22 #[.val (.ref b), .val (.int (0 : Int32)), .val (.int zn), .val (.int (0 : Int32)), .unset, .unset] [(.int i21)]))
  refine Go.step (fun t k => XS.istore X_1.here hx rfl (hb hby d4_22) rfl (l' := #[.val (.ref b), .val (.int (0 : Int32)), .val (.int zn), .val (.int (0 : Int32)), .val (.int i21), .unset]) rfl k) ?_
  show Go p.tables e below P (T_1.setTop (mkF m 24 #[.val (.ref b), .val (.int (0 : Int32)), .val (.int zn), .val (.int (0 : Int32)), .val (.int i21), .unset] []))
  refine Go.step (fun t k => XS.iloadN X_1.here hx rfl (hb hby d4_24) rfl  k) ?_
  show Go p.tables e below P (T_1.setTop (mkF m 25 #[.val (.ref b), .val (.int (0 : Int32)), .val (.int zn), .val (.int (0 : Int32)), .val (.int i21), .unset] [(.int (0 : Int32))]))
  refine Go.step (fun t k => XS.istore X_1.here hx rfl (hb hby d4_25) rfl (l' := #[.val (.ref b), .val (.int (0 : Int32)), .val (.int zn), .val (.int (0 : Int32)), .val (.int i21), .val (.int (0 : Int32))]) rfl k) ?_
  show Go p.tables e below P (T_1.setTop (mkF m 27 #[.val (.ref b), .val (.int (0 : Int32)), .val (.int zn), .val (.int (0 : Int32)), .val (.int i21), .val (.int (0 : Int32))] []))
  refine Go.step (fun t k => XS.iloadN X_1.here hx rfl (hb hby d4_27) rfl  k) ?_
  show Go p.tables e below P (T_1.setTop (mkF m 28 #[.val (.ref b), .val (.int (0 : Int32)), .val (.int zn), .val (.int (0 : Int32)), .val (.int i21), .val (.int (0 : Int32))] [(.int (0 : Int32))]))
  refine Go.step (fun t k => XS.ifYes X_1.here hx rfl (pc0 := 28) (pc' := 44) rfl (hb hby d4_28) rfl (ifY (cd := .eq) (by decide : (0 : Int) = 0)) (by decide) (by decide) k) ?_
  show Go p.tables e below P (T_1.setTop (mkF m 44 #[.val (.ref b), .val (.int (0 : Int32)), .val (.int zn), .val (.int (0 : Int32)), .val (.int i21), .val (.int (0 : Int32))] []))
  have f21 := c_isub zn (0 : Int32); rw [hi21, z0] at f21
  have g21 := rng32 i21
  have v21 : i21.toInt = (cs.length : Int) := by omega
  have LP : ∀ (r : Nat) (ix : Int32) (cnt : Int32) (TL : State) (LL : List Loc) (XL : Stand p l e ({ frames := 1, cells := 0, slots := 0, locals := 13 } : Room) s m #[(.ref b), (.int (0 : Int32)), (.int zn), (.int (0 : Int32))] below meth c TL LL 0 0) (NL : Fr n0 LL) (eL : TL.heap = h0), (∃ k0 : Nat, ix.toInt = (k0 : Int) ∧ k0 + r = cs.length ∧ k0 ≤ cs.length ∧ cnt.toInt = cpc cs - cpc (cs.drop k0) + ((cs.length : Int) - k0)) → Go p.tables e below P (TL.setTop (mkF m 44 #[.val (.ref b), .val (.int (0 : Int32)), .val (.int zn), .val (.int (0 : Int32)), .val (.int cnt), .val (.int ix)] [])) := by
    intro r
    induction r using Nat.strongRecOn with
    | ind r ih =>
      intro ix cnt TL LL XL NL eL hL
      show Go p.tables e below P (TL.setTop (mkF m 44 #[.val (.ref b), .val (.int (0 : Int32)), .val (.int zn), .val (.int (0 : Int32)), .val (.int cnt), .val (.int ix)] []))
      obtain ⟨k0, hk, hkr, hle, hcnt⟩ := hL
      refine Go.step (fun t k => XS.iload XL.here hx rfl (hb hby d4_44) rfl  k) ?_
      show Go p.tables e below P (TL.setTop (mkF m 46 #[.val (.ref b), .val (.int (0 : Int32)), .val (.int zn), .val (.int (0 : Int32)), .val (.int cnt), .val (.int ix)] [(.int ix)]))
      refine Go.step (fun t k => XS.iloadN XL.here hx rfl (hb hby d4_46) rfl  k) ?_
      show Go p.tables e below P (TL.setTop (mkF m 47 #[.val (.ref b), .val (.int (0 : Int32)), .val (.int zn), .val (.int (0 : Int32)), .val (.int cnt), .val (.int ix)] [(.int zn), (.int ix)]))
      refine Go.step (fun t k => XS.iconst XL.here hx rfl (hb hby d4_47) k) ?_
      show Go p.tables e below P (TL.setTop (mkF m 48 #[.val (.ref b), .val (.int (0 : Int32)), .val (.int zn), .val (.int (0 : Int32)), .val (.int cnt), .val (.int ix)] [(.int (1 : Int32)), (.int zn), (.int ix)]))
      obtain ⟨i48, hi48⟩ : ∃ z : Int32, zn - (1 : Int32) = z := ⟨_, rfl⟩
      refine Go.step (fun t k => isub_v XL.here hx rfl (hb hby d4_48) rfl  hi48 k) ?_
      show Go p.tables e below P (TL.setTop (mkF m 49 #[.val (.ref b), .val (.int (0 : Int32)), .val (.int zn), .val (.int (0 : Int32)), .val (.int cnt), .val (.int ix)] [(.int i48), (.int ix)]))
      have f48 := c_isub zn (1 : Int32); rw [hi48, e1] at f48
      have g48 := rng32 i48
      have v48 : i48.toInt = (cs.length : Int) - 1 := by omega
      have bcnt : 0 ≤ cnt.toInt ∧ cnt.toInt ≤ 24 := by have := cpc_le cs; have := cpc_le (cs.drop k0); have := cpc_ge cs; have := cpc_ge (cs.drop k0); have hl : (cs.drop k0).length = cs.length - k0 := List.length_drop; omega
      by_cases hc49 : i48.toInt ≤ ix.toInt
      · refine Go.step (fun t k => XS.icmpYes XL.here hx rfl (pc0 := 49) (pc' := 88) rfl (hb hby d4_49) rfl (icY (cd := .ge) hc49) (by decide) (by decide) k) ?_
        show Go p.tables e below P (TL.setTop (mkF m 88 #[.val (.ref b), .val (.int (0 : Int32)), .val (.int zn), .val (.int (0 : Int32)), .val (.int cnt), .val (.int ix)] []))
        refine Go.step (fun t k => XS.iload XL.here hx rfl (hb hby d4_88) rfl  k) ?_
        show Go p.tables e below P (TL.setTop (mkF m 90 #[.val (.ref b), .val (.int (0 : Int32)), .val (.int zn), .val (.int (0 : Int32)), .val (.int cnt), .val (.int ix)] [(.int cnt)]))
        have de := drop_end cs k0 (by omega) (by omega)
        exact retGo XL hx hP Bd.returns hlk rfl (Or.inl ⟨rfl, Or.inl rfl, _, rfl⟩) (hb hby d4_90) (by decide) (by decide) (by rw [eL]; exact ⟨cnt, rfl, by omega, NL, rfl⟩)
      · refine Go.step (fun t k => XS.icmpNo XL.here hx rfl (hb hby d4_49) rfl (icN (cd := .ge) hc49) k) ?_
        show Go p.tables e below P (TL.setTop (mkF m 52 #[.val (.ref b), .val (.int (0 : Int32)), .val (.int zn), .val (.int (0 : Int32)), .val (.int cnt), .val (.int ix)] []))
        obtain ⟨d1, d2⟩ := drop2 cs k0 (by omega)
        refine Go.step (fun t k => XS.aloadN XL.here hx rfl (hb hby d4_52) rfl rfl k) ?_
        show Go p.tables e below P (TL.setTop (mkF m 53 #[.val (.ref b), .val (.int (0 : Int32)), .val (.int zn), .val (.int (0 : Int32)), .val (.int cnt), .val (.int ix)] [(.ref b)]))
        refine Go.step (fun t k => XS.iload XL.here hx rfl (hb hby d4_53) rfl  k) ?_
        show Go p.tables e below P (TL.setTop (mkF m 55 #[.val (.ref b), .val (.int (0 : Int32)), .val (.int zn), .val (.int (0 : Int32)), .val (.int cnt), .val (.int ix)] [(.int ix), (.ref b)]))
        obtain ⟨i55, hi55⟩ : ∃ z : Int32, ix + (1 : Int32) = z := ⟨_, rfl⟩
        refine Go.step (fun t k => XS.iinc XL.here hx rfl (hb hby d4_55) rfl (l' := #[.val (.ref b), .val (.int (0 : Int32)), .val (.int zn), .val (.int (0 : Int32)), .val (.int cnt), .val (.int (ix + (1 : Int32)))]) rfl k) ?_
        show Go p.tables e below P (TL.setTop (mkF m 58 #[.val (.ref b), .val (.int (0 : Int32)), .val (.int zn), .val (.int (0 : Int32)), .val (.int cnt), .val (.int (ix + (1 : Int32)))] [(.int ix), (.ref b)]))
        rw [hi55]
        show Go p.tables e below P (TL.setTop (mkF m 58 #[.val (.ref b), .val (.int (0 : Int32)), .val (.int zn), .val (.int (0 : Int32)), .val (.int cnt), .val (.int i55)] [(.int ix), (.ref b)]))
        have f55 := c_iadd ix (1 : Int32); rw [hi55, e1] at f55
        have g55 := rng32 i55
        have v55 : i55.toInt = (k0 : Int) + 1 := by omega
        obtain ⟨_, _, ⟨T_2, L_2, k_2, n_2⟩, -, X_2, ⟨Lc_2, hQ_2, l_2, y_2, z_2⟩, st_2⟩ := Jvm.LawKit.callS XL hx (y := (⟨"java/lang/StringUTF16", "getChar", "([BI)C"⟩ : MethodName)) hown (mvT hZ (hw _ (List.mem_of_getElem? (i := 93) rfl))) (mvT hZ (hw _ (List.mem_of_getElem? (i := 94) rfl))) (mvT hZ (hw _ (List.mem_of_getElem? (i := 72) rfl))) (mvT hZ (hw _ (List.mem_of_getElem? (i := 95) rfl))) (by decide) (backOf (W := 0) (rm3 l Z a0 hw [] b ix kb zb cs k0 h0 n0 Z0 Vb hzb hn hc hk (by omega) S0 S1 S2) hZ (hw _ (List.mem_of_getElem? (i := 95) rfl)) (hw _ (List.mem_of_getElem? (i := 72) rfl)) (by decide) (by decide)) (g := (mkF m 58 #[.val (.ref b), .val (.int (0 : Int32)), .val (.int zn), .val (.int (0 : Int32)), .val (.int cnt), .val (.int i55)] [(.int ix), (.ref b)])) rfl (by rw [hml]; rfl) (argsL := [(.ref b), (.int ix)]) (rest := []) (lenOf pd_0 rfl) rfl (by show 2 * 0 + _ ≤ _; exact Nat.le_of_eq rfl) (hb hby d4_58) (fun _ _ => ⟨rfl, eL, (by decide : 0 + 0 ≤ _), (by decide : 0 + 0 ≤ _)⟩)
        dsimp only [Pt.U, Pt.locs, Pt.cells, Pt.slots] at X_2 l_2 y_2 z_2 st_2 hQ_2
        subst l_2 y_2 z_2
        obtain ⟨rfl, N_2q, eh_2⟩ := hQ_2
        have N_2 := Fr.app NL N_2q
        refine Go.step (fun t k => st_2 t k) ?_
        show Go p.tables e below P (T_2.setTop (mkF m 61 #[.val (.ref b), .val (.int (0 : Int32)), .val (.int zn), .val (.int (0 : Int32)), .val (.int cnt), .val (.int i55)] [(.int (cs.getD k0 0))]))
        obtain ⟨_, _, ⟨T_3, L_3, k_3, n_3⟩, -, X_3, ⟨Lc_3, hQ_3, l_3, y_3, z_3⟩, st_3⟩ := Jvm.LawKit.callS X_2 hx (y := (⟨"java/lang/Character", "isHighSurrogate", "(C)Z"⟩ : MethodName)) hown (mvT hZ (hw _ (List.mem_of_getElem? (i := 105) rfl))) (mvT hZ (hw _ (List.mem_of_getElem? (i := 106) rfl))) (mvT hZ (hw _ (List.mem_of_getElem? (i := 107) rfl))) (mvT hZ (hw _ (List.mem_of_getElem? (i := 108) rfl))) (by decide) (backOf (W := 0) (rm1 l Z a0 hw [] (cs.getD k0 0) h0 n0 Z0 ) hZ (hw _ (List.mem_of_getElem? (i := 108) rfl)) (hw _ (List.mem_of_getElem? (i := 107) rfl)) (by decide) (by decide)) (g := (mkF m 61 #[.val (.ref b), .val (.int (0 : Int32)), .val (.int zn), .val (.int (0 : Int32)), .val (.int cnt), .val (.int i55)] [(.int (cs.getD k0 0))])) rfl (by rw [hml]; rfl) (argsL := [(.int (cs.getD k0 0))]) (rest := []) (lenOf pd_1 rfl) rfl (by show 2 * 0 + _ ≤ _; exact Nat.le_of_eq rfl) (hb hby d4_61) (fun _ _ => ⟨rfl, eh_2, (by decide : 0 + 0 ≤ _), (by decide : 0 + 0 ≤ _)⟩)
        dsimp only [Pt.U, Pt.locs, Pt.cells, Pt.slots] at X_3 l_3 y_3 z_3 st_3 hQ_3
        subst l_3 y_3 z_3
        obtain ⟨rh, rfl, hrh, N_3q, eh_3⟩ := hQ_3
        have N_3 := Fr.app N_2 N_3q
        refine Go.step (fun t k => st_3 t k) ?_
        show Go p.tables e below P (T_3.setTop (mkF m 64 #[.val (.ref b), .val (.int (0 : Int32)), .val (.int zn), .val (.int (0 : Int32)), .val (.int cnt), .val (.int i55)] [(.int rh)]))
        by_cases hc64 : rh.toInt = 0
        · refine Go.step (fun t k => XS.ifYes X_3.here hx rfl (pc0 := 64) (pc' := 44) rfl (hb hby d4_64) rfl (ifY (cd := .eq) hc64) (by decide) (by decide) k) ?_
          show Go p.tables e below P (T_3.setTop (mkF m 44 #[.val (.ref b), .val (.int (0 : Int32)), .val (.int zn), .val (.int (0 : Int32)), .val (.int cnt), .val (.int i55)] []))
          have hno : ¬ (Hi (cs.getD k0 0) ∧ Lo (cs.getD (k0 + 1) 0)) := by rintro ⟨q, _⟩; rcases hrh with ⟨_, h⟩ | ⟨h, _⟩; omega; exact h q
          have hx : cpc (cs.drop k0) = 1 + cpc (cs.drop (k0 + 1)) := by rw [d1, d2, cpc, if_neg (fun q => hno q)]
          exact ih (cs.length - (k0 + 1)) (by omega) i55 cnt _ _ X_3 N_3 eh_3 ⟨k0 + 1, by omega, by omega, by omega, by omega⟩
        · refine Go.step (fun t k => XS.ifNo X_3.here hx rfl (hb hby d4_64) rfl (ifN (cd := .eq) hc64) k) ?_
          show Go p.tables e below P (T_3.setTop (mkF m 67 #[.val (.ref b), .val (.int (0 : Int32)), .val (.int zn), .val (.int (0 : Int32)), .val (.int cnt), .val (.int i55)] []))
          have hHi : Hi (cs.getD k0 0) := by rcases hrh with ⟨h, _⟩ | ⟨_, h⟩; exact h; omega
          refine Go.step (fun t k => XS.aloadN X_3.here hx rfl (hb hby d4_67) rfl rfl k) ?_
          show Go p.tables e below P (T_3.setTop (mkF m 68 #[.val (.ref b), .val (.int (0 : Int32)), .val (.int zn), .val (.int (0 : Int32)), .val (.int cnt), .val (.int i55)] [(.ref b)]))
          refine Go.step (fun t k => XS.iload X_3.here hx rfl (hb hby d4_68) rfl  k) ?_
          show Go p.tables e below P (T_3.setTop (mkF m 70 #[.val (.ref b), .val (.int (0 : Int32)), .val (.int zn), .val (.int (0 : Int32)), .val (.int cnt), .val (.int i55)] [(.int i55), (.ref b)]))
          obtain ⟨_, _, ⟨T_4, L_4, k_4, n_4⟩, -, X_4, ⟨Lc_4, hQ_4, l_4, y_4, z_4⟩, st_4⟩ := Jvm.LawKit.callS X_3 hx (y := (⟨"java/lang/StringUTF16", "getChar", "([BI)C"⟩ : MethodName)) hown (mvT hZ (hw _ (List.mem_of_getElem? (i := 93) rfl))) (mvT hZ (hw _ (List.mem_of_getElem? (i := 94) rfl))) (mvT hZ (hw _ (List.mem_of_getElem? (i := 72) rfl))) (mvT hZ (hw _ (List.mem_of_getElem? (i := 95) rfl))) (by decide) (backOf (W := 0) (rm3 l Z a0 hw [] b i55 kb zb cs (k0 + 1) h0 n0 Z0 Vb hzb hn hc (by omega) (by omega) S0 S1 S2) hZ (hw _ (List.mem_of_getElem? (i := 95) rfl)) (hw _ (List.mem_of_getElem? (i := 72) rfl)) (by decide) (by decide)) (g := (mkF m 70 #[.val (.ref b), .val (.int (0 : Int32)), .val (.int zn), .val (.int (0 : Int32)), .val (.int cnt), .val (.int i55)] [(.int i55), (.ref b)])) rfl (by rw [hml]; rfl) (argsL := [(.ref b), (.int i55)]) (rest := []) (lenOf pd_0 rfl) rfl (by show 2 * 0 + _ ≤ _; exact Nat.le_of_eq rfl) (hb hby d4_70) (fun _ _ => ⟨rfl, eh_3, (by decide : 0 + 0 ≤ _), (by decide : 0 + 0 ≤ _)⟩)
          dsimp only [Pt.U, Pt.locs, Pt.cells, Pt.slots] at X_4 l_4 y_4 z_4 st_4 hQ_4
          subst l_4 y_4 z_4
          obtain ⟨rfl, N_4q, eh_4⟩ := hQ_4
          have N_4 := Fr.app N_3 N_4q
          refine Go.step (fun t k => st_4 t k) ?_
          show Go p.tables e below P (T_4.setTop (mkF m 73 #[.val (.ref b), .val (.int (0 : Int32)), .val (.int zn), .val (.int (0 : Int32)), .val (.int cnt), .val (.int i55)] [(.int (cs.getD (k0 + 1) 0))]))
          obtain ⟨_, _, ⟨T_5, L_5, k_5, n_5⟩, -, X_5, ⟨Lc_5, hQ_5, l_5, y_5, z_5⟩, st_5⟩ := Jvm.LawKit.callS X_4 hx (y := (⟨"java/lang/Character", "isLowSurrogate", "(C)Z"⟩ : MethodName)) hown (mvT hZ (hw _ (List.mem_of_getElem? (i := 111) rfl))) (mvT hZ (hw _ (List.mem_of_getElem? (i := 112) rfl))) (mvT hZ (hw _ (List.mem_of_getElem? (i := 107) rfl))) (mvT hZ (hw _ (List.mem_of_getElem? (i := 113) rfl))) (by decide) (backOf (W := 0) (rm2 l Z a0 hw [] (cs.getD (k0 + 1) 0) h0 n0 Z0 ) hZ (hw _ (List.mem_of_getElem? (i := 113) rfl)) (hw _ (List.mem_of_getElem? (i := 107) rfl)) (by decide) (by decide)) (g := (mkF m 73 #[.val (.ref b), .val (.int (0 : Int32)), .val (.int zn), .val (.int (0 : Int32)), .val (.int cnt), .val (.int i55)] [(.int (cs.getD (k0 + 1) 0))])) rfl (by rw [hml]; rfl) (argsL := [(.int (cs.getD (k0 + 1) 0))]) (rest := []) (lenOf pd_1 rfl) rfl (by show 2 * 0 + _ ≤ _; exact Nat.le_of_eq rfl) (hb hby d4_73) (fun _ _ => ⟨rfl, eh_4, (by decide : 0 + 0 ≤ _), (by decide : 0 + 0 ≤ _)⟩)
          dsimp only [Pt.U, Pt.locs, Pt.cells, Pt.slots] at X_5 l_5 y_5 z_5 st_5 hQ_5
          subst l_5 y_5 z_5
          obtain ⟨rl, rfl, hrl, N_5q, eh_5⟩ := hQ_5
          have N_5 := Fr.app N_4 N_5q
          refine Go.step (fun t k => st_5 t k) ?_
          show Go p.tables e below P (T_5.setTop (mkF m 76 #[.val (.ref b), .val (.int (0 : Int32)), .val (.int zn), .val (.int (0 : Int32)), .val (.int cnt), .val (.int i55)] [(.int rl)]))
          by_cases hc76 : rl.toInt = 0
          · refine Go.step (fun t k => XS.ifYes X_5.here hx rfl (pc0 := 76) (pc' := 44) rfl (hb hby d4_76) rfl (ifY (cd := .eq) hc76) (by decide) (by decide) k) ?_
            show Go p.tables e below P (T_5.setTop (mkF m 44 #[.val (.ref b), .val (.int (0 : Int32)), .val (.int zn), .val (.int (0 : Int32)), .val (.int cnt), .val (.int i55)] []))
            have hno : ¬ (Hi (cs.getD k0 0) ∧ Lo (cs.getD (k0 + 1) 0)) := by rintro ⟨_, q⟩; rcases hrl with ⟨_, h⟩ | ⟨h, _⟩; omega; exact h q
            have hx : cpc (cs.drop k0) = 1 + cpc (cs.drop (k0 + 1)) := by rw [d1, d2, cpc, if_neg (fun q => hno q)]
            exact ih (cs.length - (k0 + 1)) (by omega) i55 cnt _ _ X_5 N_5 eh_5 ⟨k0 + 1, by omega, by omega, by omega, by omega⟩
          · refine Go.step (fun t k => XS.ifNo X_5.here hx rfl (hb hby d4_76) rfl (ifN (cd := .eq) hc76) k) ?_
            show Go p.tables e below P (T_5.setTop (mkF m 79 #[.val (.ref b), .val (.int (0 : Int32)), .val (.int zn), .val (.int (0 : Int32)), .val (.int cnt), .val (.int i55)] []))
            have hLo : Lo (cs.getD (k0 + 1) 0) := by rcases hrl with ⟨h, _⟩ | ⟨_, h⟩; exact h; omega
            obtain ⟨i79, hi79⟩ : ∃ z : Int32, cnt + (-1 : Int32) = z := ⟨_, rfl⟩
            refine Go.step (fun t k => XS.iinc X_5.here hx rfl (hb hby d4_79) rfl (l' := #[.val (.ref b), .val (.int (0 : Int32)), .val (.int zn), .val (.int (0 : Int32)), .val (.int (cnt + (-1 : Int32))), .val (.int i55)]) rfl k) ?_
            show Go p.tables e below P (T_5.setTop (mkF m 82 #[.val (.ref b), .val (.int (0 : Int32)), .val (.int zn), .val (.int (0 : Int32)), .val (.int (cnt + (-1 : Int32))), .val (.int i55)] []))
            rw [hi79]
            show Go p.tables e below P (T_5.setTop (mkF m 82 #[.val (.ref b), .val (.int (0 : Int32)), .val (.int zn), .val (.int (0 : Int32)), .val (.int i79), .val (.int i55)] []))
            obtain ⟨i82, hi82⟩ : ∃ z : Int32, i55 + (1 : Int32) = z := ⟨_, rfl⟩
            refine Go.step (fun t k => XS.iinc X_5.here hx rfl (hb hby d4_82) rfl (l' := #[.val (.ref b), .val (.int (0 : Int32)), .val (.int zn), .val (.int (0 : Int32)), .val (.int i79), .val (.int (i55 + (1 : Int32)))]) rfl k) ?_
            show Go p.tables e below P (T_5.setTop (mkF m 85 #[.val (.ref b), .val (.int (0 : Int32)), .val (.int zn), .val (.int (0 : Int32)), .val (.int i79), .val (.int (i55 + (1 : Int32)))] []))
            rw [hi82]
            show Go p.tables e below P (T_5.setTop (mkF m 85 #[.val (.ref b), .val (.int (0 : Int32)), .val (.int zn), .val (.int (0 : Int32)), .val (.int i79), .val (.int i82)] []))
            refine Go.step (fun t k => XS.goto X_5.here hx rfl (pc0 := 85) (pc' := 44) rfl (hb hby d4_85) (by decide) (by decide) k) ?_
            show Go p.tables e below P (T_5.setTop (mkF m 44 #[.val (.ref b), .val (.int (0 : Int32)), .val (.int zn), .val (.int (0 : Int32)), .val (.int i79), .val (.int i82)] []))
            have f79 := c_iadd cnt (-1 : Int32); rw [hi79, em] at f79
            have g79 := rng32 i79
            have f82 := c_iadd i55 (1 : Int32); rw [hi82, e1] at f82
            have g82 := rng32 i82
            have hx : cpc (cs.drop k0) = 1 + cpc (cs.drop (k0 + 2)) := by rw [d1, d2, cpc, if_pos ⟨hHi, hLo⟩]
            have cb := bcnt
            exact ih (cs.length - (k0 + 2)) (by omega) i82 i79 _ _ X_5 N_5 eh_5 ⟨k0 + 2, by omega, by omega, by omega, by omega⟩
  exact LP cs.length (0 : Int32) i21 _ _ X_1 N0 e_1 ⟨0, rfl, by omega, by omega, by rw [List.drop_zero]; omega⟩
theorem d5_0 : decode jdk_52_method_4_code 0 = .ok (.getstatic 44, 3) := by decide +kernel
theorem d5_3 : decode jdk_52_method_4_code 3 = .ok (.ifCond .ne 25, 3) := by decide +kernel
theorem d5_28 : decode jdk_52_method_4_code 28 = .ok (.iload_n 1, 1) := by decide +kernel
theorem d5_29 : decode jdk_52_method_4_code 29 = .ok (.iconst 1, 1) := by decide +kernel
theorem d5_30 : decode jdk_52_method_4_code 30 = .ok (.ishl, 1) := by decide +kernel
theorem d5_31 : decode jdk_52_method_4_code 31 = .ok (.istore_n 1, 1) := by decide +kernel
theorem d5_32 : decode jdk_52_method_4_code 32 = .ok (.aload_n 0, 1) := by decide +kernel
theorem d5_33 : decode jdk_52_method_4_code 33 = .ok (.iload_n 1, 1) := by decide +kernel
theorem d5_34 : decode jdk_52_method_4_code 34 = .ok (.iinc 1 1, 3) := by decide +kernel
theorem d5_37 : decode jdk_52_method_4_code 37 = .ok (.iload_n 2, 1) := by decide +kernel
theorem d5_38 : decode jdk_52_method_4_code 38 = .ok (.getstatic 59, 3) := by decide +kernel
theorem d5_41 : decode jdk_52_method_4_code 41 = .ok (.ishr, 1) := by decide +kernel
theorem d5_42 : decode jdk_52_method_4_code 42 = .ok (.i2b, 1) := by decide +kernel
theorem d5_43 : decode jdk_52_method_4_code 43 = .ok (.bastore, 1) := by decide +kernel
theorem d5_44 : decode jdk_52_method_4_code 44 = .ok (.aload_n 0, 1) := by decide +kernel
theorem d5_45 : decode jdk_52_method_4_code 45 = .ok (.iload_n 1, 1) := by decide +kernel
theorem d5_46 : decode jdk_52_method_4_code 46 = .ok (.iload_n 2, 1) := by decide +kernel
theorem d5_47 : decode jdk_52_method_4_code 47 = .ok (.getstatic 63, 3) := by decide +kernel
theorem d5_50 : decode jdk_52_method_4_code 50 = .ok (.ishr, 1) := by decide +kernel
theorem d5_51 : decode jdk_52_method_4_code 51 = .ok (.i2b, 1) := by decide +kernel
theorem d5_52 : decode jdk_52_method_4_code 52 = .ok (.bastore, 1) := by decide +kernel
theorem d5_53 : decode jdk_52_method_4_code 53 = .ok (.return_, 1) := by decide +kernel
theorem pn_5 : plainName "java/lang/StringUTF16" = true := by first | (simp [plainName, overriddenIn]; done) | decide +kernel
theorem ef_5 (m : MethodId) (x0 : Addr) (x1 : Int32) (x2 : Int32) : entryFrame m #[(.ref x0), (.int x1), (.int x2)] 3 = mkF m 0 #[.val (.ref x0), .val (.int x1), .val (.int x2)] [] := by first | (simp [entryFrame, mkF, argsToLocals, Value.category]; done) | rfl
def Q5 (Z : State) (b : Addr) (ix : Int32) (cx : Int32) (kb : ClassId) (zb : Int32) (vl : List Value) (k0 : Nat) (h0 : Heap) (n0 : Nat) (v : Option Value) (h : Heap) (L : List Loc) : Prop := v = none ∧ Fr n0 L ∧ Keep h0 h [b] ∧ Arv Z h b kb .byte zb ((vl.set (2 * k0) (.int (lo8 cx))).set (2 * k0 + 1) (.int (hi8 cx))) (.int (0 : Int32))
set_option maxRecDepth 65536 in
set_option maxHeartbeats 40000000 in
theorem rm5 (l : Launch) (Z : State) (a0 : Array Value) (hw : ∀ d ∈ tables_1, d.before a0 Z = true) (ws : List Jvm.Cond) (b : Addr) (ix : Int32) (cx : Int32) (kb : ClassId) (zb : Int32) (vl : List Value) (k0 : Nat) (h0 : Heap) (n0 : Nat) (Z0 : n0 ≤ h0.size) (Vb : Arv Z h0 b kb .byte zb vl (.int (0 : Int32))) (hzb : zb.toInt = (vl.length : Int)) (hk : ix.toInt = (k0 : Int)) (hlt : 2 * k0 + 1 < vl.length) (hvl : vl.length ≤ 24) (g_b : n0 ≤ b) (S0 : Sta Z h0 "java/lang/StringUTF16" "$assertionsDisabled" "Z" (.int (1 : Int32))) (S1 : Sta Z h0 "java/lang/StringUTF16" "HI_BYTE_SHIFT" "I" (.int (0 : Int32))) (S2 : Sta Z h0 "java/lang/StringUTF16" "LO_BYTE_SHIFT" "I" (.int (8 : Int32))) :
    MetFree l (⟨"java/lang/StringUTF16", "putChar", "([BII)V"⟩ : MethodName) (head1 (Jvm.Cond.code (⟨"java/lang/StringUTF16", "putChar", "([BII)V"⟩ : MethodName) jdk_52_method_4_code 3 none :: ws) ({ frames := 0, cells := 0, slots := 0, locals := 0 } : Room)) (fun a_ U => a_ = #[(.ref b), (.int ix), (.int cx)] ∧ Z.Warmed39 U.vm ∧ U.heap = h0) (fun _ _ _ _ _ => True) (fun _ U o U' => ∃ v L, o = .returned v ∧ Q5 Z b ix cx kb zb vl k0 h0 n0 v U'.heap L ∧ FrameEnd U o U' L (({ frames := 0, cells := 0, slots := 0, locals := 0 } : Room)).cells (({ frames := 0, cells := 0, slots := 0, locals := 0 } : Room)).slots) := by
  refine MetFree.of_bodySF (plainFor_of_name pn_5) hisR ?_
  intro p e s m args below meth c s₁ Bd hml0 hP0 hK
  obtain ⟨rfl, hZ, hh⟩ := hP0
  have hx := Bd.exec
  have hby := Bd.bytes
  have hml : c.maxLocals = 3 := hml0
  have hown : s.vm.findClass "java/lang/StringUTF16" = some m.cls := findClass_of_methodNamed Bd.named
  have hnm := (name_of_methodNamed Bd.named Bd.method).1
  have X0 : Stand p l e ({ frames := 0, cells := 0, slots := 0, locals := 0 } : Room) s m #[(.ref b), (.int ix), (.int cx)] below meth c s₁ [] 0 0 := Stand.of_body Bd
  have e0 : s₁.heap = h0 := by rw [← hh, Bd.state]; rfl
  have N0 := Fr.nil n0
  have hlk : meth.locks = false := BodyLoose.notSynchronized Bd
  refine Go.start (P₀ := fun s₂ o => ∃ v L, o = .returned v ∧ Q5 Z b ix cx kb zb vl k0 h0 n0 v s₂.heap L ∧ FrameEnd s o s₂ L (({ frames := 0, cells := 0, slots := 0, locals := 0 } : Room)).cells (({ frames := 0, cells := 0, slots := 0, locals := 0 } : Room)).slots) (congrArg s₁.setTop (ef_5 m b ix cx)) ?_
  intro P hP
  show Go p.tables e below P (s₁.setTop (mkF m 0 #[.val (.ref b), .val (.int ix), .val (.int cx)] []))
  have e1 : (1 : Int32).toInt = 1 := rfl
  obtain ⟨T_1, X_1, e_1, st_1⟩ := getS2 X0 hx hZ hown (host := "") (Or.inl (hw _ (List.mem_of_getElem? (i := 90) rfl))) Via.refl e0 (Sta_keepX S0 (Keep.refl h0 [b]) (nsX Vb.nostat ns0_)) (g := (mkF m 0 #[.val (.ref b), .val (.int ix), .val (.int cx)] [])) rfl (hb hby d5_0)
  refine Go.step (fun t k => st_1 t k) ?_
  show Go p.tables e below P (T_1.setTop (mkF m 3 #[.val (.ref b), .val (.int ix), .val (.int cx)] [(.int (1 : Int32))]))
  refine Go.step (fun t k => XS.ifYes X_1.here hx rfl (pc0 := 3) (pc' := 28) rfl (hb hby d5_3) rfl (ifY (cd := .ne) (by decide : ¬ (1 : Int) = 0)) (by decide) (by decide) k) ?_
  show Go p.tables e below P (T_1.setTop (mkF m 28 #[.val (.ref b), .val (.int ix), .val (.int cx)] []))
  refine Go.step (fun t k => XS.iloadN X_1.here hx rfl (hb hby d5_28) rfl  k) ?_
  show Go p.tables e below P (T_1.setTop (mkF m 29 #[.val (.ref b), .val (.int ix), .val (.int cx)] [(.int ix)]))
  refine Go.step (fun t k => XS.iconst X_1.here hx rfl (hb hby d5_29) k) ?_
  show Go p.tables e below P (T_1.setTop (mkF m 30 #[.val (.ref b), .val (.int ix), .val (.int cx)] [(.int (1 : Int32)), (.int ix)]))
  obtain ⟨i30, hi30⟩ : ∃ z : Int32, (ix <<< ((1 : Int32) &&& 31)) = z := ⟨_, rfl⟩
  refine Go.step (fun t k => ishl_v X_1.here hx rfl (hb hby d5_30) rfl  hi30 k) ?_
  show Go p.tables e below P (T_1.setTop (mkF m 31 #[.val (.ref b), .val (.int ix), .val (.int cx)] [(.int i30)]))
  have f30 := c_ishl ix (1 : Int32) 1 rfl; rw [hi30] at f30
  have g30 := rng32 i30
  have v30 : i30.toInt = ((2 * k0 : Nat) : Int) := by omega
  refine Go.step (fun t k => XS.istoreN X_1.here hx rfl (hb hby d5_31) rfl (l' := #[.val (.ref b), .val (.int i30), .val (.int cx)]) rfl k) ?_
  show Go p.tables e below P (T_1.setTop (mkF m 32 #[.val (.ref b), .val (.int i30), .val (.int cx)] []))
  refine Go.step (fun t k => XS.aloadN X_1.here hx rfl (hb hby d5_32) rfl rfl k) ?_
  show Go p.tables e below P (T_1.setTop (mkF m 33 #[.val (.ref b), .val (.int i30), .val (.int cx)] [(.ref b)]))
  refine Go.step (fun t k => XS.iloadN X_1.here hx rfl (hb hby d5_33) rfl  k) ?_
  show Go p.tables e below P (T_1.setTop (mkF m 34 #[.val (.ref b), .val (.int i30), .val (.int cx)] [(.int i30), (.ref b)]))
  obtain ⟨i34, hi34⟩ : ∃ z : Int32, i30 + (1 : Int32) = z := ⟨_, rfl⟩
  refine Go.step (fun t k => XS.iinc X_1.here hx rfl (hb hby d5_34) rfl (l' := #[.val (.ref b), .val (.int (i30 + (1 : Int32))), .val (.int cx)]) rfl k) ?_
  show Go p.tables e below P (T_1.setTop (mkF m 37 #[.val (.ref b), .val (.int (i30 + (1 : Int32))), .val (.int cx)] [(.int i30), (.ref b)]))
  rw [hi34]
  show Go p.tables e below P (T_1.setTop (mkF m 37 #[.val (.ref b), .val (.int i34), .val (.int cx)] [(.int i30), (.ref b)]))
  refine Go.step (fun t k => XS.iloadN X_1.here hx rfl (hb hby d5_37) rfl  k) ?_
  show Go p.tables e below P (T_1.setTop (mkF m 38 #[.val (.ref b), .val (.int i34), .val (.int cx)] [(.int cx), (.int i30), (.ref b)]))
  have f34 := c_iadd i30 (1 : Int32); rw [hi34, e1] at f34
  have g34 := rng32 i34
  have v34 : i34.toInt = ((2 * k0 + 1 : Nat) : Int) := by omega
  obtain ⟨T_2, X_2, e_2, st_2⟩ := getS2 X_1 hx hZ hown (host := "") (Or.inl (hw _ (List.mem_of_getElem? (i := 91) rfl))) Via.refl e_1 (Sta_keepX S1 (Keep.refl h0 [b]) (nsX Vb.nostat ns0_)) (g := (mkF m 38 #[.val (.ref b), .val (.int i34), .val (.int cx)] [(.int cx), (.int i30), (.ref b)])) rfl (hb hby d5_38)
  refine Go.step (fun t k => st_2 t k) ?_
  show Go p.tables e below P (T_2.setTop (mkF m 41 #[.val (.ref b), .val (.int i34), .val (.int cx)] [(.int (0 : Int32)), (.int cx), (.int i30), (.ref b)]))
  obtain ⟨i41, hi41⟩ : ∃ z : Int32, (cx >>> ((0 : Int32) &&& 31)) = z := ⟨_, rfl⟩
  refine Go.step (fun t k => ishr_v X_2.here hx rfl (hb hby d5_41) rfl  hi41 k) ?_
  show Go p.tables e below P (T_2.setTop (mkF m 42 #[.val (.ref b), .val (.int i34), .val (.int cx)] [(.int i41), (.int i30), (.ref b)]))
  obtain ⟨i42, hi42⟩ : ∃ z : Int32, i41.toInt8.toInt32 = z := ⟨_, rfl⟩
  refine Go.step (fun t k => i2b_v X_2.here hx rfl (hb hby d5_42) rfl hi42 k) ?_
  show Go p.tables e below P (T_2.setTop (mkF m 43 #[.val (.ref b), .val (.int i34), .val (.int cx)] [(.int i42), (.int i30), (.ref b)]))
  have vq_3 := Vb
  obtain ⟨cl_3, Ar_3, q_3, S_3, Nn_3, H_3, G_3⟩ := vq_3
  have hin_3 : ¬ (i30 < 0 ∨ cl_3.slots.size ≤ (i30).toNatClampNeg) := inb_of S_3 ⟨(nlt32 (by omega)), (lt32 (by omega))⟩
  obtain ⟨T_3, h_3, X_3, e_3, W_3, st_3⟩ := stB X_2 hx hZ e_2 Ar_3 (j := i30) hin_3 (g := (mkF m 43 #[.val (.ref b), .val (.int i34), .val (.int cx)] [(.int i42), (.int i30), (.ref b)])) rfl rfl (hb hby d5_43)
  have hv_3 : (nar .byte i42) = (lo8 cx) := by rw [← hi42, ← hi41]; rfl
  rw [hv_3] at W_3
  have V_3 : Arv Z h_3 b kb .byte zb (vl.set (2 * k0) (.int (lo8 cx))) (.int (0 : Int32)) := Arv.set Ar_3 q_3 S_3 Nn_3 H_3 G_3 (by rw [← hv_3]; exact (fits_nar_byte _)) W_3 (2 * k0) (cl32 v30) (by omega)
  have N_3 := Fr.snoc X_3 N0 g_b
  have K_3 : Keep h0 h_3 [b] := (Keep.refl h0 [b]).wr W_3 (Or.inl (List.mem_of_getElem? (i := 0) rfl))
  have Z_3 : n0 ≤ h_3.size := Nat.le_trans Z0 (Keep.of_wr W_3).1
  refine Go.step (fun t k => st_3 t k) ?_
  show Go p.tables e below P (T_3.setTop (mkF m 44 #[.val (.ref b), .val (.int i34), .val (.int cx)] []))
  refine Go.step (fun t k => XS.aloadN X_3.here hx rfl (hb hby d5_44) rfl rfl k) ?_
  show Go p.tables e below P (T_3.setTop (mkF m 45 #[.val (.ref b), .val (.int i34), .val (.int cx)] [(.ref b)]))
  refine Go.step (fun t k => XS.iloadN X_3.here hx rfl (hb hby d5_45) rfl  k) ?_
  show Go p.tables e below P (T_3.setTop (mkF m 46 #[.val (.ref b), .val (.int i34), .val (.int cx)] [(.int i34), (.ref b)]))
  refine Go.step (fun t k => XS.iloadN X_3.here hx rfl (hb hby d5_46) rfl  k) ?_
  show Go p.tables e below P (T_3.setTop (mkF m 47 #[.val (.ref b), .val (.int i34), .val (.int cx)] [(.int cx), (.int i34), (.ref b)]))
  obtain ⟨T_4, X_4, e_4, st_4⟩ := getS2 X_3 hx hZ hown (host := "") (Or.inl (hw _ (List.mem_of_getElem? (i := 92) rfl))) Via.refl e_3 (Sta_keepX S2 K_3 (nsX Vb.nostat ns0_)) (g := (mkF m 47 #[.val (.ref b), .val (.int i34), .val (.int cx)] [(.int cx), (.int i34), (.ref b)])) rfl (hb hby d5_47)
  refine Go.step (fun t k => st_4 t k) ?_
  show Go p.tables e below P (T_4.setTop (mkF m 50 #[.val (.ref b), .val (.int i34), .val (.int cx)] [(.int (8 : Int32)), (.int cx), (.int i34), (.ref b)]))
  obtain ⟨i50, hi50⟩ : ∃ z : Int32, (cx >>> ((8 : Int32) &&& 31)) = z := ⟨_, rfl⟩
  refine Go.step (fun t k => ishr_v X_4.here hx rfl (hb hby d5_50) rfl  hi50 k) ?_
  show Go p.tables e below P (T_4.setTop (mkF m 51 #[.val (.ref b), .val (.int i34), .val (.int cx)] [(.int i50), (.int i34), (.ref b)]))
  obtain ⟨i51, hi51⟩ : ∃ z : Int32, i50.toInt8.toInt32 = z := ⟨_, rfl⟩
  refine Go.step (fun t k => i2b_v X_4.here hx rfl (hb hby d5_51) rfl hi51 k) ?_
  show Go p.tables e below P (T_4.setTop (mkF m 52 #[.val (.ref b), .val (.int i34), .val (.int cx)] [(.int i51), (.int i34), (.ref b)]))
  have vq_5 := V_3
  obtain ⟨cl_5, Ar_5, q_5, S_5, Nn_5, H_5, G_5⟩ := vq_5
  have hin_5 : ¬ (i34 < 0 ∨ cl_5.slots.size ≤ (i34).toNatClampNeg) := inb_of S_5 ⟨(nlt32 (by omega)), (lt32 (by omega))⟩
  obtain ⟨T_5, h_5, X_5, e_5, W_5, st_5⟩ := stB X_4 hx hZ e_4 Ar_5 (j := i34) hin_5 (g := (mkF m 52 #[.val (.ref b), .val (.int i34), .val (.int cx)] [(.int i51), (.int i34), (.ref b)])) rfl rfl (hb hby d5_52)
  have hv_5 : (nar .byte i51) = (hi8 cx) := by rw [← hi51, ← hi50]; rfl
  rw [hv_5] at W_5
  have V_5 : Arv Z h_5 b kb .byte zb ((vl.set (2 * k0) (.int (lo8 cx))).set (2 * k0 + 1) (.int (hi8 cx))) (.int (0 : Int32)) := Arv.set Ar_5 q_5 S_5 Nn_5 H_5 G_5 (by rw [← hv_5]; exact (fits_nar_byte _)) W_5 (2 * k0 + 1) (cl32 v34) (by rw [List.length_set]; omega)
  have N_5 := Fr.snoc X_5 N_3 g_b
  have K_5 : Keep h0 h_5 [b] := K_3.wr W_5 (Or.inl (List.mem_of_getElem? (i := 0) rfl))
  have Z_5 : n0 ≤ h_5.size := Nat.le_trans Z_3 (Keep.of_wr W_5).1
  refine Go.step (fun t k => st_5 t k) ?_
  show Go p.tables e below P (T_5.setTop (mkF m 53 #[.val (.ref b), .val (.int i34), .val (.int cx)] []))
  exact voidGo X_5 hx hP Bd.returns hlk (hb hby d5_53) (by decide) (by decide) (by rw [e_5]; exact ⟨rfl, N_5, K_5, V_5⟩)
theorem d6_0 : decode jdk_52_method_21_code 0 = .ok (.iconst 0, 1) := by decide +kernel
theorem d6_1 : decode jdk_52_method_21_code 1 = .ok (.istore 5, 2) := by decide +kernel
theorem d6_3 : decode jdk_52_method_21_code 3 = .ok (.iload 5, 2) := by decide +kernel
theorem d6_5 : decode jdk_52_method_21_code 5 = .ok (.iload 4, 2) := by decide +kernel
theorem d6_7 : decode jdk_52_method_21_code 7 = .ok (.if_icmp .ge 37, 3) := by decide +kernel
theorem d6_10 : decode jdk_52_method_21_code 10 = .ok (.aload_n 0, 1) := by decide +kernel
theorem d6_11 : decode jdk_52_method_21_code 11 = .ok (.iload_n 1, 1) := by decide +kernel
theorem d6_12 : decode jdk_52_method_21_code 12 = .ok (.caload, 1) := by decide +kernel
theorem d6_13 : decode jdk_52_method_21_code 13 = .ok (.istore 6, 2) := by decide +kernel
theorem d6_15 : decode jdk_52_method_21_code 15 = .ok (.iload 6, 2) := by decide +kernel
theorem d6_17 : decode jdk_52_method_21_code 17 = .ok (.sipush 255, 3) := by decide +kernel
theorem d6_20 : decode jdk_52_method_21_code 20 = .ok (.if_icmp .le 6, 3) := by decide +kernel
theorem d6_23 : decode jdk_52_method_21_code 23 = .ok (.iload 5, 2) := by decide +kernel
theorem d6_25 : decode jdk_52_method_21_code 25 = .ok (.ireturn, 1) := by decide +kernel
theorem d6_26 : decode jdk_52_method_21_code 26 = .ok (.aload_n 2, 1) := by decide +kernel
theorem d6_27 : decode jdk_52_method_21_code 27 = .ok (.iload_n 3, 1) := by decide +kernel
theorem d6_28 : decode jdk_52_method_21_code 28 = .ok (.iload 6, 2) := by decide +kernel
theorem d6_30 : decode jdk_52_method_21_code 30 = .ok (.i2b, 1) := by decide +kernel
theorem d6_31 : decode jdk_52_method_21_code 31 = .ok (.bastore, 1) := by decide +kernel
theorem d6_32 : decode jdk_52_method_21_code 32 = .ok (.iinc 1 1, 3) := by decide +kernel
theorem d6_35 : decode jdk_52_method_21_code 35 = .ok (.iinc 3 1, 3) := by decide +kernel
theorem d6_38 : decode jdk_52_method_21_code 38 = .ok (.iinc 5 1, 3) := by decide +kernel
theorem d6_41 : decode jdk_52_method_21_code 41 = .ok (.goto (-38), 3) := by decide +kernel
theorem d6_44 : decode jdk_52_method_21_code 44 = .ok (.iload 4, 2) := by decide +kernel
theorem d6_46 : decode jdk_52_method_21_code 46 = .ok (.ireturn, 1) := by decide +kernel
theorem pn_6 : plainName "java/lang/StringUTF16" = true := by first | (simp [plainName, overriddenIn]; done) | decide +kernel
theorem ef_6 (m : MethodId) (x0 : Addr) (x1 : Int32) (x2 : Addr) (x3 : Int32) (x4 : Int32) : entryFrame m #[(.ref x0), (.int x1), (.ref x2), (.int x3), (.int x4)] 7 = mkF m 0 #[.val (.ref x0), .val (.int x1), .val (.ref x2), .val (.int x3), .val (.int x4), .unset, .unset] [] := by first | (simp [entryFrame, mkF, argsToLocals, Value.category]; done) | rfl
def Q6 (Z : State) (ca : Addr) (ds : Addr) (zn : Int32) (kc : ClassId) (kd : ClassId) (cs : List Int32) (vd : List Value) (h0 : Heap) (n0 : Nat) (v : Option Value) (h : Heap) (L : List Loc) : Prop := ∃ (r : Int32) (vf : List Value), v = some (.int r) ∧ ((r.toInt = (cs.length : Int) ∧ ∀ x ∈ cs, x.toInt ≤ 255) ∨ (∃ k1 : Nat, k1 < cs.length ∧ r.toInt = (k1 : Int) ∧ 255 < (cs.getD k1 0).toInt)) ∧ Fr n0 L ∧ Keep h0 h [ds] ∧ vf.length = cs.length ∧ Arv Z h ds kd .byte zn vf (.int (0 : Int32))
set_option maxRecDepth 65536 in
set_option maxHeartbeats 40000000 in
theorem rm6 (l : Launch) (Z : State) (a0 : Array Value) (hw : ∀ d ∈ tables_1, d.before a0 Z = true) (ws : List Jvm.Cond) (ca : Addr) (ds : Addr) (zn : Int32) (kc : ClassId) (kd : ClassId) (cs : List Int32) (vd : List Value) (h0 : Heap) (n0 : Nat) (Z0 : n0 ≤ h0.size) (Vc : Arv Z h0 ca kc .char zn (cs.map Value.int) (.int (0 : Int32))) (hz : zn.toInt = (cs.length : Int)) (hn : cs.length ≤ 12) (hc : ∀ x ∈ cs, 0 ≤ x.toInt ∧ x.toInt < 65536) (Vd : Arv Z h0 ds kd .byte zn vd (.int (0 : Int32))) (hvd : vd.length = cs.length) (ncd : ca ≠ ds) (g_ds : n0 ≤ ds) :
    MetFree l (⟨"java/lang/StringUTF16", "compress", "([CI[BII)I"⟩ : MethodName) (head1 (Jvm.Cond.code (⟨"java/lang/StringUTF16", "compress", "([CI[BII)I"⟩ : MethodName) jdk_52_method_21_code 7 (some .int) :: ws) ({ frames := 0, cells := 0, slots := 0, locals := 0 } : Room)) (fun a_ U => a_ = #[(.ref ca), (.int (0 : Int32)), (.ref ds), (.int (0 : Int32)), (.int zn)] ∧ Z.Warmed39 U.vm ∧ U.heap = h0) (fun _ _ _ _ _ => True) (fun _ U o U' => ∃ v L, o = .returned v ∧ Q6 Z ca ds zn kc kd cs vd h0 n0 v U'.heap L ∧ FrameEnd U o U' L (({ frames := 0, cells := 0, slots := 0, locals := 0 } : Room)).cells (({ frames := 0, cells := 0, slots := 0, locals := 0 } : Room)).slots) := by
  refine MetFree.of_bodySF (plainFor_of_name pn_6) hisR ?_
  intro p e s m args below meth c s₁ Bd hml0 hP0 hK
  obtain ⟨rfl, hZ, hh⟩ := hP0
  have hx := Bd.exec
  have hby := Bd.bytes
  have hml : c.maxLocals = 7 := hml0
  have hown : s.vm.findClass "java/lang/StringUTF16" = some m.cls := findClass_of_methodNamed Bd.named
  have hnm := (name_of_methodNamed Bd.named Bd.method).1
  have X0 : Stand p l e ({ frames := 0, cells := 0, slots := 0, locals := 0 } : Room) s m #[(.ref ca), (.int (0 : Int32)), (.ref ds), (.int (0 : Int32)), (.int zn)] below meth c s₁ [] 0 0 := Stand.of_body Bd
  have e0 : s₁.heap = h0 := by rw [← hh, Bd.state]; rfl
  have N0 := Fr.nil n0
  have hlk : meth.locks = false := BodyLoose.notSynchronized Bd
  refine Go.start (P₀ := fun s₂ o => ∃ v L, o = .returned v ∧ Q6 Z ca ds zn kc kd cs vd h0 n0 v s₂.heap L ∧ FrameEnd s o s₂ L (({ frames := 0, cells := 0, slots := 0, locals := 0 } : Room)).cells (({ frames := 0, cells := 0, slots := 0, locals := 0 } : Room)).slots) (congrArg s₁.setTop (ef_6 m ca (0 : Int32) ds (0 : Int32) zn)) ?_
  intro P hP
  show Go p.tables e below P (s₁.setTop (mkF m 0 #[.val (.ref ca), .val (.int (0 : Int32)), .val (.ref ds), .val (.int (0 : Int32)), .val (.int zn), .unset, .unset] []))
  have e1 : (1 : Int32).toInt = 1 := rfl
  refine Go.step (fun t k => XS.iconst X0.here hx rfl (hb hby d6_0) k) ?_
  show Go p.tables e below P (s₁.setTop (mkF m 1 #[.val (.ref ca), .val (.int (0 : Int32)), .val (.ref ds), .val (.int (0 : Int32)), .val (.int zn), .unset, .unset] [(.int (0 : Int32))]))
  refine Go.step (fun t k => XS.istore X0.here hx rfl (hb hby d6_1) rfl (l' := #[.val (.ref ca), .val (.int (0 : Int32)), .val (.ref ds), .val (.int (0 : Int32)), .val (.int zn), .val (.int (0 : Int32)), .unset]) rfl k) ?_
  show Go p.tables e below P (s₁.setTop (mkF m 3 #[.val (.ref ca), .val (.int (0 : Int32)), .val (.ref ds), .val (.int (0 : Int32)), .val (.int zn), .val (.int (0 : Int32)), .unset] []))
  have LP : ∀ (r : Nat) (ia ib ic : Int32) (s6 : Slot) (k0 : Nat) (vf : List Value) (TL : State) (LL : List Loc) (hL : Heap) (XL : Stand p l e ({ frames := 0, cells := 0, slots := 0, locals := 0 } : Room) s m #[(.ref ca), (.int (0 : Int32)), (.ref ds), (.int (0 : Int32)), (.int zn)] below meth c TL LL 0 0) (NL : Fr n0 LL) (eL : TL.heap = hL) (KL : Keep h0 hL [ds]) (VL : Arv Z hL ds kd .byte zn vf (.int (0 : Int32))), (vf.length = cs.length ∧ ia.toInt = (k0 : Int) ∧ ib.toInt = (k0 : Int) ∧ ic.toInt = (k0 : Int) ∧ k0 + r = cs.length ∧ (∀ j, j < k0 → (cs.getD j 0).toInt ≤ 255) ∧ (s6 = .unset ∨ ∃ x : Int32, s6 = .val (.int x))) → Go p.tables e below P (TL.setTop (mkF m 3 #[.val (.ref ca), .val (.int ia), .val (.ref ds), .val (.int ib), .val (.int zn), .val (.int ic), s6] [])) := by
    intro r
    induction r with
    | zero =>
      intro ia ib ic s6 k0 vf TL LL hL XL NL eL KL VL hyp
      obtain ⟨hvf, hia, hib, hic, hkr, hall, hs6⟩ := hyp
      show Go p.tables e below P (TL.setTop (mkF m 3 #[.val (.ref ca), .val (.int ia), .val (.ref ds), .val (.int ib), .val (.int zn), .val (.int ic), s6] []))
      refine Go.step (fun t k => XS.iload XL.here hx rfl (hb hby d6_3) rfl  k) ?_
      show Go p.tables e below P (TL.setTop (mkF m 5 #[.val (.ref ca), .val (.int ia), .val (.ref ds), .val (.int ib), .val (.int zn), .val (.int ic), s6] [(.int ic)]))
      refine Go.step (fun t k => XS.iload XL.here hx rfl (hb hby d6_5) rfl  k) ?_
      show Go p.tables e below P (TL.setTop (mkF m 7 #[.val (.ref ca), .val (.int ia), .val (.ref ds), .val (.int ib), .val (.int zn), .val (.int ic), s6] [(.int zn), (.int ic)]))
      refine Go.step (fun t k => XS.icmpYes XL.here hx rfl (pc0 := 7) (pc' := 44) rfl (hb hby d6_7) rfl (icY (cd := .ge) (by omega : zn.toInt ≤ ic.toInt)) (by decide) (by decide) k) ?_
      show Go p.tables e below P (TL.setTop (mkF m 44 #[.val (.ref ca), .val (.int ia), .val (.ref ds), .val (.int ib), .val (.int zn), .val (.int ic), s6] []))
      refine Go.step (fun t k => XS.iload XL.here hx rfl (hb hby d6_44) rfl  k) ?_
      show Go p.tables e below P (TL.setTop (mkF m 46 #[.val (.ref ca), .val (.int ia), .val (.ref ds), .val (.int ib), .val (.int zn), .val (.int ic), s6] [(.int zn)]))
      exact retGo XL hx hP Bd.returns hlk rfl (Or.inl ⟨rfl, Or.inl rfl, _, rfl⟩) (hb hby d6_46) (by decide) (by decide) (by rw [eL]; exact ⟨zn, vf, rfl, Or.inl ⟨hz, all_getD (P := fun x => x.toInt ≤ 255) fun j hj => hall j (by omega)⟩, NL, KL, hvf, VL⟩)
    | succ r ih =>
      intro ia ib ic s6 k0 vf TL LL hL XL NL eL KL VL hyp
      obtain ⟨hvf, hia, hib, hic, hkr, hall, hs6⟩ := hyp
      show Go p.tables e below P (TL.setTop (mkF m 3 #[.val (.ref ca), .val (.int ia), .val (.ref ds), .val (.int ib), .val (.int zn), .val (.int ic), s6] []))
      refine Go.step (fun t k => XS.iload XL.here hx rfl (hb hby d6_3) rfl  k) ?_
      show Go p.tables e below P (TL.setTop (mkF m 5 #[.val (.ref ca), .val (.int ia), .val (.ref ds), .val (.int ib), .val (.int zn), .val (.int ic), s6] [(.int ic)]))
      refine Go.step (fun t k => XS.iload XL.here hx rfl (hb hby d6_5) rfl  k) ?_
      show Go p.tables e below P (TL.setTop (mkF m 7 #[.val (.ref ca), .val (.int ia), .val (.ref ds), .val (.int ib), .val (.int zn), .val (.int ic), s6] [(.int zn), (.int ic)]))
      refine Go.step (fun t k => XS.icmpNo XL.here hx rfl (hb hby d6_7) rfl (icN (cd := .ge) (by omega : ¬ (zn.toInt ≤ ic.toInt))) k) ?_
      show Go p.tables e below P (TL.setTop (mkF m 10 #[.val (.ref ca), .val (.int ia), .val (.ref ds), .val (.int ib), .val (.int zn), .val (.int ic), s6] []))
      have hcc := hc _ (mem_getD cs k0 (by omega))
      refine Go.step (fun t k => XS.aloadN XL.here hx rfl (hb hby d6_10) rfl rfl k) ?_
      show Go p.tables e below P (TL.setTop (mkF m 11 #[.val (.ref ca), .val (.int ia), .val (.ref ds), .val (.int ib), .val (.int zn), .val (.int ic), s6] [(.ref ca)]))
      refine Go.step (fun t k => XS.iloadN XL.here hx rfl (hb hby d6_11) rfl  k) ?_
      show Go p.tables e below P (TL.setTop (mkF m 12 #[.val (.ref ca), .val (.int ia), .val (.ref ds), .val (.int ib), .val (.int zn), .val (.int ic), s6] [(.int ia), (.ref ca)]))
      have vq_1 := (Vc.keep KL (by simp [ncd]))
      obtain ⟨cl_1, Ar_1, q_1, S_1, Nn_1, H_1, G_1⟩ := vq_1
      have hin_1 : ¬ (ia < 0 ∨ cl_1.slots.size ≤ (ia).toNatClampNeg) := inb_of S_1 ⟨nlt32 (by omega), lt32 (by omega)⟩
      have hat_1 : cl_1.slots[(ia).toNatClampNeg]? = some (.int (cs.getD k0 0)) := Has.at H_1 hin_1 (by rw [cl32 hia]; exact map_getD cs k0 _ (by omega))
      refine Go.step (fun t k => XL.caload hx (j := ia) (v := (.int (cs.getD k0 0))) (by rw [eL]; exact Ar_1.1) (State.isArrayOf_alike hZ.alike Ar_1.2.1) Ar_1.2.2 hin_1 hat_1 (g := (mkF m 12 #[.val (.ref ca), .val (.int ia), .val (.ref ds), .val (.int ib), .val (.int zn), .val (.int ic), s6] [(.int ia), (.ref ca)])) rfl rfl (hb hby d6_12) t k) ?_
      show Go p.tables e below P (TL.setTop (mkF m 13 #[.val (.ref ca), .val (.int ia), .val (.ref ds), .val (.int ib), .val (.int zn), .val (.int ic), s6] [(.int (cs.getD k0 0))]))
      refine Go.step (fun t k => XS.istore XL.here hx rfl (hb hby d6_13) rfl (l' := #[.val (.ref ca), .val (.int ia), .val (.ref ds), .val (.int ib), .val (.int zn), .val (.int ic), .val (.int (cs.getD k0 0))]) (by rcases hs6 with rfl | ⟨x6, rfl⟩ <;> rfl) k) ?_
      show Go p.tables e below P (TL.setTop (mkF m 15 #[.val (.ref ca), .val (.int ia), .val (.ref ds), .val (.int ib), .val (.int zn), .val (.int ic), .val (.int (cs.getD k0 0))] []))
      refine Go.step (fun t k => XS.iload XL.here hx rfl (hb hby d6_15) rfl  k) ?_
      show Go p.tables e below P (TL.setTop (mkF m 17 #[.val (.ref ca), .val (.int ia), .val (.ref ds), .val (.int ib), .val (.int zn), .val (.int ic), .val (.int (cs.getD k0 0))] [(.int (cs.getD k0 0))]))
      refine Go.step (fun t k => XS.sipush XL.here hx rfl (hb hby d6_17) k) ?_
      show Go p.tables e below P (TL.setTop (mkF m 20 #[.val (.ref ca), .val (.int ia), .val (.ref ds), .val (.int ib), .val (.int zn), .val (.int ic), .val (.int (cs.getD k0 0))] [(.int (255 : Int32)), (.int (cs.getD k0 0))]))
      by_cases hc20 : (cs.getD k0 0).toInt ≤ (255 : Int)
      · refine Go.step (fun t k => XS.icmpYes XL.here hx rfl (pc0 := 20) (pc' := 26) rfl (hb hby d6_20) rfl (icY (cd := .le) hc20) (by decide) (by decide) k) ?_
        show Go p.tables e below P (TL.setTop (mkF m 26 #[.val (.ref ca), .val (.int ia), .val (.ref ds), .val (.int ib), .val (.int zn), .val (.int ic), .val (.int (cs.getD k0 0))] []))
        refine Go.step (fun t k => XS.aloadN XL.here hx rfl (hb hby d6_26) rfl rfl k) ?_
        show Go p.tables e below P (TL.setTop (mkF m 27 #[.val (.ref ca), .val (.int ia), .val (.ref ds), .val (.int ib), .val (.int zn), .val (.int ic), .val (.int (cs.getD k0 0))] [(.ref ds)]))
        refine Go.step (fun t k => XS.iloadN XL.here hx rfl (hb hby d6_27) rfl  k) ?_
        show Go p.tables e below P (TL.setTop (mkF m 28 #[.val (.ref ca), .val (.int ia), .val (.ref ds), .val (.int ib), .val (.int zn), .val (.int ic), .val (.int (cs.getD k0 0))] [(.int ib), (.ref ds)]))
        refine Go.step (fun t k => XS.iload XL.here hx rfl (hb hby d6_28) rfl  k) ?_
        show Go p.tables e below P (TL.setTop (mkF m 30 #[.val (.ref ca), .val (.int ia), .val (.ref ds), .val (.int ib), .val (.int zn), .val (.int ic), .val (.int (cs.getD k0 0))] [(.int (cs.getD k0 0)), (.int ib), (.ref ds)]))
        obtain ⟨i30, hi30⟩ : ∃ z : Int32, (cs.getD k0 0).toInt8.toInt32 = z := ⟨_, rfl⟩
        refine Go.step (fun t k => i2b_v XL.here hx rfl (hb hby d6_30) rfl hi30 k) ?_
        show Go p.tables e below P (TL.setTop (mkF m 31 #[.val (.ref ca), .val (.int ia), .val (.ref ds), .val (.int ib), .val (.int zn), .val (.int ic), .val (.int (cs.getD k0 0))] [(.int i30), (.int ib), (.ref ds)]))
        have vq_2 := VL
        obtain ⟨cl_2, Ar_2, q_2, S_2, Nn_2, H_2, G_2⟩ := vq_2
        have hin_2 : ¬ (ib < 0 ∨ cl_2.slots.size ≤ (ib).toNatClampNeg) := inb_of S_2 ⟨(nlt32 (by omega)), (lt32 (by omega))⟩
        obtain ⟨T_2, h_2, X_2, e_2, W_2, st_2⟩ := stB XL hx hZ eL Ar_2 (j := ib) hin_2 (g := (mkF m 31 #[.val (.ref ca), .val (.int ia), .val (.ref ds), .val (.int ib), .val (.int zn), .val (.int ic), .val (.int (cs.getD k0 0))] [(.int i30), (.int ib), (.ref ds)])) rfl rfl (hb hby d6_31)
        have V_2 : Arv Z h_2 ds kd .byte zn (vf.set (k0) (.int (nar .byte i30))) (.int (0 : Int32)) := Arv.set Ar_2 q_2 S_2 Nn_2 H_2 G_2 (fits_nar_byte _) W_2 (k0) (cl32 hib) (by omega)
        have N_2 := Fr.snoc X_2 NL g_ds
        have K_2 : Keep h0 h_2 [ds] := KL.wr W_2 (Or.inl (List.mem_of_getElem? (i := 0) rfl))
        have Z_2 : n0 ≤ h_2.size := Nat.le_trans (Nat.le_trans Z0 KL.1) (Keep.of_wr W_2).1
        refine Go.step (fun t k => st_2 t k) ?_
        show Go p.tables e below P (T_2.setTop (mkF m 32 #[.val (.ref ca), .val (.int ia), .val (.ref ds), .val (.int ib), .val (.int zn), .val (.int ic), .val (.int (cs.getD k0 0))] []))
        obtain ⟨i32, hi32⟩ : ∃ z : Int32, ia + (1 : Int32) = z := ⟨_, rfl⟩
        refine Go.step (fun t k => XS.iinc X_2.here hx rfl (hb hby d6_32) rfl (l' := #[.val (.ref ca), .val (.int (ia + (1 : Int32))), .val (.ref ds), .val (.int ib), .val (.int zn), .val (.int ic), .val (.int (cs.getD k0 0))]) rfl k) ?_
        show Go p.tables e below P (T_2.setTop (mkF m 35 #[.val (.ref ca), .val (.int (ia + (1 : Int32))), .val (.ref ds), .val (.int ib), .val (.int zn), .val (.int ic), .val (.int (cs.getD k0 0))] []))
        rw [hi32]
        show Go p.tables e below P (T_2.setTop (mkF m 35 #[.val (.ref ca), .val (.int i32), .val (.ref ds), .val (.int ib), .val (.int zn), .val (.int ic), .val (.int (cs.getD k0 0))] []))
        obtain ⟨i35, hi35⟩ : ∃ z : Int32, ib + (1 : Int32) = z := ⟨_, rfl⟩
        refine Go.step (fun t k => XS.iinc X_2.here hx rfl (hb hby d6_35) rfl (l' := #[.val (.ref ca), .val (.int i32), .val (.ref ds), .val (.int (ib + (1 : Int32))), .val (.int zn), .val (.int ic), .val (.int (cs.getD k0 0))]) rfl k) ?_
        show Go p.tables e below P (T_2.setTop (mkF m 38 #[.val (.ref ca), .val (.int i32), .val (.ref ds), .val (.int (ib + (1 : Int32))), .val (.int zn), .val (.int ic), .val (.int (cs.getD k0 0))] []))
        rw [hi35]
        show Go p.tables e below P (T_2.setTop (mkF m 38 #[.val (.ref ca), .val (.int i32), .val (.ref ds), .val (.int i35), .val (.int zn), .val (.int ic), .val (.int (cs.getD k0 0))] []))
        obtain ⟨i38, hi38⟩ : ∃ z : Int32, ic + (1 : Int32) = z := ⟨_, rfl⟩
        refine Go.step (fun t k => XS.iinc X_2.here hx rfl (hb hby d6_38) rfl (l' := #[.val (.ref ca), .val (.int i32), .val (.ref ds), .val (.int i35), .val (.int zn), .val (.int (ic + (1 : Int32))), .val (.int (cs.getD k0 0))]) rfl k) ?_
        show Go p.tables e below P (T_2.setTop (mkF m 41 #[.val (.ref ca), .val (.int i32), .val (.ref ds), .val (.int i35), .val (.int zn), .val (.int (ic + (1 : Int32))), .val (.int (cs.getD k0 0))] []))
        rw [hi38]
        show Go p.tables e below P (T_2.setTop (mkF m 41 #[.val (.ref ca), .val (.int i32), .val (.ref ds), .val (.int i35), .val (.int zn), .val (.int i38), .val (.int (cs.getD k0 0))] []))
        refine Go.step (fun t k => XS.goto X_2.here hx rfl (pc0 := 41) (pc' := 3) rfl (hb hby d6_41) (by decide) (by decide) k) ?_
        show Go p.tables e below P (T_2.setTop (mkF m 3 #[.val (.ref ca), .val (.int i32), .val (.ref ds), .val (.int i35), .val (.int zn), .val (.int i38), .val (.int (cs.getD k0 0))] []))
        have f32 := c_iadd ia (1 : Int32); rw [hi32, e1] at f32
        have g32 := rng32 i32
        have f35 := c_iadd ib (1 : Int32); rw [hi35, e1] at f35
        have g35 := rng32 i35
        have f38 := c_iadd ic (1 : Int32); rw [hi38, e1] at f38
        have g38 := rng32 i38
        exact ih i32 i35 i38 _ (k0 + 1) _ _ _ _ X_2 N_2 e_2 K_2 V_2 ⟨by rw [List.length_set]; exact hvf, by omega, by omega, by omega, by omega, fun j hj => (by rcases Nat.lt_or_ge j k0 with q | q; exact hall j q; have ejk : j = k0 := (by omega); rw [ejk]; have z5 : (255 : Int32).toInt = 255 := rfl; omega), Or.inr ⟨_, rfl⟩⟩
      · refine Go.step (fun t k => XS.icmpNo XL.here hx rfl (hb hby d6_20) rfl (icN (cd := .le) hc20) k) ?_
        show Go p.tables e below P (TL.setTop (mkF m 23 #[.val (.ref ca), .val (.int ia), .val (.ref ds), .val (.int ib), .val (.int zn), .val (.int ic), .val (.int (cs.getD k0 0))] []))
        refine Go.step (fun t k => XS.iload XL.here hx rfl (hb hby d6_23) rfl  k) ?_
        show Go p.tables e below P (TL.setTop (mkF m 25 #[.val (.ref ca), .val (.int ia), .val (.ref ds), .val (.int ib), .val (.int zn), .val (.int ic), .val (.int (cs.getD k0 0))] [(.int ic)]))
        exact retGo XL hx hP Bd.returns hlk rfl (Or.inl ⟨rfl, Or.inl rfl, _, rfl⟩) (hb hby d6_25) (by decide) (by decide) (by rw [eL]; exact ⟨ic, vf, rfl, Or.inr ⟨k0, by omega, hic, by have z5 : (255 : Int32).toInt = 255 := rfl; omega⟩, NL, KL, hvf, VL⟩)
  exact LP cs.length (0 : Int32) (0 : Int32) (0 : Int32) _ 0 vd _ _ _ X0 N0 e0 (Keep.refl h0 [ds]) Vd ⟨hvd, rfl, rfl, rfl, by omega, fun j hj => absurd hj (Nat.not_lt_zero _), Or.inl rfl⟩
theorem d7_0 : decode jdk_52_method_3_code 0 = .ok (.iload_n 0, 1) := by decide +kernel
theorem d7_1 : decode jdk_52_method_3_code 1 = .ok (.ifCond .ge 11, 3) := by decide +kernel
theorem d7_12 : decode jdk_52_method_3_code 12 = .ok (.iload_n 0, 1) := by decide +kernel
theorem d7_13 : decode jdk_52_method_3_code 13 = .ok (.ldc 20, 2) := by decide +kernel
theorem d7_15 : decode jdk_52_method_3_code 15 = .ok (.if_icmp .lt 40, 3) := by decide +kernel
theorem d7_55 : decode jdk_52_method_3_code 55 = .ok (.iload_n 0, 1) := by decide +kernel
theorem d7_56 : decode jdk_52_method_3_code 56 = .ok (.iconst 1, 1) := by decide +kernel
theorem d7_57 : decode jdk_52_method_3_code 57 = .ok (.ishl, 1) := by decide +kernel
theorem d7_58 : decode jdk_52_method_3_code 58 = .ok (.ireturn, 1) := by decide +kernel
theorem pn_7 : plainName "java/lang/StringUTF16" = true := by first | (simp [plainName, overriddenIn]; done) | decide +kernel
theorem ef_7 (m : MethodId) (x0 : Int32) : entryFrame m #[(.int x0)] 1 = mkF m 0 #[.val (.int x0)] [] := by first | (simp [entryFrame, mkF, argsToLocals, Value.category]; done) | rfl
def Q7 (Z : State) (zn : Int32) (h0 : Heap) (n0 : Nat) (v : Option Value) (h : Heap) (L : List Loc) : Prop := ∃ r : Int32, v = some (.int r) ∧ r.toInt = 2 * zn.toInt ∧ Fr n0 L ∧ h = h0
set_option maxRecDepth 65536 in
set_option maxHeartbeats 40000000 in
theorem rm7 (l : Launch) (Z : State) (a0 : Array Value) (hw : ∀ d ∈ tables_1, d.before a0 Z = true) (ws : List Jvm.Cond) (zn : Int32) (h0 : Heap) (n0 : Nat) (Z0 : n0 ≤ h0.size) (hz : 0 ≤ zn.toInt ∧ zn.toInt ≤ 12) :
    MetFree l (⟨"java/lang/StringUTF16", "newBytesLength", "(I)I"⟩ : MethodName) (head1 (Jvm.Cond.code (⟨"java/lang/StringUTF16", "newBytesLength", "(I)I"⟩ : MethodName) jdk_52_method_3_code 1 (some .int) :: ws) ({ frames := 0, cells := 0, slots := 0, locals := 0 } : Room)) (fun a_ U => a_ = #[(.int zn)] ∧ Z.Warmed39 U.vm ∧ U.heap = h0) (fun _ _ _ _ _ => True) (fun _ U o U' => ∃ v L, o = .returned v ∧ Q7 Z zn h0 n0 v U'.heap L ∧ FrameEnd U o U' L (({ frames := 0, cells := 0, slots := 0, locals := 0 } : Room)).cells (({ frames := 0, cells := 0, slots := 0, locals := 0 } : Room)).slots) := by
  refine MetFree.of_bodySF (plainFor_of_name pn_7) hisR ?_
  intro p e s m args below meth c s₁ Bd hml0 hP0 hK
  obtain ⟨rfl, hZ, hh⟩ := hP0
  have hx := Bd.exec
  have hby := Bd.bytes
  have hml : c.maxLocals = 1 := hml0
  have hown : s.vm.findClass "java/lang/StringUTF16" = some m.cls := findClass_of_methodNamed Bd.named
  have hnm := (name_of_methodNamed Bd.named Bd.method).1
  have X0 : Stand p l e ({ frames := 0, cells := 0, slots := 0, locals := 0 } : Room) s m #[(.int zn)] below meth c s₁ [] 0 0 := Stand.of_body Bd
  have e0 : s₁.heap = h0 := by rw [← hh, Bd.state]; rfl
  have N0 := Fr.nil n0
  have hlk : meth.locks = false := BodyLoose.notSynchronized Bd
  refine Go.start (P₀ := fun s₂ o => ∃ v L, o = .returned v ∧ Q7 Z zn h0 n0 v s₂.heap L ∧ FrameEnd s o s₂ L (({ frames := 0, cells := 0, slots := 0, locals := 0 } : Room)).cells (({ frames := 0, cells := 0, slots := 0, locals := 0 } : Room)).slots) (congrArg s₁.setTop (ef_7 m zn)) ?_
  intro P hP
  show Go p.tables e below P (s₁.setTop (mkF m 0 #[.val (.int zn)] []))
  refine Go.step (fun t k => XS.iloadN X0.here hx rfl (hb hby d7_0) rfl  k) ?_
  show Go p.tables e below P (s₁.setTop (mkF m 1 #[.val (.int zn)] [(.int zn)]))
  refine Go.step (fun t k => XS.ifYes X0.here hx rfl (pc0 := 1) (pc' := 12) rfl (hb hby d7_1) rfl (ifY (cd := .ge) (by omega : 0 ≤ zn.toInt)) (by decide) (by decide) k) ?_
  show Go p.tables e below P (s₁.setTop (mkF m 12 #[.val (.int zn)] []))
  refine Go.step (fun t k => XS.iloadN X0.here hx rfl (hb hby d7_12) rfl  k) ?_
  show Go p.tables e below P (s₁.setTop (mkF m 13 #[.val (.int zn)] [(.int zn)]))
  refine Go.step (fun t k => X0.ldcInt hx hown (mvT hZ (hw _ (List.mem_of_getElem? (i := 86) rfl))) (g := (mkF m 13 #[.val (.int zn)] [(.int zn)])) rfl (hb hby d7_13) t k) ?_
  show Go p.tables e below P (s₁.setTop (mkF m 15 #[.val (.int zn)] [(.int (1073741823 : Int32)), (.int zn)]))
  refine Go.step (fun t k => XS.icmpYes X0.here hx rfl (pc0 := 15) (pc' := 55) rfl (hb hby d7_15) rfl (icY (cd := .lt) (by omega : zn.toInt < (1073741823 : Int))) (by decide) (by decide) k) ?_
  show Go p.tables e below P (s₁.setTop (mkF m 55 #[.val (.int zn)] []))
  refine Go.step (fun t k => XS.iloadN X0.here hx rfl (hb hby d7_55) rfl  k) ?_
  show Go p.tables e below P (s₁.setTop (mkF m 56 #[.val (.int zn)] [(.int zn)]))
  refine Go.step (fun t k => XS.iconst X0.here hx rfl (hb hby d7_56) k) ?_
  show Go p.tables e below P (s₁.setTop (mkF m 57 #[.val (.int zn)] [(.int (1 : Int32)), (.int zn)]))
  obtain ⟨i57, hi57⟩ : ∃ z : Int32, (zn <<< ((1 : Int32) &&& 31)) = z := ⟨_, rfl⟩
  refine Go.step (fun t k => ishl_v X0.here hx rfl (hb hby d7_57) rfl  hi57 k) ?_
  show Go p.tables e below P (s₁.setTop (mkF m 58 #[.val (.int zn)] [(.int i57)]))
  have f57 := c_ishl zn (1 : Int32) 1 rfl; rw [hi57] at f57
  have g57 := rng32 i57
  exact retGo X0 hx hP Bd.returns hlk rfl (Or.inl ⟨rfl, Or.inl rfl, _, rfl⟩) (hb hby d7_58) (by decide) (by decide) (by rw [e0]; exact ⟨i57, rfl, by omega, N0, rfl⟩)
theorem d8_0 : decode jdk_52_method_2_code 0 = .ok (.iload_n 0, 1) := by decide +kernel
theorem d8_1 : decode jdk_52_method_2_code 1 = .ok (.invokestatic 11, 3) := by decide +kernel
theorem d8_4 : decode jdk_52_method_2_code 4 = .ok (.newarray .byte, 2) := by decide +kernel
theorem d8_6 : decode jdk_52_method_2_code 6 = .ok (.areturn, 1) := by decide +kernel
theorem pn_8 : plainName "java/lang/StringUTF16" = true := by first | (simp [plainName, overriddenIn]; done) | decide +kernel
theorem ef_8 (m : MethodId) (x0 : Int32) : entryFrame m #[(.int x0)] 1 = mkF m 0 #[.val (.int x0)] [] := by first | (simp [entryFrame, mkF, argsToLocals, Value.category]; done) | rfl
def Q8 (Z : State) (zn : Int32) (cs : List Int32) (h0 : Heap) (n0 : Nat) (v : Option Value) (h : Heap) (L : List Loc) : Prop := ∃ (b : Addr) (kb : ClassId) (zb : Int32), v = some (.ref b) ∧ Fr n0 L ∧ Keep h0 h [] ∧ h0.size ≤ b ∧ zb.toInt = 2 * (cs.length : Int) ∧ Arv Z h b kb .byte zb (tk cs 0) (.int (0 : Int32))
set_option maxRecDepth 65536 in
set_option maxHeartbeats 40000000 in
theorem rm8 (l : Launch) (Z : State) (a0 : Array Value) (hw : ∀ d ∈ tables_1, d.before a0 Z = true) (ws : List Jvm.Cond) (zn : Int32) (cs : List Int32) (h0 : Heap) (n0 : Nat) (Z0 : n0 ≤ h0.size) (hz : zn.toInt = (cs.length : Int)) (hn : cs.length ≤ 12) :
    MetFree l (⟨"java/lang/StringUTF16", "newBytesFor", "(I)[B"⟩ : MethodName) (head1 (Jvm.Cond.code (⟨"java/lang/StringUTF16", "newBytesFor", "(I)[B"⟩ : MethodName) jdk_52_method_2_code 1 (some (.array .byte)) :: ws) ({ frames := 1, cells := 1, slots := 24, locals := 12 } : Room)) (fun a_ U => a_ = #[(.int zn)] ∧ Z.Warmed39 U.vm ∧ U.heap = h0) (fun _ _ _ _ _ => True) (fun _ U o U' => ∃ v L, o = .returned v ∧ Q8 Z zn cs h0 n0 v U'.heap L ∧ FrameEnd U o U' L (({ frames := 1, cells := 1, slots := 24, locals := 12 } : Room)).cells (({ frames := 1, cells := 1, slots := 24, locals := 12 } : Room)).slots) := by
  refine MetFree.of_bodySF (plainFor_of_name pn_8) hisR ?_
  intro p e s m args below meth c s₁ Bd hml0 hP0 hK
  obtain ⟨rfl, hZ, hh⟩ := hP0
  have hx := Bd.exec
  have hby := Bd.bytes
  have hml : c.maxLocals = 1 := hml0
  have hown : s.vm.findClass "java/lang/StringUTF16" = some m.cls := findClass_of_methodNamed Bd.named
  have hnm := (name_of_methodNamed Bd.named Bd.method).1
  have X0 : Stand p l e ({ frames := 1, cells := 1, slots := 24, locals := 12 } : Room) s m #[(.int zn)] below meth c s₁ [] 0 0 := Stand.of_body Bd
  have e0 : s₁.heap = h0 := by rw [← hh, Bd.state]; rfl
  have N0 := Fr.nil n0
  have hlk : meth.locks = false := BodyLoose.notSynchronized Bd
  refine Go.start (P₀ := fun s₂ o => ∃ v L, o = .returned v ∧ Q8 Z zn cs h0 n0 v s₂.heap L ∧ FrameEnd s o s₂ L (({ frames := 1, cells := 1, slots := 24, locals := 12 } : Room)).cells (({ frames := 1, cells := 1, slots := 24, locals := 12 } : Room)).slots) (congrArg s₁.setTop (ef_8 m zn)) ?_
  intro P hP
  show Go p.tables e below P (s₁.setTop (mkF m 0 #[.val (.int zn)] []))
  refine Go.step (fun t k => XS.iloadN X0.here hx rfl (hb hby d8_0) rfl  k) ?_
  show Go p.tables e below P (s₁.setTop (mkF m 1 #[.val (.int zn)] [(.int zn)]))
  obtain ⟨_, _, ⟨T_1, L_1, k_1, n_1⟩, -, X_1, ⟨Lc_1, hQ_1, l_1, y_1, z_1⟩, st_1⟩ := Jvm.LawKit.callS X0 hx (y := (⟨"java/lang/StringUTF16", "newBytesLength", "(I)I"⟩ : MethodName)) hown (mvT hZ (hw _ (List.mem_of_getElem? (i := 83) rfl))) (mvT hZ (hw _ (List.mem_of_getElem? (i := 84) rfl))) (mvT hZ (hw _ (List.mem_of_getElem? (i := 72) rfl))) (mvT hZ (hw _ (List.mem_of_getElem? (i := 85) rfl))) (by decide) (backOf (W := 0) (rm7 l Z a0 hw [] zn h0 n0 Z0 (by omega)) hZ (hw _ (List.mem_of_getElem? (i := 85) rfl)) (hw _ (List.mem_of_getElem? (i := 72) rfl)) (by decide) (by decide)) (g := (mkF m 1 #[.val (.int zn)] [(.int zn)])) rfl (by rw [hml]; rfl) (argsL := [(.int zn)]) (rest := []) (lenOf pd_2 rfl) rfl (by show 2 * 0 + _ ≤ _; exact Nat.le_of_eq rfl) (hb hby d8_1) (fun _ _ => ⟨rfl, e0, (by decide : 0 + 0 ≤ _), (by decide : 0 + 0 ≤ _)⟩)
  dsimp only [Pt.U, Pt.locs, Pt.cells, Pt.slots] at X_1 l_1 y_1 z_1 st_1 hQ_1
  subst l_1 y_1 z_1
  obtain ⟨zb, rfl, hzb, N_1q, eh_1⟩ := hQ_1
  have N_1 := Fr.app N0 N_1q
  refine Go.step (fun t k => st_1 t k) ?_
  show Go p.tables e below P (T_1.setTop (mkF m 4 #[.val (.int zn)] [(.int zb)]))
  obtain ⟨T_2, h_2, k_2, X_2, e_2, E_2, A_2, st_2⟩ := newP X_1 hx hZ (hw _ (List.mem_of_getElem? (i := 20) rfl)) eh_1 (g := (mkF m 4 #[.val (.int zn)] [(.int zb)])) rfl (hb hby d8_4) rfl (nlt32 (by omega)) (cap := 24) (by show zb.toInt.toNat ≤ 24; omega) (by decide) (by decide) (by decide)
  obtain ⟨b, g_2⟩ : ∃ z, z = h0.size := ⟨_, rfl⟩
  rw [← g_2] at A_2 st_2
  have g_b : n0 ≤ b := Nat.le_trans Z0 (Nat.le_of_eq g_2.symm)
  have sz_b : h0.size ≤ b := Nat.le_trans (Keep.refl h0 []).1 (Nat.le_of_eq g_2.symm)
  have V_2 : Arv Z h_2 b k_2 .byte zb (List.replicate (2 * cs.length) (.int (0 : Int32))) (.int (0 : Int32)) := by have q := (Arv.new A_2 (nlt32 (by omega))).pad (pad_rep [] (.int (0 : Int32)) (2 * cs.length)); rw [List.nil_append] at q; exact q
  have K_2 : Keep h0 h_2 [] := (Keep.refl h0 []).ext E_2
  have Z_2 : n0 ≤ h_2.size := Nat.le_trans Z0 E_2.1
  refine Go.step (fun t k => st_2 t k) ?_
  show Go p.tables e below P (T_2.setTop (mkF m 6 #[.val (.int zn)] [(.ref b)]))
  exact retGo X_2 hx hP Bd.returns hlk rfl (Or.inr (Or.inr (Or.inr (Or.inr ⟨rfl, rfl, rfl⟩)))) (hb hby d8_6) (by decide) (by decide) (by rw [e_2]; exact ⟨b, k_2, zb, rfl, N_1, K_2, sz_b, by omega, by rw [tk_zero]; exact V_2⟩)
theorem d9_0 : decode jdk_52_method_14_code 0 = .ok (.iload_n 2, 1) := by decide +kernel
theorem d9_1 : decode jdk_52_method_14_code 1 = .ok (.invokestatic 107, 3) := by decide +kernel
theorem d9_4 : decode jdk_52_method_14_code 4 = .ok (.astore_n 3, 1) := by decide +kernel
theorem d9_5 : decode jdk_52_method_14_code 5 = .ok (.iconst 0, 1) := by decide +kernel
theorem d9_6 : decode jdk_52_method_14_code 6 = .ok (.istore 4, 2) := by decide +kernel
theorem d9_8 : decode jdk_52_method_14_code 8 = .ok (.iload 4, 2) := by decide +kernel
theorem d9_10 : decode jdk_52_method_14_code 10 = .ok (.iload_n 2, 1) := by decide +kernel
theorem d9_11 : decode jdk_52_method_14_code 11 = .ok (.if_icmp .ge 21, 3) := by decide +kernel
theorem d9_14 : decode jdk_52_method_14_code 14 = .ok (.aload_n 3, 1) := by decide +kernel
theorem d9_15 : decode jdk_52_method_14_code 15 = .ok (.iload 4, 2) := by decide +kernel
theorem d9_17 : decode jdk_52_method_14_code 17 = .ok (.aload_n 0, 1) := by decide +kernel
theorem d9_18 : decode jdk_52_method_14_code 18 = .ok (.iload_n 1, 1) := by decide +kernel
theorem d9_19 : decode jdk_52_method_14_code 19 = .ok (.caload, 1) := by decide +kernel
theorem d9_20 : decode jdk_52_method_14_code 20 = .ok (.invokestatic 111, 3) := by decide +kernel
theorem d9_23 : decode jdk_52_method_14_code 23 = .ok (.iinc 1 1, 3) := by decide +kernel
theorem d9_26 : decode jdk_52_method_14_code 26 = .ok (.iinc 4 1, 3) := by decide +kernel
theorem d9_29 : decode jdk_52_method_14_code 29 = .ok (.goto (-21), 3) := by decide +kernel
theorem d9_32 : decode jdk_52_method_14_code 32 = .ok (.aload_n 3, 1) := by decide +kernel
theorem d9_33 : decode jdk_52_method_14_code 33 = .ok (.areturn, 1) := by decide +kernel
theorem pn_9 : plainName "java/lang/StringUTF16" = true := by first | (simp [plainName, overriddenIn]; done) | decide +kernel
theorem ef_9 (m : MethodId) (x0 : Addr) (x1 : Int32) (x2 : Int32) : entryFrame m #[(.ref x0), (.int x1), (.int x2)] 5 = mkF m 0 #[.val (.ref x0), .val (.int x1), .val (.int x2), .unset, .unset] [] := by first | (simp [entryFrame, mkF, argsToLocals, Value.category]; done) | rfl
def Q9 (Z : State) (ca : Addr) (zn : Int32) (kc : ClassId) (cs : List Int32) (h0 : Heap) (n0 : Nat) (v : Option Value) (h : Heap) (L : List Loc) : Prop := ∃ (b : Addr) (kb : ClassId) (zb : Int32), v = some (.ref b) ∧ Fr n0 L ∧ Keep h0 h [] ∧ h0.size ≤ b ∧ zb.toInt = 2 * (cs.length : Int) ∧ Arv Z h b kb .byte zb (enc cs) (.int (0 : Int32))
set_option maxRecDepth 65536 in
set_option maxHeartbeats 40000000 in
theorem rm9 (l : Launch) (Z : State) (a0 : Array Value) (hw : ∀ d ∈ tables_1, d.before a0 Z = true) (ws : List Jvm.Cond) (ca : Addr) (zn : Int32) (kc : ClassId) (cs : List Int32) (h0 : Heap) (n0 : Nat) (Z0 : n0 ≤ h0.size) (Vc : Arv Z h0 ca kc .char zn (cs.map Value.int) (.int (0 : Int32))) (hz : zn.toInt = (cs.length : Int)) (hn : cs.length ≤ 12) (hc : ∀ x ∈ cs, 0 ≤ x.toInt ∧ x.toInt < 65536) (S0 : Sta Z h0 "java/lang/StringUTF16" "$assertionsDisabled" "Z" (.int (1 : Int32))) (S1 : Sta Z h0 "java/lang/StringUTF16" "HI_BYTE_SHIFT" "I" (.int (0 : Int32))) (S2 : Sta Z h0 "java/lang/StringUTF16" "LO_BYTE_SHIFT" "I" (.int (8 : Int32))) :
    MetFree l (⟨"java/lang/StringUTF16", "toBytes", "([CII)[B"⟩ : MethodName) (head1 (Jvm.Cond.code (⟨"java/lang/StringUTF16", "toBytes", "([CII)[B"⟩ : MethodName) jdk_52_method_14_code 5 (some (.array .byte)) :: ws) ({ frames := 2, cells := 1, slots := 24, locals := 24 } : Room)) (fun a_ U => a_ = #[(.ref ca), (.int (0 : Int32)), (.int zn)] ∧ Z.Warmed39 U.vm ∧ U.heap = h0) (fun _ _ _ _ _ => True) (fun _ U o U' => ∃ v L, o = .returned v ∧ Q9 Z ca zn kc cs h0 n0 v U'.heap L ∧ FrameEnd U o U' L (({ frames := 2, cells := 1, slots := 24, locals := 24 } : Room)).cells (({ frames := 2, cells := 1, slots := 24, locals := 24 } : Room)).slots) := by
  refine MetFree.of_bodySF (plainFor_of_name pn_9) hisR ?_
  intro p e s m args below meth c s₁ Bd hml0 hP0 hK
  obtain ⟨rfl, hZ, hh⟩ := hP0
  have hx := Bd.exec
  have hby := Bd.bytes
  have hml : c.maxLocals = 5 := hml0
  have hown : s.vm.findClass "java/lang/StringUTF16" = some m.cls := findClass_of_methodNamed Bd.named
  have hnm := (name_of_methodNamed Bd.named Bd.method).1
  have X0 : Stand p l e ({ frames := 2, cells := 1, slots := 24, locals := 24 } : Room) s m #[(.ref ca), (.int (0 : Int32)), (.int zn)] below meth c s₁ [] 0 0 := Stand.of_body Bd
  have e0 : s₁.heap = h0 := by rw [← hh, Bd.state]; rfl
  have N0 := Fr.nil n0
  have hlk : meth.locks = false := BodyLoose.notSynchronized Bd
  refine Go.start (P₀ := fun s₂ o => ∃ v L, o = .returned v ∧ Q9 Z ca zn kc cs h0 n0 v s₂.heap L ∧ FrameEnd s o s₂ L (({ frames := 2, cells := 1, slots := 24, locals := 24 } : Room)).cells (({ frames := 2, cells := 1, slots := 24, locals := 24 } : Room)).slots) (congrArg s₁.setTop (ef_9 m ca (0 : Int32) zn)) ?_
  intro P hP
  show Go p.tables e below P (s₁.setTop (mkF m 0 #[.val (.ref ca), .val (.int (0 : Int32)), .val (.int zn), .unset, .unset] []))
  have e1 : (1 : Int32).toInt = 1 := rfl
  refine Go.step (fun t k => XS.iloadN X0.here hx rfl (hb hby d9_0) rfl  k) ?_
  show Go p.tables e below P (s₁.setTop (mkF m 1 #[.val (.ref ca), .val (.int (0 : Int32)), .val (.int zn), .unset, .unset] [(.int zn)]))
  obtain ⟨_, _, ⟨T_1, L_1, k_1, n_1⟩, -, X_1, ⟨Lc_1, hQ_1, l_1, y_1, z_1⟩, st_1⟩ := Jvm.LawKit.callS X0 hx (y := (⟨"java/lang/StringUTF16", "newBytesFor", "(I)[B"⟩ : MethodName)) hown (mvT hZ (hw _ (List.mem_of_getElem? (i := 80) rfl))) (mvT hZ (hw _ (List.mem_of_getElem? (i := 81) rfl))) (mvT hZ (hw _ (List.mem_of_getElem? (i := 72) rfl))) (mvT hZ (hw _ (List.mem_of_getElem? (i := 82) rfl))) (by decide) (backOf (W := 0) (rm8 l Z a0 hw [] zn cs h0 n0 Z0 hz hn) hZ (hw _ (List.mem_of_getElem? (i := 82) rfl)) (hw _ (List.mem_of_getElem? (i := 72) rfl)) (by decide) (by decide)) (g := (mkF m 1 #[.val (.ref ca), .val (.int (0 : Int32)), .val (.int zn), .unset, .unset] [(.int zn)])) rfl (by rw [hml]; rfl) (argsL := [(.int zn)]) (rest := []) (lenOf pd_3 rfl) rfl (by show 2 * 0 + _ ≤ _; exact Nat.le_of_eq rfl) (hb hby d9_1) (fun _ _ => ⟨rfl, e0, (by decide : 0 + 1 ≤ _), (by decide : 0 + 24 ≤ _)⟩)
  dsimp only [Pt.U, Pt.locs, Pt.cells, Pt.slots] at X_1 l_1 y_1 z_1 st_1 hQ_1
  subst l_1 y_1 z_1
  obtain ⟨b, kb, zb, rfl, N_1q, Kc_1, Sz_b, hzb, Vb⟩ := hQ_1
  have N_1 := Fr.app N0 N_1q
  have K_1 : Keep h0 T_1.heap [] := (Keep.refl h0 []).trans Kc_1 all0
  have Z_1 : n0 ≤ T_1.heap.size := Nat.le_trans Z0 Kc_1.1
  refine Go.step (fun t k => st_1 t k) ?_
  show Go p.tables e below P (T_1.setTop (mkF m 4 #[.val (.ref ca), .val (.int (0 : Int32)), .val (.int zn), .unset, .unset] [(.ref b)]))
  have g_b : n0 ≤ b := Nat.le_trans Z0 Sz_b
  have sz_b : h0.size ≤ b := Sz_b
  have lt_ca_b : ca < b := Nat.lt_of_lt_of_le Vc.lt Sz_b
  refine Go.step (fun t k => XS.astoreN X_1.here hx rfl (hb hby d9_4) rfl rfl (l' := #[.val (.ref ca), .val (.int (0 : Int32)), .val (.int zn), .val (.ref b), .unset]) rfl k) ?_
  show Go p.tables e below P (T_1.setTop (mkF m 5 #[.val (.ref ca), .val (.int (0 : Int32)), .val (.int zn), .val (.ref b), .unset] []))
  refine Go.step (fun t k => XS.iconst X_1.here hx rfl (hb hby d9_5) k) ?_
  show Go p.tables e below P (T_1.setTop (mkF m 6 #[.val (.ref ca), .val (.int (0 : Int32)), .val (.int zn), .val (.ref b), .unset] [(.int (0 : Int32))]))
  refine Go.step (fun t k => XS.istore X_1.here hx rfl (hb hby d9_6) rfl (l' := #[.val (.ref ca), .val (.int (0 : Int32)), .val (.int zn), .val (.ref b), .val (.int (0 : Int32))]) rfl k) ?_
  show Go p.tables e below P (T_1.setTop (mkF m 8 #[.val (.ref ca), .val (.int (0 : Int32)), .val (.int zn), .val (.ref b), .val (.int (0 : Int32))] []))
  have LP : ∀ (r : Nat) (ia ic : Int32) (k0 : Nat) (TL : State) (LL : List Loc) (hL : Heap) (XL : Stand p l e ({ frames := 2, cells := 1, slots := 24, locals := 24 } : Room) s m #[(.ref ca), (.int (0 : Int32)), (.int zn)] below meth c TL LL 1 24) (NL : Fr n0 LL) (eL : TL.heap = hL) (KL : Keep h0 hL []) (VL : Arv Z hL b kb .byte zb (tk cs k0) (.int (0 : Int32))), (ia.toInt = (k0 : Int) ∧ ic.toInt = (k0 : Int) ∧ k0 + r = cs.length) → Go p.tables e below P (TL.setTop (mkF m 8 #[.val (.ref ca), .val (.int ia), .val (.int zn), .val (.ref b), .val (.int ic)] [])) := by
    intro r
    induction r with
    | zero =>
      intro ia ic k0 TL LL hL XL NL eL KL VL hyp
      obtain ⟨hia, hic, hkr⟩ := hyp
      show Go p.tables e below P (TL.setTop (mkF m 8 #[.val (.ref ca), .val (.int ia), .val (.int zn), .val (.ref b), .val (.int ic)] []))
      refine Go.step (fun t k => XS.iload XL.here hx rfl (hb hby d9_8) rfl  k) ?_
      show Go p.tables e below P (TL.setTop (mkF m 10 #[.val (.ref ca), .val (.int ia), .val (.int zn), .val (.ref b), .val (.int ic)] [(.int ic)]))
      refine Go.step (fun t k => XS.iloadN XL.here hx rfl (hb hby d9_10) rfl  k) ?_
      show Go p.tables e below P (TL.setTop (mkF m 11 #[.val (.ref ca), .val (.int ia), .val (.int zn), .val (.ref b), .val (.int ic)] [(.int zn), (.int ic)]))
      refine Go.step (fun t k => XS.icmpYes XL.here hx rfl (pc0 := 11) (pc' := 32) rfl (hb hby d9_11) rfl (icY (cd := .ge) (by omega : zn.toInt ≤ ic.toInt)) (by decide) (by decide) k) ?_
      show Go p.tables e below P (TL.setTop (mkF m 32 #[.val (.ref ca), .val (.int ia), .val (.int zn), .val (.ref b), .val (.int ic)] []))
      refine Go.step (fun t k => XS.aloadN XL.here hx rfl (hb hby d9_32) rfl rfl k) ?_
      show Go p.tables e below P (TL.setTop (mkF m 33 #[.val (.ref ca), .val (.int ia), .val (.int zn), .val (.ref b), .val (.int ic)] [(.ref b)]))
      exact retGo XL hx hP Bd.returns hlk rfl (Or.inr (Or.inr (Or.inr (Or.inr ⟨rfl, rfl, rfl⟩)))) (hb hby d9_33) (by decide) (by decide) (by rw [eL]; exact ⟨b, kb, zb, rfl, NL, KL, sz_b, hzb, by rw [← tk_all, ← (show k0 = cs.length by omega)]; exact VL⟩)
    | succ r ih =>
      intro ia ic k0 TL LL hL XL NL eL KL VL hyp
      obtain ⟨hia, hic, hkr⟩ := hyp
      show Go p.tables e below P (TL.setTop (mkF m 8 #[.val (.ref ca), .val (.int ia), .val (.int zn), .val (.ref b), .val (.int ic)] []))
      refine Go.step (fun t k => XS.iload XL.here hx rfl (hb hby d9_8) rfl  k) ?_
      show Go p.tables e below P (TL.setTop (mkF m 10 #[.val (.ref ca), .val (.int ia), .val (.int zn), .val (.ref b), .val (.int ic)] [(.int ic)]))
      refine Go.step (fun t k => XS.iloadN XL.here hx rfl (hb hby d9_10) rfl  k) ?_
      show Go p.tables e below P (TL.setTop (mkF m 11 #[.val (.ref ca), .val (.int ia), .val (.int zn), .val (.ref b), .val (.int ic)] [(.int zn), (.int ic)]))
      refine Go.step (fun t k => XS.icmpNo XL.here hx rfl (hb hby d9_11) rfl (icN (cd := .ge) (by omega : ¬ (zn.toInt ≤ ic.toInt))) k) ?_
      show Go p.tables e below P (TL.setTop (mkF m 14 #[.val (.ref ca), .val (.int ia), .val (.int zn), .val (.ref b), .val (.int ic)] []))
      have hcc := hc _ (mem_getD cs k0 (by omega))
      have tl := tk_len cs k0 (by omega)
      refine Go.step (fun t k => XS.aloadN XL.here hx rfl (hb hby d9_14) rfl rfl k) ?_
      show Go p.tables e below P (TL.setTop (mkF m 15 #[.val (.ref ca), .val (.int ia), .val (.int zn), .val (.ref b), .val (.int ic)] [(.ref b)]))
      refine Go.step (fun t k => XS.iload XL.here hx rfl (hb hby d9_15) rfl  k) ?_
      show Go p.tables e below P (TL.setTop (mkF m 17 #[.val (.ref ca), .val (.int ia), .val (.int zn), .val (.ref b), .val (.int ic)] [(.int ic), (.ref b)]))
      refine Go.step (fun t k => XS.aloadN XL.here hx rfl (hb hby d9_17) rfl rfl k) ?_
      show Go p.tables e below P (TL.setTop (mkF m 18 #[.val (.ref ca), .val (.int ia), .val (.int zn), .val (.ref b), .val (.int ic)] [(.ref ca), (.int ic), (.ref b)]))
      refine Go.step (fun t k => XS.iloadN XL.here hx rfl (hb hby d9_18) rfl  k) ?_
      show Go p.tables e below P (TL.setTop (mkF m 19 #[.val (.ref ca), .val (.int ia), .val (.int zn), .val (.ref b), .val (.int ic)] [(.int ia), (.ref ca), (.int ic), (.ref b)]))
      have vq_2 := (Vc.keep KL (by simp))
      obtain ⟨cl_2, Ar_2, q_2, S_2, Nn_2, H_2, G_2⟩ := vq_2
      have hin_2 : ¬ (ia < 0 ∨ cl_2.slots.size ≤ (ia).toNatClampNeg) := inb_of S_2 ⟨nlt32 (by omega), lt32 (by omega)⟩
      have hat_2 : cl_2.slots[(ia).toNatClampNeg]? = some (.int (cs.getD k0 0)) := Has.at H_2 hin_2 (by rw [cl32 hia]; exact map_getD cs k0 _ (by omega))
      refine Go.step (fun t k => XL.caload hx (j := ia) (v := (.int (cs.getD k0 0))) (by rw [eL]; exact Ar_2.1) (State.isArrayOf_alike hZ.alike Ar_2.2.1) Ar_2.2.2 hin_2 hat_2 (g := (mkF m 19 #[.val (.ref ca), .val (.int ia), .val (.int zn), .val (.ref b), .val (.int ic)] [(.int ia), (.ref ca), (.int ic), (.ref b)])) rfl rfl (hb hby d9_19) t k) ?_
      show Go p.tables e below P (TL.setTop (mkF m 20 #[.val (.ref ca), .val (.int ia), .val (.int zn), .val (.ref b), .val (.int ic)] [(.int (cs.getD k0 0)), (.int ic), (.ref b)]))
      obtain ⟨_, _, ⟨T_3, L_3, k_3, n_3⟩, -, X_3, ⟨Lc_3, hQ_3, l_3, y_3, z_3⟩, st_3⟩ := Jvm.LawKit.callS XL hx (y := (⟨"java/lang/StringUTF16", "putChar", "([BII)V"⟩ : MethodName)) hown (mvT hZ (hw _ (List.mem_of_getElem? (i := 87) rfl))) (mvT hZ (hw _ (List.mem_of_getElem? (i := 88) rfl))) (mvT hZ (hw _ (List.mem_of_getElem? (i := 72) rfl))) (mvT hZ (hw _ (List.mem_of_getElem? (i := 89) rfl))) (by decide) (backOf (W := 0) (rm5 l Z a0 hw [] b ic (cs.getD k0 0) kb zb (tk cs k0) k0 hL n0 (Nat.le_trans Z0 KL.1) VL (by omega) hic (by omega) (by omega) g_b (Sta_keepX S0 KL ns0_) (Sta_keepX S1 KL ns0_) (Sta_keepX S2 KL ns0_)) hZ (hw _ (List.mem_of_getElem? (i := 89) rfl)) (hw _ (List.mem_of_getElem? (i := 72) rfl)) (by decide) (by decide)) (g := (mkF m 20 #[.val (.ref ca), .val (.int ia), .val (.int zn), .val (.ref b), .val (.int ic)] [(.int (cs.getD k0 0)), (.int ic), (.ref b)])) rfl (by rw [hml]; rfl) (argsL := [(.ref b), (.int ic), (.int (cs.getD k0 0))]) (rest := []) (lenOf pd_4 rfl) rfl (by show 2 * 0 + _ ≤ _; exact Nat.le_of_eq rfl) (hb hby d9_20) (fun _ _ => ⟨rfl, eL, (by decide : 1 + 0 ≤ _), (by decide : 24 + 0 ≤ _)⟩)
      dsimp only [Pt.U, Pt.locs, Pt.cells, Pt.slots] at X_3 l_3 y_3 z_3 st_3 hQ_3
      subst l_3 y_3 z_3
      obtain ⟨rfl, N_3q, Kc_3, Vn⟩ := hQ_3
      have N_3 := Fr.app NL N_3q
      have K_3 : Keep h0 T_3.heap [] := KL.trans Kc_3 (allS (Or.inr sz_b) all0)
      have Z_3 : n0 ≤ T_3.heap.size := Nat.le_trans (Nat.le_trans Z0 KL.1) Kc_3.1
      refine Go.step (fun t k => st_3 t k) ?_
      show Go p.tables e below P (T_3.setTop (mkF m 23 #[.val (.ref ca), .val (.int ia), .val (.int zn), .val (.ref b), .val (.int ic)] []))
      obtain ⟨i23, hi23⟩ : ∃ z : Int32, ia + (1 : Int32) = z := ⟨_, rfl⟩
      refine Go.step (fun t k => XS.iinc X_3.here hx rfl (hb hby d9_23) rfl (l' := #[.val (.ref ca), .val (.int (ia + (1 : Int32))), .val (.int zn), .val (.ref b), .val (.int ic)]) rfl k) ?_
      show Go p.tables e below P (T_3.setTop (mkF m 26 #[.val (.ref ca), .val (.int (ia + (1 : Int32))), .val (.int zn), .val (.ref b), .val (.int ic)] []))
      rw [hi23]
      show Go p.tables e below P (T_3.setTop (mkF m 26 #[.val (.ref ca), .val (.int i23), .val (.int zn), .val (.ref b), .val (.int ic)] []))
      obtain ⟨i26, hi26⟩ : ∃ z : Int32, ic + (1 : Int32) = z := ⟨_, rfl⟩
      refine Go.step (fun t k => XS.iinc X_3.here hx rfl (hb hby d9_26) rfl (l' := #[.val (.ref ca), .val (.int i23), .val (.int zn), .val (.ref b), .val (.int (ic + (1 : Int32)))]) rfl k) ?_
      show Go p.tables e below P (T_3.setTop (mkF m 29 #[.val (.ref ca), .val (.int i23), .val (.int zn), .val (.ref b), .val (.int (ic + (1 : Int32)))] []))
      rw [hi26]
      show Go p.tables e below P (T_3.setTop (mkF m 29 #[.val (.ref ca), .val (.int i23), .val (.int zn), .val (.ref b), .val (.int i26)] []))
      refine Go.step (fun t k => XS.goto X_3.here hx rfl (pc0 := 29) (pc' := 8) rfl (hb hby d9_29) (by decide) (by decide) k) ?_
      show Go p.tables e below P (T_3.setTop (mkF m 8 #[.val (.ref ca), .val (.int i23), .val (.int zn), .val (.ref b), .val (.int i26)] []))
      rw [tk_set cs k0 (by omega)] at Vn
      have f23 := c_iadd ia (1 : Int32); rw [hi23, e1] at f23
      have g23 := rng32 i23
      have f26 := c_iadd ic (1 : Int32); rw [hi26, e1] at f26
      have g26 := rng32 i26
      exact ih i23 i26 (k0 + 1) _ _ _ X_3 N_3 rfl K_3 Vn ⟨by omega, by omega, by omega⟩
  exact LP cs.length (0 : Int32) (0 : Int32) 0 _ _ _ X_1 N_1 rfl K_1 Vb ⟨rfl, rfl, by omega⟩
theorem d10_0 : decode jdk_52_method_16_code 0 = .ok (.iload_n 2, 1) := by decide +kernel
theorem d10_1 : decode jdk_52_method_16_code 1 = .ok (.newarray .byte, 2) := by decide +kernel
theorem d10_3 : decode jdk_52_method_16_code 3 = .ok (.astore_n 3, 1) := by decide +kernel
theorem d10_4 : decode jdk_52_method_16_code 4 = .ok (.aload_n 0, 1) := by decide +kernel
theorem d10_5 : decode jdk_52_method_16_code 5 = .ok (.iload_n 1, 1) := by decide +kernel
theorem d10_6 : decode jdk_52_method_16_code 6 = .ok (.aload_n 3, 1) := by decide +kernel
theorem d10_7 : decode jdk_52_method_16_code 7 = .ok (.iconst 0, 1) := by decide +kernel
theorem d10_8 : decode jdk_52_method_16_code 8 = .ok (.iload_n 2, 1) := by decide +kernel
theorem d10_9 : decode jdk_52_method_16_code 9 = .ok (.invokestatic 115, 3) := by decide +kernel
theorem d10_12 : decode jdk_52_method_16_code 12 = .ok (.istore 4, 2) := by decide +kernel
theorem d10_14 : decode jdk_52_method_16_code 14 = .ok (.iload 4, 2) := by decide +kernel
theorem d10_16 : decode jdk_52_method_16_code 16 = .ok (.iload_n 2, 1) := by decide +kernel
theorem d10_17 : decode jdk_52_method_16_code 17 = .ok (.if_icmp .eq 40, 3) := by decide +kernel
theorem d10_20 : decode jdk_52_method_16_code 20 = .ok (.aload_n 0, 1) := by decide +kernel
theorem d10_21 : decode jdk_52_method_16_code 21 = .ok (.iload_n 1, 1) := by decide +kernel
theorem d10_22 : decode jdk_52_method_16_code 22 = .ok (.iload_n 2, 1) := by decide +kernel
theorem d10_23 : decode jdk_52_method_16_code 23 = .ok (.invokestatic 119, 3) := by decide +kernel
theorem d10_26 : decode jdk_52_method_16_code 26 = .ok (.astore 5, 2) := by decide +kernel
theorem d10_28 : decode jdk_52_method_16_code 28 = .ok (.aload 5, 2) := by decide +kernel
theorem d10_30 : decode jdk_52_method_16_code 30 = .ok (.iload 4, 2) := by decide +kernel
theorem d10_32 : decode jdk_52_method_16_code 32 = .ok (.invokestatic 71, 3) := by decide +kernel
theorem d10_35 : decode jdk_52_method_16_code 35 = .ok (.sipush 255, 3) := by decide +kernel
theorem d10_38 : decode jdk_52_method_16_code 38 = .ok (.if_icmp .gt 16, 3) := by decide +kernel
theorem d10_54 : decode jdk_52_method_16_code 54 = .ok (.aload 5, 2) := by decide +kernel
theorem d10_56 : decode jdk_52_method_16_code 56 = .ok (.areturn, 1) := by decide +kernel
theorem d10_57 : decode jdk_52_method_16_code 57 = .ok (.aload_n 3, 1) := by decide +kernel
theorem d10_58 : decode jdk_52_method_16_code 58 = .ok (.areturn, 1) := by decide +kernel
theorem pn_10 : plainName "java/lang/StringUTF16" = true := by first | (simp [plainName, overriddenIn]; done) | decide +kernel
theorem ef_10 (m : MethodId) (x0 : Addr) (x1 : Int32) (x2 : Int32) : entryFrame m #[(.ref x0), (.int x1), (.int x2)] 6 = mkF m 0 #[.val (.ref x0), .val (.int x1), .val (.int x2), .unset, .unset, .unset] [] := by first | (simp [entryFrame, mkF, argsToLocals, Value.category]; done) | rfl
def Q10 (Z : State) (ca : Addr) (zn : Int32) (kc : ClassId) (cs : List Int32) (h0 : Heap) (n0 : Nat) (v : Option Value) (h : Heap) (L : List Loc) : Prop := ∃ (b : Addr) (kb : ClassId) (zb : Int32) (vl : List Value), v = some (.ref b) ∧ Fr n0 L ∧ Keep h0 h [] ∧ h0.size ≤ b ∧ Arv Z h b kb .byte zb vl (.int (0 : Int32)) ∧ ((zb.toInt = (cs.length : Int) ∧ ∀ x ∈ cs, x.toInt ≤ 255) ∨ (zb.toInt = 2 * (cs.length : Int) ∧ vl = enc cs ∧ ∃ x ∈ cs, 255 < x.toInt))
set_option maxRecDepth 65536 in
set_option maxHeartbeats 40000000 in
theorem rm10 (l : Launch) (Z : State) (a0 : Array Value) (hw : ∀ d ∈ tables_1, d.before a0 Z = true) (ws : List Jvm.Cond) (ca : Addr) (zn : Int32) (kc : ClassId) (cs : List Int32) (h0 : Heap) (n0 : Nat) (Z0 : n0 ≤ h0.size) (Vc : Arv Z h0 ca kc .char zn (cs.map Value.int) (.int (0 : Int32))) (hz : zn.toInt = (cs.length : Int)) (hn : cs.length ≤ 12) (hc : ∀ x ∈ cs, 0 ≤ x.toInt ∧ x.toInt < 65536) (S0 : Sta Z h0 "java/lang/StringUTF16" "$assertionsDisabled" "Z" (.int (1 : Int32))) (S1 : Sta Z h0 "java/lang/StringUTF16" "HI_BYTE_SHIFT" "I" (.int (0 : Int32))) (S2 : Sta Z h0 "java/lang/StringUTF16" "LO_BYTE_SHIFT" "I" (.int (8 : Int32))) :
    MetFree l (⟨"java/lang/StringUTF16", "compress", "([CII)[B"⟩ : MethodName) (head1 (Jvm.Cond.code (⟨"java/lang/StringUTF16", "compress", "([CII)[B"⟩ : MethodName) jdk_52_method_16_code 6 (some (.array .byte)) :: ws) ({ frames := 3, cells := 2, slots := 36, locals := 40 } : Room)) (fun a_ U => a_ = #[(.ref ca), (.int (0 : Int32)), (.int zn)] ∧ Z.Warmed39 U.vm ∧ U.heap = h0) (fun _ _ _ _ _ => True) (fun _ U o U' => ∃ v L, o = .returned v ∧ Q10 Z ca zn kc cs h0 n0 v U'.heap L ∧ FrameEnd U o U' L (({ frames := 3, cells := 2, slots := 36, locals := 40 } : Room)).cells (({ frames := 3, cells := 2, slots := 36, locals := 40 } : Room)).slots) := by
  refine MetFree.of_bodySF (plainFor_of_name pn_10) hisR ?_
  intro p e s m args below meth c s₁ Bd hml0 hP0 hK
  obtain ⟨rfl, hZ, hh⟩ := hP0
  have hx := Bd.exec
  have hby := Bd.bytes
  have hml : c.maxLocals = 6 := hml0
  have hown : s.vm.findClass "java/lang/StringUTF16" = some m.cls := findClass_of_methodNamed Bd.named
  have hnm := (name_of_methodNamed Bd.named Bd.method).1
  have X0 : Stand p l e ({ frames := 3, cells := 2, slots := 36, locals := 40 } : Room) s m #[(.ref ca), (.int (0 : Int32)), (.int zn)] below meth c s₁ [] 0 0 := Stand.of_body Bd
  have e0 : s₁.heap = h0 := by rw [← hh, Bd.state]; rfl
  have N0 := Fr.nil n0
  have hlk : meth.locks = false := BodyLoose.notSynchronized Bd
  refine Go.start (P₀ := fun s₂ o => ∃ v L, o = .returned v ∧ Q10 Z ca zn kc cs h0 n0 v s₂.heap L ∧ FrameEnd s o s₂ L (({ frames := 3, cells := 2, slots := 36, locals := 40 } : Room)).cells (({ frames := 3, cells := 2, slots := 36, locals := 40 } : Room)).slots) (congrArg s₁.setTop (ef_10 m ca (0 : Int32) zn)) ?_
  intro P hP
  show Go p.tables e below P (s₁.setTop (mkF m 0 #[.val (.ref ca), .val (.int (0 : Int32)), .val (.int zn), .unset, .unset, .unset] []))
  refine Go.step (fun t k => XS.iloadN X0.here hx rfl (hb hby d10_0) rfl  k) ?_
  show Go p.tables e below P (s₁.setTop (mkF m 1 #[.val (.ref ca), .val (.int (0 : Int32)), .val (.int zn), .unset, .unset, .unset] [(.int zn)]))
  obtain ⟨T_1, h_1, k_1, X_1, e_1, E_1, A_1, st_1⟩ := newP X0 hx hZ (hw _ (List.mem_of_getElem? (i := 20) rfl)) e0 (g := (mkF m 1 #[.val (.ref ca), .val (.int (0 : Int32)), .val (.int zn), .unset, .unset, .unset] [(.int zn)])) rfl (hb hby d10_1) rfl (nlt32 (by omega)) (cap := 12) (by show zn.toInt.toNat ≤ 12; omega) (by decide) (by decide) (by decide)
  obtain ⟨ds, g_1⟩ : ∃ z, z = h0.size := ⟨_, rfl⟩
  rw [← g_1] at A_1 st_1
  have g_ds : n0 ≤ ds := Nat.le_trans Z0 (Nat.le_of_eq g_1.symm)
  have sz_ds : h0.size ≤ ds := Nat.le_trans (Keep.refl h0 []).1 (Nat.le_of_eq g_1.symm)
  have lt_ca_ds : ca < ds := Nat.lt_of_lt_of_le Vc.lt (Nat.le_of_eq g_1.symm)
  have ne_ca_ds : ca ≠ ds := Nat.ne_of_lt lt_ca_ds
  have V_1 : Arv Z h_1 ds k_1 .byte zn (List.replicate (cs.length) (.int (0 : Int32))) (.int (0 : Int32)) := by have q := (Arv.new A_1 (nlt32 (by omega))).pad (pad_rep [] (.int (0 : Int32)) (cs.length)); rw [List.nil_append] at q; exact q
  have K_1 : Keep h0 h_1 [] := (Keep.refl h0 []).ext E_1
  have Z_1 : n0 ≤ h_1.size := Nat.le_trans Z0 E_1.1
  refine Go.step (fun t k => st_1 t k) ?_
  show Go p.tables e below P (T_1.setTop (mkF m 3 #[.val (.ref ca), .val (.int (0 : Int32)), .val (.int zn), .unset, .unset, .unset] [(.ref ds)]))
  refine Go.step (fun t k => XS.astoreN X_1.here hx rfl (hb hby d10_3) rfl rfl (l' := #[.val (.ref ca), .val (.int (0 : Int32)), .val (.int zn), .val (.ref ds), .unset, .unset]) rfl k) ?_
  show Go p.tables e below P (T_1.setTop (mkF m 4 #[.val (.ref ca), .val (.int (0 : Int32)), .val (.int zn), .val (.ref ds), .unset, .unset] []))
  refine Go.step (fun t k => XS.aloadN X_1.here hx rfl (hb hby d10_4) rfl rfl k) ?_
  show Go p.tables e below P (T_1.setTop (mkF m 5 #[.val (.ref ca), .val (.int (0 : Int32)), .val (.int zn), .val (.ref ds), .unset, .unset] [(.ref ca)]))
  refine Go.step (fun t k => XS.iloadN X_1.here hx rfl (hb hby d10_5) rfl  k) ?_
  show Go p.tables e below P (T_1.setTop (mkF m 6 #[.val (.ref ca), .val (.int (0 : Int32)), .val (.int zn), .val (.ref ds), .unset, .unset] [(.int (0 : Int32)), (.ref ca)]))
  refine Go.step (fun t k => XS.aloadN X_1.here hx rfl (hb hby d10_6) rfl rfl k) ?_
  show Go p.tables e below P (T_1.setTop (mkF m 7 #[.val (.ref ca), .val (.int (0 : Int32)), .val (.int zn), .val (.ref ds), .unset, .unset] [(.ref ds), (.int (0 : Int32)), (.ref ca)]))
  refine Go.step (fun t k => XS.iconst X_1.here hx rfl (hb hby d10_7) k) ?_
  show Go p.tables e below P (T_1.setTop (mkF m 8 #[.val (.ref ca), .val (.int (0 : Int32)), .val (.int zn), .val (.ref ds), .unset, .unset] [(.int (0 : Int32)), (.ref ds), (.int (0 : Int32)), (.ref ca)]))
  refine Go.step (fun t k => XS.iloadN X_1.here hx rfl (hb hby d10_8) rfl  k) ?_
  show Go p.tables e below P (T_1.setTop (mkF m 9 #[.val (.ref ca), .val (.int (0 : Int32)), .val (.int zn), .val (.ref ds), .unset, .unset] [(.int zn), (.int (0 : Int32)), (.ref ds), (.int (0 : Int32)), (.ref ca)]))
  obtain ⟨_, _, ⟨T_2, L_2, k_2, n_2⟩, -, X_2, ⟨Lc_2, hQ_2, l_2, y_2, z_2⟩, st_2⟩ := Jvm.LawKit.callS X_1 hx (y := (⟨"java/lang/StringUTF16", "compress", "([CI[BII)I"⟩ : MethodName)) hown (mvT hZ (hw _ (List.mem_of_getElem? (i := 74) rfl))) (mvT hZ (hw _ (List.mem_of_getElem? (i := 75) rfl))) (mvT hZ (hw _ (List.mem_of_getElem? (i := 72) rfl))) (mvT hZ (hw _ (List.mem_of_getElem? (i := 76) rfl))) (by decide) (backOf (W := 0) (rm6 l Z a0 hw [] ca ds zn kc k_1 cs (List.replicate (cs.length) (Value.int (0 : Int32))) h_1 n0 Z_1 (Vc.ext E_1) hz hn hc V_1 (List.length_replicate) ne_ca_ds g_ds) hZ (hw _ (List.mem_of_getElem? (i := 76) rfl)) (hw _ (List.mem_of_getElem? (i := 72) rfl)) (by decide) (by decide)) (g := (mkF m 9 #[.val (.ref ca), .val (.int (0 : Int32)), .val (.int zn), .val (.ref ds), .unset, .unset] [(.int zn), (.int (0 : Int32)), (.ref ds), (.int (0 : Int32)), (.ref ca)])) rfl (by rw [hml]; rfl) (argsL := [(.ref ca), (.int (0 : Int32)), (.ref ds), (.int (0 : Int32)), (.int zn)]) (rest := []) (lenOf pd_5 rfl) rfl (by show 2 * 0 + _ ≤ _; exact Nat.le_of_eq rfl) (hb hby d10_9) (fun _ _ => ⟨rfl, e_1, (by decide : 1 + 0 ≤ _), (by decide : 12 + 0 ≤ _)⟩)
  dsimp only [Pt.U, Pt.locs, Pt.cells, Pt.slots] at X_2 l_2 y_2 z_2 st_2 hQ_2
  subst l_2 y_2 z_2
  obtain ⟨rr, vf, rfl, hrr, N_2q, Kc_2, hvf, Vf⟩ := hQ_2
  have N_2 := Fr.app N0 N_2q
  have K_2 : Keep h0 T_2.heap [] := K_1.trans Kc_2 (allS (Or.inr sz_ds) all0)
  have Z_2 : n0 ≤ T_2.heap.size := Nat.le_trans Z_1 Kc_2.1
  refine Go.step (fun t k => st_2 t k) ?_
  show Go p.tables e below P (T_2.setTop (mkF m 12 #[.val (.ref ca), .val (.int (0 : Int32)), .val (.int zn), .val (.ref ds), .unset, .unset] [(.int rr)]))
  refine Go.step (fun t k => XS.istore X_2.here hx rfl (hb hby d10_12) rfl (l' := #[.val (.ref ca), .val (.int (0 : Int32)), .val (.int zn), .val (.ref ds), .val (.int rr), .unset]) rfl k) ?_
  show Go p.tables e below P (T_2.setTop (mkF m 14 #[.val (.ref ca), .val (.int (0 : Int32)), .val (.int zn), .val (.ref ds), .val (.int rr), .unset] []))
  refine Go.step (fun t k => XS.iload X_2.here hx rfl (hb hby d10_14) rfl  k) ?_
  show Go p.tables e below P (T_2.setTop (mkF m 16 #[.val (.ref ca), .val (.int (0 : Int32)), .val (.int zn), .val (.ref ds), .val (.int rr), .unset] [(.int rr)]))
  refine Go.step (fun t k => XS.iloadN X_2.here hx rfl (hb hby d10_16) rfl  k) ?_
  show Go p.tables e below P (T_2.setTop (mkF m 17 #[.val (.ref ca), .val (.int (0 : Int32)), .val (.int zn), .val (.ref ds), .val (.int rr), .unset] [(.int zn), (.int rr)]))
  by_cases hc17 : rr.toInt = zn.toInt
  · refine Go.step (fun t k => XS.icmpYes X_2.here hx rfl (pc0 := 17) (pc' := 57) rfl (hb hby d10_17) rfl (icY (cd := .eq) hc17) (by decide) (by decide) k) ?_
    show Go p.tables e below P (T_2.setTop (mkF m 57 #[.val (.ref ca), .val (.int (0 : Int32)), .val (.int zn), .val (.ref ds), .val (.int rr), .unset] []))
    refine Go.step (fun t k => XS.aloadN X_2.here hx rfl (hb hby d10_57) rfl rfl k) ?_
    show Go p.tables e below P (T_2.setTop (mkF m 58 #[.val (.ref ca), .val (.int (0 : Int32)), .val (.int zn), .val (.ref ds), .val (.int rr), .unset] [(.ref ds)]))
    exact retGo X_2 hx hP Bd.returns hlk rfl (Or.inr (Or.inr (Or.inr (Or.inr ⟨rfl, rfl, rfl⟩)))) (hb hby d10_58) (by decide) (by decide) ⟨ds, k_1, zn, vf, rfl, N_2, K_2, sz_ds, Vf, Or.inl ⟨hz, by rcases hrr with ⟨_, h⟩ | ⟨k1, h1, h2, _⟩; exact h; omega⟩⟩
  · refine Go.step (fun t k => XS.icmpNo X_2.here hx rfl (hb hby d10_17) rfl (icN (cd := .eq) hc17) k) ?_
    show Go p.tables e below P (T_2.setTop (mkF m 20 #[.val (.ref ca), .val (.int (0 : Int32)), .val (.int zn), .val (.ref ds), .val (.int rr), .unset] []))
    obtain ⟨k1, hk1, hr1, hbig⟩ : ∃ k1 : Nat, k1 < cs.length ∧ rr.toInt = (k1 : Int) ∧ 255 < (cs.getD k1 0).toInt := by rcases hrr with ⟨h, _⟩ | h; omega; exact h
    refine Go.step (fun t k => XS.aloadN X_2.here hx rfl (hb hby d10_20) rfl rfl k) ?_
    show Go p.tables e below P (T_2.setTop (mkF m 21 #[.val (.ref ca), .val (.int (0 : Int32)), .val (.int zn), .val (.ref ds), .val (.int rr), .unset] [(.ref ca)]))
    refine Go.step (fun t k => XS.iloadN X_2.here hx rfl (hb hby d10_21) rfl  k) ?_
    show Go p.tables e below P (T_2.setTop (mkF m 22 #[.val (.ref ca), .val (.int (0 : Int32)), .val (.int zn), .val (.ref ds), .val (.int rr), .unset] [(.int (0 : Int32)), (.ref ca)]))
    refine Go.step (fun t k => XS.iloadN X_2.here hx rfl (hb hby d10_22) rfl  k) ?_
    show Go p.tables e below P (T_2.setTop (mkF m 23 #[.val (.ref ca), .val (.int (0 : Int32)), .val (.int zn), .val (.ref ds), .val (.int rr), .unset] [(.int zn), (.int (0 : Int32)), (.ref ca)]))
    obtain ⟨_, _, ⟨T_3, L_3, k_3, n_3⟩, -, X_3, ⟨Lc_3, hQ_3, l_3, y_3, z_3⟩, st_3⟩ := Jvm.LawKit.callS X_2 hx (y := (⟨"java/lang/StringUTF16", "toBytes", "([CII)[B"⟩ : MethodName)) hown (mvT hZ (hw _ (List.mem_of_getElem? (i := 77) rfl))) (mvT hZ (hw _ (List.mem_of_getElem? (i := 78) rfl))) (mvT hZ (hw _ (List.mem_of_getElem? (i := 72) rfl))) (mvT hZ (hw _ (List.mem_of_getElem? (i := 79) rfl))) (by decide) (backOf (W := 0) (rm9 l Z a0 hw [] ca zn kc cs T_2.heap n0 Z_2 ((Vc.ext E_1).keep Kc_2 (ninS ne_ca_ds nin0)) hz hn hc (Sta_keepX S0 K_2 ns0_) (Sta_keepX S1 K_2 ns0_) (Sta_keepX S2 K_2 ns0_)) hZ (hw _ (List.mem_of_getElem? (i := 79) rfl)) (hw _ (List.mem_of_getElem? (i := 72) rfl)) (by decide) (by decide)) (g := (mkF m 23 #[.val (.ref ca), .val (.int (0 : Int32)), .val (.int zn), .val (.ref ds), .val (.int rr), .unset] [(.int zn), (.int (0 : Int32)), (.ref ca)])) rfl (by rw [hml]; rfl) (argsL := [(.ref ca), (.int (0 : Int32)), (.int zn)]) (rest := []) (lenOf pd_6 rfl) rfl (by show 2 * 0 + _ ≤ _; exact Nat.le_of_eq rfl) (hb hby d10_23) (fun _ _ => ⟨rfl, rfl, (by decide : 1 + 1 ≤ _), (by decide : 12 + 24 ≤ _)⟩)
    dsimp only [Pt.U, Pt.locs, Pt.cells, Pt.slots] at X_3 l_3 y_3 z_3 st_3 hQ_3
    subst l_3 y_3 z_3
    obtain ⟨b, kb, zb, rfl, N_3q, Kc_3, Sz_b, hzb, Vb⟩ := hQ_3
    have N_3 := Fr.app N_2 N_3q
    have K_3 : Keep h0 T_3.heap [] := K_2.trans Kc_3 all0
    have Z_3 : n0 ≤ T_3.heap.size := Nat.le_trans Z_2 Kc_3.1
    refine Go.step (fun t k => st_3 t k) ?_
    show Go p.tables e below P (T_3.setTop (mkF m 26 #[.val (.ref ca), .val (.int (0 : Int32)), .val (.int zn), .val (.ref ds), .val (.int rr), .unset] [(.ref b)]))
    have sz_b : h0.size ≤ b := Nat.le_trans K_2.1 Sz_b
    refine Go.step (fun t k => XS.astore X_3.here hx rfl (hb hby d10_26) rfl rfl (l' := #[.val (.ref ca), .val (.int (0 : Int32)), .val (.int zn), .val (.ref ds), .val (.int rr), .val (.ref b)]) rfl k) ?_
    show Go p.tables e below P (T_3.setTop (mkF m 28 #[.val (.ref ca), .val (.int (0 : Int32)), .val (.int zn), .val (.ref ds), .val (.int rr), .val (.ref b)] []))
    refine Go.step (fun t k => XS.aload X_3.here hx rfl (hb hby d10_28) rfl rfl k) ?_
    show Go p.tables e below P (T_3.setTop (mkF m 30 #[.val (.ref ca), .val (.int (0 : Int32)), .val (.int zn), .val (.ref ds), .val (.int rr), .val (.ref b)] [(.ref b)]))
    refine Go.step (fun t k => XS.iload X_3.here hx rfl (hb hby d10_30) rfl  k) ?_
    show Go p.tables e below P (T_3.setTop (mkF m 32 #[.val (.ref ca), .val (.int (0 : Int32)), .val (.int zn), .val (.ref ds), .val (.int rr), .val (.ref b)] [(.int rr), (.ref b)]))
    obtain ⟨_, _, ⟨T_4, L_4, k_4, n_4⟩, -, X_4, ⟨Lc_4, hQ_4, l_4, y_4, z_4⟩, st_4⟩ := Jvm.LawKit.callS X_3 hx (y := (⟨"java/lang/StringUTF16", "getChar", "([BI)C"⟩ : MethodName)) hown (mvT hZ (hw _ (List.mem_of_getElem? (i := 93) rfl))) (mvT hZ (hw _ (List.mem_of_getElem? (i := 94) rfl))) (mvT hZ (hw _ (List.mem_of_getElem? (i := 72) rfl))) (mvT hZ (hw _ (List.mem_of_getElem? (i := 95) rfl))) (by decide) (backOf (W := 0) (rm3 l Z a0 hw [] b rr kb zb cs k1 T_3.heap n0 Z_3 Vb hzb hn hc hr1 hk1 (Sta_keepX S0 K_3 ns0_) (Sta_keepX S1 K_3 ns0_) (Sta_keepX S2 K_3 ns0_)) hZ (hw _ (List.mem_of_getElem? (i := 95) rfl)) (hw _ (List.mem_of_getElem? (i := 72) rfl)) (by decide) (by decide)) (g := (mkF m 32 #[.val (.ref ca), .val (.int (0 : Int32)), .val (.int zn), .val (.ref ds), .val (.int rr), .val (.ref b)] [(.int rr), (.ref b)])) rfl (by rw [hml]; rfl) (argsL := [(.ref b), (.int rr)]) (rest := []) (lenOf pd_0 rfl) rfl (by show 2 * 0 + _ ≤ _; exact Nat.le_of_eq rfl) (hb hby d10_32) (fun _ _ => ⟨rfl, rfl, (by decide : 2 + 0 ≤ _), (by decide : 36 + 0 ≤ _)⟩)
    dsimp only [Pt.U, Pt.locs, Pt.cells, Pt.slots] at X_4 l_4 y_4 z_4 st_4 hQ_4
    subst l_4 y_4 z_4
    obtain ⟨rfl, N_4q, eh_4⟩ := hQ_4
    have N_4 := Fr.app N_3 N_4q
    refine Go.step (fun t k => st_4 t k) ?_
    show Go p.tables e below P (T_4.setTop (mkF m 35 #[.val (.ref ca), .val (.int (0 : Int32)), .val (.int zn), .val (.ref ds), .val (.int rr), .val (.ref b)] [(.int (cs.getD k1 0))]))
    refine Go.step (fun t k => XS.sipush X_4.here hx rfl (hb hby d10_35) k) ?_
    show Go p.tables e below P (T_4.setTop (mkF m 38 #[.val (.ref ca), .val (.int (0 : Int32)), .val (.int zn), .val (.ref ds), .val (.int rr), .val (.ref b)] [(.int (255 : Int32)), (.int (cs.getD k1 0))]))
    refine Go.step (fun t k => XS.icmpYes X_4.here hx rfl (pc0 := 38) (pc' := 54) rfl (hb hby d10_38) rfl (icY (cd := .gt) (by omega : (255 : Int) < (cs.getD k1 0).toInt)) (by decide) (by decide) k) ?_
    show Go p.tables e below P (T_4.setTop (mkF m 54 #[.val (.ref ca), .val (.int (0 : Int32)), .val (.int zn), .val (.ref ds), .val (.int rr), .val (.ref b)] []))
    refine Go.step (fun t k => XS.aload X_4.here hx rfl (hb hby d10_54) rfl rfl k) ?_
    show Go p.tables e below P (T_4.setTop (mkF m 56 #[.val (.ref ca), .val (.int (0 : Int32)), .val (.int zn), .val (.ref ds), .val (.int rr), .val (.ref b)] [(.ref b)]))
    exact retGo X_4 hx hP Bd.returns hlk rfl (Or.inr (Or.inr (Or.inr (Or.inr ⟨rfl, rfl, rfl⟩)))) (hb hby d10_56) (by decide) (by decide) (by rw [eh_4]; exact ⟨b, kb, zb, enc cs, rfl, N_4, K_3, sz_b, Vb, Or.inr ⟨hzb, rfl, _, mem_getD cs k1 hk1, hbig⟩⟩)
theorem d11_0 : decode jdk_52_method_15_code 0 = .ok (.iload_n 1, 1) := by decide +kernel
theorem d11_1 : decode jdk_52_method_15_code 1 = .ok (.aload_n 0, 1) := by decide +kernel
theorem d11_2 : decode jdk_52_method_15_code 2 = .ok (.arraylength, 1) := by decide +kernel
theorem d11_3 : decode jdk_52_method_15_code 3 = .ok (.isub, 1) := by decide +kernel
theorem d11_4 : decode jdk_52_method_15_code 4 = .ok (.bipush 31, 2) := by decide +kernel
theorem d11_6 : decode jdk_52_method_15_code 6 = .ok (.iushr, 1) := by decide +kernel
theorem d11_7 : decode jdk_52_method_15_code 7 = .ok (.i2b, 1) := by decide +kernel
theorem d11_8 : decode jdk_52_method_15_code 8 = .ok (.ireturn, 1) := by decide +kernel
theorem pn_11 : plainName "java/lang/StringUTF16" = true := by first | (simp [plainName, overriddenIn]; done) | decide +kernel
theorem ef_11 (m : MethodId) (x0 : Addr) (x1 : Int32) : entryFrame m #[(.ref x0), (.int x1)] 2 = mkF m 0 #[.val (.ref x0), .val (.int x1)] [] := by first | (simp [entryFrame, mkF, argsToLocals, Value.category]; done) | rfl
def Q11 (Z : State) (b : Addr) (zn : Int32) (kb : ClassId) (zb : Int32) (vl : List Value) (h0 : Heap) (n0 : Nat) (v : Option Value) (h : Heap) (L : List Loc) : Prop := ∃ r : Int32, v = some (.int r) ∧ ((zb.toInt = zn.toInt ∧ r = 0) ∨ (zb.toInt = 2 * zn.toInt ∧ r = 1)) ∧ Fr n0 L ∧ h = h0
set_option maxRecDepth 65536 in
set_option maxHeartbeats 40000000 in
theorem rm11 (l : Launch) (Z : State) (a0 : Array Value) (hw : ∀ d ∈ tables_1, d.before a0 Z = true) (ws : List Jvm.Cond) (b : Addr) (zn : Int32) (kb : ClassId) (zb : Int32) (vl : List Value) (h0 : Heap) (n0 : Nat) (Z0 : n0 ≤ h0.size) (Vb : Arv Z h0 b kb .byte zb vl (.int (0 : Int32))) (hz : 1 ≤ zn.toInt ∧ zn.toInt ≤ 12) (hzb : zb.toInt = zn.toInt ∨ zb.toInt = 2 * zn.toInt) :
    MetFree l (⟨"java/lang/StringUTF16", "coderFromArrayLen", "([BI)B"⟩ : MethodName) (head1 (Jvm.Cond.code (⟨"java/lang/StringUTF16", "coderFromArrayLen", "([BI)B"⟩ : MethodName) jdk_52_method_15_code 2 (some .byte) :: ws) ({ frames := 0, cells := 0, slots := 0, locals := 0 } : Room)) (fun a_ U => a_ = #[(.ref b), (.int zn)] ∧ Z.Warmed39 U.vm ∧ U.heap = h0) (fun _ _ _ _ _ => True) (fun _ U o U' => ∃ v L, o = .returned v ∧ Q11 Z b zn kb zb vl h0 n0 v U'.heap L ∧ FrameEnd U o U' L (({ frames := 0, cells := 0, slots := 0, locals := 0 } : Room)).cells (({ frames := 0, cells := 0, slots := 0, locals := 0 } : Room)).slots) := by
  refine MetFree.of_bodySF (plainFor_of_name pn_11) hisR ?_
  intro p e s m args below meth c s₁ Bd hml0 hP0 hK
  obtain ⟨rfl, hZ, hh⟩ := hP0
  have hx := Bd.exec
  have hby := Bd.bytes
  have hml : c.maxLocals = 2 := hml0
  have hown : s.vm.findClass "java/lang/StringUTF16" = some m.cls := findClass_of_methodNamed Bd.named
  have hnm := (name_of_methodNamed Bd.named Bd.method).1
  have X0 : Stand p l e ({ frames := 0, cells := 0, slots := 0, locals := 0 } : Room) s m #[(.ref b), (.int zn)] below meth c s₁ [] 0 0 := Stand.of_body Bd
  have e0 : s₁.heap = h0 := by rw [← hh, Bd.state]; rfl
  have N0 := Fr.nil n0
  have hlk : meth.locks = false := BodyLoose.notSynchronized Bd
  refine Go.start (P₀ := fun s₂ o => ∃ v L, o = .returned v ∧ Q11 Z b zn kb zb vl h0 n0 v s₂.heap L ∧ FrameEnd s o s₂ L (({ frames := 0, cells := 0, slots := 0, locals := 0 } : Room)).cells (({ frames := 0, cells := 0, slots := 0, locals := 0 } : Room)).slots) (congrArg s₁.setTop (ef_11 m b zn)) ?_
  intro P hP
  show Go p.tables e below P (s₁.setTop (mkF m 0 #[.val (.ref b), .val (.int zn)] []))
  refine Go.step (fun t k => XS.iloadN X0.here hx rfl (hb hby d11_0) rfl  k) ?_
  show Go p.tables e below P (s₁.setTop (mkF m 1 #[.val (.ref b), .val (.int zn)] [(.int zn)]))
  refine Go.step (fun t k => XS.aloadN X0.here hx rfl (hb hby d11_1) rfl rfl k) ?_
  show Go p.tables e below P (s₁.setTop (mkF m 2 #[.val (.ref b), .val (.int zn)] [(.ref b), (.int zn)]))
  have vq_1 := Vb
  obtain ⟨cl_1, Ar_1, q_1, S_1, Nn_1, H_1, G_1⟩ := vq_1
  refine Go.step (fun t k => X0.arraylength hx (by rw [e0]; exact Ar_1.1) (State.isArrayOf_alike hZ.alike Ar_1.2.1) (g := (mkF m 2 #[.val (.ref b), .val (.int zn)] [(.ref b), (.int zn)])) rfl rfl (hb hby d11_2) t k) ?_
  rw [len_of S_1 Nn_1]
  show Go p.tables e below P (s₁.setTop (mkF m 3 #[.val (.ref b), .val (.int zn)] [(.int zb), (.int zn)]))
  obtain ⟨i3, hi3⟩ : ∃ z : Int32, zn - zb = z := ⟨_, rfl⟩
  refine Go.step (fun t k => isub_v X0.here hx rfl (hb hby d11_3) rfl  hi3 k) ?_
  show Go p.tables e below P (s₁.setTop (mkF m 4 #[.val (.ref b), .val (.int zn)] [(.int i3)]))
  refine Go.step (fun t k => XS.bipush X0.here hx rfl (hb hby d11_4) k) ?_
  show Go p.tables e below P (s₁.setTop (mkF m 6 #[.val (.ref b), .val (.int zn)] [(.int (31 : Int32)), (.int i3)]))
  obtain ⟨i6, hi6⟩ : ∃ z : Int32, ((i3.toUInt32 >>> ((31 : Int32) &&& 31).toUInt32).toInt32) = z := ⟨_, rfl⟩
  refine Go.step (fun t k => iushr_v X0.here hx rfl (hb hby d11_6) rfl  hi6 k) ?_
  show Go p.tables e below P (s₁.setTop (mkF m 7 #[.val (.ref b), .val (.int zn)] [(.int i6)]))
  obtain ⟨i7, hi7⟩ : ∃ z : Int32, i6.toInt8.toInt32 = z := ⟨_, rfl⟩
  refine Go.step (fun t k => i2b_v X0.here hx rfl (hb hby d11_7) rfl hi7 k) ?_
  show Go p.tables e below P (s₁.setTop (mkF m 8 #[.val (.ref b), .val (.int zn)] [(.int i7)]))
  have f3 := c_isub zn zb; rw [hi3] at f3
  have g3 := rng32 i3
  have f6 := c_iushr i3 (31 : Int32) 31 rfl (by decide); rw [hi6] at f6
  have f7 := c_i2b i6; rw [hi7] at f7
  have z0 : (0 : Int32).toInt = 0 := rfl
  have z1 : (1 : Int32).toInt = 1 := rfl
  have hr : (zb.toInt = zn.toInt ∧ i7 = 0) ∨ (zb.toInt = 2 * zn.toInt ∧ i7 = 1) := by rcases hzb with q | q; exact Or.inl ⟨q, Int32.toInt_inj.mp (by omega)⟩; exact Or.inr ⟨q, Int32.toInt_inj.mp (by omega)⟩
  have hnb : narrow .byte (.int i7) = .int i7 := by rcases hr with ⟨_, q⟩ | ⟨_, q⟩ <;> (rw [q]; rfl)
  exact retGo X0 hx hP Bd.returns hlk hnb (Or.inl ⟨rfl, Or.inr (Or.inr (Or.inl rfl)), _, rfl⟩) (hb hby d11_8) (by decide) (by decide) (by rw [e0]; exact ⟨i7, rfl, hr, N0, rfl⟩)
theorem d12_0 : decode jdk_42_method_149_code 0 = .ok (.aload_n 0, 1) := by decide +kernel
theorem d12_1 : decode jdk_42_method_149_code 1 = .ok (.invokespecial 1, 3) := by decide +kernel
theorem d12_4 : decode jdk_42_method_149_code 4 = .ok (.iload_n 3, 1) := by decide +kernel
theorem d12_5 : decode jdk_42_method_149_code 5 = .ok (.ifCond .ne 22, 3) := by decide +kernel
theorem d12_27 : decode jdk_42_method_149_code 27 = .ok (.getstatic 38, 3) := by decide +kernel
theorem d12_30 : decode jdk_42_method_149_code 30 = .ok (.ifCond .eq 28, 3) := by decide +kernel
theorem d12_33 : decode jdk_42_method_149_code 33 = .ok (.aload_n 1, 1) := by decide +kernel
theorem d12_34 : decode jdk_42_method_149_code 34 = .ok (.iload_n 2, 1) := by decide +kernel
theorem d12_35 : decode jdk_42_method_149_code 35 = .ok (.iload_n 3, 1) := by decide +kernel
theorem d12_36 : decode jdk_42_method_149_code 36 = .ok (.invokestatic 177, 3) := by decide +kernel
theorem d12_39 : decode jdk_42_method_149_code 39 = .ok (.astore 5, 2) := by decide +kernel
theorem d12_41 : decode jdk_42_method_149_code 41 = .ok (.aload_n 0, 1) := by decide +kernel
theorem d12_42 : decode jdk_42_method_149_code 42 = .ok (.aload 5, 2) := by decide +kernel
theorem d12_44 : decode jdk_42_method_149_code 44 = .ok (.iload_n 3, 1) := by decide +kernel
theorem d12_45 : decode jdk_42_method_149_code 45 = .ok (.invokestatic 47, 3) := by decide +kernel
theorem d12_48 : decode jdk_42_method_149_code 48 = .ok (.putfield 15, 3) := by decide +kernel
theorem d12_51 : decode jdk_42_method_149_code 51 = .ok (.aload_n 0, 1) := by decide +kernel
theorem d12_52 : decode jdk_42_method_149_code 52 = .ok (.aload 5, 2) := by decide +kernel
theorem d12_54 : decode jdk_42_method_149_code 54 = .ok (.putfield 9, 3) := by decide +kernel
theorem d12_57 : decode jdk_42_method_149_code 57 = .ok (.return_, 1) := by decide +kernel
theorem pn_12 : plainName "java/lang/String" = true := by first | (simp [plainName, overriddenIn]; done) | decide +kernel
theorem ef_12 (m : MethodId) (x0 : Addr) (x1 : Addr) (x2 : Int32) (x3 : Int32) : entryFrame m #[(.ref x0), (.ref x1), (.int x2), (.int x3), .null] 6 = mkF m 0 #[.val (.ref x0), .val (.ref x1), .val (.int x2), .val (.int x3), .val .null, .unset] [] := by first | (simp [entryFrame, mkF, argsToLocals, Value.category]; done) | rfl
def Q12 (Z : State) (a : Addr) (ca : Addr) (zn : Int32) (kc : ClassId) (cs : List Int32) (cs1 : Int32) (h0 : Heap) (n0 : Nat) (v : Option Value) (h : Heap) (L : List Loc) : Prop := v = none ∧ Fr n0 L ∧ Keep h0 h [a] ∧ ∃ (b : Addr) (kb : ClassId) (zb : Int32) (vl : List Value) (cd : Int32), Exa Z h a "java/lang/String" ∧ Fld Z h a "java/lang/String" "value" "[B" (.ref b) ∧ Fld Z h a "java/lang/String" "coder" "B" (.int cd) ∧ Arv Z h b kb .byte zb vl (.int (0 : Int32)) ∧ ((cd = 0 ∧ zb.toInt = (cs.length : Int) ∧ ∀ x ∈ cs, x.toInt ≤ 255) ∨ (cd = 1 ∧ zb.toInt = 2 * (cs.length : Int) ∧ vl = enc cs))
set_option maxRecDepth 65536 in
set_option maxHeartbeats 40000000 in
theorem rm12 (l : Launch) (Z : State) (a0 : Array Value) (hw : ∀ d ∈ tables_1, d.before a0 Z = true) (ws : List Jvm.Cond) (a : Addr) (ca : Addr) (zn : Int32) (kc : ClassId) (cs : List Int32) (cs1 : Int32) (h0 : Heap) (n0 : Nat) (Z0 : n0 ≤ h0.size) (Vc : Arv Z h0 ca kc .char zn (cs.map Value.int) (.int (0 : Int32))) (hz : zn.toInt = (cs.length : Int)) (hn : cs.length ≤ 12) (hc : ∀ x ∈ cs, 0 ≤ x.toInt ∧ x.toInt < 65536) (hpos : 0 < cs.length) (nac : a ≠ ca) (E_a : Exa Z h0 a "java/lang/String") (F0 : Fld Z h0 a "java/lang/String" "value" "[B" .null) (F1 : Fld Z h0 a "java/lang/String" "coder" "B" (.int (0 : Int32))) (g_a : n0 ≤ a) (S0 : Sta Z h0 "java/lang/StringUTF16" "$assertionsDisabled" "Z" (.int (1 : Int32))) (S1 : Sta Z h0 "java/lang/StringUTF16" "HI_BYTE_SHIFT" "I" (.int (0 : Int32))) (S2 : Sta Z h0 "java/lang/StringUTF16" "LO_BYTE_SHIFT" "I" (.int (8 : Int32))) (S3 : Sta Z h0 "java/lang/String" "COMPACT_STRINGS" "Z" (.int cs1)) (hcs1 : ¬ cs1.toInt = 0) :
    MetFree l (⟨"java/lang/String", "<init>", "([CIILjava/lang/Void;)V"⟩ : MethodName) (head1 (Jvm.Cond.code (⟨"java/lang/String", "<init>", "([CIILjava/lang/Void;)V"⟩ : MethodName) jdk_42_method_149_code 6 none :: ws) ({ frames := 4, cells := 2, slots := 36, locals := 57 } : Room)) (fun a_ U => a_ = #[(.ref a), (.ref ca), (.int (0 : Int32)), (.int zn), .null] ∧ Z.Warmed39 U.vm ∧ U.heap = h0) (fun _ _ _ _ _ => True) (fun _ U o U' => ∃ v L, o = .returned v ∧ Q12 Z a ca zn kc cs cs1 h0 n0 v U'.heap L ∧ FrameEnd U o U' L (({ frames := 4, cells := 2, slots := 36, locals := 57 } : Room)).cells (({ frames := 4, cells := 2, slots := 36, locals := 57 } : Room)).slots) := by
  refine MetFree.of_bodySF (plainFor_of_name pn_12) hisR ?_
  intro p e s m args below meth c s₁ Bd hml0 hP0 hK
  obtain ⟨rfl, hZ, hh⟩ := hP0
  have hx := Bd.exec
  have hby := Bd.bytes
  have hml : c.maxLocals = 6 := hml0
  have hown : s.vm.findClass "java/lang/String" = some m.cls := findClass_of_methodNamed Bd.named
  have hnm := (name_of_methodNamed Bd.named Bd.method).1
  have X0 : Stand p l e ({ frames := 4, cells := 2, slots := 36, locals := 57 } : Room) s m #[(.ref a), (.ref ca), (.int (0 : Int32)), (.int zn), .null] below meth c s₁ [] 0 0 := Stand.of_body Bd
  have e0 : s₁.heap = h0 := by rw [← hh, Bd.state]; rfl
  have N0 := Fr.nil n0
  have hlk : meth.locks = false := BodyLoose.notSynchronized Bd
  refine Go.start (P₀ := fun s₂ o => ∃ v L, o = .returned v ∧ Q12 Z a ca zn kc cs cs1 h0 n0 v s₂.heap L ∧ FrameEnd s o s₂ L (({ frames := 4, cells := 2, slots := 36, locals := 57 } : Room)).cells (({ frames := 4, cells := 2, slots := 36, locals := 57 } : Room)).slots) (congrArg s₁.setTop (ef_12 m a ca (0 : Int32) zn)) ?_
  intro P hP
  show Go p.tables e below P (s₁.setTop (mkF m 0 #[.val (.ref a), .val (.ref ca), .val (.int (0 : Int32)), .val (.int zn), .val .null, .unset] []))
  refine Go.step (fun t k => XS.aloadN X0.here hx rfl (hb hby d12_0) rfl rfl k) ?_
  show Go p.tables e below P (s₁.setTop (mkF m 1 #[.val (.ref a), .val (.ref ca), .val (.int (0 : Int32)), .val (.int zn), .val .null, .unset] [(.ref a)]))
  obtain ⟨T_1, X_1, e_1, st_1⟩ := initO X0 hx hZ hown (hw _ (List.mem_of_getElem? (i := 16) rfl)) (hw _ (List.mem_of_getElem? (i := 17) rfl)) (hw _ (List.mem_of_getElem? (i := 18) rfl)) e0 (g := (mkF m 1 #[.val (.ref a), .val (.ref ca), .val (.int (0 : Int32)), .val (.int zn), .val .null, .unset] [(.ref a)])) rfl (by rw [hml]; rfl) rfl (hb hby d12_1) (by decide) (W := 0) (by show 2 * 0 + _ ≤ _; exact Nat.le_of_eq rfl) (by decide)
  refine Go.step (fun t k => st_1 t k) ?_
  show Go p.tables e below P (T_1.setTop (mkF m 4 #[.val (.ref a), .val (.ref ca), .val (.int (0 : Int32)), .val (.int zn), .val .null, .unset] []))
  refine Go.step (fun t k => XS.iloadN X_1.here hx rfl (hb hby d12_4) rfl  k) ?_
  show Go p.tables e below P (T_1.setTop (mkF m 5 #[.val (.ref a), .val (.ref ca), .val (.int (0 : Int32)), .val (.int zn), .val .null, .unset] [(.int zn)]))
  refine Go.step (fun t k => XS.ifYes X_1.here hx rfl (pc0 := 5) (pc' := 27) rfl (hb hby d12_5) rfl (ifY (cd := .ne) (by omega : ¬ zn.toInt = 0)) (by decide) (by decide) k) ?_
  show Go p.tables e below P (T_1.setTop (mkF m 27 #[.val (.ref a), .val (.ref ca), .val (.int (0 : Int32)), .val (.int zn), .val .null, .unset] []))
  obtain ⟨T_2, X_2, e_2, st_2⟩ := getS2 X_1 hx hZ hown (host := "") (Or.inl (hw _ (List.mem_of_getElem? (i := 44) rfl))) Via.refl e_1 (Sta_keepX S3 (Keep.refl h0 [a]) (nsX E_a.nostat ns0_)) (g := (mkF m 27 #[.val (.ref a), .val (.ref ca), .val (.int (0 : Int32)), .val (.int zn), .val .null, .unset] [])) rfl (hb hby d12_27)
  refine Go.step (fun t k => st_2 t k) ?_
  show Go p.tables e below P (T_2.setTop (mkF m 30 #[.val (.ref a), .val (.ref ca), .val (.int (0 : Int32)), .val (.int zn), .val .null, .unset] [(.int cs1)]))
  refine Go.step (fun t k => XS.ifNo X_2.here hx rfl (hb hby d12_30) rfl (ifN (cd := .eq) hcs1) k) ?_
  show Go p.tables e below P (T_2.setTop (mkF m 33 #[.val (.ref a), .val (.ref ca), .val (.int (0 : Int32)), .val (.int zn), .val .null, .unset] []))
  refine Go.step (fun t k => XS.aloadN X_2.here hx rfl (hb hby d12_33) rfl rfl k) ?_
  show Go p.tables e below P (T_2.setTop (mkF m 34 #[.val (.ref a), .val (.ref ca), .val (.int (0 : Int32)), .val (.int zn), .val .null, .unset] [(.ref ca)]))
  refine Go.step (fun t k => XS.iloadN X_2.here hx rfl (hb hby d12_34) rfl  k) ?_
  show Go p.tables e below P (T_2.setTop (mkF m 35 #[.val (.ref a), .val (.ref ca), .val (.int (0 : Int32)), .val (.int zn), .val .null, .unset] [(.int (0 : Int32)), (.ref ca)]))
  refine Go.step (fun t k => XS.iloadN X_2.here hx rfl (hb hby d12_35) rfl  k) ?_
  show Go p.tables e below P (T_2.setTop (mkF m 36 #[.val (.ref a), .val (.ref ca), .val (.int (0 : Int32)), .val (.int zn), .val .null, .unset] [(.int zn), (.int (0 : Int32)), (.ref ca)]))
  obtain ⟨_, _, ⟨T_3, L_3, k_3, n_3⟩, -, X_3, ⟨Lc_3, hQ_3, l_3, y_3, z_3⟩, st_3⟩ := Jvm.LawKit.callS X_2 hx (y := (⟨"java/lang/StringUTF16", "compress", "([CII)[B"⟩ : MethodName)) hown (mvT hZ (hw _ (List.mem_of_getElem? (i := 70) rfl))) (mvT hZ (hw _ (List.mem_of_getElem? (i := 71) rfl))) (mvT hZ (hw _ (List.mem_of_getElem? (i := 72) rfl))) (mvT hZ (hw _ (List.mem_of_getElem? (i := 73) rfl))) (by decide) (backOf (W := 0) (rm10 l Z a0 hw [] ca zn kc cs h0 n0 Z0 Vc hz hn hc (Sta_keepX S0 (Keep.refl h0 [a]) (nsX E_a.nostat ns0_)) (Sta_keepX S1 (Keep.refl h0 [a]) (nsX E_a.nostat ns0_)) (Sta_keepX S2 (Keep.refl h0 [a]) (nsX E_a.nostat ns0_))) hZ (hw _ (List.mem_of_getElem? (i := 73) rfl)) (hw _ (List.mem_of_getElem? (i := 72) rfl)) (by decide) (by decide)) (g := (mkF m 36 #[.val (.ref a), .val (.ref ca), .val (.int (0 : Int32)), .val (.int zn), .val .null, .unset] [(.int zn), (.int (0 : Int32)), (.ref ca)])) rfl (by rw [hml]; rfl) (argsL := [(.ref ca), (.int (0 : Int32)), (.int zn)]) (rest := []) (lenOf pd_6 rfl) rfl (by show 2 * 0 + _ ≤ _; exact Nat.le_of_eq rfl) (hb hby d12_36) (fun _ _ => ⟨rfl, e_2, (by decide : 0 + 2 ≤ _), (by decide : 0 + 36 ≤ _)⟩)
  dsimp only [Pt.U, Pt.locs, Pt.cells, Pt.slots] at X_3 l_3 y_3 z_3 st_3 hQ_3
  subst l_3 y_3 z_3
  obtain ⟨b, kb, zb, vl, rfl, N_3q, Kc_3, Sz_b, Vb, hcase⟩ := hQ_3
  have N_3 := Fr.app N0 N_3q
  have K_3 : Keep h0 T_3.heap [a] := (Keep.refl h0 [a]).trans Kc_3 all0
  have Z_3 : n0 ≤ T_3.heap.size := Nat.le_trans Z0 Kc_3.1
  refine Go.step (fun t k => st_3 t k) ?_
  show Go p.tables e below P (T_3.setTop (mkF m 39 #[.val (.ref a), .val (.ref ca), .val (.int (0 : Int32)), .val (.int zn), .val .null, .unset] [(.ref b)]))
  have lt_a_b : a < b := Nat.lt_of_lt_of_le E_a.lt Sz_b
  have lt_ca_b : ca < b := Nat.lt_of_lt_of_le Vc.lt Sz_b
  refine Go.step (fun t k => XS.astore X_3.here hx rfl (hb hby d12_39) rfl rfl (l' := #[.val (.ref a), .val (.ref ca), .val (.int (0 : Int32)), .val (.int zn), .val .null, .val (.ref b)]) rfl k) ?_
  show Go p.tables e below P (T_3.setTop (mkF m 41 #[.val (.ref a), .val (.ref ca), .val (.int (0 : Int32)), .val (.int zn), .val .null, .val (.ref b)] []))
  refine Go.step (fun t k => XS.aloadN X_3.here hx rfl (hb hby d12_41) rfl rfl k) ?_
  show Go p.tables e below P (T_3.setTop (mkF m 42 #[.val (.ref a), .val (.ref ca), .val (.int (0 : Int32)), .val (.int zn), .val .null, .val (.ref b)] [(.ref a)]))
  refine Go.step (fun t k => XS.aload X_3.here hx rfl (hb hby d12_42) rfl rfl k) ?_
  show Go p.tables e below P (T_3.setTop (mkF m 44 #[.val (.ref a), .val (.ref ca), .val (.int (0 : Int32)), .val (.int zn), .val .null, .val (.ref b)] [(.ref b), (.ref a)]))
  refine Go.step (fun t k => XS.iloadN X_3.here hx rfl (hb hby d12_44) rfl  k) ?_
  show Go p.tables e below P (T_3.setTop (mkF m 45 #[.val (.ref a), .val (.ref ca), .val (.int (0 : Int32)), .val (.int zn), .val .null, .val (.ref b)] [(.int zn), (.ref b), (.ref a)]))
  obtain ⟨_, _, ⟨T_4, L_4, k_4, n_4⟩, -, X_4, ⟨Lc_4, hQ_4, l_4, y_4, z_4⟩, st_4⟩ := Jvm.LawKit.callS X_3 hx (y := (⟨"java/lang/StringUTF16", "coderFromArrayLen", "([BI)B"⟩ : MethodName)) hown (mvT hZ (hw _ (List.mem_of_getElem? (i := 96) rfl))) (mvT hZ (hw _ (List.mem_of_getElem? (i := 97) rfl))) (mvT hZ (hw _ (List.mem_of_getElem? (i := 72) rfl))) (mvT hZ (hw _ (List.mem_of_getElem? (i := 98) rfl))) (by decide) (backOf (W := 1) (rm11 l Z a0 hw [] b zn kb zb vl T_3.heap n0 Z_3 Vb (by omega) (by rcases hcase with ⟨h, _⟩ | ⟨h, _⟩; exact Or.inl (by omega); exact Or.inr (by omega))) hZ (hw _ (List.mem_of_getElem? (i := 98) rfl)) (hw _ (List.mem_of_getElem? (i := 72) rfl)) (by decide) (by decide)) (g := (mkF m 45 #[.val (.ref a), .val (.ref ca), .val (.int (0 : Int32)), .val (.int zn), .val .null, .val (.ref b)] [(.int zn), (.ref b), (.ref a)])) rfl (by rw [hml]; rfl) (argsL := [(.ref b), (.int zn)]) (rest := [(.ref a)]) (lenOf pd_7 rfl) rfl (by show 2 * 0 + _ ≤ _; exact Nat.le_of_eq rfl) (hb hby d12_45) (fun _ _ => ⟨rfl, rfl, (by decide : 2 + 0 ≤ _), (by decide : 36 + 0 ≤ _)⟩)
  dsimp only [Pt.U, Pt.locs, Pt.cells, Pt.slots] at X_4 l_4 y_4 z_4 st_4 hQ_4
  subst l_4 y_4 z_4
  obtain ⟨cd, rfl, hcd, N_4q, eh_4⟩ := hQ_4
  have N_4 := Fr.app N_3 N_4q
  refine Go.step (fun t k => st_4 t k) ?_
  show Go p.tables e below P (T_4.setTop (mkF m 48 #[.val (.ref a), .val (.ref ca), .val (.int (0 : Int32)), .val (.int zn), .val .null, .val (.ref b)] [(.int cd), (.ref a)]))
  have hcd2 : cd = 0 ∨ cd = 1 := by rcases hcd with ⟨_, q⟩ | ⟨_, q⟩; exact Or.inl q; exact Or.inr q
  obtain ⟨T_5, h_5, X_5, e_5, W_5, st_5⟩ := putF X_4 hx hZ hown (host := "") (Or.inl (hw _ (List.mem_of_getElem? (i := 26) rfl))) Via.refl eh_4 (F1.keep Kc_3 nin0) (E_a.keep Kc_3) (Or.inr ⟨(hw _ (List.mem_of_getElem? (i := 22) rfl)), rfl, hnm⟩) (hw _ (List.mem_of_getElem? (i := 7) rfl)) (ty := .byte) (by decide) (by rcases hcd2 with q | q <;> (rw [q]; rfl)) (by rcases hcd2 with q | q <;> (rw [q]; rfl)) (g := (mkF m 48 #[.val (.ref a), .val (.ref ca), .val (.int (0 : Int32)), .val (.int zn), .val .null, .val (.ref b)] [(.int cd), (.ref a)])) rfl rfl (hb hby d12_48)
  have Fw_5 := (F1.keep Kc_3 nin0).same W_5
  have N_5 := Fr.snoc X_5 N_4 g_a
  have K_5 : Keep h0 h_5 [a] := K_3.wr W_5 (Or.inl (List.mem_of_getElem? (i := 0) rfl))
  have Z_5 : n0 ≤ h_5.size := Nat.le_trans Z_3 (Keep.of_wr W_5).1
  refine Go.step (fun t k => st_5 t k) ?_
  show Go p.tables e below P (T_5.setTop (mkF m 51 #[.val (.ref a), .val (.ref ca), .val (.int (0 : Int32)), .val (.int zn), .val .null, .val (.ref b)] []))
  refine Go.step (fun t k => XS.aloadN X_5.here hx rfl (hb hby d12_51) rfl rfl k) ?_
  show Go p.tables e below P (T_5.setTop (mkF m 52 #[.val (.ref a), .val (.ref ca), .val (.int (0 : Int32)), .val (.int zn), .val .null, .val (.ref b)] [(.ref a)]))
  refine Go.step (fun t k => XS.aload X_5.here hx rfl (hb hby d12_52) rfl rfl k) ?_
  show Go p.tables e below P (T_5.setTop (mkF m 54 #[.val (.ref a), .val (.ref ca), .val (.int (0 : Int32)), .val (.int zn), .val .null, .val (.ref b)] [(.ref b), (.ref a)]))
  obtain ⟨T_6, h_6, X_6, e_6, W_6, st_6⟩ := putF X_5 hx hZ hown (host := "") (Or.inl (hw _ (List.mem_of_getElem? (i := 25) rfl))) Via.refl e_5 ((F0.keep Kc_3 nin0).other W_5 (Or.inr (slot_ne (Or.inr (hw _ (List.mem_of_getElem? (i := 21) rfl))) (Or.inr (hw _ (List.mem_of_getElem? (i := 22) rfl))) (by decide) (t := (.array .byte)) (t' := .byte) (by decide) (by decide)))) ((E_a.keep Kc_3).wr W_5) (Or.inr ⟨(hw _ (List.mem_of_getElem? (i := 21) rfl)), rfl, hnm⟩) (hw _ (List.mem_of_getElem? (i := 7) rfl)) (ty := (.array .byte)) (by decide) rfl rfl (g := (mkF m 54 #[.val (.ref a), .val (.ref ca), .val (.int (0 : Int32)), .val (.int zn), .val .null, .val (.ref b)] [(.ref b), (.ref a)])) rfl rfl (hb hby d12_54)
  have Fw_6 := ((F0.keep Kc_3 nin0).other W_5 (Or.inr (slot_ne (Or.inr (hw _ (List.mem_of_getElem? (i := 21) rfl))) (Or.inr (hw _ (List.mem_of_getElem? (i := 22) rfl))) (by decide) (t := (.array .byte)) (t' := .byte) (by decide) (by decide)))).same W_6
  have N_6 := Fr.snoc X_6 N_5 g_a
  have K_6 : Keep h0 h_6 [a] := K_5.wr W_6 (Or.inl (List.mem_of_getElem? (i := 0) rfl))
  have Z_6 : n0 ≤ h_6.size := Nat.le_trans Z_5 (Keep.of_wr W_6).1
  refine Go.step (fun t k => st_6 t k) ?_
  show Go p.tables e below P (T_6.setTop (mkF m 57 #[.val (.ref a), .val (.ref ca), .val (.int (0 : Int32)), .val (.int zn), .val .null, .val (.ref b)] []))
  exact voidGo X_6 hx hP Bd.returns hlk (hb hby d12_57) (by decide) (by decide) (by rw [e_6]; exact ⟨rfl, N_6, K_6, b, kb, zb, vl, cd, (((E_a.keep Kc_3).wr W_5).wr W_6), Fw_6, (Fw_5.other W_6 (Or.inr (slot_ne (Or.inr (hw _ (List.mem_of_getElem? (i := 22) rfl))) (Or.inr (hw _ (List.mem_of_getElem? (i := 21) rfl))) (by decide) (t := .byte) (t' := (.array .byte)) (by decide) (by decide)))), ((Vb.other W_5 (Ne.symm (Nat.ne_of_lt lt_a_b))).other W_6 (Ne.symm (Nat.ne_of_lt lt_a_b))), by rcases hcase with ⟨h, h'⟩ | ⟨h, h', _⟩; (rcases hcd with ⟨_, q⟩ | ⟨q1, q⟩; exact Or.inl ⟨q, h, h'⟩; omega); (rcases hcd with ⟨q1, q⟩ | ⟨_, q⟩; omega; exact Or.inr ⟨q, h, h'⟩)⟩)
theorem d13_0 : decode jdk_42_method_3_code 0 = .ok (.aload_n 0, 1) := by decide +kernel
theorem d13_1 : decode jdk_42_method_3_code 1 = .ok (.aload_n 1, 1) := by decide +kernel
theorem d13_2 : decode jdk_42_method_3_code 2 = .ok (.iconst 0, 1) := by decide +kernel
theorem d13_3 : decode jdk_42_method_3_code 3 = .ok (.aload_n 1, 1) := by decide +kernel
theorem d13_4 : decode jdk_42_method_3_code 4 = .ok (.arraylength, 1) := by decide +kernel
theorem d13_5 : decode jdk_42_method_3_code 5 = .ok (.aconst_null, 1) := by decide +kernel
theorem d13_6 : decode jdk_42_method_3_code 6 = .ok (.invokespecial 27, 3) := by decide +kernel
theorem d13_9 : decode jdk_42_method_3_code 9 = .ok (.return_, 1) := by decide +kernel
theorem pn_13 : plainName "java/lang/String" = true := by first | (simp [plainName, overriddenIn]; done) | decide +kernel
theorem ef_13 (m : MethodId) (x0 : Addr) (x1 : Addr) : entryFrame m #[(.ref x0), (.ref x1)] 2 = mkF m 0 #[.val (.ref x0), .val (.ref x1)] [] := by first | (simp [entryFrame, mkF, argsToLocals, Value.category]; done) | rfl
def Q13 (Z : State) (a : Addr) (ca : Addr) (zn : Int32) (kc : ClassId) (cs : List Int32) (cs1 : Int32) (h0 : Heap) (n0 : Nat) (v : Option Value) (h : Heap) (L : List Loc) : Prop := v = none ∧ Fr n0 L ∧ Keep h0 h [a] ∧ ∃ (b : Addr) (kb : ClassId) (zb : Int32) (vl : List Value) (cd : Int32), Exa Z h a "java/lang/String" ∧ Fld Z h a "java/lang/String" "value" "[B" (.ref b) ∧ Fld Z h a "java/lang/String" "coder" "B" (.int cd) ∧ Arv Z h b kb .byte zb vl (.int (0 : Int32)) ∧ ((cd = 0 ∧ zb.toInt = (cs.length : Int) ∧ ∀ x ∈ cs, x.toInt ≤ 255) ∨ (cd = 1 ∧ zb.toInt = 2 * (cs.length : Int) ∧ vl = enc cs))
set_option maxRecDepth 65536 in
set_option maxHeartbeats 40000000 in
theorem rm13 (l : Launch) (Z : State) (a0 : Array Value) (hw : ∀ d ∈ tables_1, d.before a0 Z = true) (ws : List Jvm.Cond) (a : Addr) (ca : Addr) (zn : Int32) (kc : ClassId) (cs : List Int32) (cs1 : Int32) (h0 : Heap) (n0 : Nat) (Z0 : n0 ≤ h0.size) (Vc : Arv Z h0 ca kc .char zn (cs.map Value.int) (.int (0 : Int32))) (hz : zn.toInt = (cs.length : Int)) (hn : cs.length ≤ 12) (hc : ∀ x ∈ cs, 0 ≤ x.toInt ∧ x.toInt < 65536) (hpos : 0 < cs.length) (nac : a ≠ ca) (E_a : Exa Z h0 a "java/lang/String") (F0 : Fld Z h0 a "java/lang/String" "value" "[B" .null) (F1 : Fld Z h0 a "java/lang/String" "coder" "B" (.int (0 : Int32))) (g_a : n0 ≤ a) (S0 : Sta Z h0 "java/lang/StringUTF16" "$assertionsDisabled" "Z" (.int (1 : Int32))) (S1 : Sta Z h0 "java/lang/StringUTF16" "HI_BYTE_SHIFT" "I" (.int (0 : Int32))) (S2 : Sta Z h0 "java/lang/StringUTF16" "LO_BYTE_SHIFT" "I" (.int (8 : Int32))) (S3 : Sta Z h0 "java/lang/String" "COMPACT_STRINGS" "Z" (.int cs1)) (hcs1 : ¬ cs1.toInt = 0) :
    MetFree l (⟨"java/lang/String", "<init>", "([C)V"⟩ : MethodName) (head1 (Jvm.Cond.code (⟨"java/lang/String", "<init>", "([C)V"⟩ : MethodName) jdk_42_method_3_code 2 none :: ws) ({ frames := 5, cells := 2, slots := 36, locals := 74 } : Room)) (fun a_ U => a_ = #[(.ref a), (.ref ca)] ∧ Z.Warmed39 U.vm ∧ U.heap = h0) (fun _ _ _ _ _ => True) (fun _ U o U' => ∃ v L, o = .returned v ∧ Q13 Z a ca zn kc cs cs1 h0 n0 v U'.heap L ∧ FrameEnd U o U' L (({ frames := 5, cells := 2, slots := 36, locals := 74 } : Room)).cells (({ frames := 5, cells := 2, slots := 36, locals := 74 } : Room)).slots) := by
  refine MetFree.of_bodySF (plainFor_of_name pn_13) hisR ?_
  intro p e s m args below meth c s₁ Bd hml0 hP0 hK
  obtain ⟨rfl, hZ, hh⟩ := hP0
  have hx := Bd.exec
  have hby := Bd.bytes
  have hml : c.maxLocals = 2 := hml0
  have hown : s.vm.findClass "java/lang/String" = some m.cls := findClass_of_methodNamed Bd.named
  have hnm := (name_of_methodNamed Bd.named Bd.method).1
  have X0 : Stand p l e ({ frames := 5, cells := 2, slots := 36, locals := 74 } : Room) s m #[(.ref a), (.ref ca)] below meth c s₁ [] 0 0 := Stand.of_body Bd
  have e0 : s₁.heap = h0 := by rw [← hh, Bd.state]; rfl
  have N0 := Fr.nil n0
  have hlk : meth.locks = false := BodyLoose.notSynchronized Bd
  refine Go.start (P₀ := fun s₂ o => ∃ v L, o = .returned v ∧ Q13 Z a ca zn kc cs cs1 h0 n0 v s₂.heap L ∧ FrameEnd s o s₂ L (({ frames := 5, cells := 2, slots := 36, locals := 74 } : Room)).cells (({ frames := 5, cells := 2, slots := 36, locals := 74 } : Room)).slots) (congrArg s₁.setTop (ef_13 m a ca)) ?_
  intro P hP
  show Go p.tables e below P (s₁.setTop (mkF m 0 #[.val (.ref a), .val (.ref ca)] []))
  refine Go.step (fun t k => XS.aloadN X0.here hx rfl (hb hby d13_0) rfl rfl k) ?_
  show Go p.tables e below P (s₁.setTop (mkF m 1 #[.val (.ref a), .val (.ref ca)] [(.ref a)]))
  refine Go.step (fun t k => XS.aloadN X0.here hx rfl (hb hby d13_1) rfl rfl k) ?_
  show Go p.tables e below P (s₁.setTop (mkF m 2 #[.val (.ref a), .val (.ref ca)] [(.ref ca), (.ref a)]))
  refine Go.step (fun t k => XS.iconst X0.here hx rfl (hb hby d13_2) k) ?_
  show Go p.tables e below P (s₁.setTop (mkF m 3 #[.val (.ref a), .val (.ref ca)] [(.int (0 : Int32)), (.ref ca), (.ref a)]))
  refine Go.step (fun t k => XS.aloadN X0.here hx rfl (hb hby d13_3) rfl rfl k) ?_
  show Go p.tables e below P (s₁.setTop (mkF m 4 #[.val (.ref a), .val (.ref ca)] [(.ref ca), (.int (0 : Int32)), (.ref ca), (.ref a)]))
  have vq_1 := Vc
  obtain ⟨cl_1, Ar_1, q_1, S_1, Nn_1, H_1, G_1⟩ := vq_1
  refine Go.step (fun t k => X0.arraylength hx (by rw [e0]; exact Ar_1.1) (State.isArrayOf_alike hZ.alike Ar_1.2.1) (g := (mkF m 4 #[.val (.ref a), .val (.ref ca)] [(.ref ca), (.int (0 : Int32)), (.ref ca), (.ref a)])) rfl rfl (hb hby d13_4) t k) ?_
  rw [len_of S_1 Nn_1]
  show Go p.tables e below P (s₁.setTop (mkF m 5 #[.val (.ref a), .val (.ref ca)] [(.int zn), (.int (0 : Int32)), (.ref ca), (.ref a)]))
  refine Go.step (fun t k => XS.aconstNull X0.here hx rfl (hb hby d13_5) k) ?_
  show Go p.tables e below P (s₁.setTop (mkF m 6 #[.val (.ref a), .val (.ref ca)] [.null, (.int zn), (.int (0 : Int32)), (.ref ca), (.ref a)]))
  obtain ⟨_, _, ⟨T_2, L_2, k_2, n_2⟩, -, X_2, ⟨Lc_2, hQ_2, l_2, y_2, z_2⟩, st_2⟩ := X0.specialBack hx (y := (⟨"java/lang/String", "<init>", "([CIILjava/lang/Void;)V"⟩ : MethodName)) rfl hown (mvT hZ (hw _ (List.mem_of_getElem? (i := 12) rfl))) (mvT hZ (hw _ (List.mem_of_getElem? (i := 13) rfl))) (mvT hZ (hw _ (List.mem_of_getElem? (i := 15) rfl))) (by decide) (backOf (W := 0) (rm12 l Z a0 hw [] a ca zn kc cs cs1 h0 n0 Z0 Vc hz hn hc hpos nac E_a F0 F1 g_a (Sta_keepX S0 (Keep.refl h0 [a]) (nsX E_a.nostat ns0_)) (Sta_keepX S1 (Keep.refl h0 [a]) (nsX E_a.nostat ns0_)) (Sta_keepX S2 (Keep.refl h0 [a]) (nsX E_a.nostat ns0_)) (Sta_keepX S3 (Keep.refl h0 [a]) (nsX E_a.nostat ns0_)) hcs1) hZ (hw _ (List.mem_of_getElem? (i := 15) rfl)) (hw _ (List.mem_of_getElem? (i := 8) rfl)) (by decide) (by decide)) (g := (mkF m 6 #[.val (.ref a), .val (.ref ca)] [.null, (.int zn), (.int (0 : Int32)), (.ref ca), (.ref a)])) rfl (by rw [hml]; rfl) (Steps.refl _) (a := a) (argsL := [(.ref ca), (.int (0 : Int32)), (.int zn), .null]) (rest := []) (lenOf pd_8 rfl) rfl (by show 2 * 0 + _ ≤ _; exact Nat.le_of_eq rfl) (hb hby d13_6) (fun _ _ => ⟨rfl, e0, (by decide : 0 + 2 ≤ _), (by decide : 0 + 36 ≤ _)⟩)
  dsimp only [Pt.U, Pt.locs, Pt.cells, Pt.slots] at X_2 l_2 y_2 z_2 st_2 hQ_2
  subst l_2 y_2 z_2
  obtain ⟨rfl, N_2q, Kc_2, hrest⟩ := hQ_2
  have N_2 := Fr.app N0 N_2q
  have K_2 : Keep h0 T_2.heap [a] := (Keep.refl h0 [a]).trans Kc_2 (allS (Or.inl (List.mem_of_getElem? (i := 0) rfl)) all0)
  have Z_2 : n0 ≤ T_2.heap.size := Nat.le_trans Z0 Kc_2.1
  refine Go.tr st_2 ?_
  show Go p.tables e below P (T_2.setTop (mkF m 9 #[.val (.ref a), .val (.ref ca)] []))
  exact voidGo X_2 hx hP Bd.returns hlk (hb hby d13_9) (by decide) (by decide) ⟨rfl, N_2, K_2, hrest⟩
theorem d17_0 : decode jdk_42_method_149_code 0 = .ok (.aload_n 0, 1) := by decide +kernel
theorem d17_1 : decode jdk_42_method_149_code 1 = .ok (.invokespecial 1, 3) := by decide +kernel
theorem d17_4 : decode jdk_42_method_149_code 4 = .ok (.iload_n 3, 1) := by decide +kernel
theorem d17_5 : decode jdk_42_method_149_code 5 = .ok (.ifCond .ne 22, 3) := by decide +kernel
theorem d17_8 : decode jdk_42_method_149_code 8 = .ok (.aload_n 0, 1) := by decide +kernel
theorem d17_9 : decode jdk_42_method_149_code 9 = .ok (.ldc 7, 2) := by decide +kernel
theorem d17_11 : decode jdk_42_method_149_code 11 = .ok (.getfield 9, 3) := by decide +kernel
theorem d17_14 : decode jdk_42_method_149_code 14 = .ok (.putfield 9, 3) := by decide +kernel
theorem d17_17 : decode jdk_42_method_149_code 17 = .ok (.aload_n 0, 1) := by decide +kernel
theorem d17_18 : decode jdk_42_method_149_code 18 = .ok (.ldc 7, 2) := by decide +kernel
theorem d17_20 : decode jdk_42_method_149_code 20 = .ok (.getfield 15, 3) := by decide +kernel
theorem d17_23 : decode jdk_42_method_149_code 23 = .ok (.putfield 15, 3) := by decide +kernel
theorem d17_26 : decode jdk_42_method_149_code 26 = .ok (.return_, 1) := by decide +kernel
theorem pn_17 : plainName "java/lang/String" = true := by first | (simp [plainName, overriddenIn]; done) | decide +kernel
theorem ef_17 (m : MethodId) (x0 : Addr) (x1 : Addr) (x2 : Int32) (x3 : Int32) : entryFrame m #[(.ref x0), (.ref x1), (.int x2), (.int x3), .null] 6 = mkF m 0 #[.val (.ref x0), .val (.ref x1), .val (.int x2), .val (.int x3), .val .null, .unset] [] := by first | (simp [entryFrame, mkF, argsToLocals, Value.category]; done) | rfl
def Q17 (Z : State) (a : Addr) (ca : Addr) (zn : Int32) (h0 : Heap) (n0 : Nat) (v : Option Value) (h : Heap) (L : List Loc) : Prop := v = none ∧ Fr n0 L ∧ Keep h0 h [a] ∧ ∃ (b : Addr) (kb : ClassId), Exa Z h a "java/lang/String" ∧ Fld Z h a "java/lang/String" "value" "[B" (.ref b) ∧ Fld Z h a "java/lang/String" "coder" "B" (.int (0 : Int32)) ∧ Arv Z h b kb .byte (0 : Int32) [] (.int (0 : Int32))
set_option maxRecDepth 65536 in
set_option maxHeartbeats 40000000 in
theorem in2z (l : Launch) (Z : State) (a0 : Array Value) (hw : ∀ d ∈ tables_1, d.before a0 Z = true) (ws : List Jvm.Cond) (a : Addr) (ca : Addr) (zn : Int32) (h0 : Heap) (n0 : Nat) (Z0 : n0 ≤ h0.size) (hz : zn.toInt = 0) (E_a : Exa Z h0 a "java/lang/String") (F0 : Fld Z h0 a "java/lang/String" "value" "[B" .null) (F1 : Fld Z h0 a "java/lang/String" "coder" "B" (.int (0 : Int32))) (g_a : n0 ≤ a) :
    MetFree l (⟨"java/lang/String", "<init>", "([CIILjava/lang/Void;)V"⟩ : MethodName) (head1 (Jvm.Cond.code (⟨"java/lang/String", "<init>", "([CIILjava/lang/Void;)V"⟩ : MethodName) jdk_42_method_149_code 6 none :: ws) ({ frames := 1, cells := 4, slots := 8, locals := 12 } : Room)) (fun a_ U => a_ = #[(.ref a), (.ref ca), (.int (0 : Int32)), (.int zn), .null] ∧ Z.Warmed39 U.vm ∧ U.heap = h0 ∧ CHv Z [("java/lang/String", 7)] U.vm h0) (fun _ _ _ _ _ => True) (fun _ U o U' => ∃ v L, o = .returned v ∧ Q17 Z a ca zn h0 n0 v U'.heap L ∧ CHr Z [("java/lang/String", 7)] U.vm U.heap U'.vm U'.heap ∧ ReturnedEndW U o U' L (({ frames := 1, cells := 4, slots := 8, locals := 12 } : Room)).cells (({ frames := 1, cells := 4, slots := 8, locals := 12 } : Room)).slots) := by
  refine MetFree.of_bodySF (plainFor_of_name pn_17) hisR ?_
  intro p e s m args below meth c s₁ Bd hml0 hP0 hK
  obtain ⟨rfl, hZ, hh, hCH⟩ := hP0
  have hx := Bd.exec
  have hby := Bd.bytes
  have hml : c.maxLocals = 6 := hml0
  have hown : s.vm.findClass "java/lang/String" = some m.cls := findClass_of_methodNamed Bd.named
  have hnm := (name_of_methodNamed Bd.named Bd.method).1
  have X0 : Stand p l e ({ frames := 1, cells := 4, slots := 8, locals := 12 } : Room) s m #[(.ref a), (.ref ca), (.int (0 : Int32)), (.int zn), .null] below meth c s₁ [] 0 0 := Stand.of_body Bd
  have e0 : s₁.heap = h0 := by rw [← hh, Bd.state]; rfl
  have N0 := Fr.nil n0
  have hlk : meth.locks = false := BodyLoose.notSynchronized Bd
  refine Go.start (P₀ := fun s₂ o => ∃ v L, o = .returned v ∧ Q17 Z a ca zn h0 n0 v s₂.heap L ∧ CHr Z [("java/lang/String", 7)] s.vm s.heap s₂.vm s₂.heap ∧ ReturnedEndW s o s₂ L (({ frames := 1, cells := 4, slots := 8, locals := 12 } : Room)).cells (({ frames := 1, cells := 4, slots := 8, locals := 12 } : Room)).slots) (congrArg s₁.setTop (ef_17 m a ca (0 : Int32) zn)) ?_
  intro P hP
  show Go p.tables e below P (s₁.setTop (mkF m 0 #[.val (.ref a), .val (.ref ca), .val (.int (0 : Int32)), .val (.int zn), .val .null, .unset] []))
  have hEL : EW Z a0 [("java/lang/String", 7)] := (EW.cons (hw _ (List.mem_of_getElem? (i := 19) rfl)) (by decide) EW.nil)
  have hS : s.Since s.vm h0.size := (State.WarmedH.refl s).since _
  have CR0 : CHr Z [("java/lang/String", 7)] s.vm h0 s.vm h0 := CHr.refl hCH
  have Sf0_a : Safe Z [("java/lang/String", 7)] s.vm h0 a := safeNull hZ.alike E_a F0
  refine Go.step (fun t k => XS.aloadN X0.here hx rfl (hb hby d17_0) rfl rfl k) ?_
  show Go p.tables e below P (s₁.setTop (mkF m 1 #[.val (.ref a), .val (.ref ca), .val (.int (0 : Int32)), .val (.int zn), .val .null, .unset] [(.ref a)]))
  obtain ⟨T_1, X_1, e_1, st_1⟩ := initO X0 hx hZ hown (hw _ (List.mem_of_getElem? (i := 16) rfl)) (hw _ (List.mem_of_getElem? (i := 17) rfl)) (hw _ (List.mem_of_getElem? (i := 18) rfl)) e0 (g := (mkF m 1 #[.val (.ref a), .val (.ref ca), .val (.int (0 : Int32)), .val (.int zn), .val .null, .unset] [(.ref a)])) rfl (by rw [hml]; rfl) rfl (hb hby d17_1) (by decide) (W := 0) (by show 2 * 0 + _ ≤ _; exact Nat.le_of_eq rfl) (by decide)
  refine Go.step (fun t k => st_1 t k) ?_
  show Go p.tables e below P (T_1.setTop (mkF m 4 #[.val (.ref a), .val (.ref ca), .val (.int (0 : Int32)), .val (.int zn), .val .null, .unset] []))
  refine Go.step (fun t k => XS.iloadN X_1.here hx rfl (hb hby d17_4) rfl  k) ?_
  show Go p.tables e below P (T_1.setTop (mkF m 5 #[.val (.ref a), .val (.ref ca), .val (.int (0 : Int32)), .val (.int zn), .val .null, .unset] [(.int zn)]))
  refine Go.step (fun t k => XS.ifNo X_1.here hx rfl (hb hby d17_5) rfl (ifN (cd := .ne) (by omega : ¬ (¬ zn.toInt = 0))) k) ?_
  show Go p.tables e below P (T_1.setTop (mkF m 8 #[.val (.ref a), .val (.ref ca), .val (.int (0 : Int32)), .val (.int zn), .val .null, .unset] []))
  refine Go.step (fun t k => XS.aloadN X_1.here hx rfl (hb hby d17_8) rfl rfl k) ?_
  show Go p.tables e below P (T_1.setTop (mkF m 9 #[.val (.ref a), .val (.ref ca), .val (.int (0 : Int32)), .val (.int zn), .val .null, .unset] [(.ref a)]))
  have wS_2 : ∀ d ∈ Bundle.stringAtoms, d.before a0 Z = true := by
    intro d hd
    simp only [Bundle.stringAtoms, List.mem_cons, List.not_mem_nil, or_false] at hd
    rcases hd with rfl | rfl | rfl | rfl | rfl | rfl | rfl
    · exact (hw _ (List.mem_of_getElem? (i := 8) rfl))
    · exact (hw _ (List.mem_of_getElem? (i := 7) rfl))
    · exact (hw _ (List.mem_of_getElem? (i := 20) rfl))
    · exact (hw _ (List.mem_of_getElem? (i := 21) rfl))
    · exact (hw _ (List.mem_of_getElem? (i := 22) rfl))
    · exact (hw _ (List.mem_of_getElem? (i := 23) rfl))
    · exact (hw _ (List.mem_of_getElem? (i := 24) rfl))
  obtain ⟨la_2, T_2, h_2, kk_2, lb_2, lk_2, X_2, e_2, E_2, hS, hk_2, hZ, hown, Ea_2, Fc_2, Fv_2, Va_2, -, -, CC_2, -, Sf_2, st_2⟩ := ldcCH (s := s) (vm0 := s.vm) X_1 hx hZ hown (hw _ (List.mem_of_getElem? (i := 19) rfl)) wS_2 e_1 hS (Nat.le_refl _) hEL (by simp) CR0.1 (vs := []) (z := (0 : Int32)) ⟨by decide, by first | rfl | decide +kernel⟩ (by decide) (by decide) (g := (mkF m 9 #[.val (.ref a), .val (.ref ca), .val (.int (0 : Int32)), .val (.int zn), .val .null, .unset] [(.ref a)])) rfl (hb hby d17_9) (n := 0) (by decide) (by decide) (by decide) (by decide)
  have CR_2 : CHr Z [("java/lang/String", 7)] s.vm h0 T_2.vm h_2 := CR0.trans CC_2
  have K_2 : Keep h0 h_2 [a] := (Keep.refl h0 [a]).ext E_2
  have Z_2 : n0 ≤ h_2.size := Nat.le_trans Z0 E_2.1
  obtain ⟨ne_a_la_2, ne_a_lb_2⟩ := Sf_2 a (CR_2.safe E_a.lt Sf0_a)
  refine Go.step (fun t k => st_2 t k) ?_
  show Go p.tables e below P (T_2.setTop (mkF m 11 #[.val (.ref a), .val (.ref ca), .val (.int (0 : Int32)), .val (.int zn), .val .null, .unset] [(.ref la_2), (.ref a)]))
  obtain ⟨T_3, X_3, e_3, st_3⟩ := getF X_2 hx hZ hown (host := "") (Or.inl (hw _ (List.mem_of_getElem? (i := 25) rfl))) Via.refl e_2 Fv_2 (g := (mkF m 11 #[.val (.ref a), .val (.ref ca), .val (.int (0 : Int32)), .val (.int zn), .val .null, .unset] [(.ref la_2), (.ref a)])) rfl rfl (hb hby d17_11)
  refine Go.step (fun t k => st_3 t k) ?_
  show Go p.tables e below P (T_3.setTop (mkF m 14 #[.val (.ref a), .val (.ref ca), .val (.int (0 : Int32)), .val (.int zn), .val .null, .unset] [(.ref lb_2), (.ref a)]))
  obtain ⟨T_4, h_4, X_4, e_4, W_4, st_4⟩ := putF X_3 hx hZ hown (host := "") (Or.inl (hw _ (List.mem_of_getElem? (i := 25) rfl))) Via.refl e_3 (F0.ext E_2) (E_a.ext E_2) (Or.inr ⟨(hw _ (List.mem_of_getElem? (i := 21) rfl)), rfl, hnm⟩) (hw _ (List.mem_of_getElem? (i := 7) rfl)) (ty := (.array .byte)) (by decide) rfl rfl (g := (mkF m 14 #[.val (.ref a), .val (.ref ca), .val (.int (0 : Int32)), .val (.int zn), .val .null, .unset] [(.ref lb_2), (.ref a)])) rfl rfl (hb hby d17_14)
  have Fw_4 := (F0.ext E_2).same W_4
  have N_4 := Fr.snoc X_4 N0 g_a
  have K_4 : Keep h0 h_4 [a] := K_2.wr W_4 (Or.inl (List.mem_of_getElem? (i := 0) rfl))
  have Z_4 : n0 ≤ h_4.size := Nat.le_trans Z_2 (Keep.of_wr W_4).1
  refine Go.step (fun t k => st_4 t k) ?_
  show Go p.tables e below P (T_4.setTop (mkF m 17 #[.val (.ref a), .val (.ref ca), .val (.int (0 : Int32)), .val (.int zn), .val .null, .unset] []))
  refine Go.step (fun t k => XS.aloadN X_4.here hx rfl (hb hby d17_17) rfl rfl k) ?_
  show Go p.tables e below P (T_4.setTop (mkF m 18 #[.val (.ref a), .val (.ref ca), .val (.int (0 : Int32)), .val (.int zn), .val .null, .unset] [(.ref a)]))
  have CR_6 : CHr Z [("java/lang/String", 7)] s.vm h0 T_2.vm h_4 := CR_2.trans (CHr.wr W_4 (CR_2.safe E_a.lt Sf0_a) CR_2.1)
  have wS_5 : ∀ d ∈ Bundle.stringAtoms, d.before a0 Z = true := by
    intro d hd
    simp only [Bundle.stringAtoms, List.mem_cons, List.not_mem_nil, or_false] at hd
    rcases hd with rfl | rfl | rfl | rfl | rfl | rfl | rfl
    · exact (hw _ (List.mem_of_getElem? (i := 8) rfl))
    · exact (hw _ (List.mem_of_getElem? (i := 7) rfl))
    · exact (hw _ (List.mem_of_getElem? (i := 20) rfl))
    · exact (hw _ (List.mem_of_getElem? (i := 21) rfl))
    · exact (hw _ (List.mem_of_getElem? (i := 22) rfl))
    · exact (hw _ (List.mem_of_getElem? (i := 23) rfl))
    · exact (hw _ (List.mem_of_getElem? (i := 24) rfl))
  obtain ⟨la_5, T_5, h_5, kk_5, lb_5, lk_5, X_5, e_5, E_5, hS, hk_5, hZ, hown, Ea_5, Fc_5, Fv_5, Va_5, -, -, CC_5, -, Sf_5, st_5⟩ := ldcCH (s := s) (vm0 := T_2.vm) X_4 hx hZ hown (hw _ (List.mem_of_getElem? (i := 19) rfl)) wS_5 e_4 hS (Nat.le_trans hk_2 (Keep.of_wr W_4).1) hEL (by simp) CR_6.1 (vs := []) (z := (0 : Int32)) ⟨by decide, by first | rfl | decide +kernel⟩ (by decide) (by decide) (g := (mkF m 18 #[.val (.ref a), .val (.ref ca), .val (.int (0 : Int32)), .val (.int zn), .val .null, .unset] [(.ref a)])) rfl (hb hby d17_18) (n := 0) (by decide) (by decide) (by decide) (by decide)
  have CR_5 : CHr Z [("java/lang/String", 7)] s.vm h0 T_5.vm h_5 := CR_6.trans CC_5
  have K_5 : Keep h0 h_5 [a] := K_4.ext E_5
  have Z_5 : n0 ≤ h_5.size := Nat.le_trans Z_4 E_5.1
  obtain ⟨ne_a_la_5, ne_a_lb_5⟩ := Sf_5 a (CR_5.safe E_a.lt Sf0_a)
  refine Go.step (fun t k => st_5 t k) ?_
  show Go p.tables e below P (T_5.setTop (mkF m 20 #[.val (.ref a), .val (.ref ca), .val (.int (0 : Int32)), .val (.int zn), .val .null, .unset] [(.ref la_5), (.ref a)]))
  obtain ⟨T_7, X_7, e_7, st_7⟩ := getF X_5 hx hZ hown (host := "") (Or.inl (hw _ (List.mem_of_getElem? (i := 26) rfl))) Via.refl e_5 Fc_5 (g := (mkF m 20 #[.val (.ref a), .val (.ref ca), .val (.int (0 : Int32)), .val (.int zn), .val .null, .unset] [(.ref la_5), (.ref a)])) rfl rfl (hb hby d17_20)
  refine Go.step (fun t k => st_7 t k) ?_
  show Go p.tables e below P (T_7.setTop (mkF m 23 #[.val (.ref a), .val (.ref ca), .val (.int (0 : Int32)), .val (.int zn), .val .null, .unset] [(.int (0 : Int32)), (.ref a)]))
  obtain ⟨T_8, h_8, X_8, e_8, W_8, st_8⟩ := putF X_7 hx hZ hown (host := "") (Or.inl (hw _ (List.mem_of_getElem? (i := 26) rfl))) Via.refl e_7 (((F1.ext E_2).other W_4 (Or.inr (slot_ne (Or.inr (hw _ (List.mem_of_getElem? (i := 22) rfl))) (Or.inr (hw _ (List.mem_of_getElem? (i := 21) rfl))) (by decide) (t := .byte) (t' := (.array .byte)) (by decide) (by decide)))).ext E_5) (((E_a.ext E_2).wr W_4).ext E_5) (Or.inr ⟨(hw _ (List.mem_of_getElem? (i := 22) rfl)), rfl, hnm⟩) (hw _ (List.mem_of_getElem? (i := 7) rfl)) (ty := .byte) (by decide) rfl rfl (g := (mkF m 23 #[.val (.ref a), .val (.ref ca), .val (.int (0 : Int32)), .val (.int zn), .val .null, .unset] [(.int (0 : Int32)), (.ref a)])) rfl rfl (hb hby d17_23)
  have Fw_8 := (((F1.ext E_2).other W_4 (Or.inr (slot_ne (Or.inr (hw _ (List.mem_of_getElem? (i := 22) rfl))) (Or.inr (hw _ (List.mem_of_getElem? (i := 21) rfl))) (by decide) (t := .byte) (t' := (.array .byte)) (by decide) (by decide)))).ext E_5).same W_8
  have N_8 := Fr.snoc X_8 N_4 g_a
  have K_8 : Keep h0 h_8 [a] := K_5.wr W_8 (Or.inl (List.mem_of_getElem? (i := 0) rfl))
  have Z_8 : n0 ≤ h_8.size := Nat.le_trans Z_5 (Keep.of_wr W_8).1
  refine Go.step (fun t k => st_8 t k) ?_
  show Go p.tables e below P (T_8.setTop (mkF m 26 #[.val (.ref a), .val (.ref ca), .val (.int (0 : Int32)), .val (.int zn), .val .null, .unset] []))
  have CR_9 : CHr Z [("java/lang/String", 7)] s.vm h0 T_5.vm h_8 := CR_5.trans (CHr.wr W_8 (CR_5.safe E_a.lt Sf0_a) CR_5.1)
  exact voidGoH (Z := Z) (EL := [("java/lang/String", 7)]) (s := s) (vm1 := T_5.vm) X_8 hx hS (by rw [e_8]; exact (Nat.le_trans hk_5 (Keep.of_wr W_8).1)) hP Bd.returns hlk (hb hby d17_26) (by decide) (by decide) (by rw [hh, e_8]; exact CR_9.trans (CHv.at (s := s) (vm0 := T_5.vm) X_8 hZ hEL CR_9.1)) (by rw [e_8]; exact ⟨rfl, N_8, K_8, lb_2, lk_2, ((((E_a.ext E_2).wr W_4).ext E_5).wr W_8), ((Fw_4.ext E_5).other W_8 (Or.inr (slot_ne (Or.inr (hw _ (List.mem_of_getElem? (i := 21) rfl))) (Or.inr (hw _ (List.mem_of_getElem? (i := 22) rfl))) (by decide) (t := (.array .byte)) (t' := .byte) (by decide) (by decide)))), Fw_8, (((Va_2.other W_4 (Ne.symm ne_a_lb_2)).ext E_5).other W_8 (Ne.symm ne_a_lb_2))⟩)
theorem d18_0 : decode jdk_42_method_3_code 0 = .ok (.aload_n 0, 1) := by decide +kernel
theorem d18_1 : decode jdk_42_method_3_code 1 = .ok (.aload_n 1, 1) := by decide +kernel
theorem d18_2 : decode jdk_42_method_3_code 2 = .ok (.iconst 0, 1) := by decide +kernel
theorem d18_3 : decode jdk_42_method_3_code 3 = .ok (.aload_n 1, 1) := by decide +kernel
theorem d18_4 : decode jdk_42_method_3_code 4 = .ok (.arraylength, 1) := by decide +kernel
theorem d18_5 : decode jdk_42_method_3_code 5 = .ok (.aconst_null, 1) := by decide +kernel
theorem d18_6 : decode jdk_42_method_3_code 6 = .ok (.invokespecial 27, 3) := by decide +kernel
theorem d18_9 : decode jdk_42_method_3_code 9 = .ok (.return_, 1) := by decide +kernel
theorem pn_18 : plainName "java/lang/String" = true := by first | (simp [plainName, overriddenIn]; done) | decide +kernel
theorem ef_18 (m : MethodId) (x0 : Addr) (x1 : Addr) : entryFrame m #[(.ref x0), (.ref x1)] 2 = mkF m 0 #[.val (.ref x0), .val (.ref x1)] [] := by first | (simp [entryFrame, mkF, argsToLocals, Value.category]; done) | rfl
def Q18 (Z : State) (a : Addr) (ca : Addr) (zn : Int32) (kc : ClassId) (h0 : Heap) (n0 : Nat) (v : Option Value) (h : Heap) (L : List Loc) : Prop := v = none ∧ Fr n0 L ∧ Keep h0 h [a] ∧ ∃ (b : Addr) (kb : ClassId), Exa Z h a "java/lang/String" ∧ Fld Z h a "java/lang/String" "value" "[B" (.ref b) ∧ Fld Z h a "java/lang/String" "coder" "B" (.int (0 : Int32)) ∧ Arv Z h b kb .byte (0 : Int32) [] (.int (0 : Int32))
set_option maxRecDepth 65536 in
set_option maxHeartbeats 40000000 in
theorem in1z (l : Launch) (Z : State) (a0 : Array Value) (hw : ∀ d ∈ tables_1, d.before a0 Z = true) (ws : List Jvm.Cond) (a : Addr) (ca : Addr) (zn : Int32) (kc : ClassId) (h0 : Heap) (n0 : Nat) (Z0 : n0 ≤ h0.size) (Vc : Arv Z h0 ca kc .char zn [] (.int (0 : Int32))) (hz : zn.toInt = 0) (E_a : Exa Z h0 a "java/lang/String") (F0 : Fld Z h0 a "java/lang/String" "value" "[B" .null) (F1 : Fld Z h0 a "java/lang/String" "coder" "B" (.int (0 : Int32))) (g_a : n0 ≤ a) :
    MetFree l (⟨"java/lang/String", "<init>", "([C)V"⟩ : MethodName) (head1 (Jvm.Cond.code (⟨"java/lang/String", "<init>", "([C)V"⟩ : MethodName) jdk_42_method_3_code 2 none :: ws) ({ frames := 2, cells := 4, slots := 8, locals := 29 } : Room)) (fun a_ U => a_ = #[(.ref a), (.ref ca)] ∧ Z.Warmed39 U.vm ∧ U.heap = h0 ∧ CHv Z [("java/lang/String", 7)] U.vm h0) (fun _ _ _ _ _ => True) (fun _ U o U' => ∃ v L, o = .returned v ∧ Q18 Z a ca zn kc h0 n0 v U'.heap L ∧ CHr Z [("java/lang/String", 7)] U.vm U.heap U'.vm U'.heap ∧ ReturnedEndW U o U' L (({ frames := 2, cells := 4, slots := 8, locals := 29 } : Room)).cells (({ frames := 2, cells := 4, slots := 8, locals := 29 } : Room)).slots) := by
  refine MetFree.of_bodySF (plainFor_of_name pn_18) hisR ?_
  intro p e s m args below meth c s₁ Bd hml0 hP0 hK
  obtain ⟨rfl, hZ, hh, hCH⟩ := hP0
  have hx := Bd.exec
  have hby := Bd.bytes
  have hml : c.maxLocals = 2 := hml0
  have hown : s.vm.findClass "java/lang/String" = some m.cls := findClass_of_methodNamed Bd.named
  have hnm := (name_of_methodNamed Bd.named Bd.method).1
  have X0 : Stand p l e ({ frames := 2, cells := 4, slots := 8, locals := 29 } : Room) s m #[(.ref a), (.ref ca)] below meth c s₁ [] 0 0 := Stand.of_body Bd
  have e0 : s₁.heap = h0 := by rw [← hh, Bd.state]; rfl
  have N0 := Fr.nil n0
  have hlk : meth.locks = false := BodyLoose.notSynchronized Bd
  refine Go.start (P₀ := fun s₂ o => ∃ v L, o = .returned v ∧ Q18 Z a ca zn kc h0 n0 v s₂.heap L ∧ CHr Z [("java/lang/String", 7)] s.vm s.heap s₂.vm s₂.heap ∧ ReturnedEndW s o s₂ L (({ frames := 2, cells := 4, slots := 8, locals := 29 } : Room)).cells (({ frames := 2, cells := 4, slots := 8, locals := 29 } : Room)).slots) (congrArg s₁.setTop (ef_18 m a ca)) ?_
  intro P hP
  show Go p.tables e below P (s₁.setTop (mkF m 0 #[.val (.ref a), .val (.ref ca)] []))
  have hEL : EW Z a0 [("java/lang/String", 7)] := (EW.cons (hw _ (List.mem_of_getElem? (i := 19) rfl)) (by decide) EW.nil)
  have hS : s.Since s.vm h0.size := (State.WarmedH.refl s).since _
  have CR0 : CHr Z [("java/lang/String", 7)] s.vm h0 s.vm h0 := CHr.refl hCH
  have Sf0_a : Safe Z [("java/lang/String", 7)] s.vm h0 a := safeNull hZ.alike E_a F0
  refine Go.step (fun t k => XS.aloadN X0.here hx rfl (hb hby d18_0) rfl rfl k) ?_
  show Go p.tables e below P (s₁.setTop (mkF m 1 #[.val (.ref a), .val (.ref ca)] [(.ref a)]))
  refine Go.step (fun t k => XS.aloadN X0.here hx rfl (hb hby d18_1) rfl rfl k) ?_
  show Go p.tables e below P (s₁.setTop (mkF m 2 #[.val (.ref a), .val (.ref ca)] [(.ref ca), (.ref a)]))
  refine Go.step (fun t k => XS.iconst X0.here hx rfl (hb hby d18_2) k) ?_
  show Go p.tables e below P (s₁.setTop (mkF m 3 #[.val (.ref a), .val (.ref ca)] [(.int (0 : Int32)), (.ref ca), (.ref a)]))
  refine Go.step (fun t k => XS.aloadN X0.here hx rfl (hb hby d18_3) rfl rfl k) ?_
  show Go p.tables e below P (s₁.setTop (mkF m 4 #[.val (.ref a), .val (.ref ca)] [(.ref ca), (.int (0 : Int32)), (.ref ca), (.ref a)]))
  have vq_1 := Vc
  obtain ⟨cl_1, Ar_1, q_1, S_1, Nn_1, H_1, G_1⟩ := vq_1
  refine Go.step (fun t k => X0.arraylength hx (by rw [e0]; exact Ar_1.1) (State.isArrayOf_alike hZ.alike Ar_1.2.1) (g := (mkF m 4 #[.val (.ref a), .val (.ref ca)] [(.ref ca), (.int (0 : Int32)), (.ref ca), (.ref a)])) rfl rfl (hb hby d18_4) t k) ?_
  rw [len_of S_1 Nn_1]
  show Go p.tables e below P (s₁.setTop (mkF m 5 #[.val (.ref a), .val (.ref ca)] [(.int zn), (.int (0 : Int32)), (.ref ca), (.ref a)]))
  refine Go.step (fun t k => XS.aconstNull X0.here hx rfl (hb hby d18_5) k) ?_
  show Go p.tables e below P (s₁.setTop (mkF m 6 #[.val (.ref a), .val (.ref ca)] [.null, (.int zn), (.int (0 : Int32)), (.ref ca), (.ref a)]))
  obtain ⟨_, _, ⟨T_2, L_2, k_2, n_2⟩, -, X_2, hSq_2, -, ⟨Lc_2, hQ_2, l_2, y_2, z_2, CC_2⟩, st_2⟩ := X0.specialBackS hx (y := (⟨"java/lang/String", "<init>", "([CIILjava/lang/Void;)V"⟩ : MethodName)) rfl hown (mvT hZ (hw _ (List.mem_of_getElem? (i := 12) rfl))) (mvT hZ (hw _ (List.mem_of_getElem? (i := 13) rfl))) (mvT hZ (hw _ (List.mem_of_getElem? (i := 15) rfl))) (by decide) (backOfSH (s := s) (vm0 := s.vm) (W := 0) (in2z l Z a0 hw [] a ca zn h0 n0 Z0 hz E_a F0 F1 g_a) hZ (hw _ (List.mem_of_getElem? (i := 15) rfl)) (hw _ (List.mem_of_getElem? (i := 8) rfl)) (by decide) (by decide) hEL CR0.1) (g := (mkF m 6 #[.val (.ref a), .val (.ref ca)] [.null, (.int zn), (.int (0 : Int32)), (.ref ca), (.ref a)])) rfl (by rw [hml]; rfl) (Steps.refl _) (a := a) (argsL := [(.ref ca), (.int (0 : Int32)), (.int zn), .null]) (rest := []) (lenOf pd_8 rfl) rfl (by show 2 * 0 + _ ≤ _; exact Nat.le_of_eq rfl) (hb hby d18_6) (fun _ _ => ⟨rfl, e0, (by decide : 0 + 4 ≤ _), (by decide : 0 + 8 ≤ _)⟩)
  dsimp only [Pt.U, Pt.locs, Pt.cells, Pt.slots] at X_2 hSq_2 l_2 y_2 z_2 st_2 hQ_2 CC_2
  subst l_2 y_2 z_2
  obtain ⟨rfl, N_2q, Kc_2, hrest⟩ := hQ_2
  have N_2 := Fr.app N0 N_2q
  have hZ : Z.Warmed39 (s.setVm T_2.vm).vm := State.Warmed39.trans (t := s) hZ hSq_2.1
  have hown : (s.setVm T_2.vm).vm.findClass "java/lang/String" = some m.cls := by rw [show (s.setVm T_2.vm).vm = T_2.vm from rfl, hSq_2.1.alike.findClass]; exact hown
  have hS : s.Since T_2.vm T_2.heap.size := hSq_2
  have K_2 : Keep h0 T_2.heap [a] := (Keep.refl h0 [a]).trans Kc_2 (allS (Or.inl (List.mem_of_getElem? (i := 0) rfl)) all0)
  have Z_2 : n0 ≤ T_2.heap.size := Nat.le_trans Z0 Kc_2.1
  have CR_2 : CHr Z [("java/lang/String", 7)] s.vm h0 T_2.vm T_2.heap := CR0.trans CC_2
  refine Go.tr st_2 ?_
  show Go p.tables e below P (T_2.setTop (mkF m 9 #[.val (.ref a), .val (.ref ca)] []))
  exact voidGoH (Z := Z) (EL := [("java/lang/String", 7)]) (s := s) (vm1 := T_2.vm) X_2 hx hS (Nat.le_refl _) hP Bd.returns hlk (hb hby d18_9) (by decide) (by decide) (by rw [hh]; exact CR_2.trans (CHv.at (s := s) (vm0 := T_2.vm) X_2 hZ hEL CR_2.1)) ⟨rfl, N_2, K_2, hrest⟩
theorem d14_0 : decode jdk_41_method_12_code 0 = .ok (.iload_n 0, 1) := by decide +kernel
theorem d14_1 : decode jdk_41_method_12_code 1 = .ok (.ifCond .lt 13, 3) := by decide +kernel
theorem d14_4 : decode jdk_41_method_12_code 4 = .ok (.iload_n 0, 1) := by decide +kernel
theorem d14_5 : decode jdk_41_method_12_code 5 = .ok (.iload_n 1, 1) := by decide +kernel
theorem d14_6 : decode jdk_41_method_12_code 6 = .ok (.if_icmp .gt 8, 3) := by decide +kernel
theorem d14_9 : decode jdk_41_method_12_code 9 = .ok (.iload_n 1, 1) := by decide +kernel
theorem d14_10 : decode jdk_41_method_12_code 10 = .ok (.iload_n 2, 1) := by decide +kernel
theorem d14_11 : decode jdk_41_method_12_code 11 = .ok (.if_icmp .le 11, 3) := by decide +kernel
theorem d14_22 : decode jdk_41_method_12_code 22 = .ok (.iload_n 0, 1) := by decide +kernel
theorem d14_23 : decode jdk_41_method_12_code 23 = .ok (.ireturn, 1) := by decide +kernel
theorem pn_14 : plainName "jdk/internal/util/Preconditions" = true := by first | (simp [plainName, overriddenIn]; done) | decide +kernel
theorem ef_14 (m : MethodId) (x0 : Int32) (x1 : Int32) (x2 : Int32) : entryFrame m #[(.int x0), (.int x1), (.int x2), .null] 4 = mkF m 0 #[.val (.int x0), .val (.int x1), .val (.int x2), .val .null] [] := by first | (simp [entryFrame, mkF, argsToLocals, Value.category]; done) | rfl
def Q14 (Z : State) (zn : Int32) (zl : Int32) (h0 : Heap) (n0 : Nat) (v : Option Value) (h : Heap) (L : List Loc) : Prop := v = some (.int (0 : Int32)) ∧ Fr n0 L ∧ h = h0
set_option maxRecDepth 65536 in
set_option maxHeartbeats 40000000 in
theorem rm14 (l : Launch) (Z : State) (a0 : Array Value) (hw : ∀ d ∈ tables_1, d.before a0 Z = true) (ws : List Jvm.Cond) (zn : Int32) (zl : Int32) (h0 : Heap) (n0 : Nat) (Z0 : n0 ≤ h0.size) (h1 : 0 ≤ zn.toInt) (h2 : zn.toInt ≤ zl.toInt) :
    MetFree l (⟨"jdk/internal/util/Preconditions", "checkFromToIndex", "(IIILjava/util/function/BiFunction;)I"⟩ : MethodName) (head1 (Jvm.Cond.code (⟨"jdk/internal/util/Preconditions", "checkFromToIndex", "(IIILjava/util/function/BiFunction;)I"⟩ : MethodName) jdk_41_method_12_code 4 (some .int) :: ws) ({ frames := 0, cells := 0, slots := 0, locals := 0 } : Room)) (fun a_ U => a_ = #[(.int (0 : Int32)), (.int zn), (.int zl), .null] ∧ Z.Warmed39 U.vm ∧ U.heap = h0) (fun _ _ _ _ _ => True) (fun _ U o U' => ∃ v L, o = .returned v ∧ Q14 Z zn zl h0 n0 v U'.heap L ∧ FrameEnd U o U' L (({ frames := 0, cells := 0, slots := 0, locals := 0 } : Room)).cells (({ frames := 0, cells := 0, slots := 0, locals := 0 } : Room)).slots) := by
  refine MetFree.of_bodySF (plainFor_of_name pn_14) hisR ?_
  intro p e s m args below meth c s₁ Bd hml0 hP0 hK
  obtain ⟨rfl, hZ, hh⟩ := hP0
  have hx := Bd.exec
  have hby := Bd.bytes
  have hml : c.maxLocals = 4 := hml0
  have hown : s.vm.findClass "jdk/internal/util/Preconditions" = some m.cls := findClass_of_methodNamed Bd.named
  have hnm := (name_of_methodNamed Bd.named Bd.method).1
  have X0 : Stand p l e ({ frames := 0, cells := 0, slots := 0, locals := 0 } : Room) s m #[(.int (0 : Int32)), (.int zn), (.int zl), .null] below meth c s₁ [] 0 0 := Stand.of_body Bd
  have e0 : s₁.heap = h0 := by rw [← hh, Bd.state]; rfl
  have N0 := Fr.nil n0
  have hlk : meth.locks = false := BodyLoose.notSynchronized Bd
  refine Go.start (P₀ := fun s₂ o => ∃ v L, o = .returned v ∧ Q14 Z zn zl h0 n0 v s₂.heap L ∧ FrameEnd s o s₂ L (({ frames := 0, cells := 0, slots := 0, locals := 0 } : Room)).cells (({ frames := 0, cells := 0, slots := 0, locals := 0 } : Room)).slots) (congrArg s₁.setTop (ef_14 m (0 : Int32) zn zl)) ?_
  intro P hP
  show Go p.tables e below P (s₁.setTop (mkF m 0 #[.val (.int (0 : Int32)), .val (.int zn), .val (.int zl), .val .null] []))
  refine Go.step (fun t k => XS.iloadN X0.here hx rfl (hb hby d14_0) rfl  k) ?_
  show Go p.tables e below P (s₁.setTop (mkF m 1 #[.val (.int (0 : Int32)), .val (.int zn), .val (.int zl), .val .null] [(.int (0 : Int32))]))
  refine Go.step (fun t k => XS.ifNo X0.here hx rfl (hb hby d14_1) rfl (ifN (cd := .lt) (by decide : ¬ ((0 : Int) < 0))) k) ?_
  show Go p.tables e below P (s₁.setTop (mkF m 4 #[.val (.int (0 : Int32)), .val (.int zn), .val (.int zl), .val .null] []))
  refine Go.step (fun t k => XS.iloadN X0.here hx rfl (hb hby d14_4) rfl  k) ?_
  show Go p.tables e below P (s₁.setTop (mkF m 5 #[.val (.int (0 : Int32)), .val (.int zn), .val (.int zl), .val .null] [(.int (0 : Int32))]))
  refine Go.step (fun t k => XS.iloadN X0.here hx rfl (hb hby d14_5) rfl  k) ?_
  show Go p.tables e below P (s₁.setTop (mkF m 6 #[.val (.int (0 : Int32)), .val (.int zn), .val (.int zl), .val .null] [(.int zn), (.int (0 : Int32))]))
  refine Go.step (fun t k => XS.icmpNo X0.here hx rfl (hb hby d14_6) rfl (icN (cd := .gt) (by omega : ¬ (zn.toInt < (0 : Int)))) k) ?_
  show Go p.tables e below P (s₁.setTop (mkF m 9 #[.val (.int (0 : Int32)), .val (.int zn), .val (.int zl), .val .null] []))
  refine Go.step (fun t k => XS.iloadN X0.here hx rfl (hb hby d14_9) rfl  k) ?_
  show Go p.tables e below P (s₁.setTop (mkF m 10 #[.val (.int (0 : Int32)), .val (.int zn), .val (.int zl), .val .null] [(.int zn)]))
  refine Go.step (fun t k => XS.iloadN X0.here hx rfl (hb hby d14_10) rfl  k) ?_
  show Go p.tables e below P (s₁.setTop (mkF m 11 #[.val (.int (0 : Int32)), .val (.int zn), .val (.int zl), .val .null] [(.int zl), (.int zn)]))
  refine Go.step (fun t k => XS.icmpYes X0.here hx rfl (pc0 := 11) (pc' := 22) rfl (hb hby d14_11) rfl (icY (cd := .le) h2) (by decide) (by decide) k) ?_
  show Go p.tables e below P (s₁.setTop (mkF m 22 #[.val (.int (0 : Int32)), .val (.int zn), .val (.int zl), .val .null] []))
  refine Go.step (fun t k => XS.iloadN X0.here hx rfl (hb hby d14_22) rfl  k) ?_
  show Go p.tables e below P (s₁.setTop (mkF m 23 #[.val (.int (0 : Int32)), .val (.int zn), .val (.int zl), .val .null] [(.int (0 : Int32))]))
  exact retGo X0 hx hP Bd.returns hlk rfl (Or.inl ⟨rfl, Or.inl rfl, _, rfl⟩) (hb hby d14_23) (by decide) (by decide) (by rw [e0]; exact ⟨rfl, N0, rfl⟩)
theorem d15_0 : decode jdk_31_method_18_code 0 = .ok (.iload_n 0, 1) := by decide +kernel
theorem d15_1 : decode jdk_31_method_18_code 1 = .ok (.iload_n 1, 1) := by decide +kernel
theorem d15_2 : decode jdk_31_method_18_code 2 = .ok (.iload_n 2, 1) := by decide +kernel
theorem d15_3 : decode jdk_31_method_18_code 3 = .ok (.aconst_null, 1) := by decide +kernel
theorem d15_4 : decode jdk_31_method_18_code 4 = .ok (.invokestatic 111, 3) := by decide +kernel
theorem d15_7 : decode jdk_31_method_18_code 7 = .ok (.ireturn, 1) := by decide +kernel
theorem pn_15 : plainName "java/util/Objects" = true := by first | (simp [plainName, overriddenIn]; done) | decide +kernel
theorem ef_15 (m : MethodId) (x0 : Int32) (x1 : Int32) (x2 : Int32) : entryFrame m #[(.int x0), (.int x1), (.int x2)] 3 = mkF m 0 #[.val (.int x0), .val (.int x1), .val (.int x2)] [] := by first | (simp [entryFrame, mkF, argsToLocals, Value.category]; done) | rfl
def Q15 (Z : State) (zn : Int32) (zl : Int32) (h0 : Heap) (n0 : Nat) (v : Option Value) (h : Heap) (L : List Loc) : Prop := v = some (.int (0 : Int32)) ∧ Fr n0 L ∧ h = h0
set_option maxRecDepth 65536 in
set_option maxHeartbeats 40000000 in
theorem rm15 (l : Launch) (Z : State) (a0 : Array Value) (hw : ∀ d ∈ tables_1, d.before a0 Z = true) (ws : List Jvm.Cond) (zn : Int32) (zl : Int32) (h0 : Heap) (n0 : Nat) (Z0 : n0 ≤ h0.size) (h1 : 0 ≤ zn.toInt) (h2 : zn.toInt ≤ zl.toInt) :
    MetFree l (⟨"java/util/Objects", "checkFromToIndex", "(III)I"⟩ : MethodName) (head1 (Jvm.Cond.code (⟨"java/util/Objects", "checkFromToIndex", "(III)I"⟩ : MethodName) jdk_31_method_18_code 3 (some .int) :: ws) ({ frames := 1, cells := 0, slots := 0, locals := 15 } : Room)) (fun a_ U => a_ = #[(.int (0 : Int32)), (.int zn), (.int zl)] ∧ Z.Warmed39 U.vm ∧ U.heap = h0) (fun _ _ _ _ _ => True) (fun _ U o U' => ∃ v L, o = .returned v ∧ Q15 Z zn zl h0 n0 v U'.heap L ∧ FrameEnd U o U' L (({ frames := 1, cells := 0, slots := 0, locals := 15 } : Room)).cells (({ frames := 1, cells := 0, slots := 0, locals := 15 } : Room)).slots) := by
  refine MetFree.of_bodySF (plainFor_of_name pn_15) hisR ?_
  intro p e s m args below meth c s₁ Bd hml0 hP0 hK
  obtain ⟨rfl, hZ, hh⟩ := hP0
  have hx := Bd.exec
  have hby := Bd.bytes
  have hml : c.maxLocals = 3 := hml0
  have hown : s.vm.findClass "java/util/Objects" = some m.cls := findClass_of_methodNamed Bd.named
  have hnm := (name_of_methodNamed Bd.named Bd.method).1
  have X0 : Stand p l e ({ frames := 1, cells := 0, slots := 0, locals := 15 } : Room) s m #[(.int (0 : Int32)), (.int zn), (.int zl)] below meth c s₁ [] 0 0 := Stand.of_body Bd
  have e0 : s₁.heap = h0 := by rw [← hh, Bd.state]; rfl
  have N0 := Fr.nil n0
  have hlk : meth.locks = false := BodyLoose.notSynchronized Bd
  refine Go.start (P₀ := fun s₂ o => ∃ v L, o = .returned v ∧ Q15 Z zn zl h0 n0 v s₂.heap L ∧ FrameEnd s o s₂ L (({ frames := 1, cells := 0, slots := 0, locals := 15 } : Room)).cells (({ frames := 1, cells := 0, slots := 0, locals := 15 } : Room)).slots) (congrArg s₁.setTop (ef_15 m (0 : Int32) zn zl)) ?_
  intro P hP
  show Go p.tables e below P (s₁.setTop (mkF m 0 #[.val (.int (0 : Int32)), .val (.int zn), .val (.int zl)] []))
  refine Go.step (fun t k => XS.iloadN X0.here hx rfl (hb hby d15_0) rfl  k) ?_
  show Go p.tables e below P (s₁.setTop (mkF m 1 #[.val (.int (0 : Int32)), .val (.int zn), .val (.int zl)] [(.int (0 : Int32))]))
  refine Go.step (fun t k => XS.iloadN X0.here hx rfl (hb hby d15_1) rfl  k) ?_
  show Go p.tables e below P (s₁.setTop (mkF m 2 #[.val (.int (0 : Int32)), .val (.int zn), .val (.int zl)] [(.int zn), (.int (0 : Int32))]))
  refine Go.step (fun t k => XS.iloadN X0.here hx rfl (hb hby d15_2) rfl  k) ?_
  show Go p.tables e below P (s₁.setTop (mkF m 3 #[.val (.int (0 : Int32)), .val (.int zn), .val (.int zl)] [(.int zl), (.int zn), (.int (0 : Int32))]))
  refine Go.step (fun t k => XS.aconstNull X0.here hx rfl (hb hby d15_3) k) ?_
  show Go p.tables e below P (s₁.setTop (mkF m 4 #[.val (.int (0 : Int32)), .val (.int zn), .val (.int zl)] [.null, (.int zl), (.int zn), (.int (0 : Int32))]))
  obtain ⟨_, _, ⟨T_1, L_1, k_1, n_1⟩, -, X_1, ⟨Lc_1, hQ_1, l_1, y_1, z_1⟩, st_1⟩ := Jvm.LawKit.callS X0 hx (y := (⟨"jdk/internal/util/Preconditions", "checkFromToIndex", "(IIILjava/util/function/BiFunction;)I"⟩ : MethodName)) hown (mvT hZ (hw _ (List.mem_of_getElem? (i := 55) rfl))) (mvT hZ (hw _ (List.mem_of_getElem? (i := 56) rfl))) (mvT hZ (hw _ (List.mem_of_getElem? (i := 57) rfl))) (mvT hZ (hw _ (List.mem_of_getElem? (i := 58) rfl))) (by decide) (backOf (W := 0) (rm14 l Z a0 hw [] zn zl h0 n0 Z0 h1 h2) hZ (hw _ (List.mem_of_getElem? (i := 58) rfl)) (hw _ (List.mem_of_getElem? (i := 57) rfl)) (by decide) (by decide)) (g := (mkF m 4 #[.val (.int (0 : Int32)), .val (.int zn), .val (.int zl)] [.null, (.int zl), (.int zn), (.int (0 : Int32))])) rfl (by rw [hml]; rfl) (argsL := [(.int (0 : Int32)), (.int zn), (.int zl), .null]) (rest := []) (lenOf pd_9 rfl) rfl (by show 2 * 0 + _ ≤ _; exact Nat.le_of_eq rfl) (hb hby d15_4) (fun _ _ => ⟨rfl, e0, (by decide : 0 + 0 ≤ _), (by decide : 0 + 0 ≤ _)⟩)
  dsimp only [Pt.U, Pt.locs, Pt.cells, Pt.slots] at X_1 l_1 y_1 z_1 st_1 hQ_1
  subst l_1 y_1 z_1
  obtain ⟨rfl, N_1q, eh_1⟩ := hQ_1
  have N_1 := Fr.app N0 N_1q
  refine Go.step (fun t k => st_1 t k) ?_
  show Go p.tables e below P (T_1.setTop (mkF m 7 #[.val (.int (0 : Int32)), .val (.int zn), .val (.int zl)] [(.int (0 : Int32))]))
  exact retGo X_1 hx hP Bd.returns hlk rfl (Or.inl ⟨rfl, Or.inl rfl, _, rfl⟩) (hb hby d15_7) (by decide) (by decide) (by rw [eh_1]; exact ⟨rfl, N_1, rfl⟩)
theorem d16_0 : decode jdk_52_method_12_code 0 = .ok (.aload_n 0, 1) := by decide +kernel
theorem d16_1 : decode jdk_52_method_12_code 1 = .ok (.iload_n 1, 1) := by decide +kernel
theorem d16_2 : decode jdk_52_method_12_code 2 = .ok (.iload_n 2, 1) := by decide +kernel
theorem d16_3 : decode jdk_52_method_12_code 3 = .ok (.iconst 0, 1) := by decide +kernel
theorem d16_4 : decode jdk_52_method_12_code 4 = .ok (.invokestatic 100, 3) := by decide +kernel
theorem d16_7 : decode jdk_52_method_12_code 7 = .ok (.ireturn, 1) := by decide +kernel
theorem pn_16 : plainName "java/lang/StringUTF16" = true := by first | (simp [plainName, overriddenIn]; done) | decide +kernel
theorem ef_16 (m : MethodId) (x0 : Addr) (x1 : Int32) (x2 : Int32) : entryFrame m #[(.ref x0), (.int x1), (.int x2)] 3 = mkF m 0 #[.val (.ref x0), .val (.int x1), .val (.int x2)] [] := by first | (simp [entryFrame, mkF, argsToLocals, Value.category]; done) | rfl
def Q16 (Z : State) (b : Addr) (zn : Int32) (kb : ClassId) (zb : Int32) (cs : List Int32) (h0 : Heap) (n0 : Nat) (v : Option Value) (h : Heap) (L : List Loc) : Prop := ∃ r : Int32, v = some (.int r) ∧ r.toInt = cpc cs ∧ Fr n0 L ∧ h = h0
set_option maxRecDepth 65536 in
set_option maxHeartbeats 40000000 in
theorem rm16 (l : Launch) (Z : State) (a0 : Array Value) (hw : ∀ d ∈ tables_1, d.before a0 Z = true) (ws : List Jvm.Cond) (b : Addr) (zn : Int32) (kb : ClassId) (zb : Int32) (cs : List Int32) (h0 : Heap) (n0 : Nat) (Z0 : n0 ≤ h0.size) (Vb : Arv Z h0 b kb .byte zb (enc cs) (.int (0 : Int32))) (hzb : zb.toInt = 2 * (cs.length : Int)) (hn : cs.length ≤ 12) (hc : ∀ x ∈ cs, 0 ≤ x.toInt ∧ x.toInt < 65536) (hz : zn.toInt = (cs.length : Int)) (S0 : Sta Z h0 "java/lang/StringUTF16" "$assertionsDisabled" "Z" (.int (1 : Int32))) (S1 : Sta Z h0 "java/lang/StringUTF16" "HI_BYTE_SHIFT" "I" (.int (0 : Int32))) (S2 : Sta Z h0 "java/lang/StringUTF16" "LO_BYTE_SHIFT" "I" (.int (8 : Int32))) :
    MetFree l (⟨"java/lang/StringUTF16", "codePointCount", "([BII)I"⟩ : MethodName) (head1 (Jvm.Cond.code (⟨"java/lang/StringUTF16", "codePointCount", "([BII)I"⟩ : MethodName) jdk_52_method_12_code 3 (some .int) :: ws) ({ frames := 2, cells := 0, slots := 0, locals := 30 } : Room)) (fun a_ U => a_ = #[(.ref b), (.int (0 : Int32)), (.int zn)] ∧ Z.Warmed39 U.vm ∧ U.heap = h0) (fun _ _ _ _ _ => True) (fun _ U o U' => ∃ v L, o = .returned v ∧ Q16 Z b zn kb zb cs h0 n0 v U'.heap L ∧ FrameEnd U o U' L (({ frames := 2, cells := 0, slots := 0, locals := 30 } : Room)).cells (({ frames := 2, cells := 0, slots := 0, locals := 30 } : Room)).slots) := by
  refine MetFree.of_bodySF (plainFor_of_name pn_16) hisR ?_
  intro p e s m args below meth c s₁ Bd hml0 hP0 hK
  obtain ⟨rfl, hZ, hh⟩ := hP0
  have hx := Bd.exec
  have hby := Bd.bytes
  have hml : c.maxLocals = 3 := hml0
  have hown : s.vm.findClass "java/lang/StringUTF16" = some m.cls := findClass_of_methodNamed Bd.named
  have hnm := (name_of_methodNamed Bd.named Bd.method).1
  have X0 : Stand p l e ({ frames := 2, cells := 0, slots := 0, locals := 30 } : Room) s m #[(.ref b), (.int (0 : Int32)), (.int zn)] below meth c s₁ [] 0 0 := Stand.of_body Bd
  have e0 : s₁.heap = h0 := by rw [← hh, Bd.state]; rfl
  have N0 := Fr.nil n0
  have hlk : meth.locks = false := BodyLoose.notSynchronized Bd
  refine Go.start (P₀ := fun s₂ o => ∃ v L, o = .returned v ∧ Q16 Z b zn kb zb cs h0 n0 v s₂.heap L ∧ FrameEnd s o s₂ L (({ frames := 2, cells := 0, slots := 0, locals := 30 } : Room)).cells (({ frames := 2, cells := 0, slots := 0, locals := 30 } : Room)).slots) (congrArg s₁.setTop (ef_16 m b (0 : Int32) zn)) ?_
  intro P hP
  show Go p.tables e below P (s₁.setTop (mkF m 0 #[.val (.ref b), .val (.int (0 : Int32)), .val (.int zn)] []))
  refine Go.step (fun t k => XS.aloadN X0.here hx rfl (hb hby d16_0) rfl rfl k) ?_
  show Go p.tables e below P (s₁.setTop (mkF m 1 #[.val (.ref b), .val (.int (0 : Int32)), .val (.int zn)] [(.ref b)]))
  refine Go.step (fun t k => XS.iloadN X0.here hx rfl (hb hby d16_1) rfl  k) ?_
  show Go p.tables e below P (s₁.setTop (mkF m 2 #[.val (.ref b), .val (.int (0 : Int32)), .val (.int zn)] [(.int (0 : Int32)), (.ref b)]))
  refine Go.step (fun t k => XS.iloadN X0.here hx rfl (hb hby d16_2) rfl  k) ?_
  show Go p.tables e below P (s₁.setTop (mkF m 3 #[.val (.ref b), .val (.int (0 : Int32)), .val (.int zn)] [(.int zn), (.int (0 : Int32)), (.ref b)]))
  refine Go.step (fun t k => XS.iconst X0.here hx rfl (hb hby d16_3) k) ?_
  show Go p.tables e below P (s₁.setTop (mkF m 4 #[.val (.ref b), .val (.int (0 : Int32)), .val (.int zn)] [(.int (0 : Int32)), (.int zn), (.int (0 : Int32)), (.ref b)]))
  obtain ⟨_, _, ⟨T_1, L_1, k_1, n_1⟩, -, X_1, ⟨Lc_1, hQ_1, l_1, y_1, z_1⟩, st_1⟩ := Jvm.LawKit.callS X0 hx (y := (⟨"java/lang/StringUTF16", "codePointCount", "([BIIZ)I"⟩ : MethodName)) hown (mvT hZ (hw _ (List.mem_of_getElem? (i := 102) rfl))) (mvT hZ (hw _ (List.mem_of_getElem? (i := 103) rfl))) (mvT hZ (hw _ (List.mem_of_getElem? (i := 72) rfl))) (mvT hZ (hw _ (List.mem_of_getElem? (i := 104) rfl))) (by decide) (backOf (W := 0) (rm4 l Z a0 hw [] b zn kb zb cs h0 n0 Z0 Vb hzb hn hc hz S0 S1 S2) hZ (hw _ (List.mem_of_getElem? (i := 104) rfl)) (hw _ (List.mem_of_getElem? (i := 72) rfl)) (by decide) (by decide)) (g := (mkF m 4 #[.val (.ref b), .val (.int (0 : Int32)), .val (.int zn)] [(.int (0 : Int32)), (.int zn), (.int (0 : Int32)), (.ref b)])) rfl (by rw [hml]; rfl) (argsL := [(.ref b), (.int (0 : Int32)), (.int zn), (.int (0 : Int32))]) (rest := []) (lenOf pd_10 rfl) rfl (by show 2 * 0 + _ ≤ _; exact Nat.le_of_eq rfl) (hb hby d16_4) (fun _ _ => ⟨rfl, e0, (by decide : 0 + 0 ≤ _), (by decide : 0 + 0 ≤ _)⟩)
  dsimp only [Pt.U, Pt.locs, Pt.cells, Pt.slots] at X_1 l_1 y_1 z_1 st_1 hQ_1
  subst l_1 y_1 z_1
  obtain ⟨rc, rfl, hrc, N_1q, eh_1⟩ := hQ_1
  have N_1 := Fr.app N0 N_1q
  refine Go.step (fun t k => st_1 t k) ?_
  show Go p.tables e below P (T_1.setTop (mkF m 7 #[.val (.ref b), .val (.int (0 : Int32)), .val (.int zn)] [(.int rc)]))
  exact retGo X_1 hx hP Bd.returns hlk rfl (Or.inl ⟨rfl, Or.inl rfl, _, rfl⟩) (hb hby d16_7) (by decide) (by decide) (by rw [eh_1]; exact ⟨rc, rfl, hrc, N_1, rfl⟩)
theorem d20_0 : decode jdk_42_method_152_code 0 = .ok (.getstatic 38, 3) := by decide +kernel
theorem d20_3 : decode jdk_42_method_152_code 3 = .ok (.ifCond .eq 10, 3) := by decide +kernel
theorem d20_6 : decode jdk_42_method_152_code 6 = .ok (.aload_n 0, 1) := by decide +kernel
theorem d20_7 : decode jdk_42_method_152_code 7 = .ok (.getfield 15, 3) := by decide +kernel
theorem d20_10 : decode jdk_42_method_152_code 10 = .ok (.goto 4, 3) := by decide +kernel
theorem d20_14 : decode jdk_42_method_152_code 14 = .ok (.ireturn, 1) := by decide +kernel
theorem pn_20 : plainName "java/lang/String" = true := by first | (simp [plainName, overriddenIn]; done) | decide +kernel
theorem ef_20 (m : MethodId) (x0 : Addr) : entryFrame m #[(.ref x0)] 1 = mkF m 0 #[.val (.ref x0)] [] := by first | (simp [entryFrame, mkF, argsToLocals, Value.category]; done) | rfl
def Q20 (Z : State) (a : Addr) (cs1 : Int32) (h0 : Heap) (n0 : Nat) (v : Option Value) (h : Heap) (L : List Loc) : Prop := v = some (.int (0 : Int32)) ∧ Fr n0 L ∧ h = h0
set_option maxRecDepth 65536 in
set_option maxHeartbeats 40000000 in
theorem coder0 (l : Launch) (Z : State) (a0 : Array Value) (hw : ∀ d ∈ tables_1, d.before a0 Z = true) (ws : List Jvm.Cond) (a : Addr) (cs1 : Int32) (h0 : Heap) (n0 : Nat) (Z0 : n0 ≤ h0.size) (F1 : Fld Z h0 a "java/lang/String" "coder" "B" (.int (0 : Int32))) (S3 : Sta Z h0 "java/lang/String" "COMPACT_STRINGS" "Z" (.int cs1)) (hcs1 : ¬ cs1.toInt = 0) :
    MetFree l (⟨"java/lang/String", "coder", "()B"⟩ : MethodName) (head1 (Jvm.Cond.code (⟨"java/lang/String", "coder", "()B"⟩ : MethodName) jdk_42_method_152_code 1 (some .byte) :: ws) ({ frames := 0, cells := 0, slots := 0, locals := 0 } : Room)) (fun a_ U => a_ = #[(.ref a)] ∧ Z.Warmed39 U.vm ∧ U.heap = h0) (fun _ _ _ _ _ => True) (fun _ U o U' => ∃ v L, o = .returned v ∧ Q20 Z a cs1 h0 n0 v U'.heap L ∧ FrameEnd U o U' L (({ frames := 0, cells := 0, slots := 0, locals := 0 } : Room)).cells (({ frames := 0, cells := 0, slots := 0, locals := 0 } : Room)).slots) := by
  refine MetFree.of_bodySF (plainFor_of_name pn_20) hisR ?_
  intro p e s m args below meth c s₁ Bd hml0 hP0 hK
  obtain ⟨rfl, hZ, hh⟩ := hP0
  have hx := Bd.exec
  have hby := Bd.bytes
  have hml : c.maxLocals = 1 := hml0
  have hown : s.vm.findClass "java/lang/String" = some m.cls := findClass_of_methodNamed Bd.named
  have hnm := (name_of_methodNamed Bd.named Bd.method).1
  have X0 : Stand p l e ({ frames := 0, cells := 0, slots := 0, locals := 0 } : Room) s m #[(.ref a)] below meth c s₁ [] 0 0 := Stand.of_body Bd
  have e0 : s₁.heap = h0 := by rw [← hh, Bd.state]; rfl
  have N0 := Fr.nil n0
  have hlk : meth.locks = false := BodyLoose.notSynchronized Bd
  refine Go.start (P₀ := fun s₂ o => ∃ v L, o = .returned v ∧ Q20 Z a cs1 h0 n0 v s₂.heap L ∧ FrameEnd s o s₂ L (({ frames := 0, cells := 0, slots := 0, locals := 0 } : Room)).cells (({ frames := 0, cells := 0, slots := 0, locals := 0 } : Room)).slots) (congrArg s₁.setTop (ef_20 m a)) ?_
  intro P hP
  show Go p.tables e below P (s₁.setTop (mkF m 0 #[.val (.ref a)] []))
  obtain ⟨T_1, X_1, e_1, st_1⟩ := getS2 X0 hx hZ hown (host := "") (Or.inl (hw _ (List.mem_of_getElem? (i := 44) rfl))) Via.refl e0 (Sta_keepX S3 (Keep.refl h0 []) ns0_) (g := (mkF m 0 #[.val (.ref a)] [])) rfl (hb hby d20_0)
  refine Go.step (fun t k => st_1 t k) ?_
  show Go p.tables e below P (T_1.setTop (mkF m 3 #[.val (.ref a)] [(.int cs1)]))
  refine Go.step (fun t k => XS.ifNo X_1.here hx rfl (hb hby d20_3) rfl (ifN (cd := .eq) hcs1) k) ?_
  show Go p.tables e below P (T_1.setTop (mkF m 6 #[.val (.ref a)] []))
  refine Go.step (fun t k => XS.aloadN X_1.here hx rfl (hb hby d20_6) rfl rfl k) ?_
  show Go p.tables e below P (T_1.setTop (mkF m 7 #[.val (.ref a)] [(.ref a)]))
  obtain ⟨T_2, X_2, e_2, st_2⟩ := getF X_1 hx hZ hown (host := "") (Or.inl (hw _ (List.mem_of_getElem? (i := 26) rfl))) Via.refl e_1 F1 (g := (mkF m 7 #[.val (.ref a)] [(.ref a)])) rfl rfl (hb hby d20_7)
  refine Go.step (fun t k => st_2 t k) ?_
  show Go p.tables e below P (T_2.setTop (mkF m 10 #[.val (.ref a)] [(.int (0 : Int32))]))
  refine Go.step (fun t k => XS.goto X_2.here hx rfl (pc0 := 10) (pc' := 14) rfl (hb hby d20_10) (by decide) (by decide) k) ?_
  show Go p.tables e below P (T_2.setTop (mkF m 14 #[.val (.ref a)] [(.int (0 : Int32))]))
  exact retGo X_2 hx hP Bd.returns hlk rfl (Or.inl ⟨rfl, Or.inr (Or.inr (Or.inl rfl)), _, rfl⟩) (hb hby d20_14) (by decide) (by decide) (by rw [e_2]; exact ⟨rfl, N0, rfl⟩)
theorem d21_0 : decode jdk_42_method_154_code 0 = .ok (.getstatic 38, 3) := by decide +kernel
theorem d21_3 : decode jdk_42_method_154_code 3 = .ok (.ifCond .eq 14, 3) := by decide +kernel
theorem d21_6 : decode jdk_42_method_154_code 6 = .ok (.aload_n 0, 1) := by decide +kernel
theorem d21_7 : decode jdk_42_method_154_code 7 = .ok (.getfield 15, 3) := by decide +kernel
theorem d21_10 : decode jdk_42_method_154_code 10 = .ok (.ifCond .ne 7, 3) := by decide +kernel
theorem d21_13 : decode jdk_42_method_154_code 13 = .ok (.iconst 1, 1) := by decide +kernel
theorem d21_14 : decode jdk_42_method_154_code 14 = .ok (.goto 4, 3) := by decide +kernel
theorem d21_18 : decode jdk_42_method_154_code 18 = .ok (.ireturn, 1) := by decide +kernel
theorem pn_21 : plainName "java/lang/String" = true := by first | (simp [plainName, overriddenIn]; done) | decide +kernel
theorem ef_21 (m : MethodId) (x0 : Addr) : entryFrame m #[(.ref x0)] 1 = mkF m 0 #[.val (.ref x0)] [] := by first | (simp [entryFrame, mkF, argsToLocals, Value.category]; done) | rfl
def Q21 (Z : State) (a : Addr) (cs1 : Int32) (h0 : Heap) (n0 : Nat) (v : Option Value) (h : Heap) (L : List Loc) : Prop := v = some (.int (1 : Int32)) ∧ Fr n0 L ∧ h = h0
set_option maxRecDepth 65536 in
set_option maxHeartbeats 40000000 in
theorem isl0 (l : Launch) (Z : State) (a0 : Array Value) (hw : ∀ d ∈ tables_1, d.before a0 Z = true) (ws : List Jvm.Cond) (a : Addr) (cs1 : Int32) (h0 : Heap) (n0 : Nat) (Z0 : n0 ≤ h0.size) (F1 : Fld Z h0 a "java/lang/String" "coder" "B" (.int (0 : Int32))) (S3 : Sta Z h0 "java/lang/String" "COMPACT_STRINGS" "Z" (.int cs1)) (hcs1 : ¬ cs1.toInt = 0) :
    MetFree l (⟨"java/lang/String", "isLatin1", "()Z"⟩ : MethodName) (head1 (Jvm.Cond.code (⟨"java/lang/String", "isLatin1", "()Z"⟩ : MethodName) jdk_42_method_154_code 1 (some .boolean) :: ws) ({ frames := 0, cells := 0, slots := 0, locals := 0 } : Room)) (fun a_ U => a_ = #[(.ref a)] ∧ Z.Warmed39 U.vm ∧ U.heap = h0) (fun _ _ _ _ _ => True) (fun _ U o U' => ∃ v L, o = .returned v ∧ Q21 Z a cs1 h0 n0 v U'.heap L ∧ FrameEnd U o U' L (({ frames := 0, cells := 0, slots := 0, locals := 0 } : Room)).cells (({ frames := 0, cells := 0, slots := 0, locals := 0 } : Room)).slots) := by
  refine MetFree.of_bodySF (plainFor_of_name pn_21) hisR ?_
  intro p e s m args below meth c s₁ Bd hml0 hP0 hK
  obtain ⟨rfl, hZ, hh⟩ := hP0
  have hx := Bd.exec
  have hby := Bd.bytes
  have hml : c.maxLocals = 1 := hml0
  have hown : s.vm.findClass "java/lang/String" = some m.cls := findClass_of_methodNamed Bd.named
  have hnm := (name_of_methodNamed Bd.named Bd.method).1
  have X0 : Stand p l e ({ frames := 0, cells := 0, slots := 0, locals := 0 } : Room) s m #[(.ref a)] below meth c s₁ [] 0 0 := Stand.of_body Bd
  have e0 : s₁.heap = h0 := by rw [← hh, Bd.state]; rfl
  have N0 := Fr.nil n0
  have hlk : meth.locks = false := BodyLoose.notSynchronized Bd
  refine Go.start (P₀ := fun s₂ o => ∃ v L, o = .returned v ∧ Q21 Z a cs1 h0 n0 v s₂.heap L ∧ FrameEnd s o s₂ L (({ frames := 0, cells := 0, slots := 0, locals := 0 } : Room)).cells (({ frames := 0, cells := 0, slots := 0, locals := 0 } : Room)).slots) (congrArg s₁.setTop (ef_21 m a)) ?_
  intro P hP
  show Go p.tables e below P (s₁.setTop (mkF m 0 #[.val (.ref a)] []))
  obtain ⟨T_1, X_1, e_1, st_1⟩ := getS2 X0 hx hZ hown (host := "") (Or.inl (hw _ (List.mem_of_getElem? (i := 44) rfl))) Via.refl e0 (Sta_keepX S3 (Keep.refl h0 []) ns0_) (g := (mkF m 0 #[.val (.ref a)] [])) rfl (hb hby d21_0)
  refine Go.step (fun t k => st_1 t k) ?_
  show Go p.tables e below P (T_1.setTop (mkF m 3 #[.val (.ref a)] [(.int cs1)]))
  refine Go.step (fun t k => XS.ifNo X_1.here hx rfl (hb hby d21_3) rfl (ifN (cd := .eq) hcs1) k) ?_
  show Go p.tables e below P (T_1.setTop (mkF m 6 #[.val (.ref a)] []))
  refine Go.step (fun t k => XS.aloadN X_1.here hx rfl (hb hby d21_6) rfl rfl k) ?_
  show Go p.tables e below P (T_1.setTop (mkF m 7 #[.val (.ref a)] [(.ref a)]))
  obtain ⟨T_2, X_2, e_2, st_2⟩ := getF X_1 hx hZ hown (host := "") (Or.inl (hw _ (List.mem_of_getElem? (i := 26) rfl))) Via.refl e_1 F1 (g := (mkF m 7 #[.val (.ref a)] [(.ref a)])) rfl rfl (hb hby d21_7)
  refine Go.step (fun t k => st_2 t k) ?_
  show Go p.tables e below P (T_2.setTop (mkF m 10 #[.val (.ref a)] [(.int (0 : Int32))]))
  refine Go.step (fun t k => XS.ifNo X_2.here hx rfl (hb hby d21_10) rfl (ifN (cd := .ne) (by decide : ¬ (¬ (0 : Int) = 0))) k) ?_
  show Go p.tables e below P (T_2.setTop (mkF m 13 #[.val (.ref a)] []))
  refine Go.step (fun t k => XS.iconst X_2.here hx rfl (hb hby d21_13) k) ?_
  show Go p.tables e below P (T_2.setTop (mkF m 14 #[.val (.ref a)] [(.int (1 : Int32))]))
  refine Go.step (fun t k => XS.goto X_2.here hx rfl (pc0 := 14) (pc' := 18) rfl (hb hby d21_14) (by decide) (by decide) k) ?_
  show Go p.tables e below P (T_2.setTop (mkF m 18 #[.val (.ref a)] [(.int (1 : Int32))]))
  exact retGo X_2 hx hP Bd.returns hlk rfl (Or.inl ⟨rfl, Or.inr (Or.inl rfl), _, rfl⟩) (hb hby d21_18) (by decide) (by decide) (by rw [e_2]; exact ⟨rfl, N0, rfl⟩)
theorem d22_0 : decode jdk_42_method_54_code 0 = .ok (.aload_n 0, 1) := by decide +kernel
theorem d22_1 : decode jdk_42_method_54_code 1 = .ok (.getfield 9, 3) := by decide +kernel
theorem d22_4 : decode jdk_42_method_54_code 4 = .ok (.arraylength, 1) := by decide +kernel
theorem d22_5 : decode jdk_42_method_54_code 5 = .ok (.aload_n 0, 1) := by decide +kernel
theorem d22_6 : decode jdk_42_method_54_code 6 = .ok (.invokevirtual 335, 3) := by decide +kernel
theorem d22_9 : decode jdk_42_method_54_code 9 = .ok (.ishr, 1) := by decide +kernel
theorem d22_10 : decode jdk_42_method_54_code 10 = .ok (.ireturn, 1) := by decide +kernel
theorem pn_22 : plainName "java/lang/String" = true := by first | (simp [plainName, overriddenIn]; done) | decide +kernel
theorem ef_22 (m : MethodId) (x0 : Addr) : entryFrame m #[(.ref x0)] 1 = mkF m 0 #[.val (.ref x0)] [] := by first | (simp [entryFrame, mkF, argsToLocals, Value.category]; done) | rfl
def Q22 (Z : State) (a : Addr) (b : Addr) (kb : ClassId) (zb : Int32) (vl : List Value) (cs : List Int32) (cs1 : Int32) (h0 : Heap) (n0 : Nat) (v : Option Value) (h : Heap) (L : List Loc) : Prop := ∃ r : Int32, v = some (.int r) ∧ r.toInt = (cs.length : Int) ∧ Fr n0 L ∧ h = h0
set_option maxRecDepth 65536 in
set_option maxHeartbeats 40000000 in
theorem len0 (l : Launch) (Z : State) (a0 : Array Value) (hw : ∀ d ∈ tables_1, d.before a0 Z = true) (ws : List Jvm.Cond) (a : Addr) (b : Addr) (kb : ClassId) (zb : Int32) (vl : List Value) (cs : List Int32) (cs1 : Int32) (h0 : Heap) (n0 : Nat) (Z0 : n0 ≤ h0.size) (E_a : Exa Z h0 a "java/lang/String") (F0 : Fld Z h0 a "java/lang/String" "value" "[B" (.ref b)) (F1 : Fld Z h0 a "java/lang/String" "coder" "B" (.int (0 : Int32))) (Vb : Arv Z h0 b kb .byte zb vl (.int (0 : Int32))) (hzb : zb.toInt = (cs.length : Int)) (hn : cs.length ≤ 12) (hc : ∀ x ∈ cs, 0 ≤ x.toInt ∧ x.toInt < 65536) (S3 : Sta Z h0 "java/lang/String" "COMPACT_STRINGS" "Z" (.int cs1)) (hcs1 : ¬ cs1.toInt = 0) :
    MetFree l (⟨"java/lang/String", "length", "()I"⟩ : MethodName) (head1 (Jvm.Cond.code (⟨"java/lang/String", "length", "()I"⟩ : MethodName) jdk_42_method_54_code 1 (some .int) :: ws) ({ frames := 1, cells := 0, slots := 0, locals := 13 } : Room)) (fun a_ U => a_ = #[(.ref a)] ∧ Z.Warmed39 U.vm ∧ U.heap = h0) (fun _ _ _ _ _ => True) (fun _ U o U' => ∃ v L, o = .returned v ∧ Q22 Z a b kb zb vl cs cs1 h0 n0 v U'.heap L ∧ FrameEnd U o U' L (({ frames := 1, cells := 0, slots := 0, locals := 13 } : Room)).cells (({ frames := 1, cells := 0, slots := 0, locals := 13 } : Room)).slots) := by
  refine MetFree.of_bodySF (plainFor_of_name pn_22) hisR ?_
  intro p e s m args below meth c s₁ Bd hml0 hP0 hK
  obtain ⟨rfl, hZ, hh⟩ := hP0
  have hx := Bd.exec
  have hby := Bd.bytes
  have hml : c.maxLocals = 1 := hml0
  have hown : s.vm.findClass "java/lang/String" = some m.cls := findClass_of_methodNamed Bd.named
  have hnm := (name_of_methodNamed Bd.named Bd.method).1
  have X0 : Stand p l e ({ frames := 1, cells := 0, slots := 0, locals := 13 } : Room) s m #[(.ref a)] below meth c s₁ [] 0 0 := Stand.of_body Bd
  have e0 : s₁.heap = h0 := by rw [← hh, Bd.state]; rfl
  have N0 := Fr.nil n0
  have hlk : meth.locks = false := BodyLoose.notSynchronized Bd
  refine Go.start (P₀ := fun s₂ o => ∃ v L, o = .returned v ∧ Q22 Z a b kb zb vl cs cs1 h0 n0 v s₂.heap L ∧ FrameEnd s o s₂ L (({ frames := 1, cells := 0, slots := 0, locals := 13 } : Room)).cells (({ frames := 1, cells := 0, slots := 0, locals := 13 } : Room)).slots) (congrArg s₁.setTop (ef_22 m a)) ?_
  intro P hP
  show Go p.tables e below P (s₁.setTop (mkF m 0 #[.val (.ref a)] []))
  refine Go.step (fun t k => XS.aloadN X0.here hx rfl (hb hby d22_0) rfl rfl k) ?_
  show Go p.tables e below P (s₁.setTop (mkF m 1 #[.val (.ref a)] [(.ref a)]))
  obtain ⟨T_1, X_1, e_1, st_1⟩ := getF X0 hx hZ hown (host := "") (Or.inl (hw _ (List.mem_of_getElem? (i := 25) rfl))) Via.refl e0 F0 (g := (mkF m 1 #[.val (.ref a)] [(.ref a)])) rfl rfl (hb hby d22_1)
  refine Go.step (fun t k => st_1 t k) ?_
  show Go p.tables e below P (T_1.setTop (mkF m 4 #[.val (.ref a)] [(.ref b)]))
  have vq_2 := Vb
  obtain ⟨cl_2, Ar_2, q_2, S_2, Nn_2, H_2, G_2⟩ := vq_2
  refine Go.step (fun t k => X_1.arraylength hx (by rw [e_1]; exact Ar_2.1) (State.isArrayOf_alike hZ.alike Ar_2.2.1) (g := (mkF m 4 #[.val (.ref a)] [(.ref b)])) rfl rfl (hb hby d22_4) t k) ?_
  rw [len_of S_2 Nn_2]
  show Go p.tables e below P (T_1.setTop (mkF m 5 #[.val (.ref a)] [(.int zb)]))
  refine Go.step (fun t k => XS.aloadN X_1.here hx rfl (hb hby d22_5) rfl rfl k) ?_
  show Go p.tables e below P (T_1.setTop (mkF m 6 #[.val (.ref a)] [(.ref a), (.int zb)]))
  obtain ⟨cq_3, kq_3, q_3a, q_3b, q_3c⟩ := isOf hZ e_1 E_a
  obtain ⟨_, _, ⟨T_3, L_3, k_3, n_3⟩, -, X_3, ⟨Lc_3, hQ_3, l_3, y_3, z_3⟩, st_3⟩ := X_1.virtualBack hx (y := (⟨"java/lang/String", "coder", "()B"⟩ : MethodName)) (z := (⟨"java/lang/String", "coder", "()B"⟩ : MethodName)) hown (mvT hZ (hw _ (List.mem_of_getElem? (i := 39) rfl))) (mvT hZ (hw _ (List.mem_of_getElem? (i := 40) rfl))) (notFace_of_selects (args := #[]) (mvT hZ (hw _ (List.mem_of_getElem? (i := 42) rfl)))) (mvT hZ (hw _ (List.mem_of_getElem? (i := 42) rfl))) (mvT hZ (hw _ (List.mem_of_getElem? (i := 41) rfl))) (by decide) (backOf (W := 1) (coder0 l Z a0 hw [] a cs1 h0 n0 Z0 F1 S3 hcs1) hZ (hw _ (List.mem_of_getElem? (i := 43) rfl)) (hw _ (List.mem_of_getElem? (i := 8) rfl)) (by decide) (by decide)) q_3a q_3c (g := (mkF m 6 #[.val (.ref a)] [(.ref a), (.int zb)])) rfl (by rw [hml]; rfl) (Steps.refl _) (argsL := []) (rest := [(.int zb)]) (lenOf pd_11 rfl) rfl (by show 2 * 0 + _ ≤ _; exact Nat.le_of_eq rfl) (hb hby d22_6) (fun _ _ => ⟨rfl, e_1, (by decide : 0 + 0 ≤ _), (by decide : 0 + 0 ≤ _)⟩)
  dsimp only [Pt.U, Pt.locs, Pt.cells, Pt.slots] at X_3 l_3 y_3 z_3 st_3 hQ_3
  subst l_3 y_3 z_3
  obtain ⟨rfl, N_3q, eh_3⟩ := hQ_3
  have N_3 := Fr.app N0 N_3q
  refine Go.tr st_3 ?_
  show Go p.tables e below P (T_3.setTop (mkF m 9 #[.val (.ref a)] [(.int (0 : Int32)), (.int zb)]))
  obtain ⟨i9, hi9⟩ : ∃ z : Int32, (zb >>> ((0 : Int32) &&& 31)) = z := ⟨_, rfl⟩
  refine Go.step (fun t k => ishr_v X_3.here hx rfl (hb hby d22_9) rfl  hi9 k) ?_
  show Go p.tables e below P (T_3.setTop (mkF m 10 #[.val (.ref a)] [(.int i9)]))
  have f9 := c_ishr zb (0 : Int32) 0 rfl; rw [hi9] at f9
  exact retGo X_3 hx hP Bd.returns hlk rfl (Or.inl ⟨rfl, Or.inl rfl, _, rfl⟩) (hb hby d22_10) (by decide) (by decide) (by rw [eh_3]; exact ⟨i9, rfl, by omega, N_3, rfl⟩)
theorem d23_0 : decode jdk_42_method_59_code 0 = .ok (.iload_n 1, 1) := by decide +kernel
theorem d23_1 : decode jdk_42_method_59_code 1 = .ok (.iload_n 2, 1) := by decide +kernel
theorem d23_2 : decode jdk_42_method_59_code 2 = .ok (.aload_n 0, 1) := by decide +kernel
theorem d23_3 : decode jdk_42_method_59_code 3 = .ok (.invokevirtual 505, 3) := by decide +kernel
theorem d23_6 : decode jdk_42_method_59_code 6 = .ok (.invokestatic 511, 3) := by decide +kernel
theorem d23_9 : decode jdk_42_method_59_code 9 = .ok (.pop, 1) := by decide +kernel
theorem d23_10 : decode jdk_42_method_59_code 10 = .ok (.aload_n 0, 1) := by decide +kernel
theorem d23_11 : decode jdk_42_method_59_code 11 = .ok (.invokevirtual 492, 3) := by decide +kernel
theorem d23_14 : decode jdk_42_method_59_code 14 = .ok (.ifCond .eq 7, 3) := by decide +kernel
theorem d23_17 : decode jdk_42_method_59_code 17 = .ok (.iload_n 2, 1) := by decide +kernel
theorem d23_18 : decode jdk_42_method_59_code 18 = .ok (.iload_n 1, 1) := by decide +kernel
theorem d23_19 : decode jdk_42_method_59_code 19 = .ok (.isub, 1) := by decide +kernel
theorem d23_20 : decode jdk_42_method_59_code 20 = .ok (.ireturn, 1) := by decide +kernel
theorem pn_23 : plainName "java/lang/String" = true := by first | (simp [plainName, overriddenIn]; done) | decide +kernel
theorem ef_23 (m : MethodId) (x0 : Addr) (x1 : Int32) (x2 : Int32) : entryFrame m #[(.ref x0), (.int x1), (.int x2)] 3 = mkF m 0 #[.val (.ref x0), .val (.int x1), .val (.int x2)] [] := by first | (simp [entryFrame, mkF, argsToLocals, Value.category]; done) | rfl
def Q23 (Z : State) (a : Addr) (b : Addr) (kb : ClassId) (zb : Int32) (vl : List Value) (cs : List Int32) (cs1 : Int32) (zn : Int32) (h0 : Heap) (n0 : Nat) (v : Option Value) (h : Heap) (L : List Loc) : Prop := ∃ r : Int32, v = some (.int r) ∧ r.toInt = (cs.length : Int) ∧ Fr n0 L ∧ h = h0
set_option maxRecDepth 65536 in
set_option maxHeartbeats 40000000 in
theorem cpn0 (l : Launch) (Z : State) (a0 : Array Value) (hw : ∀ d ∈ tables_1, d.before a0 Z = true) (ws : List Jvm.Cond) (a : Addr) (b : Addr) (kb : ClassId) (zb : Int32) (vl : List Value) (cs : List Int32) (cs1 : Int32) (zn : Int32) (h0 : Heap) (n0 : Nat) (Z0 : n0 ≤ h0.size) (E_a : Exa Z h0 a "java/lang/String") (F0 : Fld Z h0 a "java/lang/String" "value" "[B" (.ref b)) (F1 : Fld Z h0 a "java/lang/String" "coder" "B" (.int (0 : Int32))) (Vb : Arv Z h0 b kb .byte zb vl (.int (0 : Int32))) (hzb : zb.toInt = (cs.length : Int)) (hn : cs.length ≤ 12) (hc : ∀ x ∈ cs, 0 ≤ x.toInt ∧ x.toInt < 65536) (hz : zn.toInt = (cs.length : Int)) (S3 : Sta Z h0 "java/lang/String" "COMPACT_STRINGS" "Z" (.int cs1)) (hcs1 : ¬ cs1.toInt = 0) (S0 : Sta Z h0 "java/lang/StringUTF16" "$assertionsDisabled" "Z" (.int (1 : Int32))) (S1 : Sta Z h0 "java/lang/StringUTF16" "HI_BYTE_SHIFT" "I" (.int (0 : Int32))) (S2 : Sta Z h0 "java/lang/StringUTF16" "LO_BYTE_SHIFT" "I" (.int (8 : Int32))) :
    MetFree l (⟨"java/lang/String", "codePointCount", "(II)I"⟩ : MethodName) (head1 (Jvm.Cond.code (⟨"java/lang/String", "codePointCount", "(II)I"⟩ : MethodName) jdk_42_method_59_code 3 (some .int) :: ws) ({ frames := 2, cells := 0, slots := 0, locals := 29 } : Room)) (fun a_ U => a_ = #[(.ref a), (.int (0 : Int32)), (.int zn)] ∧ Z.Warmed39 U.vm ∧ U.heap = h0) (fun _ _ _ _ _ => True) (fun _ U o U' => ∃ v L, o = .returned v ∧ Q23 Z a b kb zb vl cs cs1 zn h0 n0 v U'.heap L ∧ FrameEnd U o U' L (({ frames := 2, cells := 0, slots := 0, locals := 29 } : Room)).cells (({ frames := 2, cells := 0, slots := 0, locals := 29 } : Room)).slots) := by
  refine MetFree.of_bodySF (plainFor_of_name pn_23) hisR ?_
  intro p e s m args below meth c s₁ Bd hml0 hP0 hK
  obtain ⟨rfl, hZ, hh⟩ := hP0
  have hx := Bd.exec
  have hby := Bd.bytes
  have hml : c.maxLocals = 3 := hml0
  have hown : s.vm.findClass "java/lang/String" = some m.cls := findClass_of_methodNamed Bd.named
  have hnm := (name_of_methodNamed Bd.named Bd.method).1
  have X0 : Stand p l e ({ frames := 2, cells := 0, slots := 0, locals := 29 } : Room) s m #[(.ref a), (.int (0 : Int32)), (.int zn)] below meth c s₁ [] 0 0 := Stand.of_body Bd
  have e0 : s₁.heap = h0 := by rw [← hh, Bd.state]; rfl
  have N0 := Fr.nil n0
  have hlk : meth.locks = false := BodyLoose.notSynchronized Bd
  refine Go.start (P₀ := fun s₂ o => ∃ v L, o = .returned v ∧ Q23 Z a b kb zb vl cs cs1 zn h0 n0 v s₂.heap L ∧ FrameEnd s o s₂ L (({ frames := 2, cells := 0, slots := 0, locals := 29 } : Room)).cells (({ frames := 2, cells := 0, slots := 0, locals := 29 } : Room)).slots) (congrArg s₁.setTop (ef_23 m a (0 : Int32) zn)) ?_
  intro P hP
  show Go p.tables e below P (s₁.setTop (mkF m 0 #[.val (.ref a), .val (.int (0 : Int32)), .val (.int zn)] []))
  refine Go.step (fun t k => XS.iloadN X0.here hx rfl (hb hby d23_0) rfl  k) ?_
  show Go p.tables e below P (s₁.setTop (mkF m 1 #[.val (.ref a), .val (.int (0 : Int32)), .val (.int zn)] [(.int (0 : Int32))]))
  refine Go.step (fun t k => XS.iloadN X0.here hx rfl (hb hby d23_1) rfl  k) ?_
  show Go p.tables e below P (s₁.setTop (mkF m 2 #[.val (.ref a), .val (.int (0 : Int32)), .val (.int zn)] [(.int zn), (.int (0 : Int32))]))
  refine Go.step (fun t k => XS.aloadN X0.here hx rfl (hb hby d23_2) rfl rfl k) ?_
  show Go p.tables e below P (s₁.setTop (mkF m 3 #[.val (.ref a), .val (.int (0 : Int32)), .val (.int zn)] [(.ref a), (.int zn), (.int (0 : Int32))]))
  obtain ⟨cq_1, kq_1, q_1a, q_1b, q_1c⟩ := isOf hZ e0 E_a
  obtain ⟨_, _, ⟨T_1, L_1, k_1, n_1⟩, -, X_1, ⟨Lc_1, hQ_1, l_1, y_1, z_1⟩, st_1⟩ := X0.virtualBack hx (y := (⟨"java/lang/String", "length", "()I"⟩ : MethodName)) (z := (⟨"java/lang/String", "length", "()I"⟩ : MethodName)) hown (mvT hZ (hw _ (List.mem_of_getElem? (i := 50) rfl))) (mvT hZ (hw _ (List.mem_of_getElem? (i := 35) rfl))) (notFace_of_selects (args := #[]) (mvT hZ (hw _ (List.mem_of_getElem? (i := 37) rfl)))) (mvT hZ (hw _ (List.mem_of_getElem? (i := 37) rfl))) (mvT hZ (hw _ (List.mem_of_getElem? (i := 36) rfl))) (by decide) (backOf (W := 2) (len0 l Z a0 hw [] a b kb zb vl cs cs1 h0 n0 Z0 E_a F0 F1 Vb hzb hn hc S3 hcs1) hZ (hw _ (List.mem_of_getElem? (i := 38) rfl)) (hw _ (List.mem_of_getElem? (i := 8) rfl)) (by decide) (by decide)) q_1a q_1c (g := (mkF m 3 #[.val (.ref a), .val (.int (0 : Int32)), .val (.int zn)] [(.ref a), (.int zn), (.int (0 : Int32))])) rfl (by rw [hml]; rfl) (Steps.refl _) (argsL := []) (rest := [(.int zn), (.int (0 : Int32))]) (lenOf pd_12 rfl) rfl (by show 2 * 0 + _ ≤ _; exact Nat.le_of_eq rfl) (hb hby d23_3) (fun _ _ => ⟨rfl, e0, (by decide : 0 + 0 ≤ _), (by decide : 0 + 0 ≤ _)⟩)
  dsimp only [Pt.U, Pt.locs, Pt.cells, Pt.slots] at X_1 l_1 y_1 z_1 st_1 hQ_1
  subst l_1 y_1 z_1
  obtain ⟨rl, rfl, hrl, N_1q, eh_1⟩ := hQ_1
  have N_1 := Fr.app N0 N_1q
  refine Go.tr st_1 ?_
  show Go p.tables e below P (T_1.setTop (mkF m 6 #[.val (.ref a), .val (.int (0 : Int32)), .val (.int zn)] [(.int rl), (.int zn), (.int (0 : Int32))]))
  obtain ⟨_, _, ⟨T_2, L_2, k_2, n_2⟩, -, X_2, ⟨Lc_2, hQ_2, l_2, y_2, z_2⟩, st_2⟩ := Jvm.LawKit.callS X_1 hx (y := (⟨"java/util/Objects", "checkFromToIndex", "(III)I"⟩ : MethodName)) hown (mvT hZ (hw _ (List.mem_of_getElem? (i := 51) rfl))) (mvT hZ (hw _ (List.mem_of_getElem? (i := 52) rfl))) (mvT hZ (hw _ (List.mem_of_getElem? (i := 53) rfl))) (mvT hZ (hw _ (List.mem_of_getElem? (i := 54) rfl))) (by decide) (backOf (W := 0) (rm15 l Z a0 hw [] zn rl h0 n0 Z0 (by omega) (by omega)) hZ (hw _ (List.mem_of_getElem? (i := 54) rfl)) (hw _ (List.mem_of_getElem? (i := 53) rfl)) (by decide) (by decide)) (g := (mkF m 6 #[.val (.ref a), .val (.int (0 : Int32)), .val (.int zn)] [(.int rl), (.int zn), (.int (0 : Int32))])) rfl (by rw [hml]; rfl) (argsL := [(.int (0 : Int32)), (.int zn), (.int rl)]) (rest := []) (lenOf pd_13 rfl) rfl (by show 2 * 0 + _ ≤ _; exact Nat.le_of_eq rfl) (hb hby d23_6) (fun _ _ => ⟨rfl, eh_1, (by decide : 0 + 0 ≤ _), (by decide : 0 + 0 ≤ _)⟩)
  dsimp only [Pt.U, Pt.locs, Pt.cells, Pt.slots] at X_2 l_2 y_2 z_2 st_2 hQ_2
  subst l_2 y_2 z_2
  obtain ⟨rfl, N_2q, eh_2⟩ := hQ_2
  have N_2 := Fr.app N_1 N_2q
  refine Go.step (fun t k => st_2 t k) ?_
  show Go p.tables e below P (T_2.setTop (mkF m 9 #[.val (.ref a), .val (.int (0 : Int32)), .val (.int zn)] [(.int (0 : Int32))]))
  refine Go.step (fun t k => XS.pop X_2.here hx rfl (hb hby d23_9) rfl rfl k) ?_
  show Go p.tables e below P (T_2.setTop (mkF m 10 #[.val (.ref a), .val (.int (0 : Int32)), .val (.int zn)] []))
  refine Go.step (fun t k => XS.aloadN X_2.here hx rfl (hb hby d23_10) rfl rfl k) ?_
  show Go p.tables e below P (T_2.setTop (mkF m 11 #[.val (.ref a), .val (.int (0 : Int32)), .val (.int zn)] [(.ref a)]))
  obtain ⟨cq_3, kq_3, q_3a, q_3b, q_3c⟩ := isOf hZ eh_2 E_a
  obtain ⟨_, _, ⟨T_3, L_3, k_3, n_3⟩, -, X_3, ⟨Lc_3, hQ_3, l_3, y_3, z_3⟩, st_3⟩ := X_2.virtualBack hx (y := (⟨"java/lang/String", "isLatin1", "()Z"⟩ : MethodName)) (z := (⟨"java/lang/String", "isLatin1", "()Z"⟩ : MethodName)) hown (mvT hZ (hw _ (List.mem_of_getElem? (i := 59) rfl))) (mvT hZ (hw _ (List.mem_of_getElem? (i := 60) rfl))) (notFace_of_selects (args := #[]) (mvT hZ (hw _ (List.mem_of_getElem? (i := 62) rfl)))) (mvT hZ (hw _ (List.mem_of_getElem? (i := 62) rfl))) (mvT hZ (hw _ (List.mem_of_getElem? (i := 61) rfl))) (by decide) (backOf (W := 0) (isl0 l Z a0 hw [] a cs1 h0 n0 Z0 F1 S3 hcs1) hZ (hw _ (List.mem_of_getElem? (i := 63) rfl)) (hw _ (List.mem_of_getElem? (i := 8) rfl)) (by decide) (by decide)) q_3a q_3c (g := (mkF m 11 #[.val (.ref a), .val (.int (0 : Int32)), .val (.int zn)] [(.ref a)])) rfl (by rw [hml]; rfl) (Steps.refl _) (argsL := []) (rest := []) (lenOf pd_14 rfl) rfl (by show 2 * 0 + _ ≤ _; exact Nat.le_of_eq rfl) (hb hby d23_11) (fun _ _ => ⟨rfl, eh_2, (by decide : 0 + 0 ≤ _), (by decide : 0 + 0 ≤ _)⟩)
  dsimp only [Pt.U, Pt.locs, Pt.cells, Pt.slots] at X_3 l_3 y_3 z_3 st_3 hQ_3
  subst l_3 y_3 z_3
  obtain ⟨rfl, N_3q, eh_3⟩ := hQ_3
  have N_3 := Fr.app N_2 N_3q
  refine Go.tr st_3 ?_
  show Go p.tables e below P (T_3.setTop (mkF m 14 #[.val (.ref a), .val (.int (0 : Int32)), .val (.int zn)] [(.int (1 : Int32))]))
  refine Go.step (fun t k => XS.ifNo X_3.here hx rfl (hb hby d23_14) rfl (ifN (cd := .eq) (by decide : ¬ ((1 : Int) = 0))) k) ?_
  show Go p.tables e below P (T_3.setTop (mkF m 17 #[.val (.ref a), .val (.int (0 : Int32)), .val (.int zn)] []))
  refine Go.step (fun t k => XS.iloadN X_3.here hx rfl (hb hby d23_17) rfl  k) ?_
  show Go p.tables e below P (T_3.setTop (mkF m 18 #[.val (.ref a), .val (.int (0 : Int32)), .val (.int zn)] [(.int zn)]))
  refine Go.step (fun t k => XS.iloadN X_3.here hx rfl (hb hby d23_18) rfl  k) ?_
  show Go p.tables e below P (T_3.setTop (mkF m 19 #[.val (.ref a), .val (.int (0 : Int32)), .val (.int zn)] [(.int (0 : Int32)), (.int zn)]))
  obtain ⟨i19, hi19⟩ : ∃ z : Int32, zn - (0 : Int32) = z := ⟨_, rfl⟩
  refine Go.step (fun t k => isub_v X_3.here hx rfl (hb hby d23_19) rfl  hi19 k) ?_
  show Go p.tables e below P (T_3.setTop (mkF m 20 #[.val (.ref a), .val (.int (0 : Int32)), .val (.int zn)] [(.int i19)]))
  have z0 : (0 : Int32).toInt = 0 := rfl
  have f19 := c_isub zn (0 : Int32); rw [hi19, z0] at f19
  have g19 := rng32 i19
  exact retGo X_3 hx hP Bd.returns hlk rfl (Or.inl ⟨rfl, Or.inl rfl, _, rfl⟩) (hb hby d23_20) (by decide) (by decide) (by rw [eh_3]; exact ⟨i19, rfl, by omega, N_3, rfl⟩)
theorem d24_0 : decode prog_19_method_3_code 0 = .ok (.aload_n 0, 1) := by decide +kernel
theorem d24_1 : decode prog_19_method_3_code 1 = .ok (.iconst 0, 1) := by decide +kernel
theorem d24_2 : decode prog_19_method_3_code 2 = .ok (.aload_n 0, 1) := by decide +kernel
theorem d24_3 : decode prog_19_method_3_code 3 = .ok (.invokevirtual 65, 3) := by decide +kernel
theorem d24_6 : decode prog_19_method_3_code 6 = .ok (.invokevirtual 66, 3) := by decide +kernel
theorem d24_9 : decode prog_19_method_3_code 9 = .ok (.ireturn, 1) := by decide +kernel
theorem pn_24 : plainName "com/example/wrasse/wrasse/Words" = true := by first | (simp [plainName, overriddenIn]; done) | decide +kernel
theorem ef_24 (m : MethodId) (x0 : Addr) : entryFrame m #[(.ref x0)] 1 = mkF m 0 #[.val (.ref x0)] [] := by first | (simp [entryFrame, mkF, argsToLocals, Value.category]; done) | rfl
def Q24 (Z : State) (a : Addr) (b : Addr) (kb : ClassId) (zb : Int32) (vl : List Value) (cs : List Int32) (cs1 : Int32) (h0 : Heap) (n0 : Nat) (v : Option Value) (h : Heap) (L : List Loc) : Prop := ∃ r : Int32, v = some (.int r) ∧ r.toInt = (cs.length : Int) ∧ Fr n0 L ∧ h = h0
set_option maxRecDepth 65536 in
set_option maxHeartbeats 40000000 in
theorem wlen0 (l : Launch) (Z : State) (a0 : Array Value) (hw : ∀ d ∈ tables_1, d.before a0 Z = true) (ws : List Jvm.Cond) (a : Addr) (b : Addr) (kb : ClassId) (zb : Int32) (vl : List Value) (cs : List Int32) (cs1 : Int32) (h0 : Heap) (n0 : Nat) (Z0 : n0 ≤ h0.size) (E_a : Exa Z h0 a "java/lang/String") (F0 : Fld Z h0 a "java/lang/String" "value" "[B" (.ref b)) (F1 : Fld Z h0 a "java/lang/String" "coder" "B" (.int (0 : Int32))) (Vb : Arv Z h0 b kb .byte zb vl (.int (0 : Int32))) (hzb : zb.toInt = (cs.length : Int)) (hn : cs.length ≤ 12) (hc : ∀ x ∈ cs, 0 ≤ x.toInt ∧ x.toInt < 65536) (S3 : Sta Z h0 "java/lang/String" "COMPACT_STRINGS" "Z" (.int cs1)) (hcs1 : ¬ cs1.toInt = 0) (S0 : Sta Z h0 "java/lang/StringUTF16" "$assertionsDisabled" "Z" (.int (1 : Int32))) (S1 : Sta Z h0 "java/lang/StringUTF16" "HI_BYTE_SHIFT" "I" (.int (0 : Int32))) (S2 : Sta Z h0 "java/lang/StringUTF16" "LO_BYTE_SHIFT" "I" (.int (8 : Int32))) :
    MetFree l (⟨"com/example/wrasse/wrasse/Words", "length", "(Ljava/lang/String;)I"⟩ : MethodName) (head1 (Jvm.Cond.code (⟨"com/example/wrasse/wrasse/Words", "length", "(Ljava/lang/String;)I"⟩ : MethodName) prog_19_method_3_code 1 (some .int) :: ws) ({ frames := 3, cells := 0, slots := 0, locals := 43 } : Room)) (fun a_ U => a_ = #[(.ref a)] ∧ Z.Warmed39 U.vm ∧ U.heap = h0) (fun _ _ _ _ _ => True) (fun _ U o U' => ∃ v L, o = .returned v ∧ Q24 Z a b kb zb vl cs cs1 h0 n0 v U'.heap L ∧ FrameEnd U o U' L (({ frames := 3, cells := 0, slots := 0, locals := 43 } : Room)).cells (({ frames := 3, cells := 0, slots := 0, locals := 43 } : Room)).slots) := by
  refine MetFree.of_bodySF (plainFor_of_name pn_24) hisR ?_
  intro p e s m args below meth c s₁ Bd hml0 hP0 hK
  obtain ⟨rfl, hZ, hh⟩ := hP0
  have hx := Bd.exec
  have hby := Bd.bytes
  have hml : c.maxLocals = 1 := hml0
  have hown : s.vm.findClass "com/example/wrasse/wrasse/Words" = some m.cls := findClass_of_methodNamed Bd.named
  have hnm := (name_of_methodNamed Bd.named Bd.method).1
  have X0 : Stand p l e ({ frames := 3, cells := 0, slots := 0, locals := 43 } : Room) s m #[(.ref a)] below meth c s₁ [] 0 0 := Stand.of_body Bd
  have e0 : s₁.heap = h0 := by rw [← hh, Bd.state]; rfl
  have N0 := Fr.nil n0
  have hlk : meth.locks = false := BodyLoose.notSynchronized Bd
  refine Go.start (P₀ := fun s₂ o => ∃ v L, o = .returned v ∧ Q24 Z a b kb zb vl cs cs1 h0 n0 v s₂.heap L ∧ FrameEnd s o s₂ L (({ frames := 3, cells := 0, slots := 0, locals := 43 } : Room)).cells (({ frames := 3, cells := 0, slots := 0, locals := 43 } : Room)).slots) (congrArg s₁.setTop (ef_24 m a)) ?_
  intro P hP
  show Go p.tables e below P (s₁.setTop (mkF m 0 #[.val (.ref a)] []))
  refine Go.step (fun t k => XS.aloadN X0.here hx rfl (hb hby d24_0) rfl rfl k) ?_
  show Go p.tables e below P (s₁.setTop (mkF m 1 #[.val (.ref a)] [(.ref a)]))
  refine Go.step (fun t k => XS.iconst X0.here hx rfl (hb hby d24_1) k) ?_
  show Go p.tables e below P (s₁.setTop (mkF m 2 #[.val (.ref a)] [(.int (0 : Int32)), (.ref a)]))
  refine Go.step (fun t k => XS.aloadN X0.here hx rfl (hb hby d24_2) rfl rfl k) ?_
  show Go p.tables e below P (s₁.setTop (mkF m 3 #[.val (.ref a)] [(.ref a), (.int (0 : Int32)), (.ref a)]))
  obtain ⟨cq_1, kq_1, q_1a, q_1b, q_1c⟩ := isOf hZ e0 E_a
  obtain ⟨_, _, ⟨T_1, L_1, k_1, n_1⟩, -, X_1, ⟨Lc_1, hQ_1, l_1, y_1, z_1⟩, st_1⟩ := X0.virtualBack hx (y := (⟨"java/lang/String", "length", "()I"⟩ : MethodName)) (z := (⟨"java/lang/String", "length", "()I"⟩ : MethodName)) hown (mvT hZ (hw _ (List.mem_of_getElem? (i := 34) rfl))) (mvT hZ (hw _ (List.mem_of_getElem? (i := 35) rfl))) (notFace_of_selects (args := #[]) (mvT hZ (hw _ (List.mem_of_getElem? (i := 37) rfl)))) (mvT hZ (hw _ (List.mem_of_getElem? (i := 37) rfl))) (mvT hZ (hw _ (List.mem_of_getElem? (i := 36) rfl))) (by decide) (backOf (W := 2) (len0 l Z a0 hw [] a b kb zb vl cs cs1 h0 n0 Z0 E_a F0 F1 Vb hzb hn hc S3 hcs1) hZ (hw _ (List.mem_of_getElem? (i := 38) rfl)) (hw _ (List.mem_of_getElem? (i := 8) rfl)) (by decide) (by decide)) q_1a q_1c (g := (mkF m 3 #[.val (.ref a)] [(.ref a), (.int (0 : Int32)), (.ref a)])) rfl (by rw [hml]; rfl) (Steps.refl _) (argsL := []) (rest := [(.int (0 : Int32)), (.ref a)]) (lenOf pd_12 rfl) rfl (by show 2 * 0 + _ ≤ _; exact Nat.le_of_eq rfl) (hb hby d24_3) (fun _ _ => ⟨rfl, e0, (by decide : 0 + 0 ≤ _), (by decide : 0 + 0 ≤ _)⟩)
  dsimp only [Pt.U, Pt.locs, Pt.cells, Pt.slots] at X_1 l_1 y_1 z_1 st_1 hQ_1
  subst l_1 y_1 z_1
  obtain ⟨rl, rfl, hrl, N_1q, eh_1⟩ := hQ_1
  have N_1 := Fr.app N0 N_1q
  refine Go.tr st_1 ?_
  show Go p.tables e below P (T_1.setTop (mkF m 6 #[.val (.ref a)] [(.int rl), (.int (0 : Int32)), (.ref a)]))
  obtain ⟨cq_2, kq_2, q_2a, q_2b, q_2c⟩ := isOf hZ eh_1 E_a
  obtain ⟨_, _, ⟨T_2, L_2, k_2, n_2⟩, -, X_2, ⟨Lc_2, hQ_2, l_2, y_2, z_2⟩, st_2⟩ := X_1.virtualBack hx (y := (⟨"java/lang/String", "codePointCount", "(II)I"⟩ : MethodName)) (z := (⟨"java/lang/String", "codePointCount", "(II)I"⟩ : MethodName)) hown (mvT hZ (hw _ (List.mem_of_getElem? (i := 45) rfl))) (mvT hZ (hw _ (List.mem_of_getElem? (i := 46) rfl))) (notFace_of_selects (args := #[]) (mvT hZ (hw _ (List.mem_of_getElem? (i := 48) rfl)))) (mvT hZ (hw _ (List.mem_of_getElem? (i := 48) rfl))) (mvT hZ (hw _ (List.mem_of_getElem? (i := 47) rfl))) (by decide) (backOf (W := 0) (cpn0 l Z a0 hw [] a b kb zb vl cs cs1 rl h0 n0 Z0 E_a F0 F1 Vb hzb hn hc hrl S3 hcs1 S0 S1 S2) hZ (hw _ (List.mem_of_getElem? (i := 49) rfl)) (hw _ (List.mem_of_getElem? (i := 8) rfl)) (by decide) (by decide)) q_2a q_2c (g := (mkF m 6 #[.val (.ref a)] [(.int rl), (.int (0 : Int32)), (.ref a)])) rfl (by rw [hml]; rfl) (Steps.refl _) (argsL := [(.int (0 : Int32)), (.int rl)]) (rest := []) (lenOf pd_15 rfl) rfl (by show 2 * 0 + _ ≤ _; exact Nat.le_of_eq rfl) (hb hby d24_6) (fun _ _ => ⟨rfl, eh_1, (by decide : 0 + 0 ≤ _), (by decide : 0 + 0 ≤ _)⟩)
  dsimp only [Pt.U, Pt.locs, Pt.cells, Pt.slots] at X_2 l_2 y_2 z_2 st_2 hQ_2
  subst l_2 y_2 z_2
  obtain ⟨rc, rfl, hrc, N_2q, eh_2⟩ := hQ_2
  have N_2 := Fr.app N_1 N_2q
  refine Go.tr st_2 ?_
  show Go p.tables e below P (T_2.setTop (mkF m 9 #[.val (.ref a)] [(.int rc)]))
  exact retGo X_2 hx hP Bd.returns hlk rfl (Or.inl ⟨rfl, Or.inl rfl, _, rfl⟩) (hb hby d24_9) (by decide) (by decide) (by rw [eh_2]; exact ⟨rc, rfl, hrc, N_2, rfl⟩)
theorem d25_0 : decode prog_19_method_4_code 0 = .ok (.aload_n 0, 1) := by decide +kernel
theorem d25_1 : decode prog_19_method_4_code 1 = .ok (.invokestatic 70, 3) := by decide +kernel
theorem d25_4 : decode prog_19_method_4_code 4 = .ok (.istore_n 1, 1) := by decide +kernel
theorem d25_5 : decode prog_19_method_4_code 5 = .ok (.iload_n 1, 1) := by decide +kernel
theorem d25_6 : decode prog_19_method_4_code 6 = .ok (.bipush 8, 2) := by decide +kernel
theorem d25_8 : decode prog_19_method_4_code 8 = .ok (.if_icmp .lt 8, 3) := by decide +kernel
theorem d25_11 : decode prog_19_method_4_code 11 = .ok (.iconst 2, 1) := by decide +kernel
theorem d25_12 : decode prog_19_method_4_code 12 = .ok (.istore_n 2, 1) := by decide +kernel
theorem d25_13 : decode prog_19_method_4_code 13 = .ok (.goto 15, 3) := by decide +kernel
theorem d25_16 : decode prog_19_method_4_code 16 = .ok (.iload_n 1, 1) := by decide +kernel
theorem d25_17 : decode prog_19_method_4_code 17 = .ok (.iconst 4, 1) := by decide +kernel
theorem d25_18 : decode prog_19_method_4_code 18 = .ok (.if_icmp .lt 8, 3) := by decide +kernel
theorem d25_21 : decode prog_19_method_4_code 21 = .ok (.iconst 1, 1) := by decide +kernel
theorem d25_22 : decode prog_19_method_4_code 22 = .ok (.istore_n 2, 1) := by decide +kernel
theorem d25_23 : decode prog_19_method_4_code 23 = .ok (.goto 5, 3) := by decide +kernel
theorem d25_26 : decode prog_19_method_4_code 26 = .ok (.iconst 0, 1) := by decide +kernel
theorem d25_27 : decode prog_19_method_4_code 27 = .ok (.istore_n 2, 1) := by decide +kernel
theorem d25_28 : decode prog_19_method_4_code 28 = .ok (.iload_n 2, 1) := by decide +kernel
theorem d25_29 : decode prog_19_method_4_code 29 = .ok (.ireturn, 1) := by decide +kernel
theorem pn_25 : plainName "com/example/wrasse/wrasse/Words" = true := by first | (simp [plainName, overriddenIn]; done) | decide +kernel
theorem ef_25 (m : MethodId) (x0 : Addr) : entryFrame m #[(.ref x0)] 3 = mkF m 0 #[.val (.ref x0), .unset, .unset] [] := by first | (simp [entryFrame, mkF, argsToLocals, Value.category]; done) | rfl
def Q25 (Z : State) (a : Addr) (b : Addr) (kb : ClassId) (zb : Int32) (vl : List Value) (cs : List Int32) (cs1 : Int32) (h0 : Heap) (n0 : Nat) (v : Option Value) (h : Heap) (L : List Loc) : Prop := ∃ (r : Int32) (q0 : Int), v = some (.int r) ∧ q0 = (cs.length : Int) ∧ ((8 ≤ q0 ∧ r.toInt = 2) ∨ (4 ≤ q0 ∧ q0 < 8 ∧ r.toInt = 1) ∨ (q0 < 4 ∧ r.toInt = 0)) ∧ Fr n0 L ∧ h = h0
set_option maxRecDepth 65536 in
set_option maxHeartbeats 40000000 in
theorem tol0 (l : Launch) (Z : State) (a0 : Array Value) (hw : ∀ d ∈ tables_1, d.before a0 Z = true) (ws : List Jvm.Cond) (a : Addr) (b : Addr) (kb : ClassId) (zb : Int32) (vl : List Value) (cs : List Int32) (cs1 : Int32) (h0 : Heap) (n0 : Nat) (Z0 : n0 ≤ h0.size) (E_a : Exa Z h0 a "java/lang/String") (F0 : Fld Z h0 a "java/lang/String" "value" "[B" (.ref b)) (F1 : Fld Z h0 a "java/lang/String" "coder" "B" (.int (0 : Int32))) (Vb : Arv Z h0 b kb .byte zb vl (.int (0 : Int32))) (hzb : zb.toInt = (cs.length : Int)) (hn : cs.length ≤ 12) (hc : ∀ x ∈ cs, 0 ≤ x.toInt ∧ x.toInt < 65536) (S3 : Sta Z h0 "java/lang/String" "COMPACT_STRINGS" "Z" (.int cs1)) (hcs1 : ¬ cs1.toInt = 0) (S0 : Sta Z h0 "java/lang/StringUTF16" "$assertionsDisabled" "Z" (.int (1 : Int32))) (S1 : Sta Z h0 "java/lang/StringUTF16" "HI_BYTE_SHIFT" "I" (.int (0 : Int32))) (S2 : Sta Z h0 "java/lang/StringUTF16" "LO_BYTE_SHIFT" "I" (.int (8 : Int32))) :
    MetFree l (⟨"com/example/wrasse/wrasse/Words", "toleratedEdits", "(Ljava/lang/String;)I"⟩ : MethodName) (head1 (Jvm.Cond.code (⟨"com/example/wrasse/wrasse/Words", "toleratedEdits", "(Ljava/lang/String;)I"⟩ : MethodName) prog_19_method_4_code 3 (some .int) :: ws) ({ frames := 4, cells := 0, slots := 0, locals := 55 } : Room)) (fun a_ U => a_ = #[(.ref a)] ∧ Z.Warmed39 U.vm ∧ U.heap = h0) (fun _ _ _ _ _ => True) (fun _ U o U' => ∃ v L, o = .returned v ∧ Q25 Z a b kb zb vl cs cs1 h0 n0 v U'.heap L ∧ FrameEnd U o U' L (({ frames := 4, cells := 0, slots := 0, locals := 55 } : Room)).cells (({ frames := 4, cells := 0, slots := 0, locals := 55 } : Room)).slots) := by
  refine MetFree.of_bodySF (plainFor_of_name pn_25) hisR ?_
  intro p e s m args below meth c s₁ Bd hml0 hP0 hK
  obtain ⟨rfl, hZ, hh⟩ := hP0
  have hx := Bd.exec
  have hby := Bd.bytes
  have hml : c.maxLocals = 3 := hml0
  have hown : s.vm.findClass "com/example/wrasse/wrasse/Words" = some m.cls := findClass_of_methodNamed Bd.named
  have hnm := (name_of_methodNamed Bd.named Bd.method).1
  have X0 : Stand p l e ({ frames := 4, cells := 0, slots := 0, locals := 55 } : Room) s m #[(.ref a)] below meth c s₁ [] 0 0 := Stand.of_body Bd
  have e0 : s₁.heap = h0 := by rw [← hh, Bd.state]; rfl
  have N0 := Fr.nil n0
  have hlk : meth.locks = false := BodyLoose.notSynchronized Bd
  refine Go.start (P₀ := fun s₂ o => ∃ v L, o = .returned v ∧ Q25 Z a b kb zb vl cs cs1 h0 n0 v s₂.heap L ∧ FrameEnd s o s₂ L (({ frames := 4, cells := 0, slots := 0, locals := 55 } : Room)).cells (({ frames := 4, cells := 0, slots := 0, locals := 55 } : Room)).slots) (congrArg s₁.setTop (ef_25 m a)) ?_
  intro P hP
  show Go p.tables e below P (s₁.setTop (mkF m 0 #[.val (.ref a), .unset, .unset] []))
  refine Go.step (fun t k => XS.aloadN X0.here hx rfl (hb hby d25_0) rfl rfl k) ?_
  show Go p.tables e below P (s₁.setTop (mkF m 1 #[.val (.ref a), .unset, .unset] [(.ref a)]))
  obtain ⟨_, _, ⟨T_1, L_1, k_1, n_1⟩, -, X_1, ⟨Lc_1, hQ_1, l_1, y_1, z_1⟩, st_1⟩ := Jvm.LawKit.callS X0 hx (y := (⟨"com/example/wrasse/wrasse/Words", "length", "(Ljava/lang/String;)I"⟩ : MethodName)) hown (mvT hZ (hw _ (List.mem_of_getElem? (i := 31) rfl))) (mvT hZ (hw _ (List.mem_of_getElem? (i := 32) rfl))) (mvT hZ (hw _ (List.mem_of_getElem? (i := 29) rfl))) (mvT hZ (hw _ (List.mem_of_getElem? (i := 33) rfl))) (by decide) (backOf (W := 0) (wlen0 l Z a0 hw [] a b kb zb vl cs cs1 h0 n0 Z0 E_a F0 F1 Vb hzb hn hc S3 hcs1 S0 S1 S2) hZ (hw _ (List.mem_of_getElem? (i := 33) rfl)) (hw _ (List.mem_of_getElem? (i := 29) rfl)) (by decide) (by decide)) (g := (mkF m 1 #[.val (.ref a), .unset, .unset] [(.ref a)])) rfl (by rw [hml]; rfl) (argsL := [(.ref a)]) (rest := []) (lenOf pd_16 rfl) rfl (by show 2 * 0 + _ ≤ _; exact Nat.le_of_eq rfl) (hb hby d25_1) (fun _ _ => ⟨rfl, e0, (by decide : 0 + 0 ≤ _), (by decide : 0 + 0 ≤ _)⟩)
  dsimp only [Pt.U, Pt.locs, Pt.cells, Pt.slots] at X_1 l_1 y_1 z_1 st_1 hQ_1
  subst l_1 y_1 z_1
  obtain ⟨rc, rfl, hrc, N_1q, eh_1⟩ := hQ_1
  have N_1 := Fr.app N0 N_1q
  refine Go.step (fun t k => st_1 t k) ?_
  show Go p.tables e below P (T_1.setTop (mkF m 4 #[.val (.ref a), .unset, .unset] [(.int rc)]))
  refine Go.step (fun t k => XS.istoreN X_1.here hx rfl (hb hby d25_4) rfl (l' := #[.val (.ref a), .val (.int rc), .unset]) rfl k) ?_
  show Go p.tables e below P (T_1.setTop (mkF m 5 #[.val (.ref a), .val (.int rc), .unset] []))
  refine Go.step (fun t k => XS.iloadN X_1.here hx rfl (hb hby d25_5) rfl  k) ?_
  show Go p.tables e below P (T_1.setTop (mkF m 6 #[.val (.ref a), .val (.int rc), .unset] [(.int rc)]))
  refine Go.step (fun t k => XS.bipush X_1.here hx rfl (hb hby d25_6) k) ?_
  show Go p.tables e below P (T_1.setTop (mkF m 8 #[.val (.ref a), .val (.int rc), .unset] [(.int (8 : Int32)), (.int rc)]))
  by_cases hc8 : rc.toInt < (8 : Int)
  · refine Go.step (fun t k => XS.icmpYes X_1.here hx rfl (pc0 := 8) (pc' := 16) rfl (hb hby d25_8) rfl (icY (cd := .lt) hc8) (by decide) (by decide) k) ?_
    show Go p.tables e below P (T_1.setTop (mkF m 16 #[.val (.ref a), .val (.int rc), .unset] []))
    refine Go.step (fun t k => XS.iloadN X_1.here hx rfl (hb hby d25_16) rfl  k) ?_
    show Go p.tables e below P (T_1.setTop (mkF m 17 #[.val (.ref a), .val (.int rc), .unset] [(.int rc)]))
    refine Go.step (fun t k => XS.iconst X_1.here hx rfl (hb hby d25_17) k) ?_
    show Go p.tables e below P (T_1.setTop (mkF m 18 #[.val (.ref a), .val (.int rc), .unset] [(.int (4 : Int32)), (.int rc)]))
    by_cases hc18 : rc.toInt < (4 : Int)
    · refine Go.step (fun t k => XS.icmpYes X_1.here hx rfl (pc0 := 18) (pc' := 26) rfl (hb hby d25_18) rfl (icY (cd := .lt) hc18) (by decide) (by decide) k) ?_
      show Go p.tables e below P (T_1.setTop (mkF m 26 #[.val (.ref a), .val (.int rc), .unset] []))
      refine Go.step (fun t k => XS.iconst X_1.here hx rfl (hb hby d25_26) k) ?_
      show Go p.tables e below P (T_1.setTop (mkF m 27 #[.val (.ref a), .val (.int rc), .unset] [(.int (0 : Int32))]))
      refine Go.step (fun t k => XS.istoreN X_1.here hx rfl (hb hby d25_27) rfl (l' := #[.val (.ref a), .val (.int rc), .val (.int (0 : Int32))]) rfl k) ?_
      show Go p.tables e below P (T_1.setTop (mkF m 28 #[.val (.ref a), .val (.int rc), .val (.int (0 : Int32))] []))
      refine Go.step (fun t k => XS.iloadN X_1.here hx rfl (hb hby d25_28) rfl  k) ?_
      show Go p.tables e below P (T_1.setTop (mkF m 29 #[.val (.ref a), .val (.int rc), .val (.int (0 : Int32))] [(.int (0 : Int32))]))
      exact retGo X_1 hx hP Bd.returns hlk rfl (Or.inl ⟨rfl, Or.inl rfl, _, rfl⟩) (hb hby d25_29) (by decide) (by decide) (by rw [eh_1]; exact ⟨(0 : Int32), _, rfl, rfl, by have e2 : (2 : Int32).toInt = 2 := rfl; have e1 : (1 : Int32).toInt = 1 := rfl; have e0 : (0 : Int32).toInt = 0 := rfl; omega, N_1, rfl⟩)
    · refine Go.step (fun t k => XS.icmpNo X_1.here hx rfl (hb hby d25_18) rfl (icN (cd := .lt) hc18) k) ?_
      show Go p.tables e below P (T_1.setTop (mkF m 21 #[.val (.ref a), .val (.int rc), .unset] []))
      refine Go.step (fun t k => XS.iconst X_1.here hx rfl (hb hby d25_21) k) ?_
      show Go p.tables e below P (T_1.setTop (mkF m 22 #[.val (.ref a), .val (.int rc), .unset] [(.int (1 : Int32))]))
      refine Go.step (fun t k => XS.istoreN X_1.here hx rfl (hb hby d25_22) rfl (l' := #[.val (.ref a), .val (.int rc), .val (.int (1 : Int32))]) rfl k) ?_
      show Go p.tables e below P (T_1.setTop (mkF m 23 #[.val (.ref a), .val (.int rc), .val (.int (1 : Int32))] []))
      refine Go.step (fun t k => XS.goto X_1.here hx rfl (pc0 := 23) (pc' := 28) rfl (hb hby d25_23) (by decide) (by decide) k) ?_
      show Go p.tables e below P (T_1.setTop (mkF m 28 #[.val (.ref a), .val (.int rc), .val (.int (1 : Int32))] []))
      refine Go.step (fun t k => XS.iloadN X_1.here hx rfl (hb hby d25_28) rfl  k) ?_
      show Go p.tables e below P (T_1.setTop (mkF m 29 #[.val (.ref a), .val (.int rc), .val (.int (1 : Int32))] [(.int (1 : Int32))]))
      exact retGo X_1 hx hP Bd.returns hlk rfl (Or.inl ⟨rfl, Or.inl rfl, _, rfl⟩) (hb hby d25_29) (by decide) (by decide) (by rw [eh_1]; exact ⟨(1 : Int32), _, rfl, rfl, by have e2 : (2 : Int32).toInt = 2 := rfl; have e1 : (1 : Int32).toInt = 1 := rfl; have e0 : (0 : Int32).toInt = 0 := rfl; omega, N_1, rfl⟩)
  · refine Go.step (fun t k => XS.icmpNo X_1.here hx rfl (hb hby d25_8) rfl (icN (cd := .lt) hc8) k) ?_
    show Go p.tables e below P (T_1.setTop (mkF m 11 #[.val (.ref a), .val (.int rc), .unset] []))
    refine Go.step (fun t k => XS.iconst X_1.here hx rfl (hb hby d25_11) k) ?_
    show Go p.tables e below P (T_1.setTop (mkF m 12 #[.val (.ref a), .val (.int rc), .unset] [(.int (2 : Int32))]))
    refine Go.step (fun t k => XS.istoreN X_1.here hx rfl (hb hby d25_12) rfl (l' := #[.val (.ref a), .val (.int rc), .val (.int (2 : Int32))]) rfl k) ?_
    show Go p.tables e below P (T_1.setTop (mkF m 13 #[.val (.ref a), .val (.int rc), .val (.int (2 : Int32))] []))
    refine Go.step (fun t k => XS.goto X_1.here hx rfl (pc0 := 13) (pc' := 28) rfl (hb hby d25_13) (by decide) (by decide) k) ?_
    show Go p.tables e below P (T_1.setTop (mkF m 28 #[.val (.ref a), .val (.int rc), .val (.int (2 : Int32))] []))
    refine Go.step (fun t k => XS.iloadN X_1.here hx rfl (hb hby d25_28) rfl  k) ?_
    show Go p.tables e below P (T_1.setTop (mkF m 29 #[.val (.ref a), .val (.int rc), .val (.int (2 : Int32))] [(.int (2 : Int32))]))
    exact retGo X_1 hx hP Bd.returns hlk rfl (Or.inl ⟨rfl, Or.inl rfl, _, rfl⟩) (hb hby d25_29) (by decide) (by decide) (by rw [eh_1]; exact ⟨(2 : Int32), _, rfl, rfl, by have e2 : (2 : Int32).toInt = 2 := rfl; have e1 : (1 : Int32).toInt = 1 := rfl; have e0 : (0 : Int32).toInt = 0 := rfl; omega, N_1, rfl⟩)
theorem d30_0 : decode jdk_42_method_152_code 0 = .ok (.getstatic 38, 3) := by decide +kernel
theorem d30_3 : decode jdk_42_method_152_code 3 = .ok (.ifCond .eq 10, 3) := by decide +kernel
theorem d30_6 : decode jdk_42_method_152_code 6 = .ok (.aload_n 0, 1) := by decide +kernel
theorem d30_7 : decode jdk_42_method_152_code 7 = .ok (.getfield 15, 3) := by decide +kernel
theorem d30_10 : decode jdk_42_method_152_code 10 = .ok (.goto 4, 3) := by decide +kernel
theorem d30_14 : decode jdk_42_method_152_code 14 = .ok (.ireturn, 1) := by decide +kernel
theorem pn_30 : plainName "java/lang/String" = true := by first | (simp [plainName, overriddenIn]; done) | decide +kernel
theorem ef_30 (m : MethodId) (x0 : Addr) : entryFrame m #[(.ref x0)] 1 = mkF m 0 #[.val (.ref x0)] [] := by first | (simp [entryFrame, mkF, argsToLocals, Value.category]; done) | rfl
def Q30 (Z : State) (a : Addr) (cs1 : Int32) (h0 : Heap) (n0 : Nat) (v : Option Value) (h : Heap) (L : List Loc) : Prop := v = some (.int (1 : Int32)) ∧ Fr n0 L ∧ h = h0
set_option maxRecDepth 65536 in
set_option maxHeartbeats 40000000 in
theorem coder1 (l : Launch) (Z : State) (a0 : Array Value) (hw : ∀ d ∈ tables_1, d.before a0 Z = true) (ws : List Jvm.Cond) (a : Addr) (cs1 : Int32) (h0 : Heap) (n0 : Nat) (Z0 : n0 ≤ h0.size) (F1 : Fld Z h0 a "java/lang/String" "coder" "B" (.int (1 : Int32))) (S3 : Sta Z h0 "java/lang/String" "COMPACT_STRINGS" "Z" (.int cs1)) (hcs1 : ¬ cs1.toInt = 0) :
    MetFree l (⟨"java/lang/String", "coder", "()B"⟩ : MethodName) (head1 (Jvm.Cond.code (⟨"java/lang/String", "coder", "()B"⟩ : MethodName) jdk_42_method_152_code 1 (some .byte) :: ws) ({ frames := 0, cells := 0, slots := 0, locals := 0 } : Room)) (fun a_ U => a_ = #[(.ref a)] ∧ Z.Warmed39 U.vm ∧ U.heap = h0) (fun _ _ _ _ _ => True) (fun _ U o U' => ∃ v L, o = .returned v ∧ Q30 Z a cs1 h0 n0 v U'.heap L ∧ FrameEnd U o U' L (({ frames := 0, cells := 0, slots := 0, locals := 0 } : Room)).cells (({ frames := 0, cells := 0, slots := 0, locals := 0 } : Room)).slots) := by
  refine MetFree.of_bodySF (plainFor_of_name pn_30) hisR ?_
  intro p e s m args below meth c s₁ Bd hml0 hP0 hK
  obtain ⟨rfl, hZ, hh⟩ := hP0
  have hx := Bd.exec
  have hby := Bd.bytes
  have hml : c.maxLocals = 1 := hml0
  have hown : s.vm.findClass "java/lang/String" = some m.cls := findClass_of_methodNamed Bd.named
  have hnm := (name_of_methodNamed Bd.named Bd.method).1
  have X0 : Stand p l e ({ frames := 0, cells := 0, slots := 0, locals := 0 } : Room) s m #[(.ref a)] below meth c s₁ [] 0 0 := Stand.of_body Bd
  have e0 : s₁.heap = h0 := by rw [← hh, Bd.state]; rfl
  have N0 := Fr.nil n0
  have hlk : meth.locks = false := BodyLoose.notSynchronized Bd
  refine Go.start (P₀ := fun s₂ o => ∃ v L, o = .returned v ∧ Q30 Z a cs1 h0 n0 v s₂.heap L ∧ FrameEnd s o s₂ L (({ frames := 0, cells := 0, slots := 0, locals := 0 } : Room)).cells (({ frames := 0, cells := 0, slots := 0, locals := 0 } : Room)).slots) (congrArg s₁.setTop (ef_30 m a)) ?_
  intro P hP
  show Go p.tables e below P (s₁.setTop (mkF m 0 #[.val (.ref a)] []))
  obtain ⟨T_1, X_1, e_1, st_1⟩ := getS2 X0 hx hZ hown (host := "") (Or.inl (hw _ (List.mem_of_getElem? (i := 44) rfl))) Via.refl e0 (Sta_keepX S3 (Keep.refl h0 []) ns0_) (g := (mkF m 0 #[.val (.ref a)] [])) rfl (hb hby d30_0)
  refine Go.step (fun t k => st_1 t k) ?_
  show Go p.tables e below P (T_1.setTop (mkF m 3 #[.val (.ref a)] [(.int cs1)]))
  refine Go.step (fun t k => XS.ifNo X_1.here hx rfl (hb hby d30_3) rfl (ifN (cd := .eq) hcs1) k) ?_
  show Go p.tables e below P (T_1.setTop (mkF m 6 #[.val (.ref a)] []))
  refine Go.step (fun t k => XS.aloadN X_1.here hx rfl (hb hby d30_6) rfl rfl k) ?_
  show Go p.tables e below P (T_1.setTop (mkF m 7 #[.val (.ref a)] [(.ref a)]))
  obtain ⟨T_2, X_2, e_2, st_2⟩ := getF X_1 hx hZ hown (host := "") (Or.inl (hw _ (List.mem_of_getElem? (i := 26) rfl))) Via.refl e_1 F1 (g := (mkF m 7 #[.val (.ref a)] [(.ref a)])) rfl rfl (hb hby d30_7)
  refine Go.step (fun t k => st_2 t k) ?_
  show Go p.tables e below P (T_2.setTop (mkF m 10 #[.val (.ref a)] [(.int (1 : Int32))]))
  refine Go.step (fun t k => XS.goto X_2.here hx rfl (pc0 := 10) (pc' := 14) rfl (hb hby d30_10) (by decide) (by decide) k) ?_
  show Go p.tables e below P (T_2.setTop (mkF m 14 #[.val (.ref a)] [(.int (1 : Int32))]))
  exact retGo X_2 hx hP Bd.returns hlk rfl (Or.inl ⟨rfl, Or.inr (Or.inr (Or.inl rfl)), _, rfl⟩) (hb hby d30_14) (by decide) (by decide) (by rw [e_2]; exact ⟨rfl, N0, rfl⟩)
theorem d31_0 : decode jdk_42_method_154_code 0 = .ok (.getstatic 38, 3) := by decide +kernel
theorem d31_3 : decode jdk_42_method_154_code 3 = .ok (.ifCond .eq 14, 3) := by decide +kernel
theorem d31_6 : decode jdk_42_method_154_code 6 = .ok (.aload_n 0, 1) := by decide +kernel
theorem d31_7 : decode jdk_42_method_154_code 7 = .ok (.getfield 15, 3) := by decide +kernel
theorem d31_10 : decode jdk_42_method_154_code 10 = .ok (.ifCond .ne 7, 3) := by decide +kernel
theorem d31_17 : decode jdk_42_method_154_code 17 = .ok (.iconst 0, 1) := by decide +kernel
theorem d31_18 : decode jdk_42_method_154_code 18 = .ok (.ireturn, 1) := by decide +kernel
theorem pn_31 : plainName "java/lang/String" = true := by first | (simp [plainName, overriddenIn]; done) | decide +kernel
theorem ef_31 (m : MethodId) (x0 : Addr) : entryFrame m #[(.ref x0)] 1 = mkF m 0 #[.val (.ref x0)] [] := by first | (simp [entryFrame, mkF, argsToLocals, Value.category]; done) | rfl
def Q31 (Z : State) (a : Addr) (cs1 : Int32) (h0 : Heap) (n0 : Nat) (v : Option Value) (h : Heap) (L : List Loc) : Prop := v = some (.int (0 : Int32)) ∧ Fr n0 L ∧ h = h0
set_option maxRecDepth 65536 in
set_option maxHeartbeats 40000000 in
theorem isl1 (l : Launch) (Z : State) (a0 : Array Value) (hw : ∀ d ∈ tables_1, d.before a0 Z = true) (ws : List Jvm.Cond) (a : Addr) (cs1 : Int32) (h0 : Heap) (n0 : Nat) (Z0 : n0 ≤ h0.size) (F1 : Fld Z h0 a "java/lang/String" "coder" "B" (.int (1 : Int32))) (S3 : Sta Z h0 "java/lang/String" "COMPACT_STRINGS" "Z" (.int cs1)) (hcs1 : ¬ cs1.toInt = 0) :
    MetFree l (⟨"java/lang/String", "isLatin1", "()Z"⟩ : MethodName) (head1 (Jvm.Cond.code (⟨"java/lang/String", "isLatin1", "()Z"⟩ : MethodName) jdk_42_method_154_code 1 (some .boolean) :: ws) ({ frames := 0, cells := 0, slots := 0, locals := 0 } : Room)) (fun a_ U => a_ = #[(.ref a)] ∧ Z.Warmed39 U.vm ∧ U.heap = h0) (fun _ _ _ _ _ => True) (fun _ U o U' => ∃ v L, o = .returned v ∧ Q31 Z a cs1 h0 n0 v U'.heap L ∧ FrameEnd U o U' L (({ frames := 0, cells := 0, slots := 0, locals := 0 } : Room)).cells (({ frames := 0, cells := 0, slots := 0, locals := 0 } : Room)).slots) := by
  refine MetFree.of_bodySF (plainFor_of_name pn_31) hisR ?_
  intro p e s m args below meth c s₁ Bd hml0 hP0 hK
  obtain ⟨rfl, hZ, hh⟩ := hP0
  have hx := Bd.exec
  have hby := Bd.bytes
  have hml : c.maxLocals = 1 := hml0
  have hown : s.vm.findClass "java/lang/String" = some m.cls := findClass_of_methodNamed Bd.named
  have hnm := (name_of_methodNamed Bd.named Bd.method).1
  have X0 : Stand p l e ({ frames := 0, cells := 0, slots := 0, locals := 0 } : Room) s m #[(.ref a)] below meth c s₁ [] 0 0 := Stand.of_body Bd
  have e0 : s₁.heap = h0 := by rw [← hh, Bd.state]; rfl
  have N0 := Fr.nil n0
  have hlk : meth.locks = false := BodyLoose.notSynchronized Bd
  refine Go.start (P₀ := fun s₂ o => ∃ v L, o = .returned v ∧ Q31 Z a cs1 h0 n0 v s₂.heap L ∧ FrameEnd s o s₂ L (({ frames := 0, cells := 0, slots := 0, locals := 0 } : Room)).cells (({ frames := 0, cells := 0, slots := 0, locals := 0 } : Room)).slots) (congrArg s₁.setTop (ef_31 m a)) ?_
  intro P hP
  show Go p.tables e below P (s₁.setTop (mkF m 0 #[.val (.ref a)] []))
  obtain ⟨T_1, X_1, e_1, st_1⟩ := getS2 X0 hx hZ hown (host := "") (Or.inl (hw _ (List.mem_of_getElem? (i := 44) rfl))) Via.refl e0 (Sta_keepX S3 (Keep.refl h0 []) ns0_) (g := (mkF m 0 #[.val (.ref a)] [])) rfl (hb hby d31_0)
  refine Go.step (fun t k => st_1 t k) ?_
  show Go p.tables e below P (T_1.setTop (mkF m 3 #[.val (.ref a)] [(.int cs1)]))
  refine Go.step (fun t k => XS.ifNo X_1.here hx rfl (hb hby d31_3) rfl (ifN (cd := .eq) hcs1) k) ?_
  show Go p.tables e below P (T_1.setTop (mkF m 6 #[.val (.ref a)] []))
  refine Go.step (fun t k => XS.aloadN X_1.here hx rfl (hb hby d31_6) rfl rfl k) ?_
  show Go p.tables e below P (T_1.setTop (mkF m 7 #[.val (.ref a)] [(.ref a)]))
  obtain ⟨T_2, X_2, e_2, st_2⟩ := getF X_1 hx hZ hown (host := "") (Or.inl (hw _ (List.mem_of_getElem? (i := 26) rfl))) Via.refl e_1 F1 (g := (mkF m 7 #[.val (.ref a)] [(.ref a)])) rfl rfl (hb hby d31_7)
  refine Go.step (fun t k => st_2 t k) ?_
  show Go p.tables e below P (T_2.setTop (mkF m 10 #[.val (.ref a)] [(.int (1 : Int32))]))
  refine Go.step (fun t k => XS.ifYes X_2.here hx rfl (pc0 := 10) (pc' := 17) rfl (hb hby d31_10) rfl (ifY (cd := .ne) (by decide : ¬ (1 : Int) = 0)) (by decide) (by decide) k) ?_
  show Go p.tables e below P (T_2.setTop (mkF m 17 #[.val (.ref a)] []))
  refine Go.step (fun t k => XS.iconst X_2.here hx rfl (hb hby d31_17) k) ?_
  show Go p.tables e below P (T_2.setTop (mkF m 18 #[.val (.ref a)] [(.int (0 : Int32))]))
  exact retGo X_2 hx hP Bd.returns hlk rfl (Or.inl ⟨rfl, Or.inr (Or.inl rfl), _, rfl⟩) (hb hby d31_18) (by decide) (by decide) (by rw [e_2]; exact ⟨rfl, N0, rfl⟩)
theorem d32_0 : decode jdk_42_method_54_code 0 = .ok (.aload_n 0, 1) := by decide +kernel
theorem d32_1 : decode jdk_42_method_54_code 1 = .ok (.getfield 9, 3) := by decide +kernel
theorem d32_4 : decode jdk_42_method_54_code 4 = .ok (.arraylength, 1) := by decide +kernel
theorem d32_5 : decode jdk_42_method_54_code 5 = .ok (.aload_n 0, 1) := by decide +kernel
theorem d32_6 : decode jdk_42_method_54_code 6 = .ok (.invokevirtual 335, 3) := by decide +kernel
theorem d32_9 : decode jdk_42_method_54_code 9 = .ok (.ishr, 1) := by decide +kernel
theorem d32_10 : decode jdk_42_method_54_code 10 = .ok (.ireturn, 1) := by decide +kernel
theorem pn_32 : plainName "java/lang/String" = true := by first | (simp [plainName, overriddenIn]; done) | decide +kernel
theorem ef_32 (m : MethodId) (x0 : Addr) : entryFrame m #[(.ref x0)] 1 = mkF m 0 #[.val (.ref x0)] [] := by first | (simp [entryFrame, mkF, argsToLocals, Value.category]; done) | rfl
def Q32 (Z : State) (a : Addr) (b : Addr) (kb : ClassId) (zb : Int32) (vl : List Value) (cs : List Int32) (cs1 : Int32) (h0 : Heap) (n0 : Nat) (v : Option Value) (h : Heap) (L : List Loc) : Prop := ∃ r : Int32, v = some (.int r) ∧ r.toInt = (cs.length : Int) ∧ Fr n0 L ∧ h = h0
set_option maxRecDepth 65536 in
set_option maxHeartbeats 40000000 in
theorem len1 (l : Launch) (Z : State) (a0 : Array Value) (hw : ∀ d ∈ tables_1, d.before a0 Z = true) (ws : List Jvm.Cond) (a : Addr) (b : Addr) (kb : ClassId) (zb : Int32) (vl : List Value) (cs : List Int32) (cs1 : Int32) (h0 : Heap) (n0 : Nat) (Z0 : n0 ≤ h0.size) (E_a : Exa Z h0 a "java/lang/String") (F0 : Fld Z h0 a "java/lang/String" "value" "[B" (.ref b)) (F1 : Fld Z h0 a "java/lang/String" "coder" "B" (.int (1 : Int32))) (Vb : Arv Z h0 b kb .byte zb (enc cs) (.int (0 : Int32))) (hzb : zb.toInt = 2 * (cs.length : Int)) (hn : cs.length ≤ 12) (hc : ∀ x ∈ cs, 0 ≤ x.toInt ∧ x.toInt < 65536) (S3 : Sta Z h0 "java/lang/String" "COMPACT_STRINGS" "Z" (.int cs1)) (hcs1 : ¬ cs1.toInt = 0) :
    MetFree l (⟨"java/lang/String", "length", "()I"⟩ : MethodName) (head1 (Jvm.Cond.code (⟨"java/lang/String", "length", "()I"⟩ : MethodName) jdk_42_method_54_code 1 (some .int) :: ws) ({ frames := 1, cells := 0, slots := 0, locals := 13 } : Room)) (fun a_ U => a_ = #[(.ref a)] ∧ Z.Warmed39 U.vm ∧ U.heap = h0) (fun _ _ _ _ _ => True) (fun _ U o U' => ∃ v L, o = .returned v ∧ Q32 Z a b kb zb vl cs cs1 h0 n0 v U'.heap L ∧ FrameEnd U o U' L (({ frames := 1, cells := 0, slots := 0, locals := 13 } : Room)).cells (({ frames := 1, cells := 0, slots := 0, locals := 13 } : Room)).slots) := by
  refine MetFree.of_bodySF (plainFor_of_name pn_32) hisR ?_
  intro p e s m args below meth c s₁ Bd hml0 hP0 hK
  obtain ⟨rfl, hZ, hh⟩ := hP0
  have hx := Bd.exec
  have hby := Bd.bytes
  have hml : c.maxLocals = 1 := hml0
  have hown : s.vm.findClass "java/lang/String" = some m.cls := findClass_of_methodNamed Bd.named
  have hnm := (name_of_methodNamed Bd.named Bd.method).1
  have X0 : Stand p l e ({ frames := 1, cells := 0, slots := 0, locals := 13 } : Room) s m #[(.ref a)] below meth c s₁ [] 0 0 := Stand.of_body Bd
  have e0 : s₁.heap = h0 := by rw [← hh, Bd.state]; rfl
  have N0 := Fr.nil n0
  have hlk : meth.locks = false := BodyLoose.notSynchronized Bd
  refine Go.start (P₀ := fun s₂ o => ∃ v L, o = .returned v ∧ Q32 Z a b kb zb vl cs cs1 h0 n0 v s₂.heap L ∧ FrameEnd s o s₂ L (({ frames := 1, cells := 0, slots := 0, locals := 13 } : Room)).cells (({ frames := 1, cells := 0, slots := 0, locals := 13 } : Room)).slots) (congrArg s₁.setTop (ef_32 m a)) ?_
  intro P hP
  show Go p.tables e below P (s₁.setTop (mkF m 0 #[.val (.ref a)] []))
  refine Go.step (fun t k => XS.aloadN X0.here hx rfl (hb hby d32_0) rfl rfl k) ?_
  show Go p.tables e below P (s₁.setTop (mkF m 1 #[.val (.ref a)] [(.ref a)]))
  obtain ⟨T_1, X_1, e_1, st_1⟩ := getF X0 hx hZ hown (host := "") (Or.inl (hw _ (List.mem_of_getElem? (i := 25) rfl))) Via.refl e0 F0 (g := (mkF m 1 #[.val (.ref a)] [(.ref a)])) rfl rfl (hb hby d32_1)
  refine Go.step (fun t k => st_1 t k) ?_
  show Go p.tables e below P (T_1.setTop (mkF m 4 #[.val (.ref a)] [(.ref b)]))
  have vq_2 := Vb
  obtain ⟨cl_2, Ar_2, q_2, S_2, Nn_2, H_2, G_2⟩ := vq_2
  refine Go.step (fun t k => X_1.arraylength hx (by rw [e_1]; exact Ar_2.1) (State.isArrayOf_alike hZ.alike Ar_2.2.1) (g := (mkF m 4 #[.val (.ref a)] [(.ref b)])) rfl rfl (hb hby d32_4) t k) ?_
  rw [len_of S_2 Nn_2]
  show Go p.tables e below P (T_1.setTop (mkF m 5 #[.val (.ref a)] [(.int zb)]))
  refine Go.step (fun t k => XS.aloadN X_1.here hx rfl (hb hby d32_5) rfl rfl k) ?_
  show Go p.tables e below P (T_1.setTop (mkF m 6 #[.val (.ref a)] [(.ref a), (.int zb)]))
  obtain ⟨cq_3, kq_3, q_3a, q_3b, q_3c⟩ := isOf hZ e_1 E_a
  obtain ⟨_, _, ⟨T_3, L_3, k_3, n_3⟩, -, X_3, ⟨Lc_3, hQ_3, l_3, y_3, z_3⟩, st_3⟩ := X_1.virtualBack hx (y := (⟨"java/lang/String", "coder", "()B"⟩ : MethodName)) (z := (⟨"java/lang/String", "coder", "()B"⟩ : MethodName)) hown (mvT hZ (hw _ (List.mem_of_getElem? (i := 39) rfl))) (mvT hZ (hw _ (List.mem_of_getElem? (i := 40) rfl))) (notFace_of_selects (args := #[]) (mvT hZ (hw _ (List.mem_of_getElem? (i := 42) rfl)))) (mvT hZ (hw _ (List.mem_of_getElem? (i := 42) rfl))) (mvT hZ (hw _ (List.mem_of_getElem? (i := 41) rfl))) (by decide) (backOf (W := 1) (coder1 l Z a0 hw [] a cs1 h0 n0 Z0 F1 S3 hcs1) hZ (hw _ (List.mem_of_getElem? (i := 43) rfl)) (hw _ (List.mem_of_getElem? (i := 8) rfl)) (by decide) (by decide)) q_3a q_3c (g := (mkF m 6 #[.val (.ref a)] [(.ref a), (.int zb)])) rfl (by rw [hml]; rfl) (Steps.refl _) (argsL := []) (rest := [(.int zb)]) (lenOf pd_11 rfl) rfl (by show 2 * 0 + _ ≤ _; exact Nat.le_of_eq rfl) (hb hby d32_6) (fun _ _ => ⟨rfl, e_1, (by decide : 0 + 0 ≤ _), (by decide : 0 + 0 ≤ _)⟩)
  dsimp only [Pt.U, Pt.locs, Pt.cells, Pt.slots] at X_3 l_3 y_3 z_3 st_3 hQ_3
  subst l_3 y_3 z_3
  obtain ⟨rfl, N_3q, eh_3⟩ := hQ_3
  have N_3 := Fr.app N0 N_3q
  refine Go.tr st_3 ?_
  show Go p.tables e below P (T_3.setTop (mkF m 9 #[.val (.ref a)] [(.int (1 : Int32)), (.int zb)]))
  obtain ⟨i9, hi9⟩ : ∃ z : Int32, (zb >>> ((1 : Int32) &&& 31)) = z := ⟨_, rfl⟩
  refine Go.step (fun t k => ishr_v X_3.here hx rfl (hb hby d32_9) rfl  hi9 k) ?_
  show Go p.tables e below P (T_3.setTop (mkF m 10 #[.val (.ref a)] [(.int i9)]))
  have f9 := c_ishr zb (1 : Int32) 1 rfl; rw [hi9] at f9
  exact retGo X_3 hx hP Bd.returns hlk rfl (Or.inl ⟨rfl, Or.inl rfl, _, rfl⟩) (hb hby d32_10) (by decide) (by decide) (by rw [eh_3]; exact ⟨i9, rfl, by omega, N_3, rfl⟩)
theorem d33_0 : decode jdk_42_method_59_code 0 = .ok (.iload_n 1, 1) := by decide +kernel
theorem d33_1 : decode jdk_42_method_59_code 1 = .ok (.iload_n 2, 1) := by decide +kernel
theorem d33_2 : decode jdk_42_method_59_code 2 = .ok (.aload_n 0, 1) := by decide +kernel
theorem d33_3 : decode jdk_42_method_59_code 3 = .ok (.invokevirtual 505, 3) := by decide +kernel
theorem d33_6 : decode jdk_42_method_59_code 6 = .ok (.invokestatic 511, 3) := by decide +kernel
theorem d33_9 : decode jdk_42_method_59_code 9 = .ok (.pop, 1) := by decide +kernel
theorem d33_10 : decode jdk_42_method_59_code 10 = .ok (.aload_n 0, 1) := by decide +kernel
theorem d33_11 : decode jdk_42_method_59_code 11 = .ok (.invokevirtual 492, 3) := by decide +kernel
theorem d33_14 : decode jdk_42_method_59_code 14 = .ok (.ifCond .eq 7, 3) := by decide +kernel
theorem d33_21 : decode jdk_42_method_59_code 21 = .ok (.aload_n 0, 1) := by decide +kernel
theorem d33_22 : decode jdk_42_method_59_code 22 = .ok (.getfield 9, 3) := by decide +kernel
theorem d33_25 : decode jdk_42_method_59_code 25 = .ok (.iload_n 1, 1) := by decide +kernel
theorem d33_26 : decode jdk_42_method_59_code 26 = .ok (.iload_n 2, 1) := by decide +kernel
theorem d33_27 : decode jdk_42_method_59_code 27 = .ok (.invokestatic 514, 3) := by decide +kernel
theorem d33_30 : decode jdk_42_method_59_code 30 = .ok (.ireturn, 1) := by decide +kernel
theorem pn_33 : plainName "java/lang/String" = true := by first | (simp [plainName, overriddenIn]; done) | decide +kernel
theorem ef_33 (m : MethodId) (x0 : Addr) (x1 : Int32) (x2 : Int32) : entryFrame m #[(.ref x0), (.int x1), (.int x2)] 3 = mkF m 0 #[.val (.ref x0), .val (.int x1), .val (.int x2)] [] := by first | (simp [entryFrame, mkF, argsToLocals, Value.category]; done) | rfl
def Q33 (Z : State) (a : Addr) (b : Addr) (kb : ClassId) (zb : Int32) (vl : List Value) (cs : List Int32) (cs1 : Int32) (zn : Int32) (h0 : Heap) (n0 : Nat) (v : Option Value) (h : Heap) (L : List Loc) : Prop := ∃ r : Int32, v = some (.int r) ∧ r.toInt = cpc cs ∧ Fr n0 L ∧ h = h0
set_option maxRecDepth 65536 in
set_option maxHeartbeats 40000000 in
theorem cpn1 (l : Launch) (Z : State) (a0 : Array Value) (hw : ∀ d ∈ tables_1, d.before a0 Z = true) (ws : List Jvm.Cond) (a : Addr) (b : Addr) (kb : ClassId) (zb : Int32) (vl : List Value) (cs : List Int32) (cs1 : Int32) (zn : Int32) (h0 : Heap) (n0 : Nat) (Z0 : n0 ≤ h0.size) (E_a : Exa Z h0 a "java/lang/String") (F0 : Fld Z h0 a "java/lang/String" "value" "[B" (.ref b)) (F1 : Fld Z h0 a "java/lang/String" "coder" "B" (.int (1 : Int32))) (Vb : Arv Z h0 b kb .byte zb (enc cs) (.int (0 : Int32))) (hzb : zb.toInt = 2 * (cs.length : Int)) (hn : cs.length ≤ 12) (hc : ∀ x ∈ cs, 0 ≤ x.toInt ∧ x.toInt < 65536) (hz : zn.toInt = (cs.length : Int)) (S3 : Sta Z h0 "java/lang/String" "COMPACT_STRINGS" "Z" (.int cs1)) (hcs1 : ¬ cs1.toInt = 0) (S0 : Sta Z h0 "java/lang/StringUTF16" "$assertionsDisabled" "Z" (.int (1 : Int32))) (S1 : Sta Z h0 "java/lang/StringUTF16" "HI_BYTE_SHIFT" "I" (.int (0 : Int32))) (S2 : Sta Z h0 "java/lang/StringUTF16" "LO_BYTE_SHIFT" "I" (.int (8 : Int32))) :
    MetFree l (⟨"java/lang/String", "codePointCount", "(II)I"⟩ : MethodName) (head1 (Jvm.Cond.code (⟨"java/lang/String", "codePointCount", "(II)I"⟩ : MethodName) jdk_42_method_59_code 3 (some .int) :: ws) ({ frames := 3, cells := 0, slots := 0, locals := 44 } : Room)) (fun a_ U => a_ = #[(.ref a), (.int (0 : Int32)), (.int zn)] ∧ Z.Warmed39 U.vm ∧ U.heap = h0) (fun _ _ _ _ _ => True) (fun _ U o U' => ∃ v L, o = .returned v ∧ Q33 Z a b kb zb vl cs cs1 zn h0 n0 v U'.heap L ∧ FrameEnd U o U' L (({ frames := 3, cells := 0, slots := 0, locals := 44 } : Room)).cells (({ frames := 3, cells := 0, slots := 0, locals := 44 } : Room)).slots) := by
  refine MetFree.of_bodySF (plainFor_of_name pn_33) hisR ?_
  intro p e s m args below meth c s₁ Bd hml0 hP0 hK
  obtain ⟨rfl, hZ, hh⟩ := hP0
  have hx := Bd.exec
  have hby := Bd.bytes
  have hml : c.maxLocals = 3 := hml0
  have hown : s.vm.findClass "java/lang/String" = some m.cls := findClass_of_methodNamed Bd.named
  have hnm := (name_of_methodNamed Bd.named Bd.method).1
  have X0 : Stand p l e ({ frames := 3, cells := 0, slots := 0, locals := 44 } : Room) s m #[(.ref a), (.int (0 : Int32)), (.int zn)] below meth c s₁ [] 0 0 := Stand.of_body Bd
  have e0 : s₁.heap = h0 := by rw [← hh, Bd.state]; rfl
  have N0 := Fr.nil n0
  have hlk : meth.locks = false := BodyLoose.notSynchronized Bd
  refine Go.start (P₀ := fun s₂ o => ∃ v L, o = .returned v ∧ Q33 Z a b kb zb vl cs cs1 zn h0 n0 v s₂.heap L ∧ FrameEnd s o s₂ L (({ frames := 3, cells := 0, slots := 0, locals := 44 } : Room)).cells (({ frames := 3, cells := 0, slots := 0, locals := 44 } : Room)).slots) (congrArg s₁.setTop (ef_33 m a (0 : Int32) zn)) ?_
  intro P hP
  show Go p.tables e below P (s₁.setTop (mkF m 0 #[.val (.ref a), .val (.int (0 : Int32)), .val (.int zn)] []))
  refine Go.step (fun t k => XS.iloadN X0.here hx rfl (hb hby d33_0) rfl  k) ?_
  show Go p.tables e below P (s₁.setTop (mkF m 1 #[.val (.ref a), .val (.int (0 : Int32)), .val (.int zn)] [(.int (0 : Int32))]))
  refine Go.step (fun t k => XS.iloadN X0.here hx rfl (hb hby d33_1) rfl  k) ?_
  show Go p.tables e below P (s₁.setTop (mkF m 2 #[.val (.ref a), .val (.int (0 : Int32)), .val (.int zn)] [(.int zn), (.int (0 : Int32))]))
  refine Go.step (fun t k => XS.aloadN X0.here hx rfl (hb hby d33_2) rfl rfl k) ?_
  show Go p.tables e below P (s₁.setTop (mkF m 3 #[.val (.ref a), .val (.int (0 : Int32)), .val (.int zn)] [(.ref a), (.int zn), (.int (0 : Int32))]))
  obtain ⟨cq_1, kq_1, q_1a, q_1b, q_1c⟩ := isOf hZ e0 E_a
  obtain ⟨_, _, ⟨T_1, L_1, k_1, n_1⟩, -, X_1, ⟨Lc_1, hQ_1, l_1, y_1, z_1⟩, st_1⟩ := X0.virtualBack hx (y := (⟨"java/lang/String", "length", "()I"⟩ : MethodName)) (z := (⟨"java/lang/String", "length", "()I"⟩ : MethodName)) hown (mvT hZ (hw _ (List.mem_of_getElem? (i := 50) rfl))) (mvT hZ (hw _ (List.mem_of_getElem? (i := 35) rfl))) (notFace_of_selects (args := #[]) (mvT hZ (hw _ (List.mem_of_getElem? (i := 37) rfl)))) (mvT hZ (hw _ (List.mem_of_getElem? (i := 37) rfl))) (mvT hZ (hw _ (List.mem_of_getElem? (i := 36) rfl))) (by decide) (backOf (W := 2) (len1 l Z a0 hw [] a b kb zb vl cs cs1 h0 n0 Z0 E_a F0 F1 Vb hzb hn hc S3 hcs1) hZ (hw _ (List.mem_of_getElem? (i := 38) rfl)) (hw _ (List.mem_of_getElem? (i := 8) rfl)) (by decide) (by decide)) q_1a q_1c (g := (mkF m 3 #[.val (.ref a), .val (.int (0 : Int32)), .val (.int zn)] [(.ref a), (.int zn), (.int (0 : Int32))])) rfl (by rw [hml]; rfl) (Steps.refl _) (argsL := []) (rest := [(.int zn), (.int (0 : Int32))]) (lenOf pd_12 rfl) rfl (by show 2 * 0 + _ ≤ _; exact Nat.le_of_eq rfl) (hb hby d33_3) (fun _ _ => ⟨rfl, e0, (by decide : 0 + 0 ≤ _), (by decide : 0 + 0 ≤ _)⟩)
  dsimp only [Pt.U, Pt.locs, Pt.cells, Pt.slots] at X_1 l_1 y_1 z_1 st_1 hQ_1
  subst l_1 y_1 z_1
  obtain ⟨rl, rfl, hrl, N_1q, eh_1⟩ := hQ_1
  have N_1 := Fr.app N0 N_1q
  refine Go.tr st_1 ?_
  show Go p.tables e below P (T_1.setTop (mkF m 6 #[.val (.ref a), .val (.int (0 : Int32)), .val (.int zn)] [(.int rl), (.int zn), (.int (0 : Int32))]))
  obtain ⟨_, _, ⟨T_2, L_2, k_2, n_2⟩, -, X_2, ⟨Lc_2, hQ_2, l_2, y_2, z_2⟩, st_2⟩ := Jvm.LawKit.callS X_1 hx (y := (⟨"java/util/Objects", "checkFromToIndex", "(III)I"⟩ : MethodName)) hown (mvT hZ (hw _ (List.mem_of_getElem? (i := 51) rfl))) (mvT hZ (hw _ (List.mem_of_getElem? (i := 52) rfl))) (mvT hZ (hw _ (List.mem_of_getElem? (i := 53) rfl))) (mvT hZ (hw _ (List.mem_of_getElem? (i := 54) rfl))) (by decide) (backOf (W := 0) (rm15 l Z a0 hw [] zn rl h0 n0 Z0 (by omega) (by omega)) hZ (hw _ (List.mem_of_getElem? (i := 54) rfl)) (hw _ (List.mem_of_getElem? (i := 53) rfl)) (by decide) (by decide)) (g := (mkF m 6 #[.val (.ref a), .val (.int (0 : Int32)), .val (.int zn)] [(.int rl), (.int zn), (.int (0 : Int32))])) rfl (by rw [hml]; rfl) (argsL := [(.int (0 : Int32)), (.int zn), (.int rl)]) (rest := []) (lenOf pd_13 rfl) rfl (by show 2 * 0 + _ ≤ _; exact Nat.le_of_eq rfl) (hb hby d33_6) (fun _ _ => ⟨rfl, eh_1, (by decide : 0 + 0 ≤ _), (by decide : 0 + 0 ≤ _)⟩)
  dsimp only [Pt.U, Pt.locs, Pt.cells, Pt.slots] at X_2 l_2 y_2 z_2 st_2 hQ_2
  subst l_2 y_2 z_2
  obtain ⟨rfl, N_2q, eh_2⟩ := hQ_2
  have N_2 := Fr.app N_1 N_2q
  refine Go.step (fun t k => st_2 t k) ?_
  show Go p.tables e below P (T_2.setTop (mkF m 9 #[.val (.ref a), .val (.int (0 : Int32)), .val (.int zn)] [(.int (0 : Int32))]))
  refine Go.step (fun t k => XS.pop X_2.here hx rfl (hb hby d33_9) rfl rfl k) ?_
  show Go p.tables e below P (T_2.setTop (mkF m 10 #[.val (.ref a), .val (.int (0 : Int32)), .val (.int zn)] []))
  refine Go.step (fun t k => XS.aloadN X_2.here hx rfl (hb hby d33_10) rfl rfl k) ?_
  show Go p.tables e below P (T_2.setTop (mkF m 11 #[.val (.ref a), .val (.int (0 : Int32)), .val (.int zn)] [(.ref a)]))
  obtain ⟨cq_3, kq_3, q_3a, q_3b, q_3c⟩ := isOf hZ eh_2 E_a
  obtain ⟨_, _, ⟨T_3, L_3, k_3, n_3⟩, -, X_3, ⟨Lc_3, hQ_3, l_3, y_3, z_3⟩, st_3⟩ := X_2.virtualBack hx (y := (⟨"java/lang/String", "isLatin1", "()Z"⟩ : MethodName)) (z := (⟨"java/lang/String", "isLatin1", "()Z"⟩ : MethodName)) hown (mvT hZ (hw _ (List.mem_of_getElem? (i := 59) rfl))) (mvT hZ (hw _ (List.mem_of_getElem? (i := 60) rfl))) (notFace_of_selects (args := #[]) (mvT hZ (hw _ (List.mem_of_getElem? (i := 62) rfl)))) (mvT hZ (hw _ (List.mem_of_getElem? (i := 62) rfl))) (mvT hZ (hw _ (List.mem_of_getElem? (i := 61) rfl))) (by decide) (backOf (W := 0) (isl1 l Z a0 hw [] a cs1 h0 n0 Z0 F1 S3 hcs1) hZ (hw _ (List.mem_of_getElem? (i := 63) rfl)) (hw _ (List.mem_of_getElem? (i := 8) rfl)) (by decide) (by decide)) q_3a q_3c (g := (mkF m 11 #[.val (.ref a), .val (.int (0 : Int32)), .val (.int zn)] [(.ref a)])) rfl (by rw [hml]; rfl) (Steps.refl _) (argsL := []) (rest := []) (lenOf pd_14 rfl) rfl (by show 2 * 0 + _ ≤ _; exact Nat.le_of_eq rfl) (hb hby d33_11) (fun _ _ => ⟨rfl, eh_2, (by decide : 0 + 0 ≤ _), (by decide : 0 + 0 ≤ _)⟩)
  dsimp only [Pt.U, Pt.locs, Pt.cells, Pt.slots] at X_3 l_3 y_3 z_3 st_3 hQ_3
  subst l_3 y_3 z_3
  obtain ⟨rfl, N_3q, eh_3⟩ := hQ_3
  have N_3 := Fr.app N_2 N_3q
  refine Go.tr st_3 ?_
  show Go p.tables e below P (T_3.setTop (mkF m 14 #[.val (.ref a), .val (.int (0 : Int32)), .val (.int zn)] [(.int (0 : Int32))]))
  refine Go.step (fun t k => XS.ifYes X_3.here hx rfl (pc0 := 14) (pc' := 21) rfl (hb hby d33_14) rfl (ifY (cd := .eq) (by decide : (0 : Int) = 0)) (by decide) (by decide) k) ?_
  show Go p.tables e below P (T_3.setTop (mkF m 21 #[.val (.ref a), .val (.int (0 : Int32)), .val (.int zn)] []))
  refine Go.step (fun t k => XS.aloadN X_3.here hx rfl (hb hby d33_21) rfl rfl k) ?_
  show Go p.tables e below P (T_3.setTop (mkF m 22 #[.val (.ref a), .val (.int (0 : Int32)), .val (.int zn)] [(.ref a)]))
  obtain ⟨T_4, X_4, e_4, st_4⟩ := getF X_3 hx hZ hown (host := "") (Or.inl (hw _ (List.mem_of_getElem? (i := 25) rfl))) Via.refl eh_3 F0 (g := (mkF m 22 #[.val (.ref a), .val (.int (0 : Int32)), .val (.int zn)] [(.ref a)])) rfl rfl (hb hby d33_22)
  refine Go.step (fun t k => st_4 t k) ?_
  show Go p.tables e below P (T_4.setTop (mkF m 25 #[.val (.ref a), .val (.int (0 : Int32)), .val (.int zn)] [(.ref b)]))
  refine Go.step (fun t k => XS.iloadN X_4.here hx rfl (hb hby d33_25) rfl  k) ?_
  show Go p.tables e below P (T_4.setTop (mkF m 26 #[.val (.ref a), .val (.int (0 : Int32)), .val (.int zn)] [(.int (0 : Int32)), (.ref b)]))
  refine Go.step (fun t k => XS.iloadN X_4.here hx rfl (hb hby d33_26) rfl  k) ?_
  show Go p.tables e below P (T_4.setTop (mkF m 27 #[.val (.ref a), .val (.int (0 : Int32)), .val (.int zn)] [(.int zn), (.int (0 : Int32)), (.ref b)]))
  obtain ⟨_, _, ⟨T_5, L_5, k_5, n_5⟩, -, X_5, ⟨Lc_5, hQ_5, l_5, y_5, z_5⟩, st_5⟩ := Jvm.LawKit.callS X_4 hx (y := (⟨"java/lang/StringUTF16", "codePointCount", "([BII)I"⟩ : MethodName)) hown (mvT hZ (hw _ (List.mem_of_getElem? (i := 99) rfl))) (mvT hZ (hw _ (List.mem_of_getElem? (i := 100) rfl))) (mvT hZ (hw _ (List.mem_of_getElem? (i := 72) rfl))) (mvT hZ (hw _ (List.mem_of_getElem? (i := 101) rfl))) (by decide) (backOf (W := 0) (rm16 l Z a0 hw [] b zn kb zb cs h0 n0 Z0 Vb hzb hn hc hz S0 S1 S2) hZ (hw _ (List.mem_of_getElem? (i := 101) rfl)) (hw _ (List.mem_of_getElem? (i := 72) rfl)) (by decide) (by decide)) (g := (mkF m 27 #[.val (.ref a), .val (.int (0 : Int32)), .val (.int zn)] [(.int zn), (.int (0 : Int32)), (.ref b)])) rfl (by rw [hml]; rfl) (argsL := [(.ref b), (.int (0 : Int32)), (.int zn)]) (rest := []) (lenOf pd_17 rfl) rfl (by show 2 * 0 + _ ≤ _; exact Nat.le_of_eq rfl) (hb hby d33_27) (fun _ _ => ⟨rfl, e_4, (by decide : 0 + 0 ≤ _), (by decide : 0 + 0 ≤ _)⟩)
  dsimp only [Pt.U, Pt.locs, Pt.cells, Pt.slots] at X_5 l_5 y_5 z_5 st_5 hQ_5
  subst l_5 y_5 z_5
  obtain ⟨rc, rfl, hrc, N_5q, eh_5⟩ := hQ_5
  have N_5 := Fr.app N_3 N_5q
  refine Go.step (fun t k => st_5 t k) ?_
  show Go p.tables e below P (T_5.setTop (mkF m 30 #[.val (.ref a), .val (.int (0 : Int32)), .val (.int zn)] [(.int rc)]))
  exact retGo X_5 hx hP Bd.returns hlk rfl (Or.inl ⟨rfl, Or.inl rfl, _, rfl⟩) (hb hby d33_30) (by decide) (by decide) (by rw [eh_5]; exact ⟨rc, rfl, hrc, N_5, rfl⟩)
theorem d34_0 : decode prog_19_method_3_code 0 = .ok (.aload_n 0, 1) := by decide +kernel
theorem d34_1 : decode prog_19_method_3_code 1 = .ok (.iconst 0, 1) := by decide +kernel
theorem d34_2 : decode prog_19_method_3_code 2 = .ok (.aload_n 0, 1) := by decide +kernel
theorem d34_3 : decode prog_19_method_3_code 3 = .ok (.invokevirtual 65, 3) := by decide +kernel
theorem d34_6 : decode prog_19_method_3_code 6 = .ok (.invokevirtual 66, 3) := by decide +kernel
theorem d34_9 : decode prog_19_method_3_code 9 = .ok (.ireturn, 1) := by decide +kernel
theorem pn_34 : plainName "com/example/wrasse/wrasse/Words" = true := by first | (simp [plainName, overriddenIn]; done) | decide +kernel
theorem ef_34 (m : MethodId) (x0 : Addr) : entryFrame m #[(.ref x0)] 1 = mkF m 0 #[.val (.ref x0)] [] := by first | (simp [entryFrame, mkF, argsToLocals, Value.category]; done) | rfl
def Q34 (Z : State) (a : Addr) (b : Addr) (kb : ClassId) (zb : Int32) (vl : List Value) (cs : List Int32) (cs1 : Int32) (h0 : Heap) (n0 : Nat) (v : Option Value) (h : Heap) (L : List Loc) : Prop := ∃ r : Int32, v = some (.int r) ∧ r.toInt = cpc cs ∧ Fr n0 L ∧ h = h0
set_option maxRecDepth 65536 in
set_option maxHeartbeats 40000000 in
theorem wlen1 (l : Launch) (Z : State) (a0 : Array Value) (hw : ∀ d ∈ tables_1, d.before a0 Z = true) (ws : List Jvm.Cond) (a : Addr) (b : Addr) (kb : ClassId) (zb : Int32) (vl : List Value) (cs : List Int32) (cs1 : Int32) (h0 : Heap) (n0 : Nat) (Z0 : n0 ≤ h0.size) (E_a : Exa Z h0 a "java/lang/String") (F0 : Fld Z h0 a "java/lang/String" "value" "[B" (.ref b)) (F1 : Fld Z h0 a "java/lang/String" "coder" "B" (.int (1 : Int32))) (Vb : Arv Z h0 b kb .byte zb (enc cs) (.int (0 : Int32))) (hzb : zb.toInt = 2 * (cs.length : Int)) (hn : cs.length ≤ 12) (hc : ∀ x ∈ cs, 0 ≤ x.toInt ∧ x.toInt < 65536) (S3 : Sta Z h0 "java/lang/String" "COMPACT_STRINGS" "Z" (.int cs1)) (hcs1 : ¬ cs1.toInt = 0) (S0 : Sta Z h0 "java/lang/StringUTF16" "$assertionsDisabled" "Z" (.int (1 : Int32))) (S1 : Sta Z h0 "java/lang/StringUTF16" "HI_BYTE_SHIFT" "I" (.int (0 : Int32))) (S2 : Sta Z h0 "java/lang/StringUTF16" "LO_BYTE_SHIFT" "I" (.int (8 : Int32))) :
    MetFree l (⟨"com/example/wrasse/wrasse/Words", "length", "(Ljava/lang/String;)I"⟩ : MethodName) (head1 (Jvm.Cond.code (⟨"com/example/wrasse/wrasse/Words", "length", "(Ljava/lang/String;)I"⟩ : MethodName) prog_19_method_3_code 1 (some .int) :: ws) ({ frames := 4, cells := 0, slots := 0, locals := 58 } : Room)) (fun a_ U => a_ = #[(.ref a)] ∧ Z.Warmed39 U.vm ∧ U.heap = h0) (fun _ _ _ _ _ => True) (fun _ U o U' => ∃ v L, o = .returned v ∧ Q34 Z a b kb zb vl cs cs1 h0 n0 v U'.heap L ∧ FrameEnd U o U' L (({ frames := 4, cells := 0, slots := 0, locals := 58 } : Room)).cells (({ frames := 4, cells := 0, slots := 0, locals := 58 } : Room)).slots) := by
  refine MetFree.of_bodySF (plainFor_of_name pn_34) hisR ?_
  intro p e s m args below meth c s₁ Bd hml0 hP0 hK
  obtain ⟨rfl, hZ, hh⟩ := hP0
  have hx := Bd.exec
  have hby := Bd.bytes
  have hml : c.maxLocals = 1 := hml0
  have hown : s.vm.findClass "com/example/wrasse/wrasse/Words" = some m.cls := findClass_of_methodNamed Bd.named
  have hnm := (name_of_methodNamed Bd.named Bd.method).1
  have X0 : Stand p l e ({ frames := 4, cells := 0, slots := 0, locals := 58 } : Room) s m #[(.ref a)] below meth c s₁ [] 0 0 := Stand.of_body Bd
  have e0 : s₁.heap = h0 := by rw [← hh, Bd.state]; rfl
  have N0 := Fr.nil n0
  have hlk : meth.locks = false := BodyLoose.notSynchronized Bd
  refine Go.start (P₀ := fun s₂ o => ∃ v L, o = .returned v ∧ Q34 Z a b kb zb vl cs cs1 h0 n0 v s₂.heap L ∧ FrameEnd s o s₂ L (({ frames := 4, cells := 0, slots := 0, locals := 58 } : Room)).cells (({ frames := 4, cells := 0, slots := 0, locals := 58 } : Room)).slots) (congrArg s₁.setTop (ef_34 m a)) ?_
  intro P hP
  show Go p.tables e below P (s₁.setTop (mkF m 0 #[.val (.ref a)] []))
  refine Go.step (fun t k => XS.aloadN X0.here hx rfl (hb hby d34_0) rfl rfl k) ?_
  show Go p.tables e below P (s₁.setTop (mkF m 1 #[.val (.ref a)] [(.ref a)]))
  refine Go.step (fun t k => XS.iconst X0.here hx rfl (hb hby d34_1) k) ?_
  show Go p.tables e below P (s₁.setTop (mkF m 2 #[.val (.ref a)] [(.int (0 : Int32)), (.ref a)]))
  refine Go.step (fun t k => XS.aloadN X0.here hx rfl (hb hby d34_2) rfl rfl k) ?_
  show Go p.tables e below P (s₁.setTop (mkF m 3 #[.val (.ref a)] [(.ref a), (.int (0 : Int32)), (.ref a)]))
  obtain ⟨cq_1, kq_1, q_1a, q_1b, q_1c⟩ := isOf hZ e0 E_a
  obtain ⟨_, _, ⟨T_1, L_1, k_1, n_1⟩, -, X_1, ⟨Lc_1, hQ_1, l_1, y_1, z_1⟩, st_1⟩ := X0.virtualBack hx (y := (⟨"java/lang/String", "length", "()I"⟩ : MethodName)) (z := (⟨"java/lang/String", "length", "()I"⟩ : MethodName)) hown (mvT hZ (hw _ (List.mem_of_getElem? (i := 34) rfl))) (mvT hZ (hw _ (List.mem_of_getElem? (i := 35) rfl))) (notFace_of_selects (args := #[]) (mvT hZ (hw _ (List.mem_of_getElem? (i := 37) rfl)))) (mvT hZ (hw _ (List.mem_of_getElem? (i := 37) rfl))) (mvT hZ (hw _ (List.mem_of_getElem? (i := 36) rfl))) (by decide) (backOf (W := 2) (len1 l Z a0 hw [] a b kb zb vl cs cs1 h0 n0 Z0 E_a F0 F1 Vb hzb hn hc S3 hcs1) hZ (hw _ (List.mem_of_getElem? (i := 38) rfl)) (hw _ (List.mem_of_getElem? (i := 8) rfl)) (by decide) (by decide)) q_1a q_1c (g := (mkF m 3 #[.val (.ref a)] [(.ref a), (.int (0 : Int32)), (.ref a)])) rfl (by rw [hml]; rfl) (Steps.refl _) (argsL := []) (rest := [(.int (0 : Int32)), (.ref a)]) (lenOf pd_12 rfl) rfl (by show 2 * 0 + _ ≤ _; exact Nat.le_of_eq rfl) (hb hby d34_3) (fun _ _ => ⟨rfl, e0, (by decide : 0 + 0 ≤ _), (by decide : 0 + 0 ≤ _)⟩)
  dsimp only [Pt.U, Pt.locs, Pt.cells, Pt.slots] at X_1 l_1 y_1 z_1 st_1 hQ_1
  subst l_1 y_1 z_1
  obtain ⟨rl, rfl, hrl, N_1q, eh_1⟩ := hQ_1
  have N_1 := Fr.app N0 N_1q
  refine Go.tr st_1 ?_
  show Go p.tables e below P (T_1.setTop (mkF m 6 #[.val (.ref a)] [(.int rl), (.int (0 : Int32)), (.ref a)]))
  obtain ⟨cq_2, kq_2, q_2a, q_2b, q_2c⟩ := isOf hZ eh_1 E_a
  obtain ⟨_, _, ⟨T_2, L_2, k_2, n_2⟩, -, X_2, ⟨Lc_2, hQ_2, l_2, y_2, z_2⟩, st_2⟩ := X_1.virtualBack hx (y := (⟨"java/lang/String", "codePointCount", "(II)I"⟩ : MethodName)) (z := (⟨"java/lang/String", "codePointCount", "(II)I"⟩ : MethodName)) hown (mvT hZ (hw _ (List.mem_of_getElem? (i := 45) rfl))) (mvT hZ (hw _ (List.mem_of_getElem? (i := 46) rfl))) (notFace_of_selects (args := #[]) (mvT hZ (hw _ (List.mem_of_getElem? (i := 48) rfl)))) (mvT hZ (hw _ (List.mem_of_getElem? (i := 48) rfl))) (mvT hZ (hw _ (List.mem_of_getElem? (i := 47) rfl))) (by decide) (backOf (W := 0) (cpn1 l Z a0 hw [] a b kb zb vl cs cs1 rl h0 n0 Z0 E_a F0 F1 Vb hzb hn hc hrl S3 hcs1 S0 S1 S2) hZ (hw _ (List.mem_of_getElem? (i := 49) rfl)) (hw _ (List.mem_of_getElem? (i := 8) rfl)) (by decide) (by decide)) q_2a q_2c (g := (mkF m 6 #[.val (.ref a)] [(.int rl), (.int (0 : Int32)), (.ref a)])) rfl (by rw [hml]; rfl) (Steps.refl _) (argsL := [(.int (0 : Int32)), (.int rl)]) (rest := []) (lenOf pd_15 rfl) rfl (by show 2 * 0 + _ ≤ _; exact Nat.le_of_eq rfl) (hb hby d34_6) (fun _ _ => ⟨rfl, eh_1, (by decide : 0 + 0 ≤ _), (by decide : 0 + 0 ≤ _)⟩)
  dsimp only [Pt.U, Pt.locs, Pt.cells, Pt.slots] at X_2 l_2 y_2 z_2 st_2 hQ_2
  subst l_2 y_2 z_2
  obtain ⟨rc, rfl, hrc, N_2q, eh_2⟩ := hQ_2
  have N_2 := Fr.app N_1 N_2q
  refine Go.tr st_2 ?_
  show Go p.tables e below P (T_2.setTop (mkF m 9 #[.val (.ref a)] [(.int rc)]))
  exact retGo X_2 hx hP Bd.returns hlk rfl (Or.inl ⟨rfl, Or.inl rfl, _, rfl⟩) (hb hby d34_9) (by decide) (by decide) (by rw [eh_2]; exact ⟨rc, rfl, hrc, N_2, rfl⟩)
theorem d35_0 : decode prog_19_method_4_code 0 = .ok (.aload_n 0, 1) := by decide +kernel
theorem d35_1 : decode prog_19_method_4_code 1 = .ok (.invokestatic 70, 3) := by decide +kernel
theorem d35_4 : decode prog_19_method_4_code 4 = .ok (.istore_n 1, 1) := by decide +kernel
theorem d35_5 : decode prog_19_method_4_code 5 = .ok (.iload_n 1, 1) := by decide +kernel
theorem d35_6 : decode prog_19_method_4_code 6 = .ok (.bipush 8, 2) := by decide +kernel
theorem d35_8 : decode prog_19_method_4_code 8 = .ok (.if_icmp .lt 8, 3) := by decide +kernel
theorem d35_11 : decode prog_19_method_4_code 11 = .ok (.iconst 2, 1) := by decide +kernel
theorem d35_12 : decode prog_19_method_4_code 12 = .ok (.istore_n 2, 1) := by decide +kernel
theorem d35_13 : decode prog_19_method_4_code 13 = .ok (.goto 15, 3) := by decide +kernel
theorem d35_16 : decode prog_19_method_4_code 16 = .ok (.iload_n 1, 1) := by decide +kernel
theorem d35_17 : decode prog_19_method_4_code 17 = .ok (.iconst 4, 1) := by decide +kernel
theorem d35_18 : decode prog_19_method_4_code 18 = .ok (.if_icmp .lt 8, 3) := by decide +kernel
theorem d35_21 : decode prog_19_method_4_code 21 = .ok (.iconst 1, 1) := by decide +kernel
theorem d35_22 : decode prog_19_method_4_code 22 = .ok (.istore_n 2, 1) := by decide +kernel
theorem d35_23 : decode prog_19_method_4_code 23 = .ok (.goto 5, 3) := by decide +kernel
theorem d35_26 : decode prog_19_method_4_code 26 = .ok (.iconst 0, 1) := by decide +kernel
theorem d35_27 : decode prog_19_method_4_code 27 = .ok (.istore_n 2, 1) := by decide +kernel
theorem d35_28 : decode prog_19_method_4_code 28 = .ok (.iload_n 2, 1) := by decide +kernel
theorem d35_29 : decode prog_19_method_4_code 29 = .ok (.ireturn, 1) := by decide +kernel
theorem pn_35 : plainName "com/example/wrasse/wrasse/Words" = true := by first | (simp [plainName, overriddenIn]; done) | decide +kernel
theorem ef_35 (m : MethodId) (x0 : Addr) : entryFrame m #[(.ref x0)] 3 = mkF m 0 #[.val (.ref x0), .unset, .unset] [] := by first | (simp [entryFrame, mkF, argsToLocals, Value.category]; done) | rfl
def Q35 (Z : State) (a : Addr) (b : Addr) (kb : ClassId) (zb : Int32) (vl : List Value) (cs : List Int32) (cs1 : Int32) (h0 : Heap) (n0 : Nat) (v : Option Value) (h : Heap) (L : List Loc) : Prop := ∃ (r : Int32) (q0 : Int), v = some (.int r) ∧ q0 = cpc cs ∧ ((8 ≤ q0 ∧ r.toInt = 2) ∨ (4 ≤ q0 ∧ q0 < 8 ∧ r.toInt = 1) ∨ (q0 < 4 ∧ r.toInt = 0)) ∧ Fr n0 L ∧ h = h0
set_option maxRecDepth 65536 in
set_option maxHeartbeats 40000000 in
theorem tol1 (l : Launch) (Z : State) (a0 : Array Value) (hw : ∀ d ∈ tables_1, d.before a0 Z = true) (ws : List Jvm.Cond) (a : Addr) (b : Addr) (kb : ClassId) (zb : Int32) (vl : List Value) (cs : List Int32) (cs1 : Int32) (h0 : Heap) (n0 : Nat) (Z0 : n0 ≤ h0.size) (E_a : Exa Z h0 a "java/lang/String") (F0 : Fld Z h0 a "java/lang/String" "value" "[B" (.ref b)) (F1 : Fld Z h0 a "java/lang/String" "coder" "B" (.int (1 : Int32))) (Vb : Arv Z h0 b kb .byte zb (enc cs) (.int (0 : Int32))) (hzb : zb.toInt = 2 * (cs.length : Int)) (hn : cs.length ≤ 12) (hc : ∀ x ∈ cs, 0 ≤ x.toInt ∧ x.toInt < 65536) (S3 : Sta Z h0 "java/lang/String" "COMPACT_STRINGS" "Z" (.int cs1)) (hcs1 : ¬ cs1.toInt = 0) (S0 : Sta Z h0 "java/lang/StringUTF16" "$assertionsDisabled" "Z" (.int (1 : Int32))) (S1 : Sta Z h0 "java/lang/StringUTF16" "HI_BYTE_SHIFT" "I" (.int (0 : Int32))) (S2 : Sta Z h0 "java/lang/StringUTF16" "LO_BYTE_SHIFT" "I" (.int (8 : Int32))) :
    MetFree l (⟨"com/example/wrasse/wrasse/Words", "toleratedEdits", "(Ljava/lang/String;)I"⟩ : MethodName) (head1 (Jvm.Cond.code (⟨"com/example/wrasse/wrasse/Words", "toleratedEdits", "(Ljava/lang/String;)I"⟩ : MethodName) prog_19_method_4_code 3 (some .int) :: ws) ({ frames := 5, cells := 0, slots := 0, locals := 70 } : Room)) (fun a_ U => a_ = #[(.ref a)] ∧ Z.Warmed39 U.vm ∧ U.heap = h0) (fun _ _ _ _ _ => True) (fun _ U o U' => ∃ v L, o = .returned v ∧ Q35 Z a b kb zb vl cs cs1 h0 n0 v U'.heap L ∧ FrameEnd U o U' L (({ frames := 5, cells := 0, slots := 0, locals := 70 } : Room)).cells (({ frames := 5, cells := 0, slots := 0, locals := 70 } : Room)).slots) := by
  refine MetFree.of_bodySF (plainFor_of_name pn_35) hisR ?_
  intro p e s m args below meth c s₁ Bd hml0 hP0 hK
  obtain ⟨rfl, hZ, hh⟩ := hP0
  have hx := Bd.exec
  have hby := Bd.bytes
  have hml : c.maxLocals = 3 := hml0
  have hown : s.vm.findClass "com/example/wrasse/wrasse/Words" = some m.cls := findClass_of_methodNamed Bd.named
  have hnm := (name_of_methodNamed Bd.named Bd.method).1
  have X0 : Stand p l e ({ frames := 5, cells := 0, slots := 0, locals := 70 } : Room) s m #[(.ref a)] below meth c s₁ [] 0 0 := Stand.of_body Bd
  have e0 : s₁.heap = h0 := by rw [← hh, Bd.state]; rfl
  have N0 := Fr.nil n0
  have hlk : meth.locks = false := BodyLoose.notSynchronized Bd
  refine Go.start (P₀ := fun s₂ o => ∃ v L, o = .returned v ∧ Q35 Z a b kb zb vl cs cs1 h0 n0 v s₂.heap L ∧ FrameEnd s o s₂ L (({ frames := 5, cells := 0, slots := 0, locals := 70 } : Room)).cells (({ frames := 5, cells := 0, slots := 0, locals := 70 } : Room)).slots) (congrArg s₁.setTop (ef_35 m a)) ?_
  intro P hP
  show Go p.tables e below P (s₁.setTop (mkF m 0 #[.val (.ref a), .unset, .unset] []))
  refine Go.step (fun t k => XS.aloadN X0.here hx rfl (hb hby d35_0) rfl rfl k) ?_
  show Go p.tables e below P (s₁.setTop (mkF m 1 #[.val (.ref a), .unset, .unset] [(.ref a)]))
  obtain ⟨_, _, ⟨T_1, L_1, k_1, n_1⟩, -, X_1, ⟨Lc_1, hQ_1, l_1, y_1, z_1⟩, st_1⟩ := Jvm.LawKit.callS X0 hx (y := (⟨"com/example/wrasse/wrasse/Words", "length", "(Ljava/lang/String;)I"⟩ : MethodName)) hown (mvT hZ (hw _ (List.mem_of_getElem? (i := 31) rfl))) (mvT hZ (hw _ (List.mem_of_getElem? (i := 32) rfl))) (mvT hZ (hw _ (List.mem_of_getElem? (i := 29) rfl))) (mvT hZ (hw _ (List.mem_of_getElem? (i := 33) rfl))) (by decide) (backOf (W := 0) (wlen1 l Z a0 hw [] a b kb zb vl cs cs1 h0 n0 Z0 E_a F0 F1 Vb hzb hn hc S3 hcs1 S0 S1 S2) hZ (hw _ (List.mem_of_getElem? (i := 33) rfl)) (hw _ (List.mem_of_getElem? (i := 29) rfl)) (by decide) (by decide)) (g := (mkF m 1 #[.val (.ref a), .unset, .unset] [(.ref a)])) rfl (by rw [hml]; rfl) (argsL := [(.ref a)]) (rest := []) (lenOf pd_16 rfl) rfl (by show 2 * 0 + _ ≤ _; exact Nat.le_of_eq rfl) (hb hby d35_1) (fun _ _ => ⟨rfl, e0, (by decide : 0 + 0 ≤ _), (by decide : 0 + 0 ≤ _)⟩)
  dsimp only [Pt.U, Pt.locs, Pt.cells, Pt.slots] at X_1 l_1 y_1 z_1 st_1 hQ_1
  subst l_1 y_1 z_1
  obtain ⟨rc, rfl, hrc, N_1q, eh_1⟩ := hQ_1
  have N_1 := Fr.app N0 N_1q
  refine Go.step (fun t k => st_1 t k) ?_
  show Go p.tables e below P (T_1.setTop (mkF m 4 #[.val (.ref a), .unset, .unset] [(.int rc)]))
  refine Go.step (fun t k => XS.istoreN X_1.here hx rfl (hb hby d35_4) rfl (l' := #[.val (.ref a), .val (.int rc), .unset]) rfl k) ?_
  show Go p.tables e below P (T_1.setTop (mkF m 5 #[.val (.ref a), .val (.int rc), .unset] []))
  refine Go.step (fun t k => XS.iloadN X_1.here hx rfl (hb hby d35_5) rfl  k) ?_
  show Go p.tables e below P (T_1.setTop (mkF m 6 #[.val (.ref a), .val (.int rc), .unset] [(.int rc)]))
  refine Go.step (fun t k => XS.bipush X_1.here hx rfl (hb hby d35_6) k) ?_
  show Go p.tables e below P (T_1.setTop (mkF m 8 #[.val (.ref a), .val (.int rc), .unset] [(.int (8 : Int32)), (.int rc)]))
  by_cases hc8 : rc.toInt < (8 : Int)
  · refine Go.step (fun t k => XS.icmpYes X_1.here hx rfl (pc0 := 8) (pc' := 16) rfl (hb hby d35_8) rfl (icY (cd := .lt) hc8) (by decide) (by decide) k) ?_
    show Go p.tables e below P (T_1.setTop (mkF m 16 #[.val (.ref a), .val (.int rc), .unset] []))
    refine Go.step (fun t k => XS.iloadN X_1.here hx rfl (hb hby d35_16) rfl  k) ?_
    show Go p.tables e below P (T_1.setTop (mkF m 17 #[.val (.ref a), .val (.int rc), .unset] [(.int rc)]))
    refine Go.step (fun t k => XS.iconst X_1.here hx rfl (hb hby d35_17) k) ?_
    show Go p.tables e below P (T_1.setTop (mkF m 18 #[.val (.ref a), .val (.int rc), .unset] [(.int (4 : Int32)), (.int rc)]))
    by_cases hc18 : rc.toInt < (4 : Int)
    · refine Go.step (fun t k => XS.icmpYes X_1.here hx rfl (pc0 := 18) (pc' := 26) rfl (hb hby d35_18) rfl (icY (cd := .lt) hc18) (by decide) (by decide) k) ?_
      show Go p.tables e below P (T_1.setTop (mkF m 26 #[.val (.ref a), .val (.int rc), .unset] []))
      refine Go.step (fun t k => XS.iconst X_1.here hx rfl (hb hby d35_26) k) ?_
      show Go p.tables e below P (T_1.setTop (mkF m 27 #[.val (.ref a), .val (.int rc), .unset] [(.int (0 : Int32))]))
      refine Go.step (fun t k => XS.istoreN X_1.here hx rfl (hb hby d35_27) rfl (l' := #[.val (.ref a), .val (.int rc), .val (.int (0 : Int32))]) rfl k) ?_
      show Go p.tables e below P (T_1.setTop (mkF m 28 #[.val (.ref a), .val (.int rc), .val (.int (0 : Int32))] []))
      refine Go.step (fun t k => XS.iloadN X_1.here hx rfl (hb hby d35_28) rfl  k) ?_
      show Go p.tables e below P (T_1.setTop (mkF m 29 #[.val (.ref a), .val (.int rc), .val (.int (0 : Int32))] [(.int (0 : Int32))]))
      exact retGo X_1 hx hP Bd.returns hlk rfl (Or.inl ⟨rfl, Or.inl rfl, _, rfl⟩) (hb hby d35_29) (by decide) (by decide) (by rw [eh_1]; exact ⟨(0 : Int32), _, rfl, rfl, by have e2 : (2 : Int32).toInt = 2 := rfl; have e1 : (1 : Int32).toInt = 1 := rfl; have e0 : (0 : Int32).toInt = 0 := rfl; omega, N_1, rfl⟩)
    · refine Go.step (fun t k => XS.icmpNo X_1.here hx rfl (hb hby d35_18) rfl (icN (cd := .lt) hc18) k) ?_
      show Go p.tables e below P (T_1.setTop (mkF m 21 #[.val (.ref a), .val (.int rc), .unset] []))
      refine Go.step (fun t k => XS.iconst X_1.here hx rfl (hb hby d35_21) k) ?_
      show Go p.tables e below P (T_1.setTop (mkF m 22 #[.val (.ref a), .val (.int rc), .unset] [(.int (1 : Int32))]))
      refine Go.step (fun t k => XS.istoreN X_1.here hx rfl (hb hby d35_22) rfl (l' := #[.val (.ref a), .val (.int rc), .val (.int (1 : Int32))]) rfl k) ?_
      show Go p.tables e below P (T_1.setTop (mkF m 23 #[.val (.ref a), .val (.int rc), .val (.int (1 : Int32))] []))
      refine Go.step (fun t k => XS.goto X_1.here hx rfl (pc0 := 23) (pc' := 28) rfl (hb hby d35_23) (by decide) (by decide) k) ?_
      show Go p.tables e below P (T_1.setTop (mkF m 28 #[.val (.ref a), .val (.int rc), .val (.int (1 : Int32))] []))
      refine Go.step (fun t k => XS.iloadN X_1.here hx rfl (hb hby d35_28) rfl  k) ?_
      show Go p.tables e below P (T_1.setTop (mkF m 29 #[.val (.ref a), .val (.int rc), .val (.int (1 : Int32))] [(.int (1 : Int32))]))
      exact retGo X_1 hx hP Bd.returns hlk rfl (Or.inl ⟨rfl, Or.inl rfl, _, rfl⟩) (hb hby d35_29) (by decide) (by decide) (by rw [eh_1]; exact ⟨(1 : Int32), _, rfl, rfl, by have e2 : (2 : Int32).toInt = 2 := rfl; have e1 : (1 : Int32).toInt = 1 := rfl; have e0 : (0 : Int32).toInt = 0 := rfl; omega, N_1, rfl⟩)
  · refine Go.step (fun t k => XS.icmpNo X_1.here hx rfl (hb hby d35_8) rfl (icN (cd := .lt) hc8) k) ?_
    show Go p.tables e below P (T_1.setTop (mkF m 11 #[.val (.ref a), .val (.int rc), .unset] []))
    refine Go.step (fun t k => XS.iconst X_1.here hx rfl (hb hby d35_11) k) ?_
    show Go p.tables e below P (T_1.setTop (mkF m 12 #[.val (.ref a), .val (.int rc), .unset] [(.int (2 : Int32))]))
    refine Go.step (fun t k => XS.istoreN X_1.here hx rfl (hb hby d35_12) rfl (l' := #[.val (.ref a), .val (.int rc), .val (.int (2 : Int32))]) rfl k) ?_
    show Go p.tables e below P (T_1.setTop (mkF m 13 #[.val (.ref a), .val (.int rc), .val (.int (2 : Int32))] []))
    refine Go.step (fun t k => XS.goto X_1.here hx rfl (pc0 := 13) (pc' := 28) rfl (hb hby d35_13) (by decide) (by decide) k) ?_
    show Go p.tables e below P (T_1.setTop (mkF m 28 #[.val (.ref a), .val (.int rc), .val (.int (2 : Int32))] []))
    refine Go.step (fun t k => XS.iloadN X_1.here hx rfl (hb hby d35_28) rfl  k) ?_
    show Go p.tables e below P (T_1.setTop (mkF m 29 #[.val (.ref a), .val (.int rc), .val (.int (2 : Int32))] [(.int (2 : Int32))]))
    exact retGo X_1 hx hP Bd.returns hlk rfl (Or.inl ⟨rfl, Or.inl rfl, _, rfl⟩) (hb hby d35_29) (by decide) (by decide) (by rw [eh_1]; exact ⟨(2 : Int32), _, rfl, rfl, by have e2 : (2 : Int32).toInt = 2 := rfl; have e1 : (1 : Int32).toInt = 1 := rfl; have e0 : (0 : Int32).toInt = 0 := rfl; omega, N_1, rfl⟩)
theorem d40_0 : decode method_3_code 0 = .ok (.iload_n 0, 1) := by decide +kernel
theorem d40_1 : decode method_3_code 1 = .ok (.bipush 8, 2) := by decide +kernel
theorem d40_3 : decode method_3_code 3 = .ok (.if_icmp .ge 7, 3) := by decide +kernel
theorem d40_6 : decode method_3_code 6 = .ok (.lload_n 2, 1) := by decide +kernel
theorem d40_7 : decode method_3_code 7 = .ok (.goto 5, 3) := by decide +kernel
theorem d40_12 : decode method_3_code 12 = .ok (.lstore 6, 2) := by decide +kernel
theorem d40_14 : decode method_3_code 14 = .ok (.lload 6, 2) := by decide +kernel
theorem d40_16 : decode method_3_code 16 = .ok (.bipush 8, 2) := by decide +kernel
theorem d40_18 : decode method_3_code 18 = .ok (.iload_n 0, 1) := by decide +kernel
theorem d40_19 : decode method_3_code 19 = .ok (.bipush 7, 2) := by decide +kernel
theorem d40_21 : decode method_3_code 21 = .ok (.iand, 1) := by decide +kernel
theorem d40_22 : decode method_3_code 22 = .ok (.imul, 1) := by decide +kernel
theorem d40_23 : decode method_3_code 23 = .ok (.lushr, 1) := by decide +kernel
theorem d40_24 : decode method_3_code 24 = .ok (.ldc2_w 29, 3) := by decide +kernel
theorem d40_27 : decode method_3_code 27 = .ok (.land, 1) := by decide +kernel
theorem d40_28 : decode method_3_code 28 = .ok (.l2i, 1) := by decide +kernel
theorem d40_29 : decode method_3_code 29 = .ok (.istore 8, 2) := by decide +kernel
theorem d40_31 : decode method_3_code 31 = .ok (.iload_n 1, 1) := by decide +kernel
theorem d40_32 : decode method_3_code 32 = .ok (.iload_n 0, 1) := by decide +kernel
theorem d40_33 : decode method_3_code 33 = .ok (.iushr, 1) := by decide +kernel
theorem d40_34 : decode method_3_code 34 = .ok (.iconst 1, 1) := by decide +kernel
theorem d40_35 : decode method_3_code 35 = .ok (.iand, 1) := by decide +kernel
theorem d40_36 : decode method_3_code 36 = .ok (.ifCond .eq 23, 3) := by decide +kernel
theorem d40_39 : decode method_3_code 39 = .ok (.iload_n 0, 1) := by decide +kernel
theorem d40_40 : decode method_3_code 40 = .ok (.iconst 1, 1) := by decide +kernel
theorem d40_41 : decode method_3_code 41 = .ok (.iand, 1) := by decide +kernel
theorem d40_42 : decode method_3_code 42 = .ok (.ifCond .ne 10, 3) := by decide +kernel
theorem d40_45 : decode method_3_code 45 = .ok (.ldc 31, 2) := by decide +kernel
theorem d40_47 : decode method_3_code 47 = .ok (.iload 8, 2) := by decide +kernel
theorem d40_49 : decode method_3_code 49 = .ok (.ior, 1) := by decide +kernel
theorem d40_50 : decode method_3_code 50 = .ok (.i2c, 1) := by decide +kernel
theorem d40_51 : decode method_3_code 51 = .ok (.ireturn, 1) := by decide +kernel
theorem d40_59 : decode method_3_code 59 = .ok (.iload 8, 2) := by decide +kernel
theorem d40_61 : decode method_3_code 61 = .ok (.i2c, 1) := by decide +kernel
theorem d40_62 : decode method_3_code 62 = .ok (.ireturn, 1) := by decide +kernel
theorem pn_40 : plainName "com/example/wrasse/wrasse/WordsToleratedEditsPinLaw" = true := by first | (simp [plainName, overriddenIn]; done) | decide +kernel
theorem ef_40 (m : MethodId) (x0 : Int32) (x1 : Int32) (x2 : Int64) (x3 : Int64) : entryFrame m #[(.int x0), (.int x1), (.long x2), (.long x3)] 9 = mkF m 0 #[.val (.int x0), .val (.int x1), .val (.long x2), .second, .val (.long x3), .second, .unset, .unset, .unset] [] := by first | (simp [entryFrame, mkF, argsToLocals, Value.category]; done) | rfl
def Q40 (Z : State) (sx : Int32) (jl : Int64) (jh : Int64) (h0 : Heap) (n0 : Nat) (v : Option Value) (h : Heap) (L : List Loc) : Prop := ∃ r : Int32, v = some (.int r) ∧ Ok sx 0 r ∧ Fr n0 L ∧ h = h0
set_option maxRecDepth 65536 in
set_option maxHeartbeats 40000000 in
theorem ch0 (l : Launch) (Z : State) (a0 : Array Value) (hw : ∀ d ∈ tables_1, d.before a0 Z = true) (ws : List Jvm.Cond) (sx : Int32) (jl : Int64) (jh : Int64) (h0 : Heap) (n0 : Nat) (Z0 : n0 ≤ h0.size) :
    MetFree l (⟨"com/example/wrasse/wrasse/WordsToleratedEditsPinLaw", "ch", "(IIJJ)C"⟩ : MethodName) (head1 (Jvm.Cond.code (⟨"com/example/wrasse/wrasse/WordsToleratedEditsPinLaw", "ch", "(IIJJ)C"⟩ : MethodName) method_3_code 9 (some .char) :: ws) ({ frames := 0, cells := 0, slots := 0, locals := 0 } : Room)) (fun a_ U => a_ = #[(.int (0 : Int32)), (.int sx), (.long jl), (.long jh)] ∧ Z.Warmed39 U.vm ∧ U.heap = h0) (fun _ _ _ _ _ => True) (fun _ U o U' => ∃ v L, o = .returned v ∧ Q40 Z sx jl jh h0 n0 v U'.heap L ∧ FrameEnd U o U' L (({ frames := 0, cells := 0, slots := 0, locals := 0 } : Room)).cells (({ frames := 0, cells := 0, slots := 0, locals := 0 } : Room)).slots) := by
  refine MetFree.of_bodySF (plainFor_of_name pn_40) hisR ?_
  intro p e s m args below meth c s₁ Bd hml0 hP0 hK
  obtain ⟨rfl, hZ, hh⟩ := hP0
  have hx := Bd.exec
  have hby := Bd.bytes
  have hml : c.maxLocals = 9 := hml0
  have hown : s.vm.findClass "com/example/wrasse/wrasse/WordsToleratedEditsPinLaw" = some m.cls := findClass_of_methodNamed Bd.named
  have hnm := (name_of_methodNamed Bd.named Bd.method).1
  have X0 : Stand p l e ({ frames := 0, cells := 0, slots := 0, locals := 0 } : Room) s m #[(.int (0 : Int32)), (.int sx), (.long jl), (.long jh)] below meth c s₁ [] 0 0 := Stand.of_body Bd
  have e0 : s₁.heap = h0 := by rw [← hh, Bd.state]; rfl
  have N0 := Fr.nil n0
  have hlk : meth.locks = false := BodyLoose.notSynchronized Bd
  refine Go.start (P₀ := fun s₂ o => ∃ v L, o = .returned v ∧ Q40 Z sx jl jh h0 n0 v s₂.heap L ∧ FrameEnd s o s₂ L (({ frames := 0, cells := 0, slots := 0, locals := 0 } : Room)).cells (({ frames := 0, cells := 0, slots := 0, locals := 0 } : Room)).slots) (congrArg s₁.setTop (ef_40 m (0 : Int32) sx jl jh)) ?_
  intro P hP
  show Go p.tables e below P (s₁.setTop (mkF m 0 #[.val (.int (0 : Int32)), .val (.int sx), .val (.long jl), .second, .val (.long jh), .second, .unset, .unset, .unset] []))
  refine Go.step (fun t k => XS.iloadN X0.here hx rfl (hb hby d40_0) rfl  k) ?_
  show Go p.tables e below P (s₁.setTop (mkF m 1 #[.val (.int (0 : Int32)), .val (.int sx), .val (.long jl), .second, .val (.long jh), .second, .unset, .unset, .unset] [(.int (0 : Int32))]))
  refine Go.step (fun t k => XS.bipush X0.here hx rfl (hb hby d40_1) k) ?_
  show Go p.tables e below P (s₁.setTop (mkF m 3 #[.val (.int (0 : Int32)), .val (.int sx), .val (.long jl), .second, .val (.long jh), .second, .unset, .unset, .unset] [(.int (8 : Int32)), (.int (0 : Int32))]))
  refine Go.step (fun t k => XS.icmpNo X0.here hx rfl (hb hby d40_3) rfl (icN (cd := .ge) (by decide : ¬ ((8 : Int) ≤ (0 : Int)))) k) ?_
  show Go p.tables e below P (s₁.setTop (mkF m 6 #[.val (.int (0 : Int32)), .val (.int sx), .val (.long jl), .second, .val (.long jh), .second, .unset, .unset, .unset] []))
  refine Go.step (fun t k => XS.lloadN X0.here hx rfl (hb hby d40_6) rfl  k) ?_
  show Go p.tables e below P (s₁.setTop (mkF m 7 #[.val (.int (0 : Int32)), .val (.int sx), .val (.long jl), .second, .val (.long jh), .second, .unset, .unset, .unset] [(.long jl)]))
  refine Go.step (fun t k => XS.goto X0.here hx rfl (pc0 := 7) (pc' := 12) rfl (hb hby d40_7) (by decide) (by decide) k) ?_
  show Go p.tables e below P (s₁.setTop (mkF m 12 #[.val (.int (0 : Int32)), .val (.int sx), .val (.long jl), .second, .val (.long jh), .second, .unset, .unset, .unset] [(.long jl)]))
  refine Go.step (fun t k => XS.lstore X0.here hx rfl (hb hby d40_12) rfl (l' := #[.val (.int (0 : Int32)), .val (.int sx), .val (.long jl), .second, .val (.long jh), .second, .val (.long jl), .second, .unset]) rfl k) ?_
  show Go p.tables e below P (s₁.setTop (mkF m 14 #[.val (.int (0 : Int32)), .val (.int sx), .val (.long jl), .second, .val (.long jh), .second, .val (.long jl), .second, .unset] []))
  refine Go.step (fun t k => XS.lload X0.here hx rfl (hb hby d40_14) rfl  k) ?_
  show Go p.tables e below P (s₁.setTop (mkF m 16 #[.val (.int (0 : Int32)), .val (.int sx), .val (.long jl), .second, .val (.long jh), .second, .val (.long jl), .second, .unset] [(.long jl)]))
  refine Go.step (fun t k => XS.bipush X0.here hx rfl (hb hby d40_16) k) ?_
  show Go p.tables e below P (s₁.setTop (mkF m 18 #[.val (.int (0 : Int32)), .val (.int sx), .val (.long jl), .second, .val (.long jh), .second, .val (.long jl), .second, .unset] [(.int (8 : Int32)), (.long jl)]))
  refine Go.step (fun t k => XS.iloadN X0.here hx rfl (hb hby d40_18) rfl  k) ?_
  show Go p.tables e below P (s₁.setTop (mkF m 19 #[.val (.int (0 : Int32)), .val (.int sx), .val (.long jl), .second, .val (.long jh), .second, .val (.long jl), .second, .unset] [(.int (0 : Int32)), (.int (8 : Int32)), (.long jl)]))
  refine Go.step (fun t k => XS.bipush X0.here hx rfl (hb hby d40_19) k) ?_
  show Go p.tables e below P (s₁.setTop (mkF m 21 #[.val (.int (0 : Int32)), .val (.int sx), .val (.long jl), .second, .val (.long jh), .second, .val (.long jl), .second, .unset] [(.int (7 : Int32)), (.int (0 : Int32)), (.int (8 : Int32)), (.long jl)]))
  obtain ⟨fl_1, hfl_1⟩ : ∃ z : Int32, (0 : Int32) &&& (7 : Int32) = z := ⟨_, rfl⟩
  refine Go.step (fun t k => iand_v X0.here hx rfl (hb hby d40_21) rfl  hfl_1 k) ?_
  show Go p.tables e below P (s₁.setTop (mkF m 22 #[.val (.int (0 : Int32)), .val (.int sx), .val (.long jl), .second, .val (.long jh), .second, .val (.long jl), .second, .unset] [(.int fl_1), (.int (8 : Int32)), (.long jl)]))
  have ez_fl_1 : fl_1 = (0 : Int32) := by rw [← hfl_1]; rfl
  subst ez_fl_1
  show Go p.tables e below P (s₁.setTop (mkF m 22 #[.val (.int (0 : Int32)), .val (.int sx), .val (.long jl), .second, .val (.long jh), .second, .val (.long jl), .second, .unset] [(.int (0 : Int32)), (.int (8 : Int32)), (.long jl)]))
  obtain ⟨fl_2, hfl_2⟩ : ∃ z : Int32, (8 : Int32) * (0 : Int32) = z := ⟨_, rfl⟩
  refine Go.step (fun t k => imul_v X0.here hx rfl (hb hby d40_22) rfl  hfl_2 k) ?_
  show Go p.tables e below P (s₁.setTop (mkF m 23 #[.val (.int (0 : Int32)), .val (.int sx), .val (.long jl), .second, .val (.long jh), .second, .val (.long jl), .second, .unset] [(.int fl_2), (.long jl)]))
  have ez_fl_2 : fl_2 = (0 : Int32) := by rw [← hfl_2]; rfl
  subst ez_fl_2
  show Go p.tables e below P (s₁.setTop (mkF m 23 #[.val (.int (0 : Int32)), .val (.int sx), .val (.long jl), .second, .val (.long jh), .second, .val (.long jl), .second, .unset] [(.int (0 : Int32)), (.long jl)]))
  obtain ⟨j23, hj23⟩ : ∃ z : Int64, ((jl.toUInt64 >>> ((0 : Int32) &&& 0x3f).toInt64.toUInt64).toInt64) = z := ⟨_, rfl⟩
  refine Go.step (fun t k => lushr_v X0.here hx rfl (hb hby d40_23) rfl  hj23 k) ?_
  show Go p.tables e below P (s₁.setTop (mkF m 24 #[.val (.int (0 : Int32)), .val (.int sx), .val (.long jl), .second, .val (.long jh), .second, .val (.long jl), .second, .unset] [(.long j23)]))
  refine Go.step (fun t k => X0.ldc2Long hx hown (mvT hZ (hw _ (List.mem_of_getElem? (i := 67) rfl))) (g := (mkF m 24 #[.val (.int (0 : Int32)), .val (.int sx), .val (.long jl), .second, .val (.long jh), .second, .val (.long jl), .second, .unset] [(.long j23)])) rfl (hb hby d40_24) t k) ?_
  show Go p.tables e below P (s₁.setTop (mkF m 27 #[.val (.int (0 : Int32)), .val (.int sx), .val (.long jl), .second, .val (.long jh), .second, .val (.long jl), .second, .unset] [(.long (255 : Int64)), (.long j23)]))
  obtain ⟨j27, hj27⟩ : ∃ z : Int64, j23 &&& (255 : Int64) = z := ⟨_, rfl⟩
  refine Go.step (fun t k => land_v X0.here hx rfl (hb hby d40_27) rfl  hj27 k) ?_
  show Go p.tables e below P (s₁.setTop (mkF m 28 #[.val (.int (0 : Int32)), .val (.int sx), .val (.long jl), .second, .val (.long jh), .second, .val (.long jl), .second, .unset] [(.long j27)]))
  obtain ⟨i28, hi28⟩ : ∃ z : Int32, j27.toInt32 = z := ⟨_, rfl⟩
  refine Go.step (fun t k => l2i_v X0.here hx rfl (hb hby d40_28) rfl hi28 k) ?_
  show Go p.tables e below P (s₁.setTop (mkF m 29 #[.val (.int (0 : Int32)), .val (.int sx), .val (.long jl), .second, .val (.long jh), .second, .val (.long jl), .second, .unset] [(.int i28)]))
  have f27 := c_maskL j23 (255 : Int64) 8 (by decide) rfl; rw [hj27] at f27
  have f28 := c_l2i j27; rw [hi28] at f28
  have g28 := rng32 i28
  have v28 : 0 ≤ i28.toInt ∧ i28.toInt ≤ 255 := by omega
  clear f27 f28
  refine Go.step (fun t k => XS.istore X0.here hx rfl (hb hby d40_29) rfl (l' := #[.val (.int (0 : Int32)), .val (.int sx), .val (.long jl), .second, .val (.long jh), .second, .val (.long jl), .second, .val (.int i28)]) rfl k) ?_
  show Go p.tables e below P (s₁.setTop (mkF m 31 #[.val (.int (0 : Int32)), .val (.int sx), .val (.long jl), .second, .val (.long jh), .second, .val (.long jl), .second, .val (.int i28)] []))
  refine Go.step (fun t k => XS.iloadN X0.here hx rfl (hb hby d40_31) rfl  k) ?_
  show Go p.tables e below P (s₁.setTop (mkF m 32 #[.val (.int (0 : Int32)), .val (.int sx), .val (.long jl), .second, .val (.long jh), .second, .val (.long jl), .second, .val (.int i28)] [(.int sx)]))
  refine Go.step (fun t k => XS.iloadN X0.here hx rfl (hb hby d40_32) rfl  k) ?_
  show Go p.tables e below P (s₁.setTop (mkF m 33 #[.val (.int (0 : Int32)), .val (.int sx), .val (.long jl), .second, .val (.long jh), .second, .val (.long jl), .second, .val (.int i28)] [(.int (0 : Int32)), (.int sx)]))
  obtain ⟨i33, hi33⟩ : ∃ z : Int32, ((sx.toUInt32 >>> ((0 : Int32) &&& 31).toUInt32).toInt32) = z := ⟨_, rfl⟩
  refine Go.step (fun t k => iushr_v X0.here hx rfl (hb hby d40_33) rfl  hi33 k) ?_
  show Go p.tables e below P (s₁.setTop (mkF m 34 #[.val (.int (0 : Int32)), .val (.int sx), .val (.long jl), .second, .val (.long jh), .second, .val (.long jl), .second, .val (.int i28)] [(.int i33)]))
  refine Go.step (fun t k => XS.iconst X0.here hx rfl (hb hby d40_34) k) ?_
  show Go p.tables e below P (s₁.setTop (mkF m 35 #[.val (.int (0 : Int32)), .val (.int sx), .val (.long jl), .second, .val (.long jh), .second, .val (.long jl), .second, .val (.int i28)] [(.int (1 : Int32)), (.int i33)]))
  obtain ⟨i35, hi35⟩ : ∃ z : Int32, i33 &&& (1 : Int32) = z := ⟨_, rfl⟩
  refine Go.step (fun t k => iand_v X0.here hx rfl (hb hby d40_35) rfl  hi35 k) ?_
  show Go p.tables e below P (s₁.setTop (mkF m 36 #[.val (.int (0 : Int32)), .val (.int sx), .val (.long jl), .second, .val (.long jh), .second, .val (.long jl), .second, .val (.int i28)] [(.int i35)]))
  have fz := ushr0 sx; rw [hi33] at fz
  have fm := c_mask i33 (1 : Int32) 1 (by decide) rfl; rw [hi35] at fm
  have hbit : i35.toInt = bit sx 0 := by unfold bit; omega
  have hb01 := bit01 sx 0
  clear fz fm
  by_cases hc36 : i35.toInt = 0
  · refine Go.step (fun t k => XS.ifYes X0.here hx rfl (pc0 := 36) (pc' := 59) rfl (hb hby d40_36) rfl (ifY (cd := .eq) hc36) (by decide) (by decide) k) ?_
    show Go p.tables e below P (s₁.setTop (mkF m 59 #[.val (.int (0 : Int32)), .val (.int sx), .val (.long jl), .second, .val (.long jh), .second, .val (.long jl), .second, .val (.int i28)] []))
    refine Go.step (fun t k => XS.iload X0.here hx rfl (hb hby d40_59) rfl  k) ?_
    show Go p.tables e below P (s₁.setTop (mkF m 61 #[.val (.int (0 : Int32)), .val (.int sx), .val (.long jl), .second, .val (.long jh), .second, .val (.long jl), .second, .val (.int i28)] [(.int i28)]))
    obtain ⟨i61, hi61⟩ : ∃ z : Int32, i28.toUInt32.toUInt16.toUInt32.toInt32 = z := ⟨_, rfl⟩
    refine Go.step (fun t k => i2c_v X0.here hx rfl (hb hby d40_61) rfl hi61 k) ?_
    show Go p.tables e below P (s₁.setTop (mkF m 62 #[.val (.int (0 : Int32)), .val (.int sx), .val (.long jl), .second, .val (.long jh), .second, .val (.long jl), .second, .val (.int i28)] [(.int i61)]))
    have f61 := c_i2c i28; rw [hi61] at f61
    exact retGo X0 hx hP Bd.returns hlk (nar_c (by omega)) (Or.inl ⟨rfl, Or.inr (Or.inr (Or.inr (Or.inl rfl))), _, rfl⟩) (hb hby d40_62) (by decide) (by decide) (by rw [e0]; exact ⟨i61, rfl, by unfold Ok; omega, N0, rfl⟩)
  · refine Go.step (fun t k => XS.ifNo X0.here hx rfl (hb hby d40_36) rfl (ifN (cd := .eq) hc36) k) ?_
    show Go p.tables e below P (s₁.setTop (mkF m 39 #[.val (.int (0 : Int32)), .val (.int sx), .val (.long jl), .second, .val (.long jh), .second, .val (.long jl), .second, .val (.int i28)] []))
    refine Go.step (fun t k => XS.iloadN X0.here hx rfl (hb hby d40_39) rfl  k) ?_
    show Go p.tables e below P (s₁.setTop (mkF m 40 #[.val (.int (0 : Int32)), .val (.int sx), .val (.long jl), .second, .val (.long jh), .second, .val (.long jl), .second, .val (.int i28)] [(.int (0 : Int32))]))
    refine Go.step (fun t k => XS.iconst X0.here hx rfl (hb hby d40_40) k) ?_
    show Go p.tables e below P (s₁.setTop (mkF m 41 #[.val (.int (0 : Int32)), .val (.int sx), .val (.long jl), .second, .val (.long jh), .second, .val (.long jl), .second, .val (.int i28)] [(.int (1 : Int32)), (.int (0 : Int32))]))
    obtain ⟨fl_3, hfl_3⟩ : ∃ z : Int32, (0 : Int32) &&& (1 : Int32) = z := ⟨_, rfl⟩
    refine Go.step (fun t k => iand_v X0.here hx rfl (hb hby d40_41) rfl  hfl_3 k) ?_
    show Go p.tables e below P (s₁.setTop (mkF m 42 #[.val (.int (0 : Int32)), .val (.int sx), .val (.long jl), .second, .val (.long jh), .second, .val (.long jl), .second, .val (.int i28)] [(.int fl_3)]))
    have ez_fl_3 : fl_3 = (0 : Int32) := by rw [← hfl_3]; rfl
    subst ez_fl_3
    show Go p.tables e below P (s₁.setTop (mkF m 42 #[.val (.int (0 : Int32)), .val (.int sx), .val (.long jl), .second, .val (.long jh), .second, .val (.long jl), .second, .val (.int i28)] [(.int (0 : Int32))]))
    refine Go.step (fun t k => XS.ifNo X0.here hx rfl (hb hby d40_42) rfl (ifN (cd := .ne) (by decide : ¬ (¬ (0 : Int) = 0))) k) ?_
    show Go p.tables e below P (s₁.setTop (mkF m 45 #[.val (.int (0 : Int32)), .val (.int sx), .val (.long jl), .second, .val (.long jh), .second, .val (.long jl), .second, .val (.int i28)] []))
    refine Go.step (fun t k => X0.ldcInt hx hown (mvT hZ (hw _ (List.mem_of_getElem? (i := 68) rfl))) (g := (mkF m 45 #[.val (.int (0 : Int32)), .val (.int sx), .val (.long jl), .second, .val (.long jh), .second, .val (.long jl), .second, .val (.int i28)] [])) rfl (hb hby d40_45) t k) ?_
    show Go p.tables e below P (s₁.setTop (mkF m 47 #[.val (.int (0 : Int32)), .val (.int sx), .val (.long jl), .second, .val (.long jh), .second, .val (.long jl), .second, .val (.int i28)] [(.int (55296 : Int32))]))
    refine Go.step (fun t k => XS.iload X0.here hx rfl (hb hby d40_47) rfl  k) ?_
    show Go p.tables e below P (s₁.setTop (mkF m 49 #[.val (.int (0 : Int32)), .val (.int sx), .val (.long jl), .second, .val (.long jh), .second, .val (.long jl), .second, .val (.int i28)] [(.int i28), (.int (55296 : Int32))]))
    obtain ⟨i49, hi49⟩ : ∃ z : Int32, (55296 : Int32) ||| i28 = z := ⟨_, rfl⟩
    refine Go.step (fun t k => ior_v X0.here hx rfl (hb hby d40_49) rfl  hi49 k) ?_
    show Go p.tables e below P (s₁.setTop (mkF m 50 #[.val (.int (0 : Int32)), .val (.int sx), .val (.long jl), .second, .val (.long jh), .second, .val (.long jl), .second, .val (.int i28)] [(.int i49)]))
    obtain ⟨i50, hi50⟩ : ∃ z : Int32, i49.toUInt32.toUInt16.toUInt32.toInt32 = z := ⟨_, rfl⟩
    refine Go.step (fun t k => i2c_v X0.here hx rfl (hb hby d40_50) rfl hi50 k) ?_
    show Go p.tables e below P (s₁.setTop (mkF m 51 #[.val (.int (0 : Int32)), .val (.int sx), .val (.long jl), .second, .val (.long jh), .second, .val (.long jl), .second, .val (.int i28)] [(.int i50)]))
    have e5 : (55296 : Int32).toInt = 55296 := rfl
    have fo := c_or (55296 : Int32) i28 8 (by decide) 256 rfl (by omega) (by omega) (by omega); rw [hi49, e5] at fo
    have go := rng32 i49
    have fc := c_i2c i49; rw [hi50] at fc
    exact retGo X0 hx hP Bd.returns hlk (nar_c (by omega)) (Or.inl ⟨rfl, Or.inr (Or.inr (Or.inr (Or.inl rfl))), _, rfl⟩) (hb hby d40_51) (by decide) (by decide) (by rw [e0]; exact ⟨i50, rfl, by unfold Ok; omega, N0, rfl⟩)
theorem d41_0 : decode method_3_code 0 = .ok (.iload_n 0, 1) := by decide +kernel
theorem d41_1 : decode method_3_code 1 = .ok (.bipush 8, 2) := by decide +kernel
theorem d41_3 : decode method_3_code 3 = .ok (.if_icmp .ge 7, 3) := by decide +kernel
theorem d41_6 : decode method_3_code 6 = .ok (.lload_n 2, 1) := by decide +kernel
theorem d41_7 : decode method_3_code 7 = .ok (.goto 5, 3) := by decide +kernel
theorem d41_12 : decode method_3_code 12 = .ok (.lstore 6, 2) := by decide +kernel
theorem d41_14 : decode method_3_code 14 = .ok (.lload 6, 2) := by decide +kernel
theorem d41_16 : decode method_3_code 16 = .ok (.bipush 8, 2) := by decide +kernel
theorem d41_18 : decode method_3_code 18 = .ok (.iload_n 0, 1) := by decide +kernel
theorem d41_19 : decode method_3_code 19 = .ok (.bipush 7, 2) := by decide +kernel
theorem d41_21 : decode method_3_code 21 = .ok (.iand, 1) := by decide +kernel
theorem d41_22 : decode method_3_code 22 = .ok (.imul, 1) := by decide +kernel
theorem d41_23 : decode method_3_code 23 = .ok (.lushr, 1) := by decide +kernel
theorem d41_24 : decode method_3_code 24 = .ok (.ldc2_w 29, 3) := by decide +kernel
theorem d41_27 : decode method_3_code 27 = .ok (.land, 1) := by decide +kernel
theorem d41_28 : decode method_3_code 28 = .ok (.l2i, 1) := by decide +kernel
theorem d41_29 : decode method_3_code 29 = .ok (.istore 8, 2) := by decide +kernel
theorem d41_31 : decode method_3_code 31 = .ok (.iload_n 1, 1) := by decide +kernel
theorem d41_32 : decode method_3_code 32 = .ok (.iload_n 0, 1) := by decide +kernel
theorem d41_33 : decode method_3_code 33 = .ok (.iushr, 1) := by decide +kernel
theorem d41_34 : decode method_3_code 34 = .ok (.iconst 1, 1) := by decide +kernel
theorem d41_35 : decode method_3_code 35 = .ok (.iand, 1) := by decide +kernel
theorem d41_36 : decode method_3_code 36 = .ok (.ifCond .eq 23, 3) := by decide +kernel
theorem d41_39 : decode method_3_code 39 = .ok (.iload_n 0, 1) := by decide +kernel
theorem d41_40 : decode method_3_code 40 = .ok (.iconst 1, 1) := by decide +kernel
theorem d41_41 : decode method_3_code 41 = .ok (.iand, 1) := by decide +kernel
theorem d41_42 : decode method_3_code 42 = .ok (.ifCond .ne 10, 3) := by decide +kernel
theorem d41_52 : decode method_3_code 52 = .ok (.ldc 32, 2) := by decide +kernel
theorem d41_54 : decode method_3_code 54 = .ok (.iload 8, 2) := by decide +kernel
theorem d41_56 : decode method_3_code 56 = .ok (.ior, 1) := by decide +kernel
theorem d41_57 : decode method_3_code 57 = .ok (.i2c, 1) := by decide +kernel
theorem d41_58 : decode method_3_code 58 = .ok (.ireturn, 1) := by decide +kernel
theorem d41_59 : decode method_3_code 59 = .ok (.iload 8, 2) := by decide +kernel
theorem d41_61 : decode method_3_code 61 = .ok (.i2c, 1) := by decide +kernel
theorem d41_62 : decode method_3_code 62 = .ok (.ireturn, 1) := by decide +kernel
theorem pn_41 : plainName "com/example/wrasse/wrasse/WordsToleratedEditsPinLaw" = true := by first | (simp [plainName, overriddenIn]; done) | decide +kernel
theorem ef_41 (m : MethodId) (x0 : Int32) (x1 : Int32) (x2 : Int64) (x3 : Int64) : entryFrame m #[(.int x0), (.int x1), (.long x2), (.long x3)] 9 = mkF m 0 #[.val (.int x0), .val (.int x1), .val (.long x2), .second, .val (.long x3), .second, .unset, .unset, .unset] [] := by first | (simp [entryFrame, mkF, argsToLocals, Value.category]; done) | rfl
def Q41 (Z : State) (sx : Int32) (jl : Int64) (jh : Int64) (h0 : Heap) (n0 : Nat) (v : Option Value) (h : Heap) (L : List Loc) : Prop := ∃ r : Int32, v = some (.int r) ∧ Ok sx 1 r ∧ Fr n0 L ∧ h = h0
set_option maxRecDepth 65536 in
set_option maxHeartbeats 40000000 in
theorem ch1 (l : Launch) (Z : State) (a0 : Array Value) (hw : ∀ d ∈ tables_1, d.before a0 Z = true) (ws : List Jvm.Cond) (sx : Int32) (jl : Int64) (jh : Int64) (h0 : Heap) (n0 : Nat) (Z0 : n0 ≤ h0.size) :
    MetFree l (⟨"com/example/wrasse/wrasse/WordsToleratedEditsPinLaw", "ch", "(IIJJ)C"⟩ : MethodName) (head1 (Jvm.Cond.code (⟨"com/example/wrasse/wrasse/WordsToleratedEditsPinLaw", "ch", "(IIJJ)C"⟩ : MethodName) method_3_code 9 (some .char) :: ws) ({ frames := 0, cells := 0, slots := 0, locals := 0 } : Room)) (fun a_ U => a_ = #[(.int (1 : Int32)), (.int sx), (.long jl), (.long jh)] ∧ Z.Warmed39 U.vm ∧ U.heap = h0) (fun _ _ _ _ _ => True) (fun _ U o U' => ∃ v L, o = .returned v ∧ Q41 Z sx jl jh h0 n0 v U'.heap L ∧ FrameEnd U o U' L (({ frames := 0, cells := 0, slots := 0, locals := 0 } : Room)).cells (({ frames := 0, cells := 0, slots := 0, locals := 0 } : Room)).slots) := by
  refine MetFree.of_bodySF (plainFor_of_name pn_41) hisR ?_
  intro p e s m args below meth c s₁ Bd hml0 hP0 hK
  obtain ⟨rfl, hZ, hh⟩ := hP0
  have hx := Bd.exec
  have hby := Bd.bytes
  have hml : c.maxLocals = 9 := hml0
  have hown : s.vm.findClass "com/example/wrasse/wrasse/WordsToleratedEditsPinLaw" = some m.cls := findClass_of_methodNamed Bd.named
  have hnm := (name_of_methodNamed Bd.named Bd.method).1
  have X0 : Stand p l e ({ frames := 0, cells := 0, slots := 0, locals := 0 } : Room) s m #[(.int (1 : Int32)), (.int sx), (.long jl), (.long jh)] below meth c s₁ [] 0 0 := Stand.of_body Bd
  have e0 : s₁.heap = h0 := by rw [← hh, Bd.state]; rfl
  have N0 := Fr.nil n0
  have hlk : meth.locks = false := BodyLoose.notSynchronized Bd
  refine Go.start (P₀ := fun s₂ o => ∃ v L, o = .returned v ∧ Q41 Z sx jl jh h0 n0 v s₂.heap L ∧ FrameEnd s o s₂ L (({ frames := 0, cells := 0, slots := 0, locals := 0 } : Room)).cells (({ frames := 0, cells := 0, slots := 0, locals := 0 } : Room)).slots) (congrArg s₁.setTop (ef_41 m (1 : Int32) sx jl jh)) ?_
  intro P hP
  show Go p.tables e below P (s₁.setTop (mkF m 0 #[.val (.int (1 : Int32)), .val (.int sx), .val (.long jl), .second, .val (.long jh), .second, .unset, .unset, .unset] []))
  refine Go.step (fun t k => XS.iloadN X0.here hx rfl (hb hby d41_0) rfl  k) ?_
  show Go p.tables e below P (s₁.setTop (mkF m 1 #[.val (.int (1 : Int32)), .val (.int sx), .val (.long jl), .second, .val (.long jh), .second, .unset, .unset, .unset] [(.int (1 : Int32))]))
  refine Go.step (fun t k => XS.bipush X0.here hx rfl (hb hby d41_1) k) ?_
  show Go p.tables e below P (s₁.setTop (mkF m 3 #[.val (.int (1 : Int32)), .val (.int sx), .val (.long jl), .second, .val (.long jh), .second, .unset, .unset, .unset] [(.int (8 : Int32)), (.int (1 : Int32))]))
  refine Go.step (fun t k => XS.icmpNo X0.here hx rfl (hb hby d41_3) rfl (icN (cd := .ge) (by decide : ¬ ((8 : Int) ≤ (1 : Int)))) k) ?_
  show Go p.tables e below P (s₁.setTop (mkF m 6 #[.val (.int (1 : Int32)), .val (.int sx), .val (.long jl), .second, .val (.long jh), .second, .unset, .unset, .unset] []))
  refine Go.step (fun t k => XS.lloadN X0.here hx rfl (hb hby d41_6) rfl  k) ?_
  show Go p.tables e below P (s₁.setTop (mkF m 7 #[.val (.int (1 : Int32)), .val (.int sx), .val (.long jl), .second, .val (.long jh), .second, .unset, .unset, .unset] [(.long jl)]))
  refine Go.step (fun t k => XS.goto X0.here hx rfl (pc0 := 7) (pc' := 12) rfl (hb hby d41_7) (by decide) (by decide) k) ?_
  show Go p.tables e below P (s₁.setTop (mkF m 12 #[.val (.int (1 : Int32)), .val (.int sx), .val (.long jl), .second, .val (.long jh), .second, .unset, .unset, .unset] [(.long jl)]))
  refine Go.step (fun t k => XS.lstore X0.here hx rfl (hb hby d41_12) rfl (l' := #[.val (.int (1 : Int32)), .val (.int sx), .val (.long jl), .second, .val (.long jh), .second, .val (.long jl), .second, .unset]) rfl k) ?_
  show Go p.tables e below P (s₁.setTop (mkF m 14 #[.val (.int (1 : Int32)), .val (.int sx), .val (.long jl), .second, .val (.long jh), .second, .val (.long jl), .second, .unset] []))
  refine Go.step (fun t k => XS.lload X0.here hx rfl (hb hby d41_14) rfl  k) ?_
  show Go p.tables e below P (s₁.setTop (mkF m 16 #[.val (.int (1 : Int32)), .val (.int sx), .val (.long jl), .second, .val (.long jh), .second, .val (.long jl), .second, .unset] [(.long jl)]))
  refine Go.step (fun t k => XS.bipush X0.here hx rfl (hb hby d41_16) k) ?_
  show Go p.tables e below P (s₁.setTop (mkF m 18 #[.val (.int (1 : Int32)), .val (.int sx), .val (.long jl), .second, .val (.long jh), .second, .val (.long jl), .second, .unset] [(.int (8 : Int32)), (.long jl)]))
  refine Go.step (fun t k => XS.iloadN X0.here hx rfl (hb hby d41_18) rfl  k) ?_
  show Go p.tables e below P (s₁.setTop (mkF m 19 #[.val (.int (1 : Int32)), .val (.int sx), .val (.long jl), .second, .val (.long jh), .second, .val (.long jl), .second, .unset] [(.int (1 : Int32)), (.int (8 : Int32)), (.long jl)]))
  refine Go.step (fun t k => XS.bipush X0.here hx rfl (hb hby d41_19) k) ?_
  show Go p.tables e below P (s₁.setTop (mkF m 21 #[.val (.int (1 : Int32)), .val (.int sx), .val (.long jl), .second, .val (.long jh), .second, .val (.long jl), .second, .unset] [(.int (7 : Int32)), (.int (1 : Int32)), (.int (8 : Int32)), (.long jl)]))
  obtain ⟨fl_1, hfl_1⟩ : ∃ z : Int32, (1 : Int32) &&& (7 : Int32) = z := ⟨_, rfl⟩
  refine Go.step (fun t k => iand_v X0.here hx rfl (hb hby d41_21) rfl  hfl_1 k) ?_
  show Go p.tables e below P (s₁.setTop (mkF m 22 #[.val (.int (1 : Int32)), .val (.int sx), .val (.long jl), .second, .val (.long jh), .second, .val (.long jl), .second, .unset] [(.int fl_1), (.int (8 : Int32)), (.long jl)]))
  have ez_fl_1 : fl_1 = (1 : Int32) := by rw [← hfl_1]; rfl
  subst ez_fl_1
  show Go p.tables e below P (s₁.setTop (mkF m 22 #[.val (.int (1 : Int32)), .val (.int sx), .val (.long jl), .second, .val (.long jh), .second, .val (.long jl), .second, .unset] [(.int (1 : Int32)), (.int (8 : Int32)), (.long jl)]))
  obtain ⟨fl_2, hfl_2⟩ : ∃ z : Int32, (8 : Int32) * (1 : Int32) = z := ⟨_, rfl⟩
  refine Go.step (fun t k => imul_v X0.here hx rfl (hb hby d41_22) rfl  hfl_2 k) ?_
  show Go p.tables e below P (s₁.setTop (mkF m 23 #[.val (.int (1 : Int32)), .val (.int sx), .val (.long jl), .second, .val (.long jh), .second, .val (.long jl), .second, .unset] [(.int fl_2), (.long jl)]))
  have ez_fl_2 : fl_2 = (8 : Int32) := by rw [← hfl_2]; rfl
  subst ez_fl_2
  show Go p.tables e below P (s₁.setTop (mkF m 23 #[.val (.int (1 : Int32)), .val (.int sx), .val (.long jl), .second, .val (.long jh), .second, .val (.long jl), .second, .unset] [(.int (8 : Int32)), (.long jl)]))
  obtain ⟨j23, hj23⟩ : ∃ z : Int64, ((jl.toUInt64 >>> ((8 : Int32) &&& 0x3f).toInt64.toUInt64).toInt64) = z := ⟨_, rfl⟩
  refine Go.step (fun t k => lushr_v X0.here hx rfl (hb hby d41_23) rfl  hj23 k) ?_
  show Go p.tables e below P (s₁.setTop (mkF m 24 #[.val (.int (1 : Int32)), .val (.int sx), .val (.long jl), .second, .val (.long jh), .second, .val (.long jl), .second, .unset] [(.long j23)]))
  refine Go.step (fun t k => X0.ldc2Long hx hown (mvT hZ (hw _ (List.mem_of_getElem? (i := 67) rfl))) (g := (mkF m 24 #[.val (.int (1 : Int32)), .val (.int sx), .val (.long jl), .second, .val (.long jh), .second, .val (.long jl), .second, .unset] [(.long j23)])) rfl (hb hby d41_24) t k) ?_
  show Go p.tables e below P (s₁.setTop (mkF m 27 #[.val (.int (1 : Int32)), .val (.int sx), .val (.long jl), .second, .val (.long jh), .second, .val (.long jl), .second, .unset] [(.long (255 : Int64)), (.long j23)]))
  obtain ⟨j27, hj27⟩ : ∃ z : Int64, j23 &&& (255 : Int64) = z := ⟨_, rfl⟩
  refine Go.step (fun t k => land_v X0.here hx rfl (hb hby d41_27) rfl  hj27 k) ?_
  show Go p.tables e below P (s₁.setTop (mkF m 28 #[.val (.int (1 : Int32)), .val (.int sx), .val (.long jl), .second, .val (.long jh), .second, .val (.long jl), .second, .unset] [(.long j27)]))
  obtain ⟨i28, hi28⟩ : ∃ z : Int32, j27.toInt32 = z := ⟨_, rfl⟩
  refine Go.step (fun t k => l2i_v X0.here hx rfl (hb hby d41_28) rfl hi28 k) ?_
  show Go p.tables e below P (s₁.setTop (mkF m 29 #[.val (.int (1 : Int32)), .val (.int sx), .val (.long jl), .second, .val (.long jh), .second, .val (.long jl), .second, .unset] [(.int i28)]))
  have f27 := c_maskL j23 (255 : Int64) 8 (by decide) rfl; rw [hj27] at f27
  have f28 := c_l2i j27; rw [hi28] at f28
  have g28 := rng32 i28
  have v28 : 0 ≤ i28.toInt ∧ i28.toInt ≤ 255 := by omega
  clear f27 f28
  refine Go.step (fun t k => XS.istore X0.here hx rfl (hb hby d41_29) rfl (l' := #[.val (.int (1 : Int32)), .val (.int sx), .val (.long jl), .second, .val (.long jh), .second, .val (.long jl), .second, .val (.int i28)]) rfl k) ?_
  show Go p.tables e below P (s₁.setTop (mkF m 31 #[.val (.int (1 : Int32)), .val (.int sx), .val (.long jl), .second, .val (.long jh), .second, .val (.long jl), .second, .val (.int i28)] []))
  refine Go.step (fun t k => XS.iloadN X0.here hx rfl (hb hby d41_31) rfl  k) ?_
  show Go p.tables e below P (s₁.setTop (mkF m 32 #[.val (.int (1 : Int32)), .val (.int sx), .val (.long jl), .second, .val (.long jh), .second, .val (.long jl), .second, .val (.int i28)] [(.int sx)]))
  refine Go.step (fun t k => XS.iloadN X0.here hx rfl (hb hby d41_32) rfl  k) ?_
  show Go p.tables e below P (s₁.setTop (mkF m 33 #[.val (.int (1 : Int32)), .val (.int sx), .val (.long jl), .second, .val (.long jh), .second, .val (.long jl), .second, .val (.int i28)] [(.int (1 : Int32)), (.int sx)]))
  obtain ⟨i33, hi33⟩ : ∃ z : Int32, ((sx.toUInt32 >>> ((1 : Int32) &&& 31).toUInt32).toInt32) = z := ⟨_, rfl⟩
  refine Go.step (fun t k => iushr_v X0.here hx rfl (hb hby d41_33) rfl  hi33 k) ?_
  show Go p.tables e below P (s₁.setTop (mkF m 34 #[.val (.int (1 : Int32)), .val (.int sx), .val (.long jl), .second, .val (.long jh), .second, .val (.long jl), .second, .val (.int i28)] [(.int i33)]))
  refine Go.step (fun t k => XS.iconst X0.here hx rfl (hb hby d41_34) k) ?_
  show Go p.tables e below P (s₁.setTop (mkF m 35 #[.val (.int (1 : Int32)), .val (.int sx), .val (.long jl), .second, .val (.long jh), .second, .val (.long jl), .second, .val (.int i28)] [(.int (1 : Int32)), (.int i33)]))
  obtain ⟨i35, hi35⟩ : ∃ z : Int32, i33 &&& (1 : Int32) = z := ⟨_, rfl⟩
  refine Go.step (fun t k => iand_v X0.here hx rfl (hb hby d41_35) rfl  hi35 k) ?_
  show Go p.tables e below P (s₁.setTop (mkF m 36 #[.val (.int (1 : Int32)), .val (.int sx), .val (.long jl), .second, .val (.long jh), .second, .val (.long jl), .second, .val (.int i28)] [(.int i35)]))
  have fz := c_iushr sx (1 : Int32) 1 rfl (by decide); rw [hi33] at fz
  have fm := c_mask i33 (1 : Int32) 1 (by decide) rfl; rw [hi35] at fm
  have hbit : i35.toInt = bit sx 1 := by unfold bit; omega
  have hb01 := bit01 sx 1
  clear fz fm
  by_cases hc36 : i35.toInt = 0
  · refine Go.step (fun t k => XS.ifYes X0.here hx rfl (pc0 := 36) (pc' := 59) rfl (hb hby d41_36) rfl (ifY (cd := .eq) hc36) (by decide) (by decide) k) ?_
    show Go p.tables e below P (s₁.setTop (mkF m 59 #[.val (.int (1 : Int32)), .val (.int sx), .val (.long jl), .second, .val (.long jh), .second, .val (.long jl), .second, .val (.int i28)] []))
    refine Go.step (fun t k => XS.iload X0.here hx rfl (hb hby d41_59) rfl  k) ?_
    show Go p.tables e below P (s₁.setTop (mkF m 61 #[.val (.int (1 : Int32)), .val (.int sx), .val (.long jl), .second, .val (.long jh), .second, .val (.long jl), .second, .val (.int i28)] [(.int i28)]))
    obtain ⟨i61, hi61⟩ : ∃ z : Int32, i28.toUInt32.toUInt16.toUInt32.toInt32 = z := ⟨_, rfl⟩
    refine Go.step (fun t k => i2c_v X0.here hx rfl (hb hby d41_61) rfl hi61 k) ?_
    show Go p.tables e below P (s₁.setTop (mkF m 62 #[.val (.int (1 : Int32)), .val (.int sx), .val (.long jl), .second, .val (.long jh), .second, .val (.long jl), .second, .val (.int i28)] [(.int i61)]))
    have f61 := c_i2c i28; rw [hi61] at f61
    exact retGo X0 hx hP Bd.returns hlk (nar_c (by omega)) (Or.inl ⟨rfl, Or.inr (Or.inr (Or.inr (Or.inl rfl))), _, rfl⟩) (hb hby d41_62) (by decide) (by decide) (by rw [e0]; exact ⟨i61, rfl, by unfold Ok; omega, N0, rfl⟩)
  · refine Go.step (fun t k => XS.ifNo X0.here hx rfl (hb hby d41_36) rfl (ifN (cd := .eq) hc36) k) ?_
    show Go p.tables e below P (s₁.setTop (mkF m 39 #[.val (.int (1 : Int32)), .val (.int sx), .val (.long jl), .second, .val (.long jh), .second, .val (.long jl), .second, .val (.int i28)] []))
    refine Go.step (fun t k => XS.iloadN X0.here hx rfl (hb hby d41_39) rfl  k) ?_
    show Go p.tables e below P (s₁.setTop (mkF m 40 #[.val (.int (1 : Int32)), .val (.int sx), .val (.long jl), .second, .val (.long jh), .second, .val (.long jl), .second, .val (.int i28)] [(.int (1 : Int32))]))
    refine Go.step (fun t k => XS.iconst X0.here hx rfl (hb hby d41_40) k) ?_
    show Go p.tables e below P (s₁.setTop (mkF m 41 #[.val (.int (1 : Int32)), .val (.int sx), .val (.long jl), .second, .val (.long jh), .second, .val (.long jl), .second, .val (.int i28)] [(.int (1 : Int32)), (.int (1 : Int32))]))
    obtain ⟨fl_3, hfl_3⟩ : ∃ z : Int32, (1 : Int32) &&& (1 : Int32) = z := ⟨_, rfl⟩
    refine Go.step (fun t k => iand_v X0.here hx rfl (hb hby d41_41) rfl  hfl_3 k) ?_
    show Go p.tables e below P (s₁.setTop (mkF m 42 #[.val (.int (1 : Int32)), .val (.int sx), .val (.long jl), .second, .val (.long jh), .second, .val (.long jl), .second, .val (.int i28)] [(.int fl_3)]))
    have ez_fl_3 : fl_3 = (1 : Int32) := by rw [← hfl_3]; rfl
    subst ez_fl_3
    show Go p.tables e below P (s₁.setTop (mkF m 42 #[.val (.int (1 : Int32)), .val (.int sx), .val (.long jl), .second, .val (.long jh), .second, .val (.long jl), .second, .val (.int i28)] [(.int (1 : Int32))]))
    refine Go.step (fun t k => XS.ifYes X0.here hx rfl (pc0 := 42) (pc' := 52) rfl (hb hby d41_42) rfl (ifY (cd := .ne) (by decide : ¬ (1 : Int) = 0)) (by decide) (by decide) k) ?_
    show Go p.tables e below P (s₁.setTop (mkF m 52 #[.val (.int (1 : Int32)), .val (.int sx), .val (.long jl), .second, .val (.long jh), .second, .val (.long jl), .second, .val (.int i28)] []))
    refine Go.step (fun t k => X0.ldcInt hx hown (mvT hZ (hw _ (List.mem_of_getElem? (i := 69) rfl))) (g := (mkF m 52 #[.val (.int (1 : Int32)), .val (.int sx), .val (.long jl), .second, .val (.long jh), .second, .val (.long jl), .second, .val (.int i28)] [])) rfl (hb hby d41_52) t k) ?_
    show Go p.tables e below P (s₁.setTop (mkF m 54 #[.val (.int (1 : Int32)), .val (.int sx), .val (.long jl), .second, .val (.long jh), .second, .val (.long jl), .second, .val (.int i28)] [(.int (56320 : Int32))]))
    refine Go.step (fun t k => XS.iload X0.here hx rfl (hb hby d41_54) rfl  k) ?_
    show Go p.tables e below P (s₁.setTop (mkF m 56 #[.val (.int (1 : Int32)), .val (.int sx), .val (.long jl), .second, .val (.long jh), .second, .val (.long jl), .second, .val (.int i28)] [(.int i28), (.int (56320 : Int32))]))
    obtain ⟨i56, hi56⟩ : ∃ z : Int32, (56320 : Int32) ||| i28 = z := ⟨_, rfl⟩
    refine Go.step (fun t k => ior_v X0.here hx rfl (hb hby d41_56) rfl  hi56 k) ?_
    show Go p.tables e below P (s₁.setTop (mkF m 57 #[.val (.int (1 : Int32)), .val (.int sx), .val (.long jl), .second, .val (.long jh), .second, .val (.long jl), .second, .val (.int i28)] [(.int i56)]))
    obtain ⟨i57, hi57⟩ : ∃ z : Int32, i56.toUInt32.toUInt16.toUInt32.toInt32 = z := ⟨_, rfl⟩
    refine Go.step (fun t k => i2c_v X0.here hx rfl (hb hby d41_57) rfl hi57 k) ?_
    show Go p.tables e below P (s₁.setTop (mkF m 58 #[.val (.int (1 : Int32)), .val (.int sx), .val (.long jl), .second, .val (.long jh), .second, .val (.long jl), .second, .val (.int i28)] [(.int i57)]))
    have e5 : (56320 : Int32).toInt = 56320 := rfl
    have fo := c_or (56320 : Int32) i28 8 (by decide) 256 rfl (by omega) (by omega) (by omega); rw [hi56, e5] at fo
    have go := rng32 i56
    have fc := c_i2c i56; rw [hi57] at fc
    exact retGo X0 hx hP Bd.returns hlk (nar_c (by omega)) (Or.inl ⟨rfl, Or.inr (Or.inr (Or.inr (Or.inl rfl))), _, rfl⟩) (hb hby d41_58) (by decide) (by decide) (by rw [e0]; exact ⟨i57, rfl, by unfold Ok; omega, N0, rfl⟩)
theorem d42_0 : decode method_3_code 0 = .ok (.iload_n 0, 1) := by decide +kernel
theorem d42_1 : decode method_3_code 1 = .ok (.bipush 8, 2) := by decide +kernel
theorem d42_3 : decode method_3_code 3 = .ok (.if_icmp .ge 7, 3) := by decide +kernel
theorem d42_6 : decode method_3_code 6 = .ok (.lload_n 2, 1) := by decide +kernel
theorem d42_7 : decode method_3_code 7 = .ok (.goto 5, 3) := by decide +kernel
theorem d42_12 : decode method_3_code 12 = .ok (.lstore 6, 2) := by decide +kernel
theorem d42_14 : decode method_3_code 14 = .ok (.lload 6, 2) := by decide +kernel
theorem d42_16 : decode method_3_code 16 = .ok (.bipush 8, 2) := by decide +kernel
theorem d42_18 : decode method_3_code 18 = .ok (.iload_n 0, 1) := by decide +kernel
theorem d42_19 : decode method_3_code 19 = .ok (.bipush 7, 2) := by decide +kernel
theorem d42_21 : decode method_3_code 21 = .ok (.iand, 1) := by decide +kernel
theorem d42_22 : decode method_3_code 22 = .ok (.imul, 1) := by decide +kernel
theorem d42_23 : decode method_3_code 23 = .ok (.lushr, 1) := by decide +kernel
theorem d42_24 : decode method_3_code 24 = .ok (.ldc2_w 29, 3) := by decide +kernel
theorem d42_27 : decode method_3_code 27 = .ok (.land, 1) := by decide +kernel
theorem d42_28 : decode method_3_code 28 = .ok (.l2i, 1) := by decide +kernel
theorem d42_29 : decode method_3_code 29 = .ok (.istore 8, 2) := by decide +kernel
theorem d42_31 : decode method_3_code 31 = .ok (.iload_n 1, 1) := by decide +kernel
theorem d42_32 : decode method_3_code 32 = .ok (.iload_n 0, 1) := by decide +kernel
theorem d42_33 : decode method_3_code 33 = .ok (.iushr, 1) := by decide +kernel
theorem d42_34 : decode method_3_code 34 = .ok (.iconst 1, 1) := by decide +kernel
theorem d42_35 : decode method_3_code 35 = .ok (.iand, 1) := by decide +kernel
theorem d42_36 : decode method_3_code 36 = .ok (.ifCond .eq 23, 3) := by decide +kernel
theorem d42_39 : decode method_3_code 39 = .ok (.iload_n 0, 1) := by decide +kernel
theorem d42_40 : decode method_3_code 40 = .ok (.iconst 1, 1) := by decide +kernel
theorem d42_41 : decode method_3_code 41 = .ok (.iand, 1) := by decide +kernel
theorem d42_42 : decode method_3_code 42 = .ok (.ifCond .ne 10, 3) := by decide +kernel
theorem d42_45 : decode method_3_code 45 = .ok (.ldc 31, 2) := by decide +kernel
theorem d42_47 : decode method_3_code 47 = .ok (.iload 8, 2) := by decide +kernel
theorem d42_49 : decode method_3_code 49 = .ok (.ior, 1) := by decide +kernel
theorem d42_50 : decode method_3_code 50 = .ok (.i2c, 1) := by decide +kernel
theorem d42_51 : decode method_3_code 51 = .ok (.ireturn, 1) := by decide +kernel
theorem d42_59 : decode method_3_code 59 = .ok (.iload 8, 2) := by decide +kernel
theorem d42_61 : decode method_3_code 61 = .ok (.i2c, 1) := by decide +kernel
theorem d42_62 : decode method_3_code 62 = .ok (.ireturn, 1) := by decide +kernel
theorem pn_42 : plainName "com/example/wrasse/wrasse/WordsToleratedEditsPinLaw" = true := by first | (simp [plainName, overriddenIn]; done) | decide +kernel
theorem ef_42 (m : MethodId) (x0 : Int32) (x1 : Int32) (x2 : Int64) (x3 : Int64) : entryFrame m #[(.int x0), (.int x1), (.long x2), (.long x3)] 9 = mkF m 0 #[.val (.int x0), .val (.int x1), .val (.long x2), .second, .val (.long x3), .second, .unset, .unset, .unset] [] := by first | (simp [entryFrame, mkF, argsToLocals, Value.category]; done) | rfl
def Q42 (Z : State) (sx : Int32) (jl : Int64) (jh : Int64) (h0 : Heap) (n0 : Nat) (v : Option Value) (h : Heap) (L : List Loc) : Prop := ∃ r : Int32, v = some (.int r) ∧ Ok sx 2 r ∧ Fr n0 L ∧ h = h0
set_option maxRecDepth 65536 in
set_option maxHeartbeats 40000000 in
theorem ch2 (l : Launch) (Z : State) (a0 : Array Value) (hw : ∀ d ∈ tables_1, d.before a0 Z = true) (ws : List Jvm.Cond) (sx : Int32) (jl : Int64) (jh : Int64) (h0 : Heap) (n0 : Nat) (Z0 : n0 ≤ h0.size) :
    MetFree l (⟨"com/example/wrasse/wrasse/WordsToleratedEditsPinLaw", "ch", "(IIJJ)C"⟩ : MethodName) (head1 (Jvm.Cond.code (⟨"com/example/wrasse/wrasse/WordsToleratedEditsPinLaw", "ch", "(IIJJ)C"⟩ : MethodName) method_3_code 9 (some .char) :: ws) ({ frames := 0, cells := 0, slots := 0, locals := 0 } : Room)) (fun a_ U => a_ = #[(.int (2 : Int32)), (.int sx), (.long jl), (.long jh)] ∧ Z.Warmed39 U.vm ∧ U.heap = h0) (fun _ _ _ _ _ => True) (fun _ U o U' => ∃ v L, o = .returned v ∧ Q42 Z sx jl jh h0 n0 v U'.heap L ∧ FrameEnd U o U' L (({ frames := 0, cells := 0, slots := 0, locals := 0 } : Room)).cells (({ frames := 0, cells := 0, slots := 0, locals := 0 } : Room)).slots) := by
  refine MetFree.of_bodySF (plainFor_of_name pn_42) hisR ?_
  intro p e s m args below meth c s₁ Bd hml0 hP0 hK
  obtain ⟨rfl, hZ, hh⟩ := hP0
  have hx := Bd.exec
  have hby := Bd.bytes
  have hml : c.maxLocals = 9 := hml0
  have hown : s.vm.findClass "com/example/wrasse/wrasse/WordsToleratedEditsPinLaw" = some m.cls := findClass_of_methodNamed Bd.named
  have hnm := (name_of_methodNamed Bd.named Bd.method).1
  have X0 : Stand p l e ({ frames := 0, cells := 0, slots := 0, locals := 0 } : Room) s m #[(.int (2 : Int32)), (.int sx), (.long jl), (.long jh)] below meth c s₁ [] 0 0 := Stand.of_body Bd
  have e0 : s₁.heap = h0 := by rw [← hh, Bd.state]; rfl
  have N0 := Fr.nil n0
  have hlk : meth.locks = false := BodyLoose.notSynchronized Bd
  refine Go.start (P₀ := fun s₂ o => ∃ v L, o = .returned v ∧ Q42 Z sx jl jh h0 n0 v s₂.heap L ∧ FrameEnd s o s₂ L (({ frames := 0, cells := 0, slots := 0, locals := 0 } : Room)).cells (({ frames := 0, cells := 0, slots := 0, locals := 0 } : Room)).slots) (congrArg s₁.setTop (ef_42 m (2 : Int32) sx jl jh)) ?_
  intro P hP
  show Go p.tables e below P (s₁.setTop (mkF m 0 #[.val (.int (2 : Int32)), .val (.int sx), .val (.long jl), .second, .val (.long jh), .second, .unset, .unset, .unset] []))
  refine Go.step (fun t k => XS.iloadN X0.here hx rfl (hb hby d42_0) rfl  k) ?_
  show Go p.tables e below P (s₁.setTop (mkF m 1 #[.val (.int (2 : Int32)), .val (.int sx), .val (.long jl), .second, .val (.long jh), .second, .unset, .unset, .unset] [(.int (2 : Int32))]))
  refine Go.step (fun t k => XS.bipush X0.here hx rfl (hb hby d42_1) k) ?_
  show Go p.tables e below P (s₁.setTop (mkF m 3 #[.val (.int (2 : Int32)), .val (.int sx), .val (.long jl), .second, .val (.long jh), .second, .unset, .unset, .unset] [(.int (8 : Int32)), (.int (2 : Int32))]))
  refine Go.step (fun t k => XS.icmpNo X0.here hx rfl (hb hby d42_3) rfl (icN (cd := .ge) (by decide : ¬ ((8 : Int) ≤ (2 : Int)))) k) ?_
  show Go p.tables e below P (s₁.setTop (mkF m 6 #[.val (.int (2 : Int32)), .val (.int sx), .val (.long jl), .second, .val (.long jh), .second, .unset, .unset, .unset] []))
  refine Go.step (fun t k => XS.lloadN X0.here hx rfl (hb hby d42_6) rfl  k) ?_
  show Go p.tables e below P (s₁.setTop (mkF m 7 #[.val (.int (2 : Int32)), .val (.int sx), .val (.long jl), .second, .val (.long jh), .second, .unset, .unset, .unset] [(.long jl)]))
  refine Go.step (fun t k => XS.goto X0.here hx rfl (pc0 := 7) (pc' := 12) rfl (hb hby d42_7) (by decide) (by decide) k) ?_
  show Go p.tables e below P (s₁.setTop (mkF m 12 #[.val (.int (2 : Int32)), .val (.int sx), .val (.long jl), .second, .val (.long jh), .second, .unset, .unset, .unset] [(.long jl)]))
  refine Go.step (fun t k => XS.lstore X0.here hx rfl (hb hby d42_12) rfl (l' := #[.val (.int (2 : Int32)), .val (.int sx), .val (.long jl), .second, .val (.long jh), .second, .val (.long jl), .second, .unset]) rfl k) ?_
  show Go p.tables e below P (s₁.setTop (mkF m 14 #[.val (.int (2 : Int32)), .val (.int sx), .val (.long jl), .second, .val (.long jh), .second, .val (.long jl), .second, .unset] []))
  refine Go.step (fun t k => XS.lload X0.here hx rfl (hb hby d42_14) rfl  k) ?_
  show Go p.tables e below P (s₁.setTop (mkF m 16 #[.val (.int (2 : Int32)), .val (.int sx), .val (.long jl), .second, .val (.long jh), .second, .val (.long jl), .second, .unset] [(.long jl)]))
  refine Go.step (fun t k => XS.bipush X0.here hx rfl (hb hby d42_16) k) ?_
  show Go p.tables e below P (s₁.setTop (mkF m 18 #[.val (.int (2 : Int32)), .val (.int sx), .val (.long jl), .second, .val (.long jh), .second, .val (.long jl), .second, .unset] [(.int (8 : Int32)), (.long jl)]))
  refine Go.step (fun t k => XS.iloadN X0.here hx rfl (hb hby d42_18) rfl  k) ?_
  show Go p.tables e below P (s₁.setTop (mkF m 19 #[.val (.int (2 : Int32)), .val (.int sx), .val (.long jl), .second, .val (.long jh), .second, .val (.long jl), .second, .unset] [(.int (2 : Int32)), (.int (8 : Int32)), (.long jl)]))
  refine Go.step (fun t k => XS.bipush X0.here hx rfl (hb hby d42_19) k) ?_
  show Go p.tables e below P (s₁.setTop (mkF m 21 #[.val (.int (2 : Int32)), .val (.int sx), .val (.long jl), .second, .val (.long jh), .second, .val (.long jl), .second, .unset] [(.int (7 : Int32)), (.int (2 : Int32)), (.int (8 : Int32)), (.long jl)]))
  obtain ⟨fl_1, hfl_1⟩ : ∃ z : Int32, (2 : Int32) &&& (7 : Int32) = z := ⟨_, rfl⟩
  refine Go.step (fun t k => iand_v X0.here hx rfl (hb hby d42_21) rfl  hfl_1 k) ?_
  show Go p.tables e below P (s₁.setTop (mkF m 22 #[.val (.int (2 : Int32)), .val (.int sx), .val (.long jl), .second, .val (.long jh), .second, .val (.long jl), .second, .unset] [(.int fl_1), (.int (8 : Int32)), (.long jl)]))
  have ez_fl_1 : fl_1 = (2 : Int32) := by rw [← hfl_1]; rfl
  subst ez_fl_1
  show Go p.tables e below P (s₁.setTop (mkF m 22 #[.val (.int (2 : Int32)), .val (.int sx), .val (.long jl), .second, .val (.long jh), .second, .val (.long jl), .second, .unset] [(.int (2 : Int32)), (.int (8 : Int32)), (.long jl)]))
  obtain ⟨fl_2, hfl_2⟩ : ∃ z : Int32, (8 : Int32) * (2 : Int32) = z := ⟨_, rfl⟩
  refine Go.step (fun t k => imul_v X0.here hx rfl (hb hby d42_22) rfl  hfl_2 k) ?_
  show Go p.tables e below P (s₁.setTop (mkF m 23 #[.val (.int (2 : Int32)), .val (.int sx), .val (.long jl), .second, .val (.long jh), .second, .val (.long jl), .second, .unset] [(.int fl_2), (.long jl)]))
  have ez_fl_2 : fl_2 = (16 : Int32) := by rw [← hfl_2]; rfl
  subst ez_fl_2
  show Go p.tables e below P (s₁.setTop (mkF m 23 #[.val (.int (2 : Int32)), .val (.int sx), .val (.long jl), .second, .val (.long jh), .second, .val (.long jl), .second, .unset] [(.int (16 : Int32)), (.long jl)]))
  obtain ⟨j23, hj23⟩ : ∃ z : Int64, ((jl.toUInt64 >>> ((16 : Int32) &&& 0x3f).toInt64.toUInt64).toInt64) = z := ⟨_, rfl⟩
  refine Go.step (fun t k => lushr_v X0.here hx rfl (hb hby d42_23) rfl  hj23 k) ?_
  show Go p.tables e below P (s₁.setTop (mkF m 24 #[.val (.int (2 : Int32)), .val (.int sx), .val (.long jl), .second, .val (.long jh), .second, .val (.long jl), .second, .unset] [(.long j23)]))
  refine Go.step (fun t k => X0.ldc2Long hx hown (mvT hZ (hw _ (List.mem_of_getElem? (i := 67) rfl))) (g := (mkF m 24 #[.val (.int (2 : Int32)), .val (.int sx), .val (.long jl), .second, .val (.long jh), .second, .val (.long jl), .second, .unset] [(.long j23)])) rfl (hb hby d42_24) t k) ?_
  show Go p.tables e below P (s₁.setTop (mkF m 27 #[.val (.int (2 : Int32)), .val (.int sx), .val (.long jl), .second, .val (.long jh), .second, .val (.long jl), .second, .unset] [(.long (255 : Int64)), (.long j23)]))
  obtain ⟨j27, hj27⟩ : ∃ z : Int64, j23 &&& (255 : Int64) = z := ⟨_, rfl⟩
  refine Go.step (fun t k => land_v X0.here hx rfl (hb hby d42_27) rfl  hj27 k) ?_
  show Go p.tables e below P (s₁.setTop (mkF m 28 #[.val (.int (2 : Int32)), .val (.int sx), .val (.long jl), .second, .val (.long jh), .second, .val (.long jl), .second, .unset] [(.long j27)]))
  obtain ⟨i28, hi28⟩ : ∃ z : Int32, j27.toInt32 = z := ⟨_, rfl⟩
  refine Go.step (fun t k => l2i_v X0.here hx rfl (hb hby d42_28) rfl hi28 k) ?_
  show Go p.tables e below P (s₁.setTop (mkF m 29 #[.val (.int (2 : Int32)), .val (.int sx), .val (.long jl), .second, .val (.long jh), .second, .val (.long jl), .second, .unset] [(.int i28)]))
  have f27 := c_maskL j23 (255 : Int64) 8 (by decide) rfl; rw [hj27] at f27
  have f28 := c_l2i j27; rw [hi28] at f28
  have g28 := rng32 i28
  have v28 : 0 ≤ i28.toInt ∧ i28.toInt ≤ 255 := by omega
  clear f27 f28
  refine Go.step (fun t k => XS.istore X0.here hx rfl (hb hby d42_29) rfl (l' := #[.val (.int (2 : Int32)), .val (.int sx), .val (.long jl), .second, .val (.long jh), .second, .val (.long jl), .second, .val (.int i28)]) rfl k) ?_
  show Go p.tables e below P (s₁.setTop (mkF m 31 #[.val (.int (2 : Int32)), .val (.int sx), .val (.long jl), .second, .val (.long jh), .second, .val (.long jl), .second, .val (.int i28)] []))
  refine Go.step (fun t k => XS.iloadN X0.here hx rfl (hb hby d42_31) rfl  k) ?_
  show Go p.tables e below P (s₁.setTop (mkF m 32 #[.val (.int (2 : Int32)), .val (.int sx), .val (.long jl), .second, .val (.long jh), .second, .val (.long jl), .second, .val (.int i28)] [(.int sx)]))
  refine Go.step (fun t k => XS.iloadN X0.here hx rfl (hb hby d42_32) rfl  k) ?_
  show Go p.tables e below P (s₁.setTop (mkF m 33 #[.val (.int (2 : Int32)), .val (.int sx), .val (.long jl), .second, .val (.long jh), .second, .val (.long jl), .second, .val (.int i28)] [(.int (2 : Int32)), (.int sx)]))
  obtain ⟨i33, hi33⟩ : ∃ z : Int32, ((sx.toUInt32 >>> ((2 : Int32) &&& 31).toUInt32).toInt32) = z := ⟨_, rfl⟩
  refine Go.step (fun t k => iushr_v X0.here hx rfl (hb hby d42_33) rfl  hi33 k) ?_
  show Go p.tables e below P (s₁.setTop (mkF m 34 #[.val (.int (2 : Int32)), .val (.int sx), .val (.long jl), .second, .val (.long jh), .second, .val (.long jl), .second, .val (.int i28)] [(.int i33)]))
  refine Go.step (fun t k => XS.iconst X0.here hx rfl (hb hby d42_34) k) ?_
  show Go p.tables e below P (s₁.setTop (mkF m 35 #[.val (.int (2 : Int32)), .val (.int sx), .val (.long jl), .second, .val (.long jh), .second, .val (.long jl), .second, .val (.int i28)] [(.int (1 : Int32)), (.int i33)]))
  obtain ⟨i35, hi35⟩ : ∃ z : Int32, i33 &&& (1 : Int32) = z := ⟨_, rfl⟩
  refine Go.step (fun t k => iand_v X0.here hx rfl (hb hby d42_35) rfl  hi35 k) ?_
  show Go p.tables e below P (s₁.setTop (mkF m 36 #[.val (.int (2 : Int32)), .val (.int sx), .val (.long jl), .second, .val (.long jh), .second, .val (.long jl), .second, .val (.int i28)] [(.int i35)]))
  have fz := c_iushr sx (2 : Int32) 2 rfl (by decide); rw [hi33] at fz
  have fm := c_mask i33 (1 : Int32) 1 (by decide) rfl; rw [hi35] at fm
  have hbit : i35.toInt = bit sx 2 := by unfold bit; omega
  have hb01 := bit01 sx 2
  clear fz fm
  by_cases hc36 : i35.toInt = 0
  · refine Go.step (fun t k => XS.ifYes X0.here hx rfl (pc0 := 36) (pc' := 59) rfl (hb hby d42_36) rfl (ifY (cd := .eq) hc36) (by decide) (by decide) k) ?_
    show Go p.tables e below P (s₁.setTop (mkF m 59 #[.val (.int (2 : Int32)), .val (.int sx), .val (.long jl), .second, .val (.long jh), .second, .val (.long jl), .second, .val (.int i28)] []))
    refine Go.step (fun t k => XS.iload X0.here hx rfl (hb hby d42_59) rfl  k) ?_
    show Go p.tables e below P (s₁.setTop (mkF m 61 #[.val (.int (2 : Int32)), .val (.int sx), .val (.long jl), .second, .val (.long jh), .second, .val (.long jl), .second, .val (.int i28)] [(.int i28)]))
    obtain ⟨i61, hi61⟩ : ∃ z : Int32, i28.toUInt32.toUInt16.toUInt32.toInt32 = z := ⟨_, rfl⟩
    refine Go.step (fun t k => i2c_v X0.here hx rfl (hb hby d42_61) rfl hi61 k) ?_
    show Go p.tables e below P (s₁.setTop (mkF m 62 #[.val (.int (2 : Int32)), .val (.int sx), .val (.long jl), .second, .val (.long jh), .second, .val (.long jl), .second, .val (.int i28)] [(.int i61)]))
    have f61 := c_i2c i28; rw [hi61] at f61
    exact retGo X0 hx hP Bd.returns hlk (nar_c (by omega)) (Or.inl ⟨rfl, Or.inr (Or.inr (Or.inr (Or.inl rfl))), _, rfl⟩) (hb hby d42_62) (by decide) (by decide) (by rw [e0]; exact ⟨i61, rfl, by unfold Ok; omega, N0, rfl⟩)
  · refine Go.step (fun t k => XS.ifNo X0.here hx rfl (hb hby d42_36) rfl (ifN (cd := .eq) hc36) k) ?_
    show Go p.tables e below P (s₁.setTop (mkF m 39 #[.val (.int (2 : Int32)), .val (.int sx), .val (.long jl), .second, .val (.long jh), .second, .val (.long jl), .second, .val (.int i28)] []))
    refine Go.step (fun t k => XS.iloadN X0.here hx rfl (hb hby d42_39) rfl  k) ?_
    show Go p.tables e below P (s₁.setTop (mkF m 40 #[.val (.int (2 : Int32)), .val (.int sx), .val (.long jl), .second, .val (.long jh), .second, .val (.long jl), .second, .val (.int i28)] [(.int (2 : Int32))]))
    refine Go.step (fun t k => XS.iconst X0.here hx rfl (hb hby d42_40) k) ?_
    show Go p.tables e below P (s₁.setTop (mkF m 41 #[.val (.int (2 : Int32)), .val (.int sx), .val (.long jl), .second, .val (.long jh), .second, .val (.long jl), .second, .val (.int i28)] [(.int (1 : Int32)), (.int (2 : Int32))]))
    obtain ⟨fl_3, hfl_3⟩ : ∃ z : Int32, (2 : Int32) &&& (1 : Int32) = z := ⟨_, rfl⟩
    refine Go.step (fun t k => iand_v X0.here hx rfl (hb hby d42_41) rfl  hfl_3 k) ?_
    show Go p.tables e below P (s₁.setTop (mkF m 42 #[.val (.int (2 : Int32)), .val (.int sx), .val (.long jl), .second, .val (.long jh), .second, .val (.long jl), .second, .val (.int i28)] [(.int fl_3)]))
    have ez_fl_3 : fl_3 = (0 : Int32) := by rw [← hfl_3]; rfl
    subst ez_fl_3
    show Go p.tables e below P (s₁.setTop (mkF m 42 #[.val (.int (2 : Int32)), .val (.int sx), .val (.long jl), .second, .val (.long jh), .second, .val (.long jl), .second, .val (.int i28)] [(.int (0 : Int32))]))
    refine Go.step (fun t k => XS.ifNo X0.here hx rfl (hb hby d42_42) rfl (ifN (cd := .ne) (by decide : ¬ (¬ (0 : Int) = 0))) k) ?_
    show Go p.tables e below P (s₁.setTop (mkF m 45 #[.val (.int (2 : Int32)), .val (.int sx), .val (.long jl), .second, .val (.long jh), .second, .val (.long jl), .second, .val (.int i28)] []))
    refine Go.step (fun t k => X0.ldcInt hx hown (mvT hZ (hw _ (List.mem_of_getElem? (i := 68) rfl))) (g := (mkF m 45 #[.val (.int (2 : Int32)), .val (.int sx), .val (.long jl), .second, .val (.long jh), .second, .val (.long jl), .second, .val (.int i28)] [])) rfl (hb hby d42_45) t k) ?_
    show Go p.tables e below P (s₁.setTop (mkF m 47 #[.val (.int (2 : Int32)), .val (.int sx), .val (.long jl), .second, .val (.long jh), .second, .val (.long jl), .second, .val (.int i28)] [(.int (55296 : Int32))]))
    refine Go.step (fun t k => XS.iload X0.here hx rfl (hb hby d42_47) rfl  k) ?_
    show Go p.tables e below P (s₁.setTop (mkF m 49 #[.val (.int (2 : Int32)), .val (.int sx), .val (.long jl), .second, .val (.long jh), .second, .val (.long jl), .second, .val (.int i28)] [(.int i28), (.int (55296 : Int32))]))
    obtain ⟨i49, hi49⟩ : ∃ z : Int32, (55296 : Int32) ||| i28 = z := ⟨_, rfl⟩
    refine Go.step (fun t k => ior_v X0.here hx rfl (hb hby d42_49) rfl  hi49 k) ?_
    show Go p.tables e below P (s₁.setTop (mkF m 50 #[.val (.int (2 : Int32)), .val (.int sx), .val (.long jl), .second, .val (.long jh), .second, .val (.long jl), .second, .val (.int i28)] [(.int i49)]))
    obtain ⟨i50, hi50⟩ : ∃ z : Int32, i49.toUInt32.toUInt16.toUInt32.toInt32 = z := ⟨_, rfl⟩
    refine Go.step (fun t k => i2c_v X0.here hx rfl (hb hby d42_50) rfl hi50 k) ?_
    show Go p.tables e below P (s₁.setTop (mkF m 51 #[.val (.int (2 : Int32)), .val (.int sx), .val (.long jl), .second, .val (.long jh), .second, .val (.long jl), .second, .val (.int i28)] [(.int i50)]))
    have e5 : (55296 : Int32).toInt = 55296 := rfl
    have fo := c_or (55296 : Int32) i28 8 (by decide) 256 rfl (by omega) (by omega) (by omega); rw [hi49, e5] at fo
    have go := rng32 i49
    have fc := c_i2c i49; rw [hi50] at fc
    exact retGo X0 hx hP Bd.returns hlk (nar_c (by omega)) (Or.inl ⟨rfl, Or.inr (Or.inr (Or.inr (Or.inl rfl))), _, rfl⟩) (hb hby d42_51) (by decide) (by decide) (by rw [e0]; exact ⟨i50, rfl, by unfold Ok; omega, N0, rfl⟩)
theorem d43_0 : decode method_3_code 0 = .ok (.iload_n 0, 1) := by decide +kernel
theorem d43_1 : decode method_3_code 1 = .ok (.bipush 8, 2) := by decide +kernel
theorem d43_3 : decode method_3_code 3 = .ok (.if_icmp .ge 7, 3) := by decide +kernel
theorem d43_6 : decode method_3_code 6 = .ok (.lload_n 2, 1) := by decide +kernel
theorem d43_7 : decode method_3_code 7 = .ok (.goto 5, 3) := by decide +kernel
theorem d43_12 : decode method_3_code 12 = .ok (.lstore 6, 2) := by decide +kernel
theorem d43_14 : decode method_3_code 14 = .ok (.lload 6, 2) := by decide +kernel
theorem d43_16 : decode method_3_code 16 = .ok (.bipush 8, 2) := by decide +kernel
theorem d43_18 : decode method_3_code 18 = .ok (.iload_n 0, 1) := by decide +kernel
theorem d43_19 : decode method_3_code 19 = .ok (.bipush 7, 2) := by decide +kernel
theorem d43_21 : decode method_3_code 21 = .ok (.iand, 1) := by decide +kernel
theorem d43_22 : decode method_3_code 22 = .ok (.imul, 1) := by decide +kernel
theorem d43_23 : decode method_3_code 23 = .ok (.lushr, 1) := by decide +kernel
theorem d43_24 : decode method_3_code 24 = .ok (.ldc2_w 29, 3) := by decide +kernel
theorem d43_27 : decode method_3_code 27 = .ok (.land, 1) := by decide +kernel
theorem d43_28 : decode method_3_code 28 = .ok (.l2i, 1) := by decide +kernel
theorem d43_29 : decode method_3_code 29 = .ok (.istore 8, 2) := by decide +kernel
theorem d43_31 : decode method_3_code 31 = .ok (.iload_n 1, 1) := by decide +kernel
theorem d43_32 : decode method_3_code 32 = .ok (.iload_n 0, 1) := by decide +kernel
theorem d43_33 : decode method_3_code 33 = .ok (.iushr, 1) := by decide +kernel
theorem d43_34 : decode method_3_code 34 = .ok (.iconst 1, 1) := by decide +kernel
theorem d43_35 : decode method_3_code 35 = .ok (.iand, 1) := by decide +kernel
theorem d43_36 : decode method_3_code 36 = .ok (.ifCond .eq 23, 3) := by decide +kernel
theorem d43_39 : decode method_3_code 39 = .ok (.iload_n 0, 1) := by decide +kernel
theorem d43_40 : decode method_3_code 40 = .ok (.iconst 1, 1) := by decide +kernel
theorem d43_41 : decode method_3_code 41 = .ok (.iand, 1) := by decide +kernel
theorem d43_42 : decode method_3_code 42 = .ok (.ifCond .ne 10, 3) := by decide +kernel
theorem d43_52 : decode method_3_code 52 = .ok (.ldc 32, 2) := by decide +kernel
theorem d43_54 : decode method_3_code 54 = .ok (.iload 8, 2) := by decide +kernel
theorem d43_56 : decode method_3_code 56 = .ok (.ior, 1) := by decide +kernel
theorem d43_57 : decode method_3_code 57 = .ok (.i2c, 1) := by decide +kernel
theorem d43_58 : decode method_3_code 58 = .ok (.ireturn, 1) := by decide +kernel
theorem d43_59 : decode method_3_code 59 = .ok (.iload 8, 2) := by decide +kernel
theorem d43_61 : decode method_3_code 61 = .ok (.i2c, 1) := by decide +kernel
theorem d43_62 : decode method_3_code 62 = .ok (.ireturn, 1) := by decide +kernel
theorem pn_43 : plainName "com/example/wrasse/wrasse/WordsToleratedEditsPinLaw" = true := by first | (simp [plainName, overriddenIn]; done) | decide +kernel
theorem ef_43 (m : MethodId) (x0 : Int32) (x1 : Int32) (x2 : Int64) (x3 : Int64) : entryFrame m #[(.int x0), (.int x1), (.long x2), (.long x3)] 9 = mkF m 0 #[.val (.int x0), .val (.int x1), .val (.long x2), .second, .val (.long x3), .second, .unset, .unset, .unset] [] := by first | (simp [entryFrame, mkF, argsToLocals, Value.category]; done) | rfl
def Q43 (Z : State) (sx : Int32) (jl : Int64) (jh : Int64) (h0 : Heap) (n0 : Nat) (v : Option Value) (h : Heap) (L : List Loc) : Prop := ∃ r : Int32, v = some (.int r) ∧ Ok sx 3 r ∧ Fr n0 L ∧ h = h0
set_option maxRecDepth 65536 in
set_option maxHeartbeats 40000000 in
theorem ch3 (l : Launch) (Z : State) (a0 : Array Value) (hw : ∀ d ∈ tables_1, d.before a0 Z = true) (ws : List Jvm.Cond) (sx : Int32) (jl : Int64) (jh : Int64) (h0 : Heap) (n0 : Nat) (Z0 : n0 ≤ h0.size) :
    MetFree l (⟨"com/example/wrasse/wrasse/WordsToleratedEditsPinLaw", "ch", "(IIJJ)C"⟩ : MethodName) (head1 (Jvm.Cond.code (⟨"com/example/wrasse/wrasse/WordsToleratedEditsPinLaw", "ch", "(IIJJ)C"⟩ : MethodName) method_3_code 9 (some .char) :: ws) ({ frames := 0, cells := 0, slots := 0, locals := 0 } : Room)) (fun a_ U => a_ = #[(.int (3 : Int32)), (.int sx), (.long jl), (.long jh)] ∧ Z.Warmed39 U.vm ∧ U.heap = h0) (fun _ _ _ _ _ => True) (fun _ U o U' => ∃ v L, o = .returned v ∧ Q43 Z sx jl jh h0 n0 v U'.heap L ∧ FrameEnd U o U' L (({ frames := 0, cells := 0, slots := 0, locals := 0 } : Room)).cells (({ frames := 0, cells := 0, slots := 0, locals := 0 } : Room)).slots) := by
  refine MetFree.of_bodySF (plainFor_of_name pn_43) hisR ?_
  intro p e s m args below meth c s₁ Bd hml0 hP0 hK
  obtain ⟨rfl, hZ, hh⟩ := hP0
  have hx := Bd.exec
  have hby := Bd.bytes
  have hml : c.maxLocals = 9 := hml0
  have hown : s.vm.findClass "com/example/wrasse/wrasse/WordsToleratedEditsPinLaw" = some m.cls := findClass_of_methodNamed Bd.named
  have hnm := (name_of_methodNamed Bd.named Bd.method).1
  have X0 : Stand p l e ({ frames := 0, cells := 0, slots := 0, locals := 0 } : Room) s m #[(.int (3 : Int32)), (.int sx), (.long jl), (.long jh)] below meth c s₁ [] 0 0 := Stand.of_body Bd
  have e0 : s₁.heap = h0 := by rw [← hh, Bd.state]; rfl
  have N0 := Fr.nil n0
  have hlk : meth.locks = false := BodyLoose.notSynchronized Bd
  refine Go.start (P₀ := fun s₂ o => ∃ v L, o = .returned v ∧ Q43 Z sx jl jh h0 n0 v s₂.heap L ∧ FrameEnd s o s₂ L (({ frames := 0, cells := 0, slots := 0, locals := 0 } : Room)).cells (({ frames := 0, cells := 0, slots := 0, locals := 0 } : Room)).slots) (congrArg s₁.setTop (ef_43 m (3 : Int32) sx jl jh)) ?_
  intro P hP
  show Go p.tables e below P (s₁.setTop (mkF m 0 #[.val (.int (3 : Int32)), .val (.int sx), .val (.long jl), .second, .val (.long jh), .second, .unset, .unset, .unset] []))
  refine Go.step (fun t k => XS.iloadN X0.here hx rfl (hb hby d43_0) rfl  k) ?_
  show Go p.tables e below P (s₁.setTop (mkF m 1 #[.val (.int (3 : Int32)), .val (.int sx), .val (.long jl), .second, .val (.long jh), .second, .unset, .unset, .unset] [(.int (3 : Int32))]))
  refine Go.step (fun t k => XS.bipush X0.here hx rfl (hb hby d43_1) k) ?_
  show Go p.tables e below P (s₁.setTop (mkF m 3 #[.val (.int (3 : Int32)), .val (.int sx), .val (.long jl), .second, .val (.long jh), .second, .unset, .unset, .unset] [(.int (8 : Int32)), (.int (3 : Int32))]))
  refine Go.step (fun t k => XS.icmpNo X0.here hx rfl (hb hby d43_3) rfl (icN (cd := .ge) (by decide : ¬ ((8 : Int) ≤ (3 : Int)))) k) ?_
  show Go p.tables e below P (s₁.setTop (mkF m 6 #[.val (.int (3 : Int32)), .val (.int sx), .val (.long jl), .second, .val (.long jh), .second, .unset, .unset, .unset] []))
  refine Go.step (fun t k => XS.lloadN X0.here hx rfl (hb hby d43_6) rfl  k) ?_
  show Go p.tables e below P (s₁.setTop (mkF m 7 #[.val (.int (3 : Int32)), .val (.int sx), .val (.long jl), .second, .val (.long jh), .second, .unset, .unset, .unset] [(.long jl)]))
  refine Go.step (fun t k => XS.goto X0.here hx rfl (pc0 := 7) (pc' := 12) rfl (hb hby d43_7) (by decide) (by decide) k) ?_
  show Go p.tables e below P (s₁.setTop (mkF m 12 #[.val (.int (3 : Int32)), .val (.int sx), .val (.long jl), .second, .val (.long jh), .second, .unset, .unset, .unset] [(.long jl)]))
  refine Go.step (fun t k => XS.lstore X0.here hx rfl (hb hby d43_12) rfl (l' := #[.val (.int (3 : Int32)), .val (.int sx), .val (.long jl), .second, .val (.long jh), .second, .val (.long jl), .second, .unset]) rfl k) ?_
  show Go p.tables e below P (s₁.setTop (mkF m 14 #[.val (.int (3 : Int32)), .val (.int sx), .val (.long jl), .second, .val (.long jh), .second, .val (.long jl), .second, .unset] []))
  refine Go.step (fun t k => XS.lload X0.here hx rfl (hb hby d43_14) rfl  k) ?_
  show Go p.tables e below P (s₁.setTop (mkF m 16 #[.val (.int (3 : Int32)), .val (.int sx), .val (.long jl), .second, .val (.long jh), .second, .val (.long jl), .second, .unset] [(.long jl)]))
  refine Go.step (fun t k => XS.bipush X0.here hx rfl (hb hby d43_16) k) ?_
  show Go p.tables e below P (s₁.setTop (mkF m 18 #[.val (.int (3 : Int32)), .val (.int sx), .val (.long jl), .second, .val (.long jh), .second, .val (.long jl), .second, .unset] [(.int (8 : Int32)), (.long jl)]))
  refine Go.step (fun t k => XS.iloadN X0.here hx rfl (hb hby d43_18) rfl  k) ?_
  show Go p.tables e below P (s₁.setTop (mkF m 19 #[.val (.int (3 : Int32)), .val (.int sx), .val (.long jl), .second, .val (.long jh), .second, .val (.long jl), .second, .unset] [(.int (3 : Int32)), (.int (8 : Int32)), (.long jl)]))
  refine Go.step (fun t k => XS.bipush X0.here hx rfl (hb hby d43_19) k) ?_
  show Go p.tables e below P (s₁.setTop (mkF m 21 #[.val (.int (3 : Int32)), .val (.int sx), .val (.long jl), .second, .val (.long jh), .second, .val (.long jl), .second, .unset] [(.int (7 : Int32)), (.int (3 : Int32)), (.int (8 : Int32)), (.long jl)]))
  obtain ⟨fl_1, hfl_1⟩ : ∃ z : Int32, (3 : Int32) &&& (7 : Int32) = z := ⟨_, rfl⟩
  refine Go.step (fun t k => iand_v X0.here hx rfl (hb hby d43_21) rfl  hfl_1 k) ?_
  show Go p.tables e below P (s₁.setTop (mkF m 22 #[.val (.int (3 : Int32)), .val (.int sx), .val (.long jl), .second, .val (.long jh), .second, .val (.long jl), .second, .unset] [(.int fl_1), (.int (8 : Int32)), (.long jl)]))
  have ez_fl_1 : fl_1 = (3 : Int32) := by rw [← hfl_1]; rfl
  subst ez_fl_1
  show Go p.tables e below P (s₁.setTop (mkF m 22 #[.val (.int (3 : Int32)), .val (.int sx), .val (.long jl), .second, .val (.long jh), .second, .val (.long jl), .second, .unset] [(.int (3 : Int32)), (.int (8 : Int32)), (.long jl)]))
  obtain ⟨fl_2, hfl_2⟩ : ∃ z : Int32, (8 : Int32) * (3 : Int32) = z := ⟨_, rfl⟩
  refine Go.step (fun t k => imul_v X0.here hx rfl (hb hby d43_22) rfl  hfl_2 k) ?_
  show Go p.tables e below P (s₁.setTop (mkF m 23 #[.val (.int (3 : Int32)), .val (.int sx), .val (.long jl), .second, .val (.long jh), .second, .val (.long jl), .second, .unset] [(.int fl_2), (.long jl)]))
  have ez_fl_2 : fl_2 = (24 : Int32) := by rw [← hfl_2]; rfl
  subst ez_fl_2
  show Go p.tables e below P (s₁.setTop (mkF m 23 #[.val (.int (3 : Int32)), .val (.int sx), .val (.long jl), .second, .val (.long jh), .second, .val (.long jl), .second, .unset] [(.int (24 : Int32)), (.long jl)]))
  obtain ⟨j23, hj23⟩ : ∃ z : Int64, ((jl.toUInt64 >>> ((24 : Int32) &&& 0x3f).toInt64.toUInt64).toInt64) = z := ⟨_, rfl⟩
  refine Go.step (fun t k => lushr_v X0.here hx rfl (hb hby d43_23) rfl  hj23 k) ?_
  show Go p.tables e below P (s₁.setTop (mkF m 24 #[.val (.int (3 : Int32)), .val (.int sx), .val (.long jl), .second, .val (.long jh), .second, .val (.long jl), .second, .unset] [(.long j23)]))
  refine Go.step (fun t k => X0.ldc2Long hx hown (mvT hZ (hw _ (List.mem_of_getElem? (i := 67) rfl))) (g := (mkF m 24 #[.val (.int (3 : Int32)), .val (.int sx), .val (.long jl), .second, .val (.long jh), .second, .val (.long jl), .second, .unset] [(.long j23)])) rfl (hb hby d43_24) t k) ?_
  show Go p.tables e below P (s₁.setTop (mkF m 27 #[.val (.int (3 : Int32)), .val (.int sx), .val (.long jl), .second, .val (.long jh), .second, .val (.long jl), .second, .unset] [(.long (255 : Int64)), (.long j23)]))
  obtain ⟨j27, hj27⟩ : ∃ z : Int64, j23 &&& (255 : Int64) = z := ⟨_, rfl⟩
  refine Go.step (fun t k => land_v X0.here hx rfl (hb hby d43_27) rfl  hj27 k) ?_
  show Go p.tables e below P (s₁.setTop (mkF m 28 #[.val (.int (3 : Int32)), .val (.int sx), .val (.long jl), .second, .val (.long jh), .second, .val (.long jl), .second, .unset] [(.long j27)]))
  obtain ⟨i28, hi28⟩ : ∃ z : Int32, j27.toInt32 = z := ⟨_, rfl⟩
  refine Go.step (fun t k => l2i_v X0.here hx rfl (hb hby d43_28) rfl hi28 k) ?_
  show Go p.tables e below P (s₁.setTop (mkF m 29 #[.val (.int (3 : Int32)), .val (.int sx), .val (.long jl), .second, .val (.long jh), .second, .val (.long jl), .second, .unset] [(.int i28)]))
  have f27 := c_maskL j23 (255 : Int64) 8 (by decide) rfl; rw [hj27] at f27
  have f28 := c_l2i j27; rw [hi28] at f28
  have g28 := rng32 i28
  have v28 : 0 ≤ i28.toInt ∧ i28.toInt ≤ 255 := by omega
  clear f27 f28
  refine Go.step (fun t k => XS.istore X0.here hx rfl (hb hby d43_29) rfl (l' := #[.val (.int (3 : Int32)), .val (.int sx), .val (.long jl), .second, .val (.long jh), .second, .val (.long jl), .second, .val (.int i28)]) rfl k) ?_
  show Go p.tables e below P (s₁.setTop (mkF m 31 #[.val (.int (3 : Int32)), .val (.int sx), .val (.long jl), .second, .val (.long jh), .second, .val (.long jl), .second, .val (.int i28)] []))
  refine Go.step (fun t k => XS.iloadN X0.here hx rfl (hb hby d43_31) rfl  k) ?_
  show Go p.tables e below P (s₁.setTop (mkF m 32 #[.val (.int (3 : Int32)), .val (.int sx), .val (.long jl), .second, .val (.long jh), .second, .val (.long jl), .second, .val (.int i28)] [(.int sx)]))
  refine Go.step (fun t k => XS.iloadN X0.here hx rfl (hb hby d43_32) rfl  k) ?_
  show Go p.tables e below P (s₁.setTop (mkF m 33 #[.val (.int (3 : Int32)), .val (.int sx), .val (.long jl), .second, .val (.long jh), .second, .val (.long jl), .second, .val (.int i28)] [(.int (3 : Int32)), (.int sx)]))
  obtain ⟨i33, hi33⟩ : ∃ z : Int32, ((sx.toUInt32 >>> ((3 : Int32) &&& 31).toUInt32).toInt32) = z := ⟨_, rfl⟩
  refine Go.step (fun t k => iushr_v X0.here hx rfl (hb hby d43_33) rfl  hi33 k) ?_
  show Go p.tables e below P (s₁.setTop (mkF m 34 #[.val (.int (3 : Int32)), .val (.int sx), .val (.long jl), .second, .val (.long jh), .second, .val (.long jl), .second, .val (.int i28)] [(.int i33)]))
  refine Go.step (fun t k => XS.iconst X0.here hx rfl (hb hby d43_34) k) ?_
  show Go p.tables e below P (s₁.setTop (mkF m 35 #[.val (.int (3 : Int32)), .val (.int sx), .val (.long jl), .second, .val (.long jh), .second, .val (.long jl), .second, .val (.int i28)] [(.int (1 : Int32)), (.int i33)]))
  obtain ⟨i35, hi35⟩ : ∃ z : Int32, i33 &&& (1 : Int32) = z := ⟨_, rfl⟩
  refine Go.step (fun t k => iand_v X0.here hx rfl (hb hby d43_35) rfl  hi35 k) ?_
  show Go p.tables e below P (s₁.setTop (mkF m 36 #[.val (.int (3 : Int32)), .val (.int sx), .val (.long jl), .second, .val (.long jh), .second, .val (.long jl), .second, .val (.int i28)] [(.int i35)]))
  have fz := c_iushr sx (3 : Int32) 3 rfl (by decide); rw [hi33] at fz
  have fm := c_mask i33 (1 : Int32) 1 (by decide) rfl; rw [hi35] at fm
  have hbit : i35.toInt = bit sx 3 := by unfold bit; omega
  have hb01 := bit01 sx 3
  clear fz fm
  by_cases hc36 : i35.toInt = 0
  · refine Go.step (fun t k => XS.ifYes X0.here hx rfl (pc0 := 36) (pc' := 59) rfl (hb hby d43_36) rfl (ifY (cd := .eq) hc36) (by decide) (by decide) k) ?_
    show Go p.tables e below P (s₁.setTop (mkF m 59 #[.val (.int (3 : Int32)), .val (.int sx), .val (.long jl), .second, .val (.long jh), .second, .val (.long jl), .second, .val (.int i28)] []))
    refine Go.step (fun t k => XS.iload X0.here hx rfl (hb hby d43_59) rfl  k) ?_
    show Go p.tables e below P (s₁.setTop (mkF m 61 #[.val (.int (3 : Int32)), .val (.int sx), .val (.long jl), .second, .val (.long jh), .second, .val (.long jl), .second, .val (.int i28)] [(.int i28)]))
    obtain ⟨i61, hi61⟩ : ∃ z : Int32, i28.toUInt32.toUInt16.toUInt32.toInt32 = z := ⟨_, rfl⟩
    refine Go.step (fun t k => i2c_v X0.here hx rfl (hb hby d43_61) rfl hi61 k) ?_
    show Go p.tables e below P (s₁.setTop (mkF m 62 #[.val (.int (3 : Int32)), .val (.int sx), .val (.long jl), .second, .val (.long jh), .second, .val (.long jl), .second, .val (.int i28)] [(.int i61)]))
    have f61 := c_i2c i28; rw [hi61] at f61
    exact retGo X0 hx hP Bd.returns hlk (nar_c (by omega)) (Or.inl ⟨rfl, Or.inr (Or.inr (Or.inr (Or.inl rfl))), _, rfl⟩) (hb hby d43_62) (by decide) (by decide) (by rw [e0]; exact ⟨i61, rfl, by unfold Ok; omega, N0, rfl⟩)
  · refine Go.step (fun t k => XS.ifNo X0.here hx rfl (hb hby d43_36) rfl (ifN (cd := .eq) hc36) k) ?_
    show Go p.tables e below P (s₁.setTop (mkF m 39 #[.val (.int (3 : Int32)), .val (.int sx), .val (.long jl), .second, .val (.long jh), .second, .val (.long jl), .second, .val (.int i28)] []))
    refine Go.step (fun t k => XS.iloadN X0.here hx rfl (hb hby d43_39) rfl  k) ?_
    show Go p.tables e below P (s₁.setTop (mkF m 40 #[.val (.int (3 : Int32)), .val (.int sx), .val (.long jl), .second, .val (.long jh), .second, .val (.long jl), .second, .val (.int i28)] [(.int (3 : Int32))]))
    refine Go.step (fun t k => XS.iconst X0.here hx rfl (hb hby d43_40) k) ?_
    show Go p.tables e below P (s₁.setTop (mkF m 41 #[.val (.int (3 : Int32)), .val (.int sx), .val (.long jl), .second, .val (.long jh), .second, .val (.long jl), .second, .val (.int i28)] [(.int (1 : Int32)), (.int (3 : Int32))]))
    obtain ⟨fl_3, hfl_3⟩ : ∃ z : Int32, (3 : Int32) &&& (1 : Int32) = z := ⟨_, rfl⟩
    refine Go.step (fun t k => iand_v X0.here hx rfl (hb hby d43_41) rfl  hfl_3 k) ?_
    show Go p.tables e below P (s₁.setTop (mkF m 42 #[.val (.int (3 : Int32)), .val (.int sx), .val (.long jl), .second, .val (.long jh), .second, .val (.long jl), .second, .val (.int i28)] [(.int fl_3)]))
    have ez_fl_3 : fl_3 = (1 : Int32) := by rw [← hfl_3]; rfl
    subst ez_fl_3
    show Go p.tables e below P (s₁.setTop (mkF m 42 #[.val (.int (3 : Int32)), .val (.int sx), .val (.long jl), .second, .val (.long jh), .second, .val (.long jl), .second, .val (.int i28)] [(.int (1 : Int32))]))
    refine Go.step (fun t k => XS.ifYes X0.here hx rfl (pc0 := 42) (pc' := 52) rfl (hb hby d43_42) rfl (ifY (cd := .ne) (by decide : ¬ (1 : Int) = 0)) (by decide) (by decide) k) ?_
    show Go p.tables e below P (s₁.setTop (mkF m 52 #[.val (.int (3 : Int32)), .val (.int sx), .val (.long jl), .second, .val (.long jh), .second, .val (.long jl), .second, .val (.int i28)] []))
    refine Go.step (fun t k => X0.ldcInt hx hown (mvT hZ (hw _ (List.mem_of_getElem? (i := 69) rfl))) (g := (mkF m 52 #[.val (.int (3 : Int32)), .val (.int sx), .val (.long jl), .second, .val (.long jh), .second, .val (.long jl), .second, .val (.int i28)] [])) rfl (hb hby d43_52) t k) ?_
    show Go p.tables e below P (s₁.setTop (mkF m 54 #[.val (.int (3 : Int32)), .val (.int sx), .val (.long jl), .second, .val (.long jh), .second, .val (.long jl), .second, .val (.int i28)] [(.int (56320 : Int32))]))
    refine Go.step (fun t k => XS.iload X0.here hx rfl (hb hby d43_54) rfl  k) ?_
    show Go p.tables e below P (s₁.setTop (mkF m 56 #[.val (.int (3 : Int32)), .val (.int sx), .val (.long jl), .second, .val (.long jh), .second, .val (.long jl), .second, .val (.int i28)] [(.int i28), (.int (56320 : Int32))]))
    obtain ⟨i56, hi56⟩ : ∃ z : Int32, (56320 : Int32) ||| i28 = z := ⟨_, rfl⟩
    refine Go.step (fun t k => ior_v X0.here hx rfl (hb hby d43_56) rfl  hi56 k) ?_
    show Go p.tables e below P (s₁.setTop (mkF m 57 #[.val (.int (3 : Int32)), .val (.int sx), .val (.long jl), .second, .val (.long jh), .second, .val (.long jl), .second, .val (.int i28)] [(.int i56)]))
    obtain ⟨i57, hi57⟩ : ∃ z : Int32, i56.toUInt32.toUInt16.toUInt32.toInt32 = z := ⟨_, rfl⟩
    refine Go.step (fun t k => i2c_v X0.here hx rfl (hb hby d43_57) rfl hi57 k) ?_
    show Go p.tables e below P (s₁.setTop (mkF m 58 #[.val (.int (3 : Int32)), .val (.int sx), .val (.long jl), .second, .val (.long jh), .second, .val (.long jl), .second, .val (.int i28)] [(.int i57)]))
    have e5 : (56320 : Int32).toInt = 56320 := rfl
    have fo := c_or (56320 : Int32) i28 8 (by decide) 256 rfl (by omega) (by omega) (by omega); rw [hi56, e5] at fo
    have go := rng32 i56
    have fc := c_i2c i56; rw [hi57] at fc
    exact retGo X0 hx hP Bd.returns hlk (nar_c (by omega)) (Or.inl ⟨rfl, Or.inr (Or.inr (Or.inr (Or.inl rfl))), _, rfl⟩) (hb hby d43_58) (by decide) (by decide) (by rw [e0]; exact ⟨i57, rfl, by unfold Ok; omega, N0, rfl⟩)
theorem d44_0 : decode method_3_code 0 = .ok (.iload_n 0, 1) := by decide +kernel
theorem d44_1 : decode method_3_code 1 = .ok (.bipush 8, 2) := by decide +kernel
theorem d44_3 : decode method_3_code 3 = .ok (.if_icmp .ge 7, 3) := by decide +kernel
theorem d44_6 : decode method_3_code 6 = .ok (.lload_n 2, 1) := by decide +kernel
theorem d44_7 : decode method_3_code 7 = .ok (.goto 5, 3) := by decide +kernel
theorem d44_12 : decode method_3_code 12 = .ok (.lstore 6, 2) := by decide +kernel
theorem d44_14 : decode method_3_code 14 = .ok (.lload 6, 2) := by decide +kernel
theorem d44_16 : decode method_3_code 16 = .ok (.bipush 8, 2) := by decide +kernel
theorem d44_18 : decode method_3_code 18 = .ok (.iload_n 0, 1) := by decide +kernel
theorem d44_19 : decode method_3_code 19 = .ok (.bipush 7, 2) := by decide +kernel
theorem d44_21 : decode method_3_code 21 = .ok (.iand, 1) := by decide +kernel
theorem d44_22 : decode method_3_code 22 = .ok (.imul, 1) := by decide +kernel
theorem d44_23 : decode method_3_code 23 = .ok (.lushr, 1) := by decide +kernel
theorem d44_24 : decode method_3_code 24 = .ok (.ldc2_w 29, 3) := by decide +kernel
theorem d44_27 : decode method_3_code 27 = .ok (.land, 1) := by decide +kernel
theorem d44_28 : decode method_3_code 28 = .ok (.l2i, 1) := by decide +kernel
theorem d44_29 : decode method_3_code 29 = .ok (.istore 8, 2) := by decide +kernel
theorem d44_31 : decode method_3_code 31 = .ok (.iload_n 1, 1) := by decide +kernel
theorem d44_32 : decode method_3_code 32 = .ok (.iload_n 0, 1) := by decide +kernel
theorem d44_33 : decode method_3_code 33 = .ok (.iushr, 1) := by decide +kernel
theorem d44_34 : decode method_3_code 34 = .ok (.iconst 1, 1) := by decide +kernel
theorem d44_35 : decode method_3_code 35 = .ok (.iand, 1) := by decide +kernel
theorem d44_36 : decode method_3_code 36 = .ok (.ifCond .eq 23, 3) := by decide +kernel
theorem d44_39 : decode method_3_code 39 = .ok (.iload_n 0, 1) := by decide +kernel
theorem d44_40 : decode method_3_code 40 = .ok (.iconst 1, 1) := by decide +kernel
theorem d44_41 : decode method_3_code 41 = .ok (.iand, 1) := by decide +kernel
theorem d44_42 : decode method_3_code 42 = .ok (.ifCond .ne 10, 3) := by decide +kernel
theorem d44_45 : decode method_3_code 45 = .ok (.ldc 31, 2) := by decide +kernel
theorem d44_47 : decode method_3_code 47 = .ok (.iload 8, 2) := by decide +kernel
theorem d44_49 : decode method_3_code 49 = .ok (.ior, 1) := by decide +kernel
theorem d44_50 : decode method_3_code 50 = .ok (.i2c, 1) := by decide +kernel
theorem d44_51 : decode method_3_code 51 = .ok (.ireturn, 1) := by decide +kernel
theorem d44_59 : decode method_3_code 59 = .ok (.iload 8, 2) := by decide +kernel
theorem d44_61 : decode method_3_code 61 = .ok (.i2c, 1) := by decide +kernel
theorem d44_62 : decode method_3_code 62 = .ok (.ireturn, 1) := by decide +kernel
theorem pn_44 : plainName "com/example/wrasse/wrasse/WordsToleratedEditsPinLaw" = true := by first | (simp [plainName, overriddenIn]; done) | decide +kernel
theorem ef_44 (m : MethodId) (x0 : Int32) (x1 : Int32) (x2 : Int64) (x3 : Int64) : entryFrame m #[(.int x0), (.int x1), (.long x2), (.long x3)] 9 = mkF m 0 #[.val (.int x0), .val (.int x1), .val (.long x2), .second, .val (.long x3), .second, .unset, .unset, .unset] [] := by first | (simp [entryFrame, mkF, argsToLocals, Value.category]; done) | rfl
def Q44 (Z : State) (sx : Int32) (jl : Int64) (jh : Int64) (h0 : Heap) (n0 : Nat) (v : Option Value) (h : Heap) (L : List Loc) : Prop := ∃ r : Int32, v = some (.int r) ∧ Ok sx 4 r ∧ Fr n0 L ∧ h = h0
set_option maxRecDepth 65536 in
set_option maxHeartbeats 40000000 in
theorem ch4 (l : Launch) (Z : State) (a0 : Array Value) (hw : ∀ d ∈ tables_1, d.before a0 Z = true) (ws : List Jvm.Cond) (sx : Int32) (jl : Int64) (jh : Int64) (h0 : Heap) (n0 : Nat) (Z0 : n0 ≤ h0.size) :
    MetFree l (⟨"com/example/wrasse/wrasse/WordsToleratedEditsPinLaw", "ch", "(IIJJ)C"⟩ : MethodName) (head1 (Jvm.Cond.code (⟨"com/example/wrasse/wrasse/WordsToleratedEditsPinLaw", "ch", "(IIJJ)C"⟩ : MethodName) method_3_code 9 (some .char) :: ws) ({ frames := 0, cells := 0, slots := 0, locals := 0 } : Room)) (fun a_ U => a_ = #[(.int (4 : Int32)), (.int sx), (.long jl), (.long jh)] ∧ Z.Warmed39 U.vm ∧ U.heap = h0) (fun _ _ _ _ _ => True) (fun _ U o U' => ∃ v L, o = .returned v ∧ Q44 Z sx jl jh h0 n0 v U'.heap L ∧ FrameEnd U o U' L (({ frames := 0, cells := 0, slots := 0, locals := 0 } : Room)).cells (({ frames := 0, cells := 0, slots := 0, locals := 0 } : Room)).slots) := by
  refine MetFree.of_bodySF (plainFor_of_name pn_44) hisR ?_
  intro p e s m args below meth c s₁ Bd hml0 hP0 hK
  obtain ⟨rfl, hZ, hh⟩ := hP0
  have hx := Bd.exec
  have hby := Bd.bytes
  have hml : c.maxLocals = 9 := hml0
  have hown : s.vm.findClass "com/example/wrasse/wrasse/WordsToleratedEditsPinLaw" = some m.cls := findClass_of_methodNamed Bd.named
  have hnm := (name_of_methodNamed Bd.named Bd.method).1
  have X0 : Stand p l e ({ frames := 0, cells := 0, slots := 0, locals := 0 } : Room) s m #[(.int (4 : Int32)), (.int sx), (.long jl), (.long jh)] below meth c s₁ [] 0 0 := Stand.of_body Bd
  have e0 : s₁.heap = h0 := by rw [← hh, Bd.state]; rfl
  have N0 := Fr.nil n0
  have hlk : meth.locks = false := BodyLoose.notSynchronized Bd
  refine Go.start (P₀ := fun s₂ o => ∃ v L, o = .returned v ∧ Q44 Z sx jl jh h0 n0 v s₂.heap L ∧ FrameEnd s o s₂ L (({ frames := 0, cells := 0, slots := 0, locals := 0 } : Room)).cells (({ frames := 0, cells := 0, slots := 0, locals := 0 } : Room)).slots) (congrArg s₁.setTop (ef_44 m (4 : Int32) sx jl jh)) ?_
  intro P hP
  show Go p.tables e below P (s₁.setTop (mkF m 0 #[.val (.int (4 : Int32)), .val (.int sx), .val (.long jl), .second, .val (.long jh), .second, .unset, .unset, .unset] []))
  refine Go.step (fun t k => XS.iloadN X0.here hx rfl (hb hby d44_0) rfl  k) ?_
  show Go p.tables e below P (s₁.setTop (mkF m 1 #[.val (.int (4 : Int32)), .val (.int sx), .val (.long jl), .second, .val (.long jh), .second, .unset, .unset, .unset] [(.int (4 : Int32))]))
  refine Go.step (fun t k => XS.bipush X0.here hx rfl (hb hby d44_1) k) ?_
  show Go p.tables e below P (s₁.setTop (mkF m 3 #[.val (.int (4 : Int32)), .val (.int sx), .val (.long jl), .second, .val (.long jh), .second, .unset, .unset, .unset] [(.int (8 : Int32)), (.int (4 : Int32))]))
  refine Go.step (fun t k => XS.icmpNo X0.here hx rfl (hb hby d44_3) rfl (icN (cd := .ge) (by decide : ¬ ((8 : Int) ≤ (4 : Int)))) k) ?_
  show Go p.tables e below P (s₁.setTop (mkF m 6 #[.val (.int (4 : Int32)), .val (.int sx), .val (.long jl), .second, .val (.long jh), .second, .unset, .unset, .unset] []))
  refine Go.step (fun t k => XS.lloadN X0.here hx rfl (hb hby d44_6) rfl  k) ?_
  show Go p.tables e below P (s₁.setTop (mkF m 7 #[.val (.int (4 : Int32)), .val (.int sx), .val (.long jl), .second, .val (.long jh), .second, .unset, .unset, .unset] [(.long jl)]))
  refine Go.step (fun t k => XS.goto X0.here hx rfl (pc0 := 7) (pc' := 12) rfl (hb hby d44_7) (by decide) (by decide) k) ?_
  show Go p.tables e below P (s₁.setTop (mkF m 12 #[.val (.int (4 : Int32)), .val (.int sx), .val (.long jl), .second, .val (.long jh), .second, .unset, .unset, .unset] [(.long jl)]))
  refine Go.step (fun t k => XS.lstore X0.here hx rfl (hb hby d44_12) rfl (l' := #[.val (.int (4 : Int32)), .val (.int sx), .val (.long jl), .second, .val (.long jh), .second, .val (.long jl), .second, .unset]) rfl k) ?_
  show Go p.tables e below P (s₁.setTop (mkF m 14 #[.val (.int (4 : Int32)), .val (.int sx), .val (.long jl), .second, .val (.long jh), .second, .val (.long jl), .second, .unset] []))
  refine Go.step (fun t k => XS.lload X0.here hx rfl (hb hby d44_14) rfl  k) ?_
  show Go p.tables e below P (s₁.setTop (mkF m 16 #[.val (.int (4 : Int32)), .val (.int sx), .val (.long jl), .second, .val (.long jh), .second, .val (.long jl), .second, .unset] [(.long jl)]))
  refine Go.step (fun t k => XS.bipush X0.here hx rfl (hb hby d44_16) k) ?_
  show Go p.tables e below P (s₁.setTop (mkF m 18 #[.val (.int (4 : Int32)), .val (.int sx), .val (.long jl), .second, .val (.long jh), .second, .val (.long jl), .second, .unset] [(.int (8 : Int32)), (.long jl)]))
  refine Go.step (fun t k => XS.iloadN X0.here hx rfl (hb hby d44_18) rfl  k) ?_
  show Go p.tables e below P (s₁.setTop (mkF m 19 #[.val (.int (4 : Int32)), .val (.int sx), .val (.long jl), .second, .val (.long jh), .second, .val (.long jl), .second, .unset] [(.int (4 : Int32)), (.int (8 : Int32)), (.long jl)]))
  refine Go.step (fun t k => XS.bipush X0.here hx rfl (hb hby d44_19) k) ?_
  show Go p.tables e below P (s₁.setTop (mkF m 21 #[.val (.int (4 : Int32)), .val (.int sx), .val (.long jl), .second, .val (.long jh), .second, .val (.long jl), .second, .unset] [(.int (7 : Int32)), (.int (4 : Int32)), (.int (8 : Int32)), (.long jl)]))
  obtain ⟨fl_1, hfl_1⟩ : ∃ z : Int32, (4 : Int32) &&& (7 : Int32) = z := ⟨_, rfl⟩
  refine Go.step (fun t k => iand_v X0.here hx rfl (hb hby d44_21) rfl  hfl_1 k) ?_
  show Go p.tables e below P (s₁.setTop (mkF m 22 #[.val (.int (4 : Int32)), .val (.int sx), .val (.long jl), .second, .val (.long jh), .second, .val (.long jl), .second, .unset] [(.int fl_1), (.int (8 : Int32)), (.long jl)]))
  have ez_fl_1 : fl_1 = (4 : Int32) := by rw [← hfl_1]; rfl
  subst ez_fl_1
  show Go p.tables e below P (s₁.setTop (mkF m 22 #[.val (.int (4 : Int32)), .val (.int sx), .val (.long jl), .second, .val (.long jh), .second, .val (.long jl), .second, .unset] [(.int (4 : Int32)), (.int (8 : Int32)), (.long jl)]))
  obtain ⟨fl_2, hfl_2⟩ : ∃ z : Int32, (8 : Int32) * (4 : Int32) = z := ⟨_, rfl⟩
  refine Go.step (fun t k => imul_v X0.here hx rfl (hb hby d44_22) rfl  hfl_2 k) ?_
  show Go p.tables e below P (s₁.setTop (mkF m 23 #[.val (.int (4 : Int32)), .val (.int sx), .val (.long jl), .second, .val (.long jh), .second, .val (.long jl), .second, .unset] [(.int fl_2), (.long jl)]))
  have ez_fl_2 : fl_2 = (32 : Int32) := by rw [← hfl_2]; rfl
  subst ez_fl_2
  show Go p.tables e below P (s₁.setTop (mkF m 23 #[.val (.int (4 : Int32)), .val (.int sx), .val (.long jl), .second, .val (.long jh), .second, .val (.long jl), .second, .unset] [(.int (32 : Int32)), (.long jl)]))
  obtain ⟨j23, hj23⟩ : ∃ z : Int64, ((jl.toUInt64 >>> ((32 : Int32) &&& 0x3f).toInt64.toUInt64).toInt64) = z := ⟨_, rfl⟩
  refine Go.step (fun t k => lushr_v X0.here hx rfl (hb hby d44_23) rfl  hj23 k) ?_
  show Go p.tables e below P (s₁.setTop (mkF m 24 #[.val (.int (4 : Int32)), .val (.int sx), .val (.long jl), .second, .val (.long jh), .second, .val (.long jl), .second, .unset] [(.long j23)]))
  refine Go.step (fun t k => X0.ldc2Long hx hown (mvT hZ (hw _ (List.mem_of_getElem? (i := 67) rfl))) (g := (mkF m 24 #[.val (.int (4 : Int32)), .val (.int sx), .val (.long jl), .second, .val (.long jh), .second, .val (.long jl), .second, .unset] [(.long j23)])) rfl (hb hby d44_24) t k) ?_
  show Go p.tables e below P (s₁.setTop (mkF m 27 #[.val (.int (4 : Int32)), .val (.int sx), .val (.long jl), .second, .val (.long jh), .second, .val (.long jl), .second, .unset] [(.long (255 : Int64)), (.long j23)]))
  obtain ⟨j27, hj27⟩ : ∃ z : Int64, j23 &&& (255 : Int64) = z := ⟨_, rfl⟩
  refine Go.step (fun t k => land_v X0.here hx rfl (hb hby d44_27) rfl  hj27 k) ?_
  show Go p.tables e below P (s₁.setTop (mkF m 28 #[.val (.int (4 : Int32)), .val (.int sx), .val (.long jl), .second, .val (.long jh), .second, .val (.long jl), .second, .unset] [(.long j27)]))
  obtain ⟨i28, hi28⟩ : ∃ z : Int32, j27.toInt32 = z := ⟨_, rfl⟩
  refine Go.step (fun t k => l2i_v X0.here hx rfl (hb hby d44_28) rfl hi28 k) ?_
  show Go p.tables e below P (s₁.setTop (mkF m 29 #[.val (.int (4 : Int32)), .val (.int sx), .val (.long jl), .second, .val (.long jh), .second, .val (.long jl), .second, .unset] [(.int i28)]))
  have f27 := c_maskL j23 (255 : Int64) 8 (by decide) rfl; rw [hj27] at f27
  have f28 := c_l2i j27; rw [hi28] at f28
  have g28 := rng32 i28
  have v28 : 0 ≤ i28.toInt ∧ i28.toInt ≤ 255 := by omega
  clear f27 f28
  refine Go.step (fun t k => XS.istore X0.here hx rfl (hb hby d44_29) rfl (l' := #[.val (.int (4 : Int32)), .val (.int sx), .val (.long jl), .second, .val (.long jh), .second, .val (.long jl), .second, .val (.int i28)]) rfl k) ?_
  show Go p.tables e below P (s₁.setTop (mkF m 31 #[.val (.int (4 : Int32)), .val (.int sx), .val (.long jl), .second, .val (.long jh), .second, .val (.long jl), .second, .val (.int i28)] []))
  refine Go.step (fun t k => XS.iloadN X0.here hx rfl (hb hby d44_31) rfl  k) ?_
  show Go p.tables e below P (s₁.setTop (mkF m 32 #[.val (.int (4 : Int32)), .val (.int sx), .val (.long jl), .second, .val (.long jh), .second, .val (.long jl), .second, .val (.int i28)] [(.int sx)]))
  refine Go.step (fun t k => XS.iloadN X0.here hx rfl (hb hby d44_32) rfl  k) ?_
  show Go p.tables e below P (s₁.setTop (mkF m 33 #[.val (.int (4 : Int32)), .val (.int sx), .val (.long jl), .second, .val (.long jh), .second, .val (.long jl), .second, .val (.int i28)] [(.int (4 : Int32)), (.int sx)]))
  obtain ⟨i33, hi33⟩ : ∃ z : Int32, ((sx.toUInt32 >>> ((4 : Int32) &&& 31).toUInt32).toInt32) = z := ⟨_, rfl⟩
  refine Go.step (fun t k => iushr_v X0.here hx rfl (hb hby d44_33) rfl  hi33 k) ?_
  show Go p.tables e below P (s₁.setTop (mkF m 34 #[.val (.int (4 : Int32)), .val (.int sx), .val (.long jl), .second, .val (.long jh), .second, .val (.long jl), .second, .val (.int i28)] [(.int i33)]))
  refine Go.step (fun t k => XS.iconst X0.here hx rfl (hb hby d44_34) k) ?_
  show Go p.tables e below P (s₁.setTop (mkF m 35 #[.val (.int (4 : Int32)), .val (.int sx), .val (.long jl), .second, .val (.long jh), .second, .val (.long jl), .second, .val (.int i28)] [(.int (1 : Int32)), (.int i33)]))
  obtain ⟨i35, hi35⟩ : ∃ z : Int32, i33 &&& (1 : Int32) = z := ⟨_, rfl⟩
  refine Go.step (fun t k => iand_v X0.here hx rfl (hb hby d44_35) rfl  hi35 k) ?_
  show Go p.tables e below P (s₁.setTop (mkF m 36 #[.val (.int (4 : Int32)), .val (.int sx), .val (.long jl), .second, .val (.long jh), .second, .val (.long jl), .second, .val (.int i28)] [(.int i35)]))
  have fz := c_iushr sx (4 : Int32) 4 rfl (by decide); rw [hi33] at fz
  have fm := c_mask i33 (1 : Int32) 1 (by decide) rfl; rw [hi35] at fm
  have hbit : i35.toInt = bit sx 4 := by unfold bit; omega
  have hb01 := bit01 sx 4
  clear fz fm
  by_cases hc36 : i35.toInt = 0
  · refine Go.step (fun t k => XS.ifYes X0.here hx rfl (pc0 := 36) (pc' := 59) rfl (hb hby d44_36) rfl (ifY (cd := .eq) hc36) (by decide) (by decide) k) ?_
    show Go p.tables e below P (s₁.setTop (mkF m 59 #[.val (.int (4 : Int32)), .val (.int sx), .val (.long jl), .second, .val (.long jh), .second, .val (.long jl), .second, .val (.int i28)] []))
    refine Go.step (fun t k => XS.iload X0.here hx rfl (hb hby d44_59) rfl  k) ?_
    show Go p.tables e below P (s₁.setTop (mkF m 61 #[.val (.int (4 : Int32)), .val (.int sx), .val (.long jl), .second, .val (.long jh), .second, .val (.long jl), .second, .val (.int i28)] [(.int i28)]))
    obtain ⟨i61, hi61⟩ : ∃ z : Int32, i28.toUInt32.toUInt16.toUInt32.toInt32 = z := ⟨_, rfl⟩
    refine Go.step (fun t k => i2c_v X0.here hx rfl (hb hby d44_61) rfl hi61 k) ?_
    show Go p.tables e below P (s₁.setTop (mkF m 62 #[.val (.int (4 : Int32)), .val (.int sx), .val (.long jl), .second, .val (.long jh), .second, .val (.long jl), .second, .val (.int i28)] [(.int i61)]))
    have f61 := c_i2c i28; rw [hi61] at f61
    exact retGo X0 hx hP Bd.returns hlk (nar_c (by omega)) (Or.inl ⟨rfl, Or.inr (Or.inr (Or.inr (Or.inl rfl))), _, rfl⟩) (hb hby d44_62) (by decide) (by decide) (by rw [e0]; exact ⟨i61, rfl, by unfold Ok; omega, N0, rfl⟩)
  · refine Go.step (fun t k => XS.ifNo X0.here hx rfl (hb hby d44_36) rfl (ifN (cd := .eq) hc36) k) ?_
    show Go p.tables e below P (s₁.setTop (mkF m 39 #[.val (.int (4 : Int32)), .val (.int sx), .val (.long jl), .second, .val (.long jh), .second, .val (.long jl), .second, .val (.int i28)] []))
    refine Go.step (fun t k => XS.iloadN X0.here hx rfl (hb hby d44_39) rfl  k) ?_
    show Go p.tables e below P (s₁.setTop (mkF m 40 #[.val (.int (4 : Int32)), .val (.int sx), .val (.long jl), .second, .val (.long jh), .second, .val (.long jl), .second, .val (.int i28)] [(.int (4 : Int32))]))
    refine Go.step (fun t k => XS.iconst X0.here hx rfl (hb hby d44_40) k) ?_
    show Go p.tables e below P (s₁.setTop (mkF m 41 #[.val (.int (4 : Int32)), .val (.int sx), .val (.long jl), .second, .val (.long jh), .second, .val (.long jl), .second, .val (.int i28)] [(.int (1 : Int32)), (.int (4 : Int32))]))
    obtain ⟨fl_3, hfl_3⟩ : ∃ z : Int32, (4 : Int32) &&& (1 : Int32) = z := ⟨_, rfl⟩
    refine Go.step (fun t k => iand_v X0.here hx rfl (hb hby d44_41) rfl  hfl_3 k) ?_
    show Go p.tables e below P (s₁.setTop (mkF m 42 #[.val (.int (4 : Int32)), .val (.int sx), .val (.long jl), .second, .val (.long jh), .second, .val (.long jl), .second, .val (.int i28)] [(.int fl_3)]))
    have ez_fl_3 : fl_3 = (0 : Int32) := by rw [← hfl_3]; rfl
    subst ez_fl_3
    show Go p.tables e below P (s₁.setTop (mkF m 42 #[.val (.int (4 : Int32)), .val (.int sx), .val (.long jl), .second, .val (.long jh), .second, .val (.long jl), .second, .val (.int i28)] [(.int (0 : Int32))]))
    refine Go.step (fun t k => XS.ifNo X0.here hx rfl (hb hby d44_42) rfl (ifN (cd := .ne) (by decide : ¬ (¬ (0 : Int) = 0))) k) ?_
    show Go p.tables e below P (s₁.setTop (mkF m 45 #[.val (.int (4 : Int32)), .val (.int sx), .val (.long jl), .second, .val (.long jh), .second, .val (.long jl), .second, .val (.int i28)] []))
    refine Go.step (fun t k => X0.ldcInt hx hown (mvT hZ (hw _ (List.mem_of_getElem? (i := 68) rfl))) (g := (mkF m 45 #[.val (.int (4 : Int32)), .val (.int sx), .val (.long jl), .second, .val (.long jh), .second, .val (.long jl), .second, .val (.int i28)] [])) rfl (hb hby d44_45) t k) ?_
    show Go p.tables e below P (s₁.setTop (mkF m 47 #[.val (.int (4 : Int32)), .val (.int sx), .val (.long jl), .second, .val (.long jh), .second, .val (.long jl), .second, .val (.int i28)] [(.int (55296 : Int32))]))
    refine Go.step (fun t k => XS.iload X0.here hx rfl (hb hby d44_47) rfl  k) ?_
    show Go p.tables e below P (s₁.setTop (mkF m 49 #[.val (.int (4 : Int32)), .val (.int sx), .val (.long jl), .second, .val (.long jh), .second, .val (.long jl), .second, .val (.int i28)] [(.int i28), (.int (55296 : Int32))]))
    obtain ⟨i49, hi49⟩ : ∃ z : Int32, (55296 : Int32) ||| i28 = z := ⟨_, rfl⟩
    refine Go.step (fun t k => ior_v X0.here hx rfl (hb hby d44_49) rfl  hi49 k) ?_
    show Go p.tables e below P (s₁.setTop (mkF m 50 #[.val (.int (4 : Int32)), .val (.int sx), .val (.long jl), .second, .val (.long jh), .second, .val (.long jl), .second, .val (.int i28)] [(.int i49)]))
    obtain ⟨i50, hi50⟩ : ∃ z : Int32, i49.toUInt32.toUInt16.toUInt32.toInt32 = z := ⟨_, rfl⟩
    refine Go.step (fun t k => i2c_v X0.here hx rfl (hb hby d44_50) rfl hi50 k) ?_
    show Go p.tables e below P (s₁.setTop (mkF m 51 #[.val (.int (4 : Int32)), .val (.int sx), .val (.long jl), .second, .val (.long jh), .second, .val (.long jl), .second, .val (.int i28)] [(.int i50)]))
    have e5 : (55296 : Int32).toInt = 55296 := rfl
    have fo := c_or (55296 : Int32) i28 8 (by decide) 256 rfl (by omega) (by omega) (by omega); rw [hi49, e5] at fo
    have go := rng32 i49
    have fc := c_i2c i49; rw [hi50] at fc
    exact retGo X0 hx hP Bd.returns hlk (nar_c (by omega)) (Or.inl ⟨rfl, Or.inr (Or.inr (Or.inr (Or.inl rfl))), _, rfl⟩) (hb hby d44_51) (by decide) (by decide) (by rw [e0]; exact ⟨i50, rfl, by unfold Ok; omega, N0, rfl⟩)
theorem d45_0 : decode method_3_code 0 = .ok (.iload_n 0, 1) := by decide +kernel
theorem d45_1 : decode method_3_code 1 = .ok (.bipush 8, 2) := by decide +kernel
theorem d45_3 : decode method_3_code 3 = .ok (.if_icmp .ge 7, 3) := by decide +kernel
theorem d45_6 : decode method_3_code 6 = .ok (.lload_n 2, 1) := by decide +kernel
theorem d45_7 : decode method_3_code 7 = .ok (.goto 5, 3) := by decide +kernel
theorem d45_12 : decode method_3_code 12 = .ok (.lstore 6, 2) := by decide +kernel
theorem d45_14 : decode method_3_code 14 = .ok (.lload 6, 2) := by decide +kernel
theorem d45_16 : decode method_3_code 16 = .ok (.bipush 8, 2) := by decide +kernel
theorem d45_18 : decode method_3_code 18 = .ok (.iload_n 0, 1) := by decide +kernel
theorem d45_19 : decode method_3_code 19 = .ok (.bipush 7, 2) := by decide +kernel
theorem d45_21 : decode method_3_code 21 = .ok (.iand, 1) := by decide +kernel
theorem d45_22 : decode method_3_code 22 = .ok (.imul, 1) := by decide +kernel
theorem d45_23 : decode method_3_code 23 = .ok (.lushr, 1) := by decide +kernel
theorem d45_24 : decode method_3_code 24 = .ok (.ldc2_w 29, 3) := by decide +kernel
theorem d45_27 : decode method_3_code 27 = .ok (.land, 1) := by decide +kernel
theorem d45_28 : decode method_3_code 28 = .ok (.l2i, 1) := by decide +kernel
theorem d45_29 : decode method_3_code 29 = .ok (.istore 8, 2) := by decide +kernel
theorem d45_31 : decode method_3_code 31 = .ok (.iload_n 1, 1) := by decide +kernel
theorem d45_32 : decode method_3_code 32 = .ok (.iload_n 0, 1) := by decide +kernel
theorem d45_33 : decode method_3_code 33 = .ok (.iushr, 1) := by decide +kernel
theorem d45_34 : decode method_3_code 34 = .ok (.iconst 1, 1) := by decide +kernel
theorem d45_35 : decode method_3_code 35 = .ok (.iand, 1) := by decide +kernel
theorem d45_36 : decode method_3_code 36 = .ok (.ifCond .eq 23, 3) := by decide +kernel
theorem d45_39 : decode method_3_code 39 = .ok (.iload_n 0, 1) := by decide +kernel
theorem d45_40 : decode method_3_code 40 = .ok (.iconst 1, 1) := by decide +kernel
theorem d45_41 : decode method_3_code 41 = .ok (.iand, 1) := by decide +kernel
theorem d45_42 : decode method_3_code 42 = .ok (.ifCond .ne 10, 3) := by decide +kernel
theorem d45_52 : decode method_3_code 52 = .ok (.ldc 32, 2) := by decide +kernel
theorem d45_54 : decode method_3_code 54 = .ok (.iload 8, 2) := by decide +kernel
theorem d45_56 : decode method_3_code 56 = .ok (.ior, 1) := by decide +kernel
theorem d45_57 : decode method_3_code 57 = .ok (.i2c, 1) := by decide +kernel
theorem d45_58 : decode method_3_code 58 = .ok (.ireturn, 1) := by decide +kernel
theorem d45_59 : decode method_3_code 59 = .ok (.iload 8, 2) := by decide +kernel
theorem d45_61 : decode method_3_code 61 = .ok (.i2c, 1) := by decide +kernel
theorem d45_62 : decode method_3_code 62 = .ok (.ireturn, 1) := by decide +kernel
theorem pn_45 : plainName "com/example/wrasse/wrasse/WordsToleratedEditsPinLaw" = true := by first | (simp [plainName, overriddenIn]; done) | decide +kernel
theorem ef_45 (m : MethodId) (x0 : Int32) (x1 : Int32) (x2 : Int64) (x3 : Int64) : entryFrame m #[(.int x0), (.int x1), (.long x2), (.long x3)] 9 = mkF m 0 #[.val (.int x0), .val (.int x1), .val (.long x2), .second, .val (.long x3), .second, .unset, .unset, .unset] [] := by first | (simp [entryFrame, mkF, argsToLocals, Value.category]; done) | rfl
def Q45 (Z : State) (sx : Int32) (jl : Int64) (jh : Int64) (h0 : Heap) (n0 : Nat) (v : Option Value) (h : Heap) (L : List Loc) : Prop := ∃ r : Int32, v = some (.int r) ∧ Ok sx 5 r ∧ Fr n0 L ∧ h = h0
set_option maxRecDepth 65536 in
set_option maxHeartbeats 40000000 in
theorem ch5 (l : Launch) (Z : State) (a0 : Array Value) (hw : ∀ d ∈ tables_1, d.before a0 Z = true) (ws : List Jvm.Cond) (sx : Int32) (jl : Int64) (jh : Int64) (h0 : Heap) (n0 : Nat) (Z0 : n0 ≤ h0.size) :
    MetFree l (⟨"com/example/wrasse/wrasse/WordsToleratedEditsPinLaw", "ch", "(IIJJ)C"⟩ : MethodName) (head1 (Jvm.Cond.code (⟨"com/example/wrasse/wrasse/WordsToleratedEditsPinLaw", "ch", "(IIJJ)C"⟩ : MethodName) method_3_code 9 (some .char) :: ws) ({ frames := 0, cells := 0, slots := 0, locals := 0 } : Room)) (fun a_ U => a_ = #[(.int (5 : Int32)), (.int sx), (.long jl), (.long jh)] ∧ Z.Warmed39 U.vm ∧ U.heap = h0) (fun _ _ _ _ _ => True) (fun _ U o U' => ∃ v L, o = .returned v ∧ Q45 Z sx jl jh h0 n0 v U'.heap L ∧ FrameEnd U o U' L (({ frames := 0, cells := 0, slots := 0, locals := 0 } : Room)).cells (({ frames := 0, cells := 0, slots := 0, locals := 0 } : Room)).slots) := by
  refine MetFree.of_bodySF (plainFor_of_name pn_45) hisR ?_
  intro p e s m args below meth c s₁ Bd hml0 hP0 hK
  obtain ⟨rfl, hZ, hh⟩ := hP0
  have hx := Bd.exec
  have hby := Bd.bytes
  have hml : c.maxLocals = 9 := hml0
  have hown : s.vm.findClass "com/example/wrasse/wrasse/WordsToleratedEditsPinLaw" = some m.cls := findClass_of_methodNamed Bd.named
  have hnm := (name_of_methodNamed Bd.named Bd.method).1
  have X0 : Stand p l e ({ frames := 0, cells := 0, slots := 0, locals := 0 } : Room) s m #[(.int (5 : Int32)), (.int sx), (.long jl), (.long jh)] below meth c s₁ [] 0 0 := Stand.of_body Bd
  have e0 : s₁.heap = h0 := by rw [← hh, Bd.state]; rfl
  have N0 := Fr.nil n0
  have hlk : meth.locks = false := BodyLoose.notSynchronized Bd
  refine Go.start (P₀ := fun s₂ o => ∃ v L, o = .returned v ∧ Q45 Z sx jl jh h0 n0 v s₂.heap L ∧ FrameEnd s o s₂ L (({ frames := 0, cells := 0, slots := 0, locals := 0 } : Room)).cells (({ frames := 0, cells := 0, slots := 0, locals := 0 } : Room)).slots) (congrArg s₁.setTop (ef_45 m (5 : Int32) sx jl jh)) ?_
  intro P hP
  show Go p.tables e below P (s₁.setTop (mkF m 0 #[.val (.int (5 : Int32)), .val (.int sx), .val (.long jl), .second, .val (.long jh), .second, .unset, .unset, .unset] []))
  refine Go.step (fun t k => XS.iloadN X0.here hx rfl (hb hby d45_0) rfl  k) ?_
  show Go p.tables e below P (s₁.setTop (mkF m 1 #[.val (.int (5 : Int32)), .val (.int sx), .val (.long jl), .second, .val (.long jh), .second, .unset, .unset, .unset] [(.int (5 : Int32))]))
  refine Go.step (fun t k => XS.bipush X0.here hx rfl (hb hby d45_1) k) ?_
  show Go p.tables e below P (s₁.setTop (mkF m 3 #[.val (.int (5 : Int32)), .val (.int sx), .val (.long jl), .second, .val (.long jh), .second, .unset, .unset, .unset] [(.int (8 : Int32)), (.int (5 : Int32))]))
  refine Go.step (fun t k => XS.icmpNo X0.here hx rfl (hb hby d45_3) rfl (icN (cd := .ge) (by decide : ¬ ((8 : Int) ≤ (5 : Int)))) k) ?_
  show Go p.tables e below P (s₁.setTop (mkF m 6 #[.val (.int (5 : Int32)), .val (.int sx), .val (.long jl), .second, .val (.long jh), .second, .unset, .unset, .unset] []))
  refine Go.step (fun t k => XS.lloadN X0.here hx rfl (hb hby d45_6) rfl  k) ?_
  show Go p.tables e below P (s₁.setTop (mkF m 7 #[.val (.int (5 : Int32)), .val (.int sx), .val (.long jl), .second, .val (.long jh), .second, .unset, .unset, .unset] [(.long jl)]))
  refine Go.step (fun t k => XS.goto X0.here hx rfl (pc0 := 7) (pc' := 12) rfl (hb hby d45_7) (by decide) (by decide) k) ?_
  show Go p.tables e below P (s₁.setTop (mkF m 12 #[.val (.int (5 : Int32)), .val (.int sx), .val (.long jl), .second, .val (.long jh), .second, .unset, .unset, .unset] [(.long jl)]))
  refine Go.step (fun t k => XS.lstore X0.here hx rfl (hb hby d45_12) rfl (l' := #[.val (.int (5 : Int32)), .val (.int sx), .val (.long jl), .second, .val (.long jh), .second, .val (.long jl), .second, .unset]) rfl k) ?_
  show Go p.tables e below P (s₁.setTop (mkF m 14 #[.val (.int (5 : Int32)), .val (.int sx), .val (.long jl), .second, .val (.long jh), .second, .val (.long jl), .second, .unset] []))
  refine Go.step (fun t k => XS.lload X0.here hx rfl (hb hby d45_14) rfl  k) ?_
  show Go p.tables e below P (s₁.setTop (mkF m 16 #[.val (.int (5 : Int32)), .val (.int sx), .val (.long jl), .second, .val (.long jh), .second, .val (.long jl), .second, .unset] [(.long jl)]))
  refine Go.step (fun t k => XS.bipush X0.here hx rfl (hb hby d45_16) k) ?_
  show Go p.tables e below P (s₁.setTop (mkF m 18 #[.val (.int (5 : Int32)), .val (.int sx), .val (.long jl), .second, .val (.long jh), .second, .val (.long jl), .second, .unset] [(.int (8 : Int32)), (.long jl)]))
  refine Go.step (fun t k => XS.iloadN X0.here hx rfl (hb hby d45_18) rfl  k) ?_
  show Go p.tables e below P (s₁.setTop (mkF m 19 #[.val (.int (5 : Int32)), .val (.int sx), .val (.long jl), .second, .val (.long jh), .second, .val (.long jl), .second, .unset] [(.int (5 : Int32)), (.int (8 : Int32)), (.long jl)]))
  refine Go.step (fun t k => XS.bipush X0.here hx rfl (hb hby d45_19) k) ?_
  show Go p.tables e below P (s₁.setTop (mkF m 21 #[.val (.int (5 : Int32)), .val (.int sx), .val (.long jl), .second, .val (.long jh), .second, .val (.long jl), .second, .unset] [(.int (7 : Int32)), (.int (5 : Int32)), (.int (8 : Int32)), (.long jl)]))
  obtain ⟨fl_1, hfl_1⟩ : ∃ z : Int32, (5 : Int32) &&& (7 : Int32) = z := ⟨_, rfl⟩
  refine Go.step (fun t k => iand_v X0.here hx rfl (hb hby d45_21) rfl  hfl_1 k) ?_
  show Go p.tables e below P (s₁.setTop (mkF m 22 #[.val (.int (5 : Int32)), .val (.int sx), .val (.long jl), .second, .val (.long jh), .second, .val (.long jl), .second, .unset] [(.int fl_1), (.int (8 : Int32)), (.long jl)]))
  have ez_fl_1 : fl_1 = (5 : Int32) := by rw [← hfl_1]; rfl
  subst ez_fl_1
  show Go p.tables e below P (s₁.setTop (mkF m 22 #[.val (.int (5 : Int32)), .val (.int sx), .val (.long jl), .second, .val (.long jh), .second, .val (.long jl), .second, .unset] [(.int (5 : Int32)), (.int (8 : Int32)), (.long jl)]))
  obtain ⟨fl_2, hfl_2⟩ : ∃ z : Int32, (8 : Int32) * (5 : Int32) = z := ⟨_, rfl⟩
  refine Go.step (fun t k => imul_v X0.here hx rfl (hb hby d45_22) rfl  hfl_2 k) ?_
  show Go p.tables e below P (s₁.setTop (mkF m 23 #[.val (.int (5 : Int32)), .val (.int sx), .val (.long jl), .second, .val (.long jh), .second, .val (.long jl), .second, .unset] [(.int fl_2), (.long jl)]))
  have ez_fl_2 : fl_2 = (40 : Int32) := by rw [← hfl_2]; rfl
  subst ez_fl_2
  show Go p.tables e below P (s₁.setTop (mkF m 23 #[.val (.int (5 : Int32)), .val (.int sx), .val (.long jl), .second, .val (.long jh), .second, .val (.long jl), .second, .unset] [(.int (40 : Int32)), (.long jl)]))
  obtain ⟨j23, hj23⟩ : ∃ z : Int64, ((jl.toUInt64 >>> ((40 : Int32) &&& 0x3f).toInt64.toUInt64).toInt64) = z := ⟨_, rfl⟩
  refine Go.step (fun t k => lushr_v X0.here hx rfl (hb hby d45_23) rfl  hj23 k) ?_
  show Go p.tables e below P (s₁.setTop (mkF m 24 #[.val (.int (5 : Int32)), .val (.int sx), .val (.long jl), .second, .val (.long jh), .second, .val (.long jl), .second, .unset] [(.long j23)]))
  refine Go.step (fun t k => X0.ldc2Long hx hown (mvT hZ (hw _ (List.mem_of_getElem? (i := 67) rfl))) (g := (mkF m 24 #[.val (.int (5 : Int32)), .val (.int sx), .val (.long jl), .second, .val (.long jh), .second, .val (.long jl), .second, .unset] [(.long j23)])) rfl (hb hby d45_24) t k) ?_
  show Go p.tables e below P (s₁.setTop (mkF m 27 #[.val (.int (5 : Int32)), .val (.int sx), .val (.long jl), .second, .val (.long jh), .second, .val (.long jl), .second, .unset] [(.long (255 : Int64)), (.long j23)]))
  obtain ⟨j27, hj27⟩ : ∃ z : Int64, j23 &&& (255 : Int64) = z := ⟨_, rfl⟩
  refine Go.step (fun t k => land_v X0.here hx rfl (hb hby d45_27) rfl  hj27 k) ?_
  show Go p.tables e below P (s₁.setTop (mkF m 28 #[.val (.int (5 : Int32)), .val (.int sx), .val (.long jl), .second, .val (.long jh), .second, .val (.long jl), .second, .unset] [(.long j27)]))
  obtain ⟨i28, hi28⟩ : ∃ z : Int32, j27.toInt32 = z := ⟨_, rfl⟩
  refine Go.step (fun t k => l2i_v X0.here hx rfl (hb hby d45_28) rfl hi28 k) ?_
  show Go p.tables e below P (s₁.setTop (mkF m 29 #[.val (.int (5 : Int32)), .val (.int sx), .val (.long jl), .second, .val (.long jh), .second, .val (.long jl), .second, .unset] [(.int i28)]))
  have f27 := c_maskL j23 (255 : Int64) 8 (by decide) rfl; rw [hj27] at f27
  have f28 := c_l2i j27; rw [hi28] at f28
  have g28 := rng32 i28
  have v28 : 0 ≤ i28.toInt ∧ i28.toInt ≤ 255 := by omega
  clear f27 f28
  refine Go.step (fun t k => XS.istore X0.here hx rfl (hb hby d45_29) rfl (l' := #[.val (.int (5 : Int32)), .val (.int sx), .val (.long jl), .second, .val (.long jh), .second, .val (.long jl), .second, .val (.int i28)]) rfl k) ?_
  show Go p.tables e below P (s₁.setTop (mkF m 31 #[.val (.int (5 : Int32)), .val (.int sx), .val (.long jl), .second, .val (.long jh), .second, .val (.long jl), .second, .val (.int i28)] []))
  refine Go.step (fun t k => XS.iloadN X0.here hx rfl (hb hby d45_31) rfl  k) ?_
  show Go p.tables e below P (s₁.setTop (mkF m 32 #[.val (.int (5 : Int32)), .val (.int sx), .val (.long jl), .second, .val (.long jh), .second, .val (.long jl), .second, .val (.int i28)] [(.int sx)]))
  refine Go.step (fun t k => XS.iloadN X0.here hx rfl (hb hby d45_32) rfl  k) ?_
  show Go p.tables e below P (s₁.setTop (mkF m 33 #[.val (.int (5 : Int32)), .val (.int sx), .val (.long jl), .second, .val (.long jh), .second, .val (.long jl), .second, .val (.int i28)] [(.int (5 : Int32)), (.int sx)]))
  obtain ⟨i33, hi33⟩ : ∃ z : Int32, ((sx.toUInt32 >>> ((5 : Int32) &&& 31).toUInt32).toInt32) = z := ⟨_, rfl⟩
  refine Go.step (fun t k => iushr_v X0.here hx rfl (hb hby d45_33) rfl  hi33 k) ?_
  show Go p.tables e below P (s₁.setTop (mkF m 34 #[.val (.int (5 : Int32)), .val (.int sx), .val (.long jl), .second, .val (.long jh), .second, .val (.long jl), .second, .val (.int i28)] [(.int i33)]))
  refine Go.step (fun t k => XS.iconst X0.here hx rfl (hb hby d45_34) k) ?_
  show Go p.tables e below P (s₁.setTop (mkF m 35 #[.val (.int (5 : Int32)), .val (.int sx), .val (.long jl), .second, .val (.long jh), .second, .val (.long jl), .second, .val (.int i28)] [(.int (1 : Int32)), (.int i33)]))
  obtain ⟨i35, hi35⟩ : ∃ z : Int32, i33 &&& (1 : Int32) = z := ⟨_, rfl⟩
  refine Go.step (fun t k => iand_v X0.here hx rfl (hb hby d45_35) rfl  hi35 k) ?_
  show Go p.tables e below P (s₁.setTop (mkF m 36 #[.val (.int (5 : Int32)), .val (.int sx), .val (.long jl), .second, .val (.long jh), .second, .val (.long jl), .second, .val (.int i28)] [(.int i35)]))
  have fz := c_iushr sx (5 : Int32) 5 rfl (by decide); rw [hi33] at fz
  have fm := c_mask i33 (1 : Int32) 1 (by decide) rfl; rw [hi35] at fm
  have hbit : i35.toInt = bit sx 5 := by unfold bit; omega
  have hb01 := bit01 sx 5
  clear fz fm
  by_cases hc36 : i35.toInt = 0
  · refine Go.step (fun t k => XS.ifYes X0.here hx rfl (pc0 := 36) (pc' := 59) rfl (hb hby d45_36) rfl (ifY (cd := .eq) hc36) (by decide) (by decide) k) ?_
    show Go p.tables e below P (s₁.setTop (mkF m 59 #[.val (.int (5 : Int32)), .val (.int sx), .val (.long jl), .second, .val (.long jh), .second, .val (.long jl), .second, .val (.int i28)] []))
    refine Go.step (fun t k => XS.iload X0.here hx rfl (hb hby d45_59) rfl  k) ?_
    show Go p.tables e below P (s₁.setTop (mkF m 61 #[.val (.int (5 : Int32)), .val (.int sx), .val (.long jl), .second, .val (.long jh), .second, .val (.long jl), .second, .val (.int i28)] [(.int i28)]))
    obtain ⟨i61, hi61⟩ : ∃ z : Int32, i28.toUInt32.toUInt16.toUInt32.toInt32 = z := ⟨_, rfl⟩
    refine Go.step (fun t k => i2c_v X0.here hx rfl (hb hby d45_61) rfl hi61 k) ?_
    show Go p.tables e below P (s₁.setTop (mkF m 62 #[.val (.int (5 : Int32)), .val (.int sx), .val (.long jl), .second, .val (.long jh), .second, .val (.long jl), .second, .val (.int i28)] [(.int i61)]))
    have f61 := c_i2c i28; rw [hi61] at f61
    exact retGo X0 hx hP Bd.returns hlk (nar_c (by omega)) (Or.inl ⟨rfl, Or.inr (Or.inr (Or.inr (Or.inl rfl))), _, rfl⟩) (hb hby d45_62) (by decide) (by decide) (by rw [e0]; exact ⟨i61, rfl, by unfold Ok; omega, N0, rfl⟩)
  · refine Go.step (fun t k => XS.ifNo X0.here hx rfl (hb hby d45_36) rfl (ifN (cd := .eq) hc36) k) ?_
    show Go p.tables e below P (s₁.setTop (mkF m 39 #[.val (.int (5 : Int32)), .val (.int sx), .val (.long jl), .second, .val (.long jh), .second, .val (.long jl), .second, .val (.int i28)] []))
    refine Go.step (fun t k => XS.iloadN X0.here hx rfl (hb hby d45_39) rfl  k) ?_
    show Go p.tables e below P (s₁.setTop (mkF m 40 #[.val (.int (5 : Int32)), .val (.int sx), .val (.long jl), .second, .val (.long jh), .second, .val (.long jl), .second, .val (.int i28)] [(.int (5 : Int32))]))
    refine Go.step (fun t k => XS.iconst X0.here hx rfl (hb hby d45_40) k) ?_
    show Go p.tables e below P (s₁.setTop (mkF m 41 #[.val (.int (5 : Int32)), .val (.int sx), .val (.long jl), .second, .val (.long jh), .second, .val (.long jl), .second, .val (.int i28)] [(.int (1 : Int32)), (.int (5 : Int32))]))
    obtain ⟨fl_3, hfl_3⟩ : ∃ z : Int32, (5 : Int32) &&& (1 : Int32) = z := ⟨_, rfl⟩
    refine Go.step (fun t k => iand_v X0.here hx rfl (hb hby d45_41) rfl  hfl_3 k) ?_
    show Go p.tables e below P (s₁.setTop (mkF m 42 #[.val (.int (5 : Int32)), .val (.int sx), .val (.long jl), .second, .val (.long jh), .second, .val (.long jl), .second, .val (.int i28)] [(.int fl_3)]))
    have ez_fl_3 : fl_3 = (1 : Int32) := by rw [← hfl_3]; rfl
    subst ez_fl_3
    show Go p.tables e below P (s₁.setTop (mkF m 42 #[.val (.int (5 : Int32)), .val (.int sx), .val (.long jl), .second, .val (.long jh), .second, .val (.long jl), .second, .val (.int i28)] [(.int (1 : Int32))]))
    refine Go.step (fun t k => XS.ifYes X0.here hx rfl (pc0 := 42) (pc' := 52) rfl (hb hby d45_42) rfl (ifY (cd := .ne) (by decide : ¬ (1 : Int) = 0)) (by decide) (by decide) k) ?_
    show Go p.tables e below P (s₁.setTop (mkF m 52 #[.val (.int (5 : Int32)), .val (.int sx), .val (.long jl), .second, .val (.long jh), .second, .val (.long jl), .second, .val (.int i28)] []))
    refine Go.step (fun t k => X0.ldcInt hx hown (mvT hZ (hw _ (List.mem_of_getElem? (i := 69) rfl))) (g := (mkF m 52 #[.val (.int (5 : Int32)), .val (.int sx), .val (.long jl), .second, .val (.long jh), .second, .val (.long jl), .second, .val (.int i28)] [])) rfl (hb hby d45_52) t k) ?_
    show Go p.tables e below P (s₁.setTop (mkF m 54 #[.val (.int (5 : Int32)), .val (.int sx), .val (.long jl), .second, .val (.long jh), .second, .val (.long jl), .second, .val (.int i28)] [(.int (56320 : Int32))]))
    refine Go.step (fun t k => XS.iload X0.here hx rfl (hb hby d45_54) rfl  k) ?_
    show Go p.tables e below P (s₁.setTop (mkF m 56 #[.val (.int (5 : Int32)), .val (.int sx), .val (.long jl), .second, .val (.long jh), .second, .val (.long jl), .second, .val (.int i28)] [(.int i28), (.int (56320 : Int32))]))
    obtain ⟨i56, hi56⟩ : ∃ z : Int32, (56320 : Int32) ||| i28 = z := ⟨_, rfl⟩
    refine Go.step (fun t k => ior_v X0.here hx rfl (hb hby d45_56) rfl  hi56 k) ?_
    show Go p.tables e below P (s₁.setTop (mkF m 57 #[.val (.int (5 : Int32)), .val (.int sx), .val (.long jl), .second, .val (.long jh), .second, .val (.long jl), .second, .val (.int i28)] [(.int i56)]))
    obtain ⟨i57, hi57⟩ : ∃ z : Int32, i56.toUInt32.toUInt16.toUInt32.toInt32 = z := ⟨_, rfl⟩
    refine Go.step (fun t k => i2c_v X0.here hx rfl (hb hby d45_57) rfl hi57 k) ?_
    show Go p.tables e below P (s₁.setTop (mkF m 58 #[.val (.int (5 : Int32)), .val (.int sx), .val (.long jl), .second, .val (.long jh), .second, .val (.long jl), .second, .val (.int i28)] [(.int i57)]))
    have e5 : (56320 : Int32).toInt = 56320 := rfl
    have fo := c_or (56320 : Int32) i28 8 (by decide) 256 rfl (by omega) (by omega) (by omega); rw [hi56, e5] at fo
    have go := rng32 i56
    have fc := c_i2c i56; rw [hi57] at fc
    exact retGo X0 hx hP Bd.returns hlk (nar_c (by omega)) (Or.inl ⟨rfl, Or.inr (Or.inr (Or.inr (Or.inl rfl))), _, rfl⟩) (hb hby d45_58) (by decide) (by decide) (by rw [e0]; exact ⟨i57, rfl, by unfold Ok; omega, N0, rfl⟩)
theorem d46_0 : decode method_3_code 0 = .ok (.iload_n 0, 1) := by decide +kernel
theorem d46_1 : decode method_3_code 1 = .ok (.bipush 8, 2) := by decide +kernel
theorem d46_3 : decode method_3_code 3 = .ok (.if_icmp .ge 7, 3) := by decide +kernel
theorem d46_6 : decode method_3_code 6 = .ok (.lload_n 2, 1) := by decide +kernel
theorem d46_7 : decode method_3_code 7 = .ok (.goto 5, 3) := by decide +kernel
theorem d46_12 : decode method_3_code 12 = .ok (.lstore 6, 2) := by decide +kernel
theorem d46_14 : decode method_3_code 14 = .ok (.lload 6, 2) := by decide +kernel
theorem d46_16 : decode method_3_code 16 = .ok (.bipush 8, 2) := by decide +kernel
theorem d46_18 : decode method_3_code 18 = .ok (.iload_n 0, 1) := by decide +kernel
theorem d46_19 : decode method_3_code 19 = .ok (.bipush 7, 2) := by decide +kernel
theorem d46_21 : decode method_3_code 21 = .ok (.iand, 1) := by decide +kernel
theorem d46_22 : decode method_3_code 22 = .ok (.imul, 1) := by decide +kernel
theorem d46_23 : decode method_3_code 23 = .ok (.lushr, 1) := by decide +kernel
theorem d46_24 : decode method_3_code 24 = .ok (.ldc2_w 29, 3) := by decide +kernel
theorem d46_27 : decode method_3_code 27 = .ok (.land, 1) := by decide +kernel
theorem d46_28 : decode method_3_code 28 = .ok (.l2i, 1) := by decide +kernel
theorem d46_29 : decode method_3_code 29 = .ok (.istore 8, 2) := by decide +kernel
theorem d46_31 : decode method_3_code 31 = .ok (.iload_n 1, 1) := by decide +kernel
theorem d46_32 : decode method_3_code 32 = .ok (.iload_n 0, 1) := by decide +kernel
theorem d46_33 : decode method_3_code 33 = .ok (.iushr, 1) := by decide +kernel
theorem d46_34 : decode method_3_code 34 = .ok (.iconst 1, 1) := by decide +kernel
theorem d46_35 : decode method_3_code 35 = .ok (.iand, 1) := by decide +kernel
theorem d46_36 : decode method_3_code 36 = .ok (.ifCond .eq 23, 3) := by decide +kernel
theorem d46_39 : decode method_3_code 39 = .ok (.iload_n 0, 1) := by decide +kernel
theorem d46_40 : decode method_3_code 40 = .ok (.iconst 1, 1) := by decide +kernel
theorem d46_41 : decode method_3_code 41 = .ok (.iand, 1) := by decide +kernel
theorem d46_42 : decode method_3_code 42 = .ok (.ifCond .ne 10, 3) := by decide +kernel
theorem d46_45 : decode method_3_code 45 = .ok (.ldc 31, 2) := by decide +kernel
theorem d46_47 : decode method_3_code 47 = .ok (.iload 8, 2) := by decide +kernel
theorem d46_49 : decode method_3_code 49 = .ok (.ior, 1) := by decide +kernel
theorem d46_50 : decode method_3_code 50 = .ok (.i2c, 1) := by decide +kernel
theorem d46_51 : decode method_3_code 51 = .ok (.ireturn, 1) := by decide +kernel
theorem d46_59 : decode method_3_code 59 = .ok (.iload 8, 2) := by decide +kernel
theorem d46_61 : decode method_3_code 61 = .ok (.i2c, 1) := by decide +kernel
theorem d46_62 : decode method_3_code 62 = .ok (.ireturn, 1) := by decide +kernel
theorem pn_46 : plainName "com/example/wrasse/wrasse/WordsToleratedEditsPinLaw" = true := by first | (simp [plainName, overriddenIn]; done) | decide +kernel
theorem ef_46 (m : MethodId) (x0 : Int32) (x1 : Int32) (x2 : Int64) (x3 : Int64) : entryFrame m #[(.int x0), (.int x1), (.long x2), (.long x3)] 9 = mkF m 0 #[.val (.int x0), .val (.int x1), .val (.long x2), .second, .val (.long x3), .second, .unset, .unset, .unset] [] := by first | (simp [entryFrame, mkF, argsToLocals, Value.category]; done) | rfl
def Q46 (Z : State) (sx : Int32) (jl : Int64) (jh : Int64) (h0 : Heap) (n0 : Nat) (v : Option Value) (h : Heap) (L : List Loc) : Prop := ∃ r : Int32, v = some (.int r) ∧ Ok sx 6 r ∧ Fr n0 L ∧ h = h0
set_option maxRecDepth 65536 in
set_option maxHeartbeats 40000000 in
theorem ch6 (l : Launch) (Z : State) (a0 : Array Value) (hw : ∀ d ∈ tables_1, d.before a0 Z = true) (ws : List Jvm.Cond) (sx : Int32) (jl : Int64) (jh : Int64) (h0 : Heap) (n0 : Nat) (Z0 : n0 ≤ h0.size) :
    MetFree l (⟨"com/example/wrasse/wrasse/WordsToleratedEditsPinLaw", "ch", "(IIJJ)C"⟩ : MethodName) (head1 (Jvm.Cond.code (⟨"com/example/wrasse/wrasse/WordsToleratedEditsPinLaw", "ch", "(IIJJ)C"⟩ : MethodName) method_3_code 9 (some .char) :: ws) ({ frames := 0, cells := 0, slots := 0, locals := 0 } : Room)) (fun a_ U => a_ = #[(.int (6 : Int32)), (.int sx), (.long jl), (.long jh)] ∧ Z.Warmed39 U.vm ∧ U.heap = h0) (fun _ _ _ _ _ => True) (fun _ U o U' => ∃ v L, o = .returned v ∧ Q46 Z sx jl jh h0 n0 v U'.heap L ∧ FrameEnd U o U' L (({ frames := 0, cells := 0, slots := 0, locals := 0 } : Room)).cells (({ frames := 0, cells := 0, slots := 0, locals := 0 } : Room)).slots) := by
  refine MetFree.of_bodySF (plainFor_of_name pn_46) hisR ?_
  intro p e s m args below meth c s₁ Bd hml0 hP0 hK
  obtain ⟨rfl, hZ, hh⟩ := hP0
  have hx := Bd.exec
  have hby := Bd.bytes
  have hml : c.maxLocals = 9 := hml0
  have hown : s.vm.findClass "com/example/wrasse/wrasse/WordsToleratedEditsPinLaw" = some m.cls := findClass_of_methodNamed Bd.named
  have hnm := (name_of_methodNamed Bd.named Bd.method).1
  have X0 : Stand p l e ({ frames := 0, cells := 0, slots := 0, locals := 0 } : Room) s m #[(.int (6 : Int32)), (.int sx), (.long jl), (.long jh)] below meth c s₁ [] 0 0 := Stand.of_body Bd
  have e0 : s₁.heap = h0 := by rw [← hh, Bd.state]; rfl
  have N0 := Fr.nil n0
  have hlk : meth.locks = false := BodyLoose.notSynchronized Bd
  refine Go.start (P₀ := fun s₂ o => ∃ v L, o = .returned v ∧ Q46 Z sx jl jh h0 n0 v s₂.heap L ∧ FrameEnd s o s₂ L (({ frames := 0, cells := 0, slots := 0, locals := 0 } : Room)).cells (({ frames := 0, cells := 0, slots := 0, locals := 0 } : Room)).slots) (congrArg s₁.setTop (ef_46 m (6 : Int32) sx jl jh)) ?_
  intro P hP
  show Go p.tables e below P (s₁.setTop (mkF m 0 #[.val (.int (6 : Int32)), .val (.int sx), .val (.long jl), .second, .val (.long jh), .second, .unset, .unset, .unset] []))
  refine Go.step (fun t k => XS.iloadN X0.here hx rfl (hb hby d46_0) rfl  k) ?_
  show Go p.tables e below P (s₁.setTop (mkF m 1 #[.val (.int (6 : Int32)), .val (.int sx), .val (.long jl), .second, .val (.long jh), .second, .unset, .unset, .unset] [(.int (6 : Int32))]))
  refine Go.step (fun t k => XS.bipush X0.here hx rfl (hb hby d46_1) k) ?_
  show Go p.tables e below P (s₁.setTop (mkF m 3 #[.val (.int (6 : Int32)), .val (.int sx), .val (.long jl), .second, .val (.long jh), .second, .unset, .unset, .unset] [(.int (8 : Int32)), (.int (6 : Int32))]))
  refine Go.step (fun t k => XS.icmpNo X0.here hx rfl (hb hby d46_3) rfl (icN (cd := .ge) (by decide : ¬ ((8 : Int) ≤ (6 : Int)))) k) ?_
  show Go p.tables e below P (s₁.setTop (mkF m 6 #[.val (.int (6 : Int32)), .val (.int sx), .val (.long jl), .second, .val (.long jh), .second, .unset, .unset, .unset] []))
  refine Go.step (fun t k => XS.lloadN X0.here hx rfl (hb hby d46_6) rfl  k) ?_
  show Go p.tables e below P (s₁.setTop (mkF m 7 #[.val (.int (6 : Int32)), .val (.int sx), .val (.long jl), .second, .val (.long jh), .second, .unset, .unset, .unset] [(.long jl)]))
  refine Go.step (fun t k => XS.goto X0.here hx rfl (pc0 := 7) (pc' := 12) rfl (hb hby d46_7) (by decide) (by decide) k) ?_
  show Go p.tables e below P (s₁.setTop (mkF m 12 #[.val (.int (6 : Int32)), .val (.int sx), .val (.long jl), .second, .val (.long jh), .second, .unset, .unset, .unset] [(.long jl)]))
  refine Go.step (fun t k => XS.lstore X0.here hx rfl (hb hby d46_12) rfl (l' := #[.val (.int (6 : Int32)), .val (.int sx), .val (.long jl), .second, .val (.long jh), .second, .val (.long jl), .second, .unset]) rfl k) ?_
  show Go p.tables e below P (s₁.setTop (mkF m 14 #[.val (.int (6 : Int32)), .val (.int sx), .val (.long jl), .second, .val (.long jh), .second, .val (.long jl), .second, .unset] []))
  refine Go.step (fun t k => XS.lload X0.here hx rfl (hb hby d46_14) rfl  k) ?_
  show Go p.tables e below P (s₁.setTop (mkF m 16 #[.val (.int (6 : Int32)), .val (.int sx), .val (.long jl), .second, .val (.long jh), .second, .val (.long jl), .second, .unset] [(.long jl)]))
  refine Go.step (fun t k => XS.bipush X0.here hx rfl (hb hby d46_16) k) ?_
  show Go p.tables e below P (s₁.setTop (mkF m 18 #[.val (.int (6 : Int32)), .val (.int sx), .val (.long jl), .second, .val (.long jh), .second, .val (.long jl), .second, .unset] [(.int (8 : Int32)), (.long jl)]))
  refine Go.step (fun t k => XS.iloadN X0.here hx rfl (hb hby d46_18) rfl  k) ?_
  show Go p.tables e below P (s₁.setTop (mkF m 19 #[.val (.int (6 : Int32)), .val (.int sx), .val (.long jl), .second, .val (.long jh), .second, .val (.long jl), .second, .unset] [(.int (6 : Int32)), (.int (8 : Int32)), (.long jl)]))
  refine Go.step (fun t k => XS.bipush X0.here hx rfl (hb hby d46_19) k) ?_
  show Go p.tables e below P (s₁.setTop (mkF m 21 #[.val (.int (6 : Int32)), .val (.int sx), .val (.long jl), .second, .val (.long jh), .second, .val (.long jl), .second, .unset] [(.int (7 : Int32)), (.int (6 : Int32)), (.int (8 : Int32)), (.long jl)]))
  obtain ⟨fl_1, hfl_1⟩ : ∃ z : Int32, (6 : Int32) &&& (7 : Int32) = z := ⟨_, rfl⟩
  refine Go.step (fun t k => iand_v X0.here hx rfl (hb hby d46_21) rfl  hfl_1 k) ?_
  show Go p.tables e below P (s₁.setTop (mkF m 22 #[.val (.int (6 : Int32)), .val (.int sx), .val (.long jl), .second, .val (.long jh), .second, .val (.long jl), .second, .unset] [(.int fl_1), (.int (8 : Int32)), (.long jl)]))
  have ez_fl_1 : fl_1 = (6 : Int32) := by rw [← hfl_1]; rfl
  subst ez_fl_1
  show Go p.tables e below P (s₁.setTop (mkF m 22 #[.val (.int (6 : Int32)), .val (.int sx), .val (.long jl), .second, .val (.long jh), .second, .val (.long jl), .second, .unset] [(.int (6 : Int32)), (.int (8 : Int32)), (.long jl)]))
  obtain ⟨fl_2, hfl_2⟩ : ∃ z : Int32, (8 : Int32) * (6 : Int32) = z := ⟨_, rfl⟩
  refine Go.step (fun t k => imul_v X0.here hx rfl (hb hby d46_22) rfl  hfl_2 k) ?_
  show Go p.tables e below P (s₁.setTop (mkF m 23 #[.val (.int (6 : Int32)), .val (.int sx), .val (.long jl), .second, .val (.long jh), .second, .val (.long jl), .second, .unset] [(.int fl_2), (.long jl)]))
  have ez_fl_2 : fl_2 = (48 : Int32) := by rw [← hfl_2]; rfl
  subst ez_fl_2
  show Go p.tables e below P (s₁.setTop (mkF m 23 #[.val (.int (6 : Int32)), .val (.int sx), .val (.long jl), .second, .val (.long jh), .second, .val (.long jl), .second, .unset] [(.int (48 : Int32)), (.long jl)]))
  obtain ⟨j23, hj23⟩ : ∃ z : Int64, ((jl.toUInt64 >>> ((48 : Int32) &&& 0x3f).toInt64.toUInt64).toInt64) = z := ⟨_, rfl⟩
  refine Go.step (fun t k => lushr_v X0.here hx rfl (hb hby d46_23) rfl  hj23 k) ?_
  show Go p.tables e below P (s₁.setTop (mkF m 24 #[.val (.int (6 : Int32)), .val (.int sx), .val (.long jl), .second, .val (.long jh), .second, .val (.long jl), .second, .unset] [(.long j23)]))
  refine Go.step (fun t k => X0.ldc2Long hx hown (mvT hZ (hw _ (List.mem_of_getElem? (i := 67) rfl))) (g := (mkF m 24 #[.val (.int (6 : Int32)), .val (.int sx), .val (.long jl), .second, .val (.long jh), .second, .val (.long jl), .second, .unset] [(.long j23)])) rfl (hb hby d46_24) t k) ?_
  show Go p.tables e below P (s₁.setTop (mkF m 27 #[.val (.int (6 : Int32)), .val (.int sx), .val (.long jl), .second, .val (.long jh), .second, .val (.long jl), .second, .unset] [(.long (255 : Int64)), (.long j23)]))
  obtain ⟨j27, hj27⟩ : ∃ z : Int64, j23 &&& (255 : Int64) = z := ⟨_, rfl⟩
  refine Go.step (fun t k => land_v X0.here hx rfl (hb hby d46_27) rfl  hj27 k) ?_
  show Go p.tables e below P (s₁.setTop (mkF m 28 #[.val (.int (6 : Int32)), .val (.int sx), .val (.long jl), .second, .val (.long jh), .second, .val (.long jl), .second, .unset] [(.long j27)]))
  obtain ⟨i28, hi28⟩ : ∃ z : Int32, j27.toInt32 = z := ⟨_, rfl⟩
  refine Go.step (fun t k => l2i_v X0.here hx rfl (hb hby d46_28) rfl hi28 k) ?_
  show Go p.tables e below P (s₁.setTop (mkF m 29 #[.val (.int (6 : Int32)), .val (.int sx), .val (.long jl), .second, .val (.long jh), .second, .val (.long jl), .second, .unset] [(.int i28)]))
  have f27 := c_maskL j23 (255 : Int64) 8 (by decide) rfl; rw [hj27] at f27
  have f28 := c_l2i j27; rw [hi28] at f28
  have g28 := rng32 i28
  have v28 : 0 ≤ i28.toInt ∧ i28.toInt ≤ 255 := by omega
  clear f27 f28
  refine Go.step (fun t k => XS.istore X0.here hx rfl (hb hby d46_29) rfl (l' := #[.val (.int (6 : Int32)), .val (.int sx), .val (.long jl), .second, .val (.long jh), .second, .val (.long jl), .second, .val (.int i28)]) rfl k) ?_
  show Go p.tables e below P (s₁.setTop (mkF m 31 #[.val (.int (6 : Int32)), .val (.int sx), .val (.long jl), .second, .val (.long jh), .second, .val (.long jl), .second, .val (.int i28)] []))
  refine Go.step (fun t k => XS.iloadN X0.here hx rfl (hb hby d46_31) rfl  k) ?_
  show Go p.tables e below P (s₁.setTop (mkF m 32 #[.val (.int (6 : Int32)), .val (.int sx), .val (.long jl), .second, .val (.long jh), .second, .val (.long jl), .second, .val (.int i28)] [(.int sx)]))
  refine Go.step (fun t k => XS.iloadN X0.here hx rfl (hb hby d46_32) rfl  k) ?_
  show Go p.tables e below P (s₁.setTop (mkF m 33 #[.val (.int (6 : Int32)), .val (.int sx), .val (.long jl), .second, .val (.long jh), .second, .val (.long jl), .second, .val (.int i28)] [(.int (6 : Int32)), (.int sx)]))
  obtain ⟨i33, hi33⟩ : ∃ z : Int32, ((sx.toUInt32 >>> ((6 : Int32) &&& 31).toUInt32).toInt32) = z := ⟨_, rfl⟩
  refine Go.step (fun t k => iushr_v X0.here hx rfl (hb hby d46_33) rfl  hi33 k) ?_
  show Go p.tables e below P (s₁.setTop (mkF m 34 #[.val (.int (6 : Int32)), .val (.int sx), .val (.long jl), .second, .val (.long jh), .second, .val (.long jl), .second, .val (.int i28)] [(.int i33)]))
  refine Go.step (fun t k => XS.iconst X0.here hx rfl (hb hby d46_34) k) ?_
  show Go p.tables e below P (s₁.setTop (mkF m 35 #[.val (.int (6 : Int32)), .val (.int sx), .val (.long jl), .second, .val (.long jh), .second, .val (.long jl), .second, .val (.int i28)] [(.int (1 : Int32)), (.int i33)]))
  obtain ⟨i35, hi35⟩ : ∃ z : Int32, i33 &&& (1 : Int32) = z := ⟨_, rfl⟩
  refine Go.step (fun t k => iand_v X0.here hx rfl (hb hby d46_35) rfl  hi35 k) ?_
  show Go p.tables e below P (s₁.setTop (mkF m 36 #[.val (.int (6 : Int32)), .val (.int sx), .val (.long jl), .second, .val (.long jh), .second, .val (.long jl), .second, .val (.int i28)] [(.int i35)]))
  have fz := c_iushr sx (6 : Int32) 6 rfl (by decide); rw [hi33] at fz
  have fm := c_mask i33 (1 : Int32) 1 (by decide) rfl; rw [hi35] at fm
  have hbit : i35.toInt = bit sx 6 := by unfold bit; omega
  have hb01 := bit01 sx 6
  clear fz fm
  by_cases hc36 : i35.toInt = 0
  · refine Go.step (fun t k => XS.ifYes X0.here hx rfl (pc0 := 36) (pc' := 59) rfl (hb hby d46_36) rfl (ifY (cd := .eq) hc36) (by decide) (by decide) k) ?_
    show Go p.tables e below P (s₁.setTop (mkF m 59 #[.val (.int (6 : Int32)), .val (.int sx), .val (.long jl), .second, .val (.long jh), .second, .val (.long jl), .second, .val (.int i28)] []))
    refine Go.step (fun t k => XS.iload X0.here hx rfl (hb hby d46_59) rfl  k) ?_
    show Go p.tables e below P (s₁.setTop (mkF m 61 #[.val (.int (6 : Int32)), .val (.int sx), .val (.long jl), .second, .val (.long jh), .second, .val (.long jl), .second, .val (.int i28)] [(.int i28)]))
    obtain ⟨i61, hi61⟩ : ∃ z : Int32, i28.toUInt32.toUInt16.toUInt32.toInt32 = z := ⟨_, rfl⟩
    refine Go.step (fun t k => i2c_v X0.here hx rfl (hb hby d46_61) rfl hi61 k) ?_
    show Go p.tables e below P (s₁.setTop (mkF m 62 #[.val (.int (6 : Int32)), .val (.int sx), .val (.long jl), .second, .val (.long jh), .second, .val (.long jl), .second, .val (.int i28)] [(.int i61)]))
    have f61 := c_i2c i28; rw [hi61] at f61
    exact retGo X0 hx hP Bd.returns hlk (nar_c (by omega)) (Or.inl ⟨rfl, Or.inr (Or.inr (Or.inr (Or.inl rfl))), _, rfl⟩) (hb hby d46_62) (by decide) (by decide) (by rw [e0]; exact ⟨i61, rfl, by unfold Ok; omega, N0, rfl⟩)
  · refine Go.step (fun t k => XS.ifNo X0.here hx rfl (hb hby d46_36) rfl (ifN (cd := .eq) hc36) k) ?_
    show Go p.tables e below P (s₁.setTop (mkF m 39 #[.val (.int (6 : Int32)), .val (.int sx), .val (.long jl), .second, .val (.long jh), .second, .val (.long jl), .second, .val (.int i28)] []))
    refine Go.step (fun t k => XS.iloadN X0.here hx rfl (hb hby d46_39) rfl  k) ?_
    show Go p.tables e below P (s₁.setTop (mkF m 40 #[.val (.int (6 : Int32)), .val (.int sx), .val (.long jl), .second, .val (.long jh), .second, .val (.long jl), .second, .val (.int i28)] [(.int (6 : Int32))]))
    refine Go.step (fun t k => XS.iconst X0.here hx rfl (hb hby d46_40) k) ?_
    show Go p.tables e below P (s₁.setTop (mkF m 41 #[.val (.int (6 : Int32)), .val (.int sx), .val (.long jl), .second, .val (.long jh), .second, .val (.long jl), .second, .val (.int i28)] [(.int (1 : Int32)), (.int (6 : Int32))]))
    obtain ⟨fl_3, hfl_3⟩ : ∃ z : Int32, (6 : Int32) &&& (1 : Int32) = z := ⟨_, rfl⟩
    refine Go.step (fun t k => iand_v X0.here hx rfl (hb hby d46_41) rfl  hfl_3 k) ?_
    show Go p.tables e below P (s₁.setTop (mkF m 42 #[.val (.int (6 : Int32)), .val (.int sx), .val (.long jl), .second, .val (.long jh), .second, .val (.long jl), .second, .val (.int i28)] [(.int fl_3)]))
    have ez_fl_3 : fl_3 = (0 : Int32) := by rw [← hfl_3]; rfl
    subst ez_fl_3
    show Go p.tables e below P (s₁.setTop (mkF m 42 #[.val (.int (6 : Int32)), .val (.int sx), .val (.long jl), .second, .val (.long jh), .second, .val (.long jl), .second, .val (.int i28)] [(.int (0 : Int32))]))
    refine Go.step (fun t k => XS.ifNo X0.here hx rfl (hb hby d46_42) rfl (ifN (cd := .ne) (by decide : ¬ (¬ (0 : Int) = 0))) k) ?_
    show Go p.tables e below P (s₁.setTop (mkF m 45 #[.val (.int (6 : Int32)), .val (.int sx), .val (.long jl), .second, .val (.long jh), .second, .val (.long jl), .second, .val (.int i28)] []))
    refine Go.step (fun t k => X0.ldcInt hx hown (mvT hZ (hw _ (List.mem_of_getElem? (i := 68) rfl))) (g := (mkF m 45 #[.val (.int (6 : Int32)), .val (.int sx), .val (.long jl), .second, .val (.long jh), .second, .val (.long jl), .second, .val (.int i28)] [])) rfl (hb hby d46_45) t k) ?_
    show Go p.tables e below P (s₁.setTop (mkF m 47 #[.val (.int (6 : Int32)), .val (.int sx), .val (.long jl), .second, .val (.long jh), .second, .val (.long jl), .second, .val (.int i28)] [(.int (55296 : Int32))]))
    refine Go.step (fun t k => XS.iload X0.here hx rfl (hb hby d46_47) rfl  k) ?_
    show Go p.tables e below P (s₁.setTop (mkF m 49 #[.val (.int (6 : Int32)), .val (.int sx), .val (.long jl), .second, .val (.long jh), .second, .val (.long jl), .second, .val (.int i28)] [(.int i28), (.int (55296 : Int32))]))
    obtain ⟨i49, hi49⟩ : ∃ z : Int32, (55296 : Int32) ||| i28 = z := ⟨_, rfl⟩
    refine Go.step (fun t k => ior_v X0.here hx rfl (hb hby d46_49) rfl  hi49 k) ?_
    show Go p.tables e below P (s₁.setTop (mkF m 50 #[.val (.int (6 : Int32)), .val (.int sx), .val (.long jl), .second, .val (.long jh), .second, .val (.long jl), .second, .val (.int i28)] [(.int i49)]))
    obtain ⟨i50, hi50⟩ : ∃ z : Int32, i49.toUInt32.toUInt16.toUInt32.toInt32 = z := ⟨_, rfl⟩
    refine Go.step (fun t k => i2c_v X0.here hx rfl (hb hby d46_50) rfl hi50 k) ?_
    show Go p.tables e below P (s₁.setTop (mkF m 51 #[.val (.int (6 : Int32)), .val (.int sx), .val (.long jl), .second, .val (.long jh), .second, .val (.long jl), .second, .val (.int i28)] [(.int i50)]))
    have e5 : (55296 : Int32).toInt = 55296 := rfl
    have fo := c_or (55296 : Int32) i28 8 (by decide) 256 rfl (by omega) (by omega) (by omega); rw [hi49, e5] at fo
    have go := rng32 i49
    have fc := c_i2c i49; rw [hi50] at fc
    exact retGo X0 hx hP Bd.returns hlk (nar_c (by omega)) (Or.inl ⟨rfl, Or.inr (Or.inr (Or.inr (Or.inl rfl))), _, rfl⟩) (hb hby d46_51) (by decide) (by decide) (by rw [e0]; exact ⟨i50, rfl, by unfold Ok; omega, N0, rfl⟩)
theorem d47_0 : decode method_3_code 0 = .ok (.iload_n 0, 1) := by decide +kernel
theorem d47_1 : decode method_3_code 1 = .ok (.bipush 8, 2) := by decide +kernel
theorem d47_3 : decode method_3_code 3 = .ok (.if_icmp .ge 7, 3) := by decide +kernel
theorem d47_6 : decode method_3_code 6 = .ok (.lload_n 2, 1) := by decide +kernel
theorem d47_7 : decode method_3_code 7 = .ok (.goto 5, 3) := by decide +kernel
theorem d47_12 : decode method_3_code 12 = .ok (.lstore 6, 2) := by decide +kernel
theorem d47_14 : decode method_3_code 14 = .ok (.lload 6, 2) := by decide +kernel
theorem d47_16 : decode method_3_code 16 = .ok (.bipush 8, 2) := by decide +kernel
theorem d47_18 : decode method_3_code 18 = .ok (.iload_n 0, 1) := by decide +kernel
theorem d47_19 : decode method_3_code 19 = .ok (.bipush 7, 2) := by decide +kernel
theorem d47_21 : decode method_3_code 21 = .ok (.iand, 1) := by decide +kernel
theorem d47_22 : decode method_3_code 22 = .ok (.imul, 1) := by decide +kernel
theorem d47_23 : decode method_3_code 23 = .ok (.lushr, 1) := by decide +kernel
theorem d47_24 : decode method_3_code 24 = .ok (.ldc2_w 29, 3) := by decide +kernel
theorem d47_27 : decode method_3_code 27 = .ok (.land, 1) := by decide +kernel
theorem d47_28 : decode method_3_code 28 = .ok (.l2i, 1) := by decide +kernel
theorem d47_29 : decode method_3_code 29 = .ok (.istore 8, 2) := by decide +kernel
theorem d47_31 : decode method_3_code 31 = .ok (.iload_n 1, 1) := by decide +kernel
theorem d47_32 : decode method_3_code 32 = .ok (.iload_n 0, 1) := by decide +kernel
theorem d47_33 : decode method_3_code 33 = .ok (.iushr, 1) := by decide +kernel
theorem d47_34 : decode method_3_code 34 = .ok (.iconst 1, 1) := by decide +kernel
theorem d47_35 : decode method_3_code 35 = .ok (.iand, 1) := by decide +kernel
theorem d47_36 : decode method_3_code 36 = .ok (.ifCond .eq 23, 3) := by decide +kernel
theorem d47_39 : decode method_3_code 39 = .ok (.iload_n 0, 1) := by decide +kernel
theorem d47_40 : decode method_3_code 40 = .ok (.iconst 1, 1) := by decide +kernel
theorem d47_41 : decode method_3_code 41 = .ok (.iand, 1) := by decide +kernel
theorem d47_42 : decode method_3_code 42 = .ok (.ifCond .ne 10, 3) := by decide +kernel
theorem d47_52 : decode method_3_code 52 = .ok (.ldc 32, 2) := by decide +kernel
theorem d47_54 : decode method_3_code 54 = .ok (.iload 8, 2) := by decide +kernel
theorem d47_56 : decode method_3_code 56 = .ok (.ior, 1) := by decide +kernel
theorem d47_57 : decode method_3_code 57 = .ok (.i2c, 1) := by decide +kernel
theorem d47_58 : decode method_3_code 58 = .ok (.ireturn, 1) := by decide +kernel
theorem d47_59 : decode method_3_code 59 = .ok (.iload 8, 2) := by decide +kernel
theorem d47_61 : decode method_3_code 61 = .ok (.i2c, 1) := by decide +kernel
theorem d47_62 : decode method_3_code 62 = .ok (.ireturn, 1) := by decide +kernel
theorem pn_47 : plainName "com/example/wrasse/wrasse/WordsToleratedEditsPinLaw" = true := by first | (simp [plainName, overriddenIn]; done) | decide +kernel
theorem ef_47 (m : MethodId) (x0 : Int32) (x1 : Int32) (x2 : Int64) (x3 : Int64) : entryFrame m #[(.int x0), (.int x1), (.long x2), (.long x3)] 9 = mkF m 0 #[.val (.int x0), .val (.int x1), .val (.long x2), .second, .val (.long x3), .second, .unset, .unset, .unset] [] := by first | (simp [entryFrame, mkF, argsToLocals, Value.category]; done) | rfl
def Q47 (Z : State) (sx : Int32) (jl : Int64) (jh : Int64) (h0 : Heap) (n0 : Nat) (v : Option Value) (h : Heap) (L : List Loc) : Prop := ∃ r : Int32, v = some (.int r) ∧ Ok sx 7 r ∧ Fr n0 L ∧ h = h0
set_option maxRecDepth 65536 in
set_option maxHeartbeats 40000000 in
theorem ch7 (l : Launch) (Z : State) (a0 : Array Value) (hw : ∀ d ∈ tables_1, d.before a0 Z = true) (ws : List Jvm.Cond) (sx : Int32) (jl : Int64) (jh : Int64) (h0 : Heap) (n0 : Nat) (Z0 : n0 ≤ h0.size) :
    MetFree l (⟨"com/example/wrasse/wrasse/WordsToleratedEditsPinLaw", "ch", "(IIJJ)C"⟩ : MethodName) (head1 (Jvm.Cond.code (⟨"com/example/wrasse/wrasse/WordsToleratedEditsPinLaw", "ch", "(IIJJ)C"⟩ : MethodName) method_3_code 9 (some .char) :: ws) ({ frames := 0, cells := 0, slots := 0, locals := 0 } : Room)) (fun a_ U => a_ = #[(.int (7 : Int32)), (.int sx), (.long jl), (.long jh)] ∧ Z.Warmed39 U.vm ∧ U.heap = h0) (fun _ _ _ _ _ => True) (fun _ U o U' => ∃ v L, o = .returned v ∧ Q47 Z sx jl jh h0 n0 v U'.heap L ∧ FrameEnd U o U' L (({ frames := 0, cells := 0, slots := 0, locals := 0 } : Room)).cells (({ frames := 0, cells := 0, slots := 0, locals := 0 } : Room)).slots) := by
  refine MetFree.of_bodySF (plainFor_of_name pn_47) hisR ?_
  intro p e s m args below meth c s₁ Bd hml0 hP0 hK
  obtain ⟨rfl, hZ, hh⟩ := hP0
  have hx := Bd.exec
  have hby := Bd.bytes
  have hml : c.maxLocals = 9 := hml0
  have hown : s.vm.findClass "com/example/wrasse/wrasse/WordsToleratedEditsPinLaw" = some m.cls := findClass_of_methodNamed Bd.named
  have hnm := (name_of_methodNamed Bd.named Bd.method).1
  have X0 : Stand p l e ({ frames := 0, cells := 0, slots := 0, locals := 0 } : Room) s m #[(.int (7 : Int32)), (.int sx), (.long jl), (.long jh)] below meth c s₁ [] 0 0 := Stand.of_body Bd
  have e0 : s₁.heap = h0 := by rw [← hh, Bd.state]; rfl
  have N0 := Fr.nil n0
  have hlk : meth.locks = false := BodyLoose.notSynchronized Bd
  refine Go.start (P₀ := fun s₂ o => ∃ v L, o = .returned v ∧ Q47 Z sx jl jh h0 n0 v s₂.heap L ∧ FrameEnd s o s₂ L (({ frames := 0, cells := 0, slots := 0, locals := 0 } : Room)).cells (({ frames := 0, cells := 0, slots := 0, locals := 0 } : Room)).slots) (congrArg s₁.setTop (ef_47 m (7 : Int32) sx jl jh)) ?_
  intro P hP
  show Go p.tables e below P (s₁.setTop (mkF m 0 #[.val (.int (7 : Int32)), .val (.int sx), .val (.long jl), .second, .val (.long jh), .second, .unset, .unset, .unset] []))
  refine Go.step (fun t k => XS.iloadN X0.here hx rfl (hb hby d47_0) rfl  k) ?_
  show Go p.tables e below P (s₁.setTop (mkF m 1 #[.val (.int (7 : Int32)), .val (.int sx), .val (.long jl), .second, .val (.long jh), .second, .unset, .unset, .unset] [(.int (7 : Int32))]))
  refine Go.step (fun t k => XS.bipush X0.here hx rfl (hb hby d47_1) k) ?_
  show Go p.tables e below P (s₁.setTop (mkF m 3 #[.val (.int (7 : Int32)), .val (.int sx), .val (.long jl), .second, .val (.long jh), .second, .unset, .unset, .unset] [(.int (8 : Int32)), (.int (7 : Int32))]))
  refine Go.step (fun t k => XS.icmpNo X0.here hx rfl (hb hby d47_3) rfl (icN (cd := .ge) (by decide : ¬ ((8 : Int) ≤ (7 : Int)))) k) ?_
  show Go p.tables e below P (s₁.setTop (mkF m 6 #[.val (.int (7 : Int32)), .val (.int sx), .val (.long jl), .second, .val (.long jh), .second, .unset, .unset, .unset] []))
  refine Go.step (fun t k => XS.lloadN X0.here hx rfl (hb hby d47_6) rfl  k) ?_
  show Go p.tables e below P (s₁.setTop (mkF m 7 #[.val (.int (7 : Int32)), .val (.int sx), .val (.long jl), .second, .val (.long jh), .second, .unset, .unset, .unset] [(.long jl)]))
  refine Go.step (fun t k => XS.goto X0.here hx rfl (pc0 := 7) (pc' := 12) rfl (hb hby d47_7) (by decide) (by decide) k) ?_
  show Go p.tables e below P (s₁.setTop (mkF m 12 #[.val (.int (7 : Int32)), .val (.int sx), .val (.long jl), .second, .val (.long jh), .second, .unset, .unset, .unset] [(.long jl)]))
  refine Go.step (fun t k => XS.lstore X0.here hx rfl (hb hby d47_12) rfl (l' := #[.val (.int (7 : Int32)), .val (.int sx), .val (.long jl), .second, .val (.long jh), .second, .val (.long jl), .second, .unset]) rfl k) ?_
  show Go p.tables e below P (s₁.setTop (mkF m 14 #[.val (.int (7 : Int32)), .val (.int sx), .val (.long jl), .second, .val (.long jh), .second, .val (.long jl), .second, .unset] []))
  refine Go.step (fun t k => XS.lload X0.here hx rfl (hb hby d47_14) rfl  k) ?_
  show Go p.tables e below P (s₁.setTop (mkF m 16 #[.val (.int (7 : Int32)), .val (.int sx), .val (.long jl), .second, .val (.long jh), .second, .val (.long jl), .second, .unset] [(.long jl)]))
  refine Go.step (fun t k => XS.bipush X0.here hx rfl (hb hby d47_16) k) ?_
  show Go p.tables e below P (s₁.setTop (mkF m 18 #[.val (.int (7 : Int32)), .val (.int sx), .val (.long jl), .second, .val (.long jh), .second, .val (.long jl), .second, .unset] [(.int (8 : Int32)), (.long jl)]))
  refine Go.step (fun t k => XS.iloadN X0.here hx rfl (hb hby d47_18) rfl  k) ?_
  show Go p.tables e below P (s₁.setTop (mkF m 19 #[.val (.int (7 : Int32)), .val (.int sx), .val (.long jl), .second, .val (.long jh), .second, .val (.long jl), .second, .unset] [(.int (7 : Int32)), (.int (8 : Int32)), (.long jl)]))
  refine Go.step (fun t k => XS.bipush X0.here hx rfl (hb hby d47_19) k) ?_
  show Go p.tables e below P (s₁.setTop (mkF m 21 #[.val (.int (7 : Int32)), .val (.int sx), .val (.long jl), .second, .val (.long jh), .second, .val (.long jl), .second, .unset] [(.int (7 : Int32)), (.int (7 : Int32)), (.int (8 : Int32)), (.long jl)]))
  obtain ⟨fl_1, hfl_1⟩ : ∃ z : Int32, (7 : Int32) &&& (7 : Int32) = z := ⟨_, rfl⟩
  refine Go.step (fun t k => iand_v X0.here hx rfl (hb hby d47_21) rfl  hfl_1 k) ?_
  show Go p.tables e below P (s₁.setTop (mkF m 22 #[.val (.int (7 : Int32)), .val (.int sx), .val (.long jl), .second, .val (.long jh), .second, .val (.long jl), .second, .unset] [(.int fl_1), (.int (8 : Int32)), (.long jl)]))
  have ez_fl_1 : fl_1 = (7 : Int32) := by rw [← hfl_1]; rfl
  subst ez_fl_1
  show Go p.tables e below P (s₁.setTop (mkF m 22 #[.val (.int (7 : Int32)), .val (.int sx), .val (.long jl), .second, .val (.long jh), .second, .val (.long jl), .second, .unset] [(.int (7 : Int32)), (.int (8 : Int32)), (.long jl)]))
  obtain ⟨fl_2, hfl_2⟩ : ∃ z : Int32, (8 : Int32) * (7 : Int32) = z := ⟨_, rfl⟩
  refine Go.step (fun t k => imul_v X0.here hx rfl (hb hby d47_22) rfl  hfl_2 k) ?_
  show Go p.tables e below P (s₁.setTop (mkF m 23 #[.val (.int (7 : Int32)), .val (.int sx), .val (.long jl), .second, .val (.long jh), .second, .val (.long jl), .second, .unset] [(.int fl_2), (.long jl)]))
  have ez_fl_2 : fl_2 = (56 : Int32) := by rw [← hfl_2]; rfl
  subst ez_fl_2
  show Go p.tables e below P (s₁.setTop (mkF m 23 #[.val (.int (7 : Int32)), .val (.int sx), .val (.long jl), .second, .val (.long jh), .second, .val (.long jl), .second, .unset] [(.int (56 : Int32)), (.long jl)]))
  obtain ⟨j23, hj23⟩ : ∃ z : Int64, ((jl.toUInt64 >>> ((56 : Int32) &&& 0x3f).toInt64.toUInt64).toInt64) = z := ⟨_, rfl⟩
  refine Go.step (fun t k => lushr_v X0.here hx rfl (hb hby d47_23) rfl  hj23 k) ?_
  show Go p.tables e below P (s₁.setTop (mkF m 24 #[.val (.int (7 : Int32)), .val (.int sx), .val (.long jl), .second, .val (.long jh), .second, .val (.long jl), .second, .unset] [(.long j23)]))
  refine Go.step (fun t k => X0.ldc2Long hx hown (mvT hZ (hw _ (List.mem_of_getElem? (i := 67) rfl))) (g := (mkF m 24 #[.val (.int (7 : Int32)), .val (.int sx), .val (.long jl), .second, .val (.long jh), .second, .val (.long jl), .second, .unset] [(.long j23)])) rfl (hb hby d47_24) t k) ?_
  show Go p.tables e below P (s₁.setTop (mkF m 27 #[.val (.int (7 : Int32)), .val (.int sx), .val (.long jl), .second, .val (.long jh), .second, .val (.long jl), .second, .unset] [(.long (255 : Int64)), (.long j23)]))
  obtain ⟨j27, hj27⟩ : ∃ z : Int64, j23 &&& (255 : Int64) = z := ⟨_, rfl⟩
  refine Go.step (fun t k => land_v X0.here hx rfl (hb hby d47_27) rfl  hj27 k) ?_
  show Go p.tables e below P (s₁.setTop (mkF m 28 #[.val (.int (7 : Int32)), .val (.int sx), .val (.long jl), .second, .val (.long jh), .second, .val (.long jl), .second, .unset] [(.long j27)]))
  obtain ⟨i28, hi28⟩ : ∃ z : Int32, j27.toInt32 = z := ⟨_, rfl⟩
  refine Go.step (fun t k => l2i_v X0.here hx rfl (hb hby d47_28) rfl hi28 k) ?_
  show Go p.tables e below P (s₁.setTop (mkF m 29 #[.val (.int (7 : Int32)), .val (.int sx), .val (.long jl), .second, .val (.long jh), .second, .val (.long jl), .second, .unset] [(.int i28)]))
  have f27 := c_maskL j23 (255 : Int64) 8 (by decide) rfl; rw [hj27] at f27
  have f28 := c_l2i j27; rw [hi28] at f28
  have g28 := rng32 i28
  have v28 : 0 ≤ i28.toInt ∧ i28.toInt ≤ 255 := by omega
  clear f27 f28
  refine Go.step (fun t k => XS.istore X0.here hx rfl (hb hby d47_29) rfl (l' := #[.val (.int (7 : Int32)), .val (.int sx), .val (.long jl), .second, .val (.long jh), .second, .val (.long jl), .second, .val (.int i28)]) rfl k) ?_
  show Go p.tables e below P (s₁.setTop (mkF m 31 #[.val (.int (7 : Int32)), .val (.int sx), .val (.long jl), .second, .val (.long jh), .second, .val (.long jl), .second, .val (.int i28)] []))
  refine Go.step (fun t k => XS.iloadN X0.here hx rfl (hb hby d47_31) rfl  k) ?_
  show Go p.tables e below P (s₁.setTop (mkF m 32 #[.val (.int (7 : Int32)), .val (.int sx), .val (.long jl), .second, .val (.long jh), .second, .val (.long jl), .second, .val (.int i28)] [(.int sx)]))
  refine Go.step (fun t k => XS.iloadN X0.here hx rfl (hb hby d47_32) rfl  k) ?_
  show Go p.tables e below P (s₁.setTop (mkF m 33 #[.val (.int (7 : Int32)), .val (.int sx), .val (.long jl), .second, .val (.long jh), .second, .val (.long jl), .second, .val (.int i28)] [(.int (7 : Int32)), (.int sx)]))
  obtain ⟨i33, hi33⟩ : ∃ z : Int32, ((sx.toUInt32 >>> ((7 : Int32) &&& 31).toUInt32).toInt32) = z := ⟨_, rfl⟩
  refine Go.step (fun t k => iushr_v X0.here hx rfl (hb hby d47_33) rfl  hi33 k) ?_
  show Go p.tables e below P (s₁.setTop (mkF m 34 #[.val (.int (7 : Int32)), .val (.int sx), .val (.long jl), .second, .val (.long jh), .second, .val (.long jl), .second, .val (.int i28)] [(.int i33)]))
  refine Go.step (fun t k => XS.iconst X0.here hx rfl (hb hby d47_34) k) ?_
  show Go p.tables e below P (s₁.setTop (mkF m 35 #[.val (.int (7 : Int32)), .val (.int sx), .val (.long jl), .second, .val (.long jh), .second, .val (.long jl), .second, .val (.int i28)] [(.int (1 : Int32)), (.int i33)]))
  obtain ⟨i35, hi35⟩ : ∃ z : Int32, i33 &&& (1 : Int32) = z := ⟨_, rfl⟩
  refine Go.step (fun t k => iand_v X0.here hx rfl (hb hby d47_35) rfl  hi35 k) ?_
  show Go p.tables e below P (s₁.setTop (mkF m 36 #[.val (.int (7 : Int32)), .val (.int sx), .val (.long jl), .second, .val (.long jh), .second, .val (.long jl), .second, .val (.int i28)] [(.int i35)]))
  have fz := c_iushr sx (7 : Int32) 7 rfl (by decide); rw [hi33] at fz
  have fm := c_mask i33 (1 : Int32) 1 (by decide) rfl; rw [hi35] at fm
  have hbit : i35.toInt = bit sx 7 := by unfold bit; omega
  have hb01 := bit01 sx 7
  clear fz fm
  by_cases hc36 : i35.toInt = 0
  · refine Go.step (fun t k => XS.ifYes X0.here hx rfl (pc0 := 36) (pc' := 59) rfl (hb hby d47_36) rfl (ifY (cd := .eq) hc36) (by decide) (by decide) k) ?_
    show Go p.tables e below P (s₁.setTop (mkF m 59 #[.val (.int (7 : Int32)), .val (.int sx), .val (.long jl), .second, .val (.long jh), .second, .val (.long jl), .second, .val (.int i28)] []))
    refine Go.step (fun t k => XS.iload X0.here hx rfl (hb hby d47_59) rfl  k) ?_
    show Go p.tables e below P (s₁.setTop (mkF m 61 #[.val (.int (7 : Int32)), .val (.int sx), .val (.long jl), .second, .val (.long jh), .second, .val (.long jl), .second, .val (.int i28)] [(.int i28)]))
    obtain ⟨i61, hi61⟩ : ∃ z : Int32, i28.toUInt32.toUInt16.toUInt32.toInt32 = z := ⟨_, rfl⟩
    refine Go.step (fun t k => i2c_v X0.here hx rfl (hb hby d47_61) rfl hi61 k) ?_
    show Go p.tables e below P (s₁.setTop (mkF m 62 #[.val (.int (7 : Int32)), .val (.int sx), .val (.long jl), .second, .val (.long jh), .second, .val (.long jl), .second, .val (.int i28)] [(.int i61)]))
    have f61 := c_i2c i28; rw [hi61] at f61
    exact retGo X0 hx hP Bd.returns hlk (nar_c (by omega)) (Or.inl ⟨rfl, Or.inr (Or.inr (Or.inr (Or.inl rfl))), _, rfl⟩) (hb hby d47_62) (by decide) (by decide) (by rw [e0]; exact ⟨i61, rfl, by unfold Ok; omega, N0, rfl⟩)
  · refine Go.step (fun t k => XS.ifNo X0.here hx rfl (hb hby d47_36) rfl (ifN (cd := .eq) hc36) k) ?_
    show Go p.tables e below P (s₁.setTop (mkF m 39 #[.val (.int (7 : Int32)), .val (.int sx), .val (.long jl), .second, .val (.long jh), .second, .val (.long jl), .second, .val (.int i28)] []))
    refine Go.step (fun t k => XS.iloadN X0.here hx rfl (hb hby d47_39) rfl  k) ?_
    show Go p.tables e below P (s₁.setTop (mkF m 40 #[.val (.int (7 : Int32)), .val (.int sx), .val (.long jl), .second, .val (.long jh), .second, .val (.long jl), .second, .val (.int i28)] [(.int (7 : Int32))]))
    refine Go.step (fun t k => XS.iconst X0.here hx rfl (hb hby d47_40) k) ?_
    show Go p.tables e below P (s₁.setTop (mkF m 41 #[.val (.int (7 : Int32)), .val (.int sx), .val (.long jl), .second, .val (.long jh), .second, .val (.long jl), .second, .val (.int i28)] [(.int (1 : Int32)), (.int (7 : Int32))]))
    obtain ⟨fl_3, hfl_3⟩ : ∃ z : Int32, (7 : Int32) &&& (1 : Int32) = z := ⟨_, rfl⟩
    refine Go.step (fun t k => iand_v X0.here hx rfl (hb hby d47_41) rfl  hfl_3 k) ?_
    show Go p.tables e below P (s₁.setTop (mkF m 42 #[.val (.int (7 : Int32)), .val (.int sx), .val (.long jl), .second, .val (.long jh), .second, .val (.long jl), .second, .val (.int i28)] [(.int fl_3)]))
    have ez_fl_3 : fl_3 = (1 : Int32) := by rw [← hfl_3]; rfl
    subst ez_fl_3
    show Go p.tables e below P (s₁.setTop (mkF m 42 #[.val (.int (7 : Int32)), .val (.int sx), .val (.long jl), .second, .val (.long jh), .second, .val (.long jl), .second, .val (.int i28)] [(.int (1 : Int32))]))
    refine Go.step (fun t k => XS.ifYes X0.here hx rfl (pc0 := 42) (pc' := 52) rfl (hb hby d47_42) rfl (ifY (cd := .ne) (by decide : ¬ (1 : Int) = 0)) (by decide) (by decide) k) ?_
    show Go p.tables e below P (s₁.setTop (mkF m 52 #[.val (.int (7 : Int32)), .val (.int sx), .val (.long jl), .second, .val (.long jh), .second, .val (.long jl), .second, .val (.int i28)] []))
    refine Go.step (fun t k => X0.ldcInt hx hown (mvT hZ (hw _ (List.mem_of_getElem? (i := 69) rfl))) (g := (mkF m 52 #[.val (.int (7 : Int32)), .val (.int sx), .val (.long jl), .second, .val (.long jh), .second, .val (.long jl), .second, .val (.int i28)] [])) rfl (hb hby d47_52) t k) ?_
    show Go p.tables e below P (s₁.setTop (mkF m 54 #[.val (.int (7 : Int32)), .val (.int sx), .val (.long jl), .second, .val (.long jh), .second, .val (.long jl), .second, .val (.int i28)] [(.int (56320 : Int32))]))
    refine Go.step (fun t k => XS.iload X0.here hx rfl (hb hby d47_54) rfl  k) ?_
    show Go p.tables e below P (s₁.setTop (mkF m 56 #[.val (.int (7 : Int32)), .val (.int sx), .val (.long jl), .second, .val (.long jh), .second, .val (.long jl), .second, .val (.int i28)] [(.int i28), (.int (56320 : Int32))]))
    obtain ⟨i56, hi56⟩ : ∃ z : Int32, (56320 : Int32) ||| i28 = z := ⟨_, rfl⟩
    refine Go.step (fun t k => ior_v X0.here hx rfl (hb hby d47_56) rfl  hi56 k) ?_
    show Go p.tables e below P (s₁.setTop (mkF m 57 #[.val (.int (7 : Int32)), .val (.int sx), .val (.long jl), .second, .val (.long jh), .second, .val (.long jl), .second, .val (.int i28)] [(.int i56)]))
    obtain ⟨i57, hi57⟩ : ∃ z : Int32, i56.toUInt32.toUInt16.toUInt32.toInt32 = z := ⟨_, rfl⟩
    refine Go.step (fun t k => i2c_v X0.here hx rfl (hb hby d47_57) rfl hi57 k) ?_
    show Go p.tables e below P (s₁.setTop (mkF m 58 #[.val (.int (7 : Int32)), .val (.int sx), .val (.long jl), .second, .val (.long jh), .second, .val (.long jl), .second, .val (.int i28)] [(.int i57)]))
    have e5 : (56320 : Int32).toInt = 56320 := rfl
    have fo := c_or (56320 : Int32) i28 8 (by decide) 256 rfl (by omega) (by omega) (by omega); rw [hi56, e5] at fo
    have go := rng32 i56
    have fc := c_i2c i56; rw [hi57] at fc
    exact retGo X0 hx hP Bd.returns hlk (nar_c (by omega)) (Or.inl ⟨rfl, Or.inr (Or.inr (Or.inr (Or.inl rfl))), _, rfl⟩) (hb hby d47_58) (by decide) (by decide) (by rw [e0]; exact ⟨i57, rfl, by unfold Ok; omega, N0, rfl⟩)
theorem d48_0 : decode method_3_code 0 = .ok (.iload_n 0, 1) := by decide +kernel
theorem d48_1 : decode method_3_code 1 = .ok (.bipush 8, 2) := by decide +kernel
theorem d48_3 : decode method_3_code 3 = .ok (.if_icmp .ge 7, 3) := by decide +kernel
theorem d48_10 : decode method_3_code 10 = .ok (.lload 4, 2) := by decide +kernel
theorem d48_12 : decode method_3_code 12 = .ok (.lstore 6, 2) := by decide +kernel
theorem d48_14 : decode method_3_code 14 = .ok (.lload 6, 2) := by decide +kernel
theorem d48_16 : decode method_3_code 16 = .ok (.bipush 8, 2) := by decide +kernel
theorem d48_18 : decode method_3_code 18 = .ok (.iload_n 0, 1) := by decide +kernel
theorem d48_19 : decode method_3_code 19 = .ok (.bipush 7, 2) := by decide +kernel
theorem d48_21 : decode method_3_code 21 = .ok (.iand, 1) := by decide +kernel
theorem d48_22 : decode method_3_code 22 = .ok (.imul, 1) := by decide +kernel
theorem d48_23 : decode method_3_code 23 = .ok (.lushr, 1) := by decide +kernel
theorem d48_24 : decode method_3_code 24 = .ok (.ldc2_w 29, 3) := by decide +kernel
theorem d48_27 : decode method_3_code 27 = .ok (.land, 1) := by decide +kernel
theorem d48_28 : decode method_3_code 28 = .ok (.l2i, 1) := by decide +kernel
theorem d48_29 : decode method_3_code 29 = .ok (.istore 8, 2) := by decide +kernel
theorem d48_31 : decode method_3_code 31 = .ok (.iload_n 1, 1) := by decide +kernel
theorem d48_32 : decode method_3_code 32 = .ok (.iload_n 0, 1) := by decide +kernel
theorem d48_33 : decode method_3_code 33 = .ok (.iushr, 1) := by decide +kernel
theorem d48_34 : decode method_3_code 34 = .ok (.iconst 1, 1) := by decide +kernel
theorem d48_35 : decode method_3_code 35 = .ok (.iand, 1) := by decide +kernel
theorem d48_36 : decode method_3_code 36 = .ok (.ifCond .eq 23, 3) := by decide +kernel
theorem d48_39 : decode method_3_code 39 = .ok (.iload_n 0, 1) := by decide +kernel
theorem d48_40 : decode method_3_code 40 = .ok (.iconst 1, 1) := by decide +kernel
theorem d48_41 : decode method_3_code 41 = .ok (.iand, 1) := by decide +kernel
theorem d48_42 : decode method_3_code 42 = .ok (.ifCond .ne 10, 3) := by decide +kernel
theorem d48_45 : decode method_3_code 45 = .ok (.ldc 31, 2) := by decide +kernel
theorem d48_47 : decode method_3_code 47 = .ok (.iload 8, 2) := by decide +kernel
theorem d48_49 : decode method_3_code 49 = .ok (.ior, 1) := by decide +kernel
theorem d48_50 : decode method_3_code 50 = .ok (.i2c, 1) := by decide +kernel
theorem d48_51 : decode method_3_code 51 = .ok (.ireturn, 1) := by decide +kernel
theorem d48_59 : decode method_3_code 59 = .ok (.iload 8, 2) := by decide +kernel
theorem d48_61 : decode method_3_code 61 = .ok (.i2c, 1) := by decide +kernel
theorem d48_62 : decode method_3_code 62 = .ok (.ireturn, 1) := by decide +kernel
theorem pn_48 : plainName "com/example/wrasse/wrasse/WordsToleratedEditsPinLaw" = true := by first | (simp [plainName, overriddenIn]; done) | decide +kernel
theorem ef_48 (m : MethodId) (x0 : Int32) (x1 : Int32) (x2 : Int64) (x3 : Int64) : entryFrame m #[(.int x0), (.int x1), (.long x2), (.long x3)] 9 = mkF m 0 #[.val (.int x0), .val (.int x1), .val (.long x2), .second, .val (.long x3), .second, .unset, .unset, .unset] [] := by first | (simp [entryFrame, mkF, argsToLocals, Value.category]; done) | rfl
def Q48 (Z : State) (sx : Int32) (jl : Int64) (jh : Int64) (h0 : Heap) (n0 : Nat) (v : Option Value) (h : Heap) (L : List Loc) : Prop := ∃ r : Int32, v = some (.int r) ∧ Ok sx 8 r ∧ Fr n0 L ∧ h = h0
set_option maxRecDepth 65536 in
set_option maxHeartbeats 40000000 in
theorem ch8 (l : Launch) (Z : State) (a0 : Array Value) (hw : ∀ d ∈ tables_1, d.before a0 Z = true) (ws : List Jvm.Cond) (sx : Int32) (jl : Int64) (jh : Int64) (h0 : Heap) (n0 : Nat) (Z0 : n0 ≤ h0.size) :
    MetFree l (⟨"com/example/wrasse/wrasse/WordsToleratedEditsPinLaw", "ch", "(IIJJ)C"⟩ : MethodName) (head1 (Jvm.Cond.code (⟨"com/example/wrasse/wrasse/WordsToleratedEditsPinLaw", "ch", "(IIJJ)C"⟩ : MethodName) method_3_code 9 (some .char) :: ws) ({ frames := 0, cells := 0, slots := 0, locals := 0 } : Room)) (fun a_ U => a_ = #[(.int (8 : Int32)), (.int sx), (.long jl), (.long jh)] ∧ Z.Warmed39 U.vm ∧ U.heap = h0) (fun _ _ _ _ _ => True) (fun _ U o U' => ∃ v L, o = .returned v ∧ Q48 Z sx jl jh h0 n0 v U'.heap L ∧ FrameEnd U o U' L (({ frames := 0, cells := 0, slots := 0, locals := 0 } : Room)).cells (({ frames := 0, cells := 0, slots := 0, locals := 0 } : Room)).slots) := by
  refine MetFree.of_bodySF (plainFor_of_name pn_48) hisR ?_
  intro p e s m args below meth c s₁ Bd hml0 hP0 hK
  obtain ⟨rfl, hZ, hh⟩ := hP0
  have hx := Bd.exec
  have hby := Bd.bytes
  have hml : c.maxLocals = 9 := hml0
  have hown : s.vm.findClass "com/example/wrasse/wrasse/WordsToleratedEditsPinLaw" = some m.cls := findClass_of_methodNamed Bd.named
  have hnm := (name_of_methodNamed Bd.named Bd.method).1
  have X0 : Stand p l e ({ frames := 0, cells := 0, slots := 0, locals := 0 } : Room) s m #[(.int (8 : Int32)), (.int sx), (.long jl), (.long jh)] below meth c s₁ [] 0 0 := Stand.of_body Bd
  have e0 : s₁.heap = h0 := by rw [← hh, Bd.state]; rfl
  have N0 := Fr.nil n0
  have hlk : meth.locks = false := BodyLoose.notSynchronized Bd
  refine Go.start (P₀ := fun s₂ o => ∃ v L, o = .returned v ∧ Q48 Z sx jl jh h0 n0 v s₂.heap L ∧ FrameEnd s o s₂ L (({ frames := 0, cells := 0, slots := 0, locals := 0 } : Room)).cells (({ frames := 0, cells := 0, slots := 0, locals := 0 } : Room)).slots) (congrArg s₁.setTop (ef_48 m (8 : Int32) sx jl jh)) ?_
  intro P hP
  show Go p.tables e below P (s₁.setTop (mkF m 0 #[.val (.int (8 : Int32)), .val (.int sx), .val (.long jl), .second, .val (.long jh), .second, .unset, .unset, .unset] []))
  refine Go.step (fun t k => XS.iloadN X0.here hx rfl (hb hby d48_0) rfl  k) ?_
  show Go p.tables e below P (s₁.setTop (mkF m 1 #[.val (.int (8 : Int32)), .val (.int sx), .val (.long jl), .second, .val (.long jh), .second, .unset, .unset, .unset] [(.int (8 : Int32))]))
  refine Go.step (fun t k => XS.bipush X0.here hx rfl (hb hby d48_1) k) ?_
  show Go p.tables e below P (s₁.setTop (mkF m 3 #[.val (.int (8 : Int32)), .val (.int sx), .val (.long jl), .second, .val (.long jh), .second, .unset, .unset, .unset] [(.int (8 : Int32)), (.int (8 : Int32))]))
  refine Go.step (fun t k => XS.icmpYes X0.here hx rfl (pc0 := 3) (pc' := 10) rfl (hb hby d48_3) rfl (icY (cd := .ge) (by decide : (8 : Int) ≤ (8 : Int))) (by decide) (by decide) k) ?_
  show Go p.tables e below P (s₁.setTop (mkF m 10 #[.val (.int (8 : Int32)), .val (.int sx), .val (.long jl), .second, .val (.long jh), .second, .unset, .unset, .unset] []))
  refine Go.step (fun t k => XS.lload X0.here hx rfl (hb hby d48_10) rfl  k) ?_
  show Go p.tables e below P (s₁.setTop (mkF m 12 #[.val (.int (8 : Int32)), .val (.int sx), .val (.long jl), .second, .val (.long jh), .second, .unset, .unset, .unset] [(.long jh)]))
  refine Go.step (fun t k => XS.lstore X0.here hx rfl (hb hby d48_12) rfl (l' := #[.val (.int (8 : Int32)), .val (.int sx), .val (.long jl), .second, .val (.long jh), .second, .val (.long jh), .second, .unset]) rfl k) ?_
  show Go p.tables e below P (s₁.setTop (mkF m 14 #[.val (.int (8 : Int32)), .val (.int sx), .val (.long jl), .second, .val (.long jh), .second, .val (.long jh), .second, .unset] []))
  refine Go.step (fun t k => XS.lload X0.here hx rfl (hb hby d48_14) rfl  k) ?_
  show Go p.tables e below P (s₁.setTop (mkF m 16 #[.val (.int (8 : Int32)), .val (.int sx), .val (.long jl), .second, .val (.long jh), .second, .val (.long jh), .second, .unset] [(.long jh)]))
  refine Go.step (fun t k => XS.bipush X0.here hx rfl (hb hby d48_16) k) ?_
  show Go p.tables e below P (s₁.setTop (mkF m 18 #[.val (.int (8 : Int32)), .val (.int sx), .val (.long jl), .second, .val (.long jh), .second, .val (.long jh), .second, .unset] [(.int (8 : Int32)), (.long jh)]))
  refine Go.step (fun t k => XS.iloadN X0.here hx rfl (hb hby d48_18) rfl  k) ?_
  show Go p.tables e below P (s₁.setTop (mkF m 19 #[.val (.int (8 : Int32)), .val (.int sx), .val (.long jl), .second, .val (.long jh), .second, .val (.long jh), .second, .unset] [(.int (8 : Int32)), (.int (8 : Int32)), (.long jh)]))
  refine Go.step (fun t k => XS.bipush X0.here hx rfl (hb hby d48_19) k) ?_
  show Go p.tables e below P (s₁.setTop (mkF m 21 #[.val (.int (8 : Int32)), .val (.int sx), .val (.long jl), .second, .val (.long jh), .second, .val (.long jh), .second, .unset] [(.int (7 : Int32)), (.int (8 : Int32)), (.int (8 : Int32)), (.long jh)]))
  obtain ⟨fl_1, hfl_1⟩ : ∃ z : Int32, (8 : Int32) &&& (7 : Int32) = z := ⟨_, rfl⟩
  refine Go.step (fun t k => iand_v X0.here hx rfl (hb hby d48_21) rfl  hfl_1 k) ?_
  show Go p.tables e below P (s₁.setTop (mkF m 22 #[.val (.int (8 : Int32)), .val (.int sx), .val (.long jl), .second, .val (.long jh), .second, .val (.long jh), .second, .unset] [(.int fl_1), (.int (8 : Int32)), (.long jh)]))
  have ez_fl_1 : fl_1 = (0 : Int32) := by rw [← hfl_1]; rfl
  subst ez_fl_1
  show Go p.tables e below P (s₁.setTop (mkF m 22 #[.val (.int (8 : Int32)), .val (.int sx), .val (.long jl), .second, .val (.long jh), .second, .val (.long jh), .second, .unset] [(.int (0 : Int32)), (.int (8 : Int32)), (.long jh)]))
  obtain ⟨fl_2, hfl_2⟩ : ∃ z : Int32, (8 : Int32) * (0 : Int32) = z := ⟨_, rfl⟩
  refine Go.step (fun t k => imul_v X0.here hx rfl (hb hby d48_22) rfl  hfl_2 k) ?_
  show Go p.tables e below P (s₁.setTop (mkF m 23 #[.val (.int (8 : Int32)), .val (.int sx), .val (.long jl), .second, .val (.long jh), .second, .val (.long jh), .second, .unset] [(.int fl_2), (.long jh)]))
  have ez_fl_2 : fl_2 = (0 : Int32) := by rw [← hfl_2]; rfl
  subst ez_fl_2
  show Go p.tables e below P (s₁.setTop (mkF m 23 #[.val (.int (8 : Int32)), .val (.int sx), .val (.long jl), .second, .val (.long jh), .second, .val (.long jh), .second, .unset] [(.int (0 : Int32)), (.long jh)]))
  obtain ⟨j23, hj23⟩ : ∃ z : Int64, ((jh.toUInt64 >>> ((0 : Int32) &&& 0x3f).toInt64.toUInt64).toInt64) = z := ⟨_, rfl⟩
  refine Go.step (fun t k => lushr_v X0.here hx rfl (hb hby d48_23) rfl  hj23 k) ?_
  show Go p.tables e below P (s₁.setTop (mkF m 24 #[.val (.int (8 : Int32)), .val (.int sx), .val (.long jl), .second, .val (.long jh), .second, .val (.long jh), .second, .unset] [(.long j23)]))
  refine Go.step (fun t k => X0.ldc2Long hx hown (mvT hZ (hw _ (List.mem_of_getElem? (i := 67) rfl))) (g := (mkF m 24 #[.val (.int (8 : Int32)), .val (.int sx), .val (.long jl), .second, .val (.long jh), .second, .val (.long jh), .second, .unset] [(.long j23)])) rfl (hb hby d48_24) t k) ?_
  show Go p.tables e below P (s₁.setTop (mkF m 27 #[.val (.int (8 : Int32)), .val (.int sx), .val (.long jl), .second, .val (.long jh), .second, .val (.long jh), .second, .unset] [(.long (255 : Int64)), (.long j23)]))
  obtain ⟨j27, hj27⟩ : ∃ z : Int64, j23 &&& (255 : Int64) = z := ⟨_, rfl⟩
  refine Go.step (fun t k => land_v X0.here hx rfl (hb hby d48_27) rfl  hj27 k) ?_
  show Go p.tables e below P (s₁.setTop (mkF m 28 #[.val (.int (8 : Int32)), .val (.int sx), .val (.long jl), .second, .val (.long jh), .second, .val (.long jh), .second, .unset] [(.long j27)]))
  obtain ⟨i28, hi28⟩ : ∃ z : Int32, j27.toInt32 = z := ⟨_, rfl⟩
  refine Go.step (fun t k => l2i_v X0.here hx rfl (hb hby d48_28) rfl hi28 k) ?_
  show Go p.tables e below P (s₁.setTop (mkF m 29 #[.val (.int (8 : Int32)), .val (.int sx), .val (.long jl), .second, .val (.long jh), .second, .val (.long jh), .second, .unset] [(.int i28)]))
  have f27 := c_maskL j23 (255 : Int64) 8 (by decide) rfl; rw [hj27] at f27
  have f28 := c_l2i j27; rw [hi28] at f28
  have g28 := rng32 i28
  have v28 : 0 ≤ i28.toInt ∧ i28.toInt ≤ 255 := by omega
  clear f27 f28
  refine Go.step (fun t k => XS.istore X0.here hx rfl (hb hby d48_29) rfl (l' := #[.val (.int (8 : Int32)), .val (.int sx), .val (.long jl), .second, .val (.long jh), .second, .val (.long jh), .second, .val (.int i28)]) rfl k) ?_
  show Go p.tables e below P (s₁.setTop (mkF m 31 #[.val (.int (8 : Int32)), .val (.int sx), .val (.long jl), .second, .val (.long jh), .second, .val (.long jh), .second, .val (.int i28)] []))
  refine Go.step (fun t k => XS.iloadN X0.here hx rfl (hb hby d48_31) rfl  k) ?_
  show Go p.tables e below P (s₁.setTop (mkF m 32 #[.val (.int (8 : Int32)), .val (.int sx), .val (.long jl), .second, .val (.long jh), .second, .val (.long jh), .second, .val (.int i28)] [(.int sx)]))
  refine Go.step (fun t k => XS.iloadN X0.here hx rfl (hb hby d48_32) rfl  k) ?_
  show Go p.tables e below P (s₁.setTop (mkF m 33 #[.val (.int (8 : Int32)), .val (.int sx), .val (.long jl), .second, .val (.long jh), .second, .val (.long jh), .second, .val (.int i28)] [(.int (8 : Int32)), (.int sx)]))
  obtain ⟨i33, hi33⟩ : ∃ z : Int32, ((sx.toUInt32 >>> ((8 : Int32) &&& 31).toUInt32).toInt32) = z := ⟨_, rfl⟩
  refine Go.step (fun t k => iushr_v X0.here hx rfl (hb hby d48_33) rfl  hi33 k) ?_
  show Go p.tables e below P (s₁.setTop (mkF m 34 #[.val (.int (8 : Int32)), .val (.int sx), .val (.long jl), .second, .val (.long jh), .second, .val (.long jh), .second, .val (.int i28)] [(.int i33)]))
  refine Go.step (fun t k => XS.iconst X0.here hx rfl (hb hby d48_34) k) ?_
  show Go p.tables e below P (s₁.setTop (mkF m 35 #[.val (.int (8 : Int32)), .val (.int sx), .val (.long jl), .second, .val (.long jh), .second, .val (.long jh), .second, .val (.int i28)] [(.int (1 : Int32)), (.int i33)]))
  obtain ⟨i35, hi35⟩ : ∃ z : Int32, i33 &&& (1 : Int32) = z := ⟨_, rfl⟩
  refine Go.step (fun t k => iand_v X0.here hx rfl (hb hby d48_35) rfl  hi35 k) ?_
  show Go p.tables e below P (s₁.setTop (mkF m 36 #[.val (.int (8 : Int32)), .val (.int sx), .val (.long jl), .second, .val (.long jh), .second, .val (.long jh), .second, .val (.int i28)] [(.int i35)]))
  have fz := c_iushr sx (8 : Int32) 8 rfl (by decide); rw [hi33] at fz
  have fm := c_mask i33 (1 : Int32) 1 (by decide) rfl; rw [hi35] at fm
  have hbit : i35.toInt = bit sx 8 := by unfold bit; omega
  have hb01 := bit01 sx 8
  clear fz fm
  by_cases hc36 : i35.toInt = 0
  · refine Go.step (fun t k => XS.ifYes X0.here hx rfl (pc0 := 36) (pc' := 59) rfl (hb hby d48_36) rfl (ifY (cd := .eq) hc36) (by decide) (by decide) k) ?_
    show Go p.tables e below P (s₁.setTop (mkF m 59 #[.val (.int (8 : Int32)), .val (.int sx), .val (.long jl), .second, .val (.long jh), .second, .val (.long jh), .second, .val (.int i28)] []))
    refine Go.step (fun t k => XS.iload X0.here hx rfl (hb hby d48_59) rfl  k) ?_
    show Go p.tables e below P (s₁.setTop (mkF m 61 #[.val (.int (8 : Int32)), .val (.int sx), .val (.long jl), .second, .val (.long jh), .second, .val (.long jh), .second, .val (.int i28)] [(.int i28)]))
    obtain ⟨i61, hi61⟩ : ∃ z : Int32, i28.toUInt32.toUInt16.toUInt32.toInt32 = z := ⟨_, rfl⟩
    refine Go.step (fun t k => i2c_v X0.here hx rfl (hb hby d48_61) rfl hi61 k) ?_
    show Go p.tables e below P (s₁.setTop (mkF m 62 #[.val (.int (8 : Int32)), .val (.int sx), .val (.long jl), .second, .val (.long jh), .second, .val (.long jh), .second, .val (.int i28)] [(.int i61)]))
    have f61 := c_i2c i28; rw [hi61] at f61
    exact retGo X0 hx hP Bd.returns hlk (nar_c (by omega)) (Or.inl ⟨rfl, Or.inr (Or.inr (Or.inr (Or.inl rfl))), _, rfl⟩) (hb hby d48_62) (by decide) (by decide) (by rw [e0]; exact ⟨i61, rfl, by unfold Ok; omega, N0, rfl⟩)
  · refine Go.step (fun t k => XS.ifNo X0.here hx rfl (hb hby d48_36) rfl (ifN (cd := .eq) hc36) k) ?_
    show Go p.tables e below P (s₁.setTop (mkF m 39 #[.val (.int (8 : Int32)), .val (.int sx), .val (.long jl), .second, .val (.long jh), .second, .val (.long jh), .second, .val (.int i28)] []))
    refine Go.step (fun t k => XS.iloadN X0.here hx rfl (hb hby d48_39) rfl  k) ?_
    show Go p.tables e below P (s₁.setTop (mkF m 40 #[.val (.int (8 : Int32)), .val (.int sx), .val (.long jl), .second, .val (.long jh), .second, .val (.long jh), .second, .val (.int i28)] [(.int (8 : Int32))]))
    refine Go.step (fun t k => XS.iconst X0.here hx rfl (hb hby d48_40) k) ?_
    show Go p.tables e below P (s₁.setTop (mkF m 41 #[.val (.int (8 : Int32)), .val (.int sx), .val (.long jl), .second, .val (.long jh), .second, .val (.long jh), .second, .val (.int i28)] [(.int (1 : Int32)), (.int (8 : Int32))]))
    obtain ⟨fl_3, hfl_3⟩ : ∃ z : Int32, (8 : Int32) &&& (1 : Int32) = z := ⟨_, rfl⟩
    refine Go.step (fun t k => iand_v X0.here hx rfl (hb hby d48_41) rfl  hfl_3 k) ?_
    show Go p.tables e below P (s₁.setTop (mkF m 42 #[.val (.int (8 : Int32)), .val (.int sx), .val (.long jl), .second, .val (.long jh), .second, .val (.long jh), .second, .val (.int i28)] [(.int fl_3)]))
    have ez_fl_3 : fl_3 = (0 : Int32) := by rw [← hfl_3]; rfl
    subst ez_fl_3
    show Go p.tables e below P (s₁.setTop (mkF m 42 #[.val (.int (8 : Int32)), .val (.int sx), .val (.long jl), .second, .val (.long jh), .second, .val (.long jh), .second, .val (.int i28)] [(.int (0 : Int32))]))
    refine Go.step (fun t k => XS.ifNo X0.here hx rfl (hb hby d48_42) rfl (ifN (cd := .ne) (by decide : ¬ (¬ (0 : Int) = 0))) k) ?_
    show Go p.tables e below P (s₁.setTop (mkF m 45 #[.val (.int (8 : Int32)), .val (.int sx), .val (.long jl), .second, .val (.long jh), .second, .val (.long jh), .second, .val (.int i28)] []))
    refine Go.step (fun t k => X0.ldcInt hx hown (mvT hZ (hw _ (List.mem_of_getElem? (i := 68) rfl))) (g := (mkF m 45 #[.val (.int (8 : Int32)), .val (.int sx), .val (.long jl), .second, .val (.long jh), .second, .val (.long jh), .second, .val (.int i28)] [])) rfl (hb hby d48_45) t k) ?_
    show Go p.tables e below P (s₁.setTop (mkF m 47 #[.val (.int (8 : Int32)), .val (.int sx), .val (.long jl), .second, .val (.long jh), .second, .val (.long jh), .second, .val (.int i28)] [(.int (55296 : Int32))]))
    refine Go.step (fun t k => XS.iload X0.here hx rfl (hb hby d48_47) rfl  k) ?_
    show Go p.tables e below P (s₁.setTop (mkF m 49 #[.val (.int (8 : Int32)), .val (.int sx), .val (.long jl), .second, .val (.long jh), .second, .val (.long jh), .second, .val (.int i28)] [(.int i28), (.int (55296 : Int32))]))
    obtain ⟨i49, hi49⟩ : ∃ z : Int32, (55296 : Int32) ||| i28 = z := ⟨_, rfl⟩
    refine Go.step (fun t k => ior_v X0.here hx rfl (hb hby d48_49) rfl  hi49 k) ?_
    show Go p.tables e below P (s₁.setTop (mkF m 50 #[.val (.int (8 : Int32)), .val (.int sx), .val (.long jl), .second, .val (.long jh), .second, .val (.long jh), .second, .val (.int i28)] [(.int i49)]))
    obtain ⟨i50, hi50⟩ : ∃ z : Int32, i49.toUInt32.toUInt16.toUInt32.toInt32 = z := ⟨_, rfl⟩
    refine Go.step (fun t k => i2c_v X0.here hx rfl (hb hby d48_50) rfl hi50 k) ?_
    show Go p.tables e below P (s₁.setTop (mkF m 51 #[.val (.int (8 : Int32)), .val (.int sx), .val (.long jl), .second, .val (.long jh), .second, .val (.long jh), .second, .val (.int i28)] [(.int i50)]))
    have e5 : (55296 : Int32).toInt = 55296 := rfl
    have fo := c_or (55296 : Int32) i28 8 (by decide) 256 rfl (by omega) (by omega) (by omega); rw [hi49, e5] at fo
    have go := rng32 i49
    have fc := c_i2c i49; rw [hi50] at fc
    exact retGo X0 hx hP Bd.returns hlk (nar_c (by omega)) (Or.inl ⟨rfl, Or.inr (Or.inr (Or.inr (Or.inl rfl))), _, rfl⟩) (hb hby d48_51) (by decide) (by decide) (by rw [e0]; exact ⟨i50, rfl, by unfold Ok; omega, N0, rfl⟩)
theorem d49_0 : decode method_3_code 0 = .ok (.iload_n 0, 1) := by decide +kernel
theorem d49_1 : decode method_3_code 1 = .ok (.bipush 8, 2) := by decide +kernel
theorem d49_3 : decode method_3_code 3 = .ok (.if_icmp .ge 7, 3) := by decide +kernel
theorem d49_10 : decode method_3_code 10 = .ok (.lload 4, 2) := by decide +kernel
theorem d49_12 : decode method_3_code 12 = .ok (.lstore 6, 2) := by decide +kernel
theorem d49_14 : decode method_3_code 14 = .ok (.lload 6, 2) := by decide +kernel
theorem d49_16 : decode method_3_code 16 = .ok (.bipush 8, 2) := by decide +kernel
theorem d49_18 : decode method_3_code 18 = .ok (.iload_n 0, 1) := by decide +kernel
theorem d49_19 : decode method_3_code 19 = .ok (.bipush 7, 2) := by decide +kernel
theorem d49_21 : decode method_3_code 21 = .ok (.iand, 1) := by decide +kernel
theorem d49_22 : decode method_3_code 22 = .ok (.imul, 1) := by decide +kernel
theorem d49_23 : decode method_3_code 23 = .ok (.lushr, 1) := by decide +kernel
theorem d49_24 : decode method_3_code 24 = .ok (.ldc2_w 29, 3) := by decide +kernel
theorem d49_27 : decode method_3_code 27 = .ok (.land, 1) := by decide +kernel
theorem d49_28 : decode method_3_code 28 = .ok (.l2i, 1) := by decide +kernel
theorem d49_29 : decode method_3_code 29 = .ok (.istore 8, 2) := by decide +kernel
theorem d49_31 : decode method_3_code 31 = .ok (.iload_n 1, 1) := by decide +kernel
theorem d49_32 : decode method_3_code 32 = .ok (.iload_n 0, 1) := by decide +kernel
theorem d49_33 : decode method_3_code 33 = .ok (.iushr, 1) := by decide +kernel
theorem d49_34 : decode method_3_code 34 = .ok (.iconst 1, 1) := by decide +kernel
theorem d49_35 : decode method_3_code 35 = .ok (.iand, 1) := by decide +kernel
theorem d49_36 : decode method_3_code 36 = .ok (.ifCond .eq 23, 3) := by decide +kernel
theorem d49_39 : decode method_3_code 39 = .ok (.iload_n 0, 1) := by decide +kernel
theorem d49_40 : decode method_3_code 40 = .ok (.iconst 1, 1) := by decide +kernel
theorem d49_41 : decode method_3_code 41 = .ok (.iand, 1) := by decide +kernel
theorem d49_42 : decode method_3_code 42 = .ok (.ifCond .ne 10, 3) := by decide +kernel
theorem d49_52 : decode method_3_code 52 = .ok (.ldc 32, 2) := by decide +kernel
theorem d49_54 : decode method_3_code 54 = .ok (.iload 8, 2) := by decide +kernel
theorem d49_56 : decode method_3_code 56 = .ok (.ior, 1) := by decide +kernel
theorem d49_57 : decode method_3_code 57 = .ok (.i2c, 1) := by decide +kernel
theorem d49_58 : decode method_3_code 58 = .ok (.ireturn, 1) := by decide +kernel
theorem d49_59 : decode method_3_code 59 = .ok (.iload 8, 2) := by decide +kernel
theorem d49_61 : decode method_3_code 61 = .ok (.i2c, 1) := by decide +kernel
theorem d49_62 : decode method_3_code 62 = .ok (.ireturn, 1) := by decide +kernel
theorem pn_49 : plainName "com/example/wrasse/wrasse/WordsToleratedEditsPinLaw" = true := by first | (simp [plainName, overriddenIn]; done) | decide +kernel
theorem ef_49 (m : MethodId) (x0 : Int32) (x1 : Int32) (x2 : Int64) (x3 : Int64) : entryFrame m #[(.int x0), (.int x1), (.long x2), (.long x3)] 9 = mkF m 0 #[.val (.int x0), .val (.int x1), .val (.long x2), .second, .val (.long x3), .second, .unset, .unset, .unset] [] := by first | (simp [entryFrame, mkF, argsToLocals, Value.category]; done) | rfl
def Q49 (Z : State) (sx : Int32) (jl : Int64) (jh : Int64) (h0 : Heap) (n0 : Nat) (v : Option Value) (h : Heap) (L : List Loc) : Prop := ∃ r : Int32, v = some (.int r) ∧ Ok sx 9 r ∧ Fr n0 L ∧ h = h0
set_option maxRecDepth 65536 in
set_option maxHeartbeats 40000000 in
theorem ch9 (l : Launch) (Z : State) (a0 : Array Value) (hw : ∀ d ∈ tables_1, d.before a0 Z = true) (ws : List Jvm.Cond) (sx : Int32) (jl : Int64) (jh : Int64) (h0 : Heap) (n0 : Nat) (Z0 : n0 ≤ h0.size) :
    MetFree l (⟨"com/example/wrasse/wrasse/WordsToleratedEditsPinLaw", "ch", "(IIJJ)C"⟩ : MethodName) (head1 (Jvm.Cond.code (⟨"com/example/wrasse/wrasse/WordsToleratedEditsPinLaw", "ch", "(IIJJ)C"⟩ : MethodName) method_3_code 9 (some .char) :: ws) ({ frames := 0, cells := 0, slots := 0, locals := 0 } : Room)) (fun a_ U => a_ = #[(.int (9 : Int32)), (.int sx), (.long jl), (.long jh)] ∧ Z.Warmed39 U.vm ∧ U.heap = h0) (fun _ _ _ _ _ => True) (fun _ U o U' => ∃ v L, o = .returned v ∧ Q49 Z sx jl jh h0 n0 v U'.heap L ∧ FrameEnd U o U' L (({ frames := 0, cells := 0, slots := 0, locals := 0 } : Room)).cells (({ frames := 0, cells := 0, slots := 0, locals := 0 } : Room)).slots) := by
  refine MetFree.of_bodySF (plainFor_of_name pn_49) hisR ?_
  intro p e s m args below meth c s₁ Bd hml0 hP0 hK
  obtain ⟨rfl, hZ, hh⟩ := hP0
  have hx := Bd.exec
  have hby := Bd.bytes
  have hml : c.maxLocals = 9 := hml0
  have hown : s.vm.findClass "com/example/wrasse/wrasse/WordsToleratedEditsPinLaw" = some m.cls := findClass_of_methodNamed Bd.named
  have hnm := (name_of_methodNamed Bd.named Bd.method).1
  have X0 : Stand p l e ({ frames := 0, cells := 0, slots := 0, locals := 0 } : Room) s m #[(.int (9 : Int32)), (.int sx), (.long jl), (.long jh)] below meth c s₁ [] 0 0 := Stand.of_body Bd
  have e0 : s₁.heap = h0 := by rw [← hh, Bd.state]; rfl
  have N0 := Fr.nil n0
  have hlk : meth.locks = false := BodyLoose.notSynchronized Bd
  refine Go.start (P₀ := fun s₂ o => ∃ v L, o = .returned v ∧ Q49 Z sx jl jh h0 n0 v s₂.heap L ∧ FrameEnd s o s₂ L (({ frames := 0, cells := 0, slots := 0, locals := 0 } : Room)).cells (({ frames := 0, cells := 0, slots := 0, locals := 0 } : Room)).slots) (congrArg s₁.setTop (ef_49 m (9 : Int32) sx jl jh)) ?_
  intro P hP
  show Go p.tables e below P (s₁.setTop (mkF m 0 #[.val (.int (9 : Int32)), .val (.int sx), .val (.long jl), .second, .val (.long jh), .second, .unset, .unset, .unset] []))
  refine Go.step (fun t k => XS.iloadN X0.here hx rfl (hb hby d49_0) rfl  k) ?_
  show Go p.tables e below P (s₁.setTop (mkF m 1 #[.val (.int (9 : Int32)), .val (.int sx), .val (.long jl), .second, .val (.long jh), .second, .unset, .unset, .unset] [(.int (9 : Int32))]))
  refine Go.step (fun t k => XS.bipush X0.here hx rfl (hb hby d49_1) k) ?_
  show Go p.tables e below P (s₁.setTop (mkF m 3 #[.val (.int (9 : Int32)), .val (.int sx), .val (.long jl), .second, .val (.long jh), .second, .unset, .unset, .unset] [(.int (8 : Int32)), (.int (9 : Int32))]))
  refine Go.step (fun t k => XS.icmpYes X0.here hx rfl (pc0 := 3) (pc' := 10) rfl (hb hby d49_3) rfl (icY (cd := .ge) (by decide : (8 : Int) ≤ (9 : Int))) (by decide) (by decide) k) ?_
  show Go p.tables e below P (s₁.setTop (mkF m 10 #[.val (.int (9 : Int32)), .val (.int sx), .val (.long jl), .second, .val (.long jh), .second, .unset, .unset, .unset] []))
  refine Go.step (fun t k => XS.lload X0.here hx rfl (hb hby d49_10) rfl  k) ?_
  show Go p.tables e below P (s₁.setTop (mkF m 12 #[.val (.int (9 : Int32)), .val (.int sx), .val (.long jl), .second, .val (.long jh), .second, .unset, .unset, .unset] [(.long jh)]))
  refine Go.step (fun t k => XS.lstore X0.here hx rfl (hb hby d49_12) rfl (l' := #[.val (.int (9 : Int32)), .val (.int sx), .val (.long jl), .second, .val (.long jh), .second, .val (.long jh), .second, .unset]) rfl k) ?_
  show Go p.tables e below P (s₁.setTop (mkF m 14 #[.val (.int (9 : Int32)), .val (.int sx), .val (.long jl), .second, .val (.long jh), .second, .val (.long jh), .second, .unset] []))
  refine Go.step (fun t k => XS.lload X0.here hx rfl (hb hby d49_14) rfl  k) ?_
  show Go p.tables e below P (s₁.setTop (mkF m 16 #[.val (.int (9 : Int32)), .val (.int sx), .val (.long jl), .second, .val (.long jh), .second, .val (.long jh), .second, .unset] [(.long jh)]))
  refine Go.step (fun t k => XS.bipush X0.here hx rfl (hb hby d49_16) k) ?_
  show Go p.tables e below P (s₁.setTop (mkF m 18 #[.val (.int (9 : Int32)), .val (.int sx), .val (.long jl), .second, .val (.long jh), .second, .val (.long jh), .second, .unset] [(.int (8 : Int32)), (.long jh)]))
  refine Go.step (fun t k => XS.iloadN X0.here hx rfl (hb hby d49_18) rfl  k) ?_
  show Go p.tables e below P (s₁.setTop (mkF m 19 #[.val (.int (9 : Int32)), .val (.int sx), .val (.long jl), .second, .val (.long jh), .second, .val (.long jh), .second, .unset] [(.int (9 : Int32)), (.int (8 : Int32)), (.long jh)]))
  refine Go.step (fun t k => XS.bipush X0.here hx rfl (hb hby d49_19) k) ?_
  show Go p.tables e below P (s₁.setTop (mkF m 21 #[.val (.int (9 : Int32)), .val (.int sx), .val (.long jl), .second, .val (.long jh), .second, .val (.long jh), .second, .unset] [(.int (7 : Int32)), (.int (9 : Int32)), (.int (8 : Int32)), (.long jh)]))
  obtain ⟨fl_1, hfl_1⟩ : ∃ z : Int32, (9 : Int32) &&& (7 : Int32) = z := ⟨_, rfl⟩
  refine Go.step (fun t k => iand_v X0.here hx rfl (hb hby d49_21) rfl  hfl_1 k) ?_
  show Go p.tables e below P (s₁.setTop (mkF m 22 #[.val (.int (9 : Int32)), .val (.int sx), .val (.long jl), .second, .val (.long jh), .second, .val (.long jh), .second, .unset] [(.int fl_1), (.int (8 : Int32)), (.long jh)]))
  have ez_fl_1 : fl_1 = (1 : Int32) := by rw [← hfl_1]; rfl
  subst ez_fl_1
  show Go p.tables e below P (s₁.setTop (mkF m 22 #[.val (.int (9 : Int32)), .val (.int sx), .val (.long jl), .second, .val (.long jh), .second, .val (.long jh), .second, .unset] [(.int (1 : Int32)), (.int (8 : Int32)), (.long jh)]))
  obtain ⟨fl_2, hfl_2⟩ : ∃ z : Int32, (8 : Int32) * (1 : Int32) = z := ⟨_, rfl⟩
  refine Go.step (fun t k => imul_v X0.here hx rfl (hb hby d49_22) rfl  hfl_2 k) ?_
  show Go p.tables e below P (s₁.setTop (mkF m 23 #[.val (.int (9 : Int32)), .val (.int sx), .val (.long jl), .second, .val (.long jh), .second, .val (.long jh), .second, .unset] [(.int fl_2), (.long jh)]))
  have ez_fl_2 : fl_2 = (8 : Int32) := by rw [← hfl_2]; rfl
  subst ez_fl_2
  show Go p.tables e below P (s₁.setTop (mkF m 23 #[.val (.int (9 : Int32)), .val (.int sx), .val (.long jl), .second, .val (.long jh), .second, .val (.long jh), .second, .unset] [(.int (8 : Int32)), (.long jh)]))
  obtain ⟨j23, hj23⟩ : ∃ z : Int64, ((jh.toUInt64 >>> ((8 : Int32) &&& 0x3f).toInt64.toUInt64).toInt64) = z := ⟨_, rfl⟩
  refine Go.step (fun t k => lushr_v X0.here hx rfl (hb hby d49_23) rfl  hj23 k) ?_
  show Go p.tables e below P (s₁.setTop (mkF m 24 #[.val (.int (9 : Int32)), .val (.int sx), .val (.long jl), .second, .val (.long jh), .second, .val (.long jh), .second, .unset] [(.long j23)]))
  refine Go.step (fun t k => X0.ldc2Long hx hown (mvT hZ (hw _ (List.mem_of_getElem? (i := 67) rfl))) (g := (mkF m 24 #[.val (.int (9 : Int32)), .val (.int sx), .val (.long jl), .second, .val (.long jh), .second, .val (.long jh), .second, .unset] [(.long j23)])) rfl (hb hby d49_24) t k) ?_
  show Go p.tables e below P (s₁.setTop (mkF m 27 #[.val (.int (9 : Int32)), .val (.int sx), .val (.long jl), .second, .val (.long jh), .second, .val (.long jh), .second, .unset] [(.long (255 : Int64)), (.long j23)]))
  obtain ⟨j27, hj27⟩ : ∃ z : Int64, j23 &&& (255 : Int64) = z := ⟨_, rfl⟩
  refine Go.step (fun t k => land_v X0.here hx rfl (hb hby d49_27) rfl  hj27 k) ?_
  show Go p.tables e below P (s₁.setTop (mkF m 28 #[.val (.int (9 : Int32)), .val (.int sx), .val (.long jl), .second, .val (.long jh), .second, .val (.long jh), .second, .unset] [(.long j27)]))
  obtain ⟨i28, hi28⟩ : ∃ z : Int32, j27.toInt32 = z := ⟨_, rfl⟩
  refine Go.step (fun t k => l2i_v X0.here hx rfl (hb hby d49_28) rfl hi28 k) ?_
  show Go p.tables e below P (s₁.setTop (mkF m 29 #[.val (.int (9 : Int32)), .val (.int sx), .val (.long jl), .second, .val (.long jh), .second, .val (.long jh), .second, .unset] [(.int i28)]))
  have f27 := c_maskL j23 (255 : Int64) 8 (by decide) rfl; rw [hj27] at f27
  have f28 := c_l2i j27; rw [hi28] at f28
  have g28 := rng32 i28
  have v28 : 0 ≤ i28.toInt ∧ i28.toInt ≤ 255 := by omega
  clear f27 f28
  refine Go.step (fun t k => XS.istore X0.here hx rfl (hb hby d49_29) rfl (l' := #[.val (.int (9 : Int32)), .val (.int sx), .val (.long jl), .second, .val (.long jh), .second, .val (.long jh), .second, .val (.int i28)]) rfl k) ?_
  show Go p.tables e below P (s₁.setTop (mkF m 31 #[.val (.int (9 : Int32)), .val (.int sx), .val (.long jl), .second, .val (.long jh), .second, .val (.long jh), .second, .val (.int i28)] []))
  refine Go.step (fun t k => XS.iloadN X0.here hx rfl (hb hby d49_31) rfl  k) ?_
  show Go p.tables e below P (s₁.setTop (mkF m 32 #[.val (.int (9 : Int32)), .val (.int sx), .val (.long jl), .second, .val (.long jh), .second, .val (.long jh), .second, .val (.int i28)] [(.int sx)]))
  refine Go.step (fun t k => XS.iloadN X0.here hx rfl (hb hby d49_32) rfl  k) ?_
  show Go p.tables e below P (s₁.setTop (mkF m 33 #[.val (.int (9 : Int32)), .val (.int sx), .val (.long jl), .second, .val (.long jh), .second, .val (.long jh), .second, .val (.int i28)] [(.int (9 : Int32)), (.int sx)]))
  obtain ⟨i33, hi33⟩ : ∃ z : Int32, ((sx.toUInt32 >>> ((9 : Int32) &&& 31).toUInt32).toInt32) = z := ⟨_, rfl⟩
  refine Go.step (fun t k => iushr_v X0.here hx rfl (hb hby d49_33) rfl  hi33 k) ?_
  show Go p.tables e below P (s₁.setTop (mkF m 34 #[.val (.int (9 : Int32)), .val (.int sx), .val (.long jl), .second, .val (.long jh), .second, .val (.long jh), .second, .val (.int i28)] [(.int i33)]))
  refine Go.step (fun t k => XS.iconst X0.here hx rfl (hb hby d49_34) k) ?_
  show Go p.tables e below P (s₁.setTop (mkF m 35 #[.val (.int (9 : Int32)), .val (.int sx), .val (.long jl), .second, .val (.long jh), .second, .val (.long jh), .second, .val (.int i28)] [(.int (1 : Int32)), (.int i33)]))
  obtain ⟨i35, hi35⟩ : ∃ z : Int32, i33 &&& (1 : Int32) = z := ⟨_, rfl⟩
  refine Go.step (fun t k => iand_v X0.here hx rfl (hb hby d49_35) rfl  hi35 k) ?_
  show Go p.tables e below P (s₁.setTop (mkF m 36 #[.val (.int (9 : Int32)), .val (.int sx), .val (.long jl), .second, .val (.long jh), .second, .val (.long jh), .second, .val (.int i28)] [(.int i35)]))
  have fz := c_iushr sx (9 : Int32) 9 rfl (by decide); rw [hi33] at fz
  have fm := c_mask i33 (1 : Int32) 1 (by decide) rfl; rw [hi35] at fm
  have hbit : i35.toInt = bit sx 9 := by unfold bit; omega
  have hb01 := bit01 sx 9
  clear fz fm
  by_cases hc36 : i35.toInt = 0
  · refine Go.step (fun t k => XS.ifYes X0.here hx rfl (pc0 := 36) (pc' := 59) rfl (hb hby d49_36) rfl (ifY (cd := .eq) hc36) (by decide) (by decide) k) ?_
    show Go p.tables e below P (s₁.setTop (mkF m 59 #[.val (.int (9 : Int32)), .val (.int sx), .val (.long jl), .second, .val (.long jh), .second, .val (.long jh), .second, .val (.int i28)] []))
    refine Go.step (fun t k => XS.iload X0.here hx rfl (hb hby d49_59) rfl  k) ?_
    show Go p.tables e below P (s₁.setTop (mkF m 61 #[.val (.int (9 : Int32)), .val (.int sx), .val (.long jl), .second, .val (.long jh), .second, .val (.long jh), .second, .val (.int i28)] [(.int i28)]))
    obtain ⟨i61, hi61⟩ : ∃ z : Int32, i28.toUInt32.toUInt16.toUInt32.toInt32 = z := ⟨_, rfl⟩
    refine Go.step (fun t k => i2c_v X0.here hx rfl (hb hby d49_61) rfl hi61 k) ?_
    show Go p.tables e below P (s₁.setTop (mkF m 62 #[.val (.int (9 : Int32)), .val (.int sx), .val (.long jl), .second, .val (.long jh), .second, .val (.long jh), .second, .val (.int i28)] [(.int i61)]))
    have f61 := c_i2c i28; rw [hi61] at f61
    exact retGo X0 hx hP Bd.returns hlk (nar_c (by omega)) (Or.inl ⟨rfl, Or.inr (Or.inr (Or.inr (Or.inl rfl))), _, rfl⟩) (hb hby d49_62) (by decide) (by decide) (by rw [e0]; exact ⟨i61, rfl, by unfold Ok; omega, N0, rfl⟩)
  · refine Go.step (fun t k => XS.ifNo X0.here hx rfl (hb hby d49_36) rfl (ifN (cd := .eq) hc36) k) ?_
    show Go p.tables e below P (s₁.setTop (mkF m 39 #[.val (.int (9 : Int32)), .val (.int sx), .val (.long jl), .second, .val (.long jh), .second, .val (.long jh), .second, .val (.int i28)] []))
    refine Go.step (fun t k => XS.iloadN X0.here hx rfl (hb hby d49_39) rfl  k) ?_
    show Go p.tables e below P (s₁.setTop (mkF m 40 #[.val (.int (9 : Int32)), .val (.int sx), .val (.long jl), .second, .val (.long jh), .second, .val (.long jh), .second, .val (.int i28)] [(.int (9 : Int32))]))
    refine Go.step (fun t k => XS.iconst X0.here hx rfl (hb hby d49_40) k) ?_
    show Go p.tables e below P (s₁.setTop (mkF m 41 #[.val (.int (9 : Int32)), .val (.int sx), .val (.long jl), .second, .val (.long jh), .second, .val (.long jh), .second, .val (.int i28)] [(.int (1 : Int32)), (.int (9 : Int32))]))
    obtain ⟨fl_3, hfl_3⟩ : ∃ z : Int32, (9 : Int32) &&& (1 : Int32) = z := ⟨_, rfl⟩
    refine Go.step (fun t k => iand_v X0.here hx rfl (hb hby d49_41) rfl  hfl_3 k) ?_
    show Go p.tables e below P (s₁.setTop (mkF m 42 #[.val (.int (9 : Int32)), .val (.int sx), .val (.long jl), .second, .val (.long jh), .second, .val (.long jh), .second, .val (.int i28)] [(.int fl_3)]))
    have ez_fl_3 : fl_3 = (1 : Int32) := by rw [← hfl_3]; rfl
    subst ez_fl_3
    show Go p.tables e below P (s₁.setTop (mkF m 42 #[.val (.int (9 : Int32)), .val (.int sx), .val (.long jl), .second, .val (.long jh), .second, .val (.long jh), .second, .val (.int i28)] [(.int (1 : Int32))]))
    refine Go.step (fun t k => XS.ifYes X0.here hx rfl (pc0 := 42) (pc' := 52) rfl (hb hby d49_42) rfl (ifY (cd := .ne) (by decide : ¬ (1 : Int) = 0)) (by decide) (by decide) k) ?_
    show Go p.tables e below P (s₁.setTop (mkF m 52 #[.val (.int (9 : Int32)), .val (.int sx), .val (.long jl), .second, .val (.long jh), .second, .val (.long jh), .second, .val (.int i28)] []))
    refine Go.step (fun t k => X0.ldcInt hx hown (mvT hZ (hw _ (List.mem_of_getElem? (i := 69) rfl))) (g := (mkF m 52 #[.val (.int (9 : Int32)), .val (.int sx), .val (.long jl), .second, .val (.long jh), .second, .val (.long jh), .second, .val (.int i28)] [])) rfl (hb hby d49_52) t k) ?_
    show Go p.tables e below P (s₁.setTop (mkF m 54 #[.val (.int (9 : Int32)), .val (.int sx), .val (.long jl), .second, .val (.long jh), .second, .val (.long jh), .second, .val (.int i28)] [(.int (56320 : Int32))]))
    refine Go.step (fun t k => XS.iload X0.here hx rfl (hb hby d49_54) rfl  k) ?_
    show Go p.tables e below P (s₁.setTop (mkF m 56 #[.val (.int (9 : Int32)), .val (.int sx), .val (.long jl), .second, .val (.long jh), .second, .val (.long jh), .second, .val (.int i28)] [(.int i28), (.int (56320 : Int32))]))
    obtain ⟨i56, hi56⟩ : ∃ z : Int32, (56320 : Int32) ||| i28 = z := ⟨_, rfl⟩
    refine Go.step (fun t k => ior_v X0.here hx rfl (hb hby d49_56) rfl  hi56 k) ?_
    show Go p.tables e below P (s₁.setTop (mkF m 57 #[.val (.int (9 : Int32)), .val (.int sx), .val (.long jl), .second, .val (.long jh), .second, .val (.long jh), .second, .val (.int i28)] [(.int i56)]))
    obtain ⟨i57, hi57⟩ : ∃ z : Int32, i56.toUInt32.toUInt16.toUInt32.toInt32 = z := ⟨_, rfl⟩
    refine Go.step (fun t k => i2c_v X0.here hx rfl (hb hby d49_57) rfl hi57 k) ?_
    show Go p.tables e below P (s₁.setTop (mkF m 58 #[.val (.int (9 : Int32)), .val (.int sx), .val (.long jl), .second, .val (.long jh), .second, .val (.long jh), .second, .val (.int i28)] [(.int i57)]))
    have e5 : (56320 : Int32).toInt = 56320 := rfl
    have fo := c_or (56320 : Int32) i28 8 (by decide) 256 rfl (by omega) (by omega) (by omega); rw [hi56, e5] at fo
    have go := rng32 i56
    have fc := c_i2c i56; rw [hi57] at fc
    exact retGo X0 hx hP Bd.returns hlk (nar_c (by omega)) (Or.inl ⟨rfl, Or.inr (Or.inr (Or.inr (Or.inl rfl))), _, rfl⟩) (hb hby d49_58) (by decide) (by decide) (by rw [e0]; exact ⟨i57, rfl, by unfold Ok; omega, N0, rfl⟩)
theorem d50_0 : decode method_3_code 0 = .ok (.iload_n 0, 1) := by decide +kernel
theorem d50_1 : decode method_3_code 1 = .ok (.bipush 8, 2) := by decide +kernel
theorem d50_3 : decode method_3_code 3 = .ok (.if_icmp .ge 7, 3) := by decide +kernel
theorem d50_10 : decode method_3_code 10 = .ok (.lload 4, 2) := by decide +kernel
theorem d50_12 : decode method_3_code 12 = .ok (.lstore 6, 2) := by decide +kernel
theorem d50_14 : decode method_3_code 14 = .ok (.lload 6, 2) := by decide +kernel
theorem d50_16 : decode method_3_code 16 = .ok (.bipush 8, 2) := by decide +kernel
theorem d50_18 : decode method_3_code 18 = .ok (.iload_n 0, 1) := by decide +kernel
theorem d50_19 : decode method_3_code 19 = .ok (.bipush 7, 2) := by decide +kernel
theorem d50_21 : decode method_3_code 21 = .ok (.iand, 1) := by decide +kernel
theorem d50_22 : decode method_3_code 22 = .ok (.imul, 1) := by decide +kernel
theorem d50_23 : decode method_3_code 23 = .ok (.lushr, 1) := by decide +kernel
theorem d50_24 : decode method_3_code 24 = .ok (.ldc2_w 29, 3) := by decide +kernel
theorem d50_27 : decode method_3_code 27 = .ok (.land, 1) := by decide +kernel
theorem d50_28 : decode method_3_code 28 = .ok (.l2i, 1) := by decide +kernel
theorem d50_29 : decode method_3_code 29 = .ok (.istore 8, 2) := by decide +kernel
theorem d50_31 : decode method_3_code 31 = .ok (.iload_n 1, 1) := by decide +kernel
theorem d50_32 : decode method_3_code 32 = .ok (.iload_n 0, 1) := by decide +kernel
theorem d50_33 : decode method_3_code 33 = .ok (.iushr, 1) := by decide +kernel
theorem d50_34 : decode method_3_code 34 = .ok (.iconst 1, 1) := by decide +kernel
theorem d50_35 : decode method_3_code 35 = .ok (.iand, 1) := by decide +kernel
theorem d50_36 : decode method_3_code 36 = .ok (.ifCond .eq 23, 3) := by decide +kernel
theorem d50_39 : decode method_3_code 39 = .ok (.iload_n 0, 1) := by decide +kernel
theorem d50_40 : decode method_3_code 40 = .ok (.iconst 1, 1) := by decide +kernel
theorem d50_41 : decode method_3_code 41 = .ok (.iand, 1) := by decide +kernel
theorem d50_42 : decode method_3_code 42 = .ok (.ifCond .ne 10, 3) := by decide +kernel
theorem d50_45 : decode method_3_code 45 = .ok (.ldc 31, 2) := by decide +kernel
theorem d50_47 : decode method_3_code 47 = .ok (.iload 8, 2) := by decide +kernel
theorem d50_49 : decode method_3_code 49 = .ok (.ior, 1) := by decide +kernel
theorem d50_50 : decode method_3_code 50 = .ok (.i2c, 1) := by decide +kernel
theorem d50_51 : decode method_3_code 51 = .ok (.ireturn, 1) := by decide +kernel
theorem d50_59 : decode method_3_code 59 = .ok (.iload 8, 2) := by decide +kernel
theorem d50_61 : decode method_3_code 61 = .ok (.i2c, 1) := by decide +kernel
theorem d50_62 : decode method_3_code 62 = .ok (.ireturn, 1) := by decide +kernel
theorem pn_50 : plainName "com/example/wrasse/wrasse/WordsToleratedEditsPinLaw" = true := by first | (simp [plainName, overriddenIn]; done) | decide +kernel
theorem ef_50 (m : MethodId) (x0 : Int32) (x1 : Int32) (x2 : Int64) (x3 : Int64) : entryFrame m #[(.int x0), (.int x1), (.long x2), (.long x3)] 9 = mkF m 0 #[.val (.int x0), .val (.int x1), .val (.long x2), .second, .val (.long x3), .second, .unset, .unset, .unset] [] := by first | (simp [entryFrame, mkF, argsToLocals, Value.category]; done) | rfl
def Q50 (Z : State) (sx : Int32) (jl : Int64) (jh : Int64) (h0 : Heap) (n0 : Nat) (v : Option Value) (h : Heap) (L : List Loc) : Prop := ∃ r : Int32, v = some (.int r) ∧ Ok sx 10 r ∧ Fr n0 L ∧ h = h0
set_option maxRecDepth 65536 in
set_option maxHeartbeats 40000000 in
theorem ch10 (l : Launch) (Z : State) (a0 : Array Value) (hw : ∀ d ∈ tables_1, d.before a0 Z = true) (ws : List Jvm.Cond) (sx : Int32) (jl : Int64) (jh : Int64) (h0 : Heap) (n0 : Nat) (Z0 : n0 ≤ h0.size) :
    MetFree l (⟨"com/example/wrasse/wrasse/WordsToleratedEditsPinLaw", "ch", "(IIJJ)C"⟩ : MethodName) (head1 (Jvm.Cond.code (⟨"com/example/wrasse/wrasse/WordsToleratedEditsPinLaw", "ch", "(IIJJ)C"⟩ : MethodName) method_3_code 9 (some .char) :: ws) ({ frames := 0, cells := 0, slots := 0, locals := 0 } : Room)) (fun a_ U => a_ = #[(.int (10 : Int32)), (.int sx), (.long jl), (.long jh)] ∧ Z.Warmed39 U.vm ∧ U.heap = h0) (fun _ _ _ _ _ => True) (fun _ U o U' => ∃ v L, o = .returned v ∧ Q50 Z sx jl jh h0 n0 v U'.heap L ∧ FrameEnd U o U' L (({ frames := 0, cells := 0, slots := 0, locals := 0 } : Room)).cells (({ frames := 0, cells := 0, slots := 0, locals := 0 } : Room)).slots) := by
  refine MetFree.of_bodySF (plainFor_of_name pn_50) hisR ?_
  intro p e s m args below meth c s₁ Bd hml0 hP0 hK
  obtain ⟨rfl, hZ, hh⟩ := hP0
  have hx := Bd.exec
  have hby := Bd.bytes
  have hml : c.maxLocals = 9 := hml0
  have hown : s.vm.findClass "com/example/wrasse/wrasse/WordsToleratedEditsPinLaw" = some m.cls := findClass_of_methodNamed Bd.named
  have hnm := (name_of_methodNamed Bd.named Bd.method).1
  have X0 : Stand p l e ({ frames := 0, cells := 0, slots := 0, locals := 0 } : Room) s m #[(.int (10 : Int32)), (.int sx), (.long jl), (.long jh)] below meth c s₁ [] 0 0 := Stand.of_body Bd
  have e0 : s₁.heap = h0 := by rw [← hh, Bd.state]; rfl
  have N0 := Fr.nil n0
  have hlk : meth.locks = false := BodyLoose.notSynchronized Bd
  refine Go.start (P₀ := fun s₂ o => ∃ v L, o = .returned v ∧ Q50 Z sx jl jh h0 n0 v s₂.heap L ∧ FrameEnd s o s₂ L (({ frames := 0, cells := 0, slots := 0, locals := 0 } : Room)).cells (({ frames := 0, cells := 0, slots := 0, locals := 0 } : Room)).slots) (congrArg s₁.setTop (ef_50 m (10 : Int32) sx jl jh)) ?_
  intro P hP
  show Go p.tables e below P (s₁.setTop (mkF m 0 #[.val (.int (10 : Int32)), .val (.int sx), .val (.long jl), .second, .val (.long jh), .second, .unset, .unset, .unset] []))
  refine Go.step (fun t k => XS.iloadN X0.here hx rfl (hb hby d50_0) rfl  k) ?_
  show Go p.tables e below P (s₁.setTop (mkF m 1 #[.val (.int (10 : Int32)), .val (.int sx), .val (.long jl), .second, .val (.long jh), .second, .unset, .unset, .unset] [(.int (10 : Int32))]))
  refine Go.step (fun t k => XS.bipush X0.here hx rfl (hb hby d50_1) k) ?_
  show Go p.tables e below P (s₁.setTop (mkF m 3 #[.val (.int (10 : Int32)), .val (.int sx), .val (.long jl), .second, .val (.long jh), .second, .unset, .unset, .unset] [(.int (8 : Int32)), (.int (10 : Int32))]))
  refine Go.step (fun t k => XS.icmpYes X0.here hx rfl (pc0 := 3) (pc' := 10) rfl (hb hby d50_3) rfl (icY (cd := .ge) (by decide : (8 : Int) ≤ (10 : Int))) (by decide) (by decide) k) ?_
  show Go p.tables e below P (s₁.setTop (mkF m 10 #[.val (.int (10 : Int32)), .val (.int sx), .val (.long jl), .second, .val (.long jh), .second, .unset, .unset, .unset] []))
  refine Go.step (fun t k => XS.lload X0.here hx rfl (hb hby d50_10) rfl  k) ?_
  show Go p.tables e below P (s₁.setTop (mkF m 12 #[.val (.int (10 : Int32)), .val (.int sx), .val (.long jl), .second, .val (.long jh), .second, .unset, .unset, .unset] [(.long jh)]))
  refine Go.step (fun t k => XS.lstore X0.here hx rfl (hb hby d50_12) rfl (l' := #[.val (.int (10 : Int32)), .val (.int sx), .val (.long jl), .second, .val (.long jh), .second, .val (.long jh), .second, .unset]) rfl k) ?_
  show Go p.tables e below P (s₁.setTop (mkF m 14 #[.val (.int (10 : Int32)), .val (.int sx), .val (.long jl), .second, .val (.long jh), .second, .val (.long jh), .second, .unset] []))
  refine Go.step (fun t k => XS.lload X0.here hx rfl (hb hby d50_14) rfl  k) ?_
  show Go p.tables e below P (s₁.setTop (mkF m 16 #[.val (.int (10 : Int32)), .val (.int sx), .val (.long jl), .second, .val (.long jh), .second, .val (.long jh), .second, .unset] [(.long jh)]))
  refine Go.step (fun t k => XS.bipush X0.here hx rfl (hb hby d50_16) k) ?_
  show Go p.tables e below P (s₁.setTop (mkF m 18 #[.val (.int (10 : Int32)), .val (.int sx), .val (.long jl), .second, .val (.long jh), .second, .val (.long jh), .second, .unset] [(.int (8 : Int32)), (.long jh)]))
  refine Go.step (fun t k => XS.iloadN X0.here hx rfl (hb hby d50_18) rfl  k) ?_
  show Go p.tables e below P (s₁.setTop (mkF m 19 #[.val (.int (10 : Int32)), .val (.int sx), .val (.long jl), .second, .val (.long jh), .second, .val (.long jh), .second, .unset] [(.int (10 : Int32)), (.int (8 : Int32)), (.long jh)]))
  refine Go.step (fun t k => XS.bipush X0.here hx rfl (hb hby d50_19) k) ?_
  show Go p.tables e below P (s₁.setTop (mkF m 21 #[.val (.int (10 : Int32)), .val (.int sx), .val (.long jl), .second, .val (.long jh), .second, .val (.long jh), .second, .unset] [(.int (7 : Int32)), (.int (10 : Int32)), (.int (8 : Int32)), (.long jh)]))
  obtain ⟨fl_1, hfl_1⟩ : ∃ z : Int32, (10 : Int32) &&& (7 : Int32) = z := ⟨_, rfl⟩
  refine Go.step (fun t k => iand_v X0.here hx rfl (hb hby d50_21) rfl  hfl_1 k) ?_
  show Go p.tables e below P (s₁.setTop (mkF m 22 #[.val (.int (10 : Int32)), .val (.int sx), .val (.long jl), .second, .val (.long jh), .second, .val (.long jh), .second, .unset] [(.int fl_1), (.int (8 : Int32)), (.long jh)]))
  have ez_fl_1 : fl_1 = (2 : Int32) := by rw [← hfl_1]; rfl
  subst ez_fl_1
  show Go p.tables e below P (s₁.setTop (mkF m 22 #[.val (.int (10 : Int32)), .val (.int sx), .val (.long jl), .second, .val (.long jh), .second, .val (.long jh), .second, .unset] [(.int (2 : Int32)), (.int (8 : Int32)), (.long jh)]))
  obtain ⟨fl_2, hfl_2⟩ : ∃ z : Int32, (8 : Int32) * (2 : Int32) = z := ⟨_, rfl⟩
  refine Go.step (fun t k => imul_v X0.here hx rfl (hb hby d50_22) rfl  hfl_2 k) ?_
  show Go p.tables e below P (s₁.setTop (mkF m 23 #[.val (.int (10 : Int32)), .val (.int sx), .val (.long jl), .second, .val (.long jh), .second, .val (.long jh), .second, .unset] [(.int fl_2), (.long jh)]))
  have ez_fl_2 : fl_2 = (16 : Int32) := by rw [← hfl_2]; rfl
  subst ez_fl_2
  show Go p.tables e below P (s₁.setTop (mkF m 23 #[.val (.int (10 : Int32)), .val (.int sx), .val (.long jl), .second, .val (.long jh), .second, .val (.long jh), .second, .unset] [(.int (16 : Int32)), (.long jh)]))
  obtain ⟨j23, hj23⟩ : ∃ z : Int64, ((jh.toUInt64 >>> ((16 : Int32) &&& 0x3f).toInt64.toUInt64).toInt64) = z := ⟨_, rfl⟩
  refine Go.step (fun t k => lushr_v X0.here hx rfl (hb hby d50_23) rfl  hj23 k) ?_
  show Go p.tables e below P (s₁.setTop (mkF m 24 #[.val (.int (10 : Int32)), .val (.int sx), .val (.long jl), .second, .val (.long jh), .second, .val (.long jh), .second, .unset] [(.long j23)]))
  refine Go.step (fun t k => X0.ldc2Long hx hown (mvT hZ (hw _ (List.mem_of_getElem? (i := 67) rfl))) (g := (mkF m 24 #[.val (.int (10 : Int32)), .val (.int sx), .val (.long jl), .second, .val (.long jh), .second, .val (.long jh), .second, .unset] [(.long j23)])) rfl (hb hby d50_24) t k) ?_
  show Go p.tables e below P (s₁.setTop (mkF m 27 #[.val (.int (10 : Int32)), .val (.int sx), .val (.long jl), .second, .val (.long jh), .second, .val (.long jh), .second, .unset] [(.long (255 : Int64)), (.long j23)]))
  obtain ⟨j27, hj27⟩ : ∃ z : Int64, j23 &&& (255 : Int64) = z := ⟨_, rfl⟩
  refine Go.step (fun t k => land_v X0.here hx rfl (hb hby d50_27) rfl  hj27 k) ?_
  show Go p.tables e below P (s₁.setTop (mkF m 28 #[.val (.int (10 : Int32)), .val (.int sx), .val (.long jl), .second, .val (.long jh), .second, .val (.long jh), .second, .unset] [(.long j27)]))
  obtain ⟨i28, hi28⟩ : ∃ z : Int32, j27.toInt32 = z := ⟨_, rfl⟩
  refine Go.step (fun t k => l2i_v X0.here hx rfl (hb hby d50_28) rfl hi28 k) ?_
  show Go p.tables e below P (s₁.setTop (mkF m 29 #[.val (.int (10 : Int32)), .val (.int sx), .val (.long jl), .second, .val (.long jh), .second, .val (.long jh), .second, .unset] [(.int i28)]))
  have f27 := c_maskL j23 (255 : Int64) 8 (by decide) rfl; rw [hj27] at f27
  have f28 := c_l2i j27; rw [hi28] at f28
  have g28 := rng32 i28
  have v28 : 0 ≤ i28.toInt ∧ i28.toInt ≤ 255 := by omega
  clear f27 f28
  refine Go.step (fun t k => XS.istore X0.here hx rfl (hb hby d50_29) rfl (l' := #[.val (.int (10 : Int32)), .val (.int sx), .val (.long jl), .second, .val (.long jh), .second, .val (.long jh), .second, .val (.int i28)]) rfl k) ?_
  show Go p.tables e below P (s₁.setTop (mkF m 31 #[.val (.int (10 : Int32)), .val (.int sx), .val (.long jl), .second, .val (.long jh), .second, .val (.long jh), .second, .val (.int i28)] []))
  refine Go.step (fun t k => XS.iloadN X0.here hx rfl (hb hby d50_31) rfl  k) ?_
  show Go p.tables e below P (s₁.setTop (mkF m 32 #[.val (.int (10 : Int32)), .val (.int sx), .val (.long jl), .second, .val (.long jh), .second, .val (.long jh), .second, .val (.int i28)] [(.int sx)]))
  refine Go.step (fun t k => XS.iloadN X0.here hx rfl (hb hby d50_32) rfl  k) ?_
  show Go p.tables e below P (s₁.setTop (mkF m 33 #[.val (.int (10 : Int32)), .val (.int sx), .val (.long jl), .second, .val (.long jh), .second, .val (.long jh), .second, .val (.int i28)] [(.int (10 : Int32)), (.int sx)]))
  obtain ⟨i33, hi33⟩ : ∃ z : Int32, ((sx.toUInt32 >>> ((10 : Int32) &&& 31).toUInt32).toInt32) = z := ⟨_, rfl⟩
  refine Go.step (fun t k => iushr_v X0.here hx rfl (hb hby d50_33) rfl  hi33 k) ?_
  show Go p.tables e below P (s₁.setTop (mkF m 34 #[.val (.int (10 : Int32)), .val (.int sx), .val (.long jl), .second, .val (.long jh), .second, .val (.long jh), .second, .val (.int i28)] [(.int i33)]))
  refine Go.step (fun t k => XS.iconst X0.here hx rfl (hb hby d50_34) k) ?_
  show Go p.tables e below P (s₁.setTop (mkF m 35 #[.val (.int (10 : Int32)), .val (.int sx), .val (.long jl), .second, .val (.long jh), .second, .val (.long jh), .second, .val (.int i28)] [(.int (1 : Int32)), (.int i33)]))
  obtain ⟨i35, hi35⟩ : ∃ z : Int32, i33 &&& (1 : Int32) = z := ⟨_, rfl⟩
  refine Go.step (fun t k => iand_v X0.here hx rfl (hb hby d50_35) rfl  hi35 k) ?_
  show Go p.tables e below P (s₁.setTop (mkF m 36 #[.val (.int (10 : Int32)), .val (.int sx), .val (.long jl), .second, .val (.long jh), .second, .val (.long jh), .second, .val (.int i28)] [(.int i35)]))
  have fz := c_iushr sx (10 : Int32) 10 rfl (by decide); rw [hi33] at fz
  have fm := c_mask i33 (1 : Int32) 1 (by decide) rfl; rw [hi35] at fm
  have hbit : i35.toInt = bit sx 10 := by unfold bit; omega
  have hb01 := bit01 sx 10
  clear fz fm
  by_cases hc36 : i35.toInt = 0
  · refine Go.step (fun t k => XS.ifYes X0.here hx rfl (pc0 := 36) (pc' := 59) rfl (hb hby d50_36) rfl (ifY (cd := .eq) hc36) (by decide) (by decide) k) ?_
    show Go p.tables e below P (s₁.setTop (mkF m 59 #[.val (.int (10 : Int32)), .val (.int sx), .val (.long jl), .second, .val (.long jh), .second, .val (.long jh), .second, .val (.int i28)] []))
    refine Go.step (fun t k => XS.iload X0.here hx rfl (hb hby d50_59) rfl  k) ?_
    show Go p.tables e below P (s₁.setTop (mkF m 61 #[.val (.int (10 : Int32)), .val (.int sx), .val (.long jl), .second, .val (.long jh), .second, .val (.long jh), .second, .val (.int i28)] [(.int i28)]))
    obtain ⟨i61, hi61⟩ : ∃ z : Int32, i28.toUInt32.toUInt16.toUInt32.toInt32 = z := ⟨_, rfl⟩
    refine Go.step (fun t k => i2c_v X0.here hx rfl (hb hby d50_61) rfl hi61 k) ?_
    show Go p.tables e below P (s₁.setTop (mkF m 62 #[.val (.int (10 : Int32)), .val (.int sx), .val (.long jl), .second, .val (.long jh), .second, .val (.long jh), .second, .val (.int i28)] [(.int i61)]))
    have f61 := c_i2c i28; rw [hi61] at f61
    exact retGo X0 hx hP Bd.returns hlk (nar_c (by omega)) (Or.inl ⟨rfl, Or.inr (Or.inr (Or.inr (Or.inl rfl))), _, rfl⟩) (hb hby d50_62) (by decide) (by decide) (by rw [e0]; exact ⟨i61, rfl, by unfold Ok; omega, N0, rfl⟩)
  · refine Go.step (fun t k => XS.ifNo X0.here hx rfl (hb hby d50_36) rfl (ifN (cd := .eq) hc36) k) ?_
    show Go p.tables e below P (s₁.setTop (mkF m 39 #[.val (.int (10 : Int32)), .val (.int sx), .val (.long jl), .second, .val (.long jh), .second, .val (.long jh), .second, .val (.int i28)] []))
    refine Go.step (fun t k => XS.iloadN X0.here hx rfl (hb hby d50_39) rfl  k) ?_
    show Go p.tables e below P (s₁.setTop (mkF m 40 #[.val (.int (10 : Int32)), .val (.int sx), .val (.long jl), .second, .val (.long jh), .second, .val (.long jh), .second, .val (.int i28)] [(.int (10 : Int32))]))
    refine Go.step (fun t k => XS.iconst X0.here hx rfl (hb hby d50_40) k) ?_
    show Go p.tables e below P (s₁.setTop (mkF m 41 #[.val (.int (10 : Int32)), .val (.int sx), .val (.long jl), .second, .val (.long jh), .second, .val (.long jh), .second, .val (.int i28)] [(.int (1 : Int32)), (.int (10 : Int32))]))
    obtain ⟨fl_3, hfl_3⟩ : ∃ z : Int32, (10 : Int32) &&& (1 : Int32) = z := ⟨_, rfl⟩
    refine Go.step (fun t k => iand_v X0.here hx rfl (hb hby d50_41) rfl  hfl_3 k) ?_
    show Go p.tables e below P (s₁.setTop (mkF m 42 #[.val (.int (10 : Int32)), .val (.int sx), .val (.long jl), .second, .val (.long jh), .second, .val (.long jh), .second, .val (.int i28)] [(.int fl_3)]))
    have ez_fl_3 : fl_3 = (0 : Int32) := by rw [← hfl_3]; rfl
    subst ez_fl_3
    show Go p.tables e below P (s₁.setTop (mkF m 42 #[.val (.int (10 : Int32)), .val (.int sx), .val (.long jl), .second, .val (.long jh), .second, .val (.long jh), .second, .val (.int i28)] [(.int (0 : Int32))]))
    refine Go.step (fun t k => XS.ifNo X0.here hx rfl (hb hby d50_42) rfl (ifN (cd := .ne) (by decide : ¬ (¬ (0 : Int) = 0))) k) ?_
    show Go p.tables e below P (s₁.setTop (mkF m 45 #[.val (.int (10 : Int32)), .val (.int sx), .val (.long jl), .second, .val (.long jh), .second, .val (.long jh), .second, .val (.int i28)] []))
    refine Go.step (fun t k => X0.ldcInt hx hown (mvT hZ (hw _ (List.mem_of_getElem? (i := 68) rfl))) (g := (mkF m 45 #[.val (.int (10 : Int32)), .val (.int sx), .val (.long jl), .second, .val (.long jh), .second, .val (.long jh), .second, .val (.int i28)] [])) rfl (hb hby d50_45) t k) ?_
    show Go p.tables e below P (s₁.setTop (mkF m 47 #[.val (.int (10 : Int32)), .val (.int sx), .val (.long jl), .second, .val (.long jh), .second, .val (.long jh), .second, .val (.int i28)] [(.int (55296 : Int32))]))
    refine Go.step (fun t k => XS.iload X0.here hx rfl (hb hby d50_47) rfl  k) ?_
    show Go p.tables e below P (s₁.setTop (mkF m 49 #[.val (.int (10 : Int32)), .val (.int sx), .val (.long jl), .second, .val (.long jh), .second, .val (.long jh), .second, .val (.int i28)] [(.int i28), (.int (55296 : Int32))]))
    obtain ⟨i49, hi49⟩ : ∃ z : Int32, (55296 : Int32) ||| i28 = z := ⟨_, rfl⟩
    refine Go.step (fun t k => ior_v X0.here hx rfl (hb hby d50_49) rfl  hi49 k) ?_
    show Go p.tables e below P (s₁.setTop (mkF m 50 #[.val (.int (10 : Int32)), .val (.int sx), .val (.long jl), .second, .val (.long jh), .second, .val (.long jh), .second, .val (.int i28)] [(.int i49)]))
    obtain ⟨i50, hi50⟩ : ∃ z : Int32, i49.toUInt32.toUInt16.toUInt32.toInt32 = z := ⟨_, rfl⟩
    refine Go.step (fun t k => i2c_v X0.here hx rfl (hb hby d50_50) rfl hi50 k) ?_
    show Go p.tables e below P (s₁.setTop (mkF m 51 #[.val (.int (10 : Int32)), .val (.int sx), .val (.long jl), .second, .val (.long jh), .second, .val (.long jh), .second, .val (.int i28)] [(.int i50)]))
    have e5 : (55296 : Int32).toInt = 55296 := rfl
    have fo := c_or (55296 : Int32) i28 8 (by decide) 256 rfl (by omega) (by omega) (by omega); rw [hi49, e5] at fo
    have go := rng32 i49
    have fc := c_i2c i49; rw [hi50] at fc
    exact retGo X0 hx hP Bd.returns hlk (nar_c (by omega)) (Or.inl ⟨rfl, Or.inr (Or.inr (Or.inr (Or.inl rfl))), _, rfl⟩) (hb hby d50_51) (by decide) (by decide) (by rw [e0]; exact ⟨i50, rfl, by unfold Ok; omega, N0, rfl⟩)
theorem d51_0 : decode method_3_code 0 = .ok (.iload_n 0, 1) := by decide +kernel
theorem d51_1 : decode method_3_code 1 = .ok (.bipush 8, 2) := by decide +kernel
theorem d51_3 : decode method_3_code 3 = .ok (.if_icmp .ge 7, 3) := by decide +kernel
theorem d51_10 : decode method_3_code 10 = .ok (.lload 4, 2) := by decide +kernel
theorem d51_12 : decode method_3_code 12 = .ok (.lstore 6, 2) := by decide +kernel
theorem d51_14 : decode method_3_code 14 = .ok (.lload 6, 2) := by decide +kernel
theorem d51_16 : decode method_3_code 16 = .ok (.bipush 8, 2) := by decide +kernel
theorem d51_18 : decode method_3_code 18 = .ok (.iload_n 0, 1) := by decide +kernel
theorem d51_19 : decode method_3_code 19 = .ok (.bipush 7, 2) := by decide +kernel
theorem d51_21 : decode method_3_code 21 = .ok (.iand, 1) := by decide +kernel
theorem d51_22 : decode method_3_code 22 = .ok (.imul, 1) := by decide +kernel
theorem d51_23 : decode method_3_code 23 = .ok (.lushr, 1) := by decide +kernel
theorem d51_24 : decode method_3_code 24 = .ok (.ldc2_w 29, 3) := by decide +kernel
theorem d51_27 : decode method_3_code 27 = .ok (.land, 1) := by decide +kernel
theorem d51_28 : decode method_3_code 28 = .ok (.l2i, 1) := by decide +kernel
theorem d51_29 : decode method_3_code 29 = .ok (.istore 8, 2) := by decide +kernel
theorem d51_31 : decode method_3_code 31 = .ok (.iload_n 1, 1) := by decide +kernel
theorem d51_32 : decode method_3_code 32 = .ok (.iload_n 0, 1) := by decide +kernel
theorem d51_33 : decode method_3_code 33 = .ok (.iushr, 1) := by decide +kernel
theorem d51_34 : decode method_3_code 34 = .ok (.iconst 1, 1) := by decide +kernel
theorem d51_35 : decode method_3_code 35 = .ok (.iand, 1) := by decide +kernel
theorem d51_36 : decode method_3_code 36 = .ok (.ifCond .eq 23, 3) := by decide +kernel
theorem d51_39 : decode method_3_code 39 = .ok (.iload_n 0, 1) := by decide +kernel
theorem d51_40 : decode method_3_code 40 = .ok (.iconst 1, 1) := by decide +kernel
theorem d51_41 : decode method_3_code 41 = .ok (.iand, 1) := by decide +kernel
theorem d51_42 : decode method_3_code 42 = .ok (.ifCond .ne 10, 3) := by decide +kernel
theorem d51_52 : decode method_3_code 52 = .ok (.ldc 32, 2) := by decide +kernel
theorem d51_54 : decode method_3_code 54 = .ok (.iload 8, 2) := by decide +kernel
theorem d51_56 : decode method_3_code 56 = .ok (.ior, 1) := by decide +kernel
theorem d51_57 : decode method_3_code 57 = .ok (.i2c, 1) := by decide +kernel
theorem d51_58 : decode method_3_code 58 = .ok (.ireturn, 1) := by decide +kernel
theorem d51_59 : decode method_3_code 59 = .ok (.iload 8, 2) := by decide +kernel
theorem d51_61 : decode method_3_code 61 = .ok (.i2c, 1) := by decide +kernel
theorem d51_62 : decode method_3_code 62 = .ok (.ireturn, 1) := by decide +kernel
theorem pn_51 : plainName "com/example/wrasse/wrasse/WordsToleratedEditsPinLaw" = true := by first | (simp [plainName, overriddenIn]; done) | decide +kernel
theorem ef_51 (m : MethodId) (x0 : Int32) (x1 : Int32) (x2 : Int64) (x3 : Int64) : entryFrame m #[(.int x0), (.int x1), (.long x2), (.long x3)] 9 = mkF m 0 #[.val (.int x0), .val (.int x1), .val (.long x2), .second, .val (.long x3), .second, .unset, .unset, .unset] [] := by first | (simp [entryFrame, mkF, argsToLocals, Value.category]; done) | rfl
def Q51 (Z : State) (sx : Int32) (jl : Int64) (jh : Int64) (h0 : Heap) (n0 : Nat) (v : Option Value) (h : Heap) (L : List Loc) : Prop := ∃ r : Int32, v = some (.int r) ∧ Ok sx 11 r ∧ Fr n0 L ∧ h = h0
set_option maxRecDepth 65536 in
set_option maxHeartbeats 40000000 in
theorem ch11 (l : Launch) (Z : State) (a0 : Array Value) (hw : ∀ d ∈ tables_1, d.before a0 Z = true) (ws : List Jvm.Cond) (sx : Int32) (jl : Int64) (jh : Int64) (h0 : Heap) (n0 : Nat) (Z0 : n0 ≤ h0.size) :
    MetFree l (⟨"com/example/wrasse/wrasse/WordsToleratedEditsPinLaw", "ch", "(IIJJ)C"⟩ : MethodName) (head1 (Jvm.Cond.code (⟨"com/example/wrasse/wrasse/WordsToleratedEditsPinLaw", "ch", "(IIJJ)C"⟩ : MethodName) method_3_code 9 (some .char) :: ws) ({ frames := 0, cells := 0, slots := 0, locals := 0 } : Room)) (fun a_ U => a_ = #[(.int (11 : Int32)), (.int sx), (.long jl), (.long jh)] ∧ Z.Warmed39 U.vm ∧ U.heap = h0) (fun _ _ _ _ _ => True) (fun _ U o U' => ∃ v L, o = .returned v ∧ Q51 Z sx jl jh h0 n0 v U'.heap L ∧ FrameEnd U o U' L (({ frames := 0, cells := 0, slots := 0, locals := 0 } : Room)).cells (({ frames := 0, cells := 0, slots := 0, locals := 0 } : Room)).slots) := by
  refine MetFree.of_bodySF (plainFor_of_name pn_51) hisR ?_
  intro p e s m args below meth c s₁ Bd hml0 hP0 hK
  obtain ⟨rfl, hZ, hh⟩ := hP0
  have hx := Bd.exec
  have hby := Bd.bytes
  have hml : c.maxLocals = 9 := hml0
  have hown : s.vm.findClass "com/example/wrasse/wrasse/WordsToleratedEditsPinLaw" = some m.cls := findClass_of_methodNamed Bd.named
  have hnm := (name_of_methodNamed Bd.named Bd.method).1
  have X0 : Stand p l e ({ frames := 0, cells := 0, slots := 0, locals := 0 } : Room) s m #[(.int (11 : Int32)), (.int sx), (.long jl), (.long jh)] below meth c s₁ [] 0 0 := Stand.of_body Bd
  have e0 : s₁.heap = h0 := by rw [← hh, Bd.state]; rfl
  have N0 := Fr.nil n0
  have hlk : meth.locks = false := BodyLoose.notSynchronized Bd
  refine Go.start (P₀ := fun s₂ o => ∃ v L, o = .returned v ∧ Q51 Z sx jl jh h0 n0 v s₂.heap L ∧ FrameEnd s o s₂ L (({ frames := 0, cells := 0, slots := 0, locals := 0 } : Room)).cells (({ frames := 0, cells := 0, slots := 0, locals := 0 } : Room)).slots) (congrArg s₁.setTop (ef_51 m (11 : Int32) sx jl jh)) ?_
  intro P hP
  show Go p.tables e below P (s₁.setTop (mkF m 0 #[.val (.int (11 : Int32)), .val (.int sx), .val (.long jl), .second, .val (.long jh), .second, .unset, .unset, .unset] []))
  refine Go.step (fun t k => XS.iloadN X0.here hx rfl (hb hby d51_0) rfl  k) ?_
  show Go p.tables e below P (s₁.setTop (mkF m 1 #[.val (.int (11 : Int32)), .val (.int sx), .val (.long jl), .second, .val (.long jh), .second, .unset, .unset, .unset] [(.int (11 : Int32))]))
  refine Go.step (fun t k => XS.bipush X0.here hx rfl (hb hby d51_1) k) ?_
  show Go p.tables e below P (s₁.setTop (mkF m 3 #[.val (.int (11 : Int32)), .val (.int sx), .val (.long jl), .second, .val (.long jh), .second, .unset, .unset, .unset] [(.int (8 : Int32)), (.int (11 : Int32))]))
  refine Go.step (fun t k => XS.icmpYes X0.here hx rfl (pc0 := 3) (pc' := 10) rfl (hb hby d51_3) rfl (icY (cd := .ge) (by decide : (8 : Int) ≤ (11 : Int))) (by decide) (by decide) k) ?_
  show Go p.tables e below P (s₁.setTop (mkF m 10 #[.val (.int (11 : Int32)), .val (.int sx), .val (.long jl), .second, .val (.long jh), .second, .unset, .unset, .unset] []))
  refine Go.step (fun t k => XS.lload X0.here hx rfl (hb hby d51_10) rfl  k) ?_
  show Go p.tables e below P (s₁.setTop (mkF m 12 #[.val (.int (11 : Int32)), .val (.int sx), .val (.long jl), .second, .val (.long jh), .second, .unset, .unset, .unset] [(.long jh)]))
  refine Go.step (fun t k => XS.lstore X0.here hx rfl (hb hby d51_12) rfl (l' := #[.val (.int (11 : Int32)), .val (.int sx), .val (.long jl), .second, .val (.long jh), .second, .val (.long jh), .second, .unset]) rfl k) ?_
  show Go p.tables e below P (s₁.setTop (mkF m 14 #[.val (.int (11 : Int32)), .val (.int sx), .val (.long jl), .second, .val (.long jh), .second, .val (.long jh), .second, .unset] []))
  refine Go.step (fun t k => XS.lload X0.here hx rfl (hb hby d51_14) rfl  k) ?_
  show Go p.tables e below P (s₁.setTop (mkF m 16 #[.val (.int (11 : Int32)), .val (.int sx), .val (.long jl), .second, .val (.long jh), .second, .val (.long jh), .second, .unset] [(.long jh)]))
  refine Go.step (fun t k => XS.bipush X0.here hx rfl (hb hby d51_16) k) ?_
  show Go p.tables e below P (s₁.setTop (mkF m 18 #[.val (.int (11 : Int32)), .val (.int sx), .val (.long jl), .second, .val (.long jh), .second, .val (.long jh), .second, .unset] [(.int (8 : Int32)), (.long jh)]))
  refine Go.step (fun t k => XS.iloadN X0.here hx rfl (hb hby d51_18) rfl  k) ?_
  show Go p.tables e below P (s₁.setTop (mkF m 19 #[.val (.int (11 : Int32)), .val (.int sx), .val (.long jl), .second, .val (.long jh), .second, .val (.long jh), .second, .unset] [(.int (11 : Int32)), (.int (8 : Int32)), (.long jh)]))
  refine Go.step (fun t k => XS.bipush X0.here hx rfl (hb hby d51_19) k) ?_
  show Go p.tables e below P (s₁.setTop (mkF m 21 #[.val (.int (11 : Int32)), .val (.int sx), .val (.long jl), .second, .val (.long jh), .second, .val (.long jh), .second, .unset] [(.int (7 : Int32)), (.int (11 : Int32)), (.int (8 : Int32)), (.long jh)]))
  obtain ⟨fl_1, hfl_1⟩ : ∃ z : Int32, (11 : Int32) &&& (7 : Int32) = z := ⟨_, rfl⟩
  refine Go.step (fun t k => iand_v X0.here hx rfl (hb hby d51_21) rfl  hfl_1 k) ?_
  show Go p.tables e below P (s₁.setTop (mkF m 22 #[.val (.int (11 : Int32)), .val (.int sx), .val (.long jl), .second, .val (.long jh), .second, .val (.long jh), .second, .unset] [(.int fl_1), (.int (8 : Int32)), (.long jh)]))
  have ez_fl_1 : fl_1 = (3 : Int32) := by rw [← hfl_1]; rfl
  subst ez_fl_1
  show Go p.tables e below P (s₁.setTop (mkF m 22 #[.val (.int (11 : Int32)), .val (.int sx), .val (.long jl), .second, .val (.long jh), .second, .val (.long jh), .second, .unset] [(.int (3 : Int32)), (.int (8 : Int32)), (.long jh)]))
  obtain ⟨fl_2, hfl_2⟩ : ∃ z : Int32, (8 : Int32) * (3 : Int32) = z := ⟨_, rfl⟩
  refine Go.step (fun t k => imul_v X0.here hx rfl (hb hby d51_22) rfl  hfl_2 k) ?_
  show Go p.tables e below P (s₁.setTop (mkF m 23 #[.val (.int (11 : Int32)), .val (.int sx), .val (.long jl), .second, .val (.long jh), .second, .val (.long jh), .second, .unset] [(.int fl_2), (.long jh)]))
  have ez_fl_2 : fl_2 = (24 : Int32) := by rw [← hfl_2]; rfl
  subst ez_fl_2
  show Go p.tables e below P (s₁.setTop (mkF m 23 #[.val (.int (11 : Int32)), .val (.int sx), .val (.long jl), .second, .val (.long jh), .second, .val (.long jh), .second, .unset] [(.int (24 : Int32)), (.long jh)]))
  obtain ⟨j23, hj23⟩ : ∃ z : Int64, ((jh.toUInt64 >>> ((24 : Int32) &&& 0x3f).toInt64.toUInt64).toInt64) = z := ⟨_, rfl⟩
  refine Go.step (fun t k => lushr_v X0.here hx rfl (hb hby d51_23) rfl  hj23 k) ?_
  show Go p.tables e below P (s₁.setTop (mkF m 24 #[.val (.int (11 : Int32)), .val (.int sx), .val (.long jl), .second, .val (.long jh), .second, .val (.long jh), .second, .unset] [(.long j23)]))
  refine Go.step (fun t k => X0.ldc2Long hx hown (mvT hZ (hw _ (List.mem_of_getElem? (i := 67) rfl))) (g := (mkF m 24 #[.val (.int (11 : Int32)), .val (.int sx), .val (.long jl), .second, .val (.long jh), .second, .val (.long jh), .second, .unset] [(.long j23)])) rfl (hb hby d51_24) t k) ?_
  show Go p.tables e below P (s₁.setTop (mkF m 27 #[.val (.int (11 : Int32)), .val (.int sx), .val (.long jl), .second, .val (.long jh), .second, .val (.long jh), .second, .unset] [(.long (255 : Int64)), (.long j23)]))
  obtain ⟨j27, hj27⟩ : ∃ z : Int64, j23 &&& (255 : Int64) = z := ⟨_, rfl⟩
  refine Go.step (fun t k => land_v X0.here hx rfl (hb hby d51_27) rfl  hj27 k) ?_
  show Go p.tables e below P (s₁.setTop (mkF m 28 #[.val (.int (11 : Int32)), .val (.int sx), .val (.long jl), .second, .val (.long jh), .second, .val (.long jh), .second, .unset] [(.long j27)]))
  obtain ⟨i28, hi28⟩ : ∃ z : Int32, j27.toInt32 = z := ⟨_, rfl⟩
  refine Go.step (fun t k => l2i_v X0.here hx rfl (hb hby d51_28) rfl hi28 k) ?_
  show Go p.tables e below P (s₁.setTop (mkF m 29 #[.val (.int (11 : Int32)), .val (.int sx), .val (.long jl), .second, .val (.long jh), .second, .val (.long jh), .second, .unset] [(.int i28)]))
  have f27 := c_maskL j23 (255 : Int64) 8 (by decide) rfl; rw [hj27] at f27
  have f28 := c_l2i j27; rw [hi28] at f28
  have g28 := rng32 i28
  have v28 : 0 ≤ i28.toInt ∧ i28.toInt ≤ 255 := by omega
  clear f27 f28
  refine Go.step (fun t k => XS.istore X0.here hx rfl (hb hby d51_29) rfl (l' := #[.val (.int (11 : Int32)), .val (.int sx), .val (.long jl), .second, .val (.long jh), .second, .val (.long jh), .second, .val (.int i28)]) rfl k) ?_
  show Go p.tables e below P (s₁.setTop (mkF m 31 #[.val (.int (11 : Int32)), .val (.int sx), .val (.long jl), .second, .val (.long jh), .second, .val (.long jh), .second, .val (.int i28)] []))
  refine Go.step (fun t k => XS.iloadN X0.here hx rfl (hb hby d51_31) rfl  k) ?_
  show Go p.tables e below P (s₁.setTop (mkF m 32 #[.val (.int (11 : Int32)), .val (.int sx), .val (.long jl), .second, .val (.long jh), .second, .val (.long jh), .second, .val (.int i28)] [(.int sx)]))
  refine Go.step (fun t k => XS.iloadN X0.here hx rfl (hb hby d51_32) rfl  k) ?_
  show Go p.tables e below P (s₁.setTop (mkF m 33 #[.val (.int (11 : Int32)), .val (.int sx), .val (.long jl), .second, .val (.long jh), .second, .val (.long jh), .second, .val (.int i28)] [(.int (11 : Int32)), (.int sx)]))
  obtain ⟨i33, hi33⟩ : ∃ z : Int32, ((sx.toUInt32 >>> ((11 : Int32) &&& 31).toUInt32).toInt32) = z := ⟨_, rfl⟩
  refine Go.step (fun t k => iushr_v X0.here hx rfl (hb hby d51_33) rfl  hi33 k) ?_
  show Go p.tables e below P (s₁.setTop (mkF m 34 #[.val (.int (11 : Int32)), .val (.int sx), .val (.long jl), .second, .val (.long jh), .second, .val (.long jh), .second, .val (.int i28)] [(.int i33)]))
  refine Go.step (fun t k => XS.iconst X0.here hx rfl (hb hby d51_34) k) ?_
  show Go p.tables e below P (s₁.setTop (mkF m 35 #[.val (.int (11 : Int32)), .val (.int sx), .val (.long jl), .second, .val (.long jh), .second, .val (.long jh), .second, .val (.int i28)] [(.int (1 : Int32)), (.int i33)]))
  obtain ⟨i35, hi35⟩ : ∃ z : Int32, i33 &&& (1 : Int32) = z := ⟨_, rfl⟩
  refine Go.step (fun t k => iand_v X0.here hx rfl (hb hby d51_35) rfl  hi35 k) ?_
  show Go p.tables e below P (s₁.setTop (mkF m 36 #[.val (.int (11 : Int32)), .val (.int sx), .val (.long jl), .second, .val (.long jh), .second, .val (.long jh), .second, .val (.int i28)] [(.int i35)]))
  have fz := c_iushr sx (11 : Int32) 11 rfl (by decide); rw [hi33] at fz
  have fm := c_mask i33 (1 : Int32) 1 (by decide) rfl; rw [hi35] at fm
  have hbit : i35.toInt = bit sx 11 := by unfold bit; omega
  have hb01 := bit01 sx 11
  clear fz fm
  by_cases hc36 : i35.toInt = 0
  · refine Go.step (fun t k => XS.ifYes X0.here hx rfl (pc0 := 36) (pc' := 59) rfl (hb hby d51_36) rfl (ifY (cd := .eq) hc36) (by decide) (by decide) k) ?_
    show Go p.tables e below P (s₁.setTop (mkF m 59 #[.val (.int (11 : Int32)), .val (.int sx), .val (.long jl), .second, .val (.long jh), .second, .val (.long jh), .second, .val (.int i28)] []))
    refine Go.step (fun t k => XS.iload X0.here hx rfl (hb hby d51_59) rfl  k) ?_
    show Go p.tables e below P (s₁.setTop (mkF m 61 #[.val (.int (11 : Int32)), .val (.int sx), .val (.long jl), .second, .val (.long jh), .second, .val (.long jh), .second, .val (.int i28)] [(.int i28)]))
    obtain ⟨i61, hi61⟩ : ∃ z : Int32, i28.toUInt32.toUInt16.toUInt32.toInt32 = z := ⟨_, rfl⟩
    refine Go.step (fun t k => i2c_v X0.here hx rfl (hb hby d51_61) rfl hi61 k) ?_
    show Go p.tables e below P (s₁.setTop (mkF m 62 #[.val (.int (11 : Int32)), .val (.int sx), .val (.long jl), .second, .val (.long jh), .second, .val (.long jh), .second, .val (.int i28)] [(.int i61)]))
    have f61 := c_i2c i28; rw [hi61] at f61
    exact retGo X0 hx hP Bd.returns hlk (nar_c (by omega)) (Or.inl ⟨rfl, Or.inr (Or.inr (Or.inr (Or.inl rfl))), _, rfl⟩) (hb hby d51_62) (by decide) (by decide) (by rw [e0]; exact ⟨i61, rfl, by unfold Ok; omega, N0, rfl⟩)
  · refine Go.step (fun t k => XS.ifNo X0.here hx rfl (hb hby d51_36) rfl (ifN (cd := .eq) hc36) k) ?_
    show Go p.tables e below P (s₁.setTop (mkF m 39 #[.val (.int (11 : Int32)), .val (.int sx), .val (.long jl), .second, .val (.long jh), .second, .val (.long jh), .second, .val (.int i28)] []))
    refine Go.step (fun t k => XS.iloadN X0.here hx rfl (hb hby d51_39) rfl  k) ?_
    show Go p.tables e below P (s₁.setTop (mkF m 40 #[.val (.int (11 : Int32)), .val (.int sx), .val (.long jl), .second, .val (.long jh), .second, .val (.long jh), .second, .val (.int i28)] [(.int (11 : Int32))]))
    refine Go.step (fun t k => XS.iconst X0.here hx rfl (hb hby d51_40) k) ?_
    show Go p.tables e below P (s₁.setTop (mkF m 41 #[.val (.int (11 : Int32)), .val (.int sx), .val (.long jl), .second, .val (.long jh), .second, .val (.long jh), .second, .val (.int i28)] [(.int (1 : Int32)), (.int (11 : Int32))]))
    obtain ⟨fl_3, hfl_3⟩ : ∃ z : Int32, (11 : Int32) &&& (1 : Int32) = z := ⟨_, rfl⟩
    refine Go.step (fun t k => iand_v X0.here hx rfl (hb hby d51_41) rfl  hfl_3 k) ?_
    show Go p.tables e below P (s₁.setTop (mkF m 42 #[.val (.int (11 : Int32)), .val (.int sx), .val (.long jl), .second, .val (.long jh), .second, .val (.long jh), .second, .val (.int i28)] [(.int fl_3)]))
    have ez_fl_3 : fl_3 = (1 : Int32) := by rw [← hfl_3]; rfl
    subst ez_fl_3
    show Go p.tables e below P (s₁.setTop (mkF m 42 #[.val (.int (11 : Int32)), .val (.int sx), .val (.long jl), .second, .val (.long jh), .second, .val (.long jh), .second, .val (.int i28)] [(.int (1 : Int32))]))
    refine Go.step (fun t k => XS.ifYes X0.here hx rfl (pc0 := 42) (pc' := 52) rfl (hb hby d51_42) rfl (ifY (cd := .ne) (by decide : ¬ (1 : Int) = 0)) (by decide) (by decide) k) ?_
    show Go p.tables e below P (s₁.setTop (mkF m 52 #[.val (.int (11 : Int32)), .val (.int sx), .val (.long jl), .second, .val (.long jh), .second, .val (.long jh), .second, .val (.int i28)] []))
    refine Go.step (fun t k => X0.ldcInt hx hown (mvT hZ (hw _ (List.mem_of_getElem? (i := 69) rfl))) (g := (mkF m 52 #[.val (.int (11 : Int32)), .val (.int sx), .val (.long jl), .second, .val (.long jh), .second, .val (.long jh), .second, .val (.int i28)] [])) rfl (hb hby d51_52) t k) ?_
    show Go p.tables e below P (s₁.setTop (mkF m 54 #[.val (.int (11 : Int32)), .val (.int sx), .val (.long jl), .second, .val (.long jh), .second, .val (.long jh), .second, .val (.int i28)] [(.int (56320 : Int32))]))
    refine Go.step (fun t k => XS.iload X0.here hx rfl (hb hby d51_54) rfl  k) ?_
    show Go p.tables e below P (s₁.setTop (mkF m 56 #[.val (.int (11 : Int32)), .val (.int sx), .val (.long jl), .second, .val (.long jh), .second, .val (.long jh), .second, .val (.int i28)] [(.int i28), (.int (56320 : Int32))]))
    obtain ⟨i56, hi56⟩ : ∃ z : Int32, (56320 : Int32) ||| i28 = z := ⟨_, rfl⟩
    refine Go.step (fun t k => ior_v X0.here hx rfl (hb hby d51_56) rfl  hi56 k) ?_
    show Go p.tables e below P (s₁.setTop (mkF m 57 #[.val (.int (11 : Int32)), .val (.int sx), .val (.long jl), .second, .val (.long jh), .second, .val (.long jh), .second, .val (.int i28)] [(.int i56)]))
    obtain ⟨i57, hi57⟩ : ∃ z : Int32, i56.toUInt32.toUInt16.toUInt32.toInt32 = z := ⟨_, rfl⟩
    refine Go.step (fun t k => i2c_v X0.here hx rfl (hb hby d51_57) rfl hi57 k) ?_
    show Go p.tables e below P (s₁.setTop (mkF m 58 #[.val (.int (11 : Int32)), .val (.int sx), .val (.long jl), .second, .val (.long jh), .second, .val (.long jh), .second, .val (.int i28)] [(.int i57)]))
    have e5 : (56320 : Int32).toInt = 56320 := rfl
    have fo := c_or (56320 : Int32) i28 8 (by decide) 256 rfl (by omega) (by omega) (by omega); rw [hi56, e5] at fo
    have go := rng32 i56
    have fc := c_i2c i56; rw [hi57] at fc
    exact retGo X0 hx hP Bd.returns hlk (nar_c (by omega)) (Or.inl ⟨rfl, Or.inr (Or.inr (Or.inr (Or.inl rfl))), _, rfl⟩) (hb hby d51_58) (by decide) (by decide) (by rw [e0]; exact ⟨i57, rfl, by unfold Ok; omega, N0, rfl⟩)
theorem d60_0 : decode method_4_code 0 = .ok (.iconst 2, 1) := by decide +kernel
theorem d60_1 : decode method_4_code 1 = .ok (.iload_n 0, 1) := by decide +kernel
theorem d60_2 : decode method_4_code 2 = .ok (.imul, 1) := by decide +kernel
theorem d60_3 : decode method_4_code 3 = .ok (.istore_n 3, 1) := by decide +kernel
theorem d60_4 : decode method_4_code 4 = .ok (.iload_n 3, 1) := by decide +kernel
theorem d60_5 : decode method_4_code 5 = .ok (.iconst 1, 1) := by decide +kernel
theorem d60_6 : decode method_4_code 6 = .ok (.iadd, 1) := by decide +kernel
theorem d60_7 : decode method_4_code 7 = .ok (.iload_n 1, 1) := by decide +kernel
theorem d60_8 : decode method_4_code 8 = .ok (.if_icmp .ge 23, 3) := by decide +kernel
theorem d60_11 : decode method_4_code 11 = .ok (.iload_n 2, 1) := by decide +kernel
theorem d60_12 : decode method_4_code 12 = .ok (.iload_n 3, 1) := by decide +kernel
theorem d60_13 : decode method_4_code 13 = .ok (.iushr, 1) := by decide +kernel
theorem d60_14 : decode method_4_code 14 = .ok (.iconst 1, 1) := by decide +kernel
theorem d60_15 : decode method_4_code 15 = .ok (.iand, 1) := by decide +kernel
theorem d60_16 : decode method_4_code 16 = .ok (.ifCond .eq 15, 3) := by decide +kernel
theorem d60_19 : decode method_4_code 19 = .ok (.iload_n 2, 1) := by decide +kernel
theorem d60_20 : decode method_4_code 20 = .ok (.iload_n 3, 1) := by decide +kernel
theorem d60_21 : decode method_4_code 21 = .ok (.iconst 1, 1) := by decide +kernel
theorem d60_22 : decode method_4_code 22 = .ok (.iadd, 1) := by decide +kernel
theorem d60_23 : decode method_4_code 23 = .ok (.iushr, 1) := by decide +kernel
theorem d60_24 : decode method_4_code 24 = .ok (.iconst 1, 1) := by decide +kernel
theorem d60_25 : decode method_4_code 25 = .ok (.iand, 1) := by decide +kernel
theorem d60_26 : decode method_4_code 26 = .ok (.ifCond .eq 5, 3) := by decide +kernel
theorem d60_29 : decode method_4_code 29 = .ok (.iconst 1, 1) := by decide +kernel
theorem d60_30 : decode method_4_code 30 = .ok (.ireturn, 1) := by decide +kernel
theorem d60_31 : decode method_4_code 31 = .ok (.iconst 0, 1) := by decide +kernel
theorem d60_32 : decode method_4_code 32 = .ok (.ireturn, 1) := by decide +kernel
theorem pn_60 : plainName "com/example/wrasse/wrasse/WordsToleratedEditsPinLaw" = true := by first | (simp [plainName, overriddenIn]; done) | decide +kernel
theorem ef_60 (m : MethodId) (x0 : Int32) (x1 : Int32) (x2 : Int32) : entryFrame m #[(.int x0), (.int x1), (.int x2)] 4 = mkF m 0 #[.val (.int x0), .val (.int x1), .val (.int x2), .unset] [] := by first | (simp [entryFrame, mkF, argsToLocals, Value.category]; done) | rfl
def Q60 (Z : State) (zn : Int32) (sx : Int32) (nn : Nat) (h0 : Heap) (n0 : Nat) (v : Option Value) (h : Heap) (L : List Loc) : Prop := ∃ r : Int32, v = some (.int r) ∧ r.toInt = pj sx nn 0 ∧ Fr n0 L ∧ h = h0
set_option maxRecDepth 65536 in
set_option maxHeartbeats 40000000 in
theorem pair0 (l : Launch) (Z : State) (a0 : Array Value) (hw : ∀ d ∈ tables_1, d.before a0 Z = true) (ws : List Jvm.Cond) (zn : Int32) (sx : Int32) (nn : Nat) (h0 : Heap) (n0 : Nat) (Z0 : n0 ≤ h0.size) (hz : zn.toInt = (nn : Int)) :
    MetFree l (⟨"com/example/wrasse/wrasse/WordsToleratedEditsPinLaw", "pair", "(III)I"⟩ : MethodName) (head1 (Jvm.Cond.code (⟨"com/example/wrasse/wrasse/WordsToleratedEditsPinLaw", "pair", "(III)I"⟩ : MethodName) method_4_code 4 (some .int) :: ws) ({ frames := 0, cells := 0, slots := 0, locals := 0 } : Room)) (fun a_ U => a_ = #[(.int (0 : Int32)), (.int zn), (.int sx)] ∧ Z.Warmed39 U.vm ∧ U.heap = h0) (fun _ _ _ _ _ => True) (fun _ U o U' => ∃ v L, o = .returned v ∧ Q60 Z zn sx nn h0 n0 v U'.heap L ∧ FrameEnd U o U' L (({ frames := 0, cells := 0, slots := 0, locals := 0 } : Room)).cells (({ frames := 0, cells := 0, slots := 0, locals := 0 } : Room)).slots) := by
  refine MetFree.of_bodySF (plainFor_of_name pn_60) hisR ?_
  intro p e s m args below meth c s₁ Bd hml0 hP0 hK
  obtain ⟨rfl, hZ, hh⟩ := hP0
  have hx := Bd.exec
  have hby := Bd.bytes
  have hml : c.maxLocals = 4 := hml0
  have hown : s.vm.findClass "com/example/wrasse/wrasse/WordsToleratedEditsPinLaw" = some m.cls := findClass_of_methodNamed Bd.named
  have hnm := (name_of_methodNamed Bd.named Bd.method).1
  have X0 : Stand p l e ({ frames := 0, cells := 0, slots := 0, locals := 0 } : Room) s m #[(.int (0 : Int32)), (.int zn), (.int sx)] below meth c s₁ [] 0 0 := Stand.of_body Bd
  have e0 : s₁.heap = h0 := by rw [← hh, Bd.state]; rfl
  have N0 := Fr.nil n0
  have hlk : meth.locks = false := BodyLoose.notSynchronized Bd
  refine Go.start (P₀ := fun s₂ o => ∃ v L, o = .returned v ∧ Q60 Z zn sx nn h0 n0 v s₂.heap L ∧ FrameEnd s o s₂ L (({ frames := 0, cells := 0, slots := 0, locals := 0 } : Room)).cells (({ frames := 0, cells := 0, slots := 0, locals := 0 } : Room)).slots) (congrArg s₁.setTop (ef_60 m (0 : Int32) zn sx)) ?_
  intro P hP
  show Go p.tables e below P (s₁.setTop (mkF m 0 #[.val (.int (0 : Int32)), .val (.int zn), .val (.int sx), .unset] []))
  refine Go.step (fun t k => XS.iconst X0.here hx rfl (hb hby d60_0) k) ?_
  show Go p.tables e below P (s₁.setTop (mkF m 1 #[.val (.int (0 : Int32)), .val (.int zn), .val (.int sx), .unset] [(.int (2 : Int32))]))
  refine Go.step (fun t k => XS.iloadN X0.here hx rfl (hb hby d60_1) rfl  k) ?_
  show Go p.tables e below P (s₁.setTop (mkF m 2 #[.val (.int (0 : Int32)), .val (.int zn), .val (.int sx), .unset] [(.int (0 : Int32)), (.int (2 : Int32))]))
  obtain ⟨fl_1, hfl_1⟩ : ∃ z : Int32, (2 : Int32) * (0 : Int32) = z := ⟨_, rfl⟩
  refine Go.step (fun t k => imul_v X0.here hx rfl (hb hby d60_2) rfl  hfl_1 k) ?_
  show Go p.tables e below P (s₁.setTop (mkF m 3 #[.val (.int (0 : Int32)), .val (.int zn), .val (.int sx), .unset] [(.int fl_1)]))
  have ez_fl_1 : fl_1 = (0 : Int32) := by rw [← hfl_1]; rfl
  subst ez_fl_1
  show Go p.tables e below P (s₁.setTop (mkF m 3 #[.val (.int (0 : Int32)), .val (.int zn), .val (.int sx), .unset] [(.int (0 : Int32))]))
  refine Go.step (fun t k => XS.istoreN X0.here hx rfl (hb hby d60_3) rfl (l' := #[.val (.int (0 : Int32)), .val (.int zn), .val (.int sx), .val (.int (0 : Int32))]) rfl k) ?_
  show Go p.tables e below P (s₁.setTop (mkF m 4 #[.val (.int (0 : Int32)), .val (.int zn), .val (.int sx), .val (.int (0 : Int32))] []))
  refine Go.step (fun t k => XS.iloadN X0.here hx rfl (hb hby d60_4) rfl  k) ?_
  show Go p.tables e below P (s₁.setTop (mkF m 5 #[.val (.int (0 : Int32)), .val (.int zn), .val (.int sx), .val (.int (0 : Int32))] [(.int (0 : Int32))]))
  refine Go.step (fun t k => XS.iconst X0.here hx rfl (hb hby d60_5) k) ?_
  show Go p.tables e below P (s₁.setTop (mkF m 6 #[.val (.int (0 : Int32)), .val (.int zn), .val (.int sx), .val (.int (0 : Int32))] [(.int (1 : Int32)), (.int (0 : Int32))]))
  obtain ⟨fl_2, hfl_2⟩ : ∃ z : Int32, (0 : Int32) + (1 : Int32) = z := ⟨_, rfl⟩
  refine Go.step (fun t k => iadd_v X0.here hx rfl (hb hby d60_6) rfl  hfl_2 k) ?_
  show Go p.tables e below P (s₁.setTop (mkF m 7 #[.val (.int (0 : Int32)), .val (.int zn), .val (.int sx), .val (.int (0 : Int32))] [(.int fl_2)]))
  have ez_fl_2 : fl_2 = (1 : Int32) := by rw [← hfl_2]; rfl
  subst ez_fl_2
  show Go p.tables e below P (s₁.setTop (mkF m 7 #[.val (.int (0 : Int32)), .val (.int zn), .val (.int sx), .val (.int (0 : Int32))] [(.int (1 : Int32))]))
  refine Go.step (fun t k => XS.iloadN X0.here hx rfl (hb hby d60_7) rfl  k) ?_
  show Go p.tables e below P (s₁.setTop (mkF m 8 #[.val (.int (0 : Int32)), .val (.int zn), .val (.int sx), .val (.int (0 : Int32))] [(.int zn), (.int (1 : Int32))]))
  by_cases hc8 : zn.toInt ≤ (1 : Int)
  · refine Go.step (fun t k => XS.icmpYes X0.here hx rfl (pc0 := 8) (pc' := 31) rfl (hb hby d60_8) rfl (icY (cd := .ge) hc8) (by decide) (by decide) k) ?_
    show Go p.tables e below P (s₁.setTop (mkF m 31 #[.val (.int (0 : Int32)), .val (.int zn), .val (.int sx), .val (.int (0 : Int32))] []))
    refine Go.step (fun t k => XS.iconst X0.here hx rfl (hb hby d60_31) k) ?_
    show Go p.tables e below P (s₁.setTop (mkF m 32 #[.val (.int (0 : Int32)), .val (.int zn), .val (.int sx), .val (.int (0 : Int32))] [(.int (0 : Int32))]))
    exact retGo X0 hx hP Bd.returns hlk rfl (Or.inl ⟨rfl, Or.inl rfl, _, rfl⟩) (hb hby d60_32) (by decide) (by decide) (by rw [e0]; exact ⟨0, rfl, by have e1 : (1 : Int32).toInt = 1 := rfl; have e0 : (0 : Int32).toInt = 0 := rfl; unfold pj pr; (repeat' split) <;> omega, N0, rfl⟩)
  · refine Go.step (fun t k => XS.icmpNo X0.here hx rfl (hb hby d60_8) rfl (icN (cd := .ge) hc8) k) ?_
    show Go p.tables e below P (s₁.setTop (mkF m 11 #[.val (.int (0 : Int32)), .val (.int zn), .val (.int sx), .val (.int (0 : Int32))] []))
    refine Go.step (fun t k => XS.iloadN X0.here hx rfl (hb hby d60_11) rfl  k) ?_
    show Go p.tables e below P (s₁.setTop (mkF m 12 #[.val (.int (0 : Int32)), .val (.int zn), .val (.int sx), .val (.int (0 : Int32))] [(.int sx)]))
    refine Go.step (fun t k => XS.iloadN X0.here hx rfl (hb hby d60_12) rfl  k) ?_
    show Go p.tables e below P (s₁.setTop (mkF m 13 #[.val (.int (0 : Int32)), .val (.int zn), .val (.int sx), .val (.int (0 : Int32))] [(.int (0 : Int32)), (.int sx)]))
    obtain ⟨i13, hi13⟩ : ∃ z : Int32, ((sx.toUInt32 >>> ((0 : Int32) &&& 31).toUInt32).toInt32) = z := ⟨_, rfl⟩
    refine Go.step (fun t k => iushr_v X0.here hx rfl (hb hby d60_13) rfl  hi13 k) ?_
    show Go p.tables e below P (s₁.setTop (mkF m 14 #[.val (.int (0 : Int32)), .val (.int zn), .val (.int sx), .val (.int (0 : Int32))] [(.int i13)]))
    refine Go.step (fun t k => XS.iconst X0.here hx rfl (hb hby d60_14) k) ?_
    show Go p.tables e below P (s₁.setTop (mkF m 15 #[.val (.int (0 : Int32)), .val (.int zn), .val (.int sx), .val (.int (0 : Int32))] [(.int (1 : Int32)), (.int i13)]))
    obtain ⟨i15, hi15⟩ : ∃ z : Int32, i13 &&& (1 : Int32) = z := ⟨_, rfl⟩
    refine Go.step (fun t k => iand_v X0.here hx rfl (hb hby d60_15) rfl  hi15 k) ?_
    show Go p.tables e below P (s₁.setTop (mkF m 16 #[.val (.int (0 : Int32)), .val (.int zn), .val (.int sx), .val (.int (0 : Int32))] [(.int i15)]))
    have fz := ushr0 sx; rw [hi13] at fz
    have fm := c_mask i13 (1 : Int32) 1 (by decide) rfl; rw [hi15] at fm
    have hbit : i15.toInt = bit sx 0 := by unfold bit; omega
    have hb01 := bit01 sx 0
    clear fz fm
    have hbit4 : i15.toInt = bit sx (2 * 0) := hbit
    have hb014 : bit sx (2 * 0) = 0 ∨ bit sx (2 * 0) = 1 := hb01
    by_cases hc16 : i15.toInt = 0
    · refine Go.step (fun t k => XS.ifYes X0.here hx rfl (pc0 := 16) (pc' := 31) rfl (hb hby d60_16) rfl (ifY (cd := .eq) hc16) (by decide) (by decide) k) ?_
      show Go p.tables e below P (s₁.setTop (mkF m 31 #[.val (.int (0 : Int32)), .val (.int zn), .val (.int sx), .val (.int (0 : Int32))] []))
      refine Go.step (fun t k => XS.iconst X0.here hx rfl (hb hby d60_31) k) ?_
      show Go p.tables e below P (s₁.setTop (mkF m 32 #[.val (.int (0 : Int32)), .val (.int zn), .val (.int sx), .val (.int (0 : Int32))] [(.int (0 : Int32))]))
      exact retGo X0 hx hP Bd.returns hlk rfl (Or.inl ⟨rfl, Or.inl rfl, _, rfl⟩) (hb hby d60_32) (by decide) (by decide) (by rw [e0]; exact ⟨0, rfl, by have e1 : (1 : Int32).toInt = 1 := rfl; have e0 : (0 : Int32).toInt = 0 := rfl; unfold pj pr; (repeat' split) <;> omega, N0, rfl⟩)
    · refine Go.step (fun t k => XS.ifNo X0.here hx rfl (hb hby d60_16) rfl (ifN (cd := .eq) hc16) k) ?_
      show Go p.tables e below P (s₁.setTop (mkF m 19 #[.val (.int (0 : Int32)), .val (.int zn), .val (.int sx), .val (.int (0 : Int32))] []))
      refine Go.step (fun t k => XS.iloadN X0.here hx rfl (hb hby d60_19) rfl  k) ?_
      show Go p.tables e below P (s₁.setTop (mkF m 20 #[.val (.int (0 : Int32)), .val (.int zn), .val (.int sx), .val (.int (0 : Int32))] [(.int sx)]))
      refine Go.step (fun t k => XS.iloadN X0.here hx rfl (hb hby d60_20) rfl  k) ?_
      show Go p.tables e below P (s₁.setTop (mkF m 21 #[.val (.int (0 : Int32)), .val (.int zn), .val (.int sx), .val (.int (0 : Int32))] [(.int (0 : Int32)), (.int sx)]))
      refine Go.step (fun t k => XS.iconst X0.here hx rfl (hb hby d60_21) k) ?_
      show Go p.tables e below P (s₁.setTop (mkF m 22 #[.val (.int (0 : Int32)), .val (.int zn), .val (.int sx), .val (.int (0 : Int32))] [(.int (1 : Int32)), (.int (0 : Int32)), (.int sx)]))
      obtain ⟨fl_3, hfl_3⟩ : ∃ z : Int32, (0 : Int32) + (1 : Int32) = z := ⟨_, rfl⟩
      refine Go.step (fun t k => iadd_v X0.here hx rfl (hb hby d60_22) rfl  hfl_3 k) ?_
      show Go p.tables e below P (s₁.setTop (mkF m 23 #[.val (.int (0 : Int32)), .val (.int zn), .val (.int sx), .val (.int (0 : Int32))] [(.int fl_3), (.int sx)]))
      have ez_fl_3 : fl_3 = (1 : Int32) := by rw [← hfl_3]; rfl
      subst ez_fl_3
      show Go p.tables e below P (s₁.setTop (mkF m 23 #[.val (.int (0 : Int32)), .val (.int zn), .val (.int sx), .val (.int (0 : Int32))] [(.int (1 : Int32)), (.int sx)]))
      obtain ⟨i23, hi23⟩ : ∃ z : Int32, ((sx.toUInt32 >>> ((1 : Int32) &&& 31).toUInt32).toInt32) = z := ⟨_, rfl⟩
      refine Go.step (fun t k => iushr_v X0.here hx rfl (hb hby d60_23) rfl  hi23 k) ?_
      show Go p.tables e below P (s₁.setTop (mkF m 24 #[.val (.int (0 : Int32)), .val (.int zn), .val (.int sx), .val (.int (0 : Int32))] [(.int i23)]))
      refine Go.step (fun t k => XS.iconst X0.here hx rfl (hb hby d60_24) k) ?_
      show Go p.tables e below P (s₁.setTop (mkF m 25 #[.val (.int (0 : Int32)), .val (.int zn), .val (.int sx), .val (.int (0 : Int32))] [(.int (1 : Int32)), (.int i23)]))
      obtain ⟨i25, hi25⟩ : ∃ z : Int32, i23 &&& (1 : Int32) = z := ⟨_, rfl⟩
      refine Go.step (fun t k => iand_v X0.here hx rfl (hb hby d60_25) rfl  hi25 k) ?_
      show Go p.tables e below P (s₁.setTop (mkF m 26 #[.val (.int (0 : Int32)), .val (.int zn), .val (.int sx), .val (.int (0 : Int32))] [(.int i25)]))
      have fz := c_iushr sx (1 : Int32) 1 rfl (by decide); rw [hi23] at fz
      have fm := c_mask i23 (1 : Int32) 1 (by decide) rfl; rw [hi25] at fm
      have hbit2 : i25.toInt = bit sx 1 := by unfold bit; omega
      have hb012 := bit01 sx 1
      clear fz fm
      have hbit3 : i25.toInt = bit sx (2 * 0 + 1) := hbit2
      have hb013 : bit sx (2 * 0 + 1) = 0 ∨ bit sx (2 * 0 + 1) = 1 := hb012
      by_cases hc26 : i25.toInt = 0
      · refine Go.step (fun t k => XS.ifYes X0.here hx rfl (pc0 := 26) (pc' := 31) rfl (hb hby d60_26) rfl (ifY (cd := .eq) hc26) (by decide) (by decide) k) ?_
        show Go p.tables e below P (s₁.setTop (mkF m 31 #[.val (.int (0 : Int32)), .val (.int zn), .val (.int sx), .val (.int (0 : Int32))] []))
        refine Go.step (fun t k => XS.iconst X0.here hx rfl (hb hby d60_31) k) ?_
        show Go p.tables e below P (s₁.setTop (mkF m 32 #[.val (.int (0 : Int32)), .val (.int zn), .val (.int sx), .val (.int (0 : Int32))] [(.int (0 : Int32))]))
        exact retGo X0 hx hP Bd.returns hlk rfl (Or.inl ⟨rfl, Or.inl rfl, _, rfl⟩) (hb hby d60_32) (by decide) (by decide) (by rw [e0]; exact ⟨0, rfl, by have e1 : (1 : Int32).toInt = 1 := rfl; have e0 : (0 : Int32).toInt = 0 := rfl; unfold pj pr; (repeat' split) <;> omega, N0, rfl⟩)
      · refine Go.step (fun t k => XS.ifNo X0.here hx rfl (hb hby d60_26) rfl (ifN (cd := .eq) hc26) k) ?_
        show Go p.tables e below P (s₁.setTop (mkF m 29 #[.val (.int (0 : Int32)), .val (.int zn), .val (.int sx), .val (.int (0 : Int32))] []))
        refine Go.step (fun t k => XS.iconst X0.here hx rfl (hb hby d60_29) k) ?_
        show Go p.tables e below P (s₁.setTop (mkF m 30 #[.val (.int (0 : Int32)), .val (.int zn), .val (.int sx), .val (.int (0 : Int32))] [(.int (1 : Int32))]))
        exact retGo X0 hx hP Bd.returns hlk rfl (Or.inl ⟨rfl, Or.inl rfl, _, rfl⟩) (hb hby d60_30) (by decide) (by decide) (by rw [e0]; exact ⟨1, rfl, by have e1 : (1 : Int32).toInt = 1 := rfl; have e0 : (0 : Int32).toInt = 0 := rfl; unfold pj pr; (repeat' split) <;> omega, N0, rfl⟩)
theorem d61_0 : decode method_4_code 0 = .ok (.iconst 2, 1) := by decide +kernel
theorem d61_1 : decode method_4_code 1 = .ok (.iload_n 0, 1) := by decide +kernel
theorem d61_2 : decode method_4_code 2 = .ok (.imul, 1) := by decide +kernel
theorem d61_3 : decode method_4_code 3 = .ok (.istore_n 3, 1) := by decide +kernel
theorem d61_4 : decode method_4_code 4 = .ok (.iload_n 3, 1) := by decide +kernel
theorem d61_5 : decode method_4_code 5 = .ok (.iconst 1, 1) := by decide +kernel
theorem d61_6 : decode method_4_code 6 = .ok (.iadd, 1) := by decide +kernel
theorem d61_7 : decode method_4_code 7 = .ok (.iload_n 1, 1) := by decide +kernel
theorem d61_8 : decode method_4_code 8 = .ok (.if_icmp .ge 23, 3) := by decide +kernel
theorem d61_11 : decode method_4_code 11 = .ok (.iload_n 2, 1) := by decide +kernel
theorem d61_12 : decode method_4_code 12 = .ok (.iload_n 3, 1) := by decide +kernel
theorem d61_13 : decode method_4_code 13 = .ok (.iushr, 1) := by decide +kernel
theorem d61_14 : decode method_4_code 14 = .ok (.iconst 1, 1) := by decide +kernel
theorem d61_15 : decode method_4_code 15 = .ok (.iand, 1) := by decide +kernel
theorem d61_16 : decode method_4_code 16 = .ok (.ifCond .eq 15, 3) := by decide +kernel
theorem d61_19 : decode method_4_code 19 = .ok (.iload_n 2, 1) := by decide +kernel
theorem d61_20 : decode method_4_code 20 = .ok (.iload_n 3, 1) := by decide +kernel
theorem d61_21 : decode method_4_code 21 = .ok (.iconst 1, 1) := by decide +kernel
theorem d61_22 : decode method_4_code 22 = .ok (.iadd, 1) := by decide +kernel
theorem d61_23 : decode method_4_code 23 = .ok (.iushr, 1) := by decide +kernel
theorem d61_24 : decode method_4_code 24 = .ok (.iconst 1, 1) := by decide +kernel
theorem d61_25 : decode method_4_code 25 = .ok (.iand, 1) := by decide +kernel
theorem d61_26 : decode method_4_code 26 = .ok (.ifCond .eq 5, 3) := by decide +kernel
theorem d61_29 : decode method_4_code 29 = .ok (.iconst 1, 1) := by decide +kernel
theorem d61_30 : decode method_4_code 30 = .ok (.ireturn, 1) := by decide +kernel
theorem d61_31 : decode method_4_code 31 = .ok (.iconst 0, 1) := by decide +kernel
theorem d61_32 : decode method_4_code 32 = .ok (.ireturn, 1) := by decide +kernel
theorem pn_61 : plainName "com/example/wrasse/wrasse/WordsToleratedEditsPinLaw" = true := by first | (simp [plainName, overriddenIn]; done) | decide +kernel
theorem ef_61 (m : MethodId) (x0 : Int32) (x1 : Int32) (x2 : Int32) : entryFrame m #[(.int x0), (.int x1), (.int x2)] 4 = mkF m 0 #[.val (.int x0), .val (.int x1), .val (.int x2), .unset] [] := by first | (simp [entryFrame, mkF, argsToLocals, Value.category]; done) | rfl
def Q61 (Z : State) (zn : Int32) (sx : Int32) (nn : Nat) (h0 : Heap) (n0 : Nat) (v : Option Value) (h : Heap) (L : List Loc) : Prop := ∃ r : Int32, v = some (.int r) ∧ r.toInt = pj sx nn 1 ∧ Fr n0 L ∧ h = h0
set_option maxRecDepth 65536 in
set_option maxHeartbeats 40000000 in
theorem pair1 (l : Launch) (Z : State) (a0 : Array Value) (hw : ∀ d ∈ tables_1, d.before a0 Z = true) (ws : List Jvm.Cond) (zn : Int32) (sx : Int32) (nn : Nat) (h0 : Heap) (n0 : Nat) (Z0 : n0 ≤ h0.size) (hz : zn.toInt = (nn : Int)) :
    MetFree l (⟨"com/example/wrasse/wrasse/WordsToleratedEditsPinLaw", "pair", "(III)I"⟩ : MethodName) (head1 (Jvm.Cond.code (⟨"com/example/wrasse/wrasse/WordsToleratedEditsPinLaw", "pair", "(III)I"⟩ : MethodName) method_4_code 4 (some .int) :: ws) ({ frames := 0, cells := 0, slots := 0, locals := 0 } : Room)) (fun a_ U => a_ = #[(.int (1 : Int32)), (.int zn), (.int sx)] ∧ Z.Warmed39 U.vm ∧ U.heap = h0) (fun _ _ _ _ _ => True) (fun _ U o U' => ∃ v L, o = .returned v ∧ Q61 Z zn sx nn h0 n0 v U'.heap L ∧ FrameEnd U o U' L (({ frames := 0, cells := 0, slots := 0, locals := 0 } : Room)).cells (({ frames := 0, cells := 0, slots := 0, locals := 0 } : Room)).slots) := by
  refine MetFree.of_bodySF (plainFor_of_name pn_61) hisR ?_
  intro p e s m args below meth c s₁ Bd hml0 hP0 hK
  obtain ⟨rfl, hZ, hh⟩ := hP0
  have hx := Bd.exec
  have hby := Bd.bytes
  have hml : c.maxLocals = 4 := hml0
  have hown : s.vm.findClass "com/example/wrasse/wrasse/WordsToleratedEditsPinLaw" = some m.cls := findClass_of_methodNamed Bd.named
  have hnm := (name_of_methodNamed Bd.named Bd.method).1
  have X0 : Stand p l e ({ frames := 0, cells := 0, slots := 0, locals := 0 } : Room) s m #[(.int (1 : Int32)), (.int zn), (.int sx)] below meth c s₁ [] 0 0 := Stand.of_body Bd
  have e0 : s₁.heap = h0 := by rw [← hh, Bd.state]; rfl
  have N0 := Fr.nil n0
  have hlk : meth.locks = false := BodyLoose.notSynchronized Bd
  refine Go.start (P₀ := fun s₂ o => ∃ v L, o = .returned v ∧ Q61 Z zn sx nn h0 n0 v s₂.heap L ∧ FrameEnd s o s₂ L (({ frames := 0, cells := 0, slots := 0, locals := 0 } : Room)).cells (({ frames := 0, cells := 0, slots := 0, locals := 0 } : Room)).slots) (congrArg s₁.setTop (ef_61 m (1 : Int32) zn sx)) ?_
  intro P hP
  show Go p.tables e below P (s₁.setTop (mkF m 0 #[.val (.int (1 : Int32)), .val (.int zn), .val (.int sx), .unset] []))
  refine Go.step (fun t k => XS.iconst X0.here hx rfl (hb hby d61_0) k) ?_
  show Go p.tables e below P (s₁.setTop (mkF m 1 #[.val (.int (1 : Int32)), .val (.int zn), .val (.int sx), .unset] [(.int (2 : Int32))]))
  refine Go.step (fun t k => XS.iloadN X0.here hx rfl (hb hby d61_1) rfl  k) ?_
  show Go p.tables e below P (s₁.setTop (mkF m 2 #[.val (.int (1 : Int32)), .val (.int zn), .val (.int sx), .unset] [(.int (1 : Int32)), (.int (2 : Int32))]))
  obtain ⟨fl_1, hfl_1⟩ : ∃ z : Int32, (2 : Int32) * (1 : Int32) = z := ⟨_, rfl⟩
  refine Go.step (fun t k => imul_v X0.here hx rfl (hb hby d61_2) rfl  hfl_1 k) ?_
  show Go p.tables e below P (s₁.setTop (mkF m 3 #[.val (.int (1 : Int32)), .val (.int zn), .val (.int sx), .unset] [(.int fl_1)]))
  have ez_fl_1 : fl_1 = (2 : Int32) := by rw [← hfl_1]; rfl
  subst ez_fl_1
  show Go p.tables e below P (s₁.setTop (mkF m 3 #[.val (.int (1 : Int32)), .val (.int zn), .val (.int sx), .unset] [(.int (2 : Int32))]))
  refine Go.step (fun t k => XS.istoreN X0.here hx rfl (hb hby d61_3) rfl (l' := #[.val (.int (1 : Int32)), .val (.int zn), .val (.int sx), .val (.int (2 : Int32))]) rfl k) ?_
  show Go p.tables e below P (s₁.setTop (mkF m 4 #[.val (.int (1 : Int32)), .val (.int zn), .val (.int sx), .val (.int (2 : Int32))] []))
  refine Go.step (fun t k => XS.iloadN X0.here hx rfl (hb hby d61_4) rfl  k) ?_
  show Go p.tables e below P (s₁.setTop (mkF m 5 #[.val (.int (1 : Int32)), .val (.int zn), .val (.int sx), .val (.int (2 : Int32))] [(.int (2 : Int32))]))
  refine Go.step (fun t k => XS.iconst X0.here hx rfl (hb hby d61_5) k) ?_
  show Go p.tables e below P (s₁.setTop (mkF m 6 #[.val (.int (1 : Int32)), .val (.int zn), .val (.int sx), .val (.int (2 : Int32))] [(.int (1 : Int32)), (.int (2 : Int32))]))
  obtain ⟨fl_2, hfl_2⟩ : ∃ z : Int32, (2 : Int32) + (1 : Int32) = z := ⟨_, rfl⟩
  refine Go.step (fun t k => iadd_v X0.here hx rfl (hb hby d61_6) rfl  hfl_2 k) ?_
  show Go p.tables e below P (s₁.setTop (mkF m 7 #[.val (.int (1 : Int32)), .val (.int zn), .val (.int sx), .val (.int (2 : Int32))] [(.int fl_2)]))
  have ez_fl_2 : fl_2 = (3 : Int32) := by rw [← hfl_2]; rfl
  subst ez_fl_2
  show Go p.tables e below P (s₁.setTop (mkF m 7 #[.val (.int (1 : Int32)), .val (.int zn), .val (.int sx), .val (.int (2 : Int32))] [(.int (3 : Int32))]))
  refine Go.step (fun t k => XS.iloadN X0.here hx rfl (hb hby d61_7) rfl  k) ?_
  show Go p.tables e below P (s₁.setTop (mkF m 8 #[.val (.int (1 : Int32)), .val (.int zn), .val (.int sx), .val (.int (2 : Int32))] [(.int zn), (.int (3 : Int32))]))
  by_cases hc8 : zn.toInt ≤ (3 : Int)
  · refine Go.step (fun t k => XS.icmpYes X0.here hx rfl (pc0 := 8) (pc' := 31) rfl (hb hby d61_8) rfl (icY (cd := .ge) hc8) (by decide) (by decide) k) ?_
    show Go p.tables e below P (s₁.setTop (mkF m 31 #[.val (.int (1 : Int32)), .val (.int zn), .val (.int sx), .val (.int (2 : Int32))] []))
    refine Go.step (fun t k => XS.iconst X0.here hx rfl (hb hby d61_31) k) ?_
    show Go p.tables e below P (s₁.setTop (mkF m 32 #[.val (.int (1 : Int32)), .val (.int zn), .val (.int sx), .val (.int (2 : Int32))] [(.int (0 : Int32))]))
    exact retGo X0 hx hP Bd.returns hlk rfl (Or.inl ⟨rfl, Or.inl rfl, _, rfl⟩) (hb hby d61_32) (by decide) (by decide) (by rw [e0]; exact ⟨0, rfl, by have e1 : (1 : Int32).toInt = 1 := rfl; have e0 : (0 : Int32).toInt = 0 := rfl; unfold pj pr; (repeat' split) <;> omega, N0, rfl⟩)
  · refine Go.step (fun t k => XS.icmpNo X0.here hx rfl (hb hby d61_8) rfl (icN (cd := .ge) hc8) k) ?_
    show Go p.tables e below P (s₁.setTop (mkF m 11 #[.val (.int (1 : Int32)), .val (.int zn), .val (.int sx), .val (.int (2 : Int32))] []))
    refine Go.step (fun t k => XS.iloadN X0.here hx rfl (hb hby d61_11) rfl  k) ?_
    show Go p.tables e below P (s₁.setTop (mkF m 12 #[.val (.int (1 : Int32)), .val (.int zn), .val (.int sx), .val (.int (2 : Int32))] [(.int sx)]))
    refine Go.step (fun t k => XS.iloadN X0.here hx rfl (hb hby d61_12) rfl  k) ?_
    show Go p.tables e below P (s₁.setTop (mkF m 13 #[.val (.int (1 : Int32)), .val (.int zn), .val (.int sx), .val (.int (2 : Int32))] [(.int (2 : Int32)), (.int sx)]))
    obtain ⟨i13, hi13⟩ : ∃ z : Int32, ((sx.toUInt32 >>> ((2 : Int32) &&& 31).toUInt32).toInt32) = z := ⟨_, rfl⟩
    refine Go.step (fun t k => iushr_v X0.here hx rfl (hb hby d61_13) rfl  hi13 k) ?_
    show Go p.tables e below P (s₁.setTop (mkF m 14 #[.val (.int (1 : Int32)), .val (.int zn), .val (.int sx), .val (.int (2 : Int32))] [(.int i13)]))
    refine Go.step (fun t k => XS.iconst X0.here hx rfl (hb hby d61_14) k) ?_
    show Go p.tables e below P (s₁.setTop (mkF m 15 #[.val (.int (1 : Int32)), .val (.int zn), .val (.int sx), .val (.int (2 : Int32))] [(.int (1 : Int32)), (.int i13)]))
    obtain ⟨i15, hi15⟩ : ∃ z : Int32, i13 &&& (1 : Int32) = z := ⟨_, rfl⟩
    refine Go.step (fun t k => iand_v X0.here hx rfl (hb hby d61_15) rfl  hi15 k) ?_
    show Go p.tables e below P (s₁.setTop (mkF m 16 #[.val (.int (1 : Int32)), .val (.int zn), .val (.int sx), .val (.int (2 : Int32))] [(.int i15)]))
    have fz := c_iushr sx (2 : Int32) 2 rfl (by decide); rw [hi13] at fz
    have fm := c_mask i13 (1 : Int32) 1 (by decide) rfl; rw [hi15] at fm
    have hbit : i15.toInt = bit sx 2 := by unfold bit; omega
    have hb01 := bit01 sx 2
    clear fz fm
    have hbit4 : i15.toInt = bit sx (2 * 1) := hbit
    have hb014 : bit sx (2 * 1) = 0 ∨ bit sx (2 * 1) = 1 := hb01
    by_cases hc16 : i15.toInt = 0
    · refine Go.step (fun t k => XS.ifYes X0.here hx rfl (pc0 := 16) (pc' := 31) rfl (hb hby d61_16) rfl (ifY (cd := .eq) hc16) (by decide) (by decide) k) ?_
      show Go p.tables e below P (s₁.setTop (mkF m 31 #[.val (.int (1 : Int32)), .val (.int zn), .val (.int sx), .val (.int (2 : Int32))] []))
      refine Go.step (fun t k => XS.iconst X0.here hx rfl (hb hby d61_31) k) ?_
      show Go p.tables e below P (s₁.setTop (mkF m 32 #[.val (.int (1 : Int32)), .val (.int zn), .val (.int sx), .val (.int (2 : Int32))] [(.int (0 : Int32))]))
      exact retGo X0 hx hP Bd.returns hlk rfl (Or.inl ⟨rfl, Or.inl rfl, _, rfl⟩) (hb hby d61_32) (by decide) (by decide) (by rw [e0]; exact ⟨0, rfl, by have e1 : (1 : Int32).toInt = 1 := rfl; have e0 : (0 : Int32).toInt = 0 := rfl; unfold pj pr; (repeat' split) <;> omega, N0, rfl⟩)
    · refine Go.step (fun t k => XS.ifNo X0.here hx rfl (hb hby d61_16) rfl (ifN (cd := .eq) hc16) k) ?_
      show Go p.tables e below P (s₁.setTop (mkF m 19 #[.val (.int (1 : Int32)), .val (.int zn), .val (.int sx), .val (.int (2 : Int32))] []))
      refine Go.step (fun t k => XS.iloadN X0.here hx rfl (hb hby d61_19) rfl  k) ?_
      show Go p.tables e below P (s₁.setTop (mkF m 20 #[.val (.int (1 : Int32)), .val (.int zn), .val (.int sx), .val (.int (2 : Int32))] [(.int sx)]))
      refine Go.step (fun t k => XS.iloadN X0.here hx rfl (hb hby d61_20) rfl  k) ?_
      show Go p.tables e below P (s₁.setTop (mkF m 21 #[.val (.int (1 : Int32)), .val (.int zn), .val (.int sx), .val (.int (2 : Int32))] [(.int (2 : Int32)), (.int sx)]))
      refine Go.step (fun t k => XS.iconst X0.here hx rfl (hb hby d61_21) k) ?_
      show Go p.tables e below P (s₁.setTop (mkF m 22 #[.val (.int (1 : Int32)), .val (.int zn), .val (.int sx), .val (.int (2 : Int32))] [(.int (1 : Int32)), (.int (2 : Int32)), (.int sx)]))
      obtain ⟨fl_3, hfl_3⟩ : ∃ z : Int32, (2 : Int32) + (1 : Int32) = z := ⟨_, rfl⟩
      refine Go.step (fun t k => iadd_v X0.here hx rfl (hb hby d61_22) rfl  hfl_3 k) ?_
      show Go p.tables e below P (s₁.setTop (mkF m 23 #[.val (.int (1 : Int32)), .val (.int zn), .val (.int sx), .val (.int (2 : Int32))] [(.int fl_3), (.int sx)]))
      have ez_fl_3 : fl_3 = (3 : Int32) := by rw [← hfl_3]; rfl
      subst ez_fl_3
      show Go p.tables e below P (s₁.setTop (mkF m 23 #[.val (.int (1 : Int32)), .val (.int zn), .val (.int sx), .val (.int (2 : Int32))] [(.int (3 : Int32)), (.int sx)]))
      obtain ⟨i23, hi23⟩ : ∃ z : Int32, ((sx.toUInt32 >>> ((3 : Int32) &&& 31).toUInt32).toInt32) = z := ⟨_, rfl⟩
      refine Go.step (fun t k => iushr_v X0.here hx rfl (hb hby d61_23) rfl  hi23 k) ?_
      show Go p.tables e below P (s₁.setTop (mkF m 24 #[.val (.int (1 : Int32)), .val (.int zn), .val (.int sx), .val (.int (2 : Int32))] [(.int i23)]))
      refine Go.step (fun t k => XS.iconst X0.here hx rfl (hb hby d61_24) k) ?_
      show Go p.tables e below P (s₁.setTop (mkF m 25 #[.val (.int (1 : Int32)), .val (.int zn), .val (.int sx), .val (.int (2 : Int32))] [(.int (1 : Int32)), (.int i23)]))
      obtain ⟨i25, hi25⟩ : ∃ z : Int32, i23 &&& (1 : Int32) = z := ⟨_, rfl⟩
      refine Go.step (fun t k => iand_v X0.here hx rfl (hb hby d61_25) rfl  hi25 k) ?_
      show Go p.tables e below P (s₁.setTop (mkF m 26 #[.val (.int (1 : Int32)), .val (.int zn), .val (.int sx), .val (.int (2 : Int32))] [(.int i25)]))
      have fz := c_iushr sx (3 : Int32) 3 rfl (by decide); rw [hi23] at fz
      have fm := c_mask i23 (1 : Int32) 1 (by decide) rfl; rw [hi25] at fm
      have hbit2 : i25.toInt = bit sx 3 := by unfold bit; omega
      have hb012 := bit01 sx 3
      clear fz fm
      have hbit3 : i25.toInt = bit sx (2 * 1 + 1) := hbit2
      have hb013 : bit sx (2 * 1 + 1) = 0 ∨ bit sx (2 * 1 + 1) = 1 := hb012
      by_cases hc26 : i25.toInt = 0
      · refine Go.step (fun t k => XS.ifYes X0.here hx rfl (pc0 := 26) (pc' := 31) rfl (hb hby d61_26) rfl (ifY (cd := .eq) hc26) (by decide) (by decide) k) ?_
        show Go p.tables e below P (s₁.setTop (mkF m 31 #[.val (.int (1 : Int32)), .val (.int zn), .val (.int sx), .val (.int (2 : Int32))] []))
        refine Go.step (fun t k => XS.iconst X0.here hx rfl (hb hby d61_31) k) ?_
        show Go p.tables e below P (s₁.setTop (mkF m 32 #[.val (.int (1 : Int32)), .val (.int zn), .val (.int sx), .val (.int (2 : Int32))] [(.int (0 : Int32))]))
        exact retGo X0 hx hP Bd.returns hlk rfl (Or.inl ⟨rfl, Or.inl rfl, _, rfl⟩) (hb hby d61_32) (by decide) (by decide) (by rw [e0]; exact ⟨0, rfl, by have e1 : (1 : Int32).toInt = 1 := rfl; have e0 : (0 : Int32).toInt = 0 := rfl; unfold pj pr; (repeat' split) <;> omega, N0, rfl⟩)
      · refine Go.step (fun t k => XS.ifNo X0.here hx rfl (hb hby d61_26) rfl (ifN (cd := .eq) hc26) k) ?_
        show Go p.tables e below P (s₁.setTop (mkF m 29 #[.val (.int (1 : Int32)), .val (.int zn), .val (.int sx), .val (.int (2 : Int32))] []))
        refine Go.step (fun t k => XS.iconst X0.here hx rfl (hb hby d61_29) k) ?_
        show Go p.tables e below P (s₁.setTop (mkF m 30 #[.val (.int (1 : Int32)), .val (.int zn), .val (.int sx), .val (.int (2 : Int32))] [(.int (1 : Int32))]))
        exact retGo X0 hx hP Bd.returns hlk rfl (Or.inl ⟨rfl, Or.inl rfl, _, rfl⟩) (hb hby d61_30) (by decide) (by decide) (by rw [e0]; exact ⟨1, rfl, by have e1 : (1 : Int32).toInt = 1 := rfl; have e0 : (0 : Int32).toInt = 0 := rfl; unfold pj pr; (repeat' split) <;> omega, N0, rfl⟩)
theorem d62_0 : decode method_4_code 0 = .ok (.iconst 2, 1) := by decide +kernel
theorem d62_1 : decode method_4_code 1 = .ok (.iload_n 0, 1) := by decide +kernel
theorem d62_2 : decode method_4_code 2 = .ok (.imul, 1) := by decide +kernel
theorem d62_3 : decode method_4_code 3 = .ok (.istore_n 3, 1) := by decide +kernel
theorem d62_4 : decode method_4_code 4 = .ok (.iload_n 3, 1) := by decide +kernel
theorem d62_5 : decode method_4_code 5 = .ok (.iconst 1, 1) := by decide +kernel
theorem d62_6 : decode method_4_code 6 = .ok (.iadd, 1) := by decide +kernel
theorem d62_7 : decode method_4_code 7 = .ok (.iload_n 1, 1) := by decide +kernel
theorem d62_8 : decode method_4_code 8 = .ok (.if_icmp .ge 23, 3) := by decide +kernel
theorem d62_11 : decode method_4_code 11 = .ok (.iload_n 2, 1) := by decide +kernel
theorem d62_12 : decode method_4_code 12 = .ok (.iload_n 3, 1) := by decide +kernel
theorem d62_13 : decode method_4_code 13 = .ok (.iushr, 1) := by decide +kernel
theorem d62_14 : decode method_4_code 14 = .ok (.iconst 1, 1) := by decide +kernel
theorem d62_15 : decode method_4_code 15 = .ok (.iand, 1) := by decide +kernel
theorem d62_16 : decode method_4_code 16 = .ok (.ifCond .eq 15, 3) := by decide +kernel
theorem d62_19 : decode method_4_code 19 = .ok (.iload_n 2, 1) := by decide +kernel
theorem d62_20 : decode method_4_code 20 = .ok (.iload_n 3, 1) := by decide +kernel
theorem d62_21 : decode method_4_code 21 = .ok (.iconst 1, 1) := by decide +kernel
theorem d62_22 : decode method_4_code 22 = .ok (.iadd, 1) := by decide +kernel
theorem d62_23 : decode method_4_code 23 = .ok (.iushr, 1) := by decide +kernel
theorem d62_24 : decode method_4_code 24 = .ok (.iconst 1, 1) := by decide +kernel
theorem d62_25 : decode method_4_code 25 = .ok (.iand, 1) := by decide +kernel
theorem d62_26 : decode method_4_code 26 = .ok (.ifCond .eq 5, 3) := by decide +kernel
theorem d62_29 : decode method_4_code 29 = .ok (.iconst 1, 1) := by decide +kernel
theorem d62_30 : decode method_4_code 30 = .ok (.ireturn, 1) := by decide +kernel
theorem d62_31 : decode method_4_code 31 = .ok (.iconst 0, 1) := by decide +kernel
theorem d62_32 : decode method_4_code 32 = .ok (.ireturn, 1) := by decide +kernel
theorem pn_62 : plainName "com/example/wrasse/wrasse/WordsToleratedEditsPinLaw" = true := by first | (simp [plainName, overriddenIn]; done) | decide +kernel
theorem ef_62 (m : MethodId) (x0 : Int32) (x1 : Int32) (x2 : Int32) : entryFrame m #[(.int x0), (.int x1), (.int x2)] 4 = mkF m 0 #[.val (.int x0), .val (.int x1), .val (.int x2), .unset] [] := by first | (simp [entryFrame, mkF, argsToLocals, Value.category]; done) | rfl
def Q62 (Z : State) (zn : Int32) (sx : Int32) (nn : Nat) (h0 : Heap) (n0 : Nat) (v : Option Value) (h : Heap) (L : List Loc) : Prop := ∃ r : Int32, v = some (.int r) ∧ r.toInt = pj sx nn 2 ∧ Fr n0 L ∧ h = h0
set_option maxRecDepth 65536 in
set_option maxHeartbeats 40000000 in
theorem pair2 (l : Launch) (Z : State) (a0 : Array Value) (hw : ∀ d ∈ tables_1, d.before a0 Z = true) (ws : List Jvm.Cond) (zn : Int32) (sx : Int32) (nn : Nat) (h0 : Heap) (n0 : Nat) (Z0 : n0 ≤ h0.size) (hz : zn.toInt = (nn : Int)) :
    MetFree l (⟨"com/example/wrasse/wrasse/WordsToleratedEditsPinLaw", "pair", "(III)I"⟩ : MethodName) (head1 (Jvm.Cond.code (⟨"com/example/wrasse/wrasse/WordsToleratedEditsPinLaw", "pair", "(III)I"⟩ : MethodName) method_4_code 4 (some .int) :: ws) ({ frames := 0, cells := 0, slots := 0, locals := 0 } : Room)) (fun a_ U => a_ = #[(.int (2 : Int32)), (.int zn), (.int sx)] ∧ Z.Warmed39 U.vm ∧ U.heap = h0) (fun _ _ _ _ _ => True) (fun _ U o U' => ∃ v L, o = .returned v ∧ Q62 Z zn sx nn h0 n0 v U'.heap L ∧ FrameEnd U o U' L (({ frames := 0, cells := 0, slots := 0, locals := 0 } : Room)).cells (({ frames := 0, cells := 0, slots := 0, locals := 0 } : Room)).slots) := by
  refine MetFree.of_bodySF (plainFor_of_name pn_62) hisR ?_
  intro p e s m args below meth c s₁ Bd hml0 hP0 hK
  obtain ⟨rfl, hZ, hh⟩ := hP0
  have hx := Bd.exec
  have hby := Bd.bytes
  have hml : c.maxLocals = 4 := hml0
  have hown : s.vm.findClass "com/example/wrasse/wrasse/WordsToleratedEditsPinLaw" = some m.cls := findClass_of_methodNamed Bd.named
  have hnm := (name_of_methodNamed Bd.named Bd.method).1
  have X0 : Stand p l e ({ frames := 0, cells := 0, slots := 0, locals := 0 } : Room) s m #[(.int (2 : Int32)), (.int zn), (.int sx)] below meth c s₁ [] 0 0 := Stand.of_body Bd
  have e0 : s₁.heap = h0 := by rw [← hh, Bd.state]; rfl
  have N0 := Fr.nil n0
  have hlk : meth.locks = false := BodyLoose.notSynchronized Bd
  refine Go.start (P₀ := fun s₂ o => ∃ v L, o = .returned v ∧ Q62 Z zn sx nn h0 n0 v s₂.heap L ∧ FrameEnd s o s₂ L (({ frames := 0, cells := 0, slots := 0, locals := 0 } : Room)).cells (({ frames := 0, cells := 0, slots := 0, locals := 0 } : Room)).slots) (congrArg s₁.setTop (ef_62 m (2 : Int32) zn sx)) ?_
  intro P hP
  show Go p.tables e below P (s₁.setTop (mkF m 0 #[.val (.int (2 : Int32)), .val (.int zn), .val (.int sx), .unset] []))
  refine Go.step (fun t k => XS.iconst X0.here hx rfl (hb hby d62_0) k) ?_
  show Go p.tables e below P (s₁.setTop (mkF m 1 #[.val (.int (2 : Int32)), .val (.int zn), .val (.int sx), .unset] [(.int (2 : Int32))]))
  refine Go.step (fun t k => XS.iloadN X0.here hx rfl (hb hby d62_1) rfl  k) ?_
  show Go p.tables e below P (s₁.setTop (mkF m 2 #[.val (.int (2 : Int32)), .val (.int zn), .val (.int sx), .unset] [(.int (2 : Int32)), (.int (2 : Int32))]))
  obtain ⟨fl_1, hfl_1⟩ : ∃ z : Int32, (2 : Int32) * (2 : Int32) = z := ⟨_, rfl⟩
  refine Go.step (fun t k => imul_v X0.here hx rfl (hb hby d62_2) rfl  hfl_1 k) ?_
  show Go p.tables e below P (s₁.setTop (mkF m 3 #[.val (.int (2 : Int32)), .val (.int zn), .val (.int sx), .unset] [(.int fl_1)]))
  have ez_fl_1 : fl_1 = (4 : Int32) := by rw [← hfl_1]; rfl
  subst ez_fl_1
  show Go p.tables e below P (s₁.setTop (mkF m 3 #[.val (.int (2 : Int32)), .val (.int zn), .val (.int sx), .unset] [(.int (4 : Int32))]))
  refine Go.step (fun t k => XS.istoreN X0.here hx rfl (hb hby d62_3) rfl (l' := #[.val (.int (2 : Int32)), .val (.int zn), .val (.int sx), .val (.int (4 : Int32))]) rfl k) ?_
  show Go p.tables e below P (s₁.setTop (mkF m 4 #[.val (.int (2 : Int32)), .val (.int zn), .val (.int sx), .val (.int (4 : Int32))] []))
  refine Go.step (fun t k => XS.iloadN X0.here hx rfl (hb hby d62_4) rfl  k) ?_
  show Go p.tables e below P (s₁.setTop (mkF m 5 #[.val (.int (2 : Int32)), .val (.int zn), .val (.int sx), .val (.int (4 : Int32))] [(.int (4 : Int32))]))
  refine Go.step (fun t k => XS.iconst X0.here hx rfl (hb hby d62_5) k) ?_
  show Go p.tables e below P (s₁.setTop (mkF m 6 #[.val (.int (2 : Int32)), .val (.int zn), .val (.int sx), .val (.int (4 : Int32))] [(.int (1 : Int32)), (.int (4 : Int32))]))
  obtain ⟨fl_2, hfl_2⟩ : ∃ z : Int32, (4 : Int32) + (1 : Int32) = z := ⟨_, rfl⟩
  refine Go.step (fun t k => iadd_v X0.here hx rfl (hb hby d62_6) rfl  hfl_2 k) ?_
  show Go p.tables e below P (s₁.setTop (mkF m 7 #[.val (.int (2 : Int32)), .val (.int zn), .val (.int sx), .val (.int (4 : Int32))] [(.int fl_2)]))
  have ez_fl_2 : fl_2 = (5 : Int32) := by rw [← hfl_2]; rfl
  subst ez_fl_2
  show Go p.tables e below P (s₁.setTop (mkF m 7 #[.val (.int (2 : Int32)), .val (.int zn), .val (.int sx), .val (.int (4 : Int32))] [(.int (5 : Int32))]))
  refine Go.step (fun t k => XS.iloadN X0.here hx rfl (hb hby d62_7) rfl  k) ?_
  show Go p.tables e below P (s₁.setTop (mkF m 8 #[.val (.int (2 : Int32)), .val (.int zn), .val (.int sx), .val (.int (4 : Int32))] [(.int zn), (.int (5 : Int32))]))
  by_cases hc8 : zn.toInt ≤ (5 : Int)
  · refine Go.step (fun t k => XS.icmpYes X0.here hx rfl (pc0 := 8) (pc' := 31) rfl (hb hby d62_8) rfl (icY (cd := .ge) hc8) (by decide) (by decide) k) ?_
    show Go p.tables e below P (s₁.setTop (mkF m 31 #[.val (.int (2 : Int32)), .val (.int zn), .val (.int sx), .val (.int (4 : Int32))] []))
    refine Go.step (fun t k => XS.iconst X0.here hx rfl (hb hby d62_31) k) ?_
    show Go p.tables e below P (s₁.setTop (mkF m 32 #[.val (.int (2 : Int32)), .val (.int zn), .val (.int sx), .val (.int (4 : Int32))] [(.int (0 : Int32))]))
    exact retGo X0 hx hP Bd.returns hlk rfl (Or.inl ⟨rfl, Or.inl rfl, _, rfl⟩) (hb hby d62_32) (by decide) (by decide) (by rw [e0]; exact ⟨0, rfl, by have e1 : (1 : Int32).toInt = 1 := rfl; have e0 : (0 : Int32).toInt = 0 := rfl; unfold pj pr; (repeat' split) <;> omega, N0, rfl⟩)
  · refine Go.step (fun t k => XS.icmpNo X0.here hx rfl (hb hby d62_8) rfl (icN (cd := .ge) hc8) k) ?_
    show Go p.tables e below P (s₁.setTop (mkF m 11 #[.val (.int (2 : Int32)), .val (.int zn), .val (.int sx), .val (.int (4 : Int32))] []))
    refine Go.step (fun t k => XS.iloadN X0.here hx rfl (hb hby d62_11) rfl  k) ?_
    show Go p.tables e below P (s₁.setTop (mkF m 12 #[.val (.int (2 : Int32)), .val (.int zn), .val (.int sx), .val (.int (4 : Int32))] [(.int sx)]))
    refine Go.step (fun t k => XS.iloadN X0.here hx rfl (hb hby d62_12) rfl  k) ?_
    show Go p.tables e below P (s₁.setTop (mkF m 13 #[.val (.int (2 : Int32)), .val (.int zn), .val (.int sx), .val (.int (4 : Int32))] [(.int (4 : Int32)), (.int sx)]))
    obtain ⟨i13, hi13⟩ : ∃ z : Int32, ((sx.toUInt32 >>> ((4 : Int32) &&& 31).toUInt32).toInt32) = z := ⟨_, rfl⟩
    refine Go.step (fun t k => iushr_v X0.here hx rfl (hb hby d62_13) rfl  hi13 k) ?_
    show Go p.tables e below P (s₁.setTop (mkF m 14 #[.val (.int (2 : Int32)), .val (.int zn), .val (.int sx), .val (.int (4 : Int32))] [(.int i13)]))
    refine Go.step (fun t k => XS.iconst X0.here hx rfl (hb hby d62_14) k) ?_
    show Go p.tables e below P (s₁.setTop (mkF m 15 #[.val (.int (2 : Int32)), .val (.int zn), .val (.int sx), .val (.int (4 : Int32))] [(.int (1 : Int32)), (.int i13)]))
    obtain ⟨i15, hi15⟩ : ∃ z : Int32, i13 &&& (1 : Int32) = z := ⟨_, rfl⟩
    refine Go.step (fun t k => iand_v X0.here hx rfl (hb hby d62_15) rfl  hi15 k) ?_
    show Go p.tables e below P (s₁.setTop (mkF m 16 #[.val (.int (2 : Int32)), .val (.int zn), .val (.int sx), .val (.int (4 : Int32))] [(.int i15)]))
    have fz := c_iushr sx (4 : Int32) 4 rfl (by decide); rw [hi13] at fz
    have fm := c_mask i13 (1 : Int32) 1 (by decide) rfl; rw [hi15] at fm
    have hbit : i15.toInt = bit sx 4 := by unfold bit; omega
    have hb01 := bit01 sx 4
    clear fz fm
    have hbit4 : i15.toInt = bit sx (2 * 2) := hbit
    have hb014 : bit sx (2 * 2) = 0 ∨ bit sx (2 * 2) = 1 := hb01
    by_cases hc16 : i15.toInt = 0
    · refine Go.step (fun t k => XS.ifYes X0.here hx rfl (pc0 := 16) (pc' := 31) rfl (hb hby d62_16) rfl (ifY (cd := .eq) hc16) (by decide) (by decide) k) ?_
      show Go p.tables e below P (s₁.setTop (mkF m 31 #[.val (.int (2 : Int32)), .val (.int zn), .val (.int sx), .val (.int (4 : Int32))] []))
      refine Go.step (fun t k => XS.iconst X0.here hx rfl (hb hby d62_31) k) ?_
      show Go p.tables e below P (s₁.setTop (mkF m 32 #[.val (.int (2 : Int32)), .val (.int zn), .val (.int sx), .val (.int (4 : Int32))] [(.int (0 : Int32))]))
      exact retGo X0 hx hP Bd.returns hlk rfl (Or.inl ⟨rfl, Or.inl rfl, _, rfl⟩) (hb hby d62_32) (by decide) (by decide) (by rw [e0]; exact ⟨0, rfl, by have e1 : (1 : Int32).toInt = 1 := rfl; have e0 : (0 : Int32).toInt = 0 := rfl; unfold pj pr; (repeat' split) <;> omega, N0, rfl⟩)
    · refine Go.step (fun t k => XS.ifNo X0.here hx rfl (hb hby d62_16) rfl (ifN (cd := .eq) hc16) k) ?_
      show Go p.tables e below P (s₁.setTop (mkF m 19 #[.val (.int (2 : Int32)), .val (.int zn), .val (.int sx), .val (.int (4 : Int32))] []))
      refine Go.step (fun t k => XS.iloadN X0.here hx rfl (hb hby d62_19) rfl  k) ?_
      show Go p.tables e below P (s₁.setTop (mkF m 20 #[.val (.int (2 : Int32)), .val (.int zn), .val (.int sx), .val (.int (4 : Int32))] [(.int sx)]))
      refine Go.step (fun t k => XS.iloadN X0.here hx rfl (hb hby d62_20) rfl  k) ?_
      show Go p.tables e below P (s₁.setTop (mkF m 21 #[.val (.int (2 : Int32)), .val (.int zn), .val (.int sx), .val (.int (4 : Int32))] [(.int (4 : Int32)), (.int sx)]))
      refine Go.step (fun t k => XS.iconst X0.here hx rfl (hb hby d62_21) k) ?_
      show Go p.tables e below P (s₁.setTop (mkF m 22 #[.val (.int (2 : Int32)), .val (.int zn), .val (.int sx), .val (.int (4 : Int32))] [(.int (1 : Int32)), (.int (4 : Int32)), (.int sx)]))
      obtain ⟨fl_3, hfl_3⟩ : ∃ z : Int32, (4 : Int32) + (1 : Int32) = z := ⟨_, rfl⟩
      refine Go.step (fun t k => iadd_v X0.here hx rfl (hb hby d62_22) rfl  hfl_3 k) ?_
      show Go p.tables e below P (s₁.setTop (mkF m 23 #[.val (.int (2 : Int32)), .val (.int zn), .val (.int sx), .val (.int (4 : Int32))] [(.int fl_3), (.int sx)]))
      have ez_fl_3 : fl_3 = (5 : Int32) := by rw [← hfl_3]; rfl
      subst ez_fl_3
      show Go p.tables e below P (s₁.setTop (mkF m 23 #[.val (.int (2 : Int32)), .val (.int zn), .val (.int sx), .val (.int (4 : Int32))] [(.int (5 : Int32)), (.int sx)]))
      obtain ⟨i23, hi23⟩ : ∃ z : Int32, ((sx.toUInt32 >>> ((5 : Int32) &&& 31).toUInt32).toInt32) = z := ⟨_, rfl⟩
      refine Go.step (fun t k => iushr_v X0.here hx rfl (hb hby d62_23) rfl  hi23 k) ?_
      show Go p.tables e below P (s₁.setTop (mkF m 24 #[.val (.int (2 : Int32)), .val (.int zn), .val (.int sx), .val (.int (4 : Int32))] [(.int i23)]))
      refine Go.step (fun t k => XS.iconst X0.here hx rfl (hb hby d62_24) k) ?_
      show Go p.tables e below P (s₁.setTop (mkF m 25 #[.val (.int (2 : Int32)), .val (.int zn), .val (.int sx), .val (.int (4 : Int32))] [(.int (1 : Int32)), (.int i23)]))
      obtain ⟨i25, hi25⟩ : ∃ z : Int32, i23 &&& (1 : Int32) = z := ⟨_, rfl⟩
      refine Go.step (fun t k => iand_v X0.here hx rfl (hb hby d62_25) rfl  hi25 k) ?_
      show Go p.tables e below P (s₁.setTop (mkF m 26 #[.val (.int (2 : Int32)), .val (.int zn), .val (.int sx), .val (.int (4 : Int32))] [(.int i25)]))
      have fz := c_iushr sx (5 : Int32) 5 rfl (by decide); rw [hi23] at fz
      have fm := c_mask i23 (1 : Int32) 1 (by decide) rfl; rw [hi25] at fm
      have hbit2 : i25.toInt = bit sx 5 := by unfold bit; omega
      have hb012 := bit01 sx 5
      clear fz fm
      have hbit3 : i25.toInt = bit sx (2 * 2 + 1) := hbit2
      have hb013 : bit sx (2 * 2 + 1) = 0 ∨ bit sx (2 * 2 + 1) = 1 := hb012
      by_cases hc26 : i25.toInt = 0
      · refine Go.step (fun t k => XS.ifYes X0.here hx rfl (pc0 := 26) (pc' := 31) rfl (hb hby d62_26) rfl (ifY (cd := .eq) hc26) (by decide) (by decide) k) ?_
        show Go p.tables e below P (s₁.setTop (mkF m 31 #[.val (.int (2 : Int32)), .val (.int zn), .val (.int sx), .val (.int (4 : Int32))] []))
        refine Go.step (fun t k => XS.iconst X0.here hx rfl (hb hby d62_31) k) ?_
        show Go p.tables e below P (s₁.setTop (mkF m 32 #[.val (.int (2 : Int32)), .val (.int zn), .val (.int sx), .val (.int (4 : Int32))] [(.int (0 : Int32))]))
        exact retGo X0 hx hP Bd.returns hlk rfl (Or.inl ⟨rfl, Or.inl rfl, _, rfl⟩) (hb hby d62_32) (by decide) (by decide) (by rw [e0]; exact ⟨0, rfl, by have e1 : (1 : Int32).toInt = 1 := rfl; have e0 : (0 : Int32).toInt = 0 := rfl; unfold pj pr; (repeat' split) <;> omega, N0, rfl⟩)
      · refine Go.step (fun t k => XS.ifNo X0.here hx rfl (hb hby d62_26) rfl (ifN (cd := .eq) hc26) k) ?_
        show Go p.tables e below P (s₁.setTop (mkF m 29 #[.val (.int (2 : Int32)), .val (.int zn), .val (.int sx), .val (.int (4 : Int32))] []))
        refine Go.step (fun t k => XS.iconst X0.here hx rfl (hb hby d62_29) k) ?_
        show Go p.tables e below P (s₁.setTop (mkF m 30 #[.val (.int (2 : Int32)), .val (.int zn), .val (.int sx), .val (.int (4 : Int32))] [(.int (1 : Int32))]))
        exact retGo X0 hx hP Bd.returns hlk rfl (Or.inl ⟨rfl, Or.inl rfl, _, rfl⟩) (hb hby d62_30) (by decide) (by decide) (by rw [e0]; exact ⟨1, rfl, by have e1 : (1 : Int32).toInt = 1 := rfl; have e0 : (0 : Int32).toInt = 0 := rfl; unfold pj pr; (repeat' split) <;> omega, N0, rfl⟩)
theorem d63_0 : decode method_4_code 0 = .ok (.iconst 2, 1) := by decide +kernel
theorem d63_1 : decode method_4_code 1 = .ok (.iload_n 0, 1) := by decide +kernel
theorem d63_2 : decode method_4_code 2 = .ok (.imul, 1) := by decide +kernel
theorem d63_3 : decode method_4_code 3 = .ok (.istore_n 3, 1) := by decide +kernel
theorem d63_4 : decode method_4_code 4 = .ok (.iload_n 3, 1) := by decide +kernel
theorem d63_5 : decode method_4_code 5 = .ok (.iconst 1, 1) := by decide +kernel
theorem d63_6 : decode method_4_code 6 = .ok (.iadd, 1) := by decide +kernel
theorem d63_7 : decode method_4_code 7 = .ok (.iload_n 1, 1) := by decide +kernel
theorem d63_8 : decode method_4_code 8 = .ok (.if_icmp .ge 23, 3) := by decide +kernel
theorem d63_11 : decode method_4_code 11 = .ok (.iload_n 2, 1) := by decide +kernel
theorem d63_12 : decode method_4_code 12 = .ok (.iload_n 3, 1) := by decide +kernel
theorem d63_13 : decode method_4_code 13 = .ok (.iushr, 1) := by decide +kernel
theorem d63_14 : decode method_4_code 14 = .ok (.iconst 1, 1) := by decide +kernel
theorem d63_15 : decode method_4_code 15 = .ok (.iand, 1) := by decide +kernel
theorem d63_16 : decode method_4_code 16 = .ok (.ifCond .eq 15, 3) := by decide +kernel
theorem d63_19 : decode method_4_code 19 = .ok (.iload_n 2, 1) := by decide +kernel
theorem d63_20 : decode method_4_code 20 = .ok (.iload_n 3, 1) := by decide +kernel
theorem d63_21 : decode method_4_code 21 = .ok (.iconst 1, 1) := by decide +kernel
theorem d63_22 : decode method_4_code 22 = .ok (.iadd, 1) := by decide +kernel
theorem d63_23 : decode method_4_code 23 = .ok (.iushr, 1) := by decide +kernel
theorem d63_24 : decode method_4_code 24 = .ok (.iconst 1, 1) := by decide +kernel
theorem d63_25 : decode method_4_code 25 = .ok (.iand, 1) := by decide +kernel
theorem d63_26 : decode method_4_code 26 = .ok (.ifCond .eq 5, 3) := by decide +kernel
theorem d63_29 : decode method_4_code 29 = .ok (.iconst 1, 1) := by decide +kernel
theorem d63_30 : decode method_4_code 30 = .ok (.ireturn, 1) := by decide +kernel
theorem d63_31 : decode method_4_code 31 = .ok (.iconst 0, 1) := by decide +kernel
theorem d63_32 : decode method_4_code 32 = .ok (.ireturn, 1) := by decide +kernel
theorem pn_63 : plainName "com/example/wrasse/wrasse/WordsToleratedEditsPinLaw" = true := by first | (simp [plainName, overriddenIn]; done) | decide +kernel
theorem ef_63 (m : MethodId) (x0 : Int32) (x1 : Int32) (x2 : Int32) : entryFrame m #[(.int x0), (.int x1), (.int x2)] 4 = mkF m 0 #[.val (.int x0), .val (.int x1), .val (.int x2), .unset] [] := by first | (simp [entryFrame, mkF, argsToLocals, Value.category]; done) | rfl
def Q63 (Z : State) (zn : Int32) (sx : Int32) (nn : Nat) (h0 : Heap) (n0 : Nat) (v : Option Value) (h : Heap) (L : List Loc) : Prop := ∃ r : Int32, v = some (.int r) ∧ r.toInt = pj sx nn 3 ∧ Fr n0 L ∧ h = h0
set_option maxRecDepth 65536 in
set_option maxHeartbeats 40000000 in
theorem pair3 (l : Launch) (Z : State) (a0 : Array Value) (hw : ∀ d ∈ tables_1, d.before a0 Z = true) (ws : List Jvm.Cond) (zn : Int32) (sx : Int32) (nn : Nat) (h0 : Heap) (n0 : Nat) (Z0 : n0 ≤ h0.size) (hz : zn.toInt = (nn : Int)) :
    MetFree l (⟨"com/example/wrasse/wrasse/WordsToleratedEditsPinLaw", "pair", "(III)I"⟩ : MethodName) (head1 (Jvm.Cond.code (⟨"com/example/wrasse/wrasse/WordsToleratedEditsPinLaw", "pair", "(III)I"⟩ : MethodName) method_4_code 4 (some .int) :: ws) ({ frames := 0, cells := 0, slots := 0, locals := 0 } : Room)) (fun a_ U => a_ = #[(.int (3 : Int32)), (.int zn), (.int sx)] ∧ Z.Warmed39 U.vm ∧ U.heap = h0) (fun _ _ _ _ _ => True) (fun _ U o U' => ∃ v L, o = .returned v ∧ Q63 Z zn sx nn h0 n0 v U'.heap L ∧ FrameEnd U o U' L (({ frames := 0, cells := 0, slots := 0, locals := 0 } : Room)).cells (({ frames := 0, cells := 0, slots := 0, locals := 0 } : Room)).slots) := by
  refine MetFree.of_bodySF (plainFor_of_name pn_63) hisR ?_
  intro p e s m args below meth c s₁ Bd hml0 hP0 hK
  obtain ⟨rfl, hZ, hh⟩ := hP0
  have hx := Bd.exec
  have hby := Bd.bytes
  have hml : c.maxLocals = 4 := hml0
  have hown : s.vm.findClass "com/example/wrasse/wrasse/WordsToleratedEditsPinLaw" = some m.cls := findClass_of_methodNamed Bd.named
  have hnm := (name_of_methodNamed Bd.named Bd.method).1
  have X0 : Stand p l e ({ frames := 0, cells := 0, slots := 0, locals := 0 } : Room) s m #[(.int (3 : Int32)), (.int zn), (.int sx)] below meth c s₁ [] 0 0 := Stand.of_body Bd
  have e0 : s₁.heap = h0 := by rw [← hh, Bd.state]; rfl
  have N0 := Fr.nil n0
  have hlk : meth.locks = false := BodyLoose.notSynchronized Bd
  refine Go.start (P₀ := fun s₂ o => ∃ v L, o = .returned v ∧ Q63 Z zn sx nn h0 n0 v s₂.heap L ∧ FrameEnd s o s₂ L (({ frames := 0, cells := 0, slots := 0, locals := 0 } : Room)).cells (({ frames := 0, cells := 0, slots := 0, locals := 0 } : Room)).slots) (congrArg s₁.setTop (ef_63 m (3 : Int32) zn sx)) ?_
  intro P hP
  show Go p.tables e below P (s₁.setTop (mkF m 0 #[.val (.int (3 : Int32)), .val (.int zn), .val (.int sx), .unset] []))
  refine Go.step (fun t k => XS.iconst X0.here hx rfl (hb hby d63_0) k) ?_
  show Go p.tables e below P (s₁.setTop (mkF m 1 #[.val (.int (3 : Int32)), .val (.int zn), .val (.int sx), .unset] [(.int (2 : Int32))]))
  refine Go.step (fun t k => XS.iloadN X0.here hx rfl (hb hby d63_1) rfl  k) ?_
  show Go p.tables e below P (s₁.setTop (mkF m 2 #[.val (.int (3 : Int32)), .val (.int zn), .val (.int sx), .unset] [(.int (3 : Int32)), (.int (2 : Int32))]))
  obtain ⟨fl_1, hfl_1⟩ : ∃ z : Int32, (2 : Int32) * (3 : Int32) = z := ⟨_, rfl⟩
  refine Go.step (fun t k => imul_v X0.here hx rfl (hb hby d63_2) rfl  hfl_1 k) ?_
  show Go p.tables e below P (s₁.setTop (mkF m 3 #[.val (.int (3 : Int32)), .val (.int zn), .val (.int sx), .unset] [(.int fl_1)]))
  have ez_fl_1 : fl_1 = (6 : Int32) := by rw [← hfl_1]; rfl
  subst ez_fl_1
  show Go p.tables e below P (s₁.setTop (mkF m 3 #[.val (.int (3 : Int32)), .val (.int zn), .val (.int sx), .unset] [(.int (6 : Int32))]))
  refine Go.step (fun t k => XS.istoreN X0.here hx rfl (hb hby d63_3) rfl (l' := #[.val (.int (3 : Int32)), .val (.int zn), .val (.int sx), .val (.int (6 : Int32))]) rfl k) ?_
  show Go p.tables e below P (s₁.setTop (mkF m 4 #[.val (.int (3 : Int32)), .val (.int zn), .val (.int sx), .val (.int (6 : Int32))] []))
  refine Go.step (fun t k => XS.iloadN X0.here hx rfl (hb hby d63_4) rfl  k) ?_
  show Go p.tables e below P (s₁.setTop (mkF m 5 #[.val (.int (3 : Int32)), .val (.int zn), .val (.int sx), .val (.int (6 : Int32))] [(.int (6 : Int32))]))
  refine Go.step (fun t k => XS.iconst X0.here hx rfl (hb hby d63_5) k) ?_
  show Go p.tables e below P (s₁.setTop (mkF m 6 #[.val (.int (3 : Int32)), .val (.int zn), .val (.int sx), .val (.int (6 : Int32))] [(.int (1 : Int32)), (.int (6 : Int32))]))
  obtain ⟨fl_2, hfl_2⟩ : ∃ z : Int32, (6 : Int32) + (1 : Int32) = z := ⟨_, rfl⟩
  refine Go.step (fun t k => iadd_v X0.here hx rfl (hb hby d63_6) rfl  hfl_2 k) ?_
  show Go p.tables e below P (s₁.setTop (mkF m 7 #[.val (.int (3 : Int32)), .val (.int zn), .val (.int sx), .val (.int (6 : Int32))] [(.int fl_2)]))
  have ez_fl_2 : fl_2 = (7 : Int32) := by rw [← hfl_2]; rfl
  subst ez_fl_2
  show Go p.tables e below P (s₁.setTop (mkF m 7 #[.val (.int (3 : Int32)), .val (.int zn), .val (.int sx), .val (.int (6 : Int32))] [(.int (7 : Int32))]))
  refine Go.step (fun t k => XS.iloadN X0.here hx rfl (hb hby d63_7) rfl  k) ?_
  show Go p.tables e below P (s₁.setTop (mkF m 8 #[.val (.int (3 : Int32)), .val (.int zn), .val (.int sx), .val (.int (6 : Int32))] [(.int zn), (.int (7 : Int32))]))
  by_cases hc8 : zn.toInt ≤ (7 : Int)
  · refine Go.step (fun t k => XS.icmpYes X0.here hx rfl (pc0 := 8) (pc' := 31) rfl (hb hby d63_8) rfl (icY (cd := .ge) hc8) (by decide) (by decide) k) ?_
    show Go p.tables e below P (s₁.setTop (mkF m 31 #[.val (.int (3 : Int32)), .val (.int zn), .val (.int sx), .val (.int (6 : Int32))] []))
    refine Go.step (fun t k => XS.iconst X0.here hx rfl (hb hby d63_31) k) ?_
    show Go p.tables e below P (s₁.setTop (mkF m 32 #[.val (.int (3 : Int32)), .val (.int zn), .val (.int sx), .val (.int (6 : Int32))] [(.int (0 : Int32))]))
    exact retGo X0 hx hP Bd.returns hlk rfl (Or.inl ⟨rfl, Or.inl rfl, _, rfl⟩) (hb hby d63_32) (by decide) (by decide) (by rw [e0]; exact ⟨0, rfl, by have e1 : (1 : Int32).toInt = 1 := rfl; have e0 : (0 : Int32).toInt = 0 := rfl; unfold pj pr; (repeat' split) <;> omega, N0, rfl⟩)
  · refine Go.step (fun t k => XS.icmpNo X0.here hx rfl (hb hby d63_8) rfl (icN (cd := .ge) hc8) k) ?_
    show Go p.tables e below P (s₁.setTop (mkF m 11 #[.val (.int (3 : Int32)), .val (.int zn), .val (.int sx), .val (.int (6 : Int32))] []))
    refine Go.step (fun t k => XS.iloadN X0.here hx rfl (hb hby d63_11) rfl  k) ?_
    show Go p.tables e below P (s₁.setTop (mkF m 12 #[.val (.int (3 : Int32)), .val (.int zn), .val (.int sx), .val (.int (6 : Int32))] [(.int sx)]))
    refine Go.step (fun t k => XS.iloadN X0.here hx rfl (hb hby d63_12) rfl  k) ?_
    show Go p.tables e below P (s₁.setTop (mkF m 13 #[.val (.int (3 : Int32)), .val (.int zn), .val (.int sx), .val (.int (6 : Int32))] [(.int (6 : Int32)), (.int sx)]))
    obtain ⟨i13, hi13⟩ : ∃ z : Int32, ((sx.toUInt32 >>> ((6 : Int32) &&& 31).toUInt32).toInt32) = z := ⟨_, rfl⟩
    refine Go.step (fun t k => iushr_v X0.here hx rfl (hb hby d63_13) rfl  hi13 k) ?_
    show Go p.tables e below P (s₁.setTop (mkF m 14 #[.val (.int (3 : Int32)), .val (.int zn), .val (.int sx), .val (.int (6 : Int32))] [(.int i13)]))
    refine Go.step (fun t k => XS.iconst X0.here hx rfl (hb hby d63_14) k) ?_
    show Go p.tables e below P (s₁.setTop (mkF m 15 #[.val (.int (3 : Int32)), .val (.int zn), .val (.int sx), .val (.int (6 : Int32))] [(.int (1 : Int32)), (.int i13)]))
    obtain ⟨i15, hi15⟩ : ∃ z : Int32, i13 &&& (1 : Int32) = z := ⟨_, rfl⟩
    refine Go.step (fun t k => iand_v X0.here hx rfl (hb hby d63_15) rfl  hi15 k) ?_
    show Go p.tables e below P (s₁.setTop (mkF m 16 #[.val (.int (3 : Int32)), .val (.int zn), .val (.int sx), .val (.int (6 : Int32))] [(.int i15)]))
    have fz := c_iushr sx (6 : Int32) 6 rfl (by decide); rw [hi13] at fz
    have fm := c_mask i13 (1 : Int32) 1 (by decide) rfl; rw [hi15] at fm
    have hbit : i15.toInt = bit sx 6 := by unfold bit; omega
    have hb01 := bit01 sx 6
    clear fz fm
    have hbit4 : i15.toInt = bit sx (2 * 3) := hbit
    have hb014 : bit sx (2 * 3) = 0 ∨ bit sx (2 * 3) = 1 := hb01
    by_cases hc16 : i15.toInt = 0
    · refine Go.step (fun t k => XS.ifYes X0.here hx rfl (pc0 := 16) (pc' := 31) rfl (hb hby d63_16) rfl (ifY (cd := .eq) hc16) (by decide) (by decide) k) ?_
      show Go p.tables e below P (s₁.setTop (mkF m 31 #[.val (.int (3 : Int32)), .val (.int zn), .val (.int sx), .val (.int (6 : Int32))] []))
      refine Go.step (fun t k => XS.iconst X0.here hx rfl (hb hby d63_31) k) ?_
      show Go p.tables e below P (s₁.setTop (mkF m 32 #[.val (.int (3 : Int32)), .val (.int zn), .val (.int sx), .val (.int (6 : Int32))] [(.int (0 : Int32))]))
      exact retGo X0 hx hP Bd.returns hlk rfl (Or.inl ⟨rfl, Or.inl rfl, _, rfl⟩) (hb hby d63_32) (by decide) (by decide) (by rw [e0]; exact ⟨0, rfl, by have e1 : (1 : Int32).toInt = 1 := rfl; have e0 : (0 : Int32).toInt = 0 := rfl; unfold pj pr; (repeat' split) <;> omega, N0, rfl⟩)
    · refine Go.step (fun t k => XS.ifNo X0.here hx rfl (hb hby d63_16) rfl (ifN (cd := .eq) hc16) k) ?_
      show Go p.tables e below P (s₁.setTop (mkF m 19 #[.val (.int (3 : Int32)), .val (.int zn), .val (.int sx), .val (.int (6 : Int32))] []))
      refine Go.step (fun t k => XS.iloadN X0.here hx rfl (hb hby d63_19) rfl  k) ?_
      show Go p.tables e below P (s₁.setTop (mkF m 20 #[.val (.int (3 : Int32)), .val (.int zn), .val (.int sx), .val (.int (6 : Int32))] [(.int sx)]))
      refine Go.step (fun t k => XS.iloadN X0.here hx rfl (hb hby d63_20) rfl  k) ?_
      show Go p.tables e below P (s₁.setTop (mkF m 21 #[.val (.int (3 : Int32)), .val (.int zn), .val (.int sx), .val (.int (6 : Int32))] [(.int (6 : Int32)), (.int sx)]))
      refine Go.step (fun t k => XS.iconst X0.here hx rfl (hb hby d63_21) k) ?_
      show Go p.tables e below P (s₁.setTop (mkF m 22 #[.val (.int (3 : Int32)), .val (.int zn), .val (.int sx), .val (.int (6 : Int32))] [(.int (1 : Int32)), (.int (6 : Int32)), (.int sx)]))
      obtain ⟨fl_3, hfl_3⟩ : ∃ z : Int32, (6 : Int32) + (1 : Int32) = z := ⟨_, rfl⟩
      refine Go.step (fun t k => iadd_v X0.here hx rfl (hb hby d63_22) rfl  hfl_3 k) ?_
      show Go p.tables e below P (s₁.setTop (mkF m 23 #[.val (.int (3 : Int32)), .val (.int zn), .val (.int sx), .val (.int (6 : Int32))] [(.int fl_3), (.int sx)]))
      have ez_fl_3 : fl_3 = (7 : Int32) := by rw [← hfl_3]; rfl
      subst ez_fl_3
      show Go p.tables e below P (s₁.setTop (mkF m 23 #[.val (.int (3 : Int32)), .val (.int zn), .val (.int sx), .val (.int (6 : Int32))] [(.int (7 : Int32)), (.int sx)]))
      obtain ⟨i23, hi23⟩ : ∃ z : Int32, ((sx.toUInt32 >>> ((7 : Int32) &&& 31).toUInt32).toInt32) = z := ⟨_, rfl⟩
      refine Go.step (fun t k => iushr_v X0.here hx rfl (hb hby d63_23) rfl  hi23 k) ?_
      show Go p.tables e below P (s₁.setTop (mkF m 24 #[.val (.int (3 : Int32)), .val (.int zn), .val (.int sx), .val (.int (6 : Int32))] [(.int i23)]))
      refine Go.step (fun t k => XS.iconst X0.here hx rfl (hb hby d63_24) k) ?_
      show Go p.tables e below P (s₁.setTop (mkF m 25 #[.val (.int (3 : Int32)), .val (.int zn), .val (.int sx), .val (.int (6 : Int32))] [(.int (1 : Int32)), (.int i23)]))
      obtain ⟨i25, hi25⟩ : ∃ z : Int32, i23 &&& (1 : Int32) = z := ⟨_, rfl⟩
      refine Go.step (fun t k => iand_v X0.here hx rfl (hb hby d63_25) rfl  hi25 k) ?_
      show Go p.tables e below P (s₁.setTop (mkF m 26 #[.val (.int (3 : Int32)), .val (.int zn), .val (.int sx), .val (.int (6 : Int32))] [(.int i25)]))
      have fz := c_iushr sx (7 : Int32) 7 rfl (by decide); rw [hi23] at fz
      have fm := c_mask i23 (1 : Int32) 1 (by decide) rfl; rw [hi25] at fm
      have hbit2 : i25.toInt = bit sx 7 := by unfold bit; omega
      have hb012 := bit01 sx 7
      clear fz fm
      have hbit3 : i25.toInt = bit sx (2 * 3 + 1) := hbit2
      have hb013 : bit sx (2 * 3 + 1) = 0 ∨ bit sx (2 * 3 + 1) = 1 := hb012
      by_cases hc26 : i25.toInt = 0
      · refine Go.step (fun t k => XS.ifYes X0.here hx rfl (pc0 := 26) (pc' := 31) rfl (hb hby d63_26) rfl (ifY (cd := .eq) hc26) (by decide) (by decide) k) ?_
        show Go p.tables e below P (s₁.setTop (mkF m 31 #[.val (.int (3 : Int32)), .val (.int zn), .val (.int sx), .val (.int (6 : Int32))] []))
        refine Go.step (fun t k => XS.iconst X0.here hx rfl (hb hby d63_31) k) ?_
        show Go p.tables e below P (s₁.setTop (mkF m 32 #[.val (.int (3 : Int32)), .val (.int zn), .val (.int sx), .val (.int (6 : Int32))] [(.int (0 : Int32))]))
        exact retGo X0 hx hP Bd.returns hlk rfl (Or.inl ⟨rfl, Or.inl rfl, _, rfl⟩) (hb hby d63_32) (by decide) (by decide) (by rw [e0]; exact ⟨0, rfl, by have e1 : (1 : Int32).toInt = 1 := rfl; have e0 : (0 : Int32).toInt = 0 := rfl; unfold pj pr; (repeat' split) <;> omega, N0, rfl⟩)
      · refine Go.step (fun t k => XS.ifNo X0.here hx rfl (hb hby d63_26) rfl (ifN (cd := .eq) hc26) k) ?_
        show Go p.tables e below P (s₁.setTop (mkF m 29 #[.val (.int (3 : Int32)), .val (.int zn), .val (.int sx), .val (.int (6 : Int32))] []))
        refine Go.step (fun t k => XS.iconst X0.here hx rfl (hb hby d63_29) k) ?_
        show Go p.tables e below P (s₁.setTop (mkF m 30 #[.val (.int (3 : Int32)), .val (.int zn), .val (.int sx), .val (.int (6 : Int32))] [(.int (1 : Int32))]))
        exact retGo X0 hx hP Bd.returns hlk rfl (Or.inl ⟨rfl, Or.inl rfl, _, rfl⟩) (hb hby d63_30) (by decide) (by decide) (by rw [e0]; exact ⟨1, rfl, by have e1 : (1 : Int32).toInt = 1 := rfl; have e0 : (0 : Int32).toInt = 0 := rfl; unfold pj pr; (repeat' split) <;> omega, N0, rfl⟩)
theorem d64_0 : decode method_4_code 0 = .ok (.iconst 2, 1) := by decide +kernel
theorem d64_1 : decode method_4_code 1 = .ok (.iload_n 0, 1) := by decide +kernel
theorem d64_2 : decode method_4_code 2 = .ok (.imul, 1) := by decide +kernel
theorem d64_3 : decode method_4_code 3 = .ok (.istore_n 3, 1) := by decide +kernel
theorem d64_4 : decode method_4_code 4 = .ok (.iload_n 3, 1) := by decide +kernel
theorem d64_5 : decode method_4_code 5 = .ok (.iconst 1, 1) := by decide +kernel
theorem d64_6 : decode method_4_code 6 = .ok (.iadd, 1) := by decide +kernel
theorem d64_7 : decode method_4_code 7 = .ok (.iload_n 1, 1) := by decide +kernel
theorem d64_8 : decode method_4_code 8 = .ok (.if_icmp .ge 23, 3) := by decide +kernel
theorem d64_11 : decode method_4_code 11 = .ok (.iload_n 2, 1) := by decide +kernel
theorem d64_12 : decode method_4_code 12 = .ok (.iload_n 3, 1) := by decide +kernel
theorem d64_13 : decode method_4_code 13 = .ok (.iushr, 1) := by decide +kernel
theorem d64_14 : decode method_4_code 14 = .ok (.iconst 1, 1) := by decide +kernel
theorem d64_15 : decode method_4_code 15 = .ok (.iand, 1) := by decide +kernel
theorem d64_16 : decode method_4_code 16 = .ok (.ifCond .eq 15, 3) := by decide +kernel
theorem d64_19 : decode method_4_code 19 = .ok (.iload_n 2, 1) := by decide +kernel
theorem d64_20 : decode method_4_code 20 = .ok (.iload_n 3, 1) := by decide +kernel
theorem d64_21 : decode method_4_code 21 = .ok (.iconst 1, 1) := by decide +kernel
theorem d64_22 : decode method_4_code 22 = .ok (.iadd, 1) := by decide +kernel
theorem d64_23 : decode method_4_code 23 = .ok (.iushr, 1) := by decide +kernel
theorem d64_24 : decode method_4_code 24 = .ok (.iconst 1, 1) := by decide +kernel
theorem d64_25 : decode method_4_code 25 = .ok (.iand, 1) := by decide +kernel
theorem d64_26 : decode method_4_code 26 = .ok (.ifCond .eq 5, 3) := by decide +kernel
theorem d64_29 : decode method_4_code 29 = .ok (.iconst 1, 1) := by decide +kernel
theorem d64_30 : decode method_4_code 30 = .ok (.ireturn, 1) := by decide +kernel
theorem d64_31 : decode method_4_code 31 = .ok (.iconst 0, 1) := by decide +kernel
theorem d64_32 : decode method_4_code 32 = .ok (.ireturn, 1) := by decide +kernel
theorem pn_64 : plainName "com/example/wrasse/wrasse/WordsToleratedEditsPinLaw" = true := by first | (simp [plainName, overriddenIn]; done) | decide +kernel
theorem ef_64 (m : MethodId) (x0 : Int32) (x1 : Int32) (x2 : Int32) : entryFrame m #[(.int x0), (.int x1), (.int x2)] 4 = mkF m 0 #[.val (.int x0), .val (.int x1), .val (.int x2), .unset] [] := by first | (simp [entryFrame, mkF, argsToLocals, Value.category]; done) | rfl
def Q64 (Z : State) (zn : Int32) (sx : Int32) (nn : Nat) (h0 : Heap) (n0 : Nat) (v : Option Value) (h : Heap) (L : List Loc) : Prop := ∃ r : Int32, v = some (.int r) ∧ r.toInt = pj sx nn 4 ∧ Fr n0 L ∧ h = h0
set_option maxRecDepth 65536 in
set_option maxHeartbeats 40000000 in
theorem pair4 (l : Launch) (Z : State) (a0 : Array Value) (hw : ∀ d ∈ tables_1, d.before a0 Z = true) (ws : List Jvm.Cond) (zn : Int32) (sx : Int32) (nn : Nat) (h0 : Heap) (n0 : Nat) (Z0 : n0 ≤ h0.size) (hz : zn.toInt = (nn : Int)) :
    MetFree l (⟨"com/example/wrasse/wrasse/WordsToleratedEditsPinLaw", "pair", "(III)I"⟩ : MethodName) (head1 (Jvm.Cond.code (⟨"com/example/wrasse/wrasse/WordsToleratedEditsPinLaw", "pair", "(III)I"⟩ : MethodName) method_4_code 4 (some .int) :: ws) ({ frames := 0, cells := 0, slots := 0, locals := 0 } : Room)) (fun a_ U => a_ = #[(.int (4 : Int32)), (.int zn), (.int sx)] ∧ Z.Warmed39 U.vm ∧ U.heap = h0) (fun _ _ _ _ _ => True) (fun _ U o U' => ∃ v L, o = .returned v ∧ Q64 Z zn sx nn h0 n0 v U'.heap L ∧ FrameEnd U o U' L (({ frames := 0, cells := 0, slots := 0, locals := 0 } : Room)).cells (({ frames := 0, cells := 0, slots := 0, locals := 0 } : Room)).slots) := by
  refine MetFree.of_bodySF (plainFor_of_name pn_64) hisR ?_
  intro p e s m args below meth c s₁ Bd hml0 hP0 hK
  obtain ⟨rfl, hZ, hh⟩ := hP0
  have hx := Bd.exec
  have hby := Bd.bytes
  have hml : c.maxLocals = 4 := hml0
  have hown : s.vm.findClass "com/example/wrasse/wrasse/WordsToleratedEditsPinLaw" = some m.cls := findClass_of_methodNamed Bd.named
  have hnm := (name_of_methodNamed Bd.named Bd.method).1
  have X0 : Stand p l e ({ frames := 0, cells := 0, slots := 0, locals := 0 } : Room) s m #[(.int (4 : Int32)), (.int zn), (.int sx)] below meth c s₁ [] 0 0 := Stand.of_body Bd
  have e0 : s₁.heap = h0 := by rw [← hh, Bd.state]; rfl
  have N0 := Fr.nil n0
  have hlk : meth.locks = false := BodyLoose.notSynchronized Bd
  refine Go.start (P₀ := fun s₂ o => ∃ v L, o = .returned v ∧ Q64 Z zn sx nn h0 n0 v s₂.heap L ∧ FrameEnd s o s₂ L (({ frames := 0, cells := 0, slots := 0, locals := 0 } : Room)).cells (({ frames := 0, cells := 0, slots := 0, locals := 0 } : Room)).slots) (congrArg s₁.setTop (ef_64 m (4 : Int32) zn sx)) ?_
  intro P hP
  show Go p.tables e below P (s₁.setTop (mkF m 0 #[.val (.int (4 : Int32)), .val (.int zn), .val (.int sx), .unset] []))
  refine Go.step (fun t k => XS.iconst X0.here hx rfl (hb hby d64_0) k) ?_
  show Go p.tables e below P (s₁.setTop (mkF m 1 #[.val (.int (4 : Int32)), .val (.int zn), .val (.int sx), .unset] [(.int (2 : Int32))]))
  refine Go.step (fun t k => XS.iloadN X0.here hx rfl (hb hby d64_1) rfl  k) ?_
  show Go p.tables e below P (s₁.setTop (mkF m 2 #[.val (.int (4 : Int32)), .val (.int zn), .val (.int sx), .unset] [(.int (4 : Int32)), (.int (2 : Int32))]))
  obtain ⟨fl_1, hfl_1⟩ : ∃ z : Int32, (2 : Int32) * (4 : Int32) = z := ⟨_, rfl⟩
  refine Go.step (fun t k => imul_v X0.here hx rfl (hb hby d64_2) rfl  hfl_1 k) ?_
  show Go p.tables e below P (s₁.setTop (mkF m 3 #[.val (.int (4 : Int32)), .val (.int zn), .val (.int sx), .unset] [(.int fl_1)]))
  have ez_fl_1 : fl_1 = (8 : Int32) := by rw [← hfl_1]; rfl
  subst ez_fl_1
  show Go p.tables e below P (s₁.setTop (mkF m 3 #[.val (.int (4 : Int32)), .val (.int zn), .val (.int sx), .unset] [(.int (8 : Int32))]))
  refine Go.step (fun t k => XS.istoreN X0.here hx rfl (hb hby d64_3) rfl (l' := #[.val (.int (4 : Int32)), .val (.int zn), .val (.int sx), .val (.int (8 : Int32))]) rfl k) ?_
  show Go p.tables e below P (s₁.setTop (mkF m 4 #[.val (.int (4 : Int32)), .val (.int zn), .val (.int sx), .val (.int (8 : Int32))] []))
  refine Go.step (fun t k => XS.iloadN X0.here hx rfl (hb hby d64_4) rfl  k) ?_
  show Go p.tables e below P (s₁.setTop (mkF m 5 #[.val (.int (4 : Int32)), .val (.int zn), .val (.int sx), .val (.int (8 : Int32))] [(.int (8 : Int32))]))
  refine Go.step (fun t k => XS.iconst X0.here hx rfl (hb hby d64_5) k) ?_
  show Go p.tables e below P (s₁.setTop (mkF m 6 #[.val (.int (4 : Int32)), .val (.int zn), .val (.int sx), .val (.int (8 : Int32))] [(.int (1 : Int32)), (.int (8 : Int32))]))
  obtain ⟨fl_2, hfl_2⟩ : ∃ z : Int32, (8 : Int32) + (1 : Int32) = z := ⟨_, rfl⟩
  refine Go.step (fun t k => iadd_v X0.here hx rfl (hb hby d64_6) rfl  hfl_2 k) ?_
  show Go p.tables e below P (s₁.setTop (mkF m 7 #[.val (.int (4 : Int32)), .val (.int zn), .val (.int sx), .val (.int (8 : Int32))] [(.int fl_2)]))
  have ez_fl_2 : fl_2 = (9 : Int32) := by rw [← hfl_2]; rfl
  subst ez_fl_2
  show Go p.tables e below P (s₁.setTop (mkF m 7 #[.val (.int (4 : Int32)), .val (.int zn), .val (.int sx), .val (.int (8 : Int32))] [(.int (9 : Int32))]))
  refine Go.step (fun t k => XS.iloadN X0.here hx rfl (hb hby d64_7) rfl  k) ?_
  show Go p.tables e below P (s₁.setTop (mkF m 8 #[.val (.int (4 : Int32)), .val (.int zn), .val (.int sx), .val (.int (8 : Int32))] [(.int zn), (.int (9 : Int32))]))
  by_cases hc8 : zn.toInt ≤ (9 : Int)
  · refine Go.step (fun t k => XS.icmpYes X0.here hx rfl (pc0 := 8) (pc' := 31) rfl (hb hby d64_8) rfl (icY (cd := .ge) hc8) (by decide) (by decide) k) ?_
    show Go p.tables e below P (s₁.setTop (mkF m 31 #[.val (.int (4 : Int32)), .val (.int zn), .val (.int sx), .val (.int (8 : Int32))] []))
    refine Go.step (fun t k => XS.iconst X0.here hx rfl (hb hby d64_31) k) ?_
    show Go p.tables e below P (s₁.setTop (mkF m 32 #[.val (.int (4 : Int32)), .val (.int zn), .val (.int sx), .val (.int (8 : Int32))] [(.int (0 : Int32))]))
    exact retGo X0 hx hP Bd.returns hlk rfl (Or.inl ⟨rfl, Or.inl rfl, _, rfl⟩) (hb hby d64_32) (by decide) (by decide) (by rw [e0]; exact ⟨0, rfl, by have e1 : (1 : Int32).toInt = 1 := rfl; have e0 : (0 : Int32).toInt = 0 := rfl; unfold pj pr; (repeat' split) <;> omega, N0, rfl⟩)
  · refine Go.step (fun t k => XS.icmpNo X0.here hx rfl (hb hby d64_8) rfl (icN (cd := .ge) hc8) k) ?_
    show Go p.tables e below P (s₁.setTop (mkF m 11 #[.val (.int (4 : Int32)), .val (.int zn), .val (.int sx), .val (.int (8 : Int32))] []))
    refine Go.step (fun t k => XS.iloadN X0.here hx rfl (hb hby d64_11) rfl  k) ?_
    show Go p.tables e below P (s₁.setTop (mkF m 12 #[.val (.int (4 : Int32)), .val (.int zn), .val (.int sx), .val (.int (8 : Int32))] [(.int sx)]))
    refine Go.step (fun t k => XS.iloadN X0.here hx rfl (hb hby d64_12) rfl  k) ?_
    show Go p.tables e below P (s₁.setTop (mkF m 13 #[.val (.int (4 : Int32)), .val (.int zn), .val (.int sx), .val (.int (8 : Int32))] [(.int (8 : Int32)), (.int sx)]))
    obtain ⟨i13, hi13⟩ : ∃ z : Int32, ((sx.toUInt32 >>> ((8 : Int32) &&& 31).toUInt32).toInt32) = z := ⟨_, rfl⟩
    refine Go.step (fun t k => iushr_v X0.here hx rfl (hb hby d64_13) rfl  hi13 k) ?_
    show Go p.tables e below P (s₁.setTop (mkF m 14 #[.val (.int (4 : Int32)), .val (.int zn), .val (.int sx), .val (.int (8 : Int32))] [(.int i13)]))
    refine Go.step (fun t k => XS.iconst X0.here hx rfl (hb hby d64_14) k) ?_
    show Go p.tables e below P (s₁.setTop (mkF m 15 #[.val (.int (4 : Int32)), .val (.int zn), .val (.int sx), .val (.int (8 : Int32))] [(.int (1 : Int32)), (.int i13)]))
    obtain ⟨i15, hi15⟩ : ∃ z : Int32, i13 &&& (1 : Int32) = z := ⟨_, rfl⟩
    refine Go.step (fun t k => iand_v X0.here hx rfl (hb hby d64_15) rfl  hi15 k) ?_
    show Go p.tables e below P (s₁.setTop (mkF m 16 #[.val (.int (4 : Int32)), .val (.int zn), .val (.int sx), .val (.int (8 : Int32))] [(.int i15)]))
    have fz := c_iushr sx (8 : Int32) 8 rfl (by decide); rw [hi13] at fz
    have fm := c_mask i13 (1 : Int32) 1 (by decide) rfl; rw [hi15] at fm
    have hbit : i15.toInt = bit sx 8 := by unfold bit; omega
    have hb01 := bit01 sx 8
    clear fz fm
    have hbit4 : i15.toInt = bit sx (2 * 4) := hbit
    have hb014 : bit sx (2 * 4) = 0 ∨ bit sx (2 * 4) = 1 := hb01
    by_cases hc16 : i15.toInt = 0
    · refine Go.step (fun t k => XS.ifYes X0.here hx rfl (pc0 := 16) (pc' := 31) rfl (hb hby d64_16) rfl (ifY (cd := .eq) hc16) (by decide) (by decide) k) ?_
      show Go p.tables e below P (s₁.setTop (mkF m 31 #[.val (.int (4 : Int32)), .val (.int zn), .val (.int sx), .val (.int (8 : Int32))] []))
      refine Go.step (fun t k => XS.iconst X0.here hx rfl (hb hby d64_31) k) ?_
      show Go p.tables e below P (s₁.setTop (mkF m 32 #[.val (.int (4 : Int32)), .val (.int zn), .val (.int sx), .val (.int (8 : Int32))] [(.int (0 : Int32))]))
      exact retGo X0 hx hP Bd.returns hlk rfl (Or.inl ⟨rfl, Or.inl rfl, _, rfl⟩) (hb hby d64_32) (by decide) (by decide) (by rw [e0]; exact ⟨0, rfl, by have e1 : (1 : Int32).toInt = 1 := rfl; have e0 : (0 : Int32).toInt = 0 := rfl; unfold pj pr; (repeat' split) <;> omega, N0, rfl⟩)
    · refine Go.step (fun t k => XS.ifNo X0.here hx rfl (hb hby d64_16) rfl (ifN (cd := .eq) hc16) k) ?_
      show Go p.tables e below P (s₁.setTop (mkF m 19 #[.val (.int (4 : Int32)), .val (.int zn), .val (.int sx), .val (.int (8 : Int32))] []))
      refine Go.step (fun t k => XS.iloadN X0.here hx rfl (hb hby d64_19) rfl  k) ?_
      show Go p.tables e below P (s₁.setTop (mkF m 20 #[.val (.int (4 : Int32)), .val (.int zn), .val (.int sx), .val (.int (8 : Int32))] [(.int sx)]))
      refine Go.step (fun t k => XS.iloadN X0.here hx rfl (hb hby d64_20) rfl  k) ?_
      show Go p.tables e below P (s₁.setTop (mkF m 21 #[.val (.int (4 : Int32)), .val (.int zn), .val (.int sx), .val (.int (8 : Int32))] [(.int (8 : Int32)), (.int sx)]))
      refine Go.step (fun t k => XS.iconst X0.here hx rfl (hb hby d64_21) k) ?_
      show Go p.tables e below P (s₁.setTop (mkF m 22 #[.val (.int (4 : Int32)), .val (.int zn), .val (.int sx), .val (.int (8 : Int32))] [(.int (1 : Int32)), (.int (8 : Int32)), (.int sx)]))
      obtain ⟨fl_3, hfl_3⟩ : ∃ z : Int32, (8 : Int32) + (1 : Int32) = z := ⟨_, rfl⟩
      refine Go.step (fun t k => iadd_v X0.here hx rfl (hb hby d64_22) rfl  hfl_3 k) ?_
      show Go p.tables e below P (s₁.setTop (mkF m 23 #[.val (.int (4 : Int32)), .val (.int zn), .val (.int sx), .val (.int (8 : Int32))] [(.int fl_3), (.int sx)]))
      have ez_fl_3 : fl_3 = (9 : Int32) := by rw [← hfl_3]; rfl
      subst ez_fl_3
      show Go p.tables e below P (s₁.setTop (mkF m 23 #[.val (.int (4 : Int32)), .val (.int zn), .val (.int sx), .val (.int (8 : Int32))] [(.int (9 : Int32)), (.int sx)]))
      obtain ⟨i23, hi23⟩ : ∃ z : Int32, ((sx.toUInt32 >>> ((9 : Int32) &&& 31).toUInt32).toInt32) = z := ⟨_, rfl⟩
      refine Go.step (fun t k => iushr_v X0.here hx rfl (hb hby d64_23) rfl  hi23 k) ?_
      show Go p.tables e below P (s₁.setTop (mkF m 24 #[.val (.int (4 : Int32)), .val (.int zn), .val (.int sx), .val (.int (8 : Int32))] [(.int i23)]))
      refine Go.step (fun t k => XS.iconst X0.here hx rfl (hb hby d64_24) k) ?_
      show Go p.tables e below P (s₁.setTop (mkF m 25 #[.val (.int (4 : Int32)), .val (.int zn), .val (.int sx), .val (.int (8 : Int32))] [(.int (1 : Int32)), (.int i23)]))
      obtain ⟨i25, hi25⟩ : ∃ z : Int32, i23 &&& (1 : Int32) = z := ⟨_, rfl⟩
      refine Go.step (fun t k => iand_v X0.here hx rfl (hb hby d64_25) rfl  hi25 k) ?_
      show Go p.tables e below P (s₁.setTop (mkF m 26 #[.val (.int (4 : Int32)), .val (.int zn), .val (.int sx), .val (.int (8 : Int32))] [(.int i25)]))
      have fz := c_iushr sx (9 : Int32) 9 rfl (by decide); rw [hi23] at fz
      have fm := c_mask i23 (1 : Int32) 1 (by decide) rfl; rw [hi25] at fm
      have hbit2 : i25.toInt = bit sx 9 := by unfold bit; omega
      have hb012 := bit01 sx 9
      clear fz fm
      have hbit3 : i25.toInt = bit sx (2 * 4 + 1) := hbit2
      have hb013 : bit sx (2 * 4 + 1) = 0 ∨ bit sx (2 * 4 + 1) = 1 := hb012
      by_cases hc26 : i25.toInt = 0
      · refine Go.step (fun t k => XS.ifYes X0.here hx rfl (pc0 := 26) (pc' := 31) rfl (hb hby d64_26) rfl (ifY (cd := .eq) hc26) (by decide) (by decide) k) ?_
        show Go p.tables e below P (s₁.setTop (mkF m 31 #[.val (.int (4 : Int32)), .val (.int zn), .val (.int sx), .val (.int (8 : Int32))] []))
        refine Go.step (fun t k => XS.iconst X0.here hx rfl (hb hby d64_31) k) ?_
        show Go p.tables e below P (s₁.setTop (mkF m 32 #[.val (.int (4 : Int32)), .val (.int zn), .val (.int sx), .val (.int (8 : Int32))] [(.int (0 : Int32))]))
        exact retGo X0 hx hP Bd.returns hlk rfl (Or.inl ⟨rfl, Or.inl rfl, _, rfl⟩) (hb hby d64_32) (by decide) (by decide) (by rw [e0]; exact ⟨0, rfl, by have e1 : (1 : Int32).toInt = 1 := rfl; have e0 : (0 : Int32).toInt = 0 := rfl; unfold pj pr; (repeat' split) <;> omega, N0, rfl⟩)
      · refine Go.step (fun t k => XS.ifNo X0.here hx rfl (hb hby d64_26) rfl (ifN (cd := .eq) hc26) k) ?_
        show Go p.tables e below P (s₁.setTop (mkF m 29 #[.val (.int (4 : Int32)), .val (.int zn), .val (.int sx), .val (.int (8 : Int32))] []))
        refine Go.step (fun t k => XS.iconst X0.here hx rfl (hb hby d64_29) k) ?_
        show Go p.tables e below P (s₁.setTop (mkF m 30 #[.val (.int (4 : Int32)), .val (.int zn), .val (.int sx), .val (.int (8 : Int32))] [(.int (1 : Int32))]))
        exact retGo X0 hx hP Bd.returns hlk rfl (Or.inl ⟨rfl, Or.inl rfl, _, rfl⟩) (hb hby d64_30) (by decide) (by decide) (by rw [e0]; exact ⟨1, rfl, by have e1 : (1 : Int32).toInt = 1 := rfl; have e0 : (0 : Int32).toInt = 0 := rfl; unfold pj pr; (repeat' split) <;> omega, N0, rfl⟩)
theorem d65_0 : decode method_4_code 0 = .ok (.iconst 2, 1) := by decide +kernel
theorem d65_1 : decode method_4_code 1 = .ok (.iload_n 0, 1) := by decide +kernel
theorem d65_2 : decode method_4_code 2 = .ok (.imul, 1) := by decide +kernel
theorem d65_3 : decode method_4_code 3 = .ok (.istore_n 3, 1) := by decide +kernel
theorem d65_4 : decode method_4_code 4 = .ok (.iload_n 3, 1) := by decide +kernel
theorem d65_5 : decode method_4_code 5 = .ok (.iconst 1, 1) := by decide +kernel
theorem d65_6 : decode method_4_code 6 = .ok (.iadd, 1) := by decide +kernel
theorem d65_7 : decode method_4_code 7 = .ok (.iload_n 1, 1) := by decide +kernel
theorem d65_8 : decode method_4_code 8 = .ok (.if_icmp .ge 23, 3) := by decide +kernel
theorem d65_11 : decode method_4_code 11 = .ok (.iload_n 2, 1) := by decide +kernel
theorem d65_12 : decode method_4_code 12 = .ok (.iload_n 3, 1) := by decide +kernel
theorem d65_13 : decode method_4_code 13 = .ok (.iushr, 1) := by decide +kernel
theorem d65_14 : decode method_4_code 14 = .ok (.iconst 1, 1) := by decide +kernel
theorem d65_15 : decode method_4_code 15 = .ok (.iand, 1) := by decide +kernel
theorem d65_16 : decode method_4_code 16 = .ok (.ifCond .eq 15, 3) := by decide +kernel
theorem d65_19 : decode method_4_code 19 = .ok (.iload_n 2, 1) := by decide +kernel
theorem d65_20 : decode method_4_code 20 = .ok (.iload_n 3, 1) := by decide +kernel
theorem d65_21 : decode method_4_code 21 = .ok (.iconst 1, 1) := by decide +kernel
theorem d65_22 : decode method_4_code 22 = .ok (.iadd, 1) := by decide +kernel
theorem d65_23 : decode method_4_code 23 = .ok (.iushr, 1) := by decide +kernel
theorem d65_24 : decode method_4_code 24 = .ok (.iconst 1, 1) := by decide +kernel
theorem d65_25 : decode method_4_code 25 = .ok (.iand, 1) := by decide +kernel
theorem d65_26 : decode method_4_code 26 = .ok (.ifCond .eq 5, 3) := by decide +kernel
theorem d65_29 : decode method_4_code 29 = .ok (.iconst 1, 1) := by decide +kernel
theorem d65_30 : decode method_4_code 30 = .ok (.ireturn, 1) := by decide +kernel
theorem d65_31 : decode method_4_code 31 = .ok (.iconst 0, 1) := by decide +kernel
theorem d65_32 : decode method_4_code 32 = .ok (.ireturn, 1) := by decide +kernel
theorem pn_65 : plainName "com/example/wrasse/wrasse/WordsToleratedEditsPinLaw" = true := by first | (simp [plainName, overriddenIn]; done) | decide +kernel
theorem ef_65 (m : MethodId) (x0 : Int32) (x1 : Int32) (x2 : Int32) : entryFrame m #[(.int x0), (.int x1), (.int x2)] 4 = mkF m 0 #[.val (.int x0), .val (.int x1), .val (.int x2), .unset] [] := by first | (simp [entryFrame, mkF, argsToLocals, Value.category]; done) | rfl
def Q65 (Z : State) (zn : Int32) (sx : Int32) (nn : Nat) (h0 : Heap) (n0 : Nat) (v : Option Value) (h : Heap) (L : List Loc) : Prop := ∃ r : Int32, v = some (.int r) ∧ r.toInt = pj sx nn 5 ∧ Fr n0 L ∧ h = h0
set_option maxRecDepth 65536 in
set_option maxHeartbeats 40000000 in
theorem pair5 (l : Launch) (Z : State) (a0 : Array Value) (hw : ∀ d ∈ tables_1, d.before a0 Z = true) (ws : List Jvm.Cond) (zn : Int32) (sx : Int32) (nn : Nat) (h0 : Heap) (n0 : Nat) (Z0 : n0 ≤ h0.size) (hz : zn.toInt = (nn : Int)) :
    MetFree l (⟨"com/example/wrasse/wrasse/WordsToleratedEditsPinLaw", "pair", "(III)I"⟩ : MethodName) (head1 (Jvm.Cond.code (⟨"com/example/wrasse/wrasse/WordsToleratedEditsPinLaw", "pair", "(III)I"⟩ : MethodName) method_4_code 4 (some .int) :: ws) ({ frames := 0, cells := 0, slots := 0, locals := 0 } : Room)) (fun a_ U => a_ = #[(.int (5 : Int32)), (.int zn), (.int sx)] ∧ Z.Warmed39 U.vm ∧ U.heap = h0) (fun _ _ _ _ _ => True) (fun _ U o U' => ∃ v L, o = .returned v ∧ Q65 Z zn sx nn h0 n0 v U'.heap L ∧ FrameEnd U o U' L (({ frames := 0, cells := 0, slots := 0, locals := 0 } : Room)).cells (({ frames := 0, cells := 0, slots := 0, locals := 0 } : Room)).slots) := by
  refine MetFree.of_bodySF (plainFor_of_name pn_65) hisR ?_
  intro p e s m args below meth c s₁ Bd hml0 hP0 hK
  obtain ⟨rfl, hZ, hh⟩ := hP0
  have hx := Bd.exec
  have hby := Bd.bytes
  have hml : c.maxLocals = 4 := hml0
  have hown : s.vm.findClass "com/example/wrasse/wrasse/WordsToleratedEditsPinLaw" = some m.cls := findClass_of_methodNamed Bd.named
  have hnm := (name_of_methodNamed Bd.named Bd.method).1
  have X0 : Stand p l e ({ frames := 0, cells := 0, slots := 0, locals := 0 } : Room) s m #[(.int (5 : Int32)), (.int zn), (.int sx)] below meth c s₁ [] 0 0 := Stand.of_body Bd
  have e0 : s₁.heap = h0 := by rw [← hh, Bd.state]; rfl
  have N0 := Fr.nil n0
  have hlk : meth.locks = false := BodyLoose.notSynchronized Bd
  refine Go.start (P₀ := fun s₂ o => ∃ v L, o = .returned v ∧ Q65 Z zn sx nn h0 n0 v s₂.heap L ∧ FrameEnd s o s₂ L (({ frames := 0, cells := 0, slots := 0, locals := 0 } : Room)).cells (({ frames := 0, cells := 0, slots := 0, locals := 0 } : Room)).slots) (congrArg s₁.setTop (ef_65 m (5 : Int32) zn sx)) ?_
  intro P hP
  show Go p.tables e below P (s₁.setTop (mkF m 0 #[.val (.int (5 : Int32)), .val (.int zn), .val (.int sx), .unset] []))
  refine Go.step (fun t k => XS.iconst X0.here hx rfl (hb hby d65_0) k) ?_
  show Go p.tables e below P (s₁.setTop (mkF m 1 #[.val (.int (5 : Int32)), .val (.int zn), .val (.int sx), .unset] [(.int (2 : Int32))]))
  refine Go.step (fun t k => XS.iloadN X0.here hx rfl (hb hby d65_1) rfl  k) ?_
  show Go p.tables e below P (s₁.setTop (mkF m 2 #[.val (.int (5 : Int32)), .val (.int zn), .val (.int sx), .unset] [(.int (5 : Int32)), (.int (2 : Int32))]))
  obtain ⟨fl_1, hfl_1⟩ : ∃ z : Int32, (2 : Int32) * (5 : Int32) = z := ⟨_, rfl⟩
  refine Go.step (fun t k => imul_v X0.here hx rfl (hb hby d65_2) rfl  hfl_1 k) ?_
  show Go p.tables e below P (s₁.setTop (mkF m 3 #[.val (.int (5 : Int32)), .val (.int zn), .val (.int sx), .unset] [(.int fl_1)]))
  have ez_fl_1 : fl_1 = (10 : Int32) := by rw [← hfl_1]; rfl
  subst ez_fl_1
  show Go p.tables e below P (s₁.setTop (mkF m 3 #[.val (.int (5 : Int32)), .val (.int zn), .val (.int sx), .unset] [(.int (10 : Int32))]))
  refine Go.step (fun t k => XS.istoreN X0.here hx rfl (hb hby d65_3) rfl (l' := #[.val (.int (5 : Int32)), .val (.int zn), .val (.int sx), .val (.int (10 : Int32))]) rfl k) ?_
  show Go p.tables e below P (s₁.setTop (mkF m 4 #[.val (.int (5 : Int32)), .val (.int zn), .val (.int sx), .val (.int (10 : Int32))] []))
  refine Go.step (fun t k => XS.iloadN X0.here hx rfl (hb hby d65_4) rfl  k) ?_
  show Go p.tables e below P (s₁.setTop (mkF m 5 #[.val (.int (5 : Int32)), .val (.int zn), .val (.int sx), .val (.int (10 : Int32))] [(.int (10 : Int32))]))
  refine Go.step (fun t k => XS.iconst X0.here hx rfl (hb hby d65_5) k) ?_
  show Go p.tables e below P (s₁.setTop (mkF m 6 #[.val (.int (5 : Int32)), .val (.int zn), .val (.int sx), .val (.int (10 : Int32))] [(.int (1 : Int32)), (.int (10 : Int32))]))
  obtain ⟨fl_2, hfl_2⟩ : ∃ z : Int32, (10 : Int32) + (1 : Int32) = z := ⟨_, rfl⟩
  refine Go.step (fun t k => iadd_v X0.here hx rfl (hb hby d65_6) rfl  hfl_2 k) ?_
  show Go p.tables e below P (s₁.setTop (mkF m 7 #[.val (.int (5 : Int32)), .val (.int zn), .val (.int sx), .val (.int (10 : Int32))] [(.int fl_2)]))
  have ez_fl_2 : fl_2 = (11 : Int32) := by rw [← hfl_2]; rfl
  subst ez_fl_2
  show Go p.tables e below P (s₁.setTop (mkF m 7 #[.val (.int (5 : Int32)), .val (.int zn), .val (.int sx), .val (.int (10 : Int32))] [(.int (11 : Int32))]))
  refine Go.step (fun t k => XS.iloadN X0.here hx rfl (hb hby d65_7) rfl  k) ?_
  show Go p.tables e below P (s₁.setTop (mkF m 8 #[.val (.int (5 : Int32)), .val (.int zn), .val (.int sx), .val (.int (10 : Int32))] [(.int zn), (.int (11 : Int32))]))
  by_cases hc8 : zn.toInt ≤ (11 : Int)
  · refine Go.step (fun t k => XS.icmpYes X0.here hx rfl (pc0 := 8) (pc' := 31) rfl (hb hby d65_8) rfl (icY (cd := .ge) hc8) (by decide) (by decide) k) ?_
    show Go p.tables e below P (s₁.setTop (mkF m 31 #[.val (.int (5 : Int32)), .val (.int zn), .val (.int sx), .val (.int (10 : Int32))] []))
    refine Go.step (fun t k => XS.iconst X0.here hx rfl (hb hby d65_31) k) ?_
    show Go p.tables e below P (s₁.setTop (mkF m 32 #[.val (.int (5 : Int32)), .val (.int zn), .val (.int sx), .val (.int (10 : Int32))] [(.int (0 : Int32))]))
    exact retGo X0 hx hP Bd.returns hlk rfl (Or.inl ⟨rfl, Or.inl rfl, _, rfl⟩) (hb hby d65_32) (by decide) (by decide) (by rw [e0]; exact ⟨0, rfl, by have e1 : (1 : Int32).toInt = 1 := rfl; have e0 : (0 : Int32).toInt = 0 := rfl; unfold pj pr; (repeat' split) <;> omega, N0, rfl⟩)
  · refine Go.step (fun t k => XS.icmpNo X0.here hx rfl (hb hby d65_8) rfl (icN (cd := .ge) hc8) k) ?_
    show Go p.tables e below P (s₁.setTop (mkF m 11 #[.val (.int (5 : Int32)), .val (.int zn), .val (.int sx), .val (.int (10 : Int32))] []))
    refine Go.step (fun t k => XS.iloadN X0.here hx rfl (hb hby d65_11) rfl  k) ?_
    show Go p.tables e below P (s₁.setTop (mkF m 12 #[.val (.int (5 : Int32)), .val (.int zn), .val (.int sx), .val (.int (10 : Int32))] [(.int sx)]))
    refine Go.step (fun t k => XS.iloadN X0.here hx rfl (hb hby d65_12) rfl  k) ?_
    show Go p.tables e below P (s₁.setTop (mkF m 13 #[.val (.int (5 : Int32)), .val (.int zn), .val (.int sx), .val (.int (10 : Int32))] [(.int (10 : Int32)), (.int sx)]))
    obtain ⟨i13, hi13⟩ : ∃ z : Int32, ((sx.toUInt32 >>> ((10 : Int32) &&& 31).toUInt32).toInt32) = z := ⟨_, rfl⟩
    refine Go.step (fun t k => iushr_v X0.here hx rfl (hb hby d65_13) rfl  hi13 k) ?_
    show Go p.tables e below P (s₁.setTop (mkF m 14 #[.val (.int (5 : Int32)), .val (.int zn), .val (.int sx), .val (.int (10 : Int32))] [(.int i13)]))
    refine Go.step (fun t k => XS.iconst X0.here hx rfl (hb hby d65_14) k) ?_
    show Go p.tables e below P (s₁.setTop (mkF m 15 #[.val (.int (5 : Int32)), .val (.int zn), .val (.int sx), .val (.int (10 : Int32))] [(.int (1 : Int32)), (.int i13)]))
    obtain ⟨i15, hi15⟩ : ∃ z : Int32, i13 &&& (1 : Int32) = z := ⟨_, rfl⟩
    refine Go.step (fun t k => iand_v X0.here hx rfl (hb hby d65_15) rfl  hi15 k) ?_
    show Go p.tables e below P (s₁.setTop (mkF m 16 #[.val (.int (5 : Int32)), .val (.int zn), .val (.int sx), .val (.int (10 : Int32))] [(.int i15)]))
    have fz := c_iushr sx (10 : Int32) 10 rfl (by decide); rw [hi13] at fz
    have fm := c_mask i13 (1 : Int32) 1 (by decide) rfl; rw [hi15] at fm
    have hbit : i15.toInt = bit sx 10 := by unfold bit; omega
    have hb01 := bit01 sx 10
    clear fz fm
    have hbit4 : i15.toInt = bit sx (2 * 5) := hbit
    have hb014 : bit sx (2 * 5) = 0 ∨ bit sx (2 * 5) = 1 := hb01
    by_cases hc16 : i15.toInt = 0
    · refine Go.step (fun t k => XS.ifYes X0.here hx rfl (pc0 := 16) (pc' := 31) rfl (hb hby d65_16) rfl (ifY (cd := .eq) hc16) (by decide) (by decide) k) ?_
      show Go p.tables e below P (s₁.setTop (mkF m 31 #[.val (.int (5 : Int32)), .val (.int zn), .val (.int sx), .val (.int (10 : Int32))] []))
      refine Go.step (fun t k => XS.iconst X0.here hx rfl (hb hby d65_31) k) ?_
      show Go p.tables e below P (s₁.setTop (mkF m 32 #[.val (.int (5 : Int32)), .val (.int zn), .val (.int sx), .val (.int (10 : Int32))] [(.int (0 : Int32))]))
      exact retGo X0 hx hP Bd.returns hlk rfl (Or.inl ⟨rfl, Or.inl rfl, _, rfl⟩) (hb hby d65_32) (by decide) (by decide) (by rw [e0]; exact ⟨0, rfl, by have e1 : (1 : Int32).toInt = 1 := rfl; have e0 : (0 : Int32).toInt = 0 := rfl; unfold pj pr; (repeat' split) <;> omega, N0, rfl⟩)
    · refine Go.step (fun t k => XS.ifNo X0.here hx rfl (hb hby d65_16) rfl (ifN (cd := .eq) hc16) k) ?_
      show Go p.tables e below P (s₁.setTop (mkF m 19 #[.val (.int (5 : Int32)), .val (.int zn), .val (.int sx), .val (.int (10 : Int32))] []))
      refine Go.step (fun t k => XS.iloadN X0.here hx rfl (hb hby d65_19) rfl  k) ?_
      show Go p.tables e below P (s₁.setTop (mkF m 20 #[.val (.int (5 : Int32)), .val (.int zn), .val (.int sx), .val (.int (10 : Int32))] [(.int sx)]))
      refine Go.step (fun t k => XS.iloadN X0.here hx rfl (hb hby d65_20) rfl  k) ?_
      show Go p.tables e below P (s₁.setTop (mkF m 21 #[.val (.int (5 : Int32)), .val (.int zn), .val (.int sx), .val (.int (10 : Int32))] [(.int (10 : Int32)), (.int sx)]))
      refine Go.step (fun t k => XS.iconst X0.here hx rfl (hb hby d65_21) k) ?_
      show Go p.tables e below P (s₁.setTop (mkF m 22 #[.val (.int (5 : Int32)), .val (.int zn), .val (.int sx), .val (.int (10 : Int32))] [(.int (1 : Int32)), (.int (10 : Int32)), (.int sx)]))
      obtain ⟨fl_3, hfl_3⟩ : ∃ z : Int32, (10 : Int32) + (1 : Int32) = z := ⟨_, rfl⟩
      refine Go.step (fun t k => iadd_v X0.here hx rfl (hb hby d65_22) rfl  hfl_3 k) ?_
      show Go p.tables e below P (s₁.setTop (mkF m 23 #[.val (.int (5 : Int32)), .val (.int zn), .val (.int sx), .val (.int (10 : Int32))] [(.int fl_3), (.int sx)]))
      have ez_fl_3 : fl_3 = (11 : Int32) := by rw [← hfl_3]; rfl
      subst ez_fl_3
      show Go p.tables e below P (s₁.setTop (mkF m 23 #[.val (.int (5 : Int32)), .val (.int zn), .val (.int sx), .val (.int (10 : Int32))] [(.int (11 : Int32)), (.int sx)]))
      obtain ⟨i23, hi23⟩ : ∃ z : Int32, ((sx.toUInt32 >>> ((11 : Int32) &&& 31).toUInt32).toInt32) = z := ⟨_, rfl⟩
      refine Go.step (fun t k => iushr_v X0.here hx rfl (hb hby d65_23) rfl  hi23 k) ?_
      show Go p.tables e below P (s₁.setTop (mkF m 24 #[.val (.int (5 : Int32)), .val (.int zn), .val (.int sx), .val (.int (10 : Int32))] [(.int i23)]))
      refine Go.step (fun t k => XS.iconst X0.here hx rfl (hb hby d65_24) k) ?_
      show Go p.tables e below P (s₁.setTop (mkF m 25 #[.val (.int (5 : Int32)), .val (.int zn), .val (.int sx), .val (.int (10 : Int32))] [(.int (1 : Int32)), (.int i23)]))
      obtain ⟨i25, hi25⟩ : ∃ z : Int32, i23 &&& (1 : Int32) = z := ⟨_, rfl⟩
      refine Go.step (fun t k => iand_v X0.here hx rfl (hb hby d65_25) rfl  hi25 k) ?_
      show Go p.tables e below P (s₁.setTop (mkF m 26 #[.val (.int (5 : Int32)), .val (.int zn), .val (.int sx), .val (.int (10 : Int32))] [(.int i25)]))
      have fz := c_iushr sx (11 : Int32) 11 rfl (by decide); rw [hi23] at fz
      have fm := c_mask i23 (1 : Int32) 1 (by decide) rfl; rw [hi25] at fm
      have hbit2 : i25.toInt = bit sx 11 := by unfold bit; omega
      have hb012 := bit01 sx 11
      clear fz fm
      have hbit3 : i25.toInt = bit sx (2 * 5 + 1) := hbit2
      have hb013 : bit sx (2 * 5 + 1) = 0 ∨ bit sx (2 * 5 + 1) = 1 := hb012
      by_cases hc26 : i25.toInt = 0
      · refine Go.step (fun t k => XS.ifYes X0.here hx rfl (pc0 := 26) (pc' := 31) rfl (hb hby d65_26) rfl (ifY (cd := .eq) hc26) (by decide) (by decide) k) ?_
        show Go p.tables e below P (s₁.setTop (mkF m 31 #[.val (.int (5 : Int32)), .val (.int zn), .val (.int sx), .val (.int (10 : Int32))] []))
        refine Go.step (fun t k => XS.iconst X0.here hx rfl (hb hby d65_31) k) ?_
        show Go p.tables e below P (s₁.setTop (mkF m 32 #[.val (.int (5 : Int32)), .val (.int zn), .val (.int sx), .val (.int (10 : Int32))] [(.int (0 : Int32))]))
        exact retGo X0 hx hP Bd.returns hlk rfl (Or.inl ⟨rfl, Or.inl rfl, _, rfl⟩) (hb hby d65_32) (by decide) (by decide) (by rw [e0]; exact ⟨0, rfl, by have e1 : (1 : Int32).toInt = 1 := rfl; have e0 : (0 : Int32).toInt = 0 := rfl; unfold pj pr; (repeat' split) <;> omega, N0, rfl⟩)
      · refine Go.step (fun t k => XS.ifNo X0.here hx rfl (hb hby d65_26) rfl (ifN (cd := .eq) hc26) k) ?_
        show Go p.tables e below P (s₁.setTop (mkF m 29 #[.val (.int (5 : Int32)), .val (.int zn), .val (.int sx), .val (.int (10 : Int32))] []))
        refine Go.step (fun t k => XS.iconst X0.here hx rfl (hb hby d65_29) k) ?_
        show Go p.tables e below P (s₁.setTop (mkF m 30 #[.val (.int (5 : Int32)), .val (.int zn), .val (.int sx), .val (.int (10 : Int32))] [(.int (1 : Int32))]))
        exact retGo X0 hx hP Bd.returns hlk rfl (Or.inl ⟨rfl, Or.inl rfl, _, rfl⟩) (hb hby d65_30) (by decide) (by decide) (by rw [e0]; exact ⟨1, rfl, by have e1 : (1 : Int32).toInt = 1 := rfl; have e0 : (0 : Int32).toInt = 0 := rfl; unfold pj pr; (repeat' split) <;> omega, N0, rfl⟩)
theorem pn_0 : plainName "com/example/wrasse/wrasse/WordsToleratedEditsPinLaw" = true := by first | (simp [plainName, overriddenIn]; done) | decide +kernel
theorem ef_0 (m : MethodId) (x0 : Int32) (x1 : Int32) (x2 : Int64) (x3 : Int64) : entryFrame m #[(.int x0), (.int x1), (.long x2), (.long x3)] maxLocals = mkF m 0 #[.val (.int x0), .val (.int x1), .val (.long x2), .second, .val (.long x3), .second, .unset, .unset, .unset, .unset] [] := by first | (simp [entryFrame, mkF, argsToLocals, Value.category, maxLocals]; done) | rfl
def Q0 (Z : State) (p1 : Int32) (sx : Int32) (jl : Int64) (jh : Int64) (cs1 : Int32) (h0 : Heap) (n0 : Nat) (v : Option Value) (h : Heap) (L : List Loc) : Prop := v = some (.int 1) ∧ Fr n0 L
set_option maxRecDepth 65536 in
set_option maxHeartbeats 40000000 in
theorem rm0 (l : Launch) (Z : State) (a0 : Array Value) (hw : ∀ d ∈ tables_1, d.before a0 Z = true) (ws : List Jvm.Cond) (p1 : Int32) (sx : Int32) (jl : Int64) (jh : Int64) (cs1 : Int32) (h0 : Heap) (n0 : Nat) (Z0 : n0 ≤ h0.size) (S0 : Sta Z h0 "java/lang/StringUTF16" "$assertionsDisabled" "Z" (.int (1 : Int32))) (S1 : Sta Z h0 "java/lang/StringUTF16" "HI_BYTE_SHIFT" "I" (.int (0 : Int32))) (S2 : Sta Z h0 "java/lang/StringUTF16" "LO_BYTE_SHIFT" "I" (.int (8 : Int32))) (S3 : Sta Z h0 "java/lang/String" "COMPACT_STRINGS" "Z" (.int cs1)) (hcs1 : ¬ cs1.toInt = 0) :
    MetFree l x (head1 (Jvm.Cond.code x code maxLocals ret :: ws) room_1) (fun a_ U => a_ = #[(.int p1), (.int sx), (.long jl), (.long jh)] ∧ Z.Warmed39 U.vm ∧ U.heap = h0 ∧ CHv Z [("java/lang/String", 7)] U.vm h0) (fun _ _ _ _ _ => True) (fun _ U o U' => ∃ v L, o = .returned v ∧ Q0 Z p1 sx jl jh cs1 h0 n0 v U'.heap L ∧ ReturnedEndW U o U' L 24 1216) := by
  refine MetFree.of_bodySF (plainFor_of_name pn_0) hisR ?_
  intro p e s m args below meth c s₁ Bd hml0 hP0 hK
  obtain ⟨rfl, hZ, hh, hCH⟩ := hP0
  have hx := Bd.exec
  have hby := Bd.bytes
  have hml : c.maxLocals = 10 := hml0
  have hown : s.vm.findClass "com/example/wrasse/wrasse/WordsToleratedEditsPinLaw" = some m.cls := findClass_of_methodNamed Bd.named
  have hnm := (name_of_methodNamed Bd.named Bd.method).1
  have X0 : Stand p l e room_1 s m #[(.int p1), (.int sx), (.long jl), (.long jh)] below meth c s₁ [] 0 0 := Stand.of_body Bd
  have e0 : s₁.heap = h0 := by rw [← hh, Bd.state]; rfl
  have N0 := Fr.nil n0
  have hlk : meth.locks = false := BodyLoose.notSynchronized Bd
  refine Go.start (P₀ := fun s₂ o => ∃ v L, o = .returned v ∧ Q0 Z p1 sx jl jh cs1 h0 n0 v s₂.heap L ∧ ReturnedEndW s o s₂ L 24 1216) (congrArg s₁.setTop (ef_0 m p1 sx jl jh)) ?_
  intro P hP
  show Go p.tables e below P (s₁.setTop (mkF m 0 #[.val (.int p1), .val (.int sx), .val (.long jl), .second, .val (.long jh), .second, .unset, .unset, .unset, .unset] []))
  have hEL : EW Z a0 [("java/lang/String", 7)] := (EW.cons (hw _ (List.mem_of_getElem? (i := 19) rfl)) (by decide) EW.nil)
  have hS : s.Since s.vm h0.size := (State.WarmedH.refl s).since _
  refine Go.step (fun t k => XS.iloadN X0.here hx rfl (hb hby at_0) rfl  k) ?_
  show Go p.tables e below P (s₁.setTop (mkF m 1 #[.val (.int p1), .val (.int sx), .val (.long jl), .second, .val (.long jh), .second, .unset, .unset, .unset, .unset] [(.int p1)]))
  refine Go.step (fun t k => X0.ldcInt hx hown (mvT hZ (hw _ (List.mem_of_getElem? (i := 0) rfl))) (g := (mkF m 1 #[.val (.int p1), .val (.int sx), .val (.long jl), .second, .val (.long jh), .second, .unset, .unset, .unset, .unset] [(.int p1)])) rfl (hb hby at_1) t k) ?_
  show Go p.tables e below P (s₁.setTop (mkF m 3 #[.val (.int p1), .val (.int sx), .val (.long jl), .second, .val (.long jh), .second, .unset, .unset, .unset, .unset] [(.int (2147483647 : Int32)), (.int p1)]))
  obtain ⟨i3, hi3⟩ : ∃ z : Int32, p1 &&& (2147483647 : Int32) = z := ⟨_, rfl⟩
  refine Go.step (fun t k => iand_v X0.here hx rfl (hb hby at_3) rfl  hi3 k) ?_
  show Go p.tables e below P (s₁.setTop (mkF m 4 #[.val (.int p1), .val (.int sx), .val (.long jl), .second, .val (.long jh), .second, .unset, .unset, .unset, .unset] [(.int i3)]))
  refine Go.step (fun t k => XS.bipush X0.here hx rfl (hb hby at_4) k) ?_
  show Go p.tables e below P (s₁.setTop (mkF m 6 #[.val (.int p1), .val (.int sx), .val (.long jl), .second, .val (.long jh), .second, .unset, .unset, .unset, .unset] [(.int (13 : Int32)), (.int i3)]))
  obtain ⟨i6, hi6⟩ : ∃ z : Int32, i3 % (13 : Int32) = z := ⟨_, rfl⟩
  refine Go.step (fun t k => irem_v X0.here hx rfl (hb hby at_6) rfl (by decide) hi6 k) ?_
  show Go p.tables e below P (s₁.setTop (mkF m 7 #[.val (.int p1), .val (.int sx), .val (.long jl), .second, .val (.long jh), .second, .unset, .unset, .unset, .unset] [(.int i6)]))
  have f3 := c_mask p1 (2147483647 : Int32) 31 (by decide) rfl; rw [hi3] at f3
  have f6 := c_irem i3 (13 : Int32) 13 rfl; rw [hi6] at f6
  have f6' := f6.1 (by omega)
  have b6 : 0 ≤ i6.toInt ∧ i6.toInt ≤ 12 := by omega
  obtain ⟨nn, hz⟩ : ∃ nn : Nat, i6.toInt = (nn : Int) := ⟨i6.toInt.toNat, by omega⟩
  clear f3 f6 f6'
  refine Go.step (fun t k => XS.istore X0.here hx rfl (hb hby at_7) rfl (l' := #[.val (.int p1), .val (.int sx), .val (.long jl), .second, .val (.long jh), .second, .val (.int i6), .unset, .unset, .unset]) rfl k) ?_
  show Go p.tables e below P (s₁.setTop (mkF m 9 #[.val (.int p1), .val (.int sx), .val (.long jl), .second, .val (.long jh), .second, .val (.int i6), .unset, .unset, .unset] []))
  refine Go.step (fun t k => XS.iload X0.here hx rfl (hb hby at_9) rfl  k) ?_
  show Go p.tables e below P (s₁.setTop (mkF m 11 #[.val (.int p1), .val (.int sx), .val (.long jl), .second, .val (.long jh), .second, .val (.int i6), .unset, .unset, .unset] [(.int i6)]))
  obtain ⟨T_1, h_1, k_1, X_1, e_1, E_1, A_1, st_1⟩ := newP X0 hx hZ (hw _ (List.mem_of_getElem? (i := 1) rfl)) e0 (g := (mkF m 11 #[.val (.int p1), .val (.int sx), .val (.long jl), .second, .val (.long jh), .second, .val (.int i6), .unset, .unset, .unset] [(.int i6)])) rfl (hb hby at_11) rfl (nlt32 (by omega)) (cap := 12) (by show i6.toInt.toNat ≤ 12; omega) (by decide) (by decide) (by decide)
  obtain ⟨ca, g_1⟩ : ∃ z, z = h0.size := ⟨_, rfl⟩
  rw [← g_1] at A_1 st_1
  have g_ca : n0 ≤ ca := Nat.le_trans Z0 (Nat.le_of_eq g_1.symm)
  have sz_ca : h0.size ≤ ca := Nat.le_trans (Keep.refl h0 []).1 (Nat.le_of_eq g_1.symm)
  have V_1 : Arv Z h_1 ca k_1 .char i6 (List.replicate (0) (.int (0 : Int32))) (.int (0 : Int32)) := by have q := (Arv.new A_1 (nlt32 (by omega))).pad (pad_rep [] (.int (0 : Int32)) (0)); rw [List.nil_append] at q; exact q
  have K_1 : Keep h0 h_1 [] := (Keep.refl h0 []).ext E_1
  have Z_1 : n0 ≤ h_1.size := Nat.le_trans Z0 E_1.1
  refine Go.step (fun t k => st_1 t k) ?_
  show Go p.tables e below P (T_1.setTop (mkF m 13 #[.val (.int p1), .val (.int sx), .val (.long jl), .second, .val (.long jh), .second, .val (.int i6), .unset, .unset, .unset] [(.ref ca)]))
  refine Go.step (fun t k => XS.astore X_1.here hx rfl (hb hby at_13) rfl rfl (l' := #[.val (.int p1), .val (.int sx), .val (.long jl), .second, .val (.long jh), .second, .val (.int i6), .val (.ref ca), .unset, .unset]) rfl k) ?_
  show Go p.tables e below P (T_1.setTop (mkF m 15 #[.val (.int p1), .val (.int sx), .val (.long jl), .second, .val (.long jh), .second, .val (.int i6), .val (.ref ca), .unset, .unset] []))
  have JJ12 : ∀ (cs : List Int32) (TL : State) (LL : List Loc) (hL : Heap) (XL : Stand p l e room_1 s m #[(.int p1), (.int sx), (.long jl), (.long jh)] below meth c TL LL 1 12) (NL : Fr n0 LL) (eL : TL.heap = hL) (KL : Keep h0 hL []) (VL : Arv Z hL ca k_1 .char i6 (cs.map Value.int) (.int (0 : Int32))), (AllOk sx 0 cs ∧ (∀ x ∈ cs, 0 ≤ x.toInt ∧ x.toInt < 65536) ∧ ((nn ≤ 12 ∧ cs.length = nn) ∨ (12 < nn ∧ cs.length = 12))) → Go p.tables e below P (TL.setTop (mkF m 248 #[.val (.int p1), .val (.int sx), .val (.long jl), .second, .val (.long jh), .second, .val (.int i6), .val (.ref ca), .unset, .unset] [])) := by
    intro cs TL LL hL XL NL eL KL VL hyp
    obtain ⟨hok, hch, hlen⟩ := hyp
    show Go p.tables e below P (TL.setTop (mkF m 248 #[.val (.int p1), .val (.int sx), .val (.long jl), .second, .val (.long jh), .second, .val (.int i6), .val (.ref ca), .unset, .unset] []))
    have hln : cs.length = nn := by omega
    have zc : i6.toInt = (cs.length : Int) := by omega
    have hn12 : cs.length ≤ 12 := by omega
    refine Go.step (fun t k => XS.iload XL.here hx rfl (hb hby at_248) rfl  k) ?_
    show Go p.tables e below P (TL.setTop (mkF m 250 #[.val (.int p1), .val (.int sx), .val (.long jl), .second, .val (.long jh), .second, .val (.int i6), .val (.ref ca), .unset, .unset] [(.int i6)]))
    refine Go.step (fun t k => XS.iconst XL.here hx rfl (hb hby at_250) k) ?_
    show Go p.tables e below P (TL.setTop (mkF m 251 #[.val (.int p1), .val (.int sx), .val (.long jl), .second, .val (.long jh), .second, .val (.int i6), .val (.ref ca), .unset, .unset] [(.int (0 : Int32)), (.int i6)]))
    refine Go.step (fun t k => XS.iload XL.here hx rfl (hb hby at_251) rfl  k) ?_
    show Go p.tables e below P (TL.setTop (mkF m 253 #[.val (.int p1), .val (.int sx), .val (.long jl), .second, .val (.long jh), .second, .val (.int i6), .val (.ref ca), .unset, .unset] [(.int i6), (.int (0 : Int32)), (.int i6)]))
    refine Go.step (fun t k => XS.iloadN XL.here hx rfl (hb hby at_253) rfl  k) ?_
    show Go p.tables e below P (TL.setTop (mkF m 254 #[.val (.int p1), .val (.int sx), .val (.long jl), .second, .val (.long jh), .second, .val (.int i6), .val (.ref ca), .unset, .unset] [(.int sx), (.int i6), (.int (0 : Int32)), (.int i6)]))
    obtain ⟨_, _, ⟨T_2, L_2, k_2, n_2⟩, -, X_2, ⟨Lc_2, hQ_2, l_2, y_2, z_2⟩, st_2⟩ := Jvm.LawKit.callS XL hx (y := (⟨"com/example/wrasse/wrasse/WordsToleratedEditsPinLaw", "pair", "(III)I"⟩ : MethodName)) hown (mvT hZ (hw _ (List.mem_of_getElem? (i := 2) rfl))) (mvT hZ (hw _ (List.mem_of_getElem? (i := 3) rfl))) (mvT hZ (hw _ (List.mem_of_getElem? (i := 4) rfl))) (mvT hZ (hw _ (List.mem_of_getElem? (i := 5) rfl))) (by decide) (backOf (W := 1) (pair0 l Z a0 hw [] i6 sx nn hL n0 (Nat.le_trans Z0 KL.1) hz) hZ (hw _ (List.mem_of_getElem? (i := 5) rfl)) (hw _ (List.mem_of_getElem? (i := 4) rfl)) (by decide) (by decide)) (g := (mkF m 254 #[.val (.int p1), .val (.int sx), .val (.long jl), .second, .val (.long jh), .second, .val (.int i6), .val (.ref ca), .unset, .unset] [(.int sx), (.int i6), (.int (0 : Int32)), (.int i6)])) rfl (by rw [hml]; rfl) (argsL := [(.int (0 : Int32)), (.int i6), (.int sx)]) (rest := [(.int i6)]) (lenOf pd_13 rfl) rfl (by show 2 * 0 + _ ≤ _; exact Nat.le_of_eq rfl) (hb hby at_254) (fun _ _ => ⟨rfl, eL, (by decide : 1 + 0 ≤ _), (by decide : 12 + 0 ≤ _)⟩)
    dsimp only [Pt.U, Pt.locs, Pt.cells, Pt.slots] at X_2 l_2 y_2 z_2 st_2 hQ_2
    subst l_2 y_2 z_2
    obtain ⟨r0, rfl, hr0, N_2q, eh_2⟩ := hQ_2
    have N_2 := Fr.app NL N_2q
    refine Go.step (fun t k => st_2 t k) ?_
    show Go p.tables e below P (T_2.setTop (mkF m 257 #[.val (.int p1), .val (.int sx), .val (.long jl), .second, .val (.long jh), .second, .val (.int i6), .val (.ref ca), .unset, .unset] [(.int r0), (.int i6)]))
    obtain ⟨i257, hi257⟩ : ∃ z : Int32, i6 - r0 = z := ⟨_, rfl⟩
    refine Go.step (fun t k => isub_v X_2.here hx rfl (hb hby at_257) rfl  hi257 k) ?_
    show Go p.tables e below P (T_2.setTop (mkF m 258 #[.val (.int p1), .val (.int sx), .val (.long jl), .second, .val (.long jh), .second, .val (.int i6), .val (.ref ca), .unset, .unset] [(.int i257)]))
    have hp0 : 0 ≤ r0.toInt ∧ r0.toInt ≤ 1 := by rw [hr0]; unfold pj pr; (repeat' split) <;> omega
    have f254 := c_isub i6 r0; rw [hi257] at f254
    have g254 := rng32 i257
    have v254 : i257.toInt = i6.toInt - r0.toInt := by omega
    clear f254
    refine Go.step (fun t k => XS.iconst X_2.here hx rfl (hb hby at_258) k) ?_
    show Go p.tables e below P (T_2.setTop (mkF m 259 #[.val (.int p1), .val (.int sx), .val (.long jl), .second, .val (.long jh), .second, .val (.int i6), .val (.ref ca), .unset, .unset] [(.int (1 : Int32)), (.int i257)]))
    refine Go.step (fun t k => XS.iload X_2.here hx rfl (hb hby at_259) rfl  k) ?_
    show Go p.tables e below P (T_2.setTop (mkF m 261 #[.val (.int p1), .val (.int sx), .val (.long jl), .second, .val (.long jh), .second, .val (.int i6), .val (.ref ca), .unset, .unset] [(.int i6), (.int (1 : Int32)), (.int i257)]))
    refine Go.step (fun t k => XS.iloadN X_2.here hx rfl (hb hby at_261) rfl  k) ?_
    show Go p.tables e below P (T_2.setTop (mkF m 262 #[.val (.int p1), .val (.int sx), .val (.long jl), .second, .val (.long jh), .second, .val (.int i6), .val (.ref ca), .unset, .unset] [(.int sx), (.int i6), (.int (1 : Int32)), (.int i257)]))
    obtain ⟨_, _, ⟨T_3, L_3, k_3, n_3⟩, -, X_3, ⟨Lc_3, hQ_3, l_3, y_3, z_3⟩, st_3⟩ := Jvm.LawKit.callS X_2 hx (y := (⟨"com/example/wrasse/wrasse/WordsToleratedEditsPinLaw", "pair", "(III)I"⟩ : MethodName)) hown (mvT hZ (hw _ (List.mem_of_getElem? (i := 2) rfl))) (mvT hZ (hw _ (List.mem_of_getElem? (i := 3) rfl))) (mvT hZ (hw _ (List.mem_of_getElem? (i := 4) rfl))) (mvT hZ (hw _ (List.mem_of_getElem? (i := 5) rfl))) (by decide) (backOf (W := 1) (pair1 l Z a0 hw [] i6 sx nn hL n0 (Nat.le_trans Z0 KL.1) hz) hZ (hw _ (List.mem_of_getElem? (i := 5) rfl)) (hw _ (List.mem_of_getElem? (i := 4) rfl)) (by decide) (by decide)) (g := (mkF m 262 #[.val (.int p1), .val (.int sx), .val (.long jl), .second, .val (.long jh), .second, .val (.int i6), .val (.ref ca), .unset, .unset] [(.int sx), (.int i6), (.int (1 : Int32)), (.int i257)])) rfl (by rw [hml]; rfl) (argsL := [(.int (1 : Int32)), (.int i6), (.int sx)]) (rest := [(.int i257)]) (lenOf pd_13 rfl) rfl (by show 2 * 0 + _ ≤ _; exact Nat.le_of_eq rfl) (hb hby at_262) (fun _ _ => ⟨rfl, eh_2, (by decide : 1 + 0 ≤ _), (by decide : 12 + 0 ≤ _)⟩)
    dsimp only [Pt.U, Pt.locs, Pt.cells, Pt.slots] at X_3 l_3 y_3 z_3 st_3 hQ_3
    subst l_3 y_3 z_3
    obtain ⟨r1, rfl, hr1, N_3q, eh_3⟩ := hQ_3
    have N_3 := Fr.app N_2 N_3q
    refine Go.step (fun t k => st_3 t k) ?_
    show Go p.tables e below P (T_3.setTop (mkF m 265 #[.val (.int p1), .val (.int sx), .val (.long jl), .second, .val (.long jh), .second, .val (.int i6), .val (.ref ca), .unset, .unset] [(.int r1), (.int i257)]))
    obtain ⟨i265, hi265⟩ : ∃ z : Int32, i257 - r1 = z := ⟨_, rfl⟩
    refine Go.step (fun t k => isub_v X_3.here hx rfl (hb hby at_265) rfl  hi265 k) ?_
    show Go p.tables e below P (T_3.setTop (mkF m 266 #[.val (.int p1), .val (.int sx), .val (.long jl), .second, .val (.long jh), .second, .val (.int i6), .val (.ref ca), .unset, .unset] [(.int i265)]))
    have hp1 : 0 ≤ r1.toInt ∧ r1.toInt ≤ 1 := by rw [hr1]; unfold pj pr; (repeat' split) <;> omega
    have f262 := c_isub i257 r1; rw [hi265] at f262
    have g262 := rng32 i265
    have v262 : i265.toInt = i257.toInt - r1.toInt := by omega
    clear f262
    refine Go.step (fun t k => XS.iconst X_3.here hx rfl (hb hby at_266) k) ?_
    show Go p.tables e below P (T_3.setTop (mkF m 267 #[.val (.int p1), .val (.int sx), .val (.long jl), .second, .val (.long jh), .second, .val (.int i6), .val (.ref ca), .unset, .unset] [(.int (2 : Int32)), (.int i265)]))
    refine Go.step (fun t k => XS.iload X_3.here hx rfl (hb hby at_267) rfl  k) ?_
    show Go p.tables e below P (T_3.setTop (mkF m 269 #[.val (.int p1), .val (.int sx), .val (.long jl), .second, .val (.long jh), .second, .val (.int i6), .val (.ref ca), .unset, .unset] [(.int i6), (.int (2 : Int32)), (.int i265)]))
    refine Go.step (fun t k => XS.iloadN X_3.here hx rfl (hb hby at_269) rfl  k) ?_
    show Go p.tables e below P (T_3.setTop (mkF m 270 #[.val (.int p1), .val (.int sx), .val (.long jl), .second, .val (.long jh), .second, .val (.int i6), .val (.ref ca), .unset, .unset] [(.int sx), (.int i6), (.int (2 : Int32)), (.int i265)]))
    obtain ⟨_, _, ⟨T_4, L_4, k_4, n_4⟩, -, X_4, ⟨Lc_4, hQ_4, l_4, y_4, z_4⟩, st_4⟩ := Jvm.LawKit.callS X_3 hx (y := (⟨"com/example/wrasse/wrasse/WordsToleratedEditsPinLaw", "pair", "(III)I"⟩ : MethodName)) hown (mvT hZ (hw _ (List.mem_of_getElem? (i := 2) rfl))) (mvT hZ (hw _ (List.mem_of_getElem? (i := 3) rfl))) (mvT hZ (hw _ (List.mem_of_getElem? (i := 4) rfl))) (mvT hZ (hw _ (List.mem_of_getElem? (i := 5) rfl))) (by decide) (backOf (W := 1) (pair2 l Z a0 hw [] i6 sx nn hL n0 (Nat.le_trans Z0 KL.1) hz) hZ (hw _ (List.mem_of_getElem? (i := 5) rfl)) (hw _ (List.mem_of_getElem? (i := 4) rfl)) (by decide) (by decide)) (g := (mkF m 270 #[.val (.int p1), .val (.int sx), .val (.long jl), .second, .val (.long jh), .second, .val (.int i6), .val (.ref ca), .unset, .unset] [(.int sx), (.int i6), (.int (2 : Int32)), (.int i265)])) rfl (by rw [hml]; rfl) (argsL := [(.int (2 : Int32)), (.int i6), (.int sx)]) (rest := [(.int i265)]) (lenOf pd_13 rfl) rfl (by show 2 * 0 + _ ≤ _; exact Nat.le_of_eq rfl) (hb hby at_270) (fun _ _ => ⟨rfl, eh_3, (by decide : 1 + 0 ≤ _), (by decide : 12 + 0 ≤ _)⟩)
    dsimp only [Pt.U, Pt.locs, Pt.cells, Pt.slots] at X_4 l_4 y_4 z_4 st_4 hQ_4
    subst l_4 y_4 z_4
    obtain ⟨r2, rfl, hr2, N_4q, eh_4⟩ := hQ_4
    have N_4 := Fr.app N_3 N_4q
    refine Go.step (fun t k => st_4 t k) ?_
    show Go p.tables e below P (T_4.setTop (mkF m 273 #[.val (.int p1), .val (.int sx), .val (.long jl), .second, .val (.long jh), .second, .val (.int i6), .val (.ref ca), .unset, .unset] [(.int r2), (.int i265)]))
    obtain ⟨i273, hi273⟩ : ∃ z : Int32, i265 - r2 = z := ⟨_, rfl⟩
    refine Go.step (fun t k => isub_v X_4.here hx rfl (hb hby at_273) rfl  hi273 k) ?_
    show Go p.tables e below P (T_4.setTop (mkF m 274 #[.val (.int p1), .val (.int sx), .val (.long jl), .second, .val (.long jh), .second, .val (.int i6), .val (.ref ca), .unset, .unset] [(.int i273)]))
    have hp2 : 0 ≤ r2.toInt ∧ r2.toInt ≤ 1 := by rw [hr2]; unfold pj pr; (repeat' split) <;> omega
    have f270 := c_isub i265 r2; rw [hi273] at f270
    have g270 := rng32 i273
    have v270 : i273.toInt = i265.toInt - r2.toInt := by omega
    clear f270
    refine Go.step (fun t k => XS.iconst X_4.here hx rfl (hb hby at_274) k) ?_
    show Go p.tables e below P (T_4.setTop (mkF m 275 #[.val (.int p1), .val (.int sx), .val (.long jl), .second, .val (.long jh), .second, .val (.int i6), .val (.ref ca), .unset, .unset] [(.int (3 : Int32)), (.int i273)]))
    refine Go.step (fun t k => XS.iload X_4.here hx rfl (hb hby at_275) rfl  k) ?_
    show Go p.tables e below P (T_4.setTop (mkF m 277 #[.val (.int p1), .val (.int sx), .val (.long jl), .second, .val (.long jh), .second, .val (.int i6), .val (.ref ca), .unset, .unset] [(.int i6), (.int (3 : Int32)), (.int i273)]))
    refine Go.step (fun t k => XS.iloadN X_4.here hx rfl (hb hby at_277) rfl  k) ?_
    show Go p.tables e below P (T_4.setTop (mkF m 278 #[.val (.int p1), .val (.int sx), .val (.long jl), .second, .val (.long jh), .second, .val (.int i6), .val (.ref ca), .unset, .unset] [(.int sx), (.int i6), (.int (3 : Int32)), (.int i273)]))
    obtain ⟨_, _, ⟨T_5, L_5, k_5, n_5⟩, -, X_5, ⟨Lc_5, hQ_5, l_5, y_5, z_5⟩, st_5⟩ := Jvm.LawKit.callS X_4 hx (y := (⟨"com/example/wrasse/wrasse/WordsToleratedEditsPinLaw", "pair", "(III)I"⟩ : MethodName)) hown (mvT hZ (hw _ (List.mem_of_getElem? (i := 2) rfl))) (mvT hZ (hw _ (List.mem_of_getElem? (i := 3) rfl))) (mvT hZ (hw _ (List.mem_of_getElem? (i := 4) rfl))) (mvT hZ (hw _ (List.mem_of_getElem? (i := 5) rfl))) (by decide) (backOf (W := 1) (pair3 l Z a0 hw [] i6 sx nn hL n0 (Nat.le_trans Z0 KL.1) hz) hZ (hw _ (List.mem_of_getElem? (i := 5) rfl)) (hw _ (List.mem_of_getElem? (i := 4) rfl)) (by decide) (by decide)) (g := (mkF m 278 #[.val (.int p1), .val (.int sx), .val (.long jl), .second, .val (.long jh), .second, .val (.int i6), .val (.ref ca), .unset, .unset] [(.int sx), (.int i6), (.int (3 : Int32)), (.int i273)])) rfl (by rw [hml]; rfl) (argsL := [(.int (3 : Int32)), (.int i6), (.int sx)]) (rest := [(.int i273)]) (lenOf pd_13 rfl) rfl (by show 2 * 0 + _ ≤ _; exact Nat.le_of_eq rfl) (hb hby at_278) (fun _ _ => ⟨rfl, eh_4, (by decide : 1 + 0 ≤ _), (by decide : 12 + 0 ≤ _)⟩)
    dsimp only [Pt.U, Pt.locs, Pt.cells, Pt.slots] at X_5 l_5 y_5 z_5 st_5 hQ_5
    subst l_5 y_5 z_5
    obtain ⟨r3, rfl, hr3, N_5q, eh_5⟩ := hQ_5
    have N_5 := Fr.app N_4 N_5q
    refine Go.step (fun t k => st_5 t k) ?_
    show Go p.tables e below P (T_5.setTop (mkF m 281 #[.val (.int p1), .val (.int sx), .val (.long jl), .second, .val (.long jh), .second, .val (.int i6), .val (.ref ca), .unset, .unset] [(.int r3), (.int i273)]))
    obtain ⟨i281, hi281⟩ : ∃ z : Int32, i273 - r3 = z := ⟨_, rfl⟩
    refine Go.step (fun t k => isub_v X_5.here hx rfl (hb hby at_281) rfl  hi281 k) ?_
    show Go p.tables e below P (T_5.setTop (mkF m 282 #[.val (.int p1), .val (.int sx), .val (.long jl), .second, .val (.long jh), .second, .val (.int i6), .val (.ref ca), .unset, .unset] [(.int i281)]))
    have hp3 : 0 ≤ r3.toInt ∧ r3.toInt ≤ 1 := by rw [hr3]; unfold pj pr; (repeat' split) <;> omega
    have f278 := c_isub i273 r3; rw [hi281] at f278
    have g278 := rng32 i281
    have v278 : i281.toInt = i273.toInt - r3.toInt := by omega
    clear f278
    refine Go.step (fun t k => XS.iconst X_5.here hx rfl (hb hby at_282) k) ?_
    show Go p.tables e below P (T_5.setTop (mkF m 283 #[.val (.int p1), .val (.int sx), .val (.long jl), .second, .val (.long jh), .second, .val (.int i6), .val (.ref ca), .unset, .unset] [(.int (4 : Int32)), (.int i281)]))
    refine Go.step (fun t k => XS.iload X_5.here hx rfl (hb hby at_283) rfl  k) ?_
    show Go p.tables e below P (T_5.setTop (mkF m 285 #[.val (.int p1), .val (.int sx), .val (.long jl), .second, .val (.long jh), .second, .val (.int i6), .val (.ref ca), .unset, .unset] [(.int i6), (.int (4 : Int32)), (.int i281)]))
    refine Go.step (fun t k => XS.iloadN X_5.here hx rfl (hb hby at_285) rfl  k) ?_
    show Go p.tables e below P (T_5.setTop (mkF m 286 #[.val (.int p1), .val (.int sx), .val (.long jl), .second, .val (.long jh), .second, .val (.int i6), .val (.ref ca), .unset, .unset] [(.int sx), (.int i6), (.int (4 : Int32)), (.int i281)]))
    obtain ⟨_, _, ⟨T_6, L_6, k_6, n_6⟩, -, X_6, ⟨Lc_6, hQ_6, l_6, y_6, z_6⟩, st_6⟩ := Jvm.LawKit.callS X_5 hx (y := (⟨"com/example/wrasse/wrasse/WordsToleratedEditsPinLaw", "pair", "(III)I"⟩ : MethodName)) hown (mvT hZ (hw _ (List.mem_of_getElem? (i := 2) rfl))) (mvT hZ (hw _ (List.mem_of_getElem? (i := 3) rfl))) (mvT hZ (hw _ (List.mem_of_getElem? (i := 4) rfl))) (mvT hZ (hw _ (List.mem_of_getElem? (i := 5) rfl))) (by decide) (backOf (W := 1) (pair4 l Z a0 hw [] i6 sx nn hL n0 (Nat.le_trans Z0 KL.1) hz) hZ (hw _ (List.mem_of_getElem? (i := 5) rfl)) (hw _ (List.mem_of_getElem? (i := 4) rfl)) (by decide) (by decide)) (g := (mkF m 286 #[.val (.int p1), .val (.int sx), .val (.long jl), .second, .val (.long jh), .second, .val (.int i6), .val (.ref ca), .unset, .unset] [(.int sx), (.int i6), (.int (4 : Int32)), (.int i281)])) rfl (by rw [hml]; rfl) (argsL := [(.int (4 : Int32)), (.int i6), (.int sx)]) (rest := [(.int i281)]) (lenOf pd_13 rfl) rfl (by show 2 * 0 + _ ≤ _; exact Nat.le_of_eq rfl) (hb hby at_286) (fun _ _ => ⟨rfl, eh_5, (by decide : 1 + 0 ≤ _), (by decide : 12 + 0 ≤ _)⟩)
    dsimp only [Pt.U, Pt.locs, Pt.cells, Pt.slots] at X_6 l_6 y_6 z_6 st_6 hQ_6
    subst l_6 y_6 z_6
    obtain ⟨r4, rfl, hr4, N_6q, eh_6⟩ := hQ_6
    have N_6 := Fr.app N_5 N_6q
    refine Go.step (fun t k => st_6 t k) ?_
    show Go p.tables e below P (T_6.setTop (mkF m 289 #[.val (.int p1), .val (.int sx), .val (.long jl), .second, .val (.long jh), .second, .val (.int i6), .val (.ref ca), .unset, .unset] [(.int r4), (.int i281)]))
    obtain ⟨i289, hi289⟩ : ∃ z : Int32, i281 - r4 = z := ⟨_, rfl⟩
    refine Go.step (fun t k => isub_v X_6.here hx rfl (hb hby at_289) rfl  hi289 k) ?_
    show Go p.tables e below P (T_6.setTop (mkF m 290 #[.val (.int p1), .val (.int sx), .val (.long jl), .second, .val (.long jh), .second, .val (.int i6), .val (.ref ca), .unset, .unset] [(.int i289)]))
    have hp4 : 0 ≤ r4.toInt ∧ r4.toInt ≤ 1 := by rw [hr4]; unfold pj pr; (repeat' split) <;> omega
    have f286 := c_isub i281 r4; rw [hi289] at f286
    have g286 := rng32 i289
    have v286 : i289.toInt = i281.toInt - r4.toInt := by omega
    clear f286
    refine Go.step (fun t k => XS.iconst X_6.here hx rfl (hb hby at_290) k) ?_
    show Go p.tables e below P (T_6.setTop (mkF m 291 #[.val (.int p1), .val (.int sx), .val (.long jl), .second, .val (.long jh), .second, .val (.int i6), .val (.ref ca), .unset, .unset] [(.int (5 : Int32)), (.int i289)]))
    refine Go.step (fun t k => XS.iload X_6.here hx rfl (hb hby at_291) rfl  k) ?_
    show Go p.tables e below P (T_6.setTop (mkF m 293 #[.val (.int p1), .val (.int sx), .val (.long jl), .second, .val (.long jh), .second, .val (.int i6), .val (.ref ca), .unset, .unset] [(.int i6), (.int (5 : Int32)), (.int i289)]))
    refine Go.step (fun t k => XS.iloadN X_6.here hx rfl (hb hby at_293) rfl  k) ?_
    show Go p.tables e below P (T_6.setTop (mkF m 294 #[.val (.int p1), .val (.int sx), .val (.long jl), .second, .val (.long jh), .second, .val (.int i6), .val (.ref ca), .unset, .unset] [(.int sx), (.int i6), (.int (5 : Int32)), (.int i289)]))
    obtain ⟨_, _, ⟨T_7, L_7, k_7, n_7⟩, -, X_7, ⟨Lc_7, hQ_7, l_7, y_7, z_7⟩, st_7⟩ := Jvm.LawKit.callS X_6 hx (y := (⟨"com/example/wrasse/wrasse/WordsToleratedEditsPinLaw", "pair", "(III)I"⟩ : MethodName)) hown (mvT hZ (hw _ (List.mem_of_getElem? (i := 2) rfl))) (mvT hZ (hw _ (List.mem_of_getElem? (i := 3) rfl))) (mvT hZ (hw _ (List.mem_of_getElem? (i := 4) rfl))) (mvT hZ (hw _ (List.mem_of_getElem? (i := 5) rfl))) (by decide) (backOf (W := 1) (pair5 l Z a0 hw [] i6 sx nn hL n0 (Nat.le_trans Z0 KL.1) hz) hZ (hw _ (List.mem_of_getElem? (i := 5) rfl)) (hw _ (List.mem_of_getElem? (i := 4) rfl)) (by decide) (by decide)) (g := (mkF m 294 #[.val (.int p1), .val (.int sx), .val (.long jl), .second, .val (.long jh), .second, .val (.int i6), .val (.ref ca), .unset, .unset] [(.int sx), (.int i6), (.int (5 : Int32)), (.int i289)])) rfl (by rw [hml]; rfl) (argsL := [(.int (5 : Int32)), (.int i6), (.int sx)]) (rest := [(.int i289)]) (lenOf pd_13 rfl) rfl (by show 2 * 0 + _ ≤ _; exact Nat.le_of_eq rfl) (hb hby at_294) (fun _ _ => ⟨rfl, eh_6, (by decide : 1 + 0 ≤ _), (by decide : 12 + 0 ≤ _)⟩)
    dsimp only [Pt.U, Pt.locs, Pt.cells, Pt.slots] at X_7 l_7 y_7 z_7 st_7 hQ_7
    subst l_7 y_7 z_7
    obtain ⟨r5, rfl, hr5, N_7q, eh_7⟩ := hQ_7
    have N_7 := Fr.app N_6 N_7q
    refine Go.step (fun t k => st_7 t k) ?_
    show Go p.tables e below P (T_7.setTop (mkF m 297 #[.val (.int p1), .val (.int sx), .val (.long jl), .second, .val (.long jh), .second, .val (.int i6), .val (.ref ca), .unset, .unset] [(.int r5), (.int i289)]))
    obtain ⟨i297, hi297⟩ : ∃ z : Int32, i289 - r5 = z := ⟨_, rfl⟩
    refine Go.step (fun t k => isub_v X_7.here hx rfl (hb hby at_297) rfl  hi297 k) ?_
    show Go p.tables e below P (T_7.setTop (mkF m 298 #[.val (.int p1), .val (.int sx), .val (.long jl), .second, .val (.long jh), .second, .val (.int i6), .val (.ref ca), .unset, .unset] [(.int i297)]))
    have hp5 : 0 ≤ r5.toInt ∧ r5.toInt ≤ 1 := by rw [hr5]; unfold pj pr; (repeat' split) <;> omega
    have f294 := c_isub i289 r5; rw [hi297] at f294
    have g294 := rng32 i297
    have v294 : i297.toInt = i289.toInt - r5.toInt := by omega
    clear f294
    refine Go.step (fun t k => XS.istore X_7.here hx rfl (hb hby at_298) rfl (l' := #[.val (.int p1), .val (.int sx), .val (.long jl), .second, .val (.long jh), .second, .val (.int i6), .val (.ref ca), .val (.int i297), .unset]) rfl k) ?_
    show Go p.tables e below P (T_7.setTop (mkF m 300 #[.val (.int p1), .val (.int sx), .val (.long jl), .second, .val (.long jh), .second, .val (.int i6), .val (.ref ca), .val (.int i297), .unset] []))
    have hlaw := cpc_law sx cs 0 rfl hok
    have hsum := plN_sum sx nn (by omega)
    rw [hln] at hlaw
    have hcp : i297.toInt = cpc cs := by omega
    have J328 : ∀ (ex : Int32), ((8 ≤ cpc cs ∧ ex.toInt = 2) ∨ (4 ≤ cpc cs ∧ cpc cs < 8 ∧ ex.toInt = 1) ∨ (cpc cs < 4 ∧ ex.toInt = 0)) → Go p.tables e below P (T_7.setTop (mkF m 328 #[.val (.int p1), .val (.int sx), .val (.long jl), .second, .val (.long jh), .second, .val (.int i6), .val (.ref ca), .val (.int i297), .val (.int ex)] [])) := by
      intro ex hj_
      show Go p.tables e below P (T_7.setTop (mkF m 328 #[.val (.int p1), .val (.int sx), .val (.long jl), .second, .val (.long jh), .second, .val (.int i6), .val (.ref ca), .val (.int i297), .val (.int ex)] []))
      obtain ⟨T_8, h_8, X_8, e_8, E_8, A_8, D_8, -, st_8⟩ := newO X_7 hx hZ hown (hw _ (List.mem_of_getElem? (i := 6) rfl)) (hw _ (List.mem_of_getElem? (i := 7) rfl)) (hw _ (List.mem_of_getElem? (i := 8) rfl)) eh_7 (g := (mkF m 328 #[.val (.int p1), .val (.int sx), .val (.long jl), .second, .val (.long jh), .second, .val (.int i6), .val (.ref ca), .val (.int i297), .val (.int ex)] [])) rfl (hb hby at_328) (by decide) (by decide)
      obtain ⟨b_8, g_8⟩ : ∃ z, z = hL.size := ⟨_, rfl⟩
      rw [← g_8] at A_8 D_8 st_8
      have g_b_8 : n0 ≤ b_8 := Nat.le_trans (Nat.le_trans Z0 KL.1) (Nat.le_of_eq g_8.symm)
      have sz_b_8 : h0.size ≤ b_8 := Nat.le_trans KL.1 (Nat.le_of_eq g_8.symm)
      have lt_ca_b_8 : ca < b_8 := Nat.lt_of_lt_of_le VL.lt (Nat.le_of_eq g_8.symm)
      have F_value_b_8 : Fld Z h_8 b_8 "java/lang/String" "value" "[B" .null := D_8 (Or.inr (hw _ (List.mem_of_getElem? (i := 21) rfl))) (ty := (.array .byte)) (by decide)
      have F_coder_b_8 : Fld Z h_8 b_8 "java/lang/String" "coder" "B" (.int (0 : Int32)) := D_8 (Or.inr (hw _ (List.mem_of_getElem? (i := 22) rfl))) (ty := .byte) (by decide)
      have K_8 : Keep h0 h_8 [] := KL.ext E_8
      have Z_8 : n0 ≤ h_8.size := Nat.le_trans (Nat.le_trans Z0 KL.1) E_8.1
      refine Go.step (fun t k => st_8 t k) ?_
      show Go p.tables e below P (T_8.setTop (mkF m 331 #[.val (.int p1), .val (.int sx), .val (.long jl), .second, .val (.long jh), .second, .val (.int i6), .val (.ref ca), .val (.int i297), .val (.int ex)] [(.ref b_8)]))
      refine Go.step (fun t k => XS.dup X_8.here hx rfl (hb hby at_331) rfl rfl k) ?_
      show Go p.tables e below P (T_8.setTop (mkF m 332 #[.val (.int p1), .val (.int sx), .val (.long jl), .second, .val (.long jh), .second, .val (.int i6), .val (.ref ca), .val (.int i297), .val (.int ex)] [(.ref b_8), (.ref b_8)]))
      refine Go.step (fun t k => XS.aload X_8.here hx rfl (hb hby at_332) rfl rfl k) ?_
      show Go p.tables e below P (T_8.setTop (mkF m 334 #[.val (.int p1), .val (.int sx), .val (.long jl), .second, .val (.long jh), .second, .val (.int i6), .val (.ref ca), .val (.int i297), .val (.int ex)] [(.ref ca), (.ref b_8), (.ref b_8)]))
      by_cases hpos : 0 < cs.length
      · obtain ⟨_, _, ⟨T_9, L_9, k_9, n_9⟩, -, X_9, ⟨Lc_9, hQ_9, l_9, y_9, z_9⟩, st_9⟩ := X_8.specialBack hx (y := (⟨"java/lang/String", "<init>", "([C)V"⟩ : MethodName)) rfl hown (mvT hZ (hw _ (List.mem_of_getElem? (i := 9) rfl))) (mvT hZ (hw _ (List.mem_of_getElem? (i := 10) rfl))) (mvT hZ (hw _ (List.mem_of_getElem? (i := 11) rfl))) (by decide) (backOf (W := 1) (rm13 l Z a0 hw [] b_8 ca i6 k_1 cs cs1 h_8 n0 Z_8 (VL.ext E_8) zc hn12 hch hpos (Ne.symm (Nat.ne_of_lt lt_ca_b_8)) A_8 F_value_b_8 F_coder_b_8 g_b_8 (Sta_keepX S0 K_8 ns0_) (Sta_keepX S1 K_8 ns0_) (Sta_keepX S2 K_8 ns0_) (Sta_keepX S3 K_8 ns0_) hcs1) hZ (hw _ (List.mem_of_getElem? (i := 11) rfl)) (hw _ (List.mem_of_getElem? (i := 8) rfl)) (by decide) (by decide)) (g := (mkF m 334 #[.val (.int p1), .val (.int sx), .val (.long jl), .second, .val (.long jh), .second, .val (.int i6), .val (.ref ca), .val (.int i297), .val (.int ex)] [(.ref ca), (.ref b_8), (.ref b_8)])) rfl (by rw [hml]; rfl) (Steps.refl _) (a := b_8) (argsL := [(.ref ca)]) (rest := [(.ref b_8)]) (lenOf pd_18 rfl) rfl (by show 2 * 0 + _ ≤ _; exact Nat.le_of_eq rfl) (hb hby at_334) (fun _ _ => ⟨rfl, e_8, (by decide : 2 + 2 ≤ _), (by decide : 16 + 36 ≤ _)⟩)
        dsimp only [Pt.U, Pt.locs, Pt.cells, Pt.slots] at X_9 l_9 y_9 z_9 st_9 hQ_9
        subst l_9 y_9 z_9
        obtain ⟨rfl, N_9q, Kc_9, b, kb, zb, vl, cd, Ea, Fv, Fc, Vb, hcase⟩ := hQ_9
        have N_9 := Fr.app N_7 N_9q
        have K_9 : Keep h0 T_9.heap [] := K_8.trans Kc_9 (allS (Or.inr sz_b_8) all0)
        have Z_9 : n0 ≤ T_9.heap.size := Nat.le_trans Z_8 Kc_9.1
        refine Go.tr st_9 ?_
        show Go p.tables e below P (T_9.setTop (mkF m 337 #[.val (.int p1), .val (.int sx), .val (.long jl), .second, .val (.long jh), .second, .val (.int i6), .val (.ref ca), .val (.int i297), .val (.int ex)] [(.ref b_8)]))
        rcases hcase with ⟨hcd, hzb, hall⟩ | ⟨hcd, hzb, hvl⟩
        · subst hcd
          show Go p.tables e below P (T_9.setTop (mkF m 337 #[.val (.int p1), .val (.int sx), .val (.long jl), .second, .val (.long jh), .second, .val (.int i6), .val (.ref ca), .val (.int i297), .val (.int ex)] [(.ref b_8)]))
          obtain ⟨_, _, ⟨T_10, L_10, k_10, n_10⟩, -, X_10, ⟨Lc_10, hQ_10, l_10, y_10, z_10⟩, st_10⟩ := Jvm.LawKit.callS X_9 hx (y := (⟨"com/example/wrasse/wrasse/Words", "toleratedEdits", "(Ljava/lang/String;)I"⟩ : MethodName)) hown (mvT hZ (hw _ (List.mem_of_getElem? (i := 27) rfl))) (mvT hZ (hw _ (List.mem_of_getElem? (i := 28) rfl))) (mvT hZ (hw _ (List.mem_of_getElem? (i := 29) rfl))) (mvT hZ (hw _ (List.mem_of_getElem? (i := 30) rfl))) (by decide) (backOf (W := 0) (tol0 l Z a0 hw [] b_8 b kb zb vl cs cs1 T_9.heap n0 Z_9 Ea Fv Fc Vb hzb hn12 hch (Sta_keepX S3 K_9 ns0_) hcs1 (Sta_keepX S0 K_9 ns0_) (Sta_keepX S1 K_9 ns0_) (Sta_keepX S2 K_9 ns0_)) hZ (hw _ (List.mem_of_getElem? (i := 30) rfl)) (hw _ (List.mem_of_getElem? (i := 29) rfl)) (by decide) (by decide)) (g := (mkF m 337 #[.val (.int p1), .val (.int sx), .val (.long jl), .second, .val (.long jh), .second, .val (.int i6), .val (.ref ca), .val (.int i297), .val (.int ex)] [(.ref b_8)])) rfl (by rw [hml]; rfl) (argsL := [(.ref b_8)]) (rest := []) (lenOf pd_16 rfl) rfl (by show 2 * 0 + _ ≤ _; exact Nat.le_of_eq rfl) (hb hby at_337) (fun _ _ => ⟨rfl, rfl, (by decide : 4 + 0 ≤ _), (by decide : 52 + 0 ≤ _)⟩)
          dsimp only [Pt.U, Pt.locs, Pt.cells, Pt.slots] at X_10 l_10 y_10 z_10 st_10 hQ_10
          subst l_10 y_10 z_10
          obtain ⟨rt, q0, rfl, hq0, hrt, N_10q, eh_10⟩ := hQ_10
          have N_10 := Fr.app N_9 N_10q
          refine Go.step (fun t k => st_10 t k) ?_
          show Go p.tables e below P (T_10.setTop (mkF m 340 #[.val (.int p1), .val (.int sx), .val (.long jl), .second, .val (.long jh), .second, .val (.int i6), .val (.ref ca), .val (.int i297), .val (.int ex)] [(.int rt)]))
          have hsm := cpc_small cs hall
          refine Go.step (fun t k => XS.iload X_10.here hx rfl (hb hby at_340) rfl  k) ?_
          show Go p.tables e below P (T_10.setTop (mkF m 342 #[.val (.int p1), .val (.int sx), .val (.long jl), .second, .val (.long jh), .second, .val (.int i6), .val (.ref ca), .val (.int i297), .val (.int ex)] [(.int ex), (.int rt)]))
          refine Go.step (fun t k => XS.icmpNo X_10.here hx rfl (hb hby at_342) rfl (icN (cd := .ne) (by omega : ¬ (¬ rt.toInt = ex.toInt))) k) ?_
          show Go p.tables e below P (T_10.setTop (mkF m 345 #[.val (.int p1), .val (.int sx), .val (.long jl), .second, .val (.long jh), .second, .val (.int i6), .val (.ref ca), .val (.int i297), .val (.int ex)] []))
          refine Go.step (fun t k => XS.iconst X_10.here hx rfl (hb hby at_345) k) ?_
          show Go p.tables e below P (T_10.setTop (mkF m 346 #[.val (.int p1), .val (.int sx), .val (.long jl), .second, .val (.long jh), .second, .val (.int i6), .val (.ref ca), .val (.int i297), .val (.int ex)] [(.int (1 : Int32))]))
          refine Go.step (fun t k => XS.goto X_10.here hx rfl (pc0 := 346) (pc' := 350) rfl (hb hby at_346) (by decide) (by decide) k) ?_
          show Go p.tables e below P (T_10.setTop (mkF m 350 #[.val (.int p1), .val (.int sx), .val (.long jl), .second, .val (.long jh), .second, .val (.int i6), .val (.ref ca), .val (.int i297), .val (.int ex)] [(.int (1 : Int32))]))
          exact retGoW (vm1 := s.vm) X_10 hx hS (by rw [eh_10]; exact K_9.1) hP Bd.returns hlk rfl (Or.inl ⟨rfl, Or.inr (Or.inl rfl), _, rfl⟩) (hb hby at_350) (by decide) (by decide) (by rw [eh_10]; exact ⟨rfl, N_10⟩)
        · subst hcd hvl
          show Go p.tables e below P (T_9.setTop (mkF m 337 #[.val (.int p1), .val (.int sx), .val (.long jl), .second, .val (.long jh), .second, .val (.int i6), .val (.ref ca), .val (.int i297), .val (.int ex)] [(.ref b_8)]))
          obtain ⟨_, _, ⟨T_11, L_11, k_11, n_11⟩, -, X_11, ⟨Lc_11, hQ_11, l_11, y_11, z_11⟩, st_11⟩ := Jvm.LawKit.callS X_9 hx (y := (⟨"com/example/wrasse/wrasse/Words", "toleratedEdits", "(Ljava/lang/String;)I"⟩ : MethodName)) hown (mvT hZ (hw _ (List.mem_of_getElem? (i := 27) rfl))) (mvT hZ (hw _ (List.mem_of_getElem? (i := 28) rfl))) (mvT hZ (hw _ (List.mem_of_getElem? (i := 29) rfl))) (mvT hZ (hw _ (List.mem_of_getElem? (i := 30) rfl))) (by decide) (backOf (W := 0) (tol1 l Z a0 hw [] b_8 b kb zb [] cs cs1 T_9.heap n0 Z_9 Ea Fv Fc Vb hzb hn12 hch (Sta_keepX S3 K_9 ns0_) hcs1 (Sta_keepX S0 K_9 ns0_) (Sta_keepX S1 K_9 ns0_) (Sta_keepX S2 K_9 ns0_)) hZ (hw _ (List.mem_of_getElem? (i := 30) rfl)) (hw _ (List.mem_of_getElem? (i := 29) rfl)) (by decide) (by decide)) (g := (mkF m 337 #[.val (.int p1), .val (.int sx), .val (.long jl), .second, .val (.long jh), .second, .val (.int i6), .val (.ref ca), .val (.int i297), .val (.int ex)] [(.ref b_8)])) rfl (by rw [hml]; rfl) (argsL := [(.ref b_8)]) (rest := []) (lenOf pd_16 rfl) rfl (by show 2 * 0 + _ ≤ _; exact Nat.le_of_eq rfl) (hb hby at_337) (fun _ _ => ⟨rfl, rfl, (by decide : 4 + 0 ≤ _), (by decide : 52 + 0 ≤ _)⟩)
          dsimp only [Pt.U, Pt.locs, Pt.cells, Pt.slots] at X_11 l_11 y_11 z_11 st_11 hQ_11
          subst l_11 y_11 z_11
          obtain ⟨rt, q0, rfl, hq0, hrt, N_11q, eh_11⟩ := hQ_11
          have N_11 := Fr.app N_9 N_11q
          refine Go.step (fun t k => st_11 t k) ?_
          show Go p.tables e below P (T_11.setTop (mkF m 340 #[.val (.int p1), .val (.int sx), .val (.long jl), .second, .val (.long jh), .second, .val (.int i6), .val (.ref ca), .val (.int i297), .val (.int ex)] [(.int rt)]))
          refine Go.step (fun t k => XS.iload X_11.here hx rfl (hb hby at_340) rfl  k) ?_
          show Go p.tables e below P (T_11.setTop (mkF m 342 #[.val (.int p1), .val (.int sx), .val (.long jl), .second, .val (.long jh), .second, .val (.int i6), .val (.ref ca), .val (.int i297), .val (.int ex)] [(.int ex), (.int rt)]))
          refine Go.step (fun t k => XS.icmpNo X_11.here hx rfl (hb hby at_342) rfl (icN (cd := .ne) (by omega : ¬ (¬ rt.toInt = ex.toInt))) k) ?_
          show Go p.tables e below P (T_11.setTop (mkF m 345 #[.val (.int p1), .val (.int sx), .val (.long jl), .second, .val (.long jh), .second, .val (.int i6), .val (.ref ca), .val (.int i297), .val (.int ex)] []))
          refine Go.step (fun t k => XS.iconst X_11.here hx rfl (hb hby at_345) k) ?_
          show Go p.tables e below P (T_11.setTop (mkF m 346 #[.val (.int p1), .val (.int sx), .val (.long jl), .second, .val (.long jh), .second, .val (.int i6), .val (.ref ca), .val (.int i297), .val (.int ex)] [(.int (1 : Int32))]))
          refine Go.step (fun t k => XS.goto X_11.here hx rfl (pc0 := 346) (pc' := 350) rfl (hb hby at_346) (by decide) (by decide) k) ?_
          show Go p.tables e below P (T_11.setTop (mkF m 350 #[.val (.int p1), .val (.int sx), .val (.long jl), .second, .val (.long jh), .second, .val (.int i6), .val (.ref ca), .val (.int i297), .val (.int ex)] [(.int (1 : Int32))]))
          exact retGoW (vm1 := s.vm) X_11 hx hS (by rw [eh_11]; exact K_9.1) hP Bd.returns hlk rfl (Or.inl ⟨rfl, Or.inr (Or.inl rfl), _, rfl⟩) (hb hby at_350) (by decide) (by decide) (by rw [eh_11]; exact ⟨rfl, N_11⟩)
      · have hcs0 : cs = [] := List.eq_nil_of_length_eq_zero (by omega)
        have CRa : CHr Z [("java/lang/String", 7)] s.vm h0 s.vm h_8 := CHr.keep K_8 (fun _ hx => absurd hx (by simp)) hCH
        have Vz := (VL.ext E_8)
        rw [hcs0] at Vz
        obtain ⟨_, _, ⟨T_12, L_12, k_12, n_12⟩, -, X_12, hSq_12, -, ⟨Lc_12, hQ_12, l_12, y_12, z_12, CC_12⟩, st_12⟩ := X_8.specialBackS hx (y := (⟨"java/lang/String", "<init>", "([C)V"⟩ : MethodName)) rfl hown (mvT hZ (hw _ (List.mem_of_getElem? (i := 9) rfl))) (mvT hZ (hw _ (List.mem_of_getElem? (i := 10) rfl))) (mvT hZ (hw _ (List.mem_of_getElem? (i := 11) rfl))) (by decide) (backOfSH (s := s) (vm0 := s.vm) (W := 1) (in1z l Z a0 hw [] b_8 ca i6 k_1 h_8 n0 Z_8 Vz (by omega) A_8 F_value_b_8 F_coder_b_8 g_b_8) hZ (hw _ (List.mem_of_getElem? (i := 11) rfl)) (hw _ (List.mem_of_getElem? (i := 8) rfl)) (by decide) (by decide) hEL CRa.1) (g := (mkF m 334 #[.val (.int p1), .val (.int sx), .val (.long jl), .second, .val (.long jh), .second, .val (.int i6), .val (.ref ca), .val (.int i297), .val (.int ex)] [(.ref ca), (.ref b_8), (.ref b_8)])) rfl (by rw [hml]; rfl) (Steps.refl _) (a := b_8) (argsL := [(.ref ca)]) (rest := [(.ref b_8)]) (lenOf pd_18 rfl) rfl (by show 2 * 0 + _ ≤ _; exact Nat.le_of_eq rfl) (hb hby at_334) (fun _ _ => ⟨rfl, e_8, (by decide : 2 + 4 ≤ _), (by decide : 16 + 8 ≤ _)⟩)
        dsimp only [Pt.U, Pt.locs, Pt.cells, Pt.slots] at X_12 hSq_12 l_12 y_12 z_12 st_12 hQ_12 CC_12
        subst l_12 y_12 z_12
        obtain ⟨rfl, N_12q, Kc_12, b, kb, Ea, Fv, Fc, Vb⟩ := hQ_12
        have N_12 := Fr.app N_7 N_12q
        have hZ : Z.Warmed39 (s.setVm T_12.vm).vm := State.Warmed39.trans (t := s) hZ hSq_12.1
        have hown : (s.setVm T_12.vm).vm.findClass "com/example/wrasse/wrasse/WordsToleratedEditsPinLaw" = some m.cls := by rw [show (s.setVm T_12.vm).vm = T_12.vm from rfl, hSq_12.1.alike.findClass]; exact hown
        have hS : s.Since T_12.vm T_12.heap.size := hSq_12
        have K_12 : Keep h0 T_12.heap [] := K_8.trans Kc_12 (allS (Or.inr sz_b_8) all0)
        have Z_12 : n0 ≤ T_12.heap.size := Nat.le_trans Z_8 Kc_12.1
        have CR_12 : CHr Z [("java/lang/String", 7)] s.vm h0 T_12.vm T_12.heap := CRa.trans CC_12
        refine Go.tr st_12 ?_
        show Go p.tables e below P (T_12.setTop (mkF m 337 #[.val (.int p1), .val (.int sx), .val (.long jl), .second, .val (.long jh), .second, .val (.int i6), .val (.ref ca), .val (.int i297), .val (.int ex)] [(.ref b_8)]))
        obtain ⟨_, _, ⟨T_13, L_13, k_13, n_13⟩, -, X_13, ⟨Lc_13, hQ_13, l_13, y_13, z_13⟩, st_13⟩ := Jvm.LawKit.callS X_12 hx (y := (⟨"com/example/wrasse/wrasse/Words", "toleratedEdits", "(Ljava/lang/String;)I"⟩ : MethodName)) hown (mvT hZ (hw _ (List.mem_of_getElem? (i := 27) rfl))) (mvT hZ (hw _ (List.mem_of_getElem? (i := 28) rfl))) (mvT hZ (hw _ (List.mem_of_getElem? (i := 29) rfl))) (mvT hZ (hw _ (List.mem_of_getElem? (i := 30) rfl))) (by decide) (backOf (W := 0) (tol0 l Z a0 hw [] b_8 b kb (0 : Int32) [] cs cs1 T_12.heap n0 Z_12 Ea Fv Fc Vb (by show (0 : Int) = _; omega) hn12 hch (Sta_keepX S3 K_12 ns0_) hcs1 (Sta_keepX S0 K_12 ns0_) (Sta_keepX S1 K_12 ns0_) (Sta_keepX S2 K_12 ns0_)) hZ (hw _ (List.mem_of_getElem? (i := 30) rfl)) (hw _ (List.mem_of_getElem? (i := 29) rfl)) (by decide) (by decide)) (g := (mkF m 337 #[.val (.int p1), .val (.int sx), .val (.long jl), .second, .val (.long jh), .second, .val (.int i6), .val (.ref ca), .val (.int i297), .val (.int ex)] [(.ref b_8)])) rfl (by rw [hml]; rfl) (argsL := [(.ref b_8)]) (rest := []) (lenOf pd_16 rfl) rfl (by show 2 * 0 + _ ≤ _; exact Nat.le_of_eq rfl) (hb hby at_337) (fun _ _ => ⟨rfl, rfl, (by decide : 6 + 0 ≤ _), (by decide : 24 + 0 ≤ _)⟩)
        dsimp only [Pt.U, Pt.locs, Pt.cells, Pt.slots] at X_13 l_13 y_13 z_13 st_13 hQ_13
        subst l_13 y_13 z_13
        obtain ⟨rt, q0, rfl, hq0, hrt, N_13q, eh_13⟩ := hQ_13
        have N_13 := Fr.app N_12 N_13q
        refine Go.step (fun t k => st_13 t k) ?_
        show Go p.tables e below P (T_13.setTop (mkF m 340 #[.val (.int p1), .val (.int sx), .val (.long jl), .second, .val (.long jh), .second, .val (.int i6), .val (.ref ca), .val (.int i297), .val (.int ex)] [(.int rt)]))
        have hsm := cpc_small cs (by rw [hcs0]; simp)
        refine Go.step (fun t k => XS.iload X_13.here hx rfl (hb hby at_340) rfl  k) ?_
        show Go p.tables e below P (T_13.setTop (mkF m 342 #[.val (.int p1), .val (.int sx), .val (.long jl), .second, .val (.long jh), .second, .val (.int i6), .val (.ref ca), .val (.int i297), .val (.int ex)] [(.int ex), (.int rt)]))
        refine Go.step (fun t k => XS.icmpNo X_13.here hx rfl (hb hby at_342) rfl (icN (cd := .ne) (by omega : ¬ (¬ rt.toInt = ex.toInt))) k) ?_
        show Go p.tables e below P (T_13.setTop (mkF m 345 #[.val (.int p1), .val (.int sx), .val (.long jl), .second, .val (.long jh), .second, .val (.int i6), .val (.ref ca), .val (.int i297), .val (.int ex)] []))
        refine Go.step (fun t k => XS.iconst X_13.here hx rfl (hb hby at_345) k) ?_
        show Go p.tables e below P (T_13.setTop (mkF m 346 #[.val (.int p1), .val (.int sx), .val (.long jl), .second, .val (.long jh), .second, .val (.int i6), .val (.ref ca), .val (.int i297), .val (.int ex)] [(.int (1 : Int32))]))
        refine Go.step (fun t k => XS.goto X_13.here hx rfl (pc0 := 346) (pc' := 350) rfl (hb hby at_346) (by decide) (by decide) k) ?_
        show Go p.tables e below P (T_13.setTop (mkF m 350 #[.val (.int p1), .val (.int sx), .val (.long jl), .second, .val (.long jh), .second, .val (.int i6), .val (.ref ca), .val (.int i297), .val (.int ex)] [(.int (1 : Int32))]))
        exact retGoW X_13 hx hS (by rw [eh_13]; exact (Nat.le_refl _)) hP Bd.returns hlk rfl (Or.inl ⟨rfl, Or.inr (Or.inl rfl), _, rfl⟩) (hb hby at_350) (by decide) (by decide) (by rw [eh_13]; exact ⟨rfl, N_13⟩)
    refine Go.step (fun t k => XS.iload X_7.here hx rfl (hb hby at_300) rfl  k) ?_
    show Go p.tables e below P (T_7.setTop (mkF m 302 #[.val (.int p1), .val (.int sx), .val (.long jl), .second, .val (.long jh), .second, .val (.int i6), .val (.ref ca), .val (.int i297), .unset] [(.int i297)]))
    refine Go.step (fun t k => XS.bipush X_7.here hx rfl (hb hby at_302) k) ?_
    show Go p.tables e below P (T_7.setTop (mkF m 304 #[.val (.int p1), .val (.int sx), .val (.long jl), .second, .val (.long jh), .second, .val (.int i6), .val (.ref ca), .val (.int i297), .unset] [(.int (8 : Int32)), (.int i297)]))
    by_cases hc304 : i297.toInt < (8 : Int)
    · refine Go.step (fun t k => XS.icmpYes X_7.here hx rfl (pc0 := 304) (pc' := 313) rfl (hb hby at_304) rfl (icY (cd := .lt) hc304) (by decide) (by decide) k) ?_
      show Go p.tables e below P (T_7.setTop (mkF m 313 #[.val (.int p1), .val (.int sx), .val (.long jl), .second, .val (.long jh), .second, .val (.int i6), .val (.ref ca), .val (.int i297), .unset] []))
      refine Go.step (fun t k => XS.iload X_7.here hx rfl (hb hby at_313) rfl  k) ?_
      show Go p.tables e below P (T_7.setTop (mkF m 315 #[.val (.int p1), .val (.int sx), .val (.long jl), .second, .val (.long jh), .second, .val (.int i6), .val (.ref ca), .val (.int i297), .unset] [(.int i297)]))
      refine Go.step (fun t k => XS.iconst X_7.here hx rfl (hb hby at_315) k) ?_
      show Go p.tables e below P (T_7.setTop (mkF m 316 #[.val (.int p1), .val (.int sx), .val (.long jl), .second, .val (.long jh), .second, .val (.int i6), .val (.ref ca), .val (.int i297), .unset] [(.int (4 : Int32)), (.int i297)]))
      by_cases hc316 : i297.toInt < (4 : Int)
      · refine Go.step (fun t k => XS.icmpYes X_7.here hx rfl (pc0 := 316) (pc' := 325) rfl (hb hby at_316) rfl (icY (cd := .lt) hc316) (by decide) (by decide) k) ?_
        show Go p.tables e below P (T_7.setTop (mkF m 325 #[.val (.int p1), .val (.int sx), .val (.long jl), .second, .val (.long jh), .second, .val (.int i6), .val (.ref ca), .val (.int i297), .unset] []))
        refine Go.step (fun t k => XS.iconst X_7.here hx rfl (hb hby at_325) k) ?_
        show Go p.tables e below P (T_7.setTop (mkF m 326 #[.val (.int p1), .val (.int sx), .val (.long jl), .second, .val (.long jh), .second, .val (.int i6), .val (.ref ca), .val (.int i297), .unset] [(.int (0 : Int32))]))
        refine Go.step (fun t k => XS.istore X_7.here hx rfl (hb hby at_326) rfl (l' := #[.val (.int p1), .val (.int sx), .val (.long jl), .second, .val (.long jh), .second, .val (.int i6), .val (.ref ca), .val (.int i297), .val (.int (0 : Int32))]) rfl k) ?_
        show Go p.tables e below P (T_7.setTop (mkF m 328 #[.val (.int p1), .val (.int sx), .val (.long jl), .second, .val (.long jh), .second, .val (.int i6), .val (.ref ca), .val (.int i297), .val (.int (0 : Int32))] []))
        exact J328 _ (by have e2 : (2 : Int32).toInt = 2 := rfl; have e1 : (1 : Int32).toInt = 1 := rfl; have e0 : (0 : Int32).toInt = 0 := rfl; omega)
      · refine Go.step (fun t k => XS.icmpNo X_7.here hx rfl (hb hby at_316) rfl (icN (cd := .lt) hc316) k) ?_
        show Go p.tables e below P (T_7.setTop (mkF m 319 #[.val (.int p1), .val (.int sx), .val (.long jl), .second, .val (.long jh), .second, .val (.int i6), .val (.ref ca), .val (.int i297), .unset] []))
        refine Go.step (fun t k => XS.iconst X_7.here hx rfl (hb hby at_319) k) ?_
        show Go p.tables e below P (T_7.setTop (mkF m 320 #[.val (.int p1), .val (.int sx), .val (.long jl), .second, .val (.long jh), .second, .val (.int i6), .val (.ref ca), .val (.int i297), .unset] [(.int (1 : Int32))]))
        refine Go.step (fun t k => XS.istore X_7.here hx rfl (hb hby at_320) rfl (l' := #[.val (.int p1), .val (.int sx), .val (.long jl), .second, .val (.long jh), .second, .val (.int i6), .val (.ref ca), .val (.int i297), .val (.int (1 : Int32))]) rfl k) ?_
        show Go p.tables e below P (T_7.setTop (mkF m 322 #[.val (.int p1), .val (.int sx), .val (.long jl), .second, .val (.long jh), .second, .val (.int i6), .val (.ref ca), .val (.int i297), .val (.int (1 : Int32))] []))
        refine Go.step (fun t k => XS.goto X_7.here hx rfl (pc0 := 322) (pc' := 328) rfl (hb hby at_322) (by decide) (by decide) k) ?_
        show Go p.tables e below P (T_7.setTop (mkF m 328 #[.val (.int p1), .val (.int sx), .val (.long jl), .second, .val (.long jh), .second, .val (.int i6), .val (.ref ca), .val (.int i297), .val (.int (1 : Int32))] []))
        exact J328 _ (by have e2 : (2 : Int32).toInt = 2 := rfl; have e1 : (1 : Int32).toInt = 1 := rfl; have e0 : (0 : Int32).toInt = 0 := rfl; omega)
    · refine Go.step (fun t k => XS.icmpNo X_7.here hx rfl (hb hby at_304) rfl (icN (cd := .lt) hc304) k) ?_
      show Go p.tables e below P (T_7.setTop (mkF m 307 #[.val (.int p1), .val (.int sx), .val (.long jl), .second, .val (.long jh), .second, .val (.int i6), .val (.ref ca), .val (.int i297), .unset] []))
      refine Go.step (fun t k => XS.iconst X_7.here hx rfl (hb hby at_307) k) ?_
      show Go p.tables e below P (T_7.setTop (mkF m 308 #[.val (.int p1), .val (.int sx), .val (.long jl), .second, .val (.long jh), .second, .val (.int i6), .val (.ref ca), .val (.int i297), .unset] [(.int (2 : Int32))]))
      refine Go.step (fun t k => XS.istore X_7.here hx rfl (hb hby at_308) rfl (l' := #[.val (.int p1), .val (.int sx), .val (.long jl), .second, .val (.long jh), .second, .val (.int i6), .val (.ref ca), .val (.int i297), .val (.int (2 : Int32))]) rfl k) ?_
      show Go p.tables e below P (T_7.setTop (mkF m 310 #[.val (.int p1), .val (.int sx), .val (.long jl), .second, .val (.long jh), .second, .val (.int i6), .val (.ref ca), .val (.int i297), .val (.int (2 : Int32))] []))
      refine Go.step (fun t k => XS.goto X_7.here hx rfl (pc0 := 310) (pc' := 328) rfl (hb hby at_310) (by decide) (by decide) k) ?_
      show Go p.tables e below P (T_7.setTop (mkF m 328 #[.val (.int p1), .val (.int sx), .val (.long jl), .second, .val (.long jh), .second, .val (.int i6), .val (.ref ca), .val (.int i297), .val (.int (2 : Int32))] []))
      exact J328 _ (by have e2 : (2 : Int32).toInt = 2 := rfl; have e1 : (1 : Int32).toInt = 1 := rfl; have e0 : (0 : Int32).toInt = 0 := rfl; omega)
  have JJ11 : ∀ (cs : List Int32) (TL : State) (LL : List Loc) (hL : Heap) (XL : Stand p l e room_1 s m #[(.int p1), (.int sx), (.long jl), (.long jh)] below meth c TL LL 1 12) (NL : Fr n0 LL) (eL : TL.heap = hL) (KL : Keep h0 hL []) (VL : Arv Z hL ca k_1 .char i6 (cs.map Value.int) (.int (0 : Int32))), (AllOk sx 0 cs ∧ (∀ x ∈ cs, 0 ≤ x.toInt ∧ x.toInt < 65536) ∧ ((nn ≤ 11 ∧ cs.length = nn) ∨ (11 < nn ∧ cs.length = 11))) → Go p.tables e below P (TL.setTop (mkF m 227 #[.val (.int p1), .val (.int sx), .val (.long jl), .second, .val (.long jh), .second, .val (.int i6), .val (.ref ca), .unset, .unset] [])) := by
    intro cs TL LL hL XL NL eL KL VL hyp
    obtain ⟨hok, hch, hlen⟩ := hyp
    show Go p.tables e below P (TL.setTop (mkF m 227 #[.val (.int p1), .val (.int sx), .val (.long jl), .second, .val (.long jh), .second, .val (.int i6), .val (.ref ca), .unset, .unset] []))
    refine Go.step (fun t k => XS.iload XL.here hx rfl (hb hby at_227) rfl  k) ?_
    show Go p.tables e below P (TL.setTop (mkF m 229 #[.val (.int p1), .val (.int sx), .val (.long jl), .second, .val (.long jh), .second, .val (.int i6), .val (.ref ca), .unset, .unset] [(.int i6)]))
    refine Go.step (fun t k => XS.bipush XL.here hx rfl (hb hby at_229) k) ?_
    show Go p.tables e below P (TL.setTop (mkF m 231 #[.val (.int p1), .val (.int sx), .val (.long jl), .second, .val (.long jh), .second, .val (.int i6), .val (.ref ca), .unset, .unset] [(.int (11 : Int32)), (.int i6)]))
    by_cases hc231 : i6.toInt ≤ (11 : Int)
    · refine Go.step (fun t k => XS.icmpYes XL.here hx rfl (pc0 := 231) (pc' := 248) rfl (hb hby at_231) rfl (icY (cd := .le) hc231) (by decide) (by decide) k) ?_
      show Go p.tables e below P (TL.setTop (mkF m 248 #[.val (.int p1), .val (.int sx), .val (.long jl), .second, .val (.long jh), .second, .val (.int i6), .val (.ref ca), .unset, .unset] []))
      exact JJ12 cs _ _ _ XL NL eL KL VL ⟨hok, hch, by omega⟩
    · refine Go.step (fun t k => XS.icmpNo XL.here hx rfl (hb hby at_231) rfl (icN (cd := .le) hc231) k) ?_
      show Go p.tables e below P (TL.setTop (mkF m 234 #[.val (.int p1), .val (.int sx), .val (.long jl), .second, .val (.long jh), .second, .val (.int i6), .val (.ref ca), .unset, .unset] []))
      refine Go.step (fun t k => XS.aload XL.here hx rfl (hb hby at_234) rfl rfl k) ?_
      show Go p.tables e below P (TL.setTop (mkF m 236 #[.val (.int p1), .val (.int sx), .val (.long jl), .second, .val (.long jh), .second, .val (.int i6), .val (.ref ca), .unset, .unset] [(.ref ca)]))
      refine Go.step (fun t k => XS.bipush XL.here hx rfl (hb hby at_236) k) ?_
      show Go p.tables e below P (TL.setTop (mkF m 238 #[.val (.int p1), .val (.int sx), .val (.long jl), .second, .val (.long jh), .second, .val (.int i6), .val (.ref ca), .unset, .unset] [(.int (11 : Int32)), (.ref ca)]))
      refine Go.step (fun t k => XS.bipush XL.here hx rfl (hb hby at_238) k) ?_
      show Go p.tables e below P (TL.setTop (mkF m 240 #[.val (.int p1), .val (.int sx), .val (.long jl), .second, .val (.long jh), .second, .val (.int i6), .val (.ref ca), .unset, .unset] [(.int (11 : Int32)), (.int (11 : Int32)), (.ref ca)]))
      refine Go.step (fun t k => XS.iloadN XL.here hx rfl (hb hby at_240) rfl  k) ?_
      show Go p.tables e below P (TL.setTop (mkF m 241 #[.val (.int p1), .val (.int sx), .val (.long jl), .second, .val (.long jh), .second, .val (.int i6), .val (.ref ca), .unset, .unset] [(.int sx), (.int (11 : Int32)), (.int (11 : Int32)), (.ref ca)]))
      refine Go.step (fun t k => XS.lloadN XL.here hx rfl (hb hby at_241) rfl  k) ?_
      show Go p.tables e below P (TL.setTop (mkF m 242 #[.val (.int p1), .val (.int sx), .val (.long jl), .second, .val (.long jh), .second, .val (.int i6), .val (.ref ca), .unset, .unset] [(.long jl), (.int sx), (.int (11 : Int32)), (.int (11 : Int32)), (.ref ca)]))
      refine Go.step (fun t k => XS.lload XL.here hx rfl (hb hby at_242) rfl  k) ?_
      show Go p.tables e below P (TL.setTop (mkF m 244 #[.val (.int p1), .val (.int sx), .val (.long jl), .second, .val (.long jh), .second, .val (.int i6), .val (.ref ca), .unset, .unset] [(.long jh), (.long jl), (.int sx), (.int (11 : Int32)), (.int (11 : Int32)), (.ref ca)]))
      obtain ⟨_, _, ⟨T_14, L_14, k_14, n_14⟩, -, X_14, ⟨Lc_14, hQ_14, l_14, y_14, z_14⟩, st_14⟩ := Jvm.LawKit.callS XL hx (y := (⟨"com/example/wrasse/wrasse/WordsToleratedEditsPinLaw", "ch", "(IIJJ)C"⟩ : MethodName)) hown (mvT hZ (hw _ (List.mem_of_getElem? (i := 64) rfl))) (mvT hZ (hw _ (List.mem_of_getElem? (i := 65) rfl))) (mvT hZ (hw _ (List.mem_of_getElem? (i := 4) rfl))) (mvT hZ (hw _ (List.mem_of_getElem? (i := 66) rfl))) (by decide) (backOf (W := 2) (ch11 l Z a0 hw [] sx jl jh hL n0 (Nat.le_trans Z0 KL.1) ) hZ (hw _ (List.mem_of_getElem? (i := 66) rfl)) (hw _ (List.mem_of_getElem? (i := 4) rfl)) (by decide) (by decide)) (g := (mkF m 244 #[.val (.int p1), .val (.int sx), .val (.long jl), .second, .val (.long jh), .second, .val (.int i6), .val (.ref ca), .unset, .unset] [(.long jh), (.long jl), (.int sx), (.int (11 : Int32)), (.int (11 : Int32)), (.ref ca)])) rfl (by rw [hml]; rfl) (argsL := [(.int (11 : Int32)), (.int sx), (.long jl), (.long jh)]) (rest := [(.int (11 : Int32)), (.ref ca)]) (lenOf pd_19 rfl) rfl (by show 2 * 0 + _ ≤ _; exact Nat.le_of_eq rfl) (hb hby at_244) (fun _ _ => ⟨rfl, eL, (by decide : 1 + 0 ≤ _), (by decide : 12 + 0 ≤ _)⟩)
      dsimp only [Pt.U, Pt.locs, Pt.cells, Pt.slots] at X_14 l_14 y_14 z_14 st_14 hQ_14
      subst l_14 y_14 z_14
      obtain ⟨rc, rfl, hrc, N_14q, eh_14⟩ := hQ_14
      have N_14 := Fr.app NL N_14q
      refine Go.step (fun t k => st_14 t k) ?_
      show Go p.tables e below P (T_14.setTop (mkF m 247 #[.val (.int p1), .val (.int sx), .val (.long jl), .second, .val (.long jh), .second, .val (.int i6), .val (.ref ca), .unset, .unset] [(.int rc), (.int (11 : Int32)), (.ref ca)]))
      have hck : cs.length = 11 := by omega
      have brc : 0 ≤ rc.toInt ∧ rc.toInt < 65536 := by unfold Ok at hrc; omega
      have VP := (VL).pad (pad_rep (cs.map Value.int) (Value.int (0 : Int32)) 1)
      have vq_15 := VP
      obtain ⟨cl_15, Ar_15, q_15, S_15, Nn_15, H_15, G_15⟩ := vq_15
      have hin_15 : ¬ ((11 : Int32) < 0 ∨ cl_15.slots.size ≤ ((11 : Int32)).toNatClampNeg) := inb_of S_15 ⟨(by decide), (lt32 (by show (11 : Int) < _; omega))⟩
      obtain ⟨T_15, h_15, X_15, e_15, W_15, st_15⟩ := stC X_14 hx hZ eh_14 Ar_15 (j := (11 : Int32)) hin_15 (g := (mkF m 247 #[.val (.int p1), .val (.int sx), .val (.long jl), .second, .val (.long jh), .second, .val (.int i6), .val (.ref ca), .unset, .unset] [(.int rc), (.int (11 : Int32)), (.ref ca)])) rfl rfl (hb hby at_247)
      have hv_15 : (nar .char rc) = rc := Value.int.inj (nar_c brc)
      rw [hv_15] at W_15
      have V_15 : Arv Z h_15 ca k_1 .char i6 ((cs.map Value.int ++ List.replicate 1 (Value.int (0 : Int32))).set (11) (.int rc)) (.int (0 : Int32)) := Arv.set Ar_15 q_15 S_15 Nn_15 H_15 G_15 (by rw [← hv_15]; exact (fits_nar_char _)) W_15 (11) rfl (by first | (simp; done) | (simp; omega))
      have N_15 := Fr.snoc X_15 N_14 g_ca
      have K_15 : Keep h0 h_15 [] := KL.wr W_15 (Or.inr sz_ca)
      have Z_15 : n0 ≤ h_15.size := Nat.le_trans (Nat.le_trans Z0 KL.1) (Keep.of_wr W_15).1
      refine Go.step (fun t k => st_15 t k) ?_
      show Go p.tables e below P (T_15.setTop (mkF m 248 #[.val (.int p1), .val (.int sx), .val (.long jl), .second, .val (.long jh), .second, .val (.int i6), .val (.ref ca), .unset, .unset] []))
      have VQ := V_15
      rw [push_map cs rc 11 hck] at VQ
      exact JJ12 (cs ++ [rc]) _ _ _ X_15 N_15 e_15 K_15 VQ ⟨allok_push sx cs 0 rc hok (by rw [hck]; exact hrc), fun x hx => by rcases List.mem_append.mp hx with q | q; exact hch x q; rw [List.mem_singleton.mp q]; exact brc, by rw [List.length_append]; simp only [List.length_singleton]; omega⟩
  have JJ10 : ∀ (cs : List Int32) (TL : State) (LL : List Loc) (hL : Heap) (XL : Stand p l e room_1 s m #[(.int p1), (.int sx), (.long jl), (.long jh)] below meth c TL LL 1 12) (NL : Fr n0 LL) (eL : TL.heap = hL) (KL : Keep h0 hL []) (VL : Arv Z hL ca k_1 .char i6 (cs.map Value.int) (.int (0 : Int32))), (AllOk sx 0 cs ∧ (∀ x ∈ cs, 0 ≤ x.toInt ∧ x.toInt < 65536) ∧ ((nn ≤ 10 ∧ cs.length = nn) ∨ (10 < nn ∧ cs.length = 10))) → Go p.tables e below P (TL.setTop (mkF m 206 #[.val (.int p1), .val (.int sx), .val (.long jl), .second, .val (.long jh), .second, .val (.int i6), .val (.ref ca), .unset, .unset] [])) := by
    intro cs TL LL hL XL NL eL KL VL hyp
    obtain ⟨hok, hch, hlen⟩ := hyp
    show Go p.tables e below P (TL.setTop (mkF m 206 #[.val (.int p1), .val (.int sx), .val (.long jl), .second, .val (.long jh), .second, .val (.int i6), .val (.ref ca), .unset, .unset] []))
    refine Go.step (fun t k => XS.iload XL.here hx rfl (hb hby at_206) rfl  k) ?_
    show Go p.tables e below P (TL.setTop (mkF m 208 #[.val (.int p1), .val (.int sx), .val (.long jl), .second, .val (.long jh), .second, .val (.int i6), .val (.ref ca), .unset, .unset] [(.int i6)]))
    refine Go.step (fun t k => XS.bipush XL.here hx rfl (hb hby at_208) k) ?_
    show Go p.tables e below P (TL.setTop (mkF m 210 #[.val (.int p1), .val (.int sx), .val (.long jl), .second, .val (.long jh), .second, .val (.int i6), .val (.ref ca), .unset, .unset] [(.int (10 : Int32)), (.int i6)]))
    by_cases hc210 : i6.toInt ≤ (10 : Int)
    · refine Go.step (fun t k => XS.icmpYes XL.here hx rfl (pc0 := 210) (pc' := 227) rfl (hb hby at_210) rfl (icY (cd := .le) hc210) (by decide) (by decide) k) ?_
      show Go p.tables e below P (TL.setTop (mkF m 227 #[.val (.int p1), .val (.int sx), .val (.long jl), .second, .val (.long jh), .second, .val (.int i6), .val (.ref ca), .unset, .unset] []))
      exact JJ11 cs _ _ _ XL NL eL KL VL ⟨hok, hch, by omega⟩
    · refine Go.step (fun t k => XS.icmpNo XL.here hx rfl (hb hby at_210) rfl (icN (cd := .le) hc210) k) ?_
      show Go p.tables e below P (TL.setTop (mkF m 213 #[.val (.int p1), .val (.int sx), .val (.long jl), .second, .val (.long jh), .second, .val (.int i6), .val (.ref ca), .unset, .unset] []))
      refine Go.step (fun t k => XS.aload XL.here hx rfl (hb hby at_213) rfl rfl k) ?_
      show Go p.tables e below P (TL.setTop (mkF m 215 #[.val (.int p1), .val (.int sx), .val (.long jl), .second, .val (.long jh), .second, .val (.int i6), .val (.ref ca), .unset, .unset] [(.ref ca)]))
      refine Go.step (fun t k => XS.bipush XL.here hx rfl (hb hby at_215) k) ?_
      show Go p.tables e below P (TL.setTop (mkF m 217 #[.val (.int p1), .val (.int sx), .val (.long jl), .second, .val (.long jh), .second, .val (.int i6), .val (.ref ca), .unset, .unset] [(.int (10 : Int32)), (.ref ca)]))
      refine Go.step (fun t k => XS.bipush XL.here hx rfl (hb hby at_217) k) ?_
      show Go p.tables e below P (TL.setTop (mkF m 219 #[.val (.int p1), .val (.int sx), .val (.long jl), .second, .val (.long jh), .second, .val (.int i6), .val (.ref ca), .unset, .unset] [(.int (10 : Int32)), (.int (10 : Int32)), (.ref ca)]))
      refine Go.step (fun t k => XS.iloadN XL.here hx rfl (hb hby at_219) rfl  k) ?_
      show Go p.tables e below P (TL.setTop (mkF m 220 #[.val (.int p1), .val (.int sx), .val (.long jl), .second, .val (.long jh), .second, .val (.int i6), .val (.ref ca), .unset, .unset] [(.int sx), (.int (10 : Int32)), (.int (10 : Int32)), (.ref ca)]))
      refine Go.step (fun t k => XS.lloadN XL.here hx rfl (hb hby at_220) rfl  k) ?_
      show Go p.tables e below P (TL.setTop (mkF m 221 #[.val (.int p1), .val (.int sx), .val (.long jl), .second, .val (.long jh), .second, .val (.int i6), .val (.ref ca), .unset, .unset] [(.long jl), (.int sx), (.int (10 : Int32)), (.int (10 : Int32)), (.ref ca)]))
      refine Go.step (fun t k => XS.lload XL.here hx rfl (hb hby at_221) rfl  k) ?_
      show Go p.tables e below P (TL.setTop (mkF m 223 #[.val (.int p1), .val (.int sx), .val (.long jl), .second, .val (.long jh), .second, .val (.int i6), .val (.ref ca), .unset, .unset] [(.long jh), (.long jl), (.int sx), (.int (10 : Int32)), (.int (10 : Int32)), (.ref ca)]))
      obtain ⟨_, _, ⟨T_16, L_16, k_16, n_16⟩, -, X_16, ⟨Lc_16, hQ_16, l_16, y_16, z_16⟩, st_16⟩ := Jvm.LawKit.callS XL hx (y := (⟨"com/example/wrasse/wrasse/WordsToleratedEditsPinLaw", "ch", "(IIJJ)C"⟩ : MethodName)) hown (mvT hZ (hw _ (List.mem_of_getElem? (i := 64) rfl))) (mvT hZ (hw _ (List.mem_of_getElem? (i := 65) rfl))) (mvT hZ (hw _ (List.mem_of_getElem? (i := 4) rfl))) (mvT hZ (hw _ (List.mem_of_getElem? (i := 66) rfl))) (by decide) (backOf (W := 2) (ch10 l Z a0 hw [] sx jl jh hL n0 (Nat.le_trans Z0 KL.1) ) hZ (hw _ (List.mem_of_getElem? (i := 66) rfl)) (hw _ (List.mem_of_getElem? (i := 4) rfl)) (by decide) (by decide)) (g := (mkF m 223 #[.val (.int p1), .val (.int sx), .val (.long jl), .second, .val (.long jh), .second, .val (.int i6), .val (.ref ca), .unset, .unset] [(.long jh), (.long jl), (.int sx), (.int (10 : Int32)), (.int (10 : Int32)), (.ref ca)])) rfl (by rw [hml]; rfl) (argsL := [(.int (10 : Int32)), (.int sx), (.long jl), (.long jh)]) (rest := [(.int (10 : Int32)), (.ref ca)]) (lenOf pd_19 rfl) rfl (by show 2 * 0 + _ ≤ _; exact Nat.le_of_eq rfl) (hb hby at_223) (fun _ _ => ⟨rfl, eL, (by decide : 1 + 0 ≤ _), (by decide : 12 + 0 ≤ _)⟩)
      dsimp only [Pt.U, Pt.locs, Pt.cells, Pt.slots] at X_16 l_16 y_16 z_16 st_16 hQ_16
      subst l_16 y_16 z_16
      obtain ⟨rc, rfl, hrc, N_16q, eh_16⟩ := hQ_16
      have N_16 := Fr.app NL N_16q
      refine Go.step (fun t k => st_16 t k) ?_
      show Go p.tables e below P (T_16.setTop (mkF m 226 #[.val (.int p1), .val (.int sx), .val (.long jl), .second, .val (.long jh), .second, .val (.int i6), .val (.ref ca), .unset, .unset] [(.int rc), (.int (10 : Int32)), (.ref ca)]))
      have hck : cs.length = 10 := by omega
      have brc : 0 ≤ rc.toInt ∧ rc.toInt < 65536 := by unfold Ok at hrc; omega
      have VP := (VL).pad (pad_rep (cs.map Value.int) (Value.int (0 : Int32)) 1)
      have vq_17 := VP
      obtain ⟨cl_17, Ar_17, q_17, S_17, Nn_17, H_17, G_17⟩ := vq_17
      have hin_17 : ¬ ((10 : Int32) < 0 ∨ cl_17.slots.size ≤ ((10 : Int32)).toNatClampNeg) := inb_of S_17 ⟨(by decide), (lt32 (by show (10 : Int) < _; omega))⟩
      obtain ⟨T_17, h_17, X_17, e_17, W_17, st_17⟩ := stC X_16 hx hZ eh_16 Ar_17 (j := (10 : Int32)) hin_17 (g := (mkF m 226 #[.val (.int p1), .val (.int sx), .val (.long jl), .second, .val (.long jh), .second, .val (.int i6), .val (.ref ca), .unset, .unset] [(.int rc), (.int (10 : Int32)), (.ref ca)])) rfl rfl (hb hby at_226)
      have hv_17 : (nar .char rc) = rc := Value.int.inj (nar_c brc)
      rw [hv_17] at W_17
      have V_17 : Arv Z h_17 ca k_1 .char i6 ((cs.map Value.int ++ List.replicate 1 (Value.int (0 : Int32))).set (10) (.int rc)) (.int (0 : Int32)) := Arv.set Ar_17 q_17 S_17 Nn_17 H_17 G_17 (by rw [← hv_17]; exact (fits_nar_char _)) W_17 (10) rfl (by first | (simp; done) | (simp; omega))
      have N_17 := Fr.snoc X_17 N_16 g_ca
      have K_17 : Keep h0 h_17 [] := KL.wr W_17 (Or.inr sz_ca)
      have Z_17 : n0 ≤ h_17.size := Nat.le_trans (Nat.le_trans Z0 KL.1) (Keep.of_wr W_17).1
      refine Go.step (fun t k => st_17 t k) ?_
      show Go p.tables e below P (T_17.setTop (mkF m 227 #[.val (.int p1), .val (.int sx), .val (.long jl), .second, .val (.long jh), .second, .val (.int i6), .val (.ref ca), .unset, .unset] []))
      have VQ := V_17
      rw [push_map cs rc 10 hck] at VQ
      exact JJ11 (cs ++ [rc]) _ _ _ X_17 N_17 e_17 K_17 VQ ⟨allok_push sx cs 0 rc hok (by rw [hck]; exact hrc), fun x hx => by rcases List.mem_append.mp hx with q | q; exact hch x q; rw [List.mem_singleton.mp q]; exact brc, by rw [List.length_append]; simp only [List.length_singleton]; omega⟩
  have JJ9 : ∀ (cs : List Int32) (TL : State) (LL : List Loc) (hL : Heap) (XL : Stand p l e room_1 s m #[(.int p1), (.int sx), (.long jl), (.long jh)] below meth c TL LL 1 12) (NL : Fr n0 LL) (eL : TL.heap = hL) (KL : Keep h0 hL []) (VL : Arv Z hL ca k_1 .char i6 (cs.map Value.int) (.int (0 : Int32))), (AllOk sx 0 cs ∧ (∀ x ∈ cs, 0 ≤ x.toInt ∧ x.toInt < 65536) ∧ ((nn ≤ 9 ∧ cs.length = nn) ∨ (9 < nn ∧ cs.length = 9))) → Go p.tables e below P (TL.setTop (mkF m 185 #[.val (.int p1), .val (.int sx), .val (.long jl), .second, .val (.long jh), .second, .val (.int i6), .val (.ref ca), .unset, .unset] [])) := by
    intro cs TL LL hL XL NL eL KL VL hyp
    obtain ⟨hok, hch, hlen⟩ := hyp
    show Go p.tables e below P (TL.setTop (mkF m 185 #[.val (.int p1), .val (.int sx), .val (.long jl), .second, .val (.long jh), .second, .val (.int i6), .val (.ref ca), .unset, .unset] []))
    refine Go.step (fun t k => XS.iload XL.here hx rfl (hb hby at_185) rfl  k) ?_
    show Go p.tables e below P (TL.setTop (mkF m 187 #[.val (.int p1), .val (.int sx), .val (.long jl), .second, .val (.long jh), .second, .val (.int i6), .val (.ref ca), .unset, .unset] [(.int i6)]))
    refine Go.step (fun t k => XS.bipush XL.here hx rfl (hb hby at_187) k) ?_
    show Go p.tables e below P (TL.setTop (mkF m 189 #[.val (.int p1), .val (.int sx), .val (.long jl), .second, .val (.long jh), .second, .val (.int i6), .val (.ref ca), .unset, .unset] [(.int (9 : Int32)), (.int i6)]))
    by_cases hc189 : i6.toInt ≤ (9 : Int)
    · refine Go.step (fun t k => XS.icmpYes XL.here hx rfl (pc0 := 189) (pc' := 206) rfl (hb hby at_189) rfl (icY (cd := .le) hc189) (by decide) (by decide) k) ?_
      show Go p.tables e below P (TL.setTop (mkF m 206 #[.val (.int p1), .val (.int sx), .val (.long jl), .second, .val (.long jh), .second, .val (.int i6), .val (.ref ca), .unset, .unset] []))
      exact JJ10 cs _ _ _ XL NL eL KL VL ⟨hok, hch, by omega⟩
    · refine Go.step (fun t k => XS.icmpNo XL.here hx rfl (hb hby at_189) rfl (icN (cd := .le) hc189) k) ?_
      show Go p.tables e below P (TL.setTop (mkF m 192 #[.val (.int p1), .val (.int sx), .val (.long jl), .second, .val (.long jh), .second, .val (.int i6), .val (.ref ca), .unset, .unset] []))
      refine Go.step (fun t k => XS.aload XL.here hx rfl (hb hby at_192) rfl rfl k) ?_
      show Go p.tables e below P (TL.setTop (mkF m 194 #[.val (.int p1), .val (.int sx), .val (.long jl), .second, .val (.long jh), .second, .val (.int i6), .val (.ref ca), .unset, .unset] [(.ref ca)]))
      refine Go.step (fun t k => XS.bipush XL.here hx rfl (hb hby at_194) k) ?_
      show Go p.tables e below P (TL.setTop (mkF m 196 #[.val (.int p1), .val (.int sx), .val (.long jl), .second, .val (.long jh), .second, .val (.int i6), .val (.ref ca), .unset, .unset] [(.int (9 : Int32)), (.ref ca)]))
      refine Go.step (fun t k => XS.bipush XL.here hx rfl (hb hby at_196) k) ?_
      show Go p.tables e below P (TL.setTop (mkF m 198 #[.val (.int p1), .val (.int sx), .val (.long jl), .second, .val (.long jh), .second, .val (.int i6), .val (.ref ca), .unset, .unset] [(.int (9 : Int32)), (.int (9 : Int32)), (.ref ca)]))
      refine Go.step (fun t k => XS.iloadN XL.here hx rfl (hb hby at_198) rfl  k) ?_
      show Go p.tables e below P (TL.setTop (mkF m 199 #[.val (.int p1), .val (.int sx), .val (.long jl), .second, .val (.long jh), .second, .val (.int i6), .val (.ref ca), .unset, .unset] [(.int sx), (.int (9 : Int32)), (.int (9 : Int32)), (.ref ca)]))
      refine Go.step (fun t k => XS.lloadN XL.here hx rfl (hb hby at_199) rfl  k) ?_
      show Go p.tables e below P (TL.setTop (mkF m 200 #[.val (.int p1), .val (.int sx), .val (.long jl), .second, .val (.long jh), .second, .val (.int i6), .val (.ref ca), .unset, .unset] [(.long jl), (.int sx), (.int (9 : Int32)), (.int (9 : Int32)), (.ref ca)]))
      refine Go.step (fun t k => XS.lload XL.here hx rfl (hb hby at_200) rfl  k) ?_
      show Go p.tables e below P (TL.setTop (mkF m 202 #[.val (.int p1), .val (.int sx), .val (.long jl), .second, .val (.long jh), .second, .val (.int i6), .val (.ref ca), .unset, .unset] [(.long jh), (.long jl), (.int sx), (.int (9 : Int32)), (.int (9 : Int32)), (.ref ca)]))
      obtain ⟨_, _, ⟨T_18, L_18, k_18, n_18⟩, -, X_18, ⟨Lc_18, hQ_18, l_18, y_18, z_18⟩, st_18⟩ := Jvm.LawKit.callS XL hx (y := (⟨"com/example/wrasse/wrasse/WordsToleratedEditsPinLaw", "ch", "(IIJJ)C"⟩ : MethodName)) hown (mvT hZ (hw _ (List.mem_of_getElem? (i := 64) rfl))) (mvT hZ (hw _ (List.mem_of_getElem? (i := 65) rfl))) (mvT hZ (hw _ (List.mem_of_getElem? (i := 4) rfl))) (mvT hZ (hw _ (List.mem_of_getElem? (i := 66) rfl))) (by decide) (backOf (W := 2) (ch9 l Z a0 hw [] sx jl jh hL n0 (Nat.le_trans Z0 KL.1) ) hZ (hw _ (List.mem_of_getElem? (i := 66) rfl)) (hw _ (List.mem_of_getElem? (i := 4) rfl)) (by decide) (by decide)) (g := (mkF m 202 #[.val (.int p1), .val (.int sx), .val (.long jl), .second, .val (.long jh), .second, .val (.int i6), .val (.ref ca), .unset, .unset] [(.long jh), (.long jl), (.int sx), (.int (9 : Int32)), (.int (9 : Int32)), (.ref ca)])) rfl (by rw [hml]; rfl) (argsL := [(.int (9 : Int32)), (.int sx), (.long jl), (.long jh)]) (rest := [(.int (9 : Int32)), (.ref ca)]) (lenOf pd_19 rfl) rfl (by show 2 * 0 + _ ≤ _; exact Nat.le_of_eq rfl) (hb hby at_202) (fun _ _ => ⟨rfl, eL, (by decide : 1 + 0 ≤ _), (by decide : 12 + 0 ≤ _)⟩)
      dsimp only [Pt.U, Pt.locs, Pt.cells, Pt.slots] at X_18 l_18 y_18 z_18 st_18 hQ_18
      subst l_18 y_18 z_18
      obtain ⟨rc, rfl, hrc, N_18q, eh_18⟩ := hQ_18
      have N_18 := Fr.app NL N_18q
      refine Go.step (fun t k => st_18 t k) ?_
      show Go p.tables e below P (T_18.setTop (mkF m 205 #[.val (.int p1), .val (.int sx), .val (.long jl), .second, .val (.long jh), .second, .val (.int i6), .val (.ref ca), .unset, .unset] [(.int rc), (.int (9 : Int32)), (.ref ca)]))
      have hck : cs.length = 9 := by omega
      have brc : 0 ≤ rc.toInt ∧ rc.toInt < 65536 := by unfold Ok at hrc; omega
      have VP := (VL).pad (pad_rep (cs.map Value.int) (Value.int (0 : Int32)) 1)
      have vq_19 := VP
      obtain ⟨cl_19, Ar_19, q_19, S_19, Nn_19, H_19, G_19⟩ := vq_19
      have hin_19 : ¬ ((9 : Int32) < 0 ∨ cl_19.slots.size ≤ ((9 : Int32)).toNatClampNeg) := inb_of S_19 ⟨(by decide), (lt32 (by show (9 : Int) < _; omega))⟩
      obtain ⟨T_19, h_19, X_19, e_19, W_19, st_19⟩ := stC X_18 hx hZ eh_18 Ar_19 (j := (9 : Int32)) hin_19 (g := (mkF m 205 #[.val (.int p1), .val (.int sx), .val (.long jl), .second, .val (.long jh), .second, .val (.int i6), .val (.ref ca), .unset, .unset] [(.int rc), (.int (9 : Int32)), (.ref ca)])) rfl rfl (hb hby at_205)
      have hv_19 : (nar .char rc) = rc := Value.int.inj (nar_c brc)
      rw [hv_19] at W_19
      have V_19 : Arv Z h_19 ca k_1 .char i6 ((cs.map Value.int ++ List.replicate 1 (Value.int (0 : Int32))).set (9) (.int rc)) (.int (0 : Int32)) := Arv.set Ar_19 q_19 S_19 Nn_19 H_19 G_19 (by rw [← hv_19]; exact (fits_nar_char _)) W_19 (9) rfl (by first | (simp; done) | (simp; omega))
      have N_19 := Fr.snoc X_19 N_18 g_ca
      have K_19 : Keep h0 h_19 [] := KL.wr W_19 (Or.inr sz_ca)
      have Z_19 : n0 ≤ h_19.size := Nat.le_trans (Nat.le_trans Z0 KL.1) (Keep.of_wr W_19).1
      refine Go.step (fun t k => st_19 t k) ?_
      show Go p.tables e below P (T_19.setTop (mkF m 206 #[.val (.int p1), .val (.int sx), .val (.long jl), .second, .val (.long jh), .second, .val (.int i6), .val (.ref ca), .unset, .unset] []))
      have VQ := V_19
      rw [push_map cs rc 9 hck] at VQ
      exact JJ10 (cs ++ [rc]) _ _ _ X_19 N_19 e_19 K_19 VQ ⟨allok_push sx cs 0 rc hok (by rw [hck]; exact hrc), fun x hx => by rcases List.mem_append.mp hx with q | q; exact hch x q; rw [List.mem_singleton.mp q]; exact brc, by rw [List.length_append]; simp only [List.length_singleton]; omega⟩
  have JJ8 : ∀ (cs : List Int32) (TL : State) (LL : List Loc) (hL : Heap) (XL : Stand p l e room_1 s m #[(.int p1), (.int sx), (.long jl), (.long jh)] below meth c TL LL 1 12) (NL : Fr n0 LL) (eL : TL.heap = hL) (KL : Keep h0 hL []) (VL : Arv Z hL ca k_1 .char i6 (cs.map Value.int) (.int (0 : Int32))), (AllOk sx 0 cs ∧ (∀ x ∈ cs, 0 ≤ x.toInt ∧ x.toInt < 65536) ∧ ((nn ≤ 8 ∧ cs.length = nn) ∨ (8 < nn ∧ cs.length = 8))) → Go p.tables e below P (TL.setTop (mkF m 164 #[.val (.int p1), .val (.int sx), .val (.long jl), .second, .val (.long jh), .second, .val (.int i6), .val (.ref ca), .unset, .unset] [])) := by
    intro cs TL LL hL XL NL eL KL VL hyp
    obtain ⟨hok, hch, hlen⟩ := hyp
    show Go p.tables e below P (TL.setTop (mkF m 164 #[.val (.int p1), .val (.int sx), .val (.long jl), .second, .val (.long jh), .second, .val (.int i6), .val (.ref ca), .unset, .unset] []))
    refine Go.step (fun t k => XS.iload XL.here hx rfl (hb hby at_164) rfl  k) ?_
    show Go p.tables e below P (TL.setTop (mkF m 166 #[.val (.int p1), .val (.int sx), .val (.long jl), .second, .val (.long jh), .second, .val (.int i6), .val (.ref ca), .unset, .unset] [(.int i6)]))
    refine Go.step (fun t k => XS.bipush XL.here hx rfl (hb hby at_166) k) ?_
    show Go p.tables e below P (TL.setTop (mkF m 168 #[.val (.int p1), .val (.int sx), .val (.long jl), .second, .val (.long jh), .second, .val (.int i6), .val (.ref ca), .unset, .unset] [(.int (8 : Int32)), (.int i6)]))
    by_cases hc168 : i6.toInt ≤ (8 : Int)
    · refine Go.step (fun t k => XS.icmpYes XL.here hx rfl (pc0 := 168) (pc' := 185) rfl (hb hby at_168) rfl (icY (cd := .le) hc168) (by decide) (by decide) k) ?_
      show Go p.tables e below P (TL.setTop (mkF m 185 #[.val (.int p1), .val (.int sx), .val (.long jl), .second, .val (.long jh), .second, .val (.int i6), .val (.ref ca), .unset, .unset] []))
      exact JJ9 cs _ _ _ XL NL eL KL VL ⟨hok, hch, by omega⟩
    · refine Go.step (fun t k => XS.icmpNo XL.here hx rfl (hb hby at_168) rfl (icN (cd := .le) hc168) k) ?_
      show Go p.tables e below P (TL.setTop (mkF m 171 #[.val (.int p1), .val (.int sx), .val (.long jl), .second, .val (.long jh), .second, .val (.int i6), .val (.ref ca), .unset, .unset] []))
      refine Go.step (fun t k => XS.aload XL.here hx rfl (hb hby at_171) rfl rfl k) ?_
      show Go p.tables e below P (TL.setTop (mkF m 173 #[.val (.int p1), .val (.int sx), .val (.long jl), .second, .val (.long jh), .second, .val (.int i6), .val (.ref ca), .unset, .unset] [(.ref ca)]))
      refine Go.step (fun t k => XS.bipush XL.here hx rfl (hb hby at_173) k) ?_
      show Go p.tables e below P (TL.setTop (mkF m 175 #[.val (.int p1), .val (.int sx), .val (.long jl), .second, .val (.long jh), .second, .val (.int i6), .val (.ref ca), .unset, .unset] [(.int (8 : Int32)), (.ref ca)]))
      refine Go.step (fun t k => XS.bipush XL.here hx rfl (hb hby at_175) k) ?_
      show Go p.tables e below P (TL.setTop (mkF m 177 #[.val (.int p1), .val (.int sx), .val (.long jl), .second, .val (.long jh), .second, .val (.int i6), .val (.ref ca), .unset, .unset] [(.int (8 : Int32)), (.int (8 : Int32)), (.ref ca)]))
      refine Go.step (fun t k => XS.iloadN XL.here hx rfl (hb hby at_177) rfl  k) ?_
      show Go p.tables e below P (TL.setTop (mkF m 178 #[.val (.int p1), .val (.int sx), .val (.long jl), .second, .val (.long jh), .second, .val (.int i6), .val (.ref ca), .unset, .unset] [(.int sx), (.int (8 : Int32)), (.int (8 : Int32)), (.ref ca)]))
      refine Go.step (fun t k => XS.lloadN XL.here hx rfl (hb hby at_178) rfl  k) ?_
      show Go p.tables e below P (TL.setTop (mkF m 179 #[.val (.int p1), .val (.int sx), .val (.long jl), .second, .val (.long jh), .second, .val (.int i6), .val (.ref ca), .unset, .unset] [(.long jl), (.int sx), (.int (8 : Int32)), (.int (8 : Int32)), (.ref ca)]))
      refine Go.step (fun t k => XS.lload XL.here hx rfl (hb hby at_179) rfl  k) ?_
      show Go p.tables e below P (TL.setTop (mkF m 181 #[.val (.int p1), .val (.int sx), .val (.long jl), .second, .val (.long jh), .second, .val (.int i6), .val (.ref ca), .unset, .unset] [(.long jh), (.long jl), (.int sx), (.int (8 : Int32)), (.int (8 : Int32)), (.ref ca)]))
      obtain ⟨_, _, ⟨T_20, L_20, k_20, n_20⟩, -, X_20, ⟨Lc_20, hQ_20, l_20, y_20, z_20⟩, st_20⟩ := Jvm.LawKit.callS XL hx (y := (⟨"com/example/wrasse/wrasse/WordsToleratedEditsPinLaw", "ch", "(IIJJ)C"⟩ : MethodName)) hown (mvT hZ (hw _ (List.mem_of_getElem? (i := 64) rfl))) (mvT hZ (hw _ (List.mem_of_getElem? (i := 65) rfl))) (mvT hZ (hw _ (List.mem_of_getElem? (i := 4) rfl))) (mvT hZ (hw _ (List.mem_of_getElem? (i := 66) rfl))) (by decide) (backOf (W := 2) (ch8 l Z a0 hw [] sx jl jh hL n0 (Nat.le_trans Z0 KL.1) ) hZ (hw _ (List.mem_of_getElem? (i := 66) rfl)) (hw _ (List.mem_of_getElem? (i := 4) rfl)) (by decide) (by decide)) (g := (mkF m 181 #[.val (.int p1), .val (.int sx), .val (.long jl), .second, .val (.long jh), .second, .val (.int i6), .val (.ref ca), .unset, .unset] [(.long jh), (.long jl), (.int sx), (.int (8 : Int32)), (.int (8 : Int32)), (.ref ca)])) rfl (by rw [hml]; rfl) (argsL := [(.int (8 : Int32)), (.int sx), (.long jl), (.long jh)]) (rest := [(.int (8 : Int32)), (.ref ca)]) (lenOf pd_19 rfl) rfl (by show 2 * 0 + _ ≤ _; exact Nat.le_of_eq rfl) (hb hby at_181) (fun _ _ => ⟨rfl, eL, (by decide : 1 + 0 ≤ _), (by decide : 12 + 0 ≤ _)⟩)
      dsimp only [Pt.U, Pt.locs, Pt.cells, Pt.slots] at X_20 l_20 y_20 z_20 st_20 hQ_20
      subst l_20 y_20 z_20
      obtain ⟨rc, rfl, hrc, N_20q, eh_20⟩ := hQ_20
      have N_20 := Fr.app NL N_20q
      refine Go.step (fun t k => st_20 t k) ?_
      show Go p.tables e below P (T_20.setTop (mkF m 184 #[.val (.int p1), .val (.int sx), .val (.long jl), .second, .val (.long jh), .second, .val (.int i6), .val (.ref ca), .unset, .unset] [(.int rc), (.int (8 : Int32)), (.ref ca)]))
      have hck : cs.length = 8 := by omega
      have brc : 0 ≤ rc.toInt ∧ rc.toInt < 65536 := by unfold Ok at hrc; omega
      have VP := (VL).pad (pad_rep (cs.map Value.int) (Value.int (0 : Int32)) 1)
      have vq_21 := VP
      obtain ⟨cl_21, Ar_21, q_21, S_21, Nn_21, H_21, G_21⟩ := vq_21
      have hin_21 : ¬ ((8 : Int32) < 0 ∨ cl_21.slots.size ≤ ((8 : Int32)).toNatClampNeg) := inb_of S_21 ⟨(by decide), (lt32 (by show (8 : Int) < _; omega))⟩
      obtain ⟨T_21, h_21, X_21, e_21, W_21, st_21⟩ := stC X_20 hx hZ eh_20 Ar_21 (j := (8 : Int32)) hin_21 (g := (mkF m 184 #[.val (.int p1), .val (.int sx), .val (.long jl), .second, .val (.long jh), .second, .val (.int i6), .val (.ref ca), .unset, .unset] [(.int rc), (.int (8 : Int32)), (.ref ca)])) rfl rfl (hb hby at_184)
      have hv_21 : (nar .char rc) = rc := Value.int.inj (nar_c brc)
      rw [hv_21] at W_21
      have V_21 : Arv Z h_21 ca k_1 .char i6 ((cs.map Value.int ++ List.replicate 1 (Value.int (0 : Int32))).set (8) (.int rc)) (.int (0 : Int32)) := Arv.set Ar_21 q_21 S_21 Nn_21 H_21 G_21 (by rw [← hv_21]; exact (fits_nar_char _)) W_21 (8) rfl (by first | (simp; done) | (simp; omega))
      have N_21 := Fr.snoc X_21 N_20 g_ca
      have K_21 : Keep h0 h_21 [] := KL.wr W_21 (Or.inr sz_ca)
      have Z_21 : n0 ≤ h_21.size := Nat.le_trans (Nat.le_trans Z0 KL.1) (Keep.of_wr W_21).1
      refine Go.step (fun t k => st_21 t k) ?_
      show Go p.tables e below P (T_21.setTop (mkF m 185 #[.val (.int p1), .val (.int sx), .val (.long jl), .second, .val (.long jh), .second, .val (.int i6), .val (.ref ca), .unset, .unset] []))
      have VQ := V_21
      rw [push_map cs rc 8 hck] at VQ
      exact JJ9 (cs ++ [rc]) _ _ _ X_21 N_21 e_21 K_21 VQ ⟨allok_push sx cs 0 rc hok (by rw [hck]; exact hrc), fun x hx => by rcases List.mem_append.mp hx with q | q; exact hch x q; rw [List.mem_singleton.mp q]; exact brc, by rw [List.length_append]; simp only [List.length_singleton]; omega⟩
  have JJ7 : ∀ (cs : List Int32) (TL : State) (LL : List Loc) (hL : Heap) (XL : Stand p l e room_1 s m #[(.int p1), (.int sx), (.long jl), (.long jh)] below meth c TL LL 1 12) (NL : Fr n0 LL) (eL : TL.heap = hL) (KL : Keep h0 hL []) (VL : Arv Z hL ca k_1 .char i6 (cs.map Value.int) (.int (0 : Int32))), (AllOk sx 0 cs ∧ (∀ x ∈ cs, 0 ≤ x.toInt ∧ x.toInt < 65536) ∧ ((nn ≤ 7 ∧ cs.length = nn) ∨ (7 < nn ∧ cs.length = 7))) → Go p.tables e below P (TL.setTop (mkF m 143 #[.val (.int p1), .val (.int sx), .val (.long jl), .second, .val (.long jh), .second, .val (.int i6), .val (.ref ca), .unset, .unset] [])) := by
    intro cs TL LL hL XL NL eL KL VL hyp
    obtain ⟨hok, hch, hlen⟩ := hyp
    show Go p.tables e below P (TL.setTop (mkF m 143 #[.val (.int p1), .val (.int sx), .val (.long jl), .second, .val (.long jh), .second, .val (.int i6), .val (.ref ca), .unset, .unset] []))
    refine Go.step (fun t k => XS.iload XL.here hx rfl (hb hby at_143) rfl  k) ?_
    show Go p.tables e below P (TL.setTop (mkF m 145 #[.val (.int p1), .val (.int sx), .val (.long jl), .second, .val (.long jh), .second, .val (.int i6), .val (.ref ca), .unset, .unset] [(.int i6)]))
    refine Go.step (fun t k => XS.bipush XL.here hx rfl (hb hby at_145) k) ?_
    show Go p.tables e below P (TL.setTop (mkF m 147 #[.val (.int p1), .val (.int sx), .val (.long jl), .second, .val (.long jh), .second, .val (.int i6), .val (.ref ca), .unset, .unset] [(.int (7 : Int32)), (.int i6)]))
    by_cases hc147 : i6.toInt ≤ (7 : Int)
    · refine Go.step (fun t k => XS.icmpYes XL.here hx rfl (pc0 := 147) (pc' := 164) rfl (hb hby at_147) rfl (icY (cd := .le) hc147) (by decide) (by decide) k) ?_
      show Go p.tables e below P (TL.setTop (mkF m 164 #[.val (.int p1), .val (.int sx), .val (.long jl), .second, .val (.long jh), .second, .val (.int i6), .val (.ref ca), .unset, .unset] []))
      exact JJ8 cs _ _ _ XL NL eL KL VL ⟨hok, hch, by omega⟩
    · refine Go.step (fun t k => XS.icmpNo XL.here hx rfl (hb hby at_147) rfl (icN (cd := .le) hc147) k) ?_
      show Go p.tables e below P (TL.setTop (mkF m 150 #[.val (.int p1), .val (.int sx), .val (.long jl), .second, .val (.long jh), .second, .val (.int i6), .val (.ref ca), .unset, .unset] []))
      refine Go.step (fun t k => XS.aload XL.here hx rfl (hb hby at_150) rfl rfl k) ?_
      show Go p.tables e below P (TL.setTop (mkF m 152 #[.val (.int p1), .val (.int sx), .val (.long jl), .second, .val (.long jh), .second, .val (.int i6), .val (.ref ca), .unset, .unset] [(.ref ca)]))
      refine Go.step (fun t k => XS.bipush XL.here hx rfl (hb hby at_152) k) ?_
      show Go p.tables e below P (TL.setTop (mkF m 154 #[.val (.int p1), .val (.int sx), .val (.long jl), .second, .val (.long jh), .second, .val (.int i6), .val (.ref ca), .unset, .unset] [(.int (7 : Int32)), (.ref ca)]))
      refine Go.step (fun t k => XS.bipush XL.here hx rfl (hb hby at_154) k) ?_
      show Go p.tables e below P (TL.setTop (mkF m 156 #[.val (.int p1), .val (.int sx), .val (.long jl), .second, .val (.long jh), .second, .val (.int i6), .val (.ref ca), .unset, .unset] [(.int (7 : Int32)), (.int (7 : Int32)), (.ref ca)]))
      refine Go.step (fun t k => XS.iloadN XL.here hx rfl (hb hby at_156) rfl  k) ?_
      show Go p.tables e below P (TL.setTop (mkF m 157 #[.val (.int p1), .val (.int sx), .val (.long jl), .second, .val (.long jh), .second, .val (.int i6), .val (.ref ca), .unset, .unset] [(.int sx), (.int (7 : Int32)), (.int (7 : Int32)), (.ref ca)]))
      refine Go.step (fun t k => XS.lloadN XL.here hx rfl (hb hby at_157) rfl  k) ?_
      show Go p.tables e below P (TL.setTop (mkF m 158 #[.val (.int p1), .val (.int sx), .val (.long jl), .second, .val (.long jh), .second, .val (.int i6), .val (.ref ca), .unset, .unset] [(.long jl), (.int sx), (.int (7 : Int32)), (.int (7 : Int32)), (.ref ca)]))
      refine Go.step (fun t k => XS.lload XL.here hx rfl (hb hby at_158) rfl  k) ?_
      show Go p.tables e below P (TL.setTop (mkF m 160 #[.val (.int p1), .val (.int sx), .val (.long jl), .second, .val (.long jh), .second, .val (.int i6), .val (.ref ca), .unset, .unset] [(.long jh), (.long jl), (.int sx), (.int (7 : Int32)), (.int (7 : Int32)), (.ref ca)]))
      obtain ⟨_, _, ⟨T_22, L_22, k_22, n_22⟩, -, X_22, ⟨Lc_22, hQ_22, l_22, y_22, z_22⟩, st_22⟩ := Jvm.LawKit.callS XL hx (y := (⟨"com/example/wrasse/wrasse/WordsToleratedEditsPinLaw", "ch", "(IIJJ)C"⟩ : MethodName)) hown (mvT hZ (hw _ (List.mem_of_getElem? (i := 64) rfl))) (mvT hZ (hw _ (List.mem_of_getElem? (i := 65) rfl))) (mvT hZ (hw _ (List.mem_of_getElem? (i := 4) rfl))) (mvT hZ (hw _ (List.mem_of_getElem? (i := 66) rfl))) (by decide) (backOf (W := 2) (ch7 l Z a0 hw [] sx jl jh hL n0 (Nat.le_trans Z0 KL.1) ) hZ (hw _ (List.mem_of_getElem? (i := 66) rfl)) (hw _ (List.mem_of_getElem? (i := 4) rfl)) (by decide) (by decide)) (g := (mkF m 160 #[.val (.int p1), .val (.int sx), .val (.long jl), .second, .val (.long jh), .second, .val (.int i6), .val (.ref ca), .unset, .unset] [(.long jh), (.long jl), (.int sx), (.int (7 : Int32)), (.int (7 : Int32)), (.ref ca)])) rfl (by rw [hml]; rfl) (argsL := [(.int (7 : Int32)), (.int sx), (.long jl), (.long jh)]) (rest := [(.int (7 : Int32)), (.ref ca)]) (lenOf pd_19 rfl) rfl (by show 2 * 0 + _ ≤ _; exact Nat.le_of_eq rfl) (hb hby at_160) (fun _ _ => ⟨rfl, eL, (by decide : 1 + 0 ≤ _), (by decide : 12 + 0 ≤ _)⟩)
      dsimp only [Pt.U, Pt.locs, Pt.cells, Pt.slots] at X_22 l_22 y_22 z_22 st_22 hQ_22
      subst l_22 y_22 z_22
      obtain ⟨rc, rfl, hrc, N_22q, eh_22⟩ := hQ_22
      have N_22 := Fr.app NL N_22q
      refine Go.step (fun t k => st_22 t k) ?_
      show Go p.tables e below P (T_22.setTop (mkF m 163 #[.val (.int p1), .val (.int sx), .val (.long jl), .second, .val (.long jh), .second, .val (.int i6), .val (.ref ca), .unset, .unset] [(.int rc), (.int (7 : Int32)), (.ref ca)]))
      have hck : cs.length = 7 := by omega
      have brc : 0 ≤ rc.toInt ∧ rc.toInt < 65536 := by unfold Ok at hrc; omega
      have VP := (VL).pad (pad_rep (cs.map Value.int) (Value.int (0 : Int32)) 1)
      have vq_23 := VP
      obtain ⟨cl_23, Ar_23, q_23, S_23, Nn_23, H_23, G_23⟩ := vq_23
      have hin_23 : ¬ ((7 : Int32) < 0 ∨ cl_23.slots.size ≤ ((7 : Int32)).toNatClampNeg) := inb_of S_23 ⟨(by decide), (lt32 (by show (7 : Int) < _; omega))⟩
      obtain ⟨T_23, h_23, X_23, e_23, W_23, st_23⟩ := stC X_22 hx hZ eh_22 Ar_23 (j := (7 : Int32)) hin_23 (g := (mkF m 163 #[.val (.int p1), .val (.int sx), .val (.long jl), .second, .val (.long jh), .second, .val (.int i6), .val (.ref ca), .unset, .unset] [(.int rc), (.int (7 : Int32)), (.ref ca)])) rfl rfl (hb hby at_163)
      have hv_23 : (nar .char rc) = rc := Value.int.inj (nar_c brc)
      rw [hv_23] at W_23
      have V_23 : Arv Z h_23 ca k_1 .char i6 ((cs.map Value.int ++ List.replicate 1 (Value.int (0 : Int32))).set (7) (.int rc)) (.int (0 : Int32)) := Arv.set Ar_23 q_23 S_23 Nn_23 H_23 G_23 (by rw [← hv_23]; exact (fits_nar_char _)) W_23 (7) rfl (by first | (simp; done) | (simp; omega))
      have N_23 := Fr.snoc X_23 N_22 g_ca
      have K_23 : Keep h0 h_23 [] := KL.wr W_23 (Or.inr sz_ca)
      have Z_23 : n0 ≤ h_23.size := Nat.le_trans (Nat.le_trans Z0 KL.1) (Keep.of_wr W_23).1
      refine Go.step (fun t k => st_23 t k) ?_
      show Go p.tables e below P (T_23.setTop (mkF m 164 #[.val (.int p1), .val (.int sx), .val (.long jl), .second, .val (.long jh), .second, .val (.int i6), .val (.ref ca), .unset, .unset] []))
      have VQ := V_23
      rw [push_map cs rc 7 hck] at VQ
      exact JJ8 (cs ++ [rc]) _ _ _ X_23 N_23 e_23 K_23 VQ ⟨allok_push sx cs 0 rc hok (by rw [hck]; exact hrc), fun x hx => by rcases List.mem_append.mp hx with q | q; exact hch x q; rw [List.mem_singleton.mp q]; exact brc, by rw [List.length_append]; simp only [List.length_singleton]; omega⟩
  have JJ6 : ∀ (cs : List Int32) (TL : State) (LL : List Loc) (hL : Heap) (XL : Stand p l e room_1 s m #[(.int p1), (.int sx), (.long jl), (.long jh)] below meth c TL LL 1 12) (NL : Fr n0 LL) (eL : TL.heap = hL) (KL : Keep h0 hL []) (VL : Arv Z hL ca k_1 .char i6 (cs.map Value.int) (.int (0 : Int32))), (AllOk sx 0 cs ∧ (∀ x ∈ cs, 0 ≤ x.toInt ∧ x.toInt < 65536) ∧ ((nn ≤ 6 ∧ cs.length = nn) ∨ (6 < nn ∧ cs.length = 6))) → Go p.tables e below P (TL.setTop (mkF m 122 #[.val (.int p1), .val (.int sx), .val (.long jl), .second, .val (.long jh), .second, .val (.int i6), .val (.ref ca), .unset, .unset] [])) := by
    intro cs TL LL hL XL NL eL KL VL hyp
    obtain ⟨hok, hch, hlen⟩ := hyp
    show Go p.tables e below P (TL.setTop (mkF m 122 #[.val (.int p1), .val (.int sx), .val (.long jl), .second, .val (.long jh), .second, .val (.int i6), .val (.ref ca), .unset, .unset] []))
    refine Go.step (fun t k => XS.iload XL.here hx rfl (hb hby at_122) rfl  k) ?_
    show Go p.tables e below P (TL.setTop (mkF m 124 #[.val (.int p1), .val (.int sx), .val (.long jl), .second, .val (.long jh), .second, .val (.int i6), .val (.ref ca), .unset, .unset] [(.int i6)]))
    refine Go.step (fun t k => XS.bipush XL.here hx rfl (hb hby at_124) k) ?_
    show Go p.tables e below P (TL.setTop (mkF m 126 #[.val (.int p1), .val (.int sx), .val (.long jl), .second, .val (.long jh), .second, .val (.int i6), .val (.ref ca), .unset, .unset] [(.int (6 : Int32)), (.int i6)]))
    by_cases hc126 : i6.toInt ≤ (6 : Int)
    · refine Go.step (fun t k => XS.icmpYes XL.here hx rfl (pc0 := 126) (pc' := 143) rfl (hb hby at_126) rfl (icY (cd := .le) hc126) (by decide) (by decide) k) ?_
      show Go p.tables e below P (TL.setTop (mkF m 143 #[.val (.int p1), .val (.int sx), .val (.long jl), .second, .val (.long jh), .second, .val (.int i6), .val (.ref ca), .unset, .unset] []))
      exact JJ7 cs _ _ _ XL NL eL KL VL ⟨hok, hch, by omega⟩
    · refine Go.step (fun t k => XS.icmpNo XL.here hx rfl (hb hby at_126) rfl (icN (cd := .le) hc126) k) ?_
      show Go p.tables e below P (TL.setTop (mkF m 129 #[.val (.int p1), .val (.int sx), .val (.long jl), .second, .val (.long jh), .second, .val (.int i6), .val (.ref ca), .unset, .unset] []))
      refine Go.step (fun t k => XS.aload XL.here hx rfl (hb hby at_129) rfl rfl k) ?_
      show Go p.tables e below P (TL.setTop (mkF m 131 #[.val (.int p1), .val (.int sx), .val (.long jl), .second, .val (.long jh), .second, .val (.int i6), .val (.ref ca), .unset, .unset] [(.ref ca)]))
      refine Go.step (fun t k => XS.bipush XL.here hx rfl (hb hby at_131) k) ?_
      show Go p.tables e below P (TL.setTop (mkF m 133 #[.val (.int p1), .val (.int sx), .val (.long jl), .second, .val (.long jh), .second, .val (.int i6), .val (.ref ca), .unset, .unset] [(.int (6 : Int32)), (.ref ca)]))
      refine Go.step (fun t k => XS.bipush XL.here hx rfl (hb hby at_133) k) ?_
      show Go p.tables e below P (TL.setTop (mkF m 135 #[.val (.int p1), .val (.int sx), .val (.long jl), .second, .val (.long jh), .second, .val (.int i6), .val (.ref ca), .unset, .unset] [(.int (6 : Int32)), (.int (6 : Int32)), (.ref ca)]))
      refine Go.step (fun t k => XS.iloadN XL.here hx rfl (hb hby at_135) rfl  k) ?_
      show Go p.tables e below P (TL.setTop (mkF m 136 #[.val (.int p1), .val (.int sx), .val (.long jl), .second, .val (.long jh), .second, .val (.int i6), .val (.ref ca), .unset, .unset] [(.int sx), (.int (6 : Int32)), (.int (6 : Int32)), (.ref ca)]))
      refine Go.step (fun t k => XS.lloadN XL.here hx rfl (hb hby at_136) rfl  k) ?_
      show Go p.tables e below P (TL.setTop (mkF m 137 #[.val (.int p1), .val (.int sx), .val (.long jl), .second, .val (.long jh), .second, .val (.int i6), .val (.ref ca), .unset, .unset] [(.long jl), (.int sx), (.int (6 : Int32)), (.int (6 : Int32)), (.ref ca)]))
      refine Go.step (fun t k => XS.lload XL.here hx rfl (hb hby at_137) rfl  k) ?_
      show Go p.tables e below P (TL.setTop (mkF m 139 #[.val (.int p1), .val (.int sx), .val (.long jl), .second, .val (.long jh), .second, .val (.int i6), .val (.ref ca), .unset, .unset] [(.long jh), (.long jl), (.int sx), (.int (6 : Int32)), (.int (6 : Int32)), (.ref ca)]))
      obtain ⟨_, _, ⟨T_24, L_24, k_24, n_24⟩, -, X_24, ⟨Lc_24, hQ_24, l_24, y_24, z_24⟩, st_24⟩ := Jvm.LawKit.callS XL hx (y := (⟨"com/example/wrasse/wrasse/WordsToleratedEditsPinLaw", "ch", "(IIJJ)C"⟩ : MethodName)) hown (mvT hZ (hw _ (List.mem_of_getElem? (i := 64) rfl))) (mvT hZ (hw _ (List.mem_of_getElem? (i := 65) rfl))) (mvT hZ (hw _ (List.mem_of_getElem? (i := 4) rfl))) (mvT hZ (hw _ (List.mem_of_getElem? (i := 66) rfl))) (by decide) (backOf (W := 2) (ch6 l Z a0 hw [] sx jl jh hL n0 (Nat.le_trans Z0 KL.1) ) hZ (hw _ (List.mem_of_getElem? (i := 66) rfl)) (hw _ (List.mem_of_getElem? (i := 4) rfl)) (by decide) (by decide)) (g := (mkF m 139 #[.val (.int p1), .val (.int sx), .val (.long jl), .second, .val (.long jh), .second, .val (.int i6), .val (.ref ca), .unset, .unset] [(.long jh), (.long jl), (.int sx), (.int (6 : Int32)), (.int (6 : Int32)), (.ref ca)])) rfl (by rw [hml]; rfl) (argsL := [(.int (6 : Int32)), (.int sx), (.long jl), (.long jh)]) (rest := [(.int (6 : Int32)), (.ref ca)]) (lenOf pd_19 rfl) rfl (by show 2 * 0 + _ ≤ _; exact Nat.le_of_eq rfl) (hb hby at_139) (fun _ _ => ⟨rfl, eL, (by decide : 1 + 0 ≤ _), (by decide : 12 + 0 ≤ _)⟩)
      dsimp only [Pt.U, Pt.locs, Pt.cells, Pt.slots] at X_24 l_24 y_24 z_24 st_24 hQ_24
      subst l_24 y_24 z_24
      obtain ⟨rc, rfl, hrc, N_24q, eh_24⟩ := hQ_24
      have N_24 := Fr.app NL N_24q
      refine Go.step (fun t k => st_24 t k) ?_
      show Go p.tables e below P (T_24.setTop (mkF m 142 #[.val (.int p1), .val (.int sx), .val (.long jl), .second, .val (.long jh), .second, .val (.int i6), .val (.ref ca), .unset, .unset] [(.int rc), (.int (6 : Int32)), (.ref ca)]))
      have hck : cs.length = 6 := by omega
      have brc : 0 ≤ rc.toInt ∧ rc.toInt < 65536 := by unfold Ok at hrc; omega
      have VP := (VL).pad (pad_rep (cs.map Value.int) (Value.int (0 : Int32)) 1)
      have vq_25 := VP
      obtain ⟨cl_25, Ar_25, q_25, S_25, Nn_25, H_25, G_25⟩ := vq_25
      have hin_25 : ¬ ((6 : Int32) < 0 ∨ cl_25.slots.size ≤ ((6 : Int32)).toNatClampNeg) := inb_of S_25 ⟨(by decide), (lt32 (by show (6 : Int) < _; omega))⟩
      obtain ⟨T_25, h_25, X_25, e_25, W_25, st_25⟩ := stC X_24 hx hZ eh_24 Ar_25 (j := (6 : Int32)) hin_25 (g := (mkF m 142 #[.val (.int p1), .val (.int sx), .val (.long jl), .second, .val (.long jh), .second, .val (.int i6), .val (.ref ca), .unset, .unset] [(.int rc), (.int (6 : Int32)), (.ref ca)])) rfl rfl (hb hby at_142)
      have hv_25 : (nar .char rc) = rc := Value.int.inj (nar_c brc)
      rw [hv_25] at W_25
      have V_25 : Arv Z h_25 ca k_1 .char i6 ((cs.map Value.int ++ List.replicate 1 (Value.int (0 : Int32))).set (6) (.int rc)) (.int (0 : Int32)) := Arv.set Ar_25 q_25 S_25 Nn_25 H_25 G_25 (by rw [← hv_25]; exact (fits_nar_char _)) W_25 (6) rfl (by first | (simp; done) | (simp; omega))
      have N_25 := Fr.snoc X_25 N_24 g_ca
      have K_25 : Keep h0 h_25 [] := KL.wr W_25 (Or.inr sz_ca)
      have Z_25 : n0 ≤ h_25.size := Nat.le_trans (Nat.le_trans Z0 KL.1) (Keep.of_wr W_25).1
      refine Go.step (fun t k => st_25 t k) ?_
      show Go p.tables e below P (T_25.setTop (mkF m 143 #[.val (.int p1), .val (.int sx), .val (.long jl), .second, .val (.long jh), .second, .val (.int i6), .val (.ref ca), .unset, .unset] []))
      have VQ := V_25
      rw [push_map cs rc 6 hck] at VQ
      exact JJ7 (cs ++ [rc]) _ _ _ X_25 N_25 e_25 K_25 VQ ⟨allok_push sx cs 0 rc hok (by rw [hck]; exact hrc), fun x hx => by rcases List.mem_append.mp hx with q | q; exact hch x q; rw [List.mem_singleton.mp q]; exact brc, by rw [List.length_append]; simp only [List.length_singleton]; omega⟩
  have JJ5 : ∀ (cs : List Int32) (TL : State) (LL : List Loc) (hL : Heap) (XL : Stand p l e room_1 s m #[(.int p1), (.int sx), (.long jl), (.long jh)] below meth c TL LL 1 12) (NL : Fr n0 LL) (eL : TL.heap = hL) (KL : Keep h0 hL []) (VL : Arv Z hL ca k_1 .char i6 (cs.map Value.int) (.int (0 : Int32))), (AllOk sx 0 cs ∧ (∀ x ∈ cs, 0 ≤ x.toInt ∧ x.toInt < 65536) ∧ ((nn ≤ 5 ∧ cs.length = nn) ∨ (5 < nn ∧ cs.length = 5))) → Go p.tables e below P (TL.setTop (mkF m 104 #[.val (.int p1), .val (.int sx), .val (.long jl), .second, .val (.long jh), .second, .val (.int i6), .val (.ref ca), .unset, .unset] [])) := by
    intro cs TL LL hL XL NL eL KL VL hyp
    obtain ⟨hok, hch, hlen⟩ := hyp
    show Go p.tables e below P (TL.setTop (mkF m 104 #[.val (.int p1), .val (.int sx), .val (.long jl), .second, .val (.long jh), .second, .val (.int i6), .val (.ref ca), .unset, .unset] []))
    refine Go.step (fun t k => XS.iload XL.here hx rfl (hb hby at_104) rfl  k) ?_
    show Go p.tables e below P (TL.setTop (mkF m 106 #[.val (.int p1), .val (.int sx), .val (.long jl), .second, .val (.long jh), .second, .val (.int i6), .val (.ref ca), .unset, .unset] [(.int i6)]))
    refine Go.step (fun t k => XS.iconst XL.here hx rfl (hb hby at_106) k) ?_
    show Go p.tables e below P (TL.setTop (mkF m 107 #[.val (.int p1), .val (.int sx), .val (.long jl), .second, .val (.long jh), .second, .val (.int i6), .val (.ref ca), .unset, .unset] [(.int (5 : Int32)), (.int i6)]))
    by_cases hc107 : i6.toInt ≤ (5 : Int)
    · refine Go.step (fun t k => XS.icmpYes XL.here hx rfl (pc0 := 107) (pc' := 122) rfl (hb hby at_107) rfl (icY (cd := .le) hc107) (by decide) (by decide) k) ?_
      show Go p.tables e below P (TL.setTop (mkF m 122 #[.val (.int p1), .val (.int sx), .val (.long jl), .second, .val (.long jh), .second, .val (.int i6), .val (.ref ca), .unset, .unset] []))
      exact JJ6 cs _ _ _ XL NL eL KL VL ⟨hok, hch, by omega⟩
    · refine Go.step (fun t k => XS.icmpNo XL.here hx rfl (hb hby at_107) rfl (icN (cd := .le) hc107) k) ?_
      show Go p.tables e below P (TL.setTop (mkF m 110 #[.val (.int p1), .val (.int sx), .val (.long jl), .second, .val (.long jh), .second, .val (.int i6), .val (.ref ca), .unset, .unset] []))
      refine Go.step (fun t k => XS.aload XL.here hx rfl (hb hby at_110) rfl rfl k) ?_
      show Go p.tables e below P (TL.setTop (mkF m 112 #[.val (.int p1), .val (.int sx), .val (.long jl), .second, .val (.long jh), .second, .val (.int i6), .val (.ref ca), .unset, .unset] [(.ref ca)]))
      refine Go.step (fun t k => XS.iconst XL.here hx rfl (hb hby at_112) k) ?_
      show Go p.tables e below P (TL.setTop (mkF m 113 #[.val (.int p1), .val (.int sx), .val (.long jl), .second, .val (.long jh), .second, .val (.int i6), .val (.ref ca), .unset, .unset] [(.int (5 : Int32)), (.ref ca)]))
      refine Go.step (fun t k => XS.iconst XL.here hx rfl (hb hby at_113) k) ?_
      show Go p.tables e below P (TL.setTop (mkF m 114 #[.val (.int p1), .val (.int sx), .val (.long jl), .second, .val (.long jh), .second, .val (.int i6), .val (.ref ca), .unset, .unset] [(.int (5 : Int32)), (.int (5 : Int32)), (.ref ca)]))
      refine Go.step (fun t k => XS.iloadN XL.here hx rfl (hb hby at_114) rfl  k) ?_
      show Go p.tables e below P (TL.setTop (mkF m 115 #[.val (.int p1), .val (.int sx), .val (.long jl), .second, .val (.long jh), .second, .val (.int i6), .val (.ref ca), .unset, .unset] [(.int sx), (.int (5 : Int32)), (.int (5 : Int32)), (.ref ca)]))
      refine Go.step (fun t k => XS.lloadN XL.here hx rfl (hb hby at_115) rfl  k) ?_
      show Go p.tables e below P (TL.setTop (mkF m 116 #[.val (.int p1), .val (.int sx), .val (.long jl), .second, .val (.long jh), .second, .val (.int i6), .val (.ref ca), .unset, .unset] [(.long jl), (.int sx), (.int (5 : Int32)), (.int (5 : Int32)), (.ref ca)]))
      refine Go.step (fun t k => XS.lload XL.here hx rfl (hb hby at_116) rfl  k) ?_
      show Go p.tables e below P (TL.setTop (mkF m 118 #[.val (.int p1), .val (.int sx), .val (.long jl), .second, .val (.long jh), .second, .val (.int i6), .val (.ref ca), .unset, .unset] [(.long jh), (.long jl), (.int sx), (.int (5 : Int32)), (.int (5 : Int32)), (.ref ca)]))
      obtain ⟨_, _, ⟨T_26, L_26, k_26, n_26⟩, -, X_26, ⟨Lc_26, hQ_26, l_26, y_26, z_26⟩, st_26⟩ := Jvm.LawKit.callS XL hx (y := (⟨"com/example/wrasse/wrasse/WordsToleratedEditsPinLaw", "ch", "(IIJJ)C"⟩ : MethodName)) hown (mvT hZ (hw _ (List.mem_of_getElem? (i := 64) rfl))) (mvT hZ (hw _ (List.mem_of_getElem? (i := 65) rfl))) (mvT hZ (hw _ (List.mem_of_getElem? (i := 4) rfl))) (mvT hZ (hw _ (List.mem_of_getElem? (i := 66) rfl))) (by decide) (backOf (W := 2) (ch5 l Z a0 hw [] sx jl jh hL n0 (Nat.le_trans Z0 KL.1) ) hZ (hw _ (List.mem_of_getElem? (i := 66) rfl)) (hw _ (List.mem_of_getElem? (i := 4) rfl)) (by decide) (by decide)) (g := (mkF m 118 #[.val (.int p1), .val (.int sx), .val (.long jl), .second, .val (.long jh), .second, .val (.int i6), .val (.ref ca), .unset, .unset] [(.long jh), (.long jl), (.int sx), (.int (5 : Int32)), (.int (5 : Int32)), (.ref ca)])) rfl (by rw [hml]; rfl) (argsL := [(.int (5 : Int32)), (.int sx), (.long jl), (.long jh)]) (rest := [(.int (5 : Int32)), (.ref ca)]) (lenOf pd_19 rfl) rfl (by show 2 * 0 + _ ≤ _; exact Nat.le_of_eq rfl) (hb hby at_118) (fun _ _ => ⟨rfl, eL, (by decide : 1 + 0 ≤ _), (by decide : 12 + 0 ≤ _)⟩)
      dsimp only [Pt.U, Pt.locs, Pt.cells, Pt.slots] at X_26 l_26 y_26 z_26 st_26 hQ_26
      subst l_26 y_26 z_26
      obtain ⟨rc, rfl, hrc, N_26q, eh_26⟩ := hQ_26
      have N_26 := Fr.app NL N_26q
      refine Go.step (fun t k => st_26 t k) ?_
      show Go p.tables e below P (T_26.setTop (mkF m 121 #[.val (.int p1), .val (.int sx), .val (.long jl), .second, .val (.long jh), .second, .val (.int i6), .val (.ref ca), .unset, .unset] [(.int rc), (.int (5 : Int32)), (.ref ca)]))
      have hck : cs.length = 5 := by omega
      have brc : 0 ≤ rc.toInt ∧ rc.toInt < 65536 := by unfold Ok at hrc; omega
      have VP := (VL).pad (pad_rep (cs.map Value.int) (Value.int (0 : Int32)) 1)
      have vq_27 := VP
      obtain ⟨cl_27, Ar_27, q_27, S_27, Nn_27, H_27, G_27⟩ := vq_27
      have hin_27 : ¬ ((5 : Int32) < 0 ∨ cl_27.slots.size ≤ ((5 : Int32)).toNatClampNeg) := inb_of S_27 ⟨(by decide), (lt32 (by show (5 : Int) < _; omega))⟩
      obtain ⟨T_27, h_27, X_27, e_27, W_27, st_27⟩ := stC X_26 hx hZ eh_26 Ar_27 (j := (5 : Int32)) hin_27 (g := (mkF m 121 #[.val (.int p1), .val (.int sx), .val (.long jl), .second, .val (.long jh), .second, .val (.int i6), .val (.ref ca), .unset, .unset] [(.int rc), (.int (5 : Int32)), (.ref ca)])) rfl rfl (hb hby at_121)
      have hv_27 : (nar .char rc) = rc := Value.int.inj (nar_c brc)
      rw [hv_27] at W_27
      have V_27 : Arv Z h_27 ca k_1 .char i6 ((cs.map Value.int ++ List.replicate 1 (Value.int (0 : Int32))).set (5) (.int rc)) (.int (0 : Int32)) := Arv.set Ar_27 q_27 S_27 Nn_27 H_27 G_27 (by rw [← hv_27]; exact (fits_nar_char _)) W_27 (5) rfl (by first | (simp; done) | (simp; omega))
      have N_27 := Fr.snoc X_27 N_26 g_ca
      have K_27 : Keep h0 h_27 [] := KL.wr W_27 (Or.inr sz_ca)
      have Z_27 : n0 ≤ h_27.size := Nat.le_trans (Nat.le_trans Z0 KL.1) (Keep.of_wr W_27).1
      refine Go.step (fun t k => st_27 t k) ?_
      show Go p.tables e below P (T_27.setTop (mkF m 122 #[.val (.int p1), .val (.int sx), .val (.long jl), .second, .val (.long jh), .second, .val (.int i6), .val (.ref ca), .unset, .unset] []))
      have VQ := V_27
      rw [push_map cs rc 5 hck] at VQ
      exact JJ6 (cs ++ [rc]) _ _ _ X_27 N_27 e_27 K_27 VQ ⟨allok_push sx cs 0 rc hok (by rw [hck]; exact hrc), fun x hx => by rcases List.mem_append.mp hx with q | q; exact hch x q; rw [List.mem_singleton.mp q]; exact brc, by rw [List.length_append]; simp only [List.length_singleton]; omega⟩
  have JJ4 : ∀ (cs : List Int32) (TL : State) (LL : List Loc) (hL : Heap) (XL : Stand p l e room_1 s m #[(.int p1), (.int sx), (.long jl), (.long jh)] below meth c TL LL 1 12) (NL : Fr n0 LL) (eL : TL.heap = hL) (KL : Keep h0 hL []) (VL : Arv Z hL ca k_1 .char i6 (cs.map Value.int) (.int (0 : Int32))), (AllOk sx 0 cs ∧ (∀ x ∈ cs, 0 ≤ x.toInt ∧ x.toInt < 65536) ∧ ((nn ≤ 4 ∧ cs.length = nn) ∨ (4 < nn ∧ cs.length = 4))) → Go p.tables e below P (TL.setTop (mkF m 86 #[.val (.int p1), .val (.int sx), .val (.long jl), .second, .val (.long jh), .second, .val (.int i6), .val (.ref ca), .unset, .unset] [])) := by
    intro cs TL LL hL XL NL eL KL VL hyp
    obtain ⟨hok, hch, hlen⟩ := hyp
    show Go p.tables e below P (TL.setTop (mkF m 86 #[.val (.int p1), .val (.int sx), .val (.long jl), .second, .val (.long jh), .second, .val (.int i6), .val (.ref ca), .unset, .unset] []))
    refine Go.step (fun t k => XS.iload XL.here hx rfl (hb hby at_86) rfl  k) ?_
    show Go p.tables e below P (TL.setTop (mkF m 88 #[.val (.int p1), .val (.int sx), .val (.long jl), .second, .val (.long jh), .second, .val (.int i6), .val (.ref ca), .unset, .unset] [(.int i6)]))
    refine Go.step (fun t k => XS.iconst XL.here hx rfl (hb hby at_88) k) ?_
    show Go p.tables e below P (TL.setTop (mkF m 89 #[.val (.int p1), .val (.int sx), .val (.long jl), .second, .val (.long jh), .second, .val (.int i6), .val (.ref ca), .unset, .unset] [(.int (4 : Int32)), (.int i6)]))
    by_cases hc89 : i6.toInt ≤ (4 : Int)
    · refine Go.step (fun t k => XS.icmpYes XL.here hx rfl (pc0 := 89) (pc' := 104) rfl (hb hby at_89) rfl (icY (cd := .le) hc89) (by decide) (by decide) k) ?_
      show Go p.tables e below P (TL.setTop (mkF m 104 #[.val (.int p1), .val (.int sx), .val (.long jl), .second, .val (.long jh), .second, .val (.int i6), .val (.ref ca), .unset, .unset] []))
      exact JJ5 cs _ _ _ XL NL eL KL VL ⟨hok, hch, by omega⟩
    · refine Go.step (fun t k => XS.icmpNo XL.here hx rfl (hb hby at_89) rfl (icN (cd := .le) hc89) k) ?_
      show Go p.tables e below P (TL.setTop (mkF m 92 #[.val (.int p1), .val (.int sx), .val (.long jl), .second, .val (.long jh), .second, .val (.int i6), .val (.ref ca), .unset, .unset] []))
      refine Go.step (fun t k => XS.aload XL.here hx rfl (hb hby at_92) rfl rfl k) ?_
      show Go p.tables e below P (TL.setTop (mkF m 94 #[.val (.int p1), .val (.int sx), .val (.long jl), .second, .val (.long jh), .second, .val (.int i6), .val (.ref ca), .unset, .unset] [(.ref ca)]))
      refine Go.step (fun t k => XS.iconst XL.here hx rfl (hb hby at_94) k) ?_
      show Go p.tables e below P (TL.setTop (mkF m 95 #[.val (.int p1), .val (.int sx), .val (.long jl), .second, .val (.long jh), .second, .val (.int i6), .val (.ref ca), .unset, .unset] [(.int (4 : Int32)), (.ref ca)]))
      refine Go.step (fun t k => XS.iconst XL.here hx rfl (hb hby at_95) k) ?_
      show Go p.tables e below P (TL.setTop (mkF m 96 #[.val (.int p1), .val (.int sx), .val (.long jl), .second, .val (.long jh), .second, .val (.int i6), .val (.ref ca), .unset, .unset] [(.int (4 : Int32)), (.int (4 : Int32)), (.ref ca)]))
      refine Go.step (fun t k => XS.iloadN XL.here hx rfl (hb hby at_96) rfl  k) ?_
      show Go p.tables e below P (TL.setTop (mkF m 97 #[.val (.int p1), .val (.int sx), .val (.long jl), .second, .val (.long jh), .second, .val (.int i6), .val (.ref ca), .unset, .unset] [(.int sx), (.int (4 : Int32)), (.int (4 : Int32)), (.ref ca)]))
      refine Go.step (fun t k => XS.lloadN XL.here hx rfl (hb hby at_97) rfl  k) ?_
      show Go p.tables e below P (TL.setTop (mkF m 98 #[.val (.int p1), .val (.int sx), .val (.long jl), .second, .val (.long jh), .second, .val (.int i6), .val (.ref ca), .unset, .unset] [(.long jl), (.int sx), (.int (4 : Int32)), (.int (4 : Int32)), (.ref ca)]))
      refine Go.step (fun t k => XS.lload XL.here hx rfl (hb hby at_98) rfl  k) ?_
      show Go p.tables e below P (TL.setTop (mkF m 100 #[.val (.int p1), .val (.int sx), .val (.long jl), .second, .val (.long jh), .second, .val (.int i6), .val (.ref ca), .unset, .unset] [(.long jh), (.long jl), (.int sx), (.int (4 : Int32)), (.int (4 : Int32)), (.ref ca)]))
      obtain ⟨_, _, ⟨T_28, L_28, k_28, n_28⟩, -, X_28, ⟨Lc_28, hQ_28, l_28, y_28, z_28⟩, st_28⟩ := Jvm.LawKit.callS XL hx (y := (⟨"com/example/wrasse/wrasse/WordsToleratedEditsPinLaw", "ch", "(IIJJ)C"⟩ : MethodName)) hown (mvT hZ (hw _ (List.mem_of_getElem? (i := 64) rfl))) (mvT hZ (hw _ (List.mem_of_getElem? (i := 65) rfl))) (mvT hZ (hw _ (List.mem_of_getElem? (i := 4) rfl))) (mvT hZ (hw _ (List.mem_of_getElem? (i := 66) rfl))) (by decide) (backOf (W := 2) (ch4 l Z a0 hw [] sx jl jh hL n0 (Nat.le_trans Z0 KL.1) ) hZ (hw _ (List.mem_of_getElem? (i := 66) rfl)) (hw _ (List.mem_of_getElem? (i := 4) rfl)) (by decide) (by decide)) (g := (mkF m 100 #[.val (.int p1), .val (.int sx), .val (.long jl), .second, .val (.long jh), .second, .val (.int i6), .val (.ref ca), .unset, .unset] [(.long jh), (.long jl), (.int sx), (.int (4 : Int32)), (.int (4 : Int32)), (.ref ca)])) rfl (by rw [hml]; rfl) (argsL := [(.int (4 : Int32)), (.int sx), (.long jl), (.long jh)]) (rest := [(.int (4 : Int32)), (.ref ca)]) (lenOf pd_19 rfl) rfl (by show 2 * 0 + _ ≤ _; exact Nat.le_of_eq rfl) (hb hby at_100) (fun _ _ => ⟨rfl, eL, (by decide : 1 + 0 ≤ _), (by decide : 12 + 0 ≤ _)⟩)
      dsimp only [Pt.U, Pt.locs, Pt.cells, Pt.slots] at X_28 l_28 y_28 z_28 st_28 hQ_28
      subst l_28 y_28 z_28
      obtain ⟨rc, rfl, hrc, N_28q, eh_28⟩ := hQ_28
      have N_28 := Fr.app NL N_28q
      refine Go.step (fun t k => st_28 t k) ?_
      show Go p.tables e below P (T_28.setTop (mkF m 103 #[.val (.int p1), .val (.int sx), .val (.long jl), .second, .val (.long jh), .second, .val (.int i6), .val (.ref ca), .unset, .unset] [(.int rc), (.int (4 : Int32)), (.ref ca)]))
      have hck : cs.length = 4 := by omega
      have brc : 0 ≤ rc.toInt ∧ rc.toInt < 65536 := by unfold Ok at hrc; omega
      have VP := (VL).pad (pad_rep (cs.map Value.int) (Value.int (0 : Int32)) 1)
      have vq_29 := VP
      obtain ⟨cl_29, Ar_29, q_29, S_29, Nn_29, H_29, G_29⟩ := vq_29
      have hin_29 : ¬ ((4 : Int32) < 0 ∨ cl_29.slots.size ≤ ((4 : Int32)).toNatClampNeg) := inb_of S_29 ⟨(by decide), (lt32 (by show (4 : Int) < _; omega))⟩
      obtain ⟨T_29, h_29, X_29, e_29, W_29, st_29⟩ := stC X_28 hx hZ eh_28 Ar_29 (j := (4 : Int32)) hin_29 (g := (mkF m 103 #[.val (.int p1), .val (.int sx), .val (.long jl), .second, .val (.long jh), .second, .val (.int i6), .val (.ref ca), .unset, .unset] [(.int rc), (.int (4 : Int32)), (.ref ca)])) rfl rfl (hb hby at_103)
      have hv_29 : (nar .char rc) = rc := Value.int.inj (nar_c brc)
      rw [hv_29] at W_29
      have V_29 : Arv Z h_29 ca k_1 .char i6 ((cs.map Value.int ++ List.replicate 1 (Value.int (0 : Int32))).set (4) (.int rc)) (.int (0 : Int32)) := Arv.set Ar_29 q_29 S_29 Nn_29 H_29 G_29 (by rw [← hv_29]; exact (fits_nar_char _)) W_29 (4) rfl (by first | (simp; done) | (simp; omega))
      have N_29 := Fr.snoc X_29 N_28 g_ca
      have K_29 : Keep h0 h_29 [] := KL.wr W_29 (Or.inr sz_ca)
      have Z_29 : n0 ≤ h_29.size := Nat.le_trans (Nat.le_trans Z0 KL.1) (Keep.of_wr W_29).1
      refine Go.step (fun t k => st_29 t k) ?_
      show Go p.tables e below P (T_29.setTop (mkF m 104 #[.val (.int p1), .val (.int sx), .val (.long jl), .second, .val (.long jh), .second, .val (.int i6), .val (.ref ca), .unset, .unset] []))
      have VQ := V_29
      rw [push_map cs rc 4 hck] at VQ
      exact JJ5 (cs ++ [rc]) _ _ _ X_29 N_29 e_29 K_29 VQ ⟨allok_push sx cs 0 rc hok (by rw [hck]; exact hrc), fun x hx => by rcases List.mem_append.mp hx with q | q; exact hch x q; rw [List.mem_singleton.mp q]; exact brc, by rw [List.length_append]; simp only [List.length_singleton]; omega⟩
  have JJ3 : ∀ (cs : List Int32) (TL : State) (LL : List Loc) (hL : Heap) (XL : Stand p l e room_1 s m #[(.int p1), (.int sx), (.long jl), (.long jh)] below meth c TL LL 1 12) (NL : Fr n0 LL) (eL : TL.heap = hL) (KL : Keep h0 hL []) (VL : Arv Z hL ca k_1 .char i6 (cs.map Value.int) (.int (0 : Int32))), (AllOk sx 0 cs ∧ (∀ x ∈ cs, 0 ≤ x.toInt ∧ x.toInt < 65536) ∧ ((nn ≤ 3 ∧ cs.length = nn) ∨ (3 < nn ∧ cs.length = 3))) → Go p.tables e below P (TL.setTop (mkF m 68 #[.val (.int p1), .val (.int sx), .val (.long jl), .second, .val (.long jh), .second, .val (.int i6), .val (.ref ca), .unset, .unset] [])) := by
    intro cs TL LL hL XL NL eL KL VL hyp
    obtain ⟨hok, hch, hlen⟩ := hyp
    show Go p.tables e below P (TL.setTop (mkF m 68 #[.val (.int p1), .val (.int sx), .val (.long jl), .second, .val (.long jh), .second, .val (.int i6), .val (.ref ca), .unset, .unset] []))
    refine Go.step (fun t k => XS.iload XL.here hx rfl (hb hby at_68) rfl  k) ?_
    show Go p.tables e below P (TL.setTop (mkF m 70 #[.val (.int p1), .val (.int sx), .val (.long jl), .second, .val (.long jh), .second, .val (.int i6), .val (.ref ca), .unset, .unset] [(.int i6)]))
    refine Go.step (fun t k => XS.iconst XL.here hx rfl (hb hby at_70) k) ?_
    show Go p.tables e below P (TL.setTop (mkF m 71 #[.val (.int p1), .val (.int sx), .val (.long jl), .second, .val (.long jh), .second, .val (.int i6), .val (.ref ca), .unset, .unset] [(.int (3 : Int32)), (.int i6)]))
    by_cases hc71 : i6.toInt ≤ (3 : Int)
    · refine Go.step (fun t k => XS.icmpYes XL.here hx rfl (pc0 := 71) (pc' := 86) rfl (hb hby at_71) rfl (icY (cd := .le) hc71) (by decide) (by decide) k) ?_
      show Go p.tables e below P (TL.setTop (mkF m 86 #[.val (.int p1), .val (.int sx), .val (.long jl), .second, .val (.long jh), .second, .val (.int i6), .val (.ref ca), .unset, .unset] []))
      exact JJ4 cs _ _ _ XL NL eL KL VL ⟨hok, hch, by omega⟩
    · refine Go.step (fun t k => XS.icmpNo XL.here hx rfl (hb hby at_71) rfl (icN (cd := .le) hc71) k) ?_
      show Go p.tables e below P (TL.setTop (mkF m 74 #[.val (.int p1), .val (.int sx), .val (.long jl), .second, .val (.long jh), .second, .val (.int i6), .val (.ref ca), .unset, .unset] []))
      refine Go.step (fun t k => XS.aload XL.here hx rfl (hb hby at_74) rfl rfl k) ?_
      show Go p.tables e below P (TL.setTop (mkF m 76 #[.val (.int p1), .val (.int sx), .val (.long jl), .second, .val (.long jh), .second, .val (.int i6), .val (.ref ca), .unset, .unset] [(.ref ca)]))
      refine Go.step (fun t k => XS.iconst XL.here hx rfl (hb hby at_76) k) ?_
      show Go p.tables e below P (TL.setTop (mkF m 77 #[.val (.int p1), .val (.int sx), .val (.long jl), .second, .val (.long jh), .second, .val (.int i6), .val (.ref ca), .unset, .unset] [(.int (3 : Int32)), (.ref ca)]))
      refine Go.step (fun t k => XS.iconst XL.here hx rfl (hb hby at_77) k) ?_
      show Go p.tables e below P (TL.setTop (mkF m 78 #[.val (.int p1), .val (.int sx), .val (.long jl), .second, .val (.long jh), .second, .val (.int i6), .val (.ref ca), .unset, .unset] [(.int (3 : Int32)), (.int (3 : Int32)), (.ref ca)]))
      refine Go.step (fun t k => XS.iloadN XL.here hx rfl (hb hby at_78) rfl  k) ?_
      show Go p.tables e below P (TL.setTop (mkF m 79 #[.val (.int p1), .val (.int sx), .val (.long jl), .second, .val (.long jh), .second, .val (.int i6), .val (.ref ca), .unset, .unset] [(.int sx), (.int (3 : Int32)), (.int (3 : Int32)), (.ref ca)]))
      refine Go.step (fun t k => XS.lloadN XL.here hx rfl (hb hby at_79) rfl  k) ?_
      show Go p.tables e below P (TL.setTop (mkF m 80 #[.val (.int p1), .val (.int sx), .val (.long jl), .second, .val (.long jh), .second, .val (.int i6), .val (.ref ca), .unset, .unset] [(.long jl), (.int sx), (.int (3 : Int32)), (.int (3 : Int32)), (.ref ca)]))
      refine Go.step (fun t k => XS.lload XL.here hx rfl (hb hby at_80) rfl  k) ?_
      show Go p.tables e below P (TL.setTop (mkF m 82 #[.val (.int p1), .val (.int sx), .val (.long jl), .second, .val (.long jh), .second, .val (.int i6), .val (.ref ca), .unset, .unset] [(.long jh), (.long jl), (.int sx), (.int (3 : Int32)), (.int (3 : Int32)), (.ref ca)]))
      obtain ⟨_, _, ⟨T_30, L_30, k_30, n_30⟩, -, X_30, ⟨Lc_30, hQ_30, l_30, y_30, z_30⟩, st_30⟩ := Jvm.LawKit.callS XL hx (y := (⟨"com/example/wrasse/wrasse/WordsToleratedEditsPinLaw", "ch", "(IIJJ)C"⟩ : MethodName)) hown (mvT hZ (hw _ (List.mem_of_getElem? (i := 64) rfl))) (mvT hZ (hw _ (List.mem_of_getElem? (i := 65) rfl))) (mvT hZ (hw _ (List.mem_of_getElem? (i := 4) rfl))) (mvT hZ (hw _ (List.mem_of_getElem? (i := 66) rfl))) (by decide) (backOf (W := 2) (ch3 l Z a0 hw [] sx jl jh hL n0 (Nat.le_trans Z0 KL.1) ) hZ (hw _ (List.mem_of_getElem? (i := 66) rfl)) (hw _ (List.mem_of_getElem? (i := 4) rfl)) (by decide) (by decide)) (g := (mkF m 82 #[.val (.int p1), .val (.int sx), .val (.long jl), .second, .val (.long jh), .second, .val (.int i6), .val (.ref ca), .unset, .unset] [(.long jh), (.long jl), (.int sx), (.int (3 : Int32)), (.int (3 : Int32)), (.ref ca)])) rfl (by rw [hml]; rfl) (argsL := [(.int (3 : Int32)), (.int sx), (.long jl), (.long jh)]) (rest := [(.int (3 : Int32)), (.ref ca)]) (lenOf pd_19 rfl) rfl (by show 2 * 0 + _ ≤ _; exact Nat.le_of_eq rfl) (hb hby at_82) (fun _ _ => ⟨rfl, eL, (by decide : 1 + 0 ≤ _), (by decide : 12 + 0 ≤ _)⟩)
      dsimp only [Pt.U, Pt.locs, Pt.cells, Pt.slots] at X_30 l_30 y_30 z_30 st_30 hQ_30
      subst l_30 y_30 z_30
      obtain ⟨rc, rfl, hrc, N_30q, eh_30⟩ := hQ_30
      have N_30 := Fr.app NL N_30q
      refine Go.step (fun t k => st_30 t k) ?_
      show Go p.tables e below P (T_30.setTop (mkF m 85 #[.val (.int p1), .val (.int sx), .val (.long jl), .second, .val (.long jh), .second, .val (.int i6), .val (.ref ca), .unset, .unset] [(.int rc), (.int (3 : Int32)), (.ref ca)]))
      have hck : cs.length = 3 := by omega
      have brc : 0 ≤ rc.toInt ∧ rc.toInt < 65536 := by unfold Ok at hrc; omega
      have VP := (VL).pad (pad_rep (cs.map Value.int) (Value.int (0 : Int32)) 1)
      have vq_31 := VP
      obtain ⟨cl_31, Ar_31, q_31, S_31, Nn_31, H_31, G_31⟩ := vq_31
      have hin_31 : ¬ ((3 : Int32) < 0 ∨ cl_31.slots.size ≤ ((3 : Int32)).toNatClampNeg) := inb_of S_31 ⟨(by decide), (lt32 (by show (3 : Int) < _; omega))⟩
      obtain ⟨T_31, h_31, X_31, e_31, W_31, st_31⟩ := stC X_30 hx hZ eh_30 Ar_31 (j := (3 : Int32)) hin_31 (g := (mkF m 85 #[.val (.int p1), .val (.int sx), .val (.long jl), .second, .val (.long jh), .second, .val (.int i6), .val (.ref ca), .unset, .unset] [(.int rc), (.int (3 : Int32)), (.ref ca)])) rfl rfl (hb hby at_85)
      have hv_31 : (nar .char rc) = rc := Value.int.inj (nar_c brc)
      rw [hv_31] at W_31
      have V_31 : Arv Z h_31 ca k_1 .char i6 ((cs.map Value.int ++ List.replicate 1 (Value.int (0 : Int32))).set (3) (.int rc)) (.int (0 : Int32)) := Arv.set Ar_31 q_31 S_31 Nn_31 H_31 G_31 (by rw [← hv_31]; exact (fits_nar_char _)) W_31 (3) rfl (by first | (simp; done) | (simp; omega))
      have N_31 := Fr.snoc X_31 N_30 g_ca
      have K_31 : Keep h0 h_31 [] := KL.wr W_31 (Or.inr sz_ca)
      have Z_31 : n0 ≤ h_31.size := Nat.le_trans (Nat.le_trans Z0 KL.1) (Keep.of_wr W_31).1
      refine Go.step (fun t k => st_31 t k) ?_
      show Go p.tables e below P (T_31.setTop (mkF m 86 #[.val (.int p1), .val (.int sx), .val (.long jl), .second, .val (.long jh), .second, .val (.int i6), .val (.ref ca), .unset, .unset] []))
      have VQ := V_31
      rw [push_map cs rc 3 hck] at VQ
      exact JJ4 (cs ++ [rc]) _ _ _ X_31 N_31 e_31 K_31 VQ ⟨allok_push sx cs 0 rc hok (by rw [hck]; exact hrc), fun x hx => by rcases List.mem_append.mp hx with q | q; exact hch x q; rw [List.mem_singleton.mp q]; exact brc, by rw [List.length_append]; simp only [List.length_singleton]; omega⟩
  have JJ2 : ∀ (cs : List Int32) (TL : State) (LL : List Loc) (hL : Heap) (XL : Stand p l e room_1 s m #[(.int p1), (.int sx), (.long jl), (.long jh)] below meth c TL LL 1 12) (NL : Fr n0 LL) (eL : TL.heap = hL) (KL : Keep h0 hL []) (VL : Arv Z hL ca k_1 .char i6 (cs.map Value.int) (.int (0 : Int32))), (AllOk sx 0 cs ∧ (∀ x ∈ cs, 0 ≤ x.toInt ∧ x.toInt < 65536) ∧ ((nn ≤ 2 ∧ cs.length = nn) ∨ (2 < nn ∧ cs.length = 2))) → Go p.tables e below P (TL.setTop (mkF m 50 #[.val (.int p1), .val (.int sx), .val (.long jl), .second, .val (.long jh), .second, .val (.int i6), .val (.ref ca), .unset, .unset] [])) := by
    intro cs TL LL hL XL NL eL KL VL hyp
    obtain ⟨hok, hch, hlen⟩ := hyp
    show Go p.tables e below P (TL.setTop (mkF m 50 #[.val (.int p1), .val (.int sx), .val (.long jl), .second, .val (.long jh), .second, .val (.int i6), .val (.ref ca), .unset, .unset] []))
    refine Go.step (fun t k => XS.iload XL.here hx rfl (hb hby at_50) rfl  k) ?_
    show Go p.tables e below P (TL.setTop (mkF m 52 #[.val (.int p1), .val (.int sx), .val (.long jl), .second, .val (.long jh), .second, .val (.int i6), .val (.ref ca), .unset, .unset] [(.int i6)]))
    refine Go.step (fun t k => XS.iconst XL.here hx rfl (hb hby at_52) k) ?_
    show Go p.tables e below P (TL.setTop (mkF m 53 #[.val (.int p1), .val (.int sx), .val (.long jl), .second, .val (.long jh), .second, .val (.int i6), .val (.ref ca), .unset, .unset] [(.int (2 : Int32)), (.int i6)]))
    by_cases hc53 : i6.toInt ≤ (2 : Int)
    · refine Go.step (fun t k => XS.icmpYes XL.here hx rfl (pc0 := 53) (pc' := 68) rfl (hb hby at_53) rfl (icY (cd := .le) hc53) (by decide) (by decide) k) ?_
      show Go p.tables e below P (TL.setTop (mkF m 68 #[.val (.int p1), .val (.int sx), .val (.long jl), .second, .val (.long jh), .second, .val (.int i6), .val (.ref ca), .unset, .unset] []))
      exact JJ3 cs _ _ _ XL NL eL KL VL ⟨hok, hch, by omega⟩
    · refine Go.step (fun t k => XS.icmpNo XL.here hx rfl (hb hby at_53) rfl (icN (cd := .le) hc53) k) ?_
      show Go p.tables e below P (TL.setTop (mkF m 56 #[.val (.int p1), .val (.int sx), .val (.long jl), .second, .val (.long jh), .second, .val (.int i6), .val (.ref ca), .unset, .unset] []))
      refine Go.step (fun t k => XS.aload XL.here hx rfl (hb hby at_56) rfl rfl k) ?_
      show Go p.tables e below P (TL.setTop (mkF m 58 #[.val (.int p1), .val (.int sx), .val (.long jl), .second, .val (.long jh), .second, .val (.int i6), .val (.ref ca), .unset, .unset] [(.ref ca)]))
      refine Go.step (fun t k => XS.iconst XL.here hx rfl (hb hby at_58) k) ?_
      show Go p.tables e below P (TL.setTop (mkF m 59 #[.val (.int p1), .val (.int sx), .val (.long jl), .second, .val (.long jh), .second, .val (.int i6), .val (.ref ca), .unset, .unset] [(.int (2 : Int32)), (.ref ca)]))
      refine Go.step (fun t k => XS.iconst XL.here hx rfl (hb hby at_59) k) ?_
      show Go p.tables e below P (TL.setTop (mkF m 60 #[.val (.int p1), .val (.int sx), .val (.long jl), .second, .val (.long jh), .second, .val (.int i6), .val (.ref ca), .unset, .unset] [(.int (2 : Int32)), (.int (2 : Int32)), (.ref ca)]))
      refine Go.step (fun t k => XS.iloadN XL.here hx rfl (hb hby at_60) rfl  k) ?_
      show Go p.tables e below P (TL.setTop (mkF m 61 #[.val (.int p1), .val (.int sx), .val (.long jl), .second, .val (.long jh), .second, .val (.int i6), .val (.ref ca), .unset, .unset] [(.int sx), (.int (2 : Int32)), (.int (2 : Int32)), (.ref ca)]))
      refine Go.step (fun t k => XS.lloadN XL.here hx rfl (hb hby at_61) rfl  k) ?_
      show Go p.tables e below P (TL.setTop (mkF m 62 #[.val (.int p1), .val (.int sx), .val (.long jl), .second, .val (.long jh), .second, .val (.int i6), .val (.ref ca), .unset, .unset] [(.long jl), (.int sx), (.int (2 : Int32)), (.int (2 : Int32)), (.ref ca)]))
      refine Go.step (fun t k => XS.lload XL.here hx rfl (hb hby at_62) rfl  k) ?_
      show Go p.tables e below P (TL.setTop (mkF m 64 #[.val (.int p1), .val (.int sx), .val (.long jl), .second, .val (.long jh), .second, .val (.int i6), .val (.ref ca), .unset, .unset] [(.long jh), (.long jl), (.int sx), (.int (2 : Int32)), (.int (2 : Int32)), (.ref ca)]))
      obtain ⟨_, _, ⟨T_32, L_32, k_32, n_32⟩, -, X_32, ⟨Lc_32, hQ_32, l_32, y_32, z_32⟩, st_32⟩ := Jvm.LawKit.callS XL hx (y := (⟨"com/example/wrasse/wrasse/WordsToleratedEditsPinLaw", "ch", "(IIJJ)C"⟩ : MethodName)) hown (mvT hZ (hw _ (List.mem_of_getElem? (i := 64) rfl))) (mvT hZ (hw _ (List.mem_of_getElem? (i := 65) rfl))) (mvT hZ (hw _ (List.mem_of_getElem? (i := 4) rfl))) (mvT hZ (hw _ (List.mem_of_getElem? (i := 66) rfl))) (by decide) (backOf (W := 2) (ch2 l Z a0 hw [] sx jl jh hL n0 (Nat.le_trans Z0 KL.1) ) hZ (hw _ (List.mem_of_getElem? (i := 66) rfl)) (hw _ (List.mem_of_getElem? (i := 4) rfl)) (by decide) (by decide)) (g := (mkF m 64 #[.val (.int p1), .val (.int sx), .val (.long jl), .second, .val (.long jh), .second, .val (.int i6), .val (.ref ca), .unset, .unset] [(.long jh), (.long jl), (.int sx), (.int (2 : Int32)), (.int (2 : Int32)), (.ref ca)])) rfl (by rw [hml]; rfl) (argsL := [(.int (2 : Int32)), (.int sx), (.long jl), (.long jh)]) (rest := [(.int (2 : Int32)), (.ref ca)]) (lenOf pd_19 rfl) rfl (by show 2 * 0 + _ ≤ _; exact Nat.le_of_eq rfl) (hb hby at_64) (fun _ _ => ⟨rfl, eL, (by decide : 1 + 0 ≤ _), (by decide : 12 + 0 ≤ _)⟩)
      dsimp only [Pt.U, Pt.locs, Pt.cells, Pt.slots] at X_32 l_32 y_32 z_32 st_32 hQ_32
      subst l_32 y_32 z_32
      obtain ⟨rc, rfl, hrc, N_32q, eh_32⟩ := hQ_32
      have N_32 := Fr.app NL N_32q
      refine Go.step (fun t k => st_32 t k) ?_
      show Go p.tables e below P (T_32.setTop (mkF m 67 #[.val (.int p1), .val (.int sx), .val (.long jl), .second, .val (.long jh), .second, .val (.int i6), .val (.ref ca), .unset, .unset] [(.int rc), (.int (2 : Int32)), (.ref ca)]))
      have hck : cs.length = 2 := by omega
      have brc : 0 ≤ rc.toInt ∧ rc.toInt < 65536 := by unfold Ok at hrc; omega
      have VP := (VL).pad (pad_rep (cs.map Value.int) (Value.int (0 : Int32)) 1)
      have vq_33 := VP
      obtain ⟨cl_33, Ar_33, q_33, S_33, Nn_33, H_33, G_33⟩ := vq_33
      have hin_33 : ¬ ((2 : Int32) < 0 ∨ cl_33.slots.size ≤ ((2 : Int32)).toNatClampNeg) := inb_of S_33 ⟨(by decide), (lt32 (by show (2 : Int) < _; omega))⟩
      obtain ⟨T_33, h_33, X_33, e_33, W_33, st_33⟩ := stC X_32 hx hZ eh_32 Ar_33 (j := (2 : Int32)) hin_33 (g := (mkF m 67 #[.val (.int p1), .val (.int sx), .val (.long jl), .second, .val (.long jh), .second, .val (.int i6), .val (.ref ca), .unset, .unset] [(.int rc), (.int (2 : Int32)), (.ref ca)])) rfl rfl (hb hby at_67)
      have hv_33 : (nar .char rc) = rc := Value.int.inj (nar_c brc)
      rw [hv_33] at W_33
      have V_33 : Arv Z h_33 ca k_1 .char i6 ((cs.map Value.int ++ List.replicate 1 (Value.int (0 : Int32))).set (2) (.int rc)) (.int (0 : Int32)) := Arv.set Ar_33 q_33 S_33 Nn_33 H_33 G_33 (by rw [← hv_33]; exact (fits_nar_char _)) W_33 (2) rfl (by first | (simp; done) | (simp; omega))
      have N_33 := Fr.snoc X_33 N_32 g_ca
      have K_33 : Keep h0 h_33 [] := KL.wr W_33 (Or.inr sz_ca)
      have Z_33 : n0 ≤ h_33.size := Nat.le_trans (Nat.le_trans Z0 KL.1) (Keep.of_wr W_33).1
      refine Go.step (fun t k => st_33 t k) ?_
      show Go p.tables e below P (T_33.setTop (mkF m 68 #[.val (.int p1), .val (.int sx), .val (.long jl), .second, .val (.long jh), .second, .val (.int i6), .val (.ref ca), .unset, .unset] []))
      have VQ := V_33
      rw [push_map cs rc 2 hck] at VQ
      exact JJ3 (cs ++ [rc]) _ _ _ X_33 N_33 e_33 K_33 VQ ⟨allok_push sx cs 0 rc hok (by rw [hck]; exact hrc), fun x hx => by rcases List.mem_append.mp hx with q | q; exact hch x q; rw [List.mem_singleton.mp q]; exact brc, by rw [List.length_append]; simp only [List.length_singleton]; omega⟩
  have JJ1 : ∀ (cs : List Int32) (TL : State) (LL : List Loc) (hL : Heap) (XL : Stand p l e room_1 s m #[(.int p1), (.int sx), (.long jl), (.long jh)] below meth c TL LL 1 12) (NL : Fr n0 LL) (eL : TL.heap = hL) (KL : Keep h0 hL []) (VL : Arv Z hL ca k_1 .char i6 (cs.map Value.int) (.int (0 : Int32))), (AllOk sx 0 cs ∧ (∀ x ∈ cs, 0 ≤ x.toInt ∧ x.toInt < 65536) ∧ ((nn ≤ 1 ∧ cs.length = nn) ∨ (1 < nn ∧ cs.length = 1))) → Go p.tables e below P (TL.setTop (mkF m 32 #[.val (.int p1), .val (.int sx), .val (.long jl), .second, .val (.long jh), .second, .val (.int i6), .val (.ref ca), .unset, .unset] [])) := by
    intro cs TL LL hL XL NL eL KL VL hyp
    obtain ⟨hok, hch, hlen⟩ := hyp
    show Go p.tables e below P (TL.setTop (mkF m 32 #[.val (.int p1), .val (.int sx), .val (.long jl), .second, .val (.long jh), .second, .val (.int i6), .val (.ref ca), .unset, .unset] []))
    refine Go.step (fun t k => XS.iload XL.here hx rfl (hb hby at_32) rfl  k) ?_
    show Go p.tables e below P (TL.setTop (mkF m 34 #[.val (.int p1), .val (.int sx), .val (.long jl), .second, .val (.long jh), .second, .val (.int i6), .val (.ref ca), .unset, .unset] [(.int i6)]))
    refine Go.step (fun t k => XS.iconst XL.here hx rfl (hb hby at_34) k) ?_
    show Go p.tables e below P (TL.setTop (mkF m 35 #[.val (.int p1), .val (.int sx), .val (.long jl), .second, .val (.long jh), .second, .val (.int i6), .val (.ref ca), .unset, .unset] [(.int (1 : Int32)), (.int i6)]))
    by_cases hc35 : i6.toInt ≤ (1 : Int)
    · refine Go.step (fun t k => XS.icmpYes XL.here hx rfl (pc0 := 35) (pc' := 50) rfl (hb hby at_35) rfl (icY (cd := .le) hc35) (by decide) (by decide) k) ?_
      show Go p.tables e below P (TL.setTop (mkF m 50 #[.val (.int p1), .val (.int sx), .val (.long jl), .second, .val (.long jh), .second, .val (.int i6), .val (.ref ca), .unset, .unset] []))
      exact JJ2 cs _ _ _ XL NL eL KL VL ⟨hok, hch, by omega⟩
    · refine Go.step (fun t k => XS.icmpNo XL.here hx rfl (hb hby at_35) rfl (icN (cd := .le) hc35) k) ?_
      show Go p.tables e below P (TL.setTop (mkF m 38 #[.val (.int p1), .val (.int sx), .val (.long jl), .second, .val (.long jh), .second, .val (.int i6), .val (.ref ca), .unset, .unset] []))
      refine Go.step (fun t k => XS.aload XL.here hx rfl (hb hby at_38) rfl rfl k) ?_
      show Go p.tables e below P (TL.setTop (mkF m 40 #[.val (.int p1), .val (.int sx), .val (.long jl), .second, .val (.long jh), .second, .val (.int i6), .val (.ref ca), .unset, .unset] [(.ref ca)]))
      refine Go.step (fun t k => XS.iconst XL.here hx rfl (hb hby at_40) k) ?_
      show Go p.tables e below P (TL.setTop (mkF m 41 #[.val (.int p1), .val (.int sx), .val (.long jl), .second, .val (.long jh), .second, .val (.int i6), .val (.ref ca), .unset, .unset] [(.int (1 : Int32)), (.ref ca)]))
      refine Go.step (fun t k => XS.iconst XL.here hx rfl (hb hby at_41) k) ?_
      show Go p.tables e below P (TL.setTop (mkF m 42 #[.val (.int p1), .val (.int sx), .val (.long jl), .second, .val (.long jh), .second, .val (.int i6), .val (.ref ca), .unset, .unset] [(.int (1 : Int32)), (.int (1 : Int32)), (.ref ca)]))
      refine Go.step (fun t k => XS.iloadN XL.here hx rfl (hb hby at_42) rfl  k) ?_
      show Go p.tables e below P (TL.setTop (mkF m 43 #[.val (.int p1), .val (.int sx), .val (.long jl), .second, .val (.long jh), .second, .val (.int i6), .val (.ref ca), .unset, .unset] [(.int sx), (.int (1 : Int32)), (.int (1 : Int32)), (.ref ca)]))
      refine Go.step (fun t k => XS.lloadN XL.here hx rfl (hb hby at_43) rfl  k) ?_
      show Go p.tables e below P (TL.setTop (mkF m 44 #[.val (.int p1), .val (.int sx), .val (.long jl), .second, .val (.long jh), .second, .val (.int i6), .val (.ref ca), .unset, .unset] [(.long jl), (.int sx), (.int (1 : Int32)), (.int (1 : Int32)), (.ref ca)]))
      refine Go.step (fun t k => XS.lload XL.here hx rfl (hb hby at_44) rfl  k) ?_
      show Go p.tables e below P (TL.setTop (mkF m 46 #[.val (.int p1), .val (.int sx), .val (.long jl), .second, .val (.long jh), .second, .val (.int i6), .val (.ref ca), .unset, .unset] [(.long jh), (.long jl), (.int sx), (.int (1 : Int32)), (.int (1 : Int32)), (.ref ca)]))
      obtain ⟨_, _, ⟨T_34, L_34, k_34, n_34⟩, -, X_34, ⟨Lc_34, hQ_34, l_34, y_34, z_34⟩, st_34⟩ := Jvm.LawKit.callS XL hx (y := (⟨"com/example/wrasse/wrasse/WordsToleratedEditsPinLaw", "ch", "(IIJJ)C"⟩ : MethodName)) hown (mvT hZ (hw _ (List.mem_of_getElem? (i := 64) rfl))) (mvT hZ (hw _ (List.mem_of_getElem? (i := 65) rfl))) (mvT hZ (hw _ (List.mem_of_getElem? (i := 4) rfl))) (mvT hZ (hw _ (List.mem_of_getElem? (i := 66) rfl))) (by decide) (backOf (W := 2) (ch1 l Z a0 hw [] sx jl jh hL n0 (Nat.le_trans Z0 KL.1) ) hZ (hw _ (List.mem_of_getElem? (i := 66) rfl)) (hw _ (List.mem_of_getElem? (i := 4) rfl)) (by decide) (by decide)) (g := (mkF m 46 #[.val (.int p1), .val (.int sx), .val (.long jl), .second, .val (.long jh), .second, .val (.int i6), .val (.ref ca), .unset, .unset] [(.long jh), (.long jl), (.int sx), (.int (1 : Int32)), (.int (1 : Int32)), (.ref ca)])) rfl (by rw [hml]; rfl) (argsL := [(.int (1 : Int32)), (.int sx), (.long jl), (.long jh)]) (rest := [(.int (1 : Int32)), (.ref ca)]) (lenOf pd_19 rfl) rfl (by show 2 * 0 + _ ≤ _; exact Nat.le_of_eq rfl) (hb hby at_46) (fun _ _ => ⟨rfl, eL, (by decide : 1 + 0 ≤ _), (by decide : 12 + 0 ≤ _)⟩)
      dsimp only [Pt.U, Pt.locs, Pt.cells, Pt.slots] at X_34 l_34 y_34 z_34 st_34 hQ_34
      subst l_34 y_34 z_34
      obtain ⟨rc, rfl, hrc, N_34q, eh_34⟩ := hQ_34
      have N_34 := Fr.app NL N_34q
      refine Go.step (fun t k => st_34 t k) ?_
      show Go p.tables e below P (T_34.setTop (mkF m 49 #[.val (.int p1), .val (.int sx), .val (.long jl), .second, .val (.long jh), .second, .val (.int i6), .val (.ref ca), .unset, .unset] [(.int rc), (.int (1 : Int32)), (.ref ca)]))
      have hck : cs.length = 1 := by omega
      have brc : 0 ≤ rc.toInt ∧ rc.toInt < 65536 := by unfold Ok at hrc; omega
      have VP := (VL).pad (pad_rep (cs.map Value.int) (Value.int (0 : Int32)) 1)
      have vq_35 := VP
      obtain ⟨cl_35, Ar_35, q_35, S_35, Nn_35, H_35, G_35⟩ := vq_35
      have hin_35 : ¬ ((1 : Int32) < 0 ∨ cl_35.slots.size ≤ ((1 : Int32)).toNatClampNeg) := inb_of S_35 ⟨(by decide), (lt32 (by show (1 : Int) < _; omega))⟩
      obtain ⟨T_35, h_35, X_35, e_35, W_35, st_35⟩ := stC X_34 hx hZ eh_34 Ar_35 (j := (1 : Int32)) hin_35 (g := (mkF m 49 #[.val (.int p1), .val (.int sx), .val (.long jl), .second, .val (.long jh), .second, .val (.int i6), .val (.ref ca), .unset, .unset] [(.int rc), (.int (1 : Int32)), (.ref ca)])) rfl rfl (hb hby at_49)
      have hv_35 : (nar .char rc) = rc := Value.int.inj (nar_c brc)
      rw [hv_35] at W_35
      have V_35 : Arv Z h_35 ca k_1 .char i6 ((cs.map Value.int ++ List.replicate 1 (Value.int (0 : Int32))).set (1) (.int rc)) (.int (0 : Int32)) := Arv.set Ar_35 q_35 S_35 Nn_35 H_35 G_35 (by rw [← hv_35]; exact (fits_nar_char _)) W_35 (1) rfl (by first | (simp; done) | (simp; omega))
      have N_35 := Fr.snoc X_35 N_34 g_ca
      have K_35 : Keep h0 h_35 [] := KL.wr W_35 (Or.inr sz_ca)
      have Z_35 : n0 ≤ h_35.size := Nat.le_trans (Nat.le_trans Z0 KL.1) (Keep.of_wr W_35).1
      refine Go.step (fun t k => st_35 t k) ?_
      show Go p.tables e below P (T_35.setTop (mkF m 50 #[.val (.int p1), .val (.int sx), .val (.long jl), .second, .val (.long jh), .second, .val (.int i6), .val (.ref ca), .unset, .unset] []))
      have VQ := V_35
      rw [push_map cs rc 1 hck] at VQ
      exact JJ2 (cs ++ [rc]) _ _ _ X_35 N_35 e_35 K_35 VQ ⟨allok_push sx cs 0 rc hok (by rw [hck]; exact hrc), fun x hx => by rcases List.mem_append.mp hx with q | q; exact hch x q; rw [List.mem_singleton.mp q]; exact brc, by rw [List.length_append]; simp only [List.length_singleton]; omega⟩
  have JJ0 : ∀ (cs : List Int32) (TL : State) (LL : List Loc) (hL : Heap) (XL : Stand p l e room_1 s m #[(.int p1), (.int sx), (.long jl), (.long jh)] below meth c TL LL 1 12) (NL : Fr n0 LL) (eL : TL.heap = hL) (KL : Keep h0 hL []) (VL : Arv Z hL ca k_1 .char i6 (cs.map Value.int) (.int (0 : Int32))), (AllOk sx 0 cs ∧ (∀ x ∈ cs, 0 ≤ x.toInt ∧ x.toInt < 65536) ∧ ((nn ≤ 0 ∧ cs.length = nn) ∨ (0 < nn ∧ cs.length = 0))) → Go p.tables e below P (TL.setTop (mkF m 15 #[.val (.int p1), .val (.int sx), .val (.long jl), .second, .val (.long jh), .second, .val (.int i6), .val (.ref ca), .unset, .unset] [])) := by
    intro cs TL LL hL XL NL eL KL VL hyp
    obtain ⟨hok, hch, hlen⟩ := hyp
    show Go p.tables e below P (TL.setTop (mkF m 15 #[.val (.int p1), .val (.int sx), .val (.long jl), .second, .val (.long jh), .second, .val (.int i6), .val (.ref ca), .unset, .unset] []))
    refine Go.step (fun t k => XS.iload XL.here hx rfl (hb hby at_15) rfl  k) ?_
    show Go p.tables e below P (TL.setTop (mkF m 17 #[.val (.int p1), .val (.int sx), .val (.long jl), .second, .val (.long jh), .second, .val (.int i6), .val (.ref ca), .unset, .unset] [(.int i6)]))
    by_cases hc17 : i6.toInt ≤ 0
    · refine Go.step (fun t k => XS.ifYes XL.here hx rfl (pc0 := 17) (pc' := 32) rfl (hb hby at_17) rfl (ifY (cd := .le) hc17) (by decide) (by decide) k) ?_
      show Go p.tables e below P (TL.setTop (mkF m 32 #[.val (.int p1), .val (.int sx), .val (.long jl), .second, .val (.long jh), .second, .val (.int i6), .val (.ref ca), .unset, .unset] []))
      exact JJ1 cs _ _ _ XL NL eL KL VL ⟨hok, hch, by omega⟩
    · refine Go.step (fun t k => XS.ifNo XL.here hx rfl (hb hby at_17) rfl (ifN (cd := .le) hc17) k) ?_
      show Go p.tables e below P (TL.setTop (mkF m 20 #[.val (.int p1), .val (.int sx), .val (.long jl), .second, .val (.long jh), .second, .val (.int i6), .val (.ref ca), .unset, .unset] []))
      refine Go.step (fun t k => XS.aload XL.here hx rfl (hb hby at_20) rfl rfl k) ?_
      show Go p.tables e below P (TL.setTop (mkF m 22 #[.val (.int p1), .val (.int sx), .val (.long jl), .second, .val (.long jh), .second, .val (.int i6), .val (.ref ca), .unset, .unset] [(.ref ca)]))
      refine Go.step (fun t k => XS.iconst XL.here hx rfl (hb hby at_22) k) ?_
      show Go p.tables e below P (TL.setTop (mkF m 23 #[.val (.int p1), .val (.int sx), .val (.long jl), .second, .val (.long jh), .second, .val (.int i6), .val (.ref ca), .unset, .unset] [(.int (0 : Int32)), (.ref ca)]))
      refine Go.step (fun t k => XS.iconst XL.here hx rfl (hb hby at_23) k) ?_
      show Go p.tables e below P (TL.setTop (mkF m 24 #[.val (.int p1), .val (.int sx), .val (.long jl), .second, .val (.long jh), .second, .val (.int i6), .val (.ref ca), .unset, .unset] [(.int (0 : Int32)), (.int (0 : Int32)), (.ref ca)]))
      refine Go.step (fun t k => XS.iloadN XL.here hx rfl (hb hby at_24) rfl  k) ?_
      show Go p.tables e below P (TL.setTop (mkF m 25 #[.val (.int p1), .val (.int sx), .val (.long jl), .second, .val (.long jh), .second, .val (.int i6), .val (.ref ca), .unset, .unset] [(.int sx), (.int (0 : Int32)), (.int (0 : Int32)), (.ref ca)]))
      refine Go.step (fun t k => XS.lloadN XL.here hx rfl (hb hby at_25) rfl  k) ?_
      show Go p.tables e below P (TL.setTop (mkF m 26 #[.val (.int p1), .val (.int sx), .val (.long jl), .second, .val (.long jh), .second, .val (.int i6), .val (.ref ca), .unset, .unset] [(.long jl), (.int sx), (.int (0 : Int32)), (.int (0 : Int32)), (.ref ca)]))
      refine Go.step (fun t k => XS.lload XL.here hx rfl (hb hby at_26) rfl  k) ?_
      show Go p.tables e below P (TL.setTop (mkF m 28 #[.val (.int p1), .val (.int sx), .val (.long jl), .second, .val (.long jh), .second, .val (.int i6), .val (.ref ca), .unset, .unset] [(.long jh), (.long jl), (.int sx), (.int (0 : Int32)), (.int (0 : Int32)), (.ref ca)]))
      obtain ⟨_, _, ⟨T_36, L_36, k_36, n_36⟩, -, X_36, ⟨Lc_36, hQ_36, l_36, y_36, z_36⟩, st_36⟩ := Jvm.LawKit.callS XL hx (y := (⟨"com/example/wrasse/wrasse/WordsToleratedEditsPinLaw", "ch", "(IIJJ)C"⟩ : MethodName)) hown (mvT hZ (hw _ (List.mem_of_getElem? (i := 64) rfl))) (mvT hZ (hw _ (List.mem_of_getElem? (i := 65) rfl))) (mvT hZ (hw _ (List.mem_of_getElem? (i := 4) rfl))) (mvT hZ (hw _ (List.mem_of_getElem? (i := 66) rfl))) (by decide) (backOf (W := 2) (ch0 l Z a0 hw [] sx jl jh hL n0 (Nat.le_trans Z0 KL.1) ) hZ (hw _ (List.mem_of_getElem? (i := 66) rfl)) (hw _ (List.mem_of_getElem? (i := 4) rfl)) (by decide) (by decide)) (g := (mkF m 28 #[.val (.int p1), .val (.int sx), .val (.long jl), .second, .val (.long jh), .second, .val (.int i6), .val (.ref ca), .unset, .unset] [(.long jh), (.long jl), (.int sx), (.int (0 : Int32)), (.int (0 : Int32)), (.ref ca)])) rfl (by rw [hml]; rfl) (argsL := [(.int (0 : Int32)), (.int sx), (.long jl), (.long jh)]) (rest := [(.int (0 : Int32)), (.ref ca)]) (lenOf pd_19 rfl) rfl (by show 2 * 0 + _ ≤ _; exact Nat.le_of_eq rfl) (hb hby at_28) (fun _ _ => ⟨rfl, eL, (by decide : 1 + 0 ≤ _), (by decide : 12 + 0 ≤ _)⟩)
      dsimp only [Pt.U, Pt.locs, Pt.cells, Pt.slots] at X_36 l_36 y_36 z_36 st_36 hQ_36
      subst l_36 y_36 z_36
      obtain ⟨rc, rfl, hrc, N_36q, eh_36⟩ := hQ_36
      have N_36 := Fr.app NL N_36q
      refine Go.step (fun t k => st_36 t k) ?_
      show Go p.tables e below P (T_36.setTop (mkF m 31 #[.val (.int p1), .val (.int sx), .val (.long jl), .second, .val (.long jh), .second, .val (.int i6), .val (.ref ca), .unset, .unset] [(.int rc), (.int (0 : Int32)), (.ref ca)]))
      have hck : cs.length = 0 := by omega
      have brc : 0 ≤ rc.toInt ∧ rc.toInt < 65536 := by unfold Ok at hrc; omega
      have VP := (VL).pad (pad_rep (cs.map Value.int) (Value.int (0 : Int32)) 1)
      have vq_37 := VP
      obtain ⟨cl_37, Ar_37, q_37, S_37, Nn_37, H_37, G_37⟩ := vq_37
      have hin_37 : ¬ ((0 : Int32) < 0 ∨ cl_37.slots.size ≤ ((0 : Int32)).toNatClampNeg) := inb_of S_37 ⟨(by decide), (lt32 (by show (0 : Int) < _; omega))⟩
      obtain ⟨T_37, h_37, X_37, e_37, W_37, st_37⟩ := stC X_36 hx hZ eh_36 Ar_37 (j := (0 : Int32)) hin_37 (g := (mkF m 31 #[.val (.int p1), .val (.int sx), .val (.long jl), .second, .val (.long jh), .second, .val (.int i6), .val (.ref ca), .unset, .unset] [(.int rc), (.int (0 : Int32)), (.ref ca)])) rfl rfl (hb hby at_31)
      have hv_37 : (nar .char rc) = rc := Value.int.inj (nar_c brc)
      rw [hv_37] at W_37
      have V_37 : Arv Z h_37 ca k_1 .char i6 ((cs.map Value.int ++ List.replicate 1 (Value.int (0 : Int32))).set (0) (.int rc)) (.int (0 : Int32)) := Arv.set Ar_37 q_37 S_37 Nn_37 H_37 G_37 (by rw [← hv_37]; exact (fits_nar_char _)) W_37 (0) rfl (by first | (simp; done) | (simp; omega))
      have N_37 := Fr.snoc X_37 N_36 g_ca
      have K_37 : Keep h0 h_37 [] := KL.wr W_37 (Or.inr sz_ca)
      have Z_37 : n0 ≤ h_37.size := Nat.le_trans (Nat.le_trans Z0 KL.1) (Keep.of_wr W_37).1
      refine Go.step (fun t k => st_37 t k) ?_
      show Go p.tables e below P (T_37.setTop (mkF m 32 #[.val (.int p1), .val (.int sx), .val (.long jl), .second, .val (.long jh), .second, .val (.int i6), .val (.ref ca), .unset, .unset] []))
      have VQ := V_37
      rw [push_map cs rc 0 hck] at VQ
      exact JJ1 (cs ++ [rc]) _ _ _ X_37 N_37 e_37 K_37 VQ ⟨allok_push sx cs 0 rc hok (by rw [hck]; exact hrc), fun x hx => by rcases List.mem_append.mp hx with q | q; exact hch x q; rw [List.mem_singleton.mp q]; exact brc, by rw [List.length_append]; simp only [List.length_singleton]; omega⟩
  exact JJ0 [] _ _ _ X_1 N0 e_1 K_1 V_1 ⟨trivial, fun x hx => (by simp at hx), (by rcases Nat.eq_zero_or_pos nn with q | q; exact Or.inl ⟨by omega, q.symm⟩; exact Or.inr ⟨q, rfl⟩)⟩
set_option maxRecDepth 65536 in
set_option maxHeartbeats 40000000 in
theorem comes_1 {Post : Tables → Env → Array Value → State → Outcome → State → Prop} (hpost : ∀ tb e args s v u, (limb_1_1.after args s (.returned v) u = true ∧ limb_1_2.after args s (.returned v) u = true ∧ True) → ReturnedEndW s (.returned v) u (Jvm.fieldLocs frame_1_writes args s ++ Jvm.arrayLocs frame_1_arrays args s ++ Jvm.staticLocs frame_1_statics s) 24 1216 → Post tb e args s (.returned v) u) :
    ArmFor flags0 classFile x code maxLocals ret World_1 tables_1 room_1 Calls_1 rest_1 Pre_1 Post := by
  intro l hfl _ _ p e ha hc hk s m args below hf hA hF happ hP
  obtain ⟨hcalls, hrest, hpre⟩ := hP
  obtain ⟨-, -, -, hnamed, -, -, -, hat⟩ := (Spec.applies_iff hf).mp happ
  obtain ⟨hg, hn⟩ := and_e (Cond.before_iff.mp (show (Jvm.Cond.and given_1 narrow_1).before args s = true from hpre))
  obtain ⟨gc, hg0⟩ := and_e hg
  obtain ⟨ga0, hg1⟩ := and_e hg0
  obtain ⟨ga1, hg2⟩ := and_e hg1
  obtain ⟨ga2, hg3⟩ := and_e hg2
  have ga3 := hg3
  obtain ⟨w0, w1, w2, w3, rfl⟩ : ∃ w0 w1 w2 w3 : Value, args = #[w0, w1, w2, w3] := by
    have hs : args.size = 4 := by simpa [Cond.value, given_1] using gc
    obtain ⟨L⟩ := args
    match L, hs with
    | [w0, w1, w2, w3], _ => exact ⟨w0, w1, w2, w3, rfl⟩
  have hw := fun d (hd : d ∈ tables_1) => atoms_spec (ws := Jvm.Cond.code x code maxLocals ret :: tables_1) hat d (List.mem_cons_of_mem _ hd)
  obtain ⟨i0, ei0⟩ := is_v ga0
  obtain rfl : w0 = (.int i0) := Option.some.inj ei0
  obtain ⟨i1, ei1⟩ := is_v ga1
  obtain rfl : w1 = (.int i1) := Option.some.inj ei1
  obtain ⟨i2, ei2⟩ := isL_v ga2
  obtain rfl : w2 = (.long i2) := Option.some.inj ei2
  obtain ⟨i3, ei3⟩ := isL_v ga3
  obtain rfl : w3 = (.long i3) := Option.some.inj ei3
  have hrj := foldr_mem (show (jdkStatics_1.foldr Jvm.Cond.and restOwn_1).before #[.int i0, .int i1, .long i2, .long i3] s = true from hrest)
  have S0 : Sta s s.heap "java/lang/StringUTF16" "$assertionsDisabled" "Z" (.int (1 : Int32)) := Sta.start (eqv_i (Term.int_eval _) (Cond.before_iff.mp (hrj _ (List.mem_of_getElem? (i := 12) rfl)))) (Or.inl (hrj _ (List.mem_of_getElem? (i := 11) rfl)))
  have S1 : Sta s s.heap "java/lang/StringUTF16" "HI_BYTE_SHIFT" "I" (.int (0 : Int32)) := Sta.start (eqv_i (Term.int_eval _) (Cond.before_iff.mp (hrj _ (List.mem_of_getElem? (i := 15) rfl)))) (Or.inl (hrj _ (List.mem_of_getElem? (i := 14) rfl)))
  have S2 : Sta s s.heap "java/lang/StringUTF16" "LO_BYTE_SHIFT" "I" (.int (8 : Int32)) := Sta.start (eqv_i (Term.int_eval _) (Cond.before_iff.mp (hrj _ (List.mem_of_getElem? (i := 18) rfl)))) (Or.inl (hrj _ (List.mem_of_getElem? (i := 17) rfl)))
  obtain ⟨cs1, ev3⟩ := is_v (Cond.before_iff.mp (hrj _ (List.mem_of_getElem? (i := 1) rfl)))
  have S3 : Sta s s.heap "java/lang/String" "COMPACT_STRINGS" "Z" (.int cs1) := Sta.start ev3 (Or.inl (hrj _ (List.mem_of_getElem? (i := 0) rfl)))
  have hcs1 : ¬ cs1.toInt = 0 := fun q => by
    have e0 : cs1 = 0 := Int32.toInt_inj.mp q
    have t1 := not_v (Cond.before_iff.mp (hrj _ (List.mem_of_getElem? (i := 2) rfl)))
    have t2 := eq_i ev3 (Term.int_eval 0) (by rw [e0])
    rw [t2] at t1; simp at t1
  have hCH0 : CHv s [("java/lang/String", 7)] s.vm s.heap := CHv.start (a0 := #[.int i0, .int i1, .long i2, .long i3]) (EW.cons (hw _ (List.mem_of_getElem? (i := 19) rfl)) (by decide) EW.nil) (fun p_ hp_ => hcalls.1 p_ hp_) (hrj _ (List.mem_of_getElem? (i := 2) rfl)) (hw _ (List.mem_of_getElem? (i := 20) rfl)) (hw _ (List.mem_of_getElem? (i := 7) rfl))
  obtain ⟨n, o, h1, h2, h3, _, L, rfl, ⟨rfl, N⟩, hq⟩ := rm0 l s _ hw tables_1 i0 i1 i2 i3 cs1 s.heap s.heap.size (Nat.le_refl _) S0 S1 S2 S3 hcs1 p e ha hc hk s m _ below hf ((Spec.applies_iff_loose hf).mp happ).1 ⟨rfl, State.Warmed39.refl s, rfl, hCH0⟩ trivial
  refine ⟨n, _, h1, h2, h3, hpost _ _ _ _ _ _ ⟨Cond.after_iff.mpr rfl, Cond.after_iff.mpr (eq_i res_at (Term.int_eval (1)) rfl), trivial⟩ ⟨hq.1, hq.2.1, hq.2.2.1, (hq.2.2.2.sift fun y hy => Or.inr (N y hy)).mono (by decide) (by decide)⟩⟩
theorem main_1_1 : Claimed_1_1 := comes_1 fun _ _ _ _ _ _ h hF => ⟨h.1, hF⟩
theorem main_1_2 : Claimed_1_2 := comes_1 fun _ _ _ _ _ _ h hF => ⟨h.2.1, hF⟩
end Jvm.Pilot.@@N@@
namespace Jvm.Pilot.@@N@@
open Jvm Jvm.ClassFile Sem Op Lib Jvm.Free Jvm.Stand Jvm.Pilot.@@N@@.Jvm.D
/-! MADE BY PROGRAM (witnessworld.py) out of the Statement's table words and the real class files: 22 classes; the members and pool entries that the words name. The judged class is class 1, her method 1. -/
namespace start1
open Jvm.ClassFile
def u (s : String) : CpInfo := .utf8 (stringToUtf16 s)
/-- a pool by its gaps: so many unusable entries, then the entry; so many at the end -/
def gap : Nat → List CpInfo → List CpInfo
  | 0, r => r
  | n + 1, r => .unusable :: gap n r
def poolList (es : List (Nat × CpInfo)) (last : Nat) : List CpInfo := es.foldr (fun e r => gap e.1 (e.2 :: r)) (gap last [])
def pool (es : List (Nat × CpInfo)) (last : Nat) : Array CpInfo := ⟨poolList es last⟩
def fileOf (pool : Array CpInfo) (this : Nat) (attrs : Array Attribute := #[]) (ms : Array MethodInfo := #[]) (fl : Nat := 33) (sup : Nat := 0) (ifs : Array Nat := #[]) (fds : Array FieldInfo := #[]) : ClassFile where
  minorVersion := 0
  majorVersion := 65
  constantPool := pool
  accessFlags := fl
  thisClass := this
  superClass := sup
  interfaces := ifs
  fields := fds
  methods := ms
  attributes := attrs
def plain (name : String) (sup : Option ClassId) : Class where
  name := name
  kind := .ordinary
  loader := none
  accessFlags := 33
  super := sup
  interfaces := #[]
  cf := none
  fields := #[]
  methods := #[]
  instanceTypes := #[]
  staticTypes := #[]
  resolved := #[]
  callSites := []
  init := .initialized
  statics := none
  mirror := none

def pool0 : Array CpInfo := pool [(5, u "<init>"), (0, u "()V"), (1, .class_ 10), (1, u "java/lang/Object")] 113

def k0c0 : Code := { maxStack := 0, maxLocals := 1, code := object_method_1_code, exceptionTable := #[], attributes := #[] }
def k0m0 : Method := { name := "<init>", desc := "()V", sig := { parameters := [], returnType := none }, accessFlags := 1, code := some k0c0 }
/-- java/lang/Object -/
def k0 : Class := { plain "java/lang/Object" none with
  accessFlags := 33
  interfaces := #[]
  cf := some (fileOf pool0 8 #[] #[{ accessFlags := 1, nameIndex := 5, descriptorIndex := 6, attributes := #[] }] 33 0 #[] #[])
  fields := #[]
  methods := #[k0m0]
  instanceTypes := #[]
  staticTypes := #[]
  resolved := Array.replicate 124 none
  statics := none }

def pool1 : Array CpInfo := pool [(2, .class_ 4), (1, u "java/lang/Object"), (0, u "<init>"), (0, u "()V"), (0, .integer 2147483647), (0, .methodref 9 10), (0, .class_ 11), (0, .nameAndType 12 13), (0, u "com/example/wrasse/wrasse/WordsToleratedEditsPinLaw"), (0, u "ch"), (0, u "(IIJJ)C"), (0, .methodref 9 15), (0, .nameAndType 16 17), (0, u "pair"), (0, u "(III)I"), (0, .class_ 19), (0, u "java/lang/String"), (0, .methodref 18 21), (0, .nameAndType 5 22), (0, u "([C)V"), (0, .methodref 24 25), (0, .class_ 26), (0, .nameAndType 27 28), (0, u "com/example/wrasse/wrasse/Words"), (0, u "toleratedEdits"), (0, u "(Ljava/lang/String;)I"), (0, .long 255), (1, .integer 55296), (0, .integer 56320), (2, u "law"), (0, u "(IIJJ)Z")] 5

def k1m0 : Method := { name := "<init>", desc := "()V", sig := { parameters := [], returnType := none }, accessFlags := 1, code := none }
def k1c1 : Code := { maxStack := 8, maxLocals := 10, code := code, exceptionTable := #[], attributes := #[] }
def k1m1 : Method := { name := "law", desc := "(IIJJ)Z", sig := { parameters := [.int, .int, .long, .long], returnType := some .boolean }, accessFlags := 9, code := some k1c1 }
def k1c2 : Code := { maxStack := 5, maxLocals := 9, code := method_3_code, exceptionTable := #[], attributes := #[] }
def k1m2 : Method := { name := "ch", desc := "(IIJJ)C", sig := { parameters := [.int, .int, .long, .long], returnType := some .char }, accessFlags := 10, code := some k1c2 }
def k1c3 : Code := { maxStack := 3, maxLocals := 4, code := method_4_code, exceptionTable := #[], attributes := #[] }
def k1m3 : Method := { name := "pair", desc := "(III)I", sig := { parameters := [.int, .int, .int], returnType := some .int }, accessFlags := 10, code := some k1c3 }
/-- com/example/wrasse/wrasse/WordsToleratedEditsPinLaw -/
def k1 : Class := { plain "com/example/wrasse/wrasse/WordsToleratedEditsPinLaw" (some 0) with
  accessFlags := 49
  interfaces := #[]
  cf := some (fileOf pool1 9 #[] #[{ accessFlags := 1, nameIndex := 5, descriptorIndex := 6, attributes := #[] }, { accessFlags := 9, nameIndex := 35, descriptorIndex := 36, attributes := #[] }, { accessFlags := 10, nameIndex := 12, descriptorIndex := 13, attributes := #[] }, { accessFlags := 10, nameIndex := 16, descriptorIndex := 17, attributes := #[] }] 49 2 #[] #[])
  fields := #[]
  methods := #[k1m0, k1m1, k1m2, k1m3]
  instanceTypes := #[]
  staticTypes := #[]
  resolved := Array.replicate 42 none
  statics := none }

def pool2 : Array CpInfo := pool [(1, .class_ 2), (0, u "java/io/Serializable"), (0, .class_ 4), (0, u "java/lang/Object")] 2

/-- java/io/Serializable -/
def k2 : Class := { plain "java/io/Serializable" (some 0) with
  accessFlags := 1537
  interfaces := #[]
  cf := some (fileOf pool2 1 #[] #[] 1537 3 #[] #[])
  fields := #[]
  methods := #[]
  instanceTypes := #[]
  staticTypes := #[]
  resolved := Array.replicate 7 none
  statics := none }

def pool3 : Array CpInfo := pool [(1, .class_ 2), (0, u "java/lang/Comparable"), (0, .class_ 4), (0, u "java/lang/Object")] 7

/-- java/lang/Comparable -/
def k3 : Class := { plain "java/lang/Comparable" (some 0) with
  accessFlags := 1537
  interfaces := #[]
  cf := some (fileOf pool3 1 #[] #[] 1537 3 #[] #[])
  fields := #[]
  methods := #[]
  instanceTypes := #[]
  staticTypes := #[]
  resolved := Array.replicate 12 none
  statics := none }

def pool4 : Array CpInfo := pool [(2, .class_ 4), (1, u "java/lang/CharSequence"), (42, .class_ 48), (0, u "java/lang/CharSequence$1CodePointIterator"), (10, .class_ 60), (0, u "java/lang/CharSequence$1CharIterator"), (5, .class_ 67), (0, u "java/lang/Object")] 63

/-- java/lang/CharSequence -/
def k4 : Class := { plain "java/lang/CharSequence" (some 0) with
  accessFlags := 1537
  interfaces := #[]
  cf := some (fileOf pool4 2 #[.nestMembers #[47, 59]] #[] 1537 66 #[] #[])
  fields := #[]
  methods := #[]
  instanceTypes := #[]
  staticTypes := #[]
  resolved := Array.replicate 131 none
  statics := none }

def pool5 : Array CpInfo := pool [(1, .class_ 2), (0, u "java/lang/constant/Constable"), (0, .class_ 4), (0, u "java/lang/Object")] 6

/-- java/lang/constant/Constable -/
def k5 : Class := { plain "java/lang/constant/Constable" (some 0) with
  accessFlags := 1537
  interfaces := #[]
  cf := some (fileOf pool5 1 #[] #[] 1537 3 #[] #[])
  fields := #[]
  methods := #[]
  instanceTypes := #[]
  staticTypes := #[]
  resolved := Array.replicate 11 none
  statics := none }

def pool6 : Array CpInfo := pool [(1, .class_ 2), (0, u "java/lang/constant/ConstantDesc"), (0, .class_ 4), (0, u "java/lang/Object")] 32

/-- java/lang/constant/ConstantDesc -/
def k6 : Class := { plain "java/lang/constant/ConstantDesc" (some 0) with
  accessFlags := 1537
  interfaces := #[]
  cf := some (fileOf pool6 1 #[] #[] 1537 3 #[] #[])
  fields := #[]
  methods := #[]
  instanceTypes := #[]
  staticTypes := #[]
  resolved := Array.replicate 37 none
  statics := none }

def pool7 : Array CpInfo := pool [(1, .methodref 2 3), (0, .class_ 4), (0, .nameAndType 5 6), (0, u "java/lang/Object"), (0, u "<init>"), (0, u "()V"), (0, .string 8), (0, u ""), (0, .fieldref 10 11), (0, .class_ 12), (0, .nameAndType 13 14), (0, u "java/lang/String"), (0, u "value"), (0, u "[B"), (0, .fieldref 10 16), (0, .nameAndType 17 18), (0, u "coder"), (0, u "B"), (2, u "hash"), (0, u "I"), (2, u "hashIsZero"), (0, u "Z"), (0, .methodref 10 28), (0, .nameAndType 5 29), (0, u "([CIILjava/lang/Void;)V"), (7, u "(III)I"), (0, .fieldref 10 39), (0, .nameAndType 40 26), (0, u "COMPACT_STRINGS"), (1, .class_ 44), (1, u "java/lang/StringUTF16"), (0, u "compress"), (1, .methodref 42 48), (0, .nameAndType 49 50), (0, u "coderFromArrayLen"), (0, u "([BI)B"), (28, .class_ 81), (1, u "java/util/Objects"), (15, u "([BII)I"), (44, u "()Z"), (34, .methodref 42 178), (0, .nameAndType 45 179), (0, u "([CII)[B"), (154, u "()I"), (0, .methodref 10 336), (0, .nameAndType 17 337), (0, u "()B"), (154, .methodref 10 493), (0, .nameAndType 494 142), (0, u "isLatin1"), (10, .methodref 10 506), (0, .nameAndType 507 334), (0, u "length"), (3, .methodref 79 512), (0, .nameAndType 513 37), (0, u "checkFromToIndex"), (0, .methodref 42 515), (0, .nameAndType 516 97), (0, u "codePointCount"), (58, .class_ 576), (0, u "java/lang/CharSequence"), (22, u "CASE_INSENSITIVE_ORDER"), (0, u "Ljava/util/Comparator;"), (35, u "(II)I"), (373, u "([C)V"), (90, u "serialPersistentFields"), (0, u "[Ljava/io/ObjectStreamField;"), (0, .class_ 1104), (0, u "java/lang/String$CaseInsensitiveComparator"), (1, .class_ 1107), (0, u "java/io/Serializable"), (0, .class_ 1109), (0, u "java/lang/Comparable"), (0, .class_ 1111), (0, u "java/lang/constant/Constable"), (0, .class_ 1113), (0, u "java/lang/constant/ConstantDesc"), (2, u "serialVersionUID"), (0, u "J"), (3, u "REPL"), (0, u "C"), (2, u "LATIN1"), (1, u "UTF16")] 323

def k7m0 : Method := { name := "<init>", desc := "()V", sig := { parameters := [], returnType := none }, accessFlags := 1, code := none }
def k7c1 : Code := { maxStack := 5, maxLocals := 2, code := jdk_42_method_3_code, exceptionTable := #[], attributes := #[] }
def k7m1 : Method := { name := "<init>", desc := "([C)V", sig := { parameters := [(.array .char)], returnType := none }, accessFlags := 1, code := some k7c1 }
def k7c2 : Code := { maxStack := 2, maxLocals := 1, code := jdk_42_method_54_code, exceptionTable := #[], attributes := #[] }
def k7m2 : Method := { name := "length", desc := "()I", sig := { parameters := [], returnType := some .int }, accessFlags := 1, code := some k7c2 }
def k7c3 : Code := { maxStack := 3, maxLocals := 3, code := jdk_42_method_59_code, exceptionTable := #[], attributes := #[] }
def k7m3 : Method := { name := "codePointCount", desc := "(II)I", sig := { parameters := [.int, .int], returnType := some .int }, accessFlags := 1, code := some k7c3 }
def k7c4 : Code := { maxStack := 4, maxLocals := 6, code := jdk_42_method_149_code, exceptionTable := #[], attributes := #[] }
def k7m4 : Method := { name := "<init>", desc := "([CIILjava/lang/Void;)V", sig := { parameters := [(.array .char), .int, .int, (.object "java/lang/Void")], returnType := none }, accessFlags := 2, code := some k7c4 }
def k7c5 : Code := { maxStack := 1, maxLocals := 1, code := jdk_42_method_152_code, exceptionTable := #[], attributes := #[] }
def k7m5 : Method := { name := "coder", desc := "()B", sig := { parameters := [], returnType := some .byte }, accessFlags := 0, code := some k7c5 }
def k7c6 : Code := { maxStack := 1, maxLocals := 1, code := jdk_42_method_154_code, exceptionTable := #[], attributes := #[] }
def k7m6 : Method := { name := "isLatin1", desc := "()Z", sig := { parameters := [], returnType := some .boolean }, accessFlags := 0, code := some k7c6 }
/-- java/lang/String -/
def k7 : Class := { plain "java/lang/String" (some 0) with
  accessFlags := 49
  interfaces := #[2, 3, 4, 5, 6]
  cf := some (fileOf pool7 10 #[.nestMembers #[1103]] #[{ accessFlags := 1, nameIndex := 5, descriptorIndex := 6, attributes := #[] }, { accessFlags := 1, nameIndex := 5, descriptorIndex := 1010, attributes := #[] }, { accessFlags := 1, nameIndex := 507, descriptorIndex := 334, attributes := #[] }, { accessFlags := 1, nameIndex := 516, descriptorIndex := 636, attributes := #[] }, { accessFlags := 2, nameIndex := 5, descriptorIndex := 29, attributes := #[] }, { accessFlags := 0, nameIndex := 17, descriptorIndex := 337, attributes := #[] }, { accessFlags := 0, nameIndex := 494, descriptorIndex := 142, attributes := #[] }] 49 2 #[1106, 1108, 575, 1110, 1112] #[{ accessFlags := 18, nameIndex := 13, descriptorIndex := 14, attributes := #[] }, { accessFlags := 18, nameIndex := 17, descriptorIndex := 18, attributes := #[] }, { accessFlags := 2, nameIndex := 21, descriptorIndex := 22, attributes := #[] }, { accessFlags := 2, nameIndex := 25, descriptorIndex := 26, attributes := #[] }, { accessFlags := 26, nameIndex := 1116, descriptorIndex := 1117, attributes := #[] }, { accessFlags := 24, nameIndex := 40, descriptorIndex := 26, attributes := #[] }, { accessFlags := 26, nameIndex := 1101, descriptorIndex := 1102, attributes := #[] }, { accessFlags := 26, nameIndex := 1121, descriptorIndex := 1122, attributes := #[] }, { accessFlags := 25, nameIndex := 599, descriptorIndex := 600, attributes := #[] }, { accessFlags := 24, nameIndex := 1125, descriptorIndex := 18, attributes := #[] }, { accessFlags := 24, nameIndex := 1127, descriptorIndex := 18, attributes := #[] }])
  fields := #[{ name := "value", type := (.array .byte), accessFlags := 18, slot := 0, constantValue := 0 }, { name := "coder", type := .byte, accessFlags := 18, slot := 1, constantValue := 0 }, { name := "hash", type := .int, accessFlags := 2, slot := 2, constantValue := 0 }, { name := "hashIsZero", type := .boolean, accessFlags := 2, slot := 3, constantValue := 0 }, { name := "serialVersionUID", type := .long, accessFlags := 26, slot := 0, constantValue := 0 }, { name := "COMPACT_STRINGS", type := .boolean, accessFlags := 24, slot := 1, constantValue := 0 }, { name := "serialPersistentFields", type := (.array (.object "java/io/ObjectStreamField")), accessFlags := 26, slot := 2, constantValue := 0 }, { name := "REPL", type := .char, accessFlags := 26, slot := 3, constantValue := 0 }, { name := "CASE_INSENSITIVE_ORDER", type := (.object "java/util/Comparator"), accessFlags := 25, slot := 4, constantValue := 0 }, { name := "LATIN1", type := .byte, accessFlags := 24, slot := 5, constantValue := 0 }, { name := "UTF16", type := .byte, accessFlags := 24, slot := 6, constantValue := 0 }]
  methods := #[k7m0, k7m1, k7m2, k7m3, k7m4, k7m5, k7m6]
  instanceTypes := #[(.array .byte), .byte, .int, .boolean]
  staticTypes := #[.long, .boolean, (.array (.object "java/io/ObjectStreamField")), .char, (.object "java/util/Comparator"), .byte, .byte]
  resolved := Array.replicate 1451 none
  statics := some 0 }

def pool8 : Array CpInfo := pool [(2, .class_ 4), (1, u "java/lang/Object"), (0, u "<init>"), (0, u "()V"), (13, .class_ 22), (1, u "java/lang/String"), (19, .nameAndType 43 44), (0, u "length"), (0, u "()I"), (20, .methodref 20 42), (0, .methodref 20 67), (0, .nameAndType 68 69), (0, u "codePointCount"), (0, u "(II)I"), (0, .methodref 71 72), (0, .class_ 73), (0, .nameAndType 43 74), (0, u "com/example/wrasse/wrasse/Words"), (0, u "(Ljava/lang/String;)I"), (2, u "toleratedEdits"), (15, u "SQL_FUNCTION"), (0, u "Ljava/lang/String;"), (3, u "ONE_EDIT_LENGTH"), (0, u "I"), (1, u "TWO_EDITS_LENGTH")] 14

def k8m0 : Method := { name := "<init>", desc := "()V", sig := { parameters := [], returnType := none }, accessFlags := 2, code := none }
def k8c1 : Code := { maxStack := 3, maxLocals := 1, code := prog_19_method_3_code, exceptionTable := #[], attributes := #[] }
def k8m1 : Method := { name := "length", desc := "(Ljava/lang/String;)I", sig := { parameters := [(.object "java/lang/String")], returnType := some .int }, accessFlags := 8, code := some k8c1 }
def k8c2 : Code := { maxStack := 2, maxLocals := 3, code := prog_19_method_4_code, exceptionTable := #[], attributes := #[] }
def k8m2 : Method := { name := "toleratedEdits", desc := "(Ljava/lang/String;)I", sig := { parameters := [(.object "java/lang/String")], returnType := some .int }, accessFlags := 8, code := some k8c2 }
/-- com/example/wrasse/wrasse/Words -/
def k8 : Class := { plain "com/example/wrasse/wrasse/Words" (some 0) with
  accessFlags := 48
  interfaces := #[]
  cf := some (fileOf pool8 71 #[] #[{ accessFlags := 2, nameIndex := 5, descriptorIndex := 6, attributes := #[] }, { accessFlags := 8, nameIndex := 43, descriptorIndex := 74, attributes := #[] }, { accessFlags := 8, nameIndex := 77, descriptorIndex := 74, attributes := #[] }] 48 2 #[] #[{ accessFlags := 24, nameIndex := 93, descriptorIndex := 94, attributes := #[] }, { accessFlags := 26, nameIndex := 98, descriptorIndex := 99, attributes := #[] }, { accessFlags := 26, nameIndex := 101, descriptorIndex := 99, attributes := #[] }])
  fields := #[{ name := "SQL_FUNCTION", type := (.object "java/lang/String"), accessFlags := 24, slot := 0, constantValue := 0 }, { name := "ONE_EDIT_LENGTH", type := .int, accessFlags := 26, slot := 1, constantValue := 0 }, { name := "TWO_EDITS_LENGTH", type := .int, accessFlags := 26, slot := 2, constantValue := 0 }]
  methods := #[k8m0, k8m1, k8m2]
  instanceTypes := #[]
  staticTypes := #[(.object "java/lang/String"), .int, .int]
  resolved := Array.replicate 116 none
  statics := none }

def pool9 : Array CpInfo := pool [(2, .class_ 4), (1, u "java/lang/Object"), (0, u "<init>"), (0, u "()V"), (35, .class_ 44), (1, u "java/util/Objects"), (61, .class_ 108), (1, u "jdk/internal/util/Preconditions"), (2, .methodref 106 112), (0, .nameAndType 113 114), (0, u "checkFromToIndex"), (0, u "(IIILjava/util/function/BiFunction;)I"), (60, u "(III)I")] 8

def k9m0 : Method := { name := "<init>", desc := "()V", sig := { parameters := [], returnType := none }, accessFlags := 2, code := none }
def k9c1 : Code := { maxStack := 4, maxLocals := 3, code := jdk_31_method_18_code, exceptionTable := #[], attributes := #[] }
def k9m1 : Method := { name := "checkFromToIndex", desc := "(III)I", sig := { parameters := [.int, .int, .int], returnType := some .int }, accessFlags := 9, code := some k9c1 }
/-- java/util/Objects -/
def k9 : Class := { plain "java/util/Objects" (some 0) with
  accessFlags := 49
  interfaces := #[]
  cf := some (fileOf pool9 42 #[] #[{ accessFlags := 2, nameIndex := 5, descriptorIndex := 6, attributes := #[] }, { accessFlags := 9, nameIndex := 113, descriptorIndex := 175, attributes := #[] }] 49 2 #[] #[])
  fields := #[]
  methods := #[k9m0, k9m1]
  instanceTypes := #[]
  staticTypes := #[]
  resolved := Array.replicate 184 none
  statics := none }

def pool10 : Array CpInfo := pool [(2, .class_ 4), (1, u "java/lang/Object"), (0, u "<init>"), (0, u "()V"), (17, .class_ 26), (1, u "jdk/internal/util/Preconditions"), (20, u "checkFromToIndex"), (7, .class_ 56), (0, u "jdk/internal/util/Preconditions$4"), (57, .class_ 115), (0, u "jdk/internal/util/Preconditions$1"), (7, u "SIOOBE_FORMATTER"), (0, u "Ljava/util/function/BiFunction;"), (0, .class_ 126), (0, u "jdk/internal/util/Preconditions$2"), (3, u "AIOOBE_FORMATTER"), (0, .class_ 132), (0, u "jdk/internal/util/Preconditions$3"), (3, u "IOOBE_FORMATTER"), (46, u "(IIILjava/util/function/BiFunction;)I")] 10

def k10m0 : Method := { name := "<init>", desc := "()V", sig := { parameters := [], returnType := none }, accessFlags := 1, code := none }
def k10c1 : Code := { maxStack := 4, maxLocals := 4, code := jdk_41_method_12_code, exceptionTable := #[], attributes := #[] }
def k10m1 : Method := { name := "checkFromToIndex", desc := "(IIILjava/util/function/BiFunction;)I", sig := { parameters := [.int, .int, .int, (.object "java/util/function/BiFunction")], returnType := some .int }, accessFlags := 9, code := some k10c1 }
/-- jdk/internal/util/Preconditions -/
def k10 : Class := { plain "jdk/internal/util/Preconditions" (some 0) with
  accessFlags := 33
  interfaces := #[]
  cf := some (fileOf pool10 24 #[.nestMembers #[55, 131, 125, 114]] #[{ accessFlags := 1, nameIndex := 5, descriptorIndex := 6, attributes := #[] }, { accessFlags := 9, nameIndex := 47, descriptorIndex := 183, attributes := #[] }] 33 2 #[] #[{ accessFlags := 25, nameIndex := 123, descriptorIndex := 124, attributes := #[] }, { accessFlags := 25, nameIndex := 130, descriptorIndex := 124, attributes := #[] }, { accessFlags := 25, nameIndex := 136, descriptorIndex := 124, attributes := #[] }])
  fields := #[{ name := "SIOOBE_FORMATTER", type := (.object "java/util/function/BiFunction"), accessFlags := 25, slot := 0, constantValue := 0 }, { name := "AIOOBE_FORMATTER", type := (.object "java/util/function/BiFunction"), accessFlags := 25, slot := 1, constantValue := 0 }, { name := "IOOBE_FORMATTER", type := (.object "java/util/function/BiFunction"), accessFlags := 25, slot := 2, constantValue := 0 }]
  methods := #[k10m0, k10m1]
  instanceTypes := #[]
  staticTypes := #[(.object "java/util/function/BiFunction"), (.object "java/util/function/BiFunction"), (.object "java/util/function/BiFunction")]
  resolved := Array.replicate 194 none
  statics := some 1 }

def pool11 : Array CpInfo := pool [(6, .class_ 8), (1, u "java/lang/Object"), (0, u "<init>"), (0, u "()V"), (0, .methodref 12 13), (0, .class_ 14), (0, .nameAndType 15 16), (0, u "java/lang/StringUTF16"), (0, u "newBytesLength"), (0, u "(I)I"), (3, .integer 1073741823), (23, .fieldref 12 45), (0, .nameAndType 46 47), (0, u "$assertionsDisabled"), (0, u "Z"), (11, .fieldref 12 60), (0, .nameAndType 61 62), (0, u "HI_BYTE_SHIFT"), (0, u "I"), (0, .fieldref 12 64), (0, .nameAndType 65 62), (0, u "LO_BYTE_SHIFT"), (5, .methodref 12 72), (0, .nameAndType 73 74), (0, u "getChar"), (0, u "([BI)C"), (0, .methodref 76 77), (0, .class_ 78), (0, .nameAndType 79 80), (0, u "java/lang/Character"), (0, u "isHighSurrogate"), (0, u "(C)Z"), (0, .methodref 76 82), (0, .nameAndType 83 80), (0, u "isLowSurrogate"), (7, u "([BIIZ)I"), (8, .methodref 12 101), (0, .nameAndType 102 91), (0, u "codePointCount"), (4, .methodref 12 108), (0, .nameAndType 109 110), (0, u "newBytesFor"), (0, u "(I)[B"), (0, .methodref 12 112), (0, .nameAndType 113 114), (0, u "putChar"), (0, u "([BII)V"), (0, .methodref 12 116), (0, .nameAndType 117 118), (0, u "compress"), (0, u "([CI[BII)I"), (0, .methodref 12 120), (0, .nameAndType 121 122), (0, u "toBytes"), (0, u "([CII)[B"), (127, u "([BII)I"), (10, u "coderFromArrayLen"), (0, u "([BI)B"), (106, .class_ 371), (1, u "java/lang/StringUTF16$LinesSpliterator"), (58, u "MAX_LENGTH"), (196, .class_ 628), (0, u "java/lang/StringUTF16$CodePointsSpliterator"), (0, .class_ 630), (0, u "java/lang/StringUTF16$CharsSpliterator")] 4

def k11m0 : Method := { name := "<init>", desc := "()V", sig := { parameters := [], returnType := none }, accessFlags := 0, code := none }
def k11c1 : Code := { maxStack := 1, maxLocals := 1, code := jdk_52_method_2_code, exceptionTable := #[], attributes := #[] }
def k11m1 : Method := { name := "newBytesFor", desc := "(I)[B", sig := { parameters := [.int], returnType := some (.array .byte) }, accessFlags := 9, code := some k11c1 }
def k11c2 : Code := { maxStack := 4, maxLocals := 1, code := jdk_52_method_3_code, exceptionTable := #[], attributes := #[] }
def k11m2 : Method := { name := "newBytesLength", desc := "(I)I", sig := { parameters := [.int], returnType := some .int }, accessFlags := 9, code := some k11c2 }
def k11c3 : Code := { maxStack := 4, maxLocals := 3, code := jdk_52_method_4_code, exceptionTable := #[], attributes := #[] }
def k11m3 : Method := { name := "putChar", desc := "([BII)V", sig := { parameters := [(.array .byte), .int, .int], returnType := none }, accessFlags := 8, code := some k11c3 }
def k11c4 : Code := { maxStack := 3, maxLocals := 2, code := jdk_52_method_5_code, exceptionTable := #[], attributes := #[] }
def k11m4 : Method := { name := "getChar", desc := "([BI)C", sig := { parameters := [(.array .byte), .int], returnType := some .char }, accessFlags := 8, code := some k11c4 }
def k11c5 : Code := { maxStack := 3, maxLocals := 6, code := jdk_52_method_11_code, exceptionTable := #[], attributes := #[] }
def k11m5 : Method := { name := "codePointCount", desc := "([BIIZ)I", sig := { parameters := [(.array .byte), .int, .int, .boolean], returnType := some .int }, accessFlags := 10, code := some k11c5 }
def k11c6 : Code := { maxStack := 4, maxLocals := 3, code := jdk_52_method_12_code, exceptionTable := #[], attributes := #[] }
def k11m6 : Method := { name := "codePointCount", desc := "([BII)I", sig := { parameters := [(.array .byte), .int, .int], returnType := some .int }, accessFlags := 9, code := some k11c6 }
def k11c7 : Code := { maxStack := 4, maxLocals := 5, code := jdk_52_method_14_code, exceptionTable := #[], attributes := #[] }
def k11m7 : Method := { name := "toBytes", desc := "([CII)[B", sig := { parameters := [(.array .char), .int, .int], returnType := some (.array .byte) }, accessFlags := 9, code := some k11c7 }
def k11c8 : Code := { maxStack := 2, maxLocals := 2, code := jdk_52_method_15_code, exceptionTable := #[], attributes := #[] }
def k11m8 : Method := { name := "coderFromArrayLen", desc := "([BI)B", sig := { parameters := [(.array .byte), .int], returnType := some .byte }, accessFlags := 8, code := some k11c8 }
def k11c9 : Code := { maxStack := 5, maxLocals := 6, code := jdk_52_method_16_code, exceptionTable := #[], attributes := #[] }
def k11m9 : Method := { name := "compress", desc := "([CII)[B", sig := { parameters := [(.array .char), .int, .int], returnType := some (.array .byte) }, accessFlags := 9, code := some k11c9 }
def k11c10 : Code := { maxStack := 3, maxLocals := 7, code := jdk_52_method_21_code, exceptionTable := #[], attributes := #[] }
def k11m10 : Method := { name := "compress", desc := "([CI[BII)I", sig := { parameters := [(.array .char), .int, (.array .byte), .int, .int], returnType := some .int }, accessFlags := 9, code := some k11c10 }
/-- java/lang/StringUTF16 -/
def k11 : Class := { plain "java/lang/StringUTF16" (some 0) with
  accessFlags := 48
  interfaces := #[]
  cf := some (fileOf pool11 12 #[.nestMembers #[627, 629, 369]] #[{ accessFlags := 0, nameIndex := 9, descriptorIndex := 10, attributes := #[] }, { accessFlags := 9, nameIndex := 109, descriptorIndex := 110, attributes := #[] }, { accessFlags := 9, nameIndex := 15, descriptorIndex := 16, attributes := #[] }, { accessFlags := 8, nameIndex := 113, descriptorIndex := 114, attributes := #[] }, { accessFlags := 8, nameIndex := 73, descriptorIndex := 74, attributes := #[] }, { accessFlags := 10, nameIndex := 102, descriptorIndex := 91, attributes := #[] }, { accessFlags := 9, nameIndex := 102, descriptorIndex := 250, attributes := #[] }, { accessFlags := 9, nameIndex := 121, descriptorIndex := 122, attributes := #[] }, { accessFlags := 8, nameIndex := 261, descriptorIndex := 262, attributes := #[] }, { accessFlags := 9, nameIndex := 117, descriptorIndex := 122, attributes := #[] }, { accessFlags := 9, nameIndex := 117, descriptorIndex := 118, attributes := #[] }] 48 6 #[] #[{ accessFlags := 26, nameIndex := 61, descriptorIndex := 62, attributes := #[] }, { accessFlags := 26, nameIndex := 65, descriptorIndex := 62, attributes := #[] }, { accessFlags := 24, nameIndex := 430, descriptorIndex := 62, attributes := #[] }, { accessFlags := 4120, nameIndex := 46, descriptorIndex := 47, attributes := #[] }])
  fields := #[{ name := "HI_BYTE_SHIFT", type := .int, accessFlags := 26, slot := 0, constantValue := 0 }, { name := "LO_BYTE_SHIFT", type := .int, accessFlags := 26, slot := 1, constantValue := 0 }, { name := "MAX_LENGTH", type := .int, accessFlags := 24, slot := 2, constantValue := 0 }, { name := "$assertionsDisabled", type := .boolean, accessFlags := 4120, slot := 3, constantValue := 0 }]
  methods := #[k11m0, k11m1, k11m2, k11m3, k11m4, k11m5, k11m6, k11m7, k11m8, k11m9, k11m10]
  instanceTypes := #[]
  staticTypes := #[.int, .int, .int, .boolean]
  resolved := Array.replicate 635 none
  statics := some 2 }

def pool12 : Array CpInfo := pool [(1, .class_ 2), (0, u "java/lang/Character"), (18, u "value"), (0, u "C"), (19, .class_ 44), (1, u "java/lang/Object"), (3, .class_ 50), (1, u "java/lang/Character$CharacterCache"), (24, .integer 55296), (0, .integer 56320), (0, .integer 57344), (2, u "isHighSurrogate"), (0, u "(C)Z"), (2, u "isLowSurrogate"), (199, u "$assertionsDisabled"), (0, u "Z"), (21, .class_ 309), (1, u "java/lang/Character$UnicodeBlock"), (73, u "TYPE"), (0, u "Ljava/lang/Class;"), (0, .class_ 386), (0, u "java/io/Serializable"), (0, .class_ 388), (0, u "java/lang/Comparable"), (0, .class_ 390), (0, u "java/lang/constant/Constable"), (0, u "MIN_RADIX"), (0, u "I"), (2, u "MAX_RADIX"), (1, u "MIN_VALUE"), (1, u "MAX_VALUE"), (3, u "UNASSIGNED"), (0, u "B"), (0, u "UPPERCASE_LETTER"), (1, u "LOWERCASE_LETTER"), (0, u "TITLECASE_LETTER"), (1, u "MODIFIER_LETTER"), (1, u "OTHER_LETTER"), (1, u "NON_SPACING_MARK"), (1, u "ENCLOSING_MARK"), (1, u "COMBINING_SPACING_MARK"), (1, u "DECIMAL_DIGIT_NUMBER"), (1, u "LETTER_NUMBER"), (1, u "OTHER_NUMBER"), (1, u "SPACE_SEPARATOR"), (1, u "LINE_SEPARATOR"), (1, u "PARAGRAPH_SEPARATOR"), (1, u "CONTROL"), (1, u "FORMAT"), (1, u "PRIVATE_USE"), (1, u "SURROGATE"), (1, u "DASH_PUNCTUATION"), (1, u "START_PUNCTUATION"), (1, u "END_PUNCTUATION"), (1, u "CONNECTOR_PUNCTUATION"), (1, u "OTHER_PUNCTUATION"), (1, u "MATH_SYMBOL"), (1, u "CURRENCY_SYMBOL"), (1, u "MODIFIER_SYMBOL"), (1, u "OTHER_SYMBOL"), (1, u "INITIAL_QUOTE_PUNCTUATION"), (1, u "FINAL_QUOTE_PUNCTUATION"), (1, u "ERROR"), (1, u "DIRECTIONALITY_UNDEFINED"), (0, u "DIRECTIONALITY_LEFT_TO_RIGHT"), (0, u "DIRECTIONALITY_RIGHT_TO_LEFT"), (0, u "DIRECTIONALITY_RIGHT_TO_LEFT_ARABIC"), (0, u "DIRECTIONALITY_EUROPEAN_NUMBER"), (0, u "DIRECTIONALITY_EUROPEAN_NUMBER_SEPARATOR"), (0, u "DIRECTIONALITY_EUROPEAN_NUMBER_TERMINATOR"), (0, u "DIRECTIONALITY_ARABIC_NUMBER"), (0, u "DIRECTIONALITY_COMMON_NUMBER_SEPARATOR"), (0, u "DIRECTIONALITY_NONSPACING_MARK"), (0, u "DIRECTIONALITY_BOUNDARY_NEUTRAL"), (0, u "DIRECTIONALITY_PARAGRAPH_SEPARATOR"), (0, u "DIRECTIONALITY_SEGMENT_SEPARATOR"), (0, u "DIRECTIONALITY_WHITESPACE"), (0, u "DIRECTIONALITY_OTHER_NEUTRALS"), (0, u "DIRECTIONALITY_LEFT_TO_RIGHT_EMBEDDING"), (0, u "DIRECTIONALITY_LEFT_TO_RIGHT_OVERRIDE"), (0, u "DIRECTIONALITY_RIGHT_TO_LEFT_EMBEDDING"), (0, u "DIRECTIONALITY_RIGHT_TO_LEFT_OVERRIDE"), (1, u "DIRECTIONALITY_POP_DIRECTIONAL_FORMAT"), (0, u "DIRECTIONALITY_LEFT_TO_RIGHT_ISOLATE"), (0, u "DIRECTIONALITY_RIGHT_TO_LEFT_ISOLATE"), (0, u "DIRECTIONALITY_FIRST_STRONG_ISOLATE"), (0, u "DIRECTIONALITY_POP_DIRECTIONAL_ISOLATE"), (0, u "MIN_HIGH_SURROGATE"), (0, u "MAX_HIGH_SURROGATE"), (1, u "MIN_LOW_SURROGATE"), (0, u "MAX_LOW_SURROGATE"), (1, u "MIN_SURROGATE"), (0, u "MAX_SURROGATE"), (0, u "MIN_SUPPLEMENTARY_CODE_POINT"), (0, u "MIN_CODE_POINT"), (0, u "MAX_CODE_POINT"), (1, u "serialVersionUID"), (0, u "J"), (2, u "SIZE"), (0, u "BYTES"), (88, .class_ 596), (0, u "java/lang/Character$UnicodeScript"), (0, .class_ 598), (0, u "java/lang/Character$Subset")] 5

def k12c0 : Code := { maxStack := 2, maxLocals := 1, code := jdk_89_method_14_code, exceptionTable := #[], attributes := #[] }
def k12m0 : Method := { name := "isHighSurrogate", desc := "(C)Z", sig := { parameters := [.char], returnType := some .boolean }, accessFlags := 9, code := some k12c0 }
def k12c1 : Code := { maxStack := 2, maxLocals := 1, code := jdk_89_method_15_code, exceptionTable := #[], attributes := #[] }
def k12m1 : Method := { name := "isLowSurrogate", desc := "(C)Z", sig := { parameters := [.char], returnType := some .boolean }, accessFlags := 9, code := some k12c1 }
/-- java/lang/Character -/
def k12 : Class := { plain "java/lang/Character" (some 0) with
  accessFlags := 49
  interfaces := #[2, 3, 5]
  cf := some (fileOf pool12 1 #[.nestMembers #[48, 595, 307, 597]] #[{ accessFlags := 9, nameIndex := 80, descriptorIndex := 81, attributes := #[] }, { accessFlags := 9, nameIndex := 84, descriptorIndex := 81, attributes := #[] }] 49 42 #[385, 387, 389] #[{ accessFlags := 25, nameIndex := 391, descriptorIndex := 392, attributes := #[] }, { accessFlags := 25, nameIndex := 395, descriptorIndex := 392, attributes := #[] }, { accessFlags := 25, nameIndex := 397, descriptorIndex := 22, attributes := #[] }, { accessFlags := 25, nameIndex := 399, descriptorIndex := 22, attributes := #[] }, { accessFlags := 25, nameIndex := 383, descriptorIndex := 384, attributes := #[] }, { accessFlags := 25, nameIndex := 403, descriptorIndex := 404, attributes := #[] }, { accessFlags := 25, nameIndex := 405, descriptorIndex := 404, attributes := #[] }, { accessFlags := 25, nameIndex := 407, descriptorIndex := 404, attributes := #[] }, { accessFlags := 25, nameIndex := 408, descriptorIndex := 404, attributes := #[] }, { accessFlags := 25, nameIndex := 410, descriptorIndex := 404, attributes := #[] }, { accessFlags := 25, nameIndex := 412, descriptorIndex := 404, attributes := #[] }, { accessFlags := 25, nameIndex := 414, descriptorIndex := 404, attributes := #[] }, { accessFlags := 25, nameIndex := 416, descriptorIndex := 404, attributes := #[] }, { accessFlags := 25, nameIndex := 418, descriptorIndex := 404, attributes := #[] }, { accessFlags := 25, nameIndex := 420, descriptorIndex := 404, attributes := #[] }, { accessFlags := 25, nameIndex := 422, descriptorIndex := 404, attributes := #[] }, { accessFlags := 25, nameIndex := 424, descriptorIndex := 404, attributes := #[] }, { accessFlags := 25, nameIndex := 426, descriptorIndex := 404, attributes := #[] }, { accessFlags := 25, nameIndex := 428, descriptorIndex := 404, attributes := #[] }, { accessFlags := 25, nameIndex := 430, descriptorIndex := 404, attributes := #[] }, { accessFlags := 25, nameIndex := 432, descriptorIndex := 404, attributes := #[] }, { accessFlags := 25, nameIndex := 434, descriptorIndex := 404, attributes := #[] }, { accessFlags := 25, nameIndex := 436, descriptorIndex := 404, attributes := #[] }, { accessFlags := 25, nameIndex := 438, descriptorIndex := 404, attributes := #[] }, { accessFlags := 25, nameIndex := 440, descriptorIndex := 404, attributes := #[] }, { accessFlags := 25, nameIndex := 442, descriptorIndex := 404, attributes := #[] }, { accessFlags := 25, nameIndex := 444, descriptorIndex := 404, attributes := #[] }, { accessFlags := 25, nameIndex := 446, descriptorIndex := 404, attributes := #[] }, { accessFlags := 25, nameIndex := 448, descriptorIndex := 404, attributes := #[] }, { accessFlags := 25, nameIndex := 450, descriptorIndex := 404, attributes := #[] }, { accessFlags := 25, nameIndex := 452, descriptorIndex := 404, attributes := #[] }, { accessFlags := 25, nameIndex := 454, descriptorIndex := 404, attributes := #[] }, { accessFlags := 25, nameIndex := 456, descriptorIndex := 404, attributes := #[] }, { accessFlags := 25, nameIndex := 458, descriptorIndex := 404, attributes := #[] }, { accessFlags := 25, nameIndex := 460, descriptorIndex := 404, attributes := #[] }, { accessFlags := 24, nameIndex := 462, descriptorIndex := 392, attributes := #[] }, { accessFlags := 25, nameIndex := 464, descriptorIndex := 404, attributes := #[] }, { accessFlags := 25, nameIndex := 465, descriptorIndex := 404, attributes := #[] }, { accessFlags := 25, nameIndex := 466, descriptorIndex := 404, attributes := #[] }, { accessFlags := 25, nameIndex := 467, descriptorIndex := 404, attributes := #[] }, { accessFlags := 25, nameIndex := 468, descriptorIndex := 404, attributes := #[] }, { accessFlags := 25, nameIndex := 469, descriptorIndex := 404, attributes := #[] }, { accessFlags := 25, nameIndex := 470, descriptorIndex := 404, attributes := #[] }, { accessFlags := 25, nameIndex := 471, descriptorIndex := 404, attributes := #[] }, { accessFlags := 25, nameIndex := 472, descriptorIndex := 404, attributes := #[] }, { accessFlags := 25, nameIndex := 473, descriptorIndex := 404, attributes := #[] }, { accessFlags := 25, nameIndex := 474, descriptorIndex := 404, attributes := #[] }, { accessFlags := 25, nameIndex := 475, descriptorIndex := 404, attributes := #[] }, { accessFlags := 25, nameIndex := 476, descriptorIndex := 404, attributes := #[] }, { accessFlags := 25, nameIndex := 477, descriptorIndex := 404, attributes := #[] }, { accessFlags := 25, nameIndex := 478, descriptorIndex := 404, attributes := #[] }, { accessFlags := 25, nameIndex := 479, descriptorIndex := 404, attributes := #[] }, { accessFlags := 25, nameIndex := 480, descriptorIndex := 404, attributes := #[] }, { accessFlags := 25, nameIndex := 481, descriptorIndex := 404, attributes := #[] }, { accessFlags := 25, nameIndex := 482, descriptorIndex := 404, attributes := #[] }, { accessFlags := 25, nameIndex := 484, descriptorIndex := 404, attributes := #[] }, { accessFlags := 25, nameIndex := 485, descriptorIndex := 404, attributes := #[] }, { accessFlags := 25, nameIndex := 486, descriptorIndex := 404, attributes := #[] }, { accessFlags := 25, nameIndex := 487, descriptorIndex := 404, attributes := #[] }, { accessFlags := 25, nameIndex := 488, descriptorIndex := 404, attributes := #[] }, { accessFlags := 25, nameIndex := 489, descriptorIndex := 22, attributes := #[] }, { accessFlags := 25, nameIndex := 490, descriptorIndex := 22, attributes := #[] }, { accessFlags := 25, nameIndex := 492, descriptorIndex := 22, attributes := #[] }, { accessFlags := 25, nameIndex := 493, descriptorIndex := 22, attributes := #[] }, { accessFlags := 25, nameIndex := 495, descriptorIndex := 22, attributes := #[] }, { accessFlags := 25, nameIndex := 496, descriptorIndex := 22, attributes := #[] }, { accessFlags := 25, nameIndex := 497, descriptorIndex := 392, attributes := #[] }, { accessFlags := 25, nameIndex := 498, descriptorIndex := 392, attributes := #[] }, { accessFlags := 25, nameIndex := 499, descriptorIndex := 392, attributes := #[] }, { accessFlags := 18, nameIndex := 21, descriptorIndex := 22, attributes := #[] }, { accessFlags := 26, nameIndex := 501, descriptorIndex := 502, attributes := #[] }, { accessFlags := 25, nameIndex := 505, descriptorIndex := 392, attributes := #[] }, { accessFlags := 25, nameIndex := 506, descriptorIndex := 392, attributes := #[] }, { accessFlags := 4120, nameIndex := 284, descriptorIndex := 285, attributes := #[] }])
  fields := #[{ name := "MIN_RADIX", type := .int, accessFlags := 25, slot := 0, constantValue := 0 }, { name := "MAX_RADIX", type := .int, accessFlags := 25, slot := 1, constantValue := 0 }, { name := "MIN_VALUE", type := .char, accessFlags := 25, slot := 2, constantValue := 0 }, { name := "MAX_VALUE", type := .char, accessFlags := 25, slot := 3, constantValue := 0 }, { name := "TYPE", type := (.object "java/lang/Class"), accessFlags := 25, slot := 4, constantValue := 0 }, { name := "UNASSIGNED", type := .byte, accessFlags := 25, slot := 5, constantValue := 0 }, { name := "UPPERCASE_LETTER", type := .byte, accessFlags := 25, slot := 6, constantValue := 0 }, { name := "LOWERCASE_LETTER", type := .byte, accessFlags := 25, slot := 7, constantValue := 0 }, { name := "TITLECASE_LETTER", type := .byte, accessFlags := 25, slot := 8, constantValue := 0 }, { name := "MODIFIER_LETTER", type := .byte, accessFlags := 25, slot := 9, constantValue := 0 }, { name := "OTHER_LETTER", type := .byte, accessFlags := 25, slot := 10, constantValue := 0 }, { name := "NON_SPACING_MARK", type := .byte, accessFlags := 25, slot := 11, constantValue := 0 }, { name := "ENCLOSING_MARK", type := .byte, accessFlags := 25, slot := 12, constantValue := 0 }, { name := "COMBINING_SPACING_MARK", type := .byte, accessFlags := 25, slot := 13, constantValue := 0 }, { name := "DECIMAL_DIGIT_NUMBER", type := .byte, accessFlags := 25, slot := 14, constantValue := 0 }, { name := "LETTER_NUMBER", type := .byte, accessFlags := 25, slot := 15, constantValue := 0 }, { name := "OTHER_NUMBER", type := .byte, accessFlags := 25, slot := 16, constantValue := 0 }, { name := "SPACE_SEPARATOR", type := .byte, accessFlags := 25, slot := 17, constantValue := 0 }, { name := "LINE_SEPARATOR", type := .byte, accessFlags := 25, slot := 18, constantValue := 0 }, { name := "PARAGRAPH_SEPARATOR", type := .byte, accessFlags := 25, slot := 19, constantValue := 0 }, { name := "CONTROL", type := .byte, accessFlags := 25, slot := 20, constantValue := 0 }, { name := "FORMAT", type := .byte, accessFlags := 25, slot := 21, constantValue := 0 }, { name := "PRIVATE_USE", type := .byte, accessFlags := 25, slot := 22, constantValue := 0 }, { name := "SURROGATE", type := .byte, accessFlags := 25, slot := 23, constantValue := 0 }, { name := "DASH_PUNCTUATION", type := .byte, accessFlags := 25, slot := 24, constantValue := 0 }, { name := "START_PUNCTUATION", type := .byte, accessFlags := 25, slot := 25, constantValue := 0 }, { name := "END_PUNCTUATION", type := .byte, accessFlags := 25, slot := 26, constantValue := 0 }, { name := "CONNECTOR_PUNCTUATION", type := .byte, accessFlags := 25, slot := 27, constantValue := 0 }, { name := "OTHER_PUNCTUATION", type := .byte, accessFlags := 25, slot := 28, constantValue := 0 }, { name := "MATH_SYMBOL", type := .byte, accessFlags := 25, slot := 29, constantValue := 0 }, { name := "CURRENCY_SYMBOL", type := .byte, accessFlags := 25, slot := 30, constantValue := 0 }, { name := "MODIFIER_SYMBOL", type := .byte, accessFlags := 25, slot := 31, constantValue := 0 }, { name := "OTHER_SYMBOL", type := .byte, accessFlags := 25, slot := 32, constantValue := 0 }, { name := "INITIAL_QUOTE_PUNCTUATION", type := .byte, accessFlags := 25, slot := 33, constantValue := 0 }, { name := "FINAL_QUOTE_PUNCTUATION", type := .byte, accessFlags := 25, slot := 34, constantValue := 0 }, { name := "ERROR", type := .int, accessFlags := 24, slot := 35, constantValue := 0 }, { name := "DIRECTIONALITY_UNDEFINED", type := .byte, accessFlags := 25, slot := 36, constantValue := 0 }, { name := "DIRECTIONALITY_LEFT_TO_RIGHT", type := .byte, accessFlags := 25, slot := 37, constantValue := 0 }, { name := "DIRECTIONALITY_RIGHT_TO_LEFT", type := .byte, accessFlags := 25, slot := 38, constantValue := 0 }, { name := "DIRECTIONALITY_RIGHT_TO_LEFT_ARABIC", type := .byte, accessFlags := 25, slot := 39, constantValue := 0 }, { name := "DIRECTIONALITY_EUROPEAN_NUMBER", type := .byte, accessFlags := 25, slot := 40, constantValue := 0 }, { name := "DIRECTIONALITY_EUROPEAN_NUMBER_SEPARATOR", type := .byte, accessFlags := 25, slot := 41, constantValue := 0 }, { name := "DIRECTIONALITY_EUROPEAN_NUMBER_TERMINATOR", type := .byte, accessFlags := 25, slot := 42, constantValue := 0 }, { name := "DIRECTIONALITY_ARABIC_NUMBER", type := .byte, accessFlags := 25, slot := 43, constantValue := 0 }, { name := "DIRECTIONALITY_COMMON_NUMBER_SEPARATOR", type := .byte, accessFlags := 25, slot := 44, constantValue := 0 }, { name := "DIRECTIONALITY_NONSPACING_MARK", type := .byte, accessFlags := 25, slot := 45, constantValue := 0 }, { name := "DIRECTIONALITY_BOUNDARY_NEUTRAL", type := .byte, accessFlags := 25, slot := 46, constantValue := 0 }, { name := "DIRECTIONALITY_PARAGRAPH_SEPARATOR", type := .byte, accessFlags := 25, slot := 47, constantValue := 0 }, { name := "DIRECTIONALITY_SEGMENT_SEPARATOR", type := .byte, accessFlags := 25, slot := 48, constantValue := 0 }, { name := "DIRECTIONALITY_WHITESPACE", type := .byte, accessFlags := 25, slot := 49, constantValue := 0 }, { name := "DIRECTIONALITY_OTHER_NEUTRALS", type := .byte, accessFlags := 25, slot := 50, constantValue := 0 }, { name := "DIRECTIONALITY_LEFT_TO_RIGHT_EMBEDDING", type := .byte, accessFlags := 25, slot := 51, constantValue := 0 }, { name := "DIRECTIONALITY_LEFT_TO_RIGHT_OVERRIDE", type := .byte, accessFlags := 25, slot := 52, constantValue := 0 }, { name := "DIRECTIONALITY_RIGHT_TO_LEFT_EMBEDDING", type := .byte, accessFlags := 25, slot := 53, constantValue := 0 }, { name := "DIRECTIONALITY_RIGHT_TO_LEFT_OVERRIDE", type := .byte, accessFlags := 25, slot := 54, constantValue := 0 }, { name := "DIRECTIONALITY_POP_DIRECTIONAL_FORMAT", type := .byte, accessFlags := 25, slot := 55, constantValue := 0 }, { name := "DIRECTIONALITY_LEFT_TO_RIGHT_ISOLATE", type := .byte, accessFlags := 25, slot := 56, constantValue := 0 }, { name := "DIRECTIONALITY_RIGHT_TO_LEFT_ISOLATE", type := .byte, accessFlags := 25, slot := 57, constantValue := 0 }, { name := "DIRECTIONALITY_FIRST_STRONG_ISOLATE", type := .byte, accessFlags := 25, slot := 58, constantValue := 0 }, { name := "DIRECTIONALITY_POP_DIRECTIONAL_ISOLATE", type := .byte, accessFlags := 25, slot := 59, constantValue := 0 }, { name := "MIN_HIGH_SURROGATE", type := .char, accessFlags := 25, slot := 60, constantValue := 0 }, { name := "MAX_HIGH_SURROGATE", type := .char, accessFlags := 25, slot := 61, constantValue := 0 }, { name := "MIN_LOW_SURROGATE", type := .char, accessFlags := 25, slot := 62, constantValue := 0 }, { name := "MAX_LOW_SURROGATE", type := .char, accessFlags := 25, slot := 63, constantValue := 0 }, { name := "MIN_SURROGATE", type := .char, accessFlags := 25, slot := 64, constantValue := 0 }, { name := "MAX_SURROGATE", type := .char, accessFlags := 25, slot := 65, constantValue := 0 }, { name := "MIN_SUPPLEMENTARY_CODE_POINT", type := .int, accessFlags := 25, slot := 66, constantValue := 0 }, { name := "MIN_CODE_POINT", type := .int, accessFlags := 25, slot := 67, constantValue := 0 }, { name := "MAX_CODE_POINT", type := .int, accessFlags := 25, slot := 68, constantValue := 0 }, { name := "value", type := .char, accessFlags := 18, slot := 0, constantValue := 0 }, { name := "serialVersionUID", type := .long, accessFlags := 26, slot := 69, constantValue := 0 }, { name := "SIZE", type := .int, accessFlags := 25, slot := 70, constantValue := 0 }, { name := "BYTES", type := .int, accessFlags := 25, slot := 71, constantValue := 0 }, { name := "$assertionsDisabled", type := .boolean, accessFlags := 4120, slot := 72, constantValue := 0 }]
  methods := #[k12m0, k12m1]
  instanceTypes := #[.char]
  staticTypes := #[.int, .int, .char, .char, (.object "java/lang/Class"), .byte, .byte, .byte, .byte, .byte, .byte, .byte, .byte, .byte, .byte, .byte, .byte, .byte, .byte, .byte, .byte, .byte, .byte, .byte, .byte, .byte, .byte, .byte, .byte, .byte, .byte, .byte, .byte, .byte, .byte, .int, .byte, .byte, .byte, .byte, .byte, .byte, .byte, .byte, .byte, .byte, .byte, .byte, .byte, .byte, .byte, .byte, .byte, .byte, .byte, .byte, .byte, .byte, .byte, .byte, .char, .char, .char, .char, .char, .char, .int, .int, .int, .long, .int, .int, .boolean]
  resolved := Array.replicate 604 none
  statics := none }

def pool13 : Array CpInfo := pool [(4, .class_ 6), (1, u "java/lang/Object"), (0, u "<init>"), (0, u "()V"), (5, .class_ 16), (1, u "java/lang/StringLatin1"), (104, u "$assertionsDisabled"), (0, u "Z"), (98, .class_ 223), (1, u "java/lang/StringLatin1$LinesSpliterator"), (166, .class_ 391), (0, u "java/lang/StringLatin1$CharsSpliterator")] 3

def k13m0 : Method := { name := "<init>", desc := "()V", sig := { parameters := [], returnType := none }, accessFlags := 0, code := none }
/-- java/lang/StringLatin1 -/
def k13 : Class := { plain "java/lang/StringLatin1" (some 0) with
  accessFlags := 48
  interfaces := #[]
  cf := some (fileOf pool13 14 #[.nestMembers #[390, 221]] #[{ accessFlags := 0, nameIndex := 7, descriptorIndex := 8, attributes := #[] }] 48 4 #[] #[{ accessFlags := 4120, nameIndex := 121, descriptorIndex := 122, attributes := #[] }])
  fields := #[{ name := "$assertionsDisabled", type := .boolean, accessFlags := 4120, slot := 0, constantValue := 0 }]
  methods := #[k13m0]
  instanceTypes := #[]
  staticTypes := #[.boolean]
  resolved := Array.replicate 395 none
  statics := none }

def pool14 : Array CpInfo := pool [(9, u "<init>"), (6, .class_ 18), (1, u "java/lang/Object"), (0, u "()V"), (1, .class_ 23), (1, u "jdk/internal/util/ArraysSupport"), (0, u "LOG2_ARRAY_LONG_INDEX_SCALE"), (0, u "I"), (2, u "U"), (0, u "Ljdk/internal/misc/Unsafe;"), (8, u "BIG_ENDIAN"), (0, u "Z"), (8, u "LOG2_BYTE_BIT_SIZE"), (4, u "LOG2_ARRAY_INT_INDEX_SCALE"), (54, u "JLA"), (0, u "Ljdk/internal/access/JavaLangAccess;"), (11, u "LOG2_ARRAY_BOOLEAN_INDEX_SCALE"), (9, u "LOG2_ARRAY_BYTE_INDEX_SCALE"), (5, u "LOG2_ARRAY_CHAR_INDEX_SCALE"), (5, u "LOG2_ARRAY_SHORT_INDEX_SCALE"), (18, u "LOG2_ARRAY_FLOAT_INDEX_SCALE"), (24, u "LOG2_ARRAY_DOUBLE_INDEX_SCALE"), (89, u "T_BOOLEAN"), (2, u "T_CHAR"), (1, u "T_FLOAT"), (1, u "T_DOUBLE"), (1, u "T_BYTE"), (1, u "T_SHORT"), (1, u "T_INT"), (1, u "T_LONG"), (1, u "SOFT_MAX_ARRAY_LENGTH")] 83

def k14m0 : Method := { name := "<init>", desc := "()V", sig := { parameters := [], returnType := none }, accessFlags := 2, code := none }
/-- jdk/internal/util/ArraysSupport -/
def k14 : Class := { plain "jdk/internal/util/ArraysSupport" (some 0) with
  accessFlags := 33
  interfaces := #[]
  cf := some (fileOf pool14 21 #[] #[{ accessFlags := 2, nameIndex := 9, descriptorIndex := 19, attributes := #[] }] 33 16 #[] #[{ accessFlags := 24, nameIndex := 28, descriptorIndex := 29, attributes := #[] }, { accessFlags := 26, nameIndex := 38, descriptorIndex := 39, attributes := #[] }, { accessFlags := 25, nameIndex := 121, descriptorIndex := 25, attributes := #[] }, { accessFlags := 25, nameIndex := 131, descriptorIndex := 25, attributes := #[] }, { accessFlags := 25, nameIndex := 137, descriptorIndex := 25, attributes := #[] }, { accessFlags := 25, nameIndex := 143, descriptorIndex := 25, attributes := #[] }, { accessFlags := 25, nameIndex := 53, descriptorIndex := 25, attributes := #[] }, { accessFlags := 25, nameIndex := 24, descriptorIndex := 25, attributes := #[] }, { accessFlags := 25, nameIndex := 162, descriptorIndex := 25, attributes := #[] }, { accessFlags := 25, nameIndex := 187, descriptorIndex := 25, attributes := #[] }, { accessFlags := 26, nameIndex := 48, descriptorIndex := 25, attributes := #[] }, { accessFlags := 25, nameIndex := 277, descriptorIndex := 25, attributes := #[] }, { accessFlags := 25, nameIndex := 280, descriptorIndex := 25, attributes := #[] }, { accessFlags := 25, nameIndex := 282, descriptorIndex := 25, attributes := #[] }, { accessFlags := 25, nameIndex := 284, descriptorIndex := 25, attributes := #[] }, { accessFlags := 25, nameIndex := 286, descriptorIndex := 25, attributes := #[] }, { accessFlags := 25, nameIndex := 288, descriptorIndex := 25, attributes := #[] }, { accessFlags := 25, nameIndex := 290, descriptorIndex := 25, attributes := #[] }, { accessFlags := 25, nameIndex := 292, descriptorIndex := 25, attributes := #[] }, { accessFlags := 26, nameIndex := 108, descriptorIndex := 109, attributes := #[] }, { accessFlags := 25, nameIndex := 294, descriptorIndex := 25, attributes := #[] }])
  fields := #[{ name := "U", type := (.object "jdk/internal/misc/Unsafe"), accessFlags := 24, slot := 0, constantValue := 0 }, { name := "BIG_ENDIAN", type := .boolean, accessFlags := 26, slot := 1, constantValue := 0 }, { name := "LOG2_ARRAY_BOOLEAN_INDEX_SCALE", type := .int, accessFlags := 25, slot := 2, constantValue := 0 }, { name := "LOG2_ARRAY_BYTE_INDEX_SCALE", type := .int, accessFlags := 25, slot := 3, constantValue := 0 }, { name := "LOG2_ARRAY_CHAR_INDEX_SCALE", type := .int, accessFlags := 25, slot := 4, constantValue := 0 }, { name := "LOG2_ARRAY_SHORT_INDEX_SCALE", type := .int, accessFlags := 25, slot := 5, constantValue := 0 }, { name := "LOG2_ARRAY_INT_INDEX_SCALE", type := .int, accessFlags := 25, slot := 6, constantValue := 0 }, { name := "LOG2_ARRAY_LONG_INDEX_SCALE", type := .int, accessFlags := 25, slot := 7, constantValue := 0 }, { name := "LOG2_ARRAY_FLOAT_INDEX_SCALE", type := .int, accessFlags := 25, slot := 8, constantValue := 0 }, { name := "LOG2_ARRAY_DOUBLE_INDEX_SCALE", type := .int, accessFlags := 25, slot := 9, constantValue := 0 }, { name := "LOG2_BYTE_BIT_SIZE", type := .int, accessFlags := 26, slot := 10, constantValue := 0 }, { name := "T_BOOLEAN", type := .int, accessFlags := 25, slot := 11, constantValue := 0 }, { name := "T_CHAR", type := .int, accessFlags := 25, slot := 12, constantValue := 0 }, { name := "T_FLOAT", type := .int, accessFlags := 25, slot := 13, constantValue := 0 }, { name := "T_DOUBLE", type := .int, accessFlags := 25, slot := 14, constantValue := 0 }, { name := "T_BYTE", type := .int, accessFlags := 25, slot := 15, constantValue := 0 }, { name := "T_SHORT", type := .int, accessFlags := 25, slot := 16, constantValue := 0 }, { name := "T_INT", type := .int, accessFlags := 25, slot := 17, constantValue := 0 }, { name := "T_LONG", type := .int, accessFlags := 25, slot := 18, constantValue := 0 }, { name := "JLA", type := (.object "jdk/internal/access/JavaLangAccess"), accessFlags := 26, slot := 19, constantValue := 0 }, { name := "SOFT_MAX_ARRAY_LENGTH", type := .int, accessFlags := 25, slot := 20, constantValue := 0 }]
  methods := #[k14m0]
  instanceTypes := #[]
  staticTypes := #[(.object "jdk/internal/misc/Unsafe"), .boolean, .int, .int, .int, .int, .int, .int, .int, .int, .int, .int, .int, .int, .int, .int, .int, .int, .int, (.object "jdk/internal/access/JavaLangAccess"), .int]
  resolved := Array.replicate 378 none
  statics := none }

def pool15 : Array CpInfo := pool [(1, u "java/lang/Cloneable"), (0, .class_ 1), (0, u "java/lang/Object"), (0, .class_ 3)] 3

/-- java/lang/Cloneable -/
def k15 : Class := { plain "java/lang/Cloneable" (some 0) with
  accessFlags := 1537
  interfaces := #[]
  cf := some (fileOf pool15 2 #[] #[] 1537 4 #[] #[])
  fields := #[]
  methods := #[]
  instanceTypes := #[]
  staticTypes := #[]
  resolved := Array.replicate 8 none
  statics := none }

/-- the primitive byte -/
def k16 : Class := { plain "byte" none with kind := .primitive 'B', accessFlags := 0x411 }
/-- [B -/
def k17 : Class := { plain "[B" (some 0) with kind := .array 16 .byte, interfaces := #[15, 2], accessFlags := 1041 }

/-- the primitive char -/
def k18 : Class := { plain "char" none with kind := .primitive 'C', accessFlags := 0x411 }
/-- [C -/
def k19 : Class := { plain "[C" (some 0) with kind := .array 18 .char, interfaces := #[15, 2], accessFlags := 1041 }

/-- the primitive int -/
def k20 : Class := { plain "int" none with kind := .primitive 'I', accessFlags := 0x411 }
/-- [I -/
def k21 : Class := { plain "[I" (some 0) with kind := .array 20 .int, interfaces := #[15, 2], accessFlags := 1041 }

def heap : Heap := #[{ cls := 7, slots := #[.long 0, .int 1, .null, .int 0, .null, .int 0, .int 0], vm := .statics 7 },
  { cls := 10, slots := #[.null, .null, .null], vm := .statics 10 },
  { cls := 11, slots := #[.int 0, .int 8, .int 0, .int 1], vm := .statics 11 }]
def classes : Array Class := #[k0, k1, k2, k3, k4, k5, k6, k7, k8, k9, k10, k11, k12, k13, k14, k15, k16, k17, k18, k19, k20, k21]
def interned : List (Array UInt16 × Addr) := []
def slotsUsed : Nat := 14
def theMethod : MethodId := ⟨1, 1⟩
def args0 : Array Value := #[.int 5, .int 3, .long 70, .long 71]
def aboutOver (below : List Frame) : State where
  vm := { classes := classes, interned := interned.toArray }
  heap := heap
  slotsUsed := slotsUsed
  threads := #[{ frames := .invoking theMethod args0 :: below }]
def below0 : List Frame := [.native { method := ⟨0, 0⟩, args := #[] }]
def about1 : State := aboutOver below0
def p0 : Program := .bare "" "" ""
def e0 : Env := launch0.env 0 0 0
theorem w_frames : about1.frames = Frame.invoking theMethod args0 :: below0 := rfl
set_option maxRecDepth 65536 in
theorem w_args : argsFit about1.vm theMethod args0 = true := by decide +kernel
set_option maxRecDepth 65536 in
theorem w_heap : heapFits about1 = true := by decide +kernel
set_option maxRecDepth 65536 in
theorem w_runnable : about1.curStatus? = some .runnable := by decide +kernel
set_option maxRecDepth 65536 in
theorem w_alone : about1.alone = true := by decide +kernel
set_option maxRecDepth 65536 in
theorem w_named : about1.methodNamed? x = some theMethod := by decide +kernel
set_option maxRecDepth 65536 in
theorem w_hears : about1.hears theMethod below0 = true := by decide +kernel
set_option maxRecDepth 65536 in
theorem w_ripe : about1.ripe theMethod args0 below0 = true := by decide +kernel
theorem w_running : about1.status = .running := rfl
set_option maxRecDepth 65536 in
theorem w_room : about1.hasRoom e0.platform room_1 = true :=
  launch0.hasRoom_least _ room_1 (by decide +kernel) (by decide +kernel) (by decide +kernel) (by decide +kernel) (by decide +kernel) (by decide +kernel)
theorem allAtoms_all (ts : List Jvm.Cond) (a : Array Jvm.Value) (st : Jvm.State) : (allAtoms ts).before a st = ts.all (fun c => c.before a st) := by
  induction ts with
  | nil => rfl
  | cons c t ih =>
    show (Jvm.Cond.and c (allAtoms t)).before a st = _
    rw [Jvm.Cond.before_and, ih, List.all_cons]
def words1 : List Jvm.Cond := Jvm.Cond.code x code maxLocals ret :: tables_1
/-- a 'code' word, met by the world's own term for the bytes: nothing is compared byte by byte -/
theorem code_word {y : MethodName} {bytes : ByteArray} {mx : Nat} {rt : Option FieldType} {a : Array Value} {s : State} {m : MethodId} {meth : Method} {c : Code} (h1 : s.methodNamed? y = some m) (h2 : s.vm.method? m = some meth) (h3 : meth.code = some c) (h4 : c.code = bytes)
    (h5 : (c.maxLocals == mx && c.exceptionTable.isEmpty && decide (c.maxStack ≤ mostOperands) && decide (meth.sig.returnType = rt) && !meth.locks && decide (parseMethodDescriptor y.desc = some meth.sig)) = true) : (Jvm.Cond.code y bytes mx rt).before a s = true := by
  simp only [Bool.and_eq_true, beq_iff_eq, Bool.not_eq_true', decide_eq_true_eq] at h5
  obtain ⟨⟨⟨⟨⟨g1, g2⟩, g3⟩, g4⟩, g5⟩, g6⟩ := h5
  simp [Cond.before, Cond.holds, Cond.value, h1, h2, h3, h4, g1, g2, g3, g4, g5, g6]
def isCode : Jvm.Cond → Bool
  | .code _ _ _ _ => true
  | _ => false
theorem all_split {L : List Jvm.Cond} {P : Jvm.Cond → Bool} (h1 : L.all (fun c => isCode c || P c) = true) (h2 : ∀ c ∈ L.filter isCode, P c = true) : L.all P = true := by
  refine List.all_eq_true.mpr fun c hc => ?_
  have h := List.all_eq_true.mp h1 c hc
  rcases Bool.eq_false_or_eq_true (isCode c) with hi | hi
  · exact h2 c (List.mem_filter.mpr ⟨hc, hi⟩)
  · simpa [hi] using h
set_option maxRecDepth 65536 in
theorem w_c0 : (Jvm.Cond.code x code maxLocals ret).before args0 about1 = true := code_word (m := ⟨1, 1⟩) (meth := k1m1) (c := k1c1) (by decide +kernel) rfl rfl rfl (by decide +kernel)
set_option maxRecDepth 65536 in
theorem w_c1 : (Jvm.Cond.code ({ cls := "com/example/wrasse/wrasse/WordsToleratedEditsPinLaw", name := "pair", desc := "(III)I" } : Jvm.MethodName) method_4_code (4 : Nat) (Option.some Jvm.ClassFile.FieldType.int)).before args0 about1 = true := code_word (m := ⟨1, 3⟩) (meth := k1m3) (c := k1c3) (by decide +kernel) rfl rfl rfl (by decide +kernel)
set_option maxRecDepth 65536 in
theorem w_c2 : (Jvm.Cond.code ({ cls := "java/lang/String", name := "<init>", desc := "([C)V" } : Jvm.MethodName) jdk_42_method_3_code (2 : Nat) (Option.none : Option Jvm.ClassFile.FieldType)).before args0 about1 = true := code_word (m := ⟨7, 1⟩) (meth := k7m1) (c := k7c1) (by decide +kernel) rfl rfl rfl (by decide +kernel)
set_option maxRecDepth 65536 in
theorem w_c3 : (Jvm.Cond.code ({ cls := "java/lang/String", name := "<init>", desc := "([CIILjava/lang/Void;)V" } : Jvm.MethodName) jdk_42_method_149_code (6 : Nat) (Option.none : Option Jvm.ClassFile.FieldType)).before args0 about1 = true := code_word (m := ⟨7, 4⟩) (meth := k7m4) (c := k7c4) (by decide +kernel) rfl rfl rfl (by decide +kernel)
set_option maxRecDepth 65536 in
theorem w_c4 : (Jvm.Cond.code ({ cls := "java/lang/Object", name := "<init>", desc := "()V" } : Jvm.MethodName) object_method_1_code (1 : Nat) (Option.none : Option Jvm.ClassFile.FieldType)).before args0 about1 = true := code_word (m := ⟨0, 0⟩) (meth := k0m0) (c := k0c0) (by decide +kernel) rfl rfl rfl (by decide +kernel)
set_option maxRecDepth 65536 in
theorem w_c5 : (Jvm.Cond.code ({ cls := "com/example/wrasse/wrasse/Words", name := "toleratedEdits", desc := "(Ljava/lang/String;)I" } : Jvm.MethodName) prog_19_method_4_code (3 : Nat) (Option.some Jvm.ClassFile.FieldType.int)).before args0 about1 = true := code_word (m := ⟨8, 2⟩) (meth := k8m2) (c := k8c2) (by decide +kernel) rfl rfl rfl (by decide +kernel)
set_option maxRecDepth 65536 in
theorem w_c6 : (Jvm.Cond.code ({ cls := "com/example/wrasse/wrasse/Words", name := "length", desc := "(Ljava/lang/String;)I" } : Jvm.MethodName) prog_19_method_3_code (1 : Nat) (Option.some Jvm.ClassFile.FieldType.int)).before args0 about1 = true := code_word (m := ⟨8, 1⟩) (meth := k8m1) (c := k8c1) (by decide +kernel) rfl rfl rfl (by decide +kernel)
set_option maxRecDepth 65536 in
theorem w_c7 : (Jvm.Cond.code ({ cls := "java/lang/String", name := "length", desc := "()I" } : Jvm.MethodName) jdk_42_method_54_code (1 : Nat) (Option.some Jvm.ClassFile.FieldType.int)).before args0 about1 = true := code_word (m := ⟨7, 2⟩) (meth := k7m2) (c := k7c2) (by decide +kernel) rfl rfl rfl (by decide +kernel)
set_option maxRecDepth 65536 in
theorem w_c8 : (Jvm.Cond.code ({ cls := "java/lang/String", name := "coder", desc := "()B" } : Jvm.MethodName) jdk_42_method_152_code (1 : Nat) (Option.some Jvm.ClassFile.FieldType.byte)).before args0 about1 = true := code_word (m := ⟨7, 5⟩) (meth := k7m5) (c := k7c5) (by decide +kernel) rfl rfl rfl (by decide +kernel)
set_option maxRecDepth 65536 in
theorem w_c9 : (Jvm.Cond.code ({ cls := "java/lang/String", name := "codePointCount", desc := "(II)I" } : Jvm.MethodName) jdk_42_method_59_code (3 : Nat) (Option.some Jvm.ClassFile.FieldType.int)).before args0 about1 = true := code_word (m := ⟨7, 3⟩) (meth := k7m3) (c := k7c3) (by decide +kernel) rfl rfl rfl (by decide +kernel)
set_option maxRecDepth 65536 in
theorem w_c10 : (Jvm.Cond.code ({ cls := "java/util/Objects", name := "checkFromToIndex", desc := "(III)I" } : Jvm.MethodName) jdk_31_method_18_code (3 : Nat) (Option.some Jvm.ClassFile.FieldType.int)).before args0 about1 = true := code_word (m := ⟨9, 1⟩) (meth := k9m1) (c := k9c1) (by decide +kernel) rfl rfl rfl (by decide +kernel)
set_option maxRecDepth 65536 in
theorem w_c11 : (Jvm.Cond.code ({ cls := "jdk/internal/util/Preconditions", name := "checkFromToIndex", desc := "(IIILjava/util/function/BiFunction;)I" } : Jvm.MethodName) jdk_41_method_12_code (4 : Nat) (Option.some Jvm.ClassFile.FieldType.int)).before args0 about1 = true := code_word (m := ⟨10, 1⟩) (meth := k10m1) (c := k10c1) (by decide +kernel) rfl rfl rfl (by decide +kernel)
set_option maxRecDepth 65536 in
theorem w_c12 : (Jvm.Cond.code ({ cls := "java/lang/String", name := "isLatin1", desc := "()Z" } : Jvm.MethodName) jdk_42_method_154_code (1 : Nat) (Option.some Jvm.ClassFile.FieldType.boolean)).before args0 about1 = true := code_word (m := ⟨7, 6⟩) (meth := k7m6) (c := k7c6) (by decide +kernel) rfl rfl rfl (by decide +kernel)
set_option maxRecDepth 65536 in
theorem w_c13 : (Jvm.Cond.code ({ cls := "com/example/wrasse/wrasse/WordsToleratedEditsPinLaw", name := "ch", desc := "(IIJJ)C" } : Jvm.MethodName) method_3_code (9 : Nat) (Option.some Jvm.ClassFile.FieldType.char)).before args0 about1 = true := code_word (m := ⟨1, 2⟩) (meth := k1m2) (c := k1c2) (by decide +kernel) rfl rfl rfl (by decide +kernel)
set_option maxRecDepth 65536 in
theorem w_c14 : (Jvm.Cond.code ({ cls := "java/lang/StringUTF16", name := "compress", desc := "([CII)[B" } : Jvm.MethodName) jdk_52_method_16_code (6 : Nat) (Option.some (Jvm.ClassFile.FieldType.array Jvm.ClassFile.FieldType.byte))).before args0 about1 = true := code_word (m := ⟨11, 9⟩) (meth := k11m9) (c := k11c9) (by decide +kernel) rfl rfl rfl (by decide +kernel)
set_option maxRecDepth 65536 in
theorem w_c15 : (Jvm.Cond.code ({ cls := "java/lang/StringUTF16", name := "compress", desc := "([CI[BII)I" } : Jvm.MethodName) jdk_52_method_21_code (7 : Nat) (Option.some Jvm.ClassFile.FieldType.int)).before args0 about1 = true := code_word (m := ⟨11, 10⟩) (meth := k11m10) (c := k11c10) (by decide +kernel) rfl rfl rfl (by decide +kernel)
set_option maxRecDepth 65536 in
theorem w_c16 : (Jvm.Cond.code ({ cls := "java/lang/StringUTF16", name := "toBytes", desc := "([CII)[B" } : Jvm.MethodName) jdk_52_method_14_code (5 : Nat) (Option.some (Jvm.ClassFile.FieldType.array Jvm.ClassFile.FieldType.byte))).before args0 about1 = true := code_word (m := ⟨11, 7⟩) (meth := k11m7) (c := k11c7) (by decide +kernel) rfl rfl rfl (by decide +kernel)
set_option maxRecDepth 65536 in
theorem w_c17 : (Jvm.Cond.code ({ cls := "java/lang/StringUTF16", name := "newBytesFor", desc := "(I)[B" } : Jvm.MethodName) jdk_52_method_2_code (1 : Nat) (Option.some (Jvm.ClassFile.FieldType.array Jvm.ClassFile.FieldType.byte))).before args0 about1 = true := code_word (m := ⟨11, 1⟩) (meth := k11m1) (c := k11c1) (by decide +kernel) rfl rfl rfl (by decide +kernel)
set_option maxRecDepth 65536 in
theorem w_c18 : (Jvm.Cond.code ({ cls := "java/lang/StringUTF16", name := "newBytesLength", desc := "(I)I" } : Jvm.MethodName) jdk_52_method_3_code (1 : Nat) (Option.some Jvm.ClassFile.FieldType.int)).before args0 about1 = true := code_word (m := ⟨11, 2⟩) (meth := k11m2) (c := k11c2) (by decide +kernel) rfl rfl rfl (by decide +kernel)
set_option maxRecDepth 65536 in
theorem w_c19 : (Jvm.Cond.code ({ cls := "java/lang/StringUTF16", name := "putChar", desc := "([BII)V" } : Jvm.MethodName) jdk_52_method_4_code (3 : Nat) (Option.none : Option Jvm.ClassFile.FieldType)).before args0 about1 = true := code_word (m := ⟨11, 3⟩) (meth := k11m3) (c := k11c3) (by decide +kernel) rfl rfl rfl (by decide +kernel)
set_option maxRecDepth 65536 in
theorem w_c20 : (Jvm.Cond.code ({ cls := "java/lang/StringUTF16", name := "getChar", desc := "([BI)C" } : Jvm.MethodName) jdk_52_method_5_code (2 : Nat) (Option.some Jvm.ClassFile.FieldType.char)).before args0 about1 = true := code_word (m := ⟨11, 4⟩) (meth := k11m4) (c := k11c4) (by decide +kernel) rfl rfl rfl (by decide +kernel)
set_option maxRecDepth 65536 in
theorem w_c21 : (Jvm.Cond.code ({ cls := "java/lang/StringUTF16", name := "coderFromArrayLen", desc := "([BI)B" } : Jvm.MethodName) jdk_52_method_15_code (2 : Nat) (Option.some Jvm.ClassFile.FieldType.byte)).before args0 about1 = true := code_word (m := ⟨11, 8⟩) (meth := k11m8) (c := k11c8) (by decide +kernel) rfl rfl rfl (by decide +kernel)
set_option maxRecDepth 65536 in
theorem w_c22 : (Jvm.Cond.code ({ cls := "java/lang/StringUTF16", name := "codePointCount", desc := "([BII)I" } : Jvm.MethodName) jdk_52_method_12_code (3 : Nat) (Option.some Jvm.ClassFile.FieldType.int)).before args0 about1 = true := code_word (m := ⟨11, 6⟩) (meth := k11m6) (c := k11c6) (by decide +kernel) rfl rfl rfl (by decide +kernel)
set_option maxRecDepth 65536 in
theorem w_c23 : (Jvm.Cond.code ({ cls := "java/lang/StringUTF16", name := "codePointCount", desc := "([BIIZ)I" } : Jvm.MethodName) jdk_52_method_11_code (6 : Nat) (Option.some Jvm.ClassFile.FieldType.int)).before args0 about1 = true := code_word (m := ⟨11, 5⟩) (meth := k11m5) (c := k11c5) (by decide +kernel) rfl rfl rfl (by decide +kernel)
set_option maxRecDepth 65536 in
theorem w_c24 : (Jvm.Cond.code ({ cls := "java/lang/Character", name := "isHighSurrogate", desc := "(C)Z" } : Jvm.MethodName) jdk_89_method_14_code (1 : Nat) (Option.some Jvm.ClassFile.FieldType.boolean)).before args0 about1 = true := code_word (m := ⟨12, 0⟩) (meth := k12m0) (c := k12c0) (by decide +kernel) rfl rfl rfl (by decide +kernel)
set_option maxRecDepth 65536 in
theorem w_c25 : (Jvm.Cond.code ({ cls := "java/lang/Character", name := "isLowSurrogate", desc := "(C)Z" } : Jvm.MethodName) jdk_89_method_15_code (1 : Nat) (Option.some Jvm.ClassFile.FieldType.boolean)).before args0 about1 = true := code_word (m := ⟨12, 1⟩) (meth := k12m1) (c := k12c1) (by decide +kernel) rfl rfl rfl (by decide +kernel)
def codes1 : List Jvm.Cond := [Jvm.Cond.code x code maxLocals ret, Jvm.Cond.code ({ cls := "com/example/wrasse/wrasse/WordsToleratedEditsPinLaw", name := "pair", desc := "(III)I" } : Jvm.MethodName) method_4_code (4 : Nat) (Option.some Jvm.ClassFile.FieldType.int), Jvm.Cond.code ({ cls := "java/lang/String", name := "<init>", desc := "([C)V" } : Jvm.MethodName) jdk_42_method_3_code (2 : Nat) (Option.none : Option Jvm.ClassFile.FieldType), Jvm.Cond.code ({ cls := "java/lang/String", name := "<init>", desc := "([CIILjava/lang/Void;)V" } : Jvm.MethodName) jdk_42_method_149_code (6 : Nat) (Option.none : Option Jvm.ClassFile.FieldType), Jvm.Cond.code ({ cls := "java/lang/Object", name := "<init>", desc := "()V" } : Jvm.MethodName) object_method_1_code (1 : Nat) (Option.none : Option Jvm.ClassFile.FieldType), Jvm.Cond.code ({ cls := "com/example/wrasse/wrasse/Words", name := "toleratedEdits", desc := "(Ljava/lang/String;)I" } : Jvm.MethodName) prog_19_method_4_code (3 : Nat) (Option.some Jvm.ClassFile.FieldType.int), Jvm.Cond.code ({ cls := "com/example/wrasse/wrasse/Words", name := "length", desc := "(Ljava/lang/String;)I" } : Jvm.MethodName) prog_19_method_3_code (1 : Nat) (Option.some Jvm.ClassFile.FieldType.int), Jvm.Cond.code ({ cls := "java/lang/String", name := "length", desc := "()I" } : Jvm.MethodName) jdk_42_method_54_code (1 : Nat) (Option.some Jvm.ClassFile.FieldType.int), Jvm.Cond.code ({ cls := "java/lang/String", name := "coder", desc := "()B" } : Jvm.MethodName) jdk_42_method_152_code (1 : Nat) (Option.some Jvm.ClassFile.FieldType.byte), Jvm.Cond.code ({ cls := "java/lang/String", name := "codePointCount", desc := "(II)I" } : Jvm.MethodName) jdk_42_method_59_code (3 : Nat) (Option.some Jvm.ClassFile.FieldType.int), Jvm.Cond.code ({ cls := "java/util/Objects", name := "checkFromToIndex", desc := "(III)I" } : Jvm.MethodName) jdk_31_method_18_code (3 : Nat) (Option.some Jvm.ClassFile.FieldType.int), Jvm.Cond.code ({ cls := "jdk/internal/util/Preconditions", name := "checkFromToIndex", desc := "(IIILjava/util/function/BiFunction;)I" } : Jvm.MethodName) jdk_41_method_12_code (4 : Nat) (Option.some Jvm.ClassFile.FieldType.int), Jvm.Cond.code ({ cls := "java/lang/String", name := "isLatin1", desc := "()Z" } : Jvm.MethodName) jdk_42_method_154_code (1 : Nat) (Option.some Jvm.ClassFile.FieldType.boolean), Jvm.Cond.code ({ cls := "com/example/wrasse/wrasse/WordsToleratedEditsPinLaw", name := "ch", desc := "(IIJJ)C" } : Jvm.MethodName) method_3_code (9 : Nat) (Option.some Jvm.ClassFile.FieldType.char), Jvm.Cond.code ({ cls := "java/lang/StringUTF16", name := "compress", desc := "([CII)[B" } : Jvm.MethodName) jdk_52_method_16_code (6 : Nat) (Option.some (Jvm.ClassFile.FieldType.array Jvm.ClassFile.FieldType.byte)), Jvm.Cond.code ({ cls := "java/lang/StringUTF16", name := "compress", desc := "([CI[BII)I" } : Jvm.MethodName) jdk_52_method_21_code (7 : Nat) (Option.some Jvm.ClassFile.FieldType.int), Jvm.Cond.code ({ cls := "java/lang/StringUTF16", name := "toBytes", desc := "([CII)[B" } : Jvm.MethodName) jdk_52_method_14_code (5 : Nat) (Option.some (Jvm.ClassFile.FieldType.array Jvm.ClassFile.FieldType.byte)), Jvm.Cond.code ({ cls := "java/lang/StringUTF16", name := "newBytesFor", desc := "(I)[B" } : Jvm.MethodName) jdk_52_method_2_code (1 : Nat) (Option.some (Jvm.ClassFile.FieldType.array Jvm.ClassFile.FieldType.byte)), Jvm.Cond.code ({ cls := "java/lang/StringUTF16", name := "newBytesLength", desc := "(I)I" } : Jvm.MethodName) jdk_52_method_3_code (1 : Nat) (Option.some Jvm.ClassFile.FieldType.int), Jvm.Cond.code ({ cls := "java/lang/StringUTF16", name := "putChar", desc := "([BII)V" } : Jvm.MethodName) jdk_52_method_4_code (3 : Nat) (Option.none : Option Jvm.ClassFile.FieldType), Jvm.Cond.code ({ cls := "java/lang/StringUTF16", name := "getChar", desc := "([BI)C" } : Jvm.MethodName) jdk_52_method_5_code (2 : Nat) (Option.some Jvm.ClassFile.FieldType.char), Jvm.Cond.code ({ cls := "java/lang/StringUTF16", name := "coderFromArrayLen", desc := "([BI)B" } : Jvm.MethodName) jdk_52_method_15_code (2 : Nat) (Option.some Jvm.ClassFile.FieldType.byte), Jvm.Cond.code ({ cls := "java/lang/StringUTF16", name := "codePointCount", desc := "([BII)I" } : Jvm.MethodName) jdk_52_method_12_code (3 : Nat) (Option.some Jvm.ClassFile.FieldType.int), Jvm.Cond.code ({ cls := "java/lang/StringUTF16", name := "codePointCount", desc := "([BIIZ)I" } : Jvm.MethodName) jdk_52_method_11_code (6 : Nat) (Option.some Jvm.ClassFile.FieldType.int), Jvm.Cond.code ({ cls := "java/lang/Character", name := "isHighSurrogate", desc := "(C)Z" } : Jvm.MethodName) jdk_89_method_14_code (1 : Nat) (Option.some Jvm.ClassFile.FieldType.boolean), Jvm.Cond.code ({ cls := "java/lang/Character", name := "isLowSurrogate", desc := "(C)Z" } : Jvm.MethodName) jdk_89_method_15_code (1 : Nat) (Option.some Jvm.ClassFile.FieldType.boolean)]
set_option maxRecDepth 65536 in
theorem codes_eq : words1.filter isCode = codes1 := rfl
theorem w_codes : ∀ c ∈ words1.filter isCode, c.before args0 about1 = true := by
  rw [codes_eq]
  intro c hc
  simp only [codes1, List.mem_cons, List.not_mem_nil, or_false] at hc
  rcases hc with rfl | rfl | rfl | rfl | rfl | rfl | rfl | rfl | rfl | rfl | rfl | rfl | rfl | rfl | rfl | rfl | rfl | rfl | rfl | rfl | rfl | rfl | rfl | rfl | rfl | rfl
  · exact w_c0
  · exact w_c1
  · exact w_c2
  · exact w_c3
  · exact w_c4
  · exact w_c5
  · exact w_c6
  · exact w_c7
  · exact w_c8
  · exact w_c9
  · exact w_c10
  · exact w_c11
  · exact w_c12
  · exact w_c13
  · exact w_c14
  · exact w_c15
  · exact w_c16
  · exact w_c17
  · exact w_c18
  · exact w_c19
  · exact w_c20
  · exact w_c21
  · exact w_c22
  · exact w_c23
  · exact w_c24
  · exact w_c25
set_option maxRecDepth 65536 in
theorem w_t1 : (words1.take 24).all (fun c => isCode c || c.before args0 about1) = true := by decide +kernel
set_option maxRecDepth 65536 in
theorem w_t2 : ((words1.drop 24).take 24).all (fun c => isCode c || c.before args0 about1) = true := by decide +kernel
set_option maxRecDepth 65536 in
theorem w_t3 : (((words1.drop 24).drop 24).take 24).all (fun c => isCode c || c.before args0 about1) = true := by decide +kernel
set_option maxRecDepth 65536 in
theorem w_t4 : ((((words1.drop 24).drop 24).drop 24).take 24).all (fun c => isCode c || c.before args0 about1) = true := by decide +kernel
set_option maxRecDepth 65536 in
theorem w_t5 : ((((words1.drop 24).drop 24).drop 24).drop 24).all (fun c => isCode c || c.before args0 about1) = true := by decide +kernel
theorem w_tables : (allAtoms (Jvm.Cond.code x code maxLocals ret :: tables_1)).before args0 about1 = true := by
  rw [allAtoms_all]
  show words1.all (fun c => c.before args0 about1) = true
  refine all_split ?_ w_codes
  rw [← List.take_append_drop 24 words1, List.all_append, w_t1, ← List.take_append_drop 24 (words1.drop 24), List.all_append, w_t2, ← List.take_append_drop 24 ((words1.drop 24).drop 24), List.all_append, w_t3, ← List.take_append_drop 24 (((words1.drop 24).drop 24).drop 24), List.all_append, w_t4, w_t5]
  rfl
set_option maxRecDepth 65536 in
theorem w_rest : rest_1_c.before args0 about1 = true := by decide +kernel
set_option maxRecDepth 65536 in
theorem w_case : (Jvm.Cond.and given_1 narrow_1).before args0 about1 = true := by decide +kernel
set_option maxRecDepth 65536 in
theorem w_consts : constsHeld consts_1 about1 := Jvm.Lit.constsHeldB_iff.mp (by decide +kernel)
theorem w_applies : (headSpec (Jvm.Cond.code x code maxLocals ret :: tables_1) room_1).applies x e0.platform about1 = true :=
  (Spec.applies_iff w_frames).mpr ⟨w_running, w_runnable, w_alone, w_named, w_hears, w_ripe, w_room, w_tables⟩
theorem atStart : AtStart classFile x code maxLocals ret World_1 tables_1 room_1 Calls_1 rest_1 Pre_1 launch0 p0 e0 about1 theMethod args0 below0 :=
  ⟨lists_1, trivial, launch0.admits_env _ _ _, launch0.least_env, fairChoices_fair.cas, fairChoices_fair.clock, w_frames, w_args, w_heap, w_applies, ⟨w_consts, trivial⟩, w_rest, w_case⟩
end start1
theorem witness_1 : WitnessClaimed_1 := ⟨start1.p0, start1.e0, start1.about1, start1.theMethod, start1.args0, start1.below0, start1.atStart⟩
end Jvm.Pilot.@@N@@
