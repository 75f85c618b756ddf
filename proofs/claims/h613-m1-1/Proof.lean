import JvmDerived
import JvmDerived.Pilot.@@N@@Statement
import JvmDerived.Pilot.@@N@@Code
set_option linter.unusedVariables false
set_option linter.unusedSimpArgs false
namespace Jvm.Pilot.@@N@@.Own
open Jvm Jvm.ClassFile Sem Op Lib Jvm.Free Jvm.Stand Jvm.LawKit Jvm.RoadKit
/-- from S the run comes to an end of which P holds -/
def Go (tb : Tables) (e : Env) (below : List Frame) (P : State → Outcome → Prop) (S : State) : Prop :=
  ∃ s₂ o, Steps tb e below S s₂ ∧ s₂.status = .running ∧ Ended s₂ below o ∧ P s₂ o
theorem Go.step {tb : Tables} {e : Env} {below : List Frame} {P : State → Outcome → Prop} {S S' : State}
    (h : ∀ t, Steps tb e below S' t → Steps tb e below S t) (g : Go tb e below P S') : Go tb e below P S := by
  obtain ⟨t, o, h1, h2⟩ := g; exact ⟨t, o, h t h1, h2⟩
theorem Go.tr {tb : Tables} {e : Env} {below : List Frame} {P : State → Outcome → Prop} {S S' : State}
    (h : Steps tb e below S S') (g : Go tb e below P S') : Go tb e below P S := by
  obtain ⟨t, o, h1, h2⟩ := g; exact ⟨t, o, h.trans h1, h2⟩
theorem Go.start {tb : Tables} {e : Env} {below : List Frame} {P₀ : State → Outcome → Prop} {S S' : State} (q : S = S')
    (h : ∀ P : State → Outcome → Prop, (∀ s₂ o, P₀ s₂ o → P s₂ o) → Go tb e below P S') : Go tb e below P₀ S := by
  subst q; exact h P₀ fun _ _ h => h
/-- a value gets a name -/
theorem nm {α : Type} (F : α → Prop) (x : α) (H : ∀ z, z = x → F z) : F x := H x rfl
section Ends
variable {p : Program} {l : Launch} {e : Env} {R : Room} {s : State} {m : MethodId} {args : Array Value} {below : List Frame} {meth : Method} {c : Code} {T : State} {locs : List Loc} {cells slots : Nat}
theorem retGo (X : Stand p l e R s m args below meth c T locs cells slots) (hx : p.tables.exec = Jvm.exec) {P : State → Outcome → Prop} {Q : Option Value → Heap → List Loc → Prop} {kc ks : Nat}
    (hP : ∀ s₂ o, (∃ v L, o = .returned v ∧ Q v s₂.heap L ∧ FrameEnd s o s₂ L kc ks) → P s₂ o) {pc : Nat} {Ls : Array Slot} {w : Value} {t : FieldType} {i : Instr} {rest : List Value} (hret : meth.sig.returnType = some t) (hlk : meth.locks = false) (hn : narrow t w = w)
    (hi : (i = .ireturn ∧ (t = .int ∨ t = .boolean ∨ t = .byte ∨ t = .char ∨ t = .short) ∧ ∃ z, w = .int z) ∨ (i = .lreturn ∧ t = .long ∧ ∃ z, w = .long z) ∨ (i = .dreturn ∧ t = .double ∧ ∃ z, w = .double z) ∨ (i = .freturn ∧ t = .float ∧ ∃ z, w = .float z) ∨ (i = .areturn ∧ t.isReference = true ∧ w.isRef = true))
    (hd : decode c.code pc = .ok (i, 1)) (hc : cells ≤ kc) (hs : slots ≤ ks) (hQ : Q (some w) T.heap locs) : Go p.tables e below P (T.setTop (mkF m pc Ls (w :: rest))) := by
  obtain ⟨fs, hr, hrun, hended, hW, hsame⟩ := X.leave (v := some w) (fun h => by rw [hret] at h; cases h) hlk
  exact ⟨_, _, retOut X hx hret hn hi hd hr, hrun, hended, hP _ _ ⟨_, _, rfl, hQ, ⟨_, rfl⟩, hW, hsame.mono hc hs⟩⟩
theorem retGoW {vm1 : Vm} (X : Stand p l e R (s.setVm vm1) m args below meth c T locs cells slots) (hx : p.tables.exec = Jvm.exec) {n1 : Nat} (hS : s.Since vm1 n1) (hn1 : n1 ≤ T.heap.size) {P : State → Outcome → Prop} {Q : Option Value → Heap → List Loc → Prop} {kc ks : Nat}
    (hP : ∀ s₂ o, (∃ v L, o = .returned v ∧ Q v s₂.heap L ∧ ReturnedEndW s o s₂ L kc ks) → P s₂ o) {pc : Nat} {Ls : Array Slot} {w : Value} {t : FieldType} {i : Instr} {rest : List Value} (hret : meth.sig.returnType = some t) (hlk : meth.locks = false) (hn : narrow t w = w)
    (hi : (i = .ireturn ∧ (t = .int ∨ t = .boolean ∨ t = .byte ∨ t = .char ∨ t = .short) ∧ ∃ z, w = .int z) ∨ (i = .lreturn ∧ t = .long ∧ ∃ z, w = .long z) ∨ (i = .dreturn ∧ t = .double ∧ ∃ z, w = .double z) ∨ (i = .freturn ∧ t = .float ∧ ∃ z, w = .float z) ∨ (i = .areturn ∧ t.isReference = true ∧ w.isRef = true))
    (hd : decode c.code pc = .ok (i, 1)) (hc : cells ≤ kc) (hs : slots ≤ ks) (hQ : Q (some w) T.heap locs) : Go p.tables e below P (T.setTop (mkF m pc Ls (w :: rest))) := by
  obtain ⟨fs, hr, hrun, hended, _, hW, hI, hsame⟩ := X.leaveW hS hn1 (v := some w) (fun h => by rw [hret] at h; cases h) hlk
  exact ⟨_, _, retOut X hx hret hn hi hd hr, hrun, hended, hP _ _ ⟨_, _, rfl, hQ, ⟨_, rfl⟩, hW, hI, hsame.mono hc hs⟩⟩
theorem voidGo (X : Stand p l e R s m args below meth c T locs cells slots) (hx : p.tables.exec = Jvm.exec) {P : State → Outcome → Prop} {Q : Option Value → Heap → List Loc → Prop} {kc ks : Nat}
    (hP : ∀ s₂ o, (∃ v L, o = .returned v ∧ Q v s₂.heap L ∧ FrameEnd s o s₂ L kc ks) → P s₂ o) {pc : Nat} {Ls : Array Slot} (hret : meth.sig.returnType = none) (hlk : meth.locks = false)
    (hd : decode c.code pc = .ok (.return_, 1)) (hc : cells ≤ kc) (hs : slots ≤ ks) (hQ : Q none T.heap locs) : Go p.tables e below P (T.setTop (mkF m pc Ls [])) := by
  obtain ⟨fs, hr, hrun, hended, hW, hsame⟩ := X.leave (v := none) (fun _ => rfl) hlk
  exact ⟨_, _, X.returnOut hx hret hd hr, hrun, hended, hP _ _ ⟨_, _, rfl, hQ, ⟨_, rfl⟩, hW, hsame.mono hc hs⟩⟩
end Ends
/-! branches: what is compared, as whole numbers -/
def rel : ClassFile.Cond → Int → Int → Prop
  | .eq, a, b => a = b
  | .ne, a, b => ¬ a = b
  | .lt, a, b => a < b
  | .ge, a, b => b ≤ a
  | .gt, a, b => b < a
  | .le, a, b => a ≤ b
theorem icY {cd : ClassFile.Cond} {x y : Int32} (h : rel cd x.toInt y.toInt) : if_icmp.holds cd x y = true := by
  cases cd <;> simp only [rel] at h <;> simp [if_icmp.holds, Int32.lt_iff_toInt_lt, Int32.le_iff_toInt_le, ← Int32.toInt_inj] <;> omega
theorem icN {cd : ClassFile.Cond} {x y : Int32} (h : ¬ rel cd x.toInt y.toInt) : if_icmp.holds cd x y = false := by
  cases cd <;> simp only [rel] at h <;> simp [if_icmp.holds, Int32.lt_iff_toInt_lt, Int32.le_iff_toInt_le, ← Int32.toInt_inj] <;> omega
theorem ifY {cd : ClassFile.Cond} {x : Int32} (h : rel cd x.toInt 0) : ifCond.holds cd x = true := (if0 cd x).trans (icY h)
theorem ifN {cd : ClassFile.Cond} {x : Int32} (h : ¬ rel cd x.toInt 0) : ifCond.holds cd x = false := (if0 cd x).trans (icN h)
theorem lcmp_rel {cd : ClassFile.Cond} {x y : Int64} : rel cd (lcmpW x y).toInt 0 ↔ rel cd x.toInt y.toInt := by
  have h1 : x < y ↔ x.toInt < y.toInt := Int64.lt_iff_toInt_lt
  have h2 : y < x ↔ y.toInt < x.toInt := Int64.lt_iff_toInt_lt
  have h3 : x = y ↔ x.toInt = y.toInt := Int64.toInt_inj.symm
  have e1 : (1 : Int32).toInt = 1 := rfl
  have e2 : (-1 : Int32).toInt = -1 := rfl
  have e3 : (0 : Int32).toInt = 0 := rfl
  unfold lcmpW
  by_cases c1 : x > y
  · rw [if_pos c1, e1]; have := h2.mp c1; cases cd <;> simp only [rel] <;> omega
  · rw [if_neg c1]
    have n1 : ¬ y.toInt < x.toInt := fun q => c1 (h2.mpr q)
    by_cases c2 : x = y
    · rw [if_pos c2, e3]; have q := h3.mp c2; cases cd <;> simp only [rel] <;> first | omega | simp [q]
    · rw [if_neg c2, e2]
      have n2 : ¬ x.toInt = y.toInt := fun q => c2 (h3.mpr q)
      cases cd <;> simp only [rel] <;> omega
theorem lcY {cd : ClassFile.Cond} {x y : Int64} (h : rel cd x.toInt y.toInt) : ifCond.holds cd (lcmpW x y) = true := ifY (lcmp_rel.mpr h)
theorem lcN {cd : ClassFile.Cond} {x y : Int64} (h : ¬ rel cd x.toInt y.toInt) : ifCond.holds cd (lcmpW x y) = false := ifN fun q => h (lcmp_rel.mp q)
theorem cmpV_rel {cd : ClassFile.Cond} {op : CmpOp} {i j : Int} : rel cd (cmpValue (some (compare i j)) op).toInt 0 ↔ rel cd i j := by
  have e1 : (1 : Int32).toInt = 1 := rfl
  have e2 : (-1 : Int32).toInt = -1 := rfl
  have e3 : (0 : Int32).toInt = 0 := rfl
  cases h : compare i j with
  | lt => have := (FP.Core.compare_lt_iff i j).mp h; show rel cd (-1 : Int32).toInt 0 ↔ _; rw [e2]; cases cd <;> simp only [rel] <;> omega
  | eq => have := (FP.Core.compare_eq_iff i j).mp h; show rel cd (0 : Int32).toInt 0 ↔ _; rw [e3]; cases cd <;> simp only [rel] <;> first | omega | simp [this]
  | gt => have := (FP.Core.compare_gt_iff i j).mp h; show rel cd (1 : Int32).toInt 0 ↔ _; rw [e1]; cases cd <;> simp only [rel] <;> omega
theorem dcY {cd : ClassFile.Cond} {op : CmpOp} {r : Option Ordering} {i j : Int} (q : r = some (compare i j)) (h : rel cd i j) : ifCond.holds cd (cmpValue r op) = true := by subst q; exact ifY (cmpV_rel.mpr h)
theorem dcN {cd : ClassFile.Cond} {op : CmpOp} {r : Option Ordering} {i j : Int} (q : r = some (compare i j)) (h : ¬ rel cd i j) : ifCond.holds cd (cmpValue r op) = false := by subst q; exact ifN fun z => h (cmpV_rel.mp z)
end Jvm.Pilot.@@N@@.Own
namespace Jvm.Pilot.@@N@@.Own
open Jvm Jvm.FP Jvm.FP.Core
/-! ## doubles as whole numbers of 2^-1074: what rounding leaves -/
/-- a double's value in units of 2^-1074 -/
def zv (a : UInt64) : Int := zval b64 (val64 a)
/-- a is finite and lies between lo * 2^k and hi * 2^k units -/
def DB (k : Nat) (lo hi : Int) (a : UInt64) : Prop := DFin a ∧ lo * ((2 ^ k : Nat) : Int) ≤ zv a ∧ zv a ≤ hi * ((2 ^ k : Nat) : Int)
/-- a is finite and is i * 2^k units -/
abbrev DE (k : Nat) (i : Int) (a : UInt64) : Prop := DB k i i a
theorem DE.eq {k : Nat} {i : Int} {a : UInt64} (h : DE k i a) : zv a = i * ((2 ^ k : Nat) : Int) := Int.le_antisymm h.2.2 h.2.1
theorem DE.of {k : Nat} {i : Int} {a : UInt64} (hf : DFin a) (h : zv a = i * ((2 ^ k : Nat) : Int)) : DE k i a := ⟨hf, Int.le_of_eq h.symm, Int.le_of_eq h⟩
theorem tn32 {q : Int32} (h0 : 0 ≤ q.toInt) : (q.toBitVec.toNat : Int) = q.toInt := by
  have l := q.toBitVec.isLt
  have e : q.toInt = q.toBitVec.toInt := rfl
  rw [e] at h0 ⊢
  rw [BitVec.toInt_eq_toNat_cond] at h0 ⊢
  split at h0 <;> split <;> omega
theorem nmul {a b : Int} {A B : Nat} (ha : a.natAbs ≤ A) (hb : b.natAbs ≤ B) : (a * b).natAbs ≤ A * B := by rw [Int.natAbs_mul]; exact Nat.mul_le_mul ha hb
theorem nab {a : Int} {A : Nat} (h : -(A : Int) ≤ a ∧ a ≤ A) : a.natAbs ≤ A := by omega
theorem bmul {a b : Int} {A B : Nat} (ha : -(A : Int) ≤ a ∧ a ≤ A) (hb : -(B : Int) ≤ b ∧ b ≤ B) : -((A * B : Nat) : Int) ≤ a * b ∧ a * b ≤ ((A * B : Nat) : Int) := by
  have := nmul (nab ha) (nab hb)
  omega
theorem le_mul1 {a b : Int} (ha : 0 ≤ a) (hb : 1 ≤ b) : a ≤ a * b := by have := Int.mul_le_mul_of_nonneg_left hb ha; rwa [Int.mul_one] at this
theorem pw_pos (k : Nat) : (0 : Int) < ((2 ^ k : Nat) : Int) := Int.natCast_pos.mpr (Nat.two_pow_pos k)
theorem DB.nn {k : Nat} {lo hi : Int} {a : UInt64} (h : DB k lo hi a) : Jvm.Free.Fl.NoNaN64 a := Jvm.Free.Fl.noNaN64_no.mpr h.1.notNaN
theorem DB.ne {k : Nat} {lo hi : Int} {a : UInt64} (h : DB k lo hi a) : val64 a ≠ .nan := h.1.ne_nan
/-- a number of 53 digits is a double -/
theorem rep {n : Int} {k : Nat} (hn : n.natAbs ≤ 2 ^ 53) (hk : k ≤ 2044) : ∃ s c q, FP.Core.fits b64 (.fin s c q) ∧ zval b64 (.fin s c q) = n * ((2 ^ k : Nat) : Int) := by
  have key : ∀ (n : Int) (k : Nat), n.natAbs < 2 ^ 53 → k ≤ 2045 → ∃ s c q, FP.Core.fits b64 (.fin s c q) ∧ zval b64 (.fin s c q) = n * ((2 ^ k : Nat) : Int) := by
    intro n k hn hk
    have q1 : b64.qmin = -1074 := by decide
    have q2 : b64.qmax = 971 := by decide
    obtain ⟨c', q', h1, h2⟩ := round_exact good_b64 (decide (n < 0)) (c := n.natAbs) (q := b64.qmin + (k : Int)) (show n.natAbs < 2 ^ b64.p from hn) (by omega) (by omega)
    refine ⟨_, c', q', h1 ▸ round_fits good_b64 _, ?_⟩
    show signed (decide (n < 0)) (inUnits c' q' b64.qmin) = _
    rw [h2]
    unfold inUnits
    rw [signed_mul, show (b64.qmin + (k : Int) - b64.qmin).toNat = k by omega]
    congr 1
    unfold signed
    by_cases h : n < 0 <;> simp [h] <;> omega
  by_cases h : n.natAbs < 2 ^ 53
  · exact key n k h (by omega)
  · have e : n.natAbs = 2 ^ 53 := by omega
    have : ∃ m : Int, n = m * 2 ∧ m.natAbs < 2 ^ 53 := by
      rcases Int.natAbs_eq n with q | q
      · exact ⟨2 ^ 52, by rw [q, e]; decide, by decide⟩
      · exact ⟨-2 ^ 52, by rw [q, e]; decide, by decide⟩
    obtain ⟨m, rfl, hm⟩ := this
    obtain ⟨s, c, q, h1, h2⟩ := key m (k + 1) hm (by omega)
    refine ⟨s, c, q, h1, ?_⟩
    rw [h2, Nat.pow_succ, Int.natCast_mul, Int.mul_assoc]
    congr 1
    rw [Int.mul_comm]; rfl
/-- a number between two finite ones is finite -/
theorem fin_between {a : UInt64} {lo hi : Int} {k : Nat} (hl : lo.natAbs ≤ 2 ^ 53) (hh : hi.natAbs ≤ 2 ^ 53) (hk : k ≤ 2044) (hn : val64 a ≠ .nan) (h1 : lo * ((2 ^ k : Nat) : Int) ≤ zv a) (h2 : zv a ≤ hi * ((2 ^ k : Nat) : Int)) : DB k lo hi a := by
  refine ⟨?_, h1, h2⟩
  obtain ⟨s1, c1, q1, f1, e1⟩ := rep hl hk
  obtain ⟨s2, c2, q2, f2, e2⟩ := rep hh hk
  have t1 : zmag b64 (.fin s1 c1 q1) < b64.tails * 2 ^ (b64.exps - 2) := zmag_lt_top good_b64 f1
  have t2 : zmag b64 (.fin s2 c2 q2) < b64.tails * 2 ^ (b64.exps - 2) := zmag_lt_top good_b64 f2
  rw [← e1] at h1
  rw [← e2] at h2
  unfold zv at h1 h2
  cases hv : val64 a with
  | nan => exact absurd hv hn
  | fin s c q => exact ⟨s, c, q, hv⟩
  | inf s =>
    exfalso
    rw [hv] at h1 h2
    have z : zmag b64 (.inf s) = b64.tails * 2 ^ (b64.exps - 2) := rfl
    unfold zval at h1 h2
    rw [z] at h1 h2
    generalize b64.tails * 2 ^ (b64.exps - 2) = top at *
    generalize zmag b64 (.fin s1 c1 q1) = m1 at *
    generalize zmag b64 (.fin s2 c2 q2) = m2 at *
    simp only [sgn] at h1 h2
    cases s <;> cases s1 <;> cases s2 <;> simp only [signed, if_true, Bool.false_eq_true, if_false] at h1 h2 <;> omega
theorem qmin_sub : ((2 ^ (b64.qmin - b64.qmin).toNat : Nat) : Int) = 1 := by rw [Int.sub_self]; rfl
/-- what lies between two numbers of 53 digits is rounded to something between them -/
theorem round_between {s : Bool} {c : Nat} {q : Int} {lo hi : Int} {k : Nat} {a : UInt64} (ha : val64 a = round b64 (.fin s c q)) (hl : lo.natAbs ≤ 2 ^ 53) (hh : hi.natAbs ≤ 2 ^ 53) (hk : k ≤ 2044) {e0 : Int} (h0 : e0 ≤ b64.qmin) (h0e : e0 ≤ q)
    (h1 : lo * ((2 ^ k : Nat) : Int) * ((2 ^ (b64.qmin - e0).toNat : Nat) : Int) ≤ signed s (inUnits c q e0)) (h2 : signed s (inUnits c q e0) ≤ hi * ((2 ^ k : Nat) : Int) * ((2 ^ (b64.qmin - e0).toNat : Nat) : Int)) : DB k lo hi a := by
  obtain ⟨s1, c1, q1, f1, e1⟩ := rep hl hk
  obtain ⟨s2, c2, q2, f2, e2⟩ := rep hh hk
  have hn : val64 a ≠ .nan := by rw [ha]; exact roundRatio_ne_nan _ _ _ _ _
  refine fin_between hl hh hk hn ?_ ?_
  · unfold zv; rw [ha, ← e1]; exact zval_round_ge good_b64 f1 (by simp) h0 h0e (by rw [e1]; exact h1)
  · unfold zv; rw [ha, ← e2]; exact zval_round_le good_b64 f2 (by simp) h0 h0e (by rw [e2]; exact h2)
theorem add_b {a b : UInt64} {k : Nat} {l1 h1 l2 h2 lo hi : Int} (ha : DB k l1 h1 a) (hb : DB k l2 h2 b) (hlo : lo ≤ l1 + l2) (hhi : h1 + h2 ≤ hi) (hl : lo.natAbs ≤ 2 ^ 53) (hh : hi.natAbs ≤ 2 ^ 53) (hk : k ≤ 2044) : DB k lo hi (FP.dadd a b) := by
  obtain ⟨⟨s, c, q, va⟩, a1, a2⟩ := ha
  obtain ⟨⟨t, d, r, vb⟩, b1, b2⟩ := hb
  have hv := val64_dadd a b
  have fa := val64_fits a
  have fb := val64_fits b
  unfold zv at a1 a2 b1 b2
  rw [va] at hv fa a1 a2
  rw [vb] at hv fb b1 b2
  obtain ⟨sg, n, e, h3, h4, h5⟩ := sum_units fa fb
  rw [h3] at hv
  have hp := pw_pos k
  refine round_between hv hl hh hk (e0 := b64.qmin) (Int.le_refl _) h4 ?_ ?_
  · rw [h5, qmin_sub, Int.mul_one]
    have := Int.mul_le_mul_of_nonneg_right hlo (Int.le_of_lt hp)
    rw [Int.add_mul] at this
    omega
  · rw [h5, qmin_sub, Int.mul_one]
    have := Int.mul_le_mul_of_nonneg_right hhi (Int.le_of_lt hp)
    rw [Int.add_mul] at this
    omega
theorem zv_dneg {a : UInt64} : zv (FP.dneg a) = -zv a := by unfold zv; rw [FP.val64_dneg, zval_negate]
theorem neg_b {a : UInt64} {k : Nat} {lo hi : Int} (ha : DB k lo hi a) : DB k (-hi) (-lo) (FP.dneg a) := by
  refine ⟨?_, ?_, ?_⟩
  · obtain ⟨s, c, q, va⟩ := ha.1
    exact ⟨!s, c, q, by rw [FP.val64_dneg, va]; rfl⟩
  · rw [zv_dneg, Int.neg_mul]; have := ha.2.2; omega
  · rw [zv_dneg, Int.neg_mul]; have := ha.2.1; omega
theorem sub_b {a b : UInt64} {k : Nat} {l1 h1 l2 h2 lo hi : Int} (ha : DB k l1 h1 a) (hb : DB k l2 h2 b) (hlo : lo ≤ l1 - h2) (hhi : h1 - l2 ≤ hi) (hl : lo.natAbs ≤ 2 ^ 53) (hh : hi.natAbs ≤ 2 ^ 53) (hk : k ≤ 2044) : DB k lo hi (FP.dsub a b) := by
  have e : FP.dsub a b = FP.dadd a (FP.dneg b) := by
    rw [FP.dneg_core hb.1.notNaN]; exact dsub_eq a b
  rw [e]
  exact add_b ha (neg_b hb) (by omega) (by omega) hl hh hk
theorem pw_1074 : ((2 ^ (b64.qmin - 2 * b64.qmin).toNat : Nat) : Int) = ((2 ^ 1074 : Nat) : Int) := by
  rw [show (b64.qmin - 2 * b64.qmin).toNat = 1074 by decide]
/-- the exact product of the two lies between -/
theorem mul_z {a b : UInt64} {k : Nat} {lo hi : Int} (fa : DFin a) (fb : DFin b) (h1 : lo * ((2 ^ k : Nat) : Int) * ((2 ^ 1074 : Nat) : Int) ≤ zv a * zv b) (h2 : zv a * zv b ≤ hi * ((2 ^ k : Nat) : Int) * ((2 ^ 1074 : Nat) : Int)) (hl : lo.natAbs ≤ 2 ^ 53) (hh : hi.natAbs ≤ 2 ^ 53) (hk : k ≤ 2044) : DB k lo hi (FP.dmul a b) := by
  obtain ⟨s, c, q, va⟩ := fa
  obtain ⟨t, d, r, vb⟩ := fb
  have hv := val64_dmul a b
  have fa := val64_fits a
  have fb := val64_fits b
  unfold zv at h1 h2
  rw [va] at hv fa h1 h2
  rw [vb] at hv fb h1 h2
  obtain ⟨g1, g2, g3⟩ := product_units fa fb
  rw [g1] at hv
  have e : signed (s != t) (inUnits (c * d) (q + r) (2 * b64.qmin)) = zval b64 (.fin s c q) * zval b64 (.fin t d r) := by
    rw [g3, signed_xor]; rfl
  refine round_between hv hl hh hk (e0 := 2 * b64.qmin) (by decide) g2 ?_ ?_
  · rw [e, pw_1074]; exact h1
  · rw [e, pw_1074]; exact h2
theorem pw_add (a b : Nat) : ((2 ^ (a + b) : Nat) : Int) = ((2 ^ a : Nat) : Int) * ((2 ^ b : Nat) : Int) := by rw [Nat.pow_add, Int.natCast_mul]
theorem mul_e {a b : UInt64} {k k1 k2 : Nat} {i j n : Int} (ha : DE k1 i a) (hb : DE k2 j b) (hk : k1 + k2 = k + 1074) (hn : i * j = n) (hh : n.natAbs ≤ 2 ^ 53) (hk' : k ≤ 2044) : DE k n (FP.dmul a b) := by
  have e : zv a * zv b = n * ((2 ^ k : Nat) : Int) * ((2 ^ 1074 : Nat) : Int) := by
    rw [ha.eq, hb.eq, ← hn, Int.mul_assoc (i * j), ← pw_add, ← hk, pw_add]
    simp only [Int.mul_assoc, Int.mul_left_comm]
  exact mul_z ha.1 hb.1 (Int.le_of_eq e.symm) (Int.le_of_eq e) hh hh hk'
/-- a bounded one times a known one that isn't negative -/
theorem mul_b {a b : UInt64} {k k1 k2 : Nat} {l1 h1 j lo hi : Int} (ha : DB k1 l1 h1 a) (hb : DE k2 j b) (hj : 0 ≤ j) (hk : k1 + k2 = k + 1074) (hlo : lo ≤ l1 * j) (hhi : h1 * j ≤ hi) (hl : lo.natAbs ≤ 2 ^ 53) (hh : hi.natAbs ≤ 2 ^ 53) (hk' : k ≤ 2044) : DB k lo hi (FP.dmul a b) := by
  have p1 := pw_pos k1
  have p2 := pw_pos k2
  have hz : 0 ≤ zv b := by rw [hb.eq]; exact Int.mul_nonneg hj (Int.le_of_lt p2)
  have e : ∀ x : Int, x * j * ((2 ^ k : Nat) : Int) * ((2 ^ 1074 : Nat) : Int) = x * ((2 ^ k1 : Nat) : Int) * zv b := fun x => by
    rw [hb.eq, Int.mul_assoc (x * j), ← pw_add, ← hk, pw_add]
    simp only [Int.mul_assoc, Int.mul_left_comm]
  have up : ∀ {x y : Int}, x ≤ y → x * ((2 ^ k : Nat) : Int) * ((2 ^ 1074 : Nat) : Int) ≤ y * ((2 ^ k : Nat) : Int) * ((2 ^ 1074 : Nat) : Int) := fun h =>
    Int.mul_le_mul_of_nonneg_right (Int.mul_le_mul_of_nonneg_right h (Int.le_of_lt (pw_pos _))) (Int.le_of_lt (pw_pos _))
  refine mul_z ha.1 hb.1 ?_ ?_ hl hh hk'
  · refine Int.le_trans (up hlo) ?_
    rw [e]; exact Int.mul_le_mul_of_nonneg_right ha.2.1 hz
  · refine Int.le_trans ?_ (up hhi)
    rw [e]; exact Int.mul_le_mul_of_nonneg_right ha.2.2 hz
theorem pw3 {A B C D E : Nat} (c : Nat) (h : A + B = C + D + E) : c * 2 ^ A * 2 ^ B = c * 2 ^ C * 2 ^ D * 2 ^ E := by
  rw [Nat.mul_assoc, ← Nat.pow_add, h, Nat.pow_add, Nat.pow_add, ← Nat.mul_assoc, ← Nat.mul_assoc]
theorem ev_aux (V : Int) (n d y : Nat) : V * ((2 ^ n * d : Nat) : Int) * ((2 ^ y : Nat) : Int) = V * ((d * 2 ^ y : Nat) : Int) * ((2 ^ n : Nat) : Int) := by
  rw [Int.natCast_mul, Int.natCast_mul]
  generalize ((2 ^ n : Nat) : Int) = x
  generalize ((2 ^ y : Nat) : Int) = z
  simp only [Int.mul_assoc, Int.mul_comm, Int.mul_left_comm]
/-- the quotient, with signs -/
theorem ratio_le {s : Bool} {A B : Nat} {e e0 : Int} {V : Datum} (hB : 0 < B) (hV : FP.Core.fits b64 V) (hn : V ≠ .nan) (h0 : e0 ≤ b64.qmin) (h0e : e0 ≤ e)
    (h : signed s (inUnits A e e0) ≤ zval b64 V * ((2 ^ (b64.qmin - e0).toNat * B : Nat) : Int)) : zval b64 (roundRatio b64 s A B e) ≤ zval b64 V := by
  have hle := zmag_roundRatio_le good_b64 (s := s) (A := A) hB hV hn h0 h0e
  have hge := zmag_roundRatio_ge good_b64 (s := s) (A := A) hB hV h0 h0e
  rw [Nat.mul_assoc] at hle hge
  have hP : 0 < 2 ^ (b64.qmin - e0).toNat * B := Nat.mul_pos (Nat.two_pow_pos _) hB
  unfold zval at h ⊢
  rw [sgn_roundRatio]
  rw [← signed_mul] at h
  have hz : zmag b64 V * (2 ^ (b64.qmin - e0).toNat * B) = 0 → zmag b64 V = 0 := by
    intro h
    rcases Nat.mul_eq_zero.mp h with h | h <;> omega
  generalize zmag b64 V * (2 ^ (b64.qmin - e0).toNat * B) = vP at *
  generalize sgn V = t at *
  cases s <;> cases t <;> simp only [signed, if_true, Bool.false_eq_true, if_false] at h ⊢
  · have := hle (by omega); omega
  · have := hle (by omega); have := hz (by omega); omega
  · omega
  · have := hge (by omega); omega
theorem ratio_ge {s : Bool} {A B : Nat} {e e0 : Int} {V : Datum} (hB : 0 < B) (hV : FP.Core.fits b64 V) (hn : V ≠ .nan) (h0 : e0 ≤ b64.qmin) (h0e : e0 ≤ e)
    (h : zval b64 V * ((2 ^ (b64.qmin - e0).toNat * B : Nat) : Int) ≤ signed s (inUnits A e e0)) : zval b64 V ≤ zval b64 (roundRatio b64 s A B e) := by
  have h1 := ratio_le (s := !s) (A := A) (B := B) (e := e) (V := negate V) hB (negate_fits hV) (negate_ne_nan hn) h0 h0e (by
    rw [zval_negate, Int.neg_mul]
    have : signed (!s) (inUnits A e e0) = -signed s (inUnits A e e0) := by cases s <;> simp [signed]
    rw [this]; omega)
  rw [zval_negate, ← negate_roundRatio, zval_negate] at h1
  omega
/-- the quotient by a positive number: no NaN, and at the least, at the most, what is so when multiplied back -/
theorem div_zz {a b : UInt64} (fa : DFin a) (fb : DFin b) (hb : 0 < zv b) : val64 (FP.ddiv a b) ≠ .nan ∧
    (∀ {k : Nat} {lo : Int}, lo.natAbs ≤ 2 ^ 53 → k ≤ 2044 → lo * ((2 ^ k : Nat) : Int) * zv b ≤ zv a * ((2 ^ 1074 : Nat) : Int) → lo * ((2 ^ k : Nat) : Int) ≤ zv (FP.ddiv a b)) ∧
    (∀ {k : Nat} {hi : Int}, hi.natAbs ≤ 2 ^ 53 → k ≤ 2044 → zv a * ((2 ^ 1074 : Nat) : Int) ≤ hi * ((2 ^ k : Nat) : Int) * zv b → zv (FP.ddiv a b) ≤ hi * ((2 ^ k : Nat) : Int)) := by
  obtain ⟨s, c, q, va⟩ := fa
  obtain ⟨t, d, r, vb⟩ := fb
  have hv := val64_ddiv a b
  have fa := val64_fits a
  have fb := val64_fits b
  have zea : zv a = zval b64 (.fin s c q) := by unfold zv; rw [va]
  have zeb : zv b = zval b64 (.fin t d r) := by unfold zv; rw [vb]
  rw [zea, zeb]
  rw [zeb] at hb
  rw [va] at hv fa
  rw [vb] at hv fb
  have qn : b64.qmin = -1074 := by decide
  have qx : b64.qmax = 971 := by decide
  have fa2 := fa.2.1
  have fb2 := fb.2.1
  have fb3 := fb.2.2.1
  have zb : zval b64 (.fin t d r) = signed t (d * 2 ^ (r - b64.qmin).toNat) := rfl
  have za : zval b64 (.fin s c q) = signed s (c * 2 ^ (q - b64.qmin).toNat) := rfl
  have hd : 0 < d := by
    refine Nat.pos_of_ne_zero fun e => ?_
    rw [zb, e, Nat.zero_mul, signed_zero] at hb
    omega
  have ht : t = false := by
    cases t with
    | false => rfl
    | true => rw [zb] at hb; simp only [signed, if_true] at hb; omega
  subst ht
  have hq : quotient b64 (.fin s c q) (.fin false d r) = roundRatio b64 s c d (q - r) := by
    show (if d = 0 then _ else roundRatio b64 (s != false) c d (q - r)) = _
    rw [if_neg (by omega)]; cases s <;> rfl
  rw [hq] at hv
  have hn : val64 (Core.ddiv a b) ≠ .nan := by rw [hv]; exact roundRatio_ne_nan _ _ _ _ _
  -- both sides times 2^(r - qmin)
  have hP := pw_pos (r - b64.qmin).toNat
  have ex : signed s (inUnits c (q - r) (2 * b64.qmin)) * ((2 ^ (r - b64.qmin).toNat : Nat) : Int) = zval b64 (.fin s c q) * ((2 ^ 1074 : Nat) : Int) * ((2 ^ 1074 : Nat) : Int) := by
    rw [za, ← signed_mul, ← signed_mul, ← signed_mul]
    exact congrArg (signed s) (pw3 (A := (q - r - 2 * b64.qmin).toNat) (D := 1074) (E := 1074) c (by omega))
  have ev : ∀ V : Int, V * ((2 ^ (b64.qmin - 2 * b64.qmin).toNat * d : Nat) : Int) * ((2 ^ (r - b64.qmin).toNat : Nat) : Int) = V * zval b64 (.fin false d r) * ((2 ^ 1074 : Nat) : Int) := fun V => by
    rw [zb, show (b64.qmin - 2 * b64.qmin).toNat = 1074 by decide]
    exact ev_aux V 1074 d _
  have p1074 := pw_pos 1074
  refine ⟨hn, fun {k lo} hl hk h1 => ?_, fun {k hi} hh hk h2 => ?_⟩
  · obtain ⟨s1, c1, q1, f1, e1⟩ := rep hl hk
    unfold zv; rw [hv, ← e1]
    refine ratio_ge hd f1 (by simp) (e0 := 2 * b64.qmin) (by decide) (by omega) ?_
    refine Int.le_of_mul_le_mul_right ?_ hP
    rw [ev, ex, e1]
    exact Int.mul_le_mul_of_nonneg_right h1 (Int.le_of_lt p1074)
  · obtain ⟨s2, c2, q2, f2, e2⟩ := rep hh hk
    unfold zv; rw [hv, ← e2]
    refine ratio_le hd f2 (by simp) (e0 := 2 * b64.qmin) (by decide) (by omega) ?_
    refine Int.le_of_mul_le_mul_right ?_ hP
    rw [ev, ex, e2]
    exact Int.mul_le_mul_of_nonneg_right h2 (Int.le_of_lt p1074)
/-- between lo and hi -/
theorem div_z {a b : UInt64} {k : Nat} {lo hi : Int} (fa : DFin a) (fb : DFin b) (hb : 0 < zv b) (h1 : lo * ((2 ^ k : Nat) : Int) * zv b ≤ zv a * ((2 ^ 1074 : Nat) : Int)) (h2 : zv a * ((2 ^ 1074 : Nat) : Int) ≤ hi * ((2 ^ k : Nat) : Int) * zv b) (hl : lo.natAbs ≤ 2 ^ 53) (hh : hi.natAbs ≤ 2 ^ 53) (hk : k ≤ 2044) : DB k lo hi (FP.ddiv a b) := by
  obtain ⟨n, ge, le⟩ := div_zz fa fb hb
  exact fin_between hl hh hk n (ge hl hk h1) (le hh hk h2)
/-- the quotient of two known numbers, the second one positive -/
theorem div_b {a b : UInt64} {k k1 k2 : Nat} {i j lo hi : Int} (ha : DE k1 i a) (hb : DE k2 j b) (hj : 0 < j) (hk : k1 + 1074 = k + k2) (hlo : lo * j ≤ i) (hhi : i ≤ hi * j) (hl : lo.natAbs ≤ 2 ^ 53) (hh : hi.natAbs ≤ 2 ^ 53) (hk' : k ≤ 2044) : DB k lo hi (FP.ddiv a b) := by
  have p2 := pw_pos k2
  have e : ∀ x : Int, x * ((2 ^ k : Nat) : Int) * zv b = x * j * ((2 ^ (k1 + 1074) : Nat) : Int) := fun x => by
    rw [hb.eq, hk, pw_add]
    simp only [Int.mul_assoc, Int.mul_left_comm]
  have e2 : zv a * ((2 ^ 1074 : Nat) : Int) = i * ((2 ^ (k1 + 1074) : Nat) : Int) := by rw [ha.eq, pw_add, Int.mul_assoc]
  refine div_z ha.1 hb.1 (by rw [hb.eq]; exact Int.mul_pos hj p2) ?_ ?_ hl hh hk'
  · rw [e, e2]; exact Int.mul_le_mul_of_nonneg_right hlo (Int.le_of_lt (pw_pos _))
  · rw [e, e2]; exact Int.mul_le_mul_of_nonneg_right hhi (Int.le_of_lt (pw_pos _))
theorem div_e {a b : UInt64} {k k1 k2 : Nat} {i j n : Int} (ha : DE k1 i a) (hb : DE k2 j b) (hj : 0 < j) (hk : k1 + 1074 = k + k2) (hn : n * j = i) (hh : n.natAbs ≤ 2 ^ 53) (hk' : k ≤ 2044) : DE k n (FP.ddiv a b) :=
  div_b ha hb hj hk (Int.le_of_eq hn) (Int.le_of_eq hn.symm) hh hh hk'
theorem add_e {a b : UInt64} {k : Nat} {i j n : Int} (ha : DE k i a) (hb : DE k j b) (hn : i + j = n) (hh : n.natAbs ≤ 2 ^ 53) (hk : k ≤ 2044) : DE k n (FP.dadd a b) := add_b ha hb (Int.le_of_eq hn.symm) (Int.le_of_eq hn) hh hh hk
theorem sub_e {a b : UInt64} {k : Nat} {i j n : Int} (ha : DE k i a) (hb : DE k j b) (hn : i - j = n) (hh : n.natAbs ≤ 2 ^ 53) (hk : k ≤ 2044) : DE k n (FP.dsub a b) := sub_b ha hb (Int.le_of_eq hn.symm) (Int.le_of_eq hn) hh hh hk
theorem i2d_e (x : Int32) : DE 1074 x.toInt (FP.i2d x) := DE.of (Core.i2d_fin x) (DInt_zval (i2d_int x))
theorem l2d_e {x : Int64} (h : x.toInt.natAbs ≤ 2 ^ 53) : DE 1074 x.toInt (FP.l2d x) := DE.of (Core.l2d_fin x) (DInt_zval (l2d_int h))
theorem zero_e (k : Nat) : DE k 0 FP.dconst0 := DE.of ⟨_, _, _, rfl⟩ (by rw [Int.zero_mul]; exact zval64_zero)
/-- in smaller units -/
theorem DB.down {a : UInt64} {k : Nat} {lo hi : Int} (h : DB k lo hi a) {k' n : Nat} (hk : k = k' + n) : DB k' (lo * ((2 ^ n : Nat) : Int)) (hi * ((2 ^ n : Nat) : Int)) a := by
  subst hk
  refine ⟨h.1, ?_, ?_⟩
  · have := h.2.1; rw [Nat.add_comm, pw_add, ← Int.mul_assoc] at this; exact this
  · have := h.2.2; rw [Nat.add_comm, pw_add, ← Int.mul_assoc] at this; exact this
/-- the quotient from below alone -/
theorem div_ge {a b : UInt64} {k k1 k2 : Nat} {i j lo : Int} (ha : DE k1 i a) (hb : DE k2 j b) (hj : 0 < j) (hk : k1 + 1074 = k + k2) (hlo : lo * j ≤ i) (hl : lo.natAbs ≤ 2 ^ 53) (hk' : k ≤ 2044) : lo * ((2 ^ k : Nat) : Int) ≤ zv (FP.ddiv a b) := by
  have p2 := pw_pos k2
  have e : ∀ x : Int, x * ((2 ^ k : Nat) : Int) * zv b = x * j * ((2 ^ (k1 + 1074) : Nat) : Int) := fun x => by
    rw [hb.eq, hk, pw_add]
    simp only [Int.mul_assoc, Int.mul_left_comm]
  have e2 : zv a * ((2 ^ 1074 : Nat) : Int) = i * ((2 ^ (k1 + 1074) : Nat) : Int) := by rw [ha.eq, pw_add, Int.mul_assoc]
  refine (div_zz ha.1 hb.1 (by rw [hb.eq]; exact Int.mul_pos hj p2)).2.1 hl hk' ?_
  rw [e, e2]; exact Int.mul_le_mul_of_nonneg_right hlo (Int.le_of_lt (pw_pos _))
/-- in greater units -/
theorem DB.up {a : UInt64} {k : Nat} {lo hi : Int} {n : Nat} (h : DB k (lo * ((2 ^ n : Nat) : Int)) (hi * ((2 ^ n : Nat) : Int)) a) : DB (k + n) lo hi a := by
  refine ⟨h.1, ?_, ?_⟩
  · have := h.2.1; rw [Int.mul_assoc, ← pw_add, Nat.add_comm] at this; exact this
  · have := h.2.2; rw [Int.mul_assoc, ← pw_add, Nat.add_comm] at this; exact this
/-- the product of two known numbers, between two that lie on a grid 2^g times as coarse -/
theorem mul_g {a b : UInt64} {k k1 k2 g : Nat} {i j lo hi : Int} (ha : DE k1 i a) (hb : DE k2 j b) (hk : k1 + k2 + g = k + 1074) (hlo : lo * ((2 ^ g : Nat) : Int) ≤ i * j) (hhi : i * j ≤ hi * ((2 ^ g : Nat) : Int)) (hl : lo.natAbs ≤ 2 ^ 53) (hh : hi.natAbs ≤ 2 ^ 53) (hk' : k ≤ 2044) : DB k lo hi (FP.dmul a b) := by
  have e : zv a * zv b = i * j * ((2 ^ (k1 + k2) : Nat) : Int) := by
    rw [ha.eq, hb.eq, pw_add]
    simp only [Int.mul_assoc, Int.mul_left_comm]
  have e2 : ∀ x : Int, x * ((2 ^ k : Nat) : Int) * ((2 ^ 1074 : Nat) : Int) = x * ((2 ^ g : Nat) : Int) * ((2 ^ (k1 + k2) : Nat) : Int) := fun x => by
    rw [Int.mul_assoc, ← pw_add, ← hk, Nat.add_comm, pw_add, ← Int.mul_assoc]
  refine mul_z ha.1 hb.1 ?_ ?_ hl hh hk'
  · rw [e, e2]; exact Int.mul_le_mul_of_nonneg_right hlo (Int.le_of_lt (pw_pos _))
  · rw [e, e2]; exact Int.mul_le_mul_of_nonneg_right hhi (Int.le_of_lt (pw_pos _))
theorem DB.wide {a : UInt64} {k : Nat} {lo hi lo' hi' : Int} (h : DB k lo hi a) (h1 : lo' ≤ lo) (h2 : hi ≤ hi') : DB k lo' hi' a :=
  ⟨h.1, Int.le_trans (Int.mul_le_mul_of_nonneg_right h1 (Int.le_of_lt (pw_pos k))) h.2.1, Int.le_trans h.2.2 (Int.mul_le_mul_of_nonneg_right h2 (Int.le_of_lt (pw_pos k)))⟩
theorem DE.cmp {a b : UInt64} {k : Nat} {i j : Int} (ha : DE k i a) (hb : DE k j b) : FP.dcmp a b = some (compare i j) := by
  rw [show FP.dcmp a b = some (compare (zv a) (zv b)) from dcmp_zval ha.ne hb.ne, ha.eq, hb.eq, compare_mul_pos _ _ _ (pw_pos k)]
theorem DB.lt {a b : UInt64} {k : Nat} {l1 h1 l2 h2 : Int} (ha : DB k l1 h1 a) (hb : DB k l2 h2 b) (h : h1 < l2) : FP.dcmp a b = some .lt := by
  rw [show FP.dcmp a b = some (compare (zv a) (zv b)) from dcmp_zval ha.ne hb.ne]
  congr 1
  rw [compare_lt_iff]
  have := Int.mul_lt_mul_of_pos_right h (pw_pos k)
  have := ha.2.2; have := hb.2.1
  omega
theorem DB.gt {a b : UInt64} {k : Nat} {l1 h1 l2 h2 : Int} (ha : DB k l1 h1 a) (hb : DB k l2 h2 b) (h : h2 < l1) : FP.dcmp a b = some .gt := by
  rw [show FP.dcmp a b = some (compare (zv a) (zv b)) from dcmp_zval ha.ne hb.ne]
  congr 1
  rw [compare_gt_iff]
  have := Int.mul_lt_mul_of_pos_right h (pw_pos k)
  have := ha.2.1; have := hb.2.2
  omega
/-- two doubles of one value that isn't nought are one -/
theorem DE.uniq {a b : UInt64} {k : Nat} {i : Int} (ha : DE k i a) (hb : DE k i b) (hi : i ≠ 0) : a = b := by
  have h1 := dcmp_key ha.ne hb.ne
  rw [dcmp_zval ha.ne hb.ne] at h1
  have e : zval b64 (val64 a) = zval b64 (val64 b) := (ha.eq).trans hb.eq.symm
  have h2 := Option.some.inj h1
  rw [(compare_eq_iff _ _).mpr e] at h2
  have h3 := (compare_eq_iff _ _).mp h2.symm
  have nz : ∀ {c : UInt64}, DE k i c → dkey c ≠ 0 := fun {c} hc h0 => by
    have q := dcmp_key hc.ne (b := 0) (by rw [val64_zero]; simp)
    rw [dcmp_zval hc.ne (by rw [val64_zero]; simp), zval64_zero] at q
    have q2 := Option.some.inj q
    have z : dkey 0 = 0 := by decide
    rw [h0, z, (compare_eq_iff (0 : Int) 0).mpr rfl] at q2
    have q3 := (compare_eq_iff _ _).mp q2
    have q4 : zv c = 0 := q3
    rw [hc.eq] at q4
    rcases Int.mul_eq_zero.mp q4 with q5 | q5
    · exact hi q5
    · have := pw_pos k; omega
  have n1 := nz ha
  have n2 := nz hb
  unfold dkey at h3 n1 n2
  apply UInt64.toNat_inj.mp
  have l1 := a.toNat_lt; have l2 := b.toNat_lt
  split at h3 <;> split at h3 <;> simp_all <;> omega
end Jvm.Pilot.@@N@@.Own
namespace Jvm.Pilot.@@N@@.Own
open Jvm Jvm.ClassFile Sem Op Lib Jvm.Free Jvm.Stand Jvm.LawKit Jvm.RoadKit
theorem iadd_v {tb : Tables} [Ours tb] {e : Env} {below : List Frame} {T target : State} {m : MethodId} {c : Code} {g : JFrame} (h : At T m c below) (hx : tb.exec = Jvm.exec) (hg : g.method = m) {x : Int32} {y : Int32} {v : Int32} {rest : List Value} (hd : decode c.code g.pc = .ok (.iadd, 1)) (hs : g.stack = .int y :: .int x :: rest) (hv : x + y = v)
    (hr : Steps tb e below (T.setTop { g with pc := g.pc + 1, stack := .int v :: rest }) target) : Steps tb e below (T.setTop g) target := by subst hv; exact XS.iadd h hx hg hd hs hr
theorem isub_v {tb : Tables} [Ours tb] {e : Env} {below : List Frame} {T target : State} {m : MethodId} {c : Code} {g : JFrame} (h : At T m c below) (hx : tb.exec = Jvm.exec) (hg : g.method = m) {x : Int32} {y : Int32} {v : Int32} {rest : List Value} (hd : decode c.code g.pc = .ok (.isub, 1)) (hs : g.stack = .int y :: .int x :: rest) (hv : x - y = v)
    (hr : Steps tb e below (T.setTop { g with pc := g.pc + 1, stack := .int v :: rest }) target) : Steps tb e below (T.setTop g) target := by subst hv; exact XS.isub h hx hg hd hs hr
theorem iand_v {tb : Tables} [Ours tb] {e : Env} {below : List Frame} {T target : State} {m : MethodId} {c : Code} {g : JFrame} (h : At T m c below) (hx : tb.exec = Jvm.exec) (hg : g.method = m) {x : Int32} {y : Int32} {v : Int32} {rest : List Value} (hd : decode c.code g.pc = .ok (.iand, 1)) (hs : g.stack = .int y :: .int x :: rest) (hv : x &&& y = v)
    (hr : Steps tb e below (T.setTop { g with pc := g.pc + 1, stack := .int v :: rest }) target) : Steps tb e below (T.setTop g) target := by subst hv; exact XS.iand h hx hg hd hs hr
theorem irem_v {tb : Tables} [Ours tb] {e : Env} {below : List Frame} {T target : State} {m : MethodId} {c : Code} {g : JFrame} (h : At T m c below) (hx : tb.exec = Jvm.exec) (hg : g.method = m) {x : Int32} {y : Int32} {v : Int32} {rest : List Value} (hd : decode c.code g.pc = .ok (.irem, 1)) (hs : g.stack = .int y :: .int x :: rest) (hy : ¬ y = 0) (hv : x % y = v)
    (hr : Steps tb e below (T.setTop { g with pc := g.pc + 1, stack := .int v :: rest }) target) : Steps tb e below (T.setTop g) target := by subst hv; exact XS.irem h hx hg hd hs hy (by rw [irem_eq_mod]; exact hr)
theorem ishr_v {tb : Tables} [Ours tb] {e : Env} {below : List Frame} {T target : State} {m : MethodId} {c : Code} {g : JFrame} (h : At T m c below) (hx : tb.exec = Jvm.exec) (hg : g.method = m) {x : Int32} {y : Int32} {v : Int32} {rest : List Value} (hd : decode c.code g.pc = .ok (.ishr, 1)) (hs : g.stack = .int y :: .int x :: rest) (hv : (x >>> (y &&& 31)) = v)
    (hr : Steps tb e below (T.setTop { g with pc := g.pc + 1, stack := .int v :: rest }) target) : Steps tb e below (T.setTop g) target := by subst hv; exact XS.ishr h hx hg hd hs hr
end Jvm.Pilot.@@N@@.Own
namespace Jvm.Pilot.@@N@@.Own
open Jvm Jvm.ClassFile Jvm.RoadKit
theorem Sta_keep0 {Z : State} {h h' : Heap} {C n d : String} {v : Value} (F : Sta Z h C n d v) (K : Keep h h' []) : Sta Z h' C n d v := by
  obtain ⟨cf, i, k, f, st, cell, h1, h2, h3, h4, h5, r⟩ := F
  exact ⟨cf, i, k, f, st, cell, h1, h2, h3, h4, K.2.1 st cell h5 (by simp), r⟩
end Jvm.Pilot.@@N@@.Own
namespace Jvm.Pilot.@@N@@
open Jvm Jvm.ClassFile Sem Op Lib Jvm.Free Jvm.Stand Jvm.LawKit Jvm.RoadKit Bundle Jvm.Pilot.@@N@@.Jvm.D Jvm.Pilot.@@N@@.Own
theorem pd_0 : parseMethodDescriptor "()V" = some ⟨[], none⟩ := by decide +kernel
theorem pd_1 : parseMethodDescriptor "(DD)Z" = some ⟨[.double, .double], some .boolean⟩ := by decide +kernel
theorem pd_2 : parseMethodDescriptor "(DDDDDLcom/example/gleitfahrt/gleitfahrt/engine/Regime;DD)V" = some ⟨[.double, .double, .double, .double, .double, (.object "com/example/gleitfahrt/gleitfahrt/engine/Regime"), .double, .double], none⟩ := by decide +kernel
theorem d1_0 : decode prog_5_method_1_code 0 = .ok (.aload_n 0, 1) := by decide +kernel
theorem d1_1 : decode prog_5_method_1_code 1 = .ok (.invokespecial 1, 3) := by decide +kernel
theorem d1_4 : decode prog_5_method_1_code 4 = .ok (.aload_n 0, 1) := by decide +kernel
theorem d1_5 : decode prog_5_method_1_code 5 = .ok (.bipush 64, 2) := by decide +kernel
theorem d1_7 : decode prog_5_method_1_code 7 = .ok (.newarray .double, 2) := by decide +kernel
theorem d1_9 : decode prog_5_method_1_code 9 = .ok (.putfield 7, 3) := by decide +kernel
theorem d1_12 : decode prog_5_method_1_code 12 = .ok (.aload_n 0, 1) := by decide +kernel
theorem d1_13 : decode prog_5_method_1_code 13 = .ok (.bipush 64, 2) := by decide +kernel
theorem d1_15 : decode prog_5_method_1_code 15 = .ok (.newarray .double, 2) := by decide +kernel
theorem d1_17 : decode prog_5_method_1_code 17 = .ok (.putfield 13, 3) := by decide +kernel
theorem d1_20 : decode prog_5_method_1_code 20 = .ok (.aload_n 0, 1) := by decide +kernel
theorem d1_21 : decode prog_5_method_1_code 21 = .ok (.bipush 64, 2) := by decide +kernel
theorem d1_23 : decode prog_5_method_1_code 23 = .ok (.newarray .double, 2) := by decide +kernel
theorem d1_25 : decode prog_5_method_1_code 25 = .ok (.putfield 16, 3) := by decide +kernel
theorem d1_28 : decode prog_5_method_1_code 28 = .ok (.aload_n 0, 1) := by decide +kernel
theorem d1_29 : decode prog_5_method_1_code 29 = .ok (.bipush 64, 2) := by decide +kernel
theorem d1_31 : decode prog_5_method_1_code 31 = .ok (.newarray .double, 2) := by decide +kernel
theorem d1_33 : decode prog_5_method_1_code 33 = .ok (.putfield 19, 3) := by decide +kernel
theorem d1_36 : decode prog_5_method_1_code 36 = .ok (.aload_n 0, 1) := by decide +kernel
theorem d1_37 : decode prog_5_method_1_code 37 = .ok (.bipush 64, 2) := by decide +kernel
theorem d1_39 : decode prog_5_method_1_code 39 = .ok (.newarray .double, 2) := by decide +kernel
theorem d1_41 : decode prog_5_method_1_code 41 = .ok (.putfield 22, 3) := by decide +kernel
theorem d1_44 : decode prog_5_method_1_code 44 = .ok (.aload_n 0, 1) := by decide +kernel
theorem d1_45 : decode prog_5_method_1_code 45 = .ok (.bipush 64, 2) := by decide +kernel
theorem d1_47 : decode prog_5_method_1_code 47 = .ok (.anewarray 25, 3) := by decide +kernel
theorem d1_50 : decode prog_5_method_1_code 50 = .ok (.putfield 27, 3) := by decide +kernel
theorem d1_53 : decode prog_5_method_1_code 53 = .ok (.aload_n 0, 1) := by decide +kernel
theorem d1_54 : decode prog_5_method_1_code 54 = .ok (.bipush 64, 2) := by decide +kernel
theorem d1_56 : decode prog_5_method_1_code 56 = .ok (.newarray .double, 2) := by decide +kernel
theorem d1_58 : decode prog_5_method_1_code 58 = .ok (.putfield 31, 3) := by decide +kernel
theorem d1_61 : decode prog_5_method_1_code 61 = .ok (.aload_n 0, 1) := by decide +kernel
theorem d1_62 : decode prog_5_method_1_code 62 = .ok (.bipush 64, 2) := by decide +kernel
theorem d1_64 : decode prog_5_method_1_code 64 = .ok (.newarray .double, 2) := by decide +kernel
theorem d1_66 : decode prog_5_method_1_code 66 = .ok (.putfield 34, 3) := by decide +kernel
theorem d1_69 : decode prog_5_method_1_code 69 = .ok (.return_, 1) := by decide +kernel
theorem pn_1 : plainName "com/example/gleitfahrt/gleitfahrt/engine/Course$Builder" = true := by first | (simp [plainName, overriddenIn]; done) | decide +kernel
theorem ef_1 (m : MethodId) (x0 : Addr) : entryFrame m #[(.ref x0)] 1 = mkF m 0 #[.val (.ref x0)] [] := by first | (simp [entryFrame, mkF, argsToLocals, Value.category]; done) | rfl
def Q1 (Z : State) (a : Addr) (h0 : Heap) (n0 : Nat) (v : Option Value) (h : Heap) (L : List Loc) : Prop := v = none ∧ Fr n0 L ∧ Keep h0 h [a] ∧ Exa Z h a "com/example/gleitfahrt/gleitfahrt/engine/Course$Builder" ∧ ∃ (x0 x1 x2 x3 x4 x5 x6 x7 : Addr) (k0 k1 k2 k3 k4 k5 k6 k7 : ClassId), (a < x0 ∧ x0 < x1 ∧ x1 < x2 ∧ x2 < x3 ∧ x3 < x4 ∧ x4 < x5 ∧ x5 < x6 ∧ x6 < x7) ∧ Ovr Z k5 "com/example/gleitfahrt/gleitfahrt/engine/Regime" ∧ Fld Z h a "com/example/gleitfahrt/gleitfahrt/engine/Course$Builder" "positions" "[D" (.ref x0) ∧ Fld Z h a "com/example/gleitfahrt/gleitfahrt/engine/Course$Builder" "times" "[D" (.ref x1) ∧ Fld Z h a "com/example/gleitfahrt/gleitfahrt/engine/Course$Builder" "speeds" "[D" (.ref x2) ∧ Fld Z h a "com/example/gleitfahrt/gleitfahrt/engine/Course$Builder" "drawn" "[D" (.ref x3) ∧ Fld Z h a "com/example/gleitfahrt/gleitfahrt/engine/Course$Builder" "recovered" "[D" (.ref x4) ∧ Fld Z h a "com/example/gleitfahrt/gleitfahrt/engine/Course$Builder" "regimes" "[Lcom/example/gleitfahrt/gleitfahrt/engine/Regime;" (.ref x5) ∧ Fld Z h a "com/example/gleitfahrt/gleitfahrt/engine/Course$Builder" "targets" "[D" (.ref x6) ∧ Fld Z h a "com/example/gleitfahrt/gleitfahrt/engine/Course$Builder" "peaks" "[D" (.ref x7) ∧ Fld Z h a "com/example/gleitfahrt/gleitfahrt/engine/Course$Builder" "size" "I" (.int (0 : Int32)) ∧ Arv Z h x0 k0 .double (64 : Int32) [(.double (0 : UInt64)), (.double (0 : UInt64))] (.double (0 : UInt64)) ∧ Arv Z h x1 k1 .double (64 : Int32) [(.double (0 : UInt64)), (.double (0 : UInt64))] (.double (0 : UInt64)) ∧ Arv Z h x2 k2 .double (64 : Int32) [(.double (0 : UInt64)), (.double (0 : UInt64))] (.double (0 : UInt64)) ∧ Arv Z h x3 k3 .double (64 : Int32) [(.double (0 : UInt64)), (.double (0 : UInt64))] (.double (0 : UInt64)) ∧ Arv Z h x4 k4 .double (64 : Int32) [(.double (0 : UInt64)), (.double (0 : UInt64))] (.double (0 : UInt64)) ∧ Arv Z h x5 k5 (.object "com/example/gleitfahrt/gleitfahrt/engine/Regime") (64 : Int32) [.null, .null] .null ∧ Arv Z h x6 k6 .double (64 : Int32) [(.double (0 : UInt64)), (.double (0 : UInt64))] (.double (0 : UInt64)) ∧ Arv Z h x7 k7 .double (64 : Int32) [(.double (0 : UInt64)), (.double (0 : UInt64))] (.double (0 : UInt64))
set_option maxRecDepth 65536 in
set_option maxHeartbeats 40000000 in
theorem rm1 (l : Launch) (Z : State) (a0 : Array Value) (hw : ∀ d ∈ tables_1, d.before a0 Z = true) (ws : List Jvm.Cond) (a : Addr) (h0 : Heap) (n0 : Nat) (Z0 : n0 ≤ h0.size) (E_a : Exa Z h0 a "com/example/gleitfahrt/gleitfahrt/engine/Course$Builder") (F0 : Fld Z h0 a "com/example/gleitfahrt/gleitfahrt/engine/Course$Builder" "positions" "[D" .null) (F1 : Fld Z h0 a "com/example/gleitfahrt/gleitfahrt/engine/Course$Builder" "times" "[D" .null) (F2 : Fld Z h0 a "com/example/gleitfahrt/gleitfahrt/engine/Course$Builder" "speeds" "[D" .null) (F3 : Fld Z h0 a "com/example/gleitfahrt/gleitfahrt/engine/Course$Builder" "drawn" "[D" .null) (F4 : Fld Z h0 a "com/example/gleitfahrt/gleitfahrt/engine/Course$Builder" "recovered" "[D" .null) (F5 : Fld Z h0 a "com/example/gleitfahrt/gleitfahrt/engine/Course$Builder" "regimes" "[Lcom/example/gleitfahrt/gleitfahrt/engine/Regime;" .null) (F6 : Fld Z h0 a "com/example/gleitfahrt/gleitfahrt/engine/Course$Builder" "targets" "[D" .null) (F7 : Fld Z h0 a "com/example/gleitfahrt/gleitfahrt/engine/Course$Builder" "peaks" "[D" .null) (F8 : Fld Z h0 a "com/example/gleitfahrt/gleitfahrt/engine/Course$Builder" "size" "I" (.int (0 : Int32))) (g_a : n0 ≤ a) :
    MetFree l (⟨"com/example/gleitfahrt/gleitfahrt/engine/Course$Builder", "<init>", "()V"⟩ : MethodName) (head1 (Jvm.Cond.code (⟨"com/example/gleitfahrt/gleitfahrt/engine/Course$Builder", "<init>", "()V"⟩ : MethodName) prog_5_method_1_code 1 none :: ws) ({ frames := 1, cells := 8, slots := 512, locals := 12 } : Room)) (fun a_ U => a_ = #[(.ref a)] ∧ Z.Warmed39 U.vm ∧ U.heap = h0) (fun _ _ _ _ _ => True) (fun _ U o U' => ∃ v L, o = .returned v ∧ Q1 Z a h0 n0 v U'.heap L ∧ FrameEnd U o U' L (({ frames := 1, cells := 8, slots := 512, locals := 12 } : Room)).cells (({ frames := 1, cells := 8, slots := 512, locals := 12 } : Room)).slots) := by
  refine MetFree.of_bodySF (plainFor_of_name pn_1) hisR ?_
  intro p e s m args below meth c s₁ Bd hml0 hP0 hK
  obtain ⟨rfl, hZ, hh⟩ := hP0
  have hx := Bd.exec
  have hby := Bd.bytes
  have hml : c.maxLocals = 1 := hml0
  have hown : s.vm.findClass "com/example/gleitfahrt/gleitfahrt/engine/Course$Builder" = some m.cls := findClass_of_methodNamed Bd.named
  have hnm := (name_of_methodNamed Bd.named Bd.method).1
  have X0 : Stand p l e ({ frames := 1, cells := 8, slots := 512, locals := 12 } : Room) s m #[(.ref a)] below meth c s₁ [] 0 0 := Stand.of_body Bd
  have e0 : s₁.heap = h0 := by rw [← hh, Bd.state]; rfl
  have N0 := Fr.nil n0
  have hlk : meth.locks = false := BodyLoose.notSynchronized Bd
  refine Go.start (P₀ := fun s₂ o => ∃ v L, o = .returned v ∧ Q1 Z a h0 n0 v s₂.heap L ∧ FrameEnd s o s₂ L (({ frames := 1, cells := 8, slots := 512, locals := 12 } : Room)).cells (({ frames := 1, cells := 8, slots := 512, locals := 12 } : Room)).slots) (congrArg s₁.setTop (ef_1 m a)) ?_
  intro P hP
  show Go p.tables e below P (s₁.setTop (mkF m 0 #[.val (.ref a)] []))
  refine Go.step (fun t k => XS.aloadN X0.here hx rfl (hb hby d1_0) rfl rfl k) ?_
  show Go p.tables e below P (s₁.setTop (mkF m 1 #[.val (.ref a)] [(.ref a)]))
  obtain ⟨T_1, X_1, e_1, st_1⟩ := initO X0 hx hZ hown (hw _ (List.mem_of_getElem? (i := 7) rfl)) (hw _ (List.mem_of_getElem? (i := 8) rfl)) (hw _ (List.mem_of_getElem? (i := 9) rfl)) e0 (g := (mkF m 1 #[.val (.ref a)] [(.ref a)])) rfl (by rw [hml]; rfl) rfl (hb hby d1_1) (by decide) (W := 0) (by show 2 * 0 + _ ≤ _; exact Nat.le_of_eq rfl) (by decide)
  refine Go.step (fun t k => st_1 t k) ?_
  show Go p.tables e below P (T_1.setTop (mkF m 4 #[.val (.ref a)] []))
  refine Go.step (fun t k => XS.aloadN X_1.here hx rfl (hb hby d1_4) rfl rfl k) ?_
  show Go p.tables e below P (T_1.setTop (mkF m 5 #[.val (.ref a)] [(.ref a)]))
  refine Go.step (fun t k => XS.bipush X_1.here hx rfl (hb hby d1_5) k) ?_
  show Go p.tables e below P (T_1.setTop (mkF m 7 #[.val (.ref a)] [(.int (64 : Int32)), (.ref a)]))
  obtain ⟨T_2, h_2, k_2, X_2, e_2, E_2, A_2, st_2⟩ := newP X_1 hx hZ (hw _ (List.mem_of_getElem? (i := 10) rfl)) e_1 (g := (mkF m 7 #[.val (.ref a)] [(.int (64 : Int32)), (.ref a)])) rfl (hb hby d1_7) rfl (by decide) (cap := 64) (by decide) (by decide) (by decide) (by decide)
  obtain ⟨y0, g_2⟩ : ∃ z, z = h0.size := ⟨_, rfl⟩
  rw [← g_2] at A_2 st_2
  have g_y0 : n0 ≤ y0 := Nat.le_trans Z0 (Nat.le_of_eq g_2.symm)
  have sz_y0 : h0.size ≤ y0 := Nat.le_trans (Keep.refl h0 [a]).1 (Nat.le_of_eq g_2.symm)
  have lt_a_y0 : a < y0 := Nat.lt_of_lt_of_le E_a.lt (Nat.le_of_eq g_2.symm)
  have ne_a_y0 : a ≠ y0 := Nat.ne_of_lt lt_a_y0
  have V_2 : Arv Z h_2 y0 k_2 .double (64 : Int32) [(.double (0 : UInt64)), (.double (0 : UInt64))] (.double (0 : UInt64)) := (Arv.new A_2 (by decide)).pad (pad_rep [] (.double (0 : UInt64)) 2)
  have K_2 : Keep h0 h_2 [a] := (Keep.refl h0 [a]).ext E_2
  have Z_2 : n0 ≤ h_2.size := Nat.le_trans Z0 E_2.1
  refine Go.step (fun t k => st_2 t k) ?_
  show Go p.tables e below P (T_2.setTop (mkF m 9 #[.val (.ref a)] [(.ref y0), (.ref a)]))
  obtain ⟨T_3, h_3, X_3, e_3, W_3, st_3⟩ := putF X_2 hx hZ hown (host := "") (Or.inl (hw _ (List.mem_of_getElem? (i := 11) rfl))) Via.refl e_2 (F0.ext E_2) (E_a.ext E_2) (Or.inl (hw _ (List.mem_of_getElem? (i := 12) rfl))) (hw _ (List.mem_of_getElem? (i := 2) rfl)) (ty := (.array .double)) (by decide) rfl rfl (g := (mkF m 9 #[.val (.ref a)] [(.ref y0), (.ref a)])) rfl rfl (hb hby d1_9)
  have Fw_3 := (F0.ext E_2).same W_3
  have N_3 := Fr.snoc X_3 N0 g_a
  have K_3 : Keep h0 h_3 [a] := K_2.wr W_3 (Or.inl (List.mem_of_getElem? (i := 0) rfl))
  have Z_3 : n0 ≤ h_3.size := Nat.le_trans Z_2 (Keep.of_wr W_3).1
  refine Go.step (fun t k => st_3 t k) ?_
  show Go p.tables e below P (T_3.setTop (mkF m 12 #[.val (.ref a)] []))
  refine Go.step (fun t k => XS.aloadN X_3.here hx rfl (hb hby d1_12) rfl rfl k) ?_
  show Go p.tables e below P (T_3.setTop (mkF m 13 #[.val (.ref a)] [(.ref a)]))
  refine Go.step (fun t k => XS.bipush X_3.here hx rfl (hb hby d1_13) k) ?_
  show Go p.tables e below P (T_3.setTop (mkF m 15 #[.val (.ref a)] [(.int (64 : Int32)), (.ref a)]))
  obtain ⟨T_4, h_4, k_4, X_4, e_4, E_4, A_4, st_4⟩ := newP X_3 hx hZ (hw _ (List.mem_of_getElem? (i := 10) rfl)) e_3 (g := (mkF m 15 #[.val (.ref a)] [(.int (64 : Int32)), (.ref a)])) rfl (hb hby d1_15) rfl (by decide) (cap := 64) (by decide) (by decide) (by decide) (by decide)
  obtain ⟨y1, g_4⟩ : ∃ z, z = h_3.size := ⟨_, rfl⟩
  rw [← g_4] at A_4 st_4
  have g_y1 : n0 ≤ y1 := Nat.le_trans Z_3 (Nat.le_of_eq g_4.symm)
  have sz_y1 : h0.size ≤ y1 := Nat.le_trans K_3.1 (Nat.le_of_eq g_4.symm)
  have lt_a_y1 : a < y1 := Nat.lt_of_lt_of_le ((E_a.ext E_2).wr W_3).lt (Nat.le_of_eq g_4.symm)
  have ne_a_y1 : a ≠ y1 := Nat.ne_of_lt lt_a_y1
  have lt_y0_y1 : y0 < y1 := Nat.lt_of_lt_of_le (V_2.other W_3 (Ne.symm ne_a_y0)).lt (Nat.le_of_eq g_4.symm)
  have ne_y0_y1 : y0 ≠ y1 := Nat.ne_of_lt lt_y0_y1
  have V_4 : Arv Z h_4 y1 k_4 .double (64 : Int32) [(.double (0 : UInt64)), (.double (0 : UInt64))] (.double (0 : UInt64)) := (Arv.new A_4 (by decide)).pad (pad_rep [] (.double (0 : UInt64)) 2)
  have K_4 : Keep h0 h_4 [a] := K_3.ext E_4
  have Z_4 : n0 ≤ h_4.size := Nat.le_trans Z_3 E_4.1
  refine Go.step (fun t k => st_4 t k) ?_
  show Go p.tables e below P (T_4.setTop (mkF m 17 #[.val (.ref a)] [(.ref y1), (.ref a)]))
  obtain ⟨T_5, h_5, X_5, e_5, W_5, st_5⟩ := putF X_4 hx hZ hown (host := "") (Or.inl (hw _ (List.mem_of_getElem? (i := 13) rfl))) Via.refl e_4 (((F1.ext E_2).other W_3 (Or.inr (slot_ne (Or.inl (hw _ (List.mem_of_getElem? (i := 14) rfl))) (Or.inl (hw _ (List.mem_of_getElem? (i := 12) rfl))) (by decide) (t := (.array .double)) (t' := (.array .double)) (by decide) (by decide)))).ext E_4) (((E_a.ext E_2).wr W_3).ext E_4) (Or.inl (hw _ (List.mem_of_getElem? (i := 14) rfl))) (hw _ (List.mem_of_getElem? (i := 2) rfl)) (ty := (.array .double)) (by decide) rfl rfl (g := (mkF m 17 #[.val (.ref a)] [(.ref y1), (.ref a)])) rfl rfl (hb hby d1_17)
  have Fw_5 := (((F1.ext E_2).other W_3 (Or.inr (slot_ne (Or.inl (hw _ (List.mem_of_getElem? (i := 14) rfl))) (Or.inl (hw _ (List.mem_of_getElem? (i := 12) rfl))) (by decide) (t := (.array .double)) (t' := (.array .double)) (by decide) (by decide)))).ext E_4).same W_5
  have N_5 := Fr.snoc X_5 N_3 g_a
  have K_5 : Keep h0 h_5 [a] := K_4.wr W_5 (Or.inl (List.mem_of_getElem? (i := 0) rfl))
  have Z_5 : n0 ≤ h_5.size := Nat.le_trans Z_4 (Keep.of_wr W_5).1
  refine Go.step (fun t k => st_5 t k) ?_
  show Go p.tables e below P (T_5.setTop (mkF m 20 #[.val (.ref a)] []))
  refine Go.step (fun t k => XS.aloadN X_5.here hx rfl (hb hby d1_20) rfl rfl k) ?_
  show Go p.tables e below P (T_5.setTop (mkF m 21 #[.val (.ref a)] [(.ref a)]))
  refine Go.step (fun t k => XS.bipush X_5.here hx rfl (hb hby d1_21) k) ?_
  show Go p.tables e below P (T_5.setTop (mkF m 23 #[.val (.ref a)] [(.int (64 : Int32)), (.ref a)]))
  obtain ⟨T_6, h_6, k_6, X_6, e_6, E_6, A_6, st_6⟩ := newP X_5 hx hZ (hw _ (List.mem_of_getElem? (i := 10) rfl)) e_5 (g := (mkF m 23 #[.val (.ref a)] [(.int (64 : Int32)), (.ref a)])) rfl (hb hby d1_23) rfl (by decide) (cap := 64) (by decide) (by decide) (by decide) (by decide)
  obtain ⟨y2, g_6⟩ : ∃ z, z = h_5.size := ⟨_, rfl⟩
  rw [← g_6] at A_6 st_6
  have g_y2 : n0 ≤ y2 := Nat.le_trans Z_5 (Nat.le_of_eq g_6.symm)
  have sz_y2 : h0.size ≤ y2 := Nat.le_trans K_5.1 (Nat.le_of_eq g_6.symm)
  have lt_a_y2 : a < y2 := Nat.lt_of_lt_of_le ((((E_a.ext E_2).wr W_3).ext E_4).wr W_5).lt (Nat.le_of_eq g_6.symm)
  have ne_a_y2 : a ≠ y2 := Nat.ne_of_lt lt_a_y2
  have lt_y0_y2 : y0 < y2 := Nat.lt_of_lt_of_le (((V_2.other W_3 (Ne.symm ne_a_y0)).ext E_4).other W_5 (Ne.symm ne_a_y0)).lt (Nat.le_of_eq g_6.symm)
  have ne_y0_y2 : y0 ≠ y2 := Nat.ne_of_lt lt_y0_y2
  have lt_y1_y2 : y1 < y2 := Nat.lt_of_lt_of_le (V_4.other W_5 (Ne.symm ne_a_y1)).lt (Nat.le_of_eq g_6.symm)
  have ne_y1_y2 : y1 ≠ y2 := Nat.ne_of_lt lt_y1_y2
  have V_6 : Arv Z h_6 y2 k_6 .double (64 : Int32) [(.double (0 : UInt64)), (.double (0 : UInt64))] (.double (0 : UInt64)) := (Arv.new A_6 (by decide)).pad (pad_rep [] (.double (0 : UInt64)) 2)
  have K_6 : Keep h0 h_6 [a] := K_5.ext E_6
  have Z_6 : n0 ≤ h_6.size := Nat.le_trans Z_5 E_6.1
  refine Go.step (fun t k => st_6 t k) ?_
  show Go p.tables e below P (T_6.setTop (mkF m 25 #[.val (.ref a)] [(.ref y2), (.ref a)]))
  obtain ⟨T_7, h_7, X_7, e_7, W_7, st_7⟩ := putF X_6 hx hZ hown (host := "") (Or.inl (hw _ (List.mem_of_getElem? (i := 15) rfl))) Via.refl e_6 (((((F2.ext E_2).other W_3 (Or.inr (slot_ne (Or.inl (hw _ (List.mem_of_getElem? (i := 16) rfl))) (Or.inl (hw _ (List.mem_of_getElem? (i := 12) rfl))) (by decide) (t := (.array .double)) (t' := (.array .double)) (by decide) (by decide)))).ext E_4).other W_5 (Or.inr (slot_ne (Or.inl (hw _ (List.mem_of_getElem? (i := 16) rfl))) (Or.inl (hw _ (List.mem_of_getElem? (i := 14) rfl))) (by decide) (t := (.array .double)) (t' := (.array .double)) (by decide) (by decide)))).ext E_6) (((((E_a.ext E_2).wr W_3).ext E_4).wr W_5).ext E_6) (Or.inl (hw _ (List.mem_of_getElem? (i := 16) rfl))) (hw _ (List.mem_of_getElem? (i := 2) rfl)) (ty := (.array .double)) (by decide) rfl rfl (g := (mkF m 25 #[.val (.ref a)] [(.ref y2), (.ref a)])) rfl rfl (hb hby d1_25)
  have Fw_7 := (((((F2.ext E_2).other W_3 (Or.inr (slot_ne (Or.inl (hw _ (List.mem_of_getElem? (i := 16) rfl))) (Or.inl (hw _ (List.mem_of_getElem? (i := 12) rfl))) (by decide) (t := (.array .double)) (t' := (.array .double)) (by decide) (by decide)))).ext E_4).other W_5 (Or.inr (slot_ne (Or.inl (hw _ (List.mem_of_getElem? (i := 16) rfl))) (Or.inl (hw _ (List.mem_of_getElem? (i := 14) rfl))) (by decide) (t := (.array .double)) (t' := (.array .double)) (by decide) (by decide)))).ext E_6).same W_7
  have N_7 := Fr.snoc X_7 N_5 g_a
  have K_7 : Keep h0 h_7 [a] := K_6.wr W_7 (Or.inl (List.mem_of_getElem? (i := 0) rfl))
  have Z_7 : n0 ≤ h_7.size := Nat.le_trans Z_6 (Keep.of_wr W_7).1
  refine Go.step (fun t k => st_7 t k) ?_
  show Go p.tables e below P (T_7.setTop (mkF m 28 #[.val (.ref a)] []))
  refine Go.step (fun t k => XS.aloadN X_7.here hx rfl (hb hby d1_28) rfl rfl k) ?_
  show Go p.tables e below P (T_7.setTop (mkF m 29 #[.val (.ref a)] [(.ref a)]))
  refine Go.step (fun t k => XS.bipush X_7.here hx rfl (hb hby d1_29) k) ?_
  show Go p.tables e below P (T_7.setTop (mkF m 31 #[.val (.ref a)] [(.int (64 : Int32)), (.ref a)]))
  obtain ⟨T_8, h_8, k_8, X_8, e_8, E_8, A_8, st_8⟩ := newP X_7 hx hZ (hw _ (List.mem_of_getElem? (i := 10) rfl)) e_7 (g := (mkF m 31 #[.val (.ref a)] [(.int (64 : Int32)), (.ref a)])) rfl (hb hby d1_31) rfl (by decide) (cap := 64) (by decide) (by decide) (by decide) (by decide)
  obtain ⟨y3, g_8⟩ : ∃ z, z = h_7.size := ⟨_, rfl⟩
  rw [← g_8] at A_8 st_8
  have g_y3 : n0 ≤ y3 := Nat.le_trans Z_7 (Nat.le_of_eq g_8.symm)
  have sz_y3 : h0.size ≤ y3 := Nat.le_trans K_7.1 (Nat.le_of_eq g_8.symm)
  have lt_a_y3 : a < y3 := Nat.lt_of_lt_of_le ((((((E_a.ext E_2).wr W_3).ext E_4).wr W_5).ext E_6).wr W_7).lt (Nat.le_of_eq g_8.symm)
  have ne_a_y3 : a ≠ y3 := Nat.ne_of_lt lt_a_y3
  have lt_y0_y3 : y0 < y3 := Nat.lt_of_lt_of_le (((((V_2.other W_3 (Ne.symm ne_a_y0)).ext E_4).other W_5 (Ne.symm ne_a_y0)).ext E_6).other W_7 (Ne.symm ne_a_y0)).lt (Nat.le_of_eq g_8.symm)
  have ne_y0_y3 : y0 ≠ y3 := Nat.ne_of_lt lt_y0_y3
  have lt_y1_y3 : y1 < y3 := Nat.lt_of_lt_of_le (((V_4.other W_5 (Ne.symm ne_a_y1)).ext E_6).other W_7 (Ne.symm ne_a_y1)).lt (Nat.le_of_eq g_8.symm)
  have ne_y1_y3 : y1 ≠ y3 := Nat.ne_of_lt lt_y1_y3
  have lt_y2_y3 : y2 < y3 := Nat.lt_of_lt_of_le (V_6.other W_7 (Ne.symm ne_a_y2)).lt (Nat.le_of_eq g_8.symm)
  have ne_y2_y3 : y2 ≠ y3 := Nat.ne_of_lt lt_y2_y3
  have V_8 : Arv Z h_8 y3 k_8 .double (64 : Int32) [(.double (0 : UInt64)), (.double (0 : UInt64))] (.double (0 : UInt64)) := (Arv.new A_8 (by decide)).pad (pad_rep [] (.double (0 : UInt64)) 2)
  have K_8 : Keep h0 h_8 [a] := K_7.ext E_8
  have Z_8 : n0 ≤ h_8.size := Nat.le_trans Z_7 E_8.1
  refine Go.step (fun t k => st_8 t k) ?_
  show Go p.tables e below P (T_8.setTop (mkF m 33 #[.val (.ref a)] [(.ref y3), (.ref a)]))
  obtain ⟨T_9, h_9, X_9, e_9, W_9, st_9⟩ := putF X_8 hx hZ hown (host := "") (Or.inl (hw _ (List.mem_of_getElem? (i := 17) rfl))) Via.refl e_8 (((((((F3.ext E_2).other W_3 (Or.inr (slot_ne (Or.inl (hw _ (List.mem_of_getElem? (i := 18) rfl))) (Or.inl (hw _ (List.mem_of_getElem? (i := 12) rfl))) (by decide) (t := (.array .double)) (t' := (.array .double)) (by decide) (by decide)))).ext E_4).other W_5 (Or.inr (slot_ne (Or.inl (hw _ (List.mem_of_getElem? (i := 18) rfl))) (Or.inl (hw _ (List.mem_of_getElem? (i := 14) rfl))) (by decide) (t := (.array .double)) (t' := (.array .double)) (by decide) (by decide)))).ext E_6).other W_7 (Or.inr (slot_ne (Or.inl (hw _ (List.mem_of_getElem? (i := 18) rfl))) (Or.inl (hw _ (List.mem_of_getElem? (i := 16) rfl))) (by decide) (t := (.array .double)) (t' := (.array .double)) (by decide) (by decide)))).ext E_8) (((((((E_a.ext E_2).wr W_3).ext E_4).wr W_5).ext E_6).wr W_7).ext E_8) (Or.inl (hw _ (List.mem_of_getElem? (i := 18) rfl))) (hw _ (List.mem_of_getElem? (i := 2) rfl)) (ty := (.array .double)) (by decide) rfl rfl (g := (mkF m 33 #[.val (.ref a)] [(.ref y3), (.ref a)])) rfl rfl (hb hby d1_33)
  have Fw_9 := (((((((F3.ext E_2).other W_3 (Or.inr (slot_ne (Or.inl (hw _ (List.mem_of_getElem? (i := 18) rfl))) (Or.inl (hw _ (List.mem_of_getElem? (i := 12) rfl))) (by decide) (t := (.array .double)) (t' := (.array .double)) (by decide) (by decide)))).ext E_4).other W_5 (Or.inr (slot_ne (Or.inl (hw _ (List.mem_of_getElem? (i := 18) rfl))) (Or.inl (hw _ (List.mem_of_getElem? (i := 14) rfl))) (by decide) (t := (.array .double)) (t' := (.array .double)) (by decide) (by decide)))).ext E_6).other W_7 (Or.inr (slot_ne (Or.inl (hw _ (List.mem_of_getElem? (i := 18) rfl))) (Or.inl (hw _ (List.mem_of_getElem? (i := 16) rfl))) (by decide) (t := (.array .double)) (t' := (.array .double)) (by decide) (by decide)))).ext E_8).same W_9
  have N_9 := Fr.snoc X_9 N_7 g_a
  have K_9 : Keep h0 h_9 [a] := K_8.wr W_9 (Or.inl (List.mem_of_getElem? (i := 0) rfl))
  have Z_9 : n0 ≤ h_9.size := Nat.le_trans Z_8 (Keep.of_wr W_9).1
  refine Go.step (fun t k => st_9 t k) ?_
  show Go p.tables e below P (T_9.setTop (mkF m 36 #[.val (.ref a)] []))
  refine Go.step (fun t k => XS.aloadN X_9.here hx rfl (hb hby d1_36) rfl rfl k) ?_
  show Go p.tables e below P (T_9.setTop (mkF m 37 #[.val (.ref a)] [(.ref a)]))
  refine Go.step (fun t k => XS.bipush X_9.here hx rfl (hb hby d1_37) k) ?_
  show Go p.tables e below P (T_9.setTop (mkF m 39 #[.val (.ref a)] [(.int (64 : Int32)), (.ref a)]))
  obtain ⟨T_10, h_10, k_10, X_10, e_10, E_10, A_10, st_10⟩ := newP X_9 hx hZ (hw _ (List.mem_of_getElem? (i := 10) rfl)) e_9 (g := (mkF m 39 #[.val (.ref a)] [(.int (64 : Int32)), (.ref a)])) rfl (hb hby d1_39) rfl (by decide) (cap := 64) (by decide) (by decide) (by decide) (by decide)
  obtain ⟨y4, g_10⟩ : ∃ z, z = h_9.size := ⟨_, rfl⟩
  rw [← g_10] at A_10 st_10
  have g_y4 : n0 ≤ y4 := Nat.le_trans Z_9 (Nat.le_of_eq g_10.symm)
  have sz_y4 : h0.size ≤ y4 := Nat.le_trans K_9.1 (Nat.le_of_eq g_10.symm)
  have lt_a_y4 : a < y4 := Nat.lt_of_lt_of_le ((((((((E_a.ext E_2).wr W_3).ext E_4).wr W_5).ext E_6).wr W_7).ext E_8).wr W_9).lt (Nat.le_of_eq g_10.symm)
  have ne_a_y4 : a ≠ y4 := Nat.ne_of_lt lt_a_y4
  have lt_y0_y4 : y0 < y4 := Nat.lt_of_lt_of_le (((((((V_2.other W_3 (Ne.symm ne_a_y0)).ext E_4).other W_5 (Ne.symm ne_a_y0)).ext E_6).other W_7 (Ne.symm ne_a_y0)).ext E_8).other W_9 (Ne.symm ne_a_y0)).lt (Nat.le_of_eq g_10.symm)
  have ne_y0_y4 : y0 ≠ y4 := Nat.ne_of_lt lt_y0_y4
  have lt_y1_y4 : y1 < y4 := Nat.lt_of_lt_of_le (((((V_4.other W_5 (Ne.symm ne_a_y1)).ext E_6).other W_7 (Ne.symm ne_a_y1)).ext E_8).other W_9 (Ne.symm ne_a_y1)).lt (Nat.le_of_eq g_10.symm)
  have ne_y1_y4 : y1 ≠ y4 := Nat.ne_of_lt lt_y1_y4
  have lt_y2_y4 : y2 < y4 := Nat.lt_of_lt_of_le (((V_6.other W_7 (Ne.symm ne_a_y2)).ext E_8).other W_9 (Ne.symm ne_a_y2)).lt (Nat.le_of_eq g_10.symm)
  have ne_y2_y4 : y2 ≠ y4 := Nat.ne_of_lt lt_y2_y4
  have lt_y3_y4 : y3 < y4 := Nat.lt_of_lt_of_le (V_8.other W_9 (Ne.symm ne_a_y3)).lt (Nat.le_of_eq g_10.symm)
  have ne_y3_y4 : y3 ≠ y4 := Nat.ne_of_lt lt_y3_y4
  have V_10 : Arv Z h_10 y4 k_10 .double (64 : Int32) [(.double (0 : UInt64)), (.double (0 : UInt64))] (.double (0 : UInt64)) := (Arv.new A_10 (by decide)).pad (pad_rep [] (.double (0 : UInt64)) 2)
  have K_10 : Keep h0 h_10 [a] := K_9.ext E_10
  have Z_10 : n0 ≤ h_10.size := Nat.le_trans Z_9 E_10.1
  refine Go.step (fun t k => st_10 t k) ?_
  show Go p.tables e below P (T_10.setTop (mkF m 41 #[.val (.ref a)] [(.ref y4), (.ref a)]))
  obtain ⟨T_11, h_11, X_11, e_11, W_11, st_11⟩ := putF X_10 hx hZ hown (host := "") (Or.inl (hw _ (List.mem_of_getElem? (i := 19) rfl))) Via.refl e_10 (((((((((F4.ext E_2).other W_3 (Or.inr (slot_ne (Or.inl (hw _ (List.mem_of_getElem? (i := 20) rfl))) (Or.inl (hw _ (List.mem_of_getElem? (i := 12) rfl))) (by decide) (t := (.array .double)) (t' := (.array .double)) (by decide) (by decide)))).ext E_4).other W_5 (Or.inr (slot_ne (Or.inl (hw _ (List.mem_of_getElem? (i := 20) rfl))) (Or.inl (hw _ (List.mem_of_getElem? (i := 14) rfl))) (by decide) (t := (.array .double)) (t' := (.array .double)) (by decide) (by decide)))).ext E_6).other W_7 (Or.inr (slot_ne (Or.inl (hw _ (List.mem_of_getElem? (i := 20) rfl))) (Or.inl (hw _ (List.mem_of_getElem? (i := 16) rfl))) (by decide) (t := (.array .double)) (t' := (.array .double)) (by decide) (by decide)))).ext E_8).other W_9 (Or.inr (slot_ne (Or.inl (hw _ (List.mem_of_getElem? (i := 20) rfl))) (Or.inl (hw _ (List.mem_of_getElem? (i := 18) rfl))) (by decide) (t := (.array .double)) (t' := (.array .double)) (by decide) (by decide)))).ext E_10) (((((((((E_a.ext E_2).wr W_3).ext E_4).wr W_5).ext E_6).wr W_7).ext E_8).wr W_9).ext E_10) (Or.inl (hw _ (List.mem_of_getElem? (i := 20) rfl))) (hw _ (List.mem_of_getElem? (i := 2) rfl)) (ty := (.array .double)) (by decide) rfl rfl (g := (mkF m 41 #[.val (.ref a)] [(.ref y4), (.ref a)])) rfl rfl (hb hby d1_41)
  have Fw_11 := (((((((((F4.ext E_2).other W_3 (Or.inr (slot_ne (Or.inl (hw _ (List.mem_of_getElem? (i := 20) rfl))) (Or.inl (hw _ (List.mem_of_getElem? (i := 12) rfl))) (by decide) (t := (.array .double)) (t' := (.array .double)) (by decide) (by decide)))).ext E_4).other W_5 (Or.inr (slot_ne (Or.inl (hw _ (List.mem_of_getElem? (i := 20) rfl))) (Or.inl (hw _ (List.mem_of_getElem? (i := 14) rfl))) (by decide) (t := (.array .double)) (t' := (.array .double)) (by decide) (by decide)))).ext E_6).other W_7 (Or.inr (slot_ne (Or.inl (hw _ (List.mem_of_getElem? (i := 20) rfl))) (Or.inl (hw _ (List.mem_of_getElem? (i := 16) rfl))) (by decide) (t := (.array .double)) (t' := (.array .double)) (by decide) (by decide)))).ext E_8).other W_9 (Or.inr (slot_ne (Or.inl (hw _ (List.mem_of_getElem? (i := 20) rfl))) (Or.inl (hw _ (List.mem_of_getElem? (i := 18) rfl))) (by decide) (t := (.array .double)) (t' := (.array .double)) (by decide) (by decide)))).ext E_10).same W_11
  have N_11 := Fr.snoc X_11 N_9 g_a
  have K_11 : Keep h0 h_11 [a] := K_10.wr W_11 (Or.inl (List.mem_of_getElem? (i := 0) rfl))
  have Z_11 : n0 ≤ h_11.size := Nat.le_trans Z_10 (Keep.of_wr W_11).1
  refine Go.step (fun t k => st_11 t k) ?_
  show Go p.tables e below P (T_11.setTop (mkF m 44 #[.val (.ref a)] []))
  refine Go.step (fun t k => XS.aloadN X_11.here hx rfl (hb hby d1_44) rfl rfl k) ?_
  show Go p.tables e below P (T_11.setTop (mkF m 45 #[.val (.ref a)] [(.ref a)]))
  refine Go.step (fun t k => XS.bipush X_11.here hx rfl (hb hby d1_45) k) ?_
  show Go p.tables e below P (T_11.setTop (mkF m 47 #[.val (.ref a)] [(.int (64 : Int32)), (.ref a)]))
  obtain ⟨T_12, h_12, k_12, X_12, e_12, E_12, A_12, O_12, st_12⟩ := newR X_11 hx hZ hown (hw _ (List.mem_of_getElem? (i := 21) rfl)) (hw _ (List.mem_of_getElem? (i := 22) rfl)) e_11 (g := (mkF m 47 #[.val (.ref a)] [(.int (64 : Int32)), (.ref a)])) rfl (hb hby d1_47) rfl (by decide) (cap := 64) (by decide) (by decide) (by decide) (by decide)
  obtain ⟨y5, g_12⟩ : ∃ z, z = h_11.size := ⟨_, rfl⟩
  rw [← g_12] at A_12 st_12
  have g_y5 : n0 ≤ y5 := Nat.le_trans Z_11 (Nat.le_of_eq g_12.symm)
  have sz_y5 : h0.size ≤ y5 := Nat.le_trans K_11.1 (Nat.le_of_eq g_12.symm)
  have lt_a_y5 : a < y5 := Nat.lt_of_lt_of_le ((((((((((E_a.ext E_2).wr W_3).ext E_4).wr W_5).ext E_6).wr W_7).ext E_8).wr W_9).ext E_10).wr W_11).lt (Nat.le_of_eq g_12.symm)
  have ne_a_y5 : a ≠ y5 := Nat.ne_of_lt lt_a_y5
  have lt_y0_y5 : y0 < y5 := Nat.lt_of_lt_of_le (((((((((V_2.other W_3 (Ne.symm ne_a_y0)).ext E_4).other W_5 (Ne.symm ne_a_y0)).ext E_6).other W_7 (Ne.symm ne_a_y0)).ext E_8).other W_9 (Ne.symm ne_a_y0)).ext E_10).other W_11 (Ne.symm ne_a_y0)).lt (Nat.le_of_eq g_12.symm)
  have ne_y0_y5 : y0 ≠ y5 := Nat.ne_of_lt lt_y0_y5
  have lt_y1_y5 : y1 < y5 := Nat.lt_of_lt_of_le (((((((V_4.other W_5 (Ne.symm ne_a_y1)).ext E_6).other W_7 (Ne.symm ne_a_y1)).ext E_8).other W_9 (Ne.symm ne_a_y1)).ext E_10).other W_11 (Ne.symm ne_a_y1)).lt (Nat.le_of_eq g_12.symm)
  have ne_y1_y5 : y1 ≠ y5 := Nat.ne_of_lt lt_y1_y5
  have lt_y2_y5 : y2 < y5 := Nat.lt_of_lt_of_le (((((V_6.other W_7 (Ne.symm ne_a_y2)).ext E_8).other W_9 (Ne.symm ne_a_y2)).ext E_10).other W_11 (Ne.symm ne_a_y2)).lt (Nat.le_of_eq g_12.symm)
  have ne_y2_y5 : y2 ≠ y5 := Nat.ne_of_lt lt_y2_y5
  have lt_y3_y5 : y3 < y5 := Nat.lt_of_lt_of_le (((V_8.other W_9 (Ne.symm ne_a_y3)).ext E_10).other W_11 (Ne.symm ne_a_y3)).lt (Nat.le_of_eq g_12.symm)
  have ne_y3_y5 : y3 ≠ y5 := Nat.ne_of_lt lt_y3_y5
  have lt_y4_y5 : y4 < y5 := Nat.lt_of_lt_of_le (V_10.other W_11 (Ne.symm ne_a_y4)).lt (Nat.le_of_eq g_12.symm)
  have ne_y4_y5 : y4 ≠ y5 := Nat.ne_of_lt lt_y4_y5
  have V_12 : Arv Z h_12 y5 k_12 (.object "com/example/gleitfahrt/gleitfahrt/engine/Regime") (64 : Int32) [.null, .null] .null := (Arv.new A_12 (by decide)).pad (pad_rep [] .null 2)
  have K_12 : Keep h0 h_12 [a] := K_11.ext E_12
  have Z_12 : n0 ≤ h_12.size := Nat.le_trans Z_11 E_12.1
  refine Go.step (fun t k => st_12 t k) ?_
  show Go p.tables e below P (T_12.setTop (mkF m 50 #[.val (.ref a)] [(.ref y5), (.ref a)]))
  obtain ⟨T_13, h_13, X_13, e_13, W_13, st_13⟩ := putF X_12 hx hZ hown (host := "") (Or.inl (hw _ (List.mem_of_getElem? (i := 23) rfl))) Via.refl e_12 (((((((((((F5.ext E_2).other W_3 (Or.inr (slot_ne (Or.inl (hw _ (List.mem_of_getElem? (i := 24) rfl))) (Or.inl (hw _ (List.mem_of_getElem? (i := 12) rfl))) (by decide) (t := (.array (.object "com/example/gleitfahrt/gleitfahrt/engine/Regime"))) (t' := (.array .double)) (by decide) (by decide)))).ext E_4).other W_5 (Or.inr (slot_ne (Or.inl (hw _ (List.mem_of_getElem? (i := 24) rfl))) (Or.inl (hw _ (List.mem_of_getElem? (i := 14) rfl))) (by decide) (t := (.array (.object "com/example/gleitfahrt/gleitfahrt/engine/Regime"))) (t' := (.array .double)) (by decide) (by decide)))).ext E_6).other W_7 (Or.inr (slot_ne (Or.inl (hw _ (List.mem_of_getElem? (i := 24) rfl))) (Or.inl (hw _ (List.mem_of_getElem? (i := 16) rfl))) (by decide) (t := (.array (.object "com/example/gleitfahrt/gleitfahrt/engine/Regime"))) (t' := (.array .double)) (by decide) (by decide)))).ext E_8).other W_9 (Or.inr (slot_ne (Or.inl (hw _ (List.mem_of_getElem? (i := 24) rfl))) (Or.inl (hw _ (List.mem_of_getElem? (i := 18) rfl))) (by decide) (t := (.array (.object "com/example/gleitfahrt/gleitfahrt/engine/Regime"))) (t' := (.array .double)) (by decide) (by decide)))).ext E_10).other W_11 (Or.inr (slot_ne (Or.inl (hw _ (List.mem_of_getElem? (i := 24) rfl))) (Or.inl (hw _ (List.mem_of_getElem? (i := 20) rfl))) (by decide) (t := (.array (.object "com/example/gleitfahrt/gleitfahrt/engine/Regime"))) (t' := (.array .double)) (by decide) (by decide)))).ext E_12) (((((((((((E_a.ext E_2).wr W_3).ext E_4).wr W_5).ext E_6).wr W_7).ext E_8).wr W_9).ext E_10).wr W_11).ext E_12) (Or.inl (hw _ (List.mem_of_getElem? (i := 24) rfl))) (hw _ (List.mem_of_getElem? (i := 2) rfl)) (ty := (.array (.object "com/example/gleitfahrt/gleitfahrt/engine/Regime"))) (by decide) rfl rfl (g := (mkF m 50 #[.val (.ref a)] [(.ref y5), (.ref a)])) rfl rfl (hb hby d1_50)
  have Fw_13 := (((((((((((F5.ext E_2).other W_3 (Or.inr (slot_ne (Or.inl (hw _ (List.mem_of_getElem? (i := 24) rfl))) (Or.inl (hw _ (List.mem_of_getElem? (i := 12) rfl))) (by decide) (t := (.array (.object "com/example/gleitfahrt/gleitfahrt/engine/Regime"))) (t' := (.array .double)) (by decide) (by decide)))).ext E_4).other W_5 (Or.inr (slot_ne (Or.inl (hw _ (List.mem_of_getElem? (i := 24) rfl))) (Or.inl (hw _ (List.mem_of_getElem? (i := 14) rfl))) (by decide) (t := (.array (.object "com/example/gleitfahrt/gleitfahrt/engine/Regime"))) (t' := (.array .double)) (by decide) (by decide)))).ext E_6).other W_7 (Or.inr (slot_ne (Or.inl (hw _ (List.mem_of_getElem? (i := 24) rfl))) (Or.inl (hw _ (List.mem_of_getElem? (i := 16) rfl))) (by decide) (t := (.array (.object "com/example/gleitfahrt/gleitfahrt/engine/Regime"))) (t' := (.array .double)) (by decide) (by decide)))).ext E_8).other W_9 (Or.inr (slot_ne (Or.inl (hw _ (List.mem_of_getElem? (i := 24) rfl))) (Or.inl (hw _ (List.mem_of_getElem? (i := 18) rfl))) (by decide) (t := (.array (.object "com/example/gleitfahrt/gleitfahrt/engine/Regime"))) (t' := (.array .double)) (by decide) (by decide)))).ext E_10).other W_11 (Or.inr (slot_ne (Or.inl (hw _ (List.mem_of_getElem? (i := 24) rfl))) (Or.inl (hw _ (List.mem_of_getElem? (i := 20) rfl))) (by decide) (t := (.array (.object "com/example/gleitfahrt/gleitfahrt/engine/Regime"))) (t' := (.array .double)) (by decide) (by decide)))).ext E_12).same W_13
  have N_13 := Fr.snoc X_13 N_11 g_a
  have K_13 : Keep h0 h_13 [a] := K_12.wr W_13 (Or.inl (List.mem_of_getElem? (i := 0) rfl))
  have Z_13 : n0 ≤ h_13.size := Nat.le_trans Z_12 (Keep.of_wr W_13).1
  refine Go.step (fun t k => st_13 t k) ?_
  show Go p.tables e below P (T_13.setTop (mkF m 53 #[.val (.ref a)] []))
  refine Go.step (fun t k => XS.aloadN X_13.here hx rfl (hb hby d1_53) rfl rfl k) ?_
  show Go p.tables e below P (T_13.setTop (mkF m 54 #[.val (.ref a)] [(.ref a)]))
  refine Go.step (fun t k => XS.bipush X_13.here hx rfl (hb hby d1_54) k) ?_
  show Go p.tables e below P (T_13.setTop (mkF m 56 #[.val (.ref a)] [(.int (64 : Int32)), (.ref a)]))
  obtain ⟨T_14, h_14, k_14, X_14, e_14, E_14, A_14, st_14⟩ := newP X_13 hx hZ (hw _ (List.mem_of_getElem? (i := 10) rfl)) e_13 (g := (mkF m 56 #[.val (.ref a)] [(.int (64 : Int32)), (.ref a)])) rfl (hb hby d1_56) rfl (by decide) (cap := 64) (by decide) (by decide) (by decide) (by decide)
  obtain ⟨y6, g_14⟩ : ∃ z, z = h_13.size := ⟨_, rfl⟩
  rw [← g_14] at A_14 st_14
  have g_y6 : n0 ≤ y6 := Nat.le_trans Z_13 (Nat.le_of_eq g_14.symm)
  have sz_y6 : h0.size ≤ y6 := Nat.le_trans K_13.1 (Nat.le_of_eq g_14.symm)
  have lt_a_y6 : a < y6 := Nat.lt_of_lt_of_le ((((((((((((E_a.ext E_2).wr W_3).ext E_4).wr W_5).ext E_6).wr W_7).ext E_8).wr W_9).ext E_10).wr W_11).ext E_12).wr W_13).lt (Nat.le_of_eq g_14.symm)
  have ne_a_y6 : a ≠ y6 := Nat.ne_of_lt lt_a_y6
  have lt_y0_y6 : y0 < y6 := Nat.lt_of_lt_of_le (((((((((((V_2.other W_3 (Ne.symm ne_a_y0)).ext E_4).other W_5 (Ne.symm ne_a_y0)).ext E_6).other W_7 (Ne.symm ne_a_y0)).ext E_8).other W_9 (Ne.symm ne_a_y0)).ext E_10).other W_11 (Ne.symm ne_a_y0)).ext E_12).other W_13 (Ne.symm ne_a_y0)).lt (Nat.le_of_eq g_14.symm)
  have ne_y0_y6 : y0 ≠ y6 := Nat.ne_of_lt lt_y0_y6
  have lt_y1_y6 : y1 < y6 := Nat.lt_of_lt_of_le (((((((((V_4.other W_5 (Ne.symm ne_a_y1)).ext E_6).other W_7 (Ne.symm ne_a_y1)).ext E_8).other W_9 (Ne.symm ne_a_y1)).ext E_10).other W_11 (Ne.symm ne_a_y1)).ext E_12).other W_13 (Ne.symm ne_a_y1)).lt (Nat.le_of_eq g_14.symm)
  have ne_y1_y6 : y1 ≠ y6 := Nat.ne_of_lt lt_y1_y6
  have lt_y2_y6 : y2 < y6 := Nat.lt_of_lt_of_le (((((((V_6.other W_7 (Ne.symm ne_a_y2)).ext E_8).other W_9 (Ne.symm ne_a_y2)).ext E_10).other W_11 (Ne.symm ne_a_y2)).ext E_12).other W_13 (Ne.symm ne_a_y2)).lt (Nat.le_of_eq g_14.symm)
  have ne_y2_y6 : y2 ≠ y6 := Nat.ne_of_lt lt_y2_y6
  have lt_y3_y6 : y3 < y6 := Nat.lt_of_lt_of_le (((((V_8.other W_9 (Ne.symm ne_a_y3)).ext E_10).other W_11 (Ne.symm ne_a_y3)).ext E_12).other W_13 (Ne.symm ne_a_y3)).lt (Nat.le_of_eq g_14.symm)
  have ne_y3_y6 : y3 ≠ y6 := Nat.ne_of_lt lt_y3_y6
  have lt_y4_y6 : y4 < y6 := Nat.lt_of_lt_of_le (((V_10.other W_11 (Ne.symm ne_a_y4)).ext E_12).other W_13 (Ne.symm ne_a_y4)).lt (Nat.le_of_eq g_14.symm)
  have ne_y4_y6 : y4 ≠ y6 := Nat.ne_of_lt lt_y4_y6
  have lt_y5_y6 : y5 < y6 := Nat.lt_of_lt_of_le (V_12.other W_13 (Ne.symm ne_a_y5)).lt (Nat.le_of_eq g_14.symm)
  have ne_y5_y6 : y5 ≠ y6 := Nat.ne_of_lt lt_y5_y6
  have V_14 : Arv Z h_14 y6 k_14 .double (64 : Int32) [(.double (0 : UInt64)), (.double (0 : UInt64))] (.double (0 : UInt64)) := (Arv.new A_14 (by decide)).pad (pad_rep [] (.double (0 : UInt64)) 2)
  have K_14 : Keep h0 h_14 [a] := K_13.ext E_14
  have Z_14 : n0 ≤ h_14.size := Nat.le_trans Z_13 E_14.1
  refine Go.step (fun t k => st_14 t k) ?_
  show Go p.tables e below P (T_14.setTop (mkF m 58 #[.val (.ref a)] [(.ref y6), (.ref a)]))
  obtain ⟨T_15, h_15, X_15, e_15, W_15, st_15⟩ := putF X_14 hx hZ hown (host := "") (Or.inl (hw _ (List.mem_of_getElem? (i := 25) rfl))) Via.refl e_14 (((((((((((((F6.ext E_2).other W_3 (Or.inr (slot_ne (Or.inl (hw _ (List.mem_of_getElem? (i := 26) rfl))) (Or.inl (hw _ (List.mem_of_getElem? (i := 12) rfl))) (by decide) (t := (.array .double)) (t' := (.array .double)) (by decide) (by decide)))).ext E_4).other W_5 (Or.inr (slot_ne (Or.inl (hw _ (List.mem_of_getElem? (i := 26) rfl))) (Or.inl (hw _ (List.mem_of_getElem? (i := 14) rfl))) (by decide) (t := (.array .double)) (t' := (.array .double)) (by decide) (by decide)))).ext E_6).other W_7 (Or.inr (slot_ne (Or.inl (hw _ (List.mem_of_getElem? (i := 26) rfl))) (Or.inl (hw _ (List.mem_of_getElem? (i := 16) rfl))) (by decide) (t := (.array .double)) (t' := (.array .double)) (by decide) (by decide)))).ext E_8).other W_9 (Or.inr (slot_ne (Or.inl (hw _ (List.mem_of_getElem? (i := 26) rfl))) (Or.inl (hw _ (List.mem_of_getElem? (i := 18) rfl))) (by decide) (t := (.array .double)) (t' := (.array .double)) (by decide) (by decide)))).ext E_10).other W_11 (Or.inr (slot_ne (Or.inl (hw _ (List.mem_of_getElem? (i := 26) rfl))) (Or.inl (hw _ (List.mem_of_getElem? (i := 20) rfl))) (by decide) (t := (.array .double)) (t' := (.array .double)) (by decide) (by decide)))).ext E_12).other W_13 (Or.inr (slot_ne (Or.inl (hw _ (List.mem_of_getElem? (i := 26) rfl))) (Or.inl (hw _ (List.mem_of_getElem? (i := 24) rfl))) (by decide) (t := (.array .double)) (t' := (.array (.object "com/example/gleitfahrt/gleitfahrt/engine/Regime"))) (by decide) (by decide)))).ext E_14) (((((((((((((E_a.ext E_2).wr W_3).ext E_4).wr W_5).ext E_6).wr W_7).ext E_8).wr W_9).ext E_10).wr W_11).ext E_12).wr W_13).ext E_14) (Or.inl (hw _ (List.mem_of_getElem? (i := 26) rfl))) (hw _ (List.mem_of_getElem? (i := 2) rfl)) (ty := (.array .double)) (by decide) rfl rfl (g := (mkF m 58 #[.val (.ref a)] [(.ref y6), (.ref a)])) rfl rfl (hb hby d1_58)
  have Fw_15 := (((((((((((((F6.ext E_2).other W_3 (Or.inr (slot_ne (Or.inl (hw _ (List.mem_of_getElem? (i := 26) rfl))) (Or.inl (hw _ (List.mem_of_getElem? (i := 12) rfl))) (by decide) (t := (.array .double)) (t' := (.array .double)) (by decide) (by decide)))).ext E_4).other W_5 (Or.inr (slot_ne (Or.inl (hw _ (List.mem_of_getElem? (i := 26) rfl))) (Or.inl (hw _ (List.mem_of_getElem? (i := 14) rfl))) (by decide) (t := (.array .double)) (t' := (.array .double)) (by decide) (by decide)))).ext E_6).other W_7 (Or.inr (slot_ne (Or.inl (hw _ (List.mem_of_getElem? (i := 26) rfl))) (Or.inl (hw _ (List.mem_of_getElem? (i := 16) rfl))) (by decide) (t := (.array .double)) (t' := (.array .double)) (by decide) (by decide)))).ext E_8).other W_9 (Or.inr (slot_ne (Or.inl (hw _ (List.mem_of_getElem? (i := 26) rfl))) (Or.inl (hw _ (List.mem_of_getElem? (i := 18) rfl))) (by decide) (t := (.array .double)) (t' := (.array .double)) (by decide) (by decide)))).ext E_10).other W_11 (Or.inr (slot_ne (Or.inl (hw _ (List.mem_of_getElem? (i := 26) rfl))) (Or.inl (hw _ (List.mem_of_getElem? (i := 20) rfl))) (by decide) (t := (.array .double)) (t' := (.array .double)) (by decide) (by decide)))).ext E_12).other W_13 (Or.inr (slot_ne (Or.inl (hw _ (List.mem_of_getElem? (i := 26) rfl))) (Or.inl (hw _ (List.mem_of_getElem? (i := 24) rfl))) (by decide) (t := (.array .double)) (t' := (.array (.object "com/example/gleitfahrt/gleitfahrt/engine/Regime"))) (by decide) (by decide)))).ext E_14).same W_15
  have N_15 := Fr.snoc X_15 N_13 g_a
  have K_15 : Keep h0 h_15 [a] := K_14.wr W_15 (Or.inl (List.mem_of_getElem? (i := 0) rfl))
  have Z_15 : n0 ≤ h_15.size := Nat.le_trans Z_14 (Keep.of_wr W_15).1
  refine Go.step (fun t k => st_15 t k) ?_
  show Go p.tables e below P (T_15.setTop (mkF m 61 #[.val (.ref a)] []))
  refine Go.step (fun t k => XS.aloadN X_15.here hx rfl (hb hby d1_61) rfl rfl k) ?_
  show Go p.tables e below P (T_15.setTop (mkF m 62 #[.val (.ref a)] [(.ref a)]))
  refine Go.step (fun t k => XS.bipush X_15.here hx rfl (hb hby d1_62) k) ?_
  show Go p.tables e below P (T_15.setTop (mkF m 64 #[.val (.ref a)] [(.int (64 : Int32)), (.ref a)]))
  obtain ⟨T_16, h_16, k_16, X_16, e_16, E_16, A_16, st_16⟩ := newP X_15 hx hZ (hw _ (List.mem_of_getElem? (i := 10) rfl)) e_15 (g := (mkF m 64 #[.val (.ref a)] [(.int (64 : Int32)), (.ref a)])) rfl (hb hby d1_64) rfl (by decide) (cap := 64) (by decide) (by decide) (by decide) (by decide)
  obtain ⟨y7, g_16⟩ : ∃ z, z = h_15.size := ⟨_, rfl⟩
  rw [← g_16] at A_16 st_16
  have g_y7 : n0 ≤ y7 := Nat.le_trans Z_15 (Nat.le_of_eq g_16.symm)
  have sz_y7 : h0.size ≤ y7 := Nat.le_trans K_15.1 (Nat.le_of_eq g_16.symm)
  have lt_a_y7 : a < y7 := Nat.lt_of_lt_of_le ((((((((((((((E_a.ext E_2).wr W_3).ext E_4).wr W_5).ext E_6).wr W_7).ext E_8).wr W_9).ext E_10).wr W_11).ext E_12).wr W_13).ext E_14).wr W_15).lt (Nat.le_of_eq g_16.symm)
  have ne_a_y7 : a ≠ y7 := Nat.ne_of_lt lt_a_y7
  have lt_y0_y7 : y0 < y7 := Nat.lt_of_lt_of_le (((((((((((((V_2.other W_3 (Ne.symm ne_a_y0)).ext E_4).other W_5 (Ne.symm ne_a_y0)).ext E_6).other W_7 (Ne.symm ne_a_y0)).ext E_8).other W_9 (Ne.symm ne_a_y0)).ext E_10).other W_11 (Ne.symm ne_a_y0)).ext E_12).other W_13 (Ne.symm ne_a_y0)).ext E_14).other W_15 (Ne.symm ne_a_y0)).lt (Nat.le_of_eq g_16.symm)
  have ne_y0_y7 : y0 ≠ y7 := Nat.ne_of_lt lt_y0_y7
  have lt_y1_y7 : y1 < y7 := Nat.lt_of_lt_of_le (((((((((((V_4.other W_5 (Ne.symm ne_a_y1)).ext E_6).other W_7 (Ne.symm ne_a_y1)).ext E_8).other W_9 (Ne.symm ne_a_y1)).ext E_10).other W_11 (Ne.symm ne_a_y1)).ext E_12).other W_13 (Ne.symm ne_a_y1)).ext E_14).other W_15 (Ne.symm ne_a_y1)).lt (Nat.le_of_eq g_16.symm)
  have ne_y1_y7 : y1 ≠ y7 := Nat.ne_of_lt lt_y1_y7
  have lt_y2_y7 : y2 < y7 := Nat.lt_of_lt_of_le (((((((((V_6.other W_7 (Ne.symm ne_a_y2)).ext E_8).other W_9 (Ne.symm ne_a_y2)).ext E_10).other W_11 (Ne.symm ne_a_y2)).ext E_12).other W_13 (Ne.symm ne_a_y2)).ext E_14).other W_15 (Ne.symm ne_a_y2)).lt (Nat.le_of_eq g_16.symm)
  have ne_y2_y7 : y2 ≠ y7 := Nat.ne_of_lt lt_y2_y7
  have lt_y3_y7 : y3 < y7 := Nat.lt_of_lt_of_le (((((((V_8.other W_9 (Ne.symm ne_a_y3)).ext E_10).other W_11 (Ne.symm ne_a_y3)).ext E_12).other W_13 (Ne.symm ne_a_y3)).ext E_14).other W_15 (Ne.symm ne_a_y3)).lt (Nat.le_of_eq g_16.symm)
  have ne_y3_y7 : y3 ≠ y7 := Nat.ne_of_lt lt_y3_y7
  have lt_y4_y7 : y4 < y7 := Nat.lt_of_lt_of_le (((((V_10.other W_11 (Ne.symm ne_a_y4)).ext E_12).other W_13 (Ne.symm ne_a_y4)).ext E_14).other W_15 (Ne.symm ne_a_y4)).lt (Nat.le_of_eq g_16.symm)
  have ne_y4_y7 : y4 ≠ y7 := Nat.ne_of_lt lt_y4_y7
  have lt_y5_y7 : y5 < y7 := Nat.lt_of_lt_of_le (((V_12.other W_13 (Ne.symm ne_a_y5)).ext E_14).other W_15 (Ne.symm ne_a_y5)).lt (Nat.le_of_eq g_16.symm)
  have ne_y5_y7 : y5 ≠ y7 := Nat.ne_of_lt lt_y5_y7
  have lt_y6_y7 : y6 < y7 := Nat.lt_of_lt_of_le (V_14.other W_15 (Ne.symm ne_a_y6)).lt (Nat.le_of_eq g_16.symm)
  have ne_y6_y7 : y6 ≠ y7 := Nat.ne_of_lt lt_y6_y7
  have V_16 : Arv Z h_16 y7 k_16 .double (64 : Int32) [(.double (0 : UInt64)), (.double (0 : UInt64))] (.double (0 : UInt64)) := (Arv.new A_16 (by decide)).pad (pad_rep [] (.double (0 : UInt64)) 2)
  have K_16 : Keep h0 h_16 [a] := K_15.ext E_16
  have Z_16 : n0 ≤ h_16.size := Nat.le_trans Z_15 E_16.1
  refine Go.step (fun t k => st_16 t k) ?_
  show Go p.tables e below P (T_16.setTop (mkF m 66 #[.val (.ref a)] [(.ref y7), (.ref a)]))
  obtain ⟨T_17, h_17, X_17, e_17, W_17, st_17⟩ := putF X_16 hx hZ hown (host := "") (Or.inl (hw _ (List.mem_of_getElem? (i := 27) rfl))) Via.refl e_16 (((((((((((((((F7.ext E_2).other W_3 (Or.inr (slot_ne (Or.inl (hw _ (List.mem_of_getElem? (i := 28) rfl))) (Or.inl (hw _ (List.mem_of_getElem? (i := 12) rfl))) (by decide) (t := (.array .double)) (t' := (.array .double)) (by decide) (by decide)))).ext E_4).other W_5 (Or.inr (slot_ne (Or.inl (hw _ (List.mem_of_getElem? (i := 28) rfl))) (Or.inl (hw _ (List.mem_of_getElem? (i := 14) rfl))) (by decide) (t := (.array .double)) (t' := (.array .double)) (by decide) (by decide)))).ext E_6).other W_7 (Or.inr (slot_ne (Or.inl (hw _ (List.mem_of_getElem? (i := 28) rfl))) (Or.inl (hw _ (List.mem_of_getElem? (i := 16) rfl))) (by decide) (t := (.array .double)) (t' := (.array .double)) (by decide) (by decide)))).ext E_8).other W_9 (Or.inr (slot_ne (Or.inl (hw _ (List.mem_of_getElem? (i := 28) rfl))) (Or.inl (hw _ (List.mem_of_getElem? (i := 18) rfl))) (by decide) (t := (.array .double)) (t' := (.array .double)) (by decide) (by decide)))).ext E_10).other W_11 (Or.inr (slot_ne (Or.inl (hw _ (List.mem_of_getElem? (i := 28) rfl))) (Or.inl (hw _ (List.mem_of_getElem? (i := 20) rfl))) (by decide) (t := (.array .double)) (t' := (.array .double)) (by decide) (by decide)))).ext E_12).other W_13 (Or.inr (slot_ne (Or.inl (hw _ (List.mem_of_getElem? (i := 28) rfl))) (Or.inl (hw _ (List.mem_of_getElem? (i := 24) rfl))) (by decide) (t := (.array .double)) (t' := (.array (.object "com/example/gleitfahrt/gleitfahrt/engine/Regime"))) (by decide) (by decide)))).ext E_14).other W_15 (Or.inr (slot_ne (Or.inl (hw _ (List.mem_of_getElem? (i := 28) rfl))) (Or.inl (hw _ (List.mem_of_getElem? (i := 26) rfl))) (by decide) (t := (.array .double)) (t' := (.array .double)) (by decide) (by decide)))).ext E_16) (((((((((((((((E_a.ext E_2).wr W_3).ext E_4).wr W_5).ext E_6).wr W_7).ext E_8).wr W_9).ext E_10).wr W_11).ext E_12).wr W_13).ext E_14).wr W_15).ext E_16) (Or.inl (hw _ (List.mem_of_getElem? (i := 28) rfl))) (hw _ (List.mem_of_getElem? (i := 2) rfl)) (ty := (.array .double)) (by decide) rfl rfl (g := (mkF m 66 #[.val (.ref a)] [(.ref y7), (.ref a)])) rfl rfl (hb hby d1_66)
  have Fw_17 := (((((((((((((((F7.ext E_2).other W_3 (Or.inr (slot_ne (Or.inl (hw _ (List.mem_of_getElem? (i := 28) rfl))) (Or.inl (hw _ (List.mem_of_getElem? (i := 12) rfl))) (by decide) (t := (.array .double)) (t' := (.array .double)) (by decide) (by decide)))).ext E_4).other W_5 (Or.inr (slot_ne (Or.inl (hw _ (List.mem_of_getElem? (i := 28) rfl))) (Or.inl (hw _ (List.mem_of_getElem? (i := 14) rfl))) (by decide) (t := (.array .double)) (t' := (.array .double)) (by decide) (by decide)))).ext E_6).other W_7 (Or.inr (slot_ne (Or.inl (hw _ (List.mem_of_getElem? (i := 28) rfl))) (Or.inl (hw _ (List.mem_of_getElem? (i := 16) rfl))) (by decide) (t := (.array .double)) (t' := (.array .double)) (by decide) (by decide)))).ext E_8).other W_9 (Or.inr (slot_ne (Or.inl (hw _ (List.mem_of_getElem? (i := 28) rfl))) (Or.inl (hw _ (List.mem_of_getElem? (i := 18) rfl))) (by decide) (t := (.array .double)) (t' := (.array .double)) (by decide) (by decide)))).ext E_10).other W_11 (Or.inr (slot_ne (Or.inl (hw _ (List.mem_of_getElem? (i := 28) rfl))) (Or.inl (hw _ (List.mem_of_getElem? (i := 20) rfl))) (by decide) (t := (.array .double)) (t' := (.array .double)) (by decide) (by decide)))).ext E_12).other W_13 (Or.inr (slot_ne (Or.inl (hw _ (List.mem_of_getElem? (i := 28) rfl))) (Or.inl (hw _ (List.mem_of_getElem? (i := 24) rfl))) (by decide) (t := (.array .double)) (t' := (.array (.object "com/example/gleitfahrt/gleitfahrt/engine/Regime"))) (by decide) (by decide)))).ext E_14).other W_15 (Or.inr (slot_ne (Or.inl (hw _ (List.mem_of_getElem? (i := 28) rfl))) (Or.inl (hw _ (List.mem_of_getElem? (i := 26) rfl))) (by decide) (t := (.array .double)) (t' := (.array .double)) (by decide) (by decide)))).ext E_16).same W_17
  have N_17 := Fr.snoc X_17 N_15 g_a
  have K_17 : Keep h0 h_17 [a] := K_16.wr W_17 (Or.inl (List.mem_of_getElem? (i := 0) rfl))
  have Z_17 : n0 ≤ h_17.size := Nat.le_trans Z_16 (Keep.of_wr W_17).1
  refine Go.step (fun t k => st_17 t k) ?_
  show Go p.tables e below P (T_17.setTop (mkF m 69 #[.val (.ref a)] []))
  exact voidGo X_17 hx hP Bd.returns hlk (hb hby d1_69) (by decide) (by decide) (by rw [e_17]; exact ⟨rfl, N_17, K_17, ((((((((((((((((E_a.ext E_2).wr W_3).ext E_4).wr W_5).ext E_6).wr W_7).ext E_8).wr W_9).ext E_10).wr W_11).ext E_12).wr W_13).ext E_14).wr W_15).ext E_16).wr W_17), y0, y1, y2, y3, y4, y5, y6, y7, k_2, k_4, k_6, k_8, k_10, k_12, k_14, k_16, ⟨lt_a_y0, lt_y0_y1, lt_y1_y2, lt_y2_y3, lt_y3_y4, lt_y4_y5, lt_y5_y6, lt_y6_y7⟩, O_12, ((((((((((((((Fw_3.ext E_4).other W_5 (Or.inr (slot_ne (Or.inl (hw _ (List.mem_of_getElem? (i := 12) rfl))) (Or.inl (hw _ (List.mem_of_getElem? (i := 14) rfl))) (by decide) (t := (.array .double)) (t' := (.array .double)) (by decide) (by decide)))).ext E_6).other W_7 (Or.inr (slot_ne (Or.inl (hw _ (List.mem_of_getElem? (i := 12) rfl))) (Or.inl (hw _ (List.mem_of_getElem? (i := 16) rfl))) (by decide) (t := (.array .double)) (t' := (.array .double)) (by decide) (by decide)))).ext E_8).other W_9 (Or.inr (slot_ne (Or.inl (hw _ (List.mem_of_getElem? (i := 12) rfl))) (Or.inl (hw _ (List.mem_of_getElem? (i := 18) rfl))) (by decide) (t := (.array .double)) (t' := (.array .double)) (by decide) (by decide)))).ext E_10).other W_11 (Or.inr (slot_ne (Or.inl (hw _ (List.mem_of_getElem? (i := 12) rfl))) (Or.inl (hw _ (List.mem_of_getElem? (i := 20) rfl))) (by decide) (t := (.array .double)) (t' := (.array .double)) (by decide) (by decide)))).ext E_12).other W_13 (Or.inr (slot_ne (Or.inl (hw _ (List.mem_of_getElem? (i := 12) rfl))) (Or.inl (hw _ (List.mem_of_getElem? (i := 24) rfl))) (by decide) (t := (.array .double)) (t' := (.array (.object "com/example/gleitfahrt/gleitfahrt/engine/Regime"))) (by decide) (by decide)))).ext E_14).other W_15 (Or.inr (slot_ne (Or.inl (hw _ (List.mem_of_getElem? (i := 12) rfl))) (Or.inl (hw _ (List.mem_of_getElem? (i := 26) rfl))) (by decide) (t := (.array .double)) (t' := (.array .double)) (by decide) (by decide)))).ext E_16).other W_17 (Or.inr (slot_ne (Or.inl (hw _ (List.mem_of_getElem? (i := 12) rfl))) (Or.inl (hw _ (List.mem_of_getElem? (i := 28) rfl))) (by decide) (t := (.array .double)) (t' := (.array .double)) (by decide) (by decide)))), ((((((((((((Fw_5.ext E_6).other W_7 (Or.inr (slot_ne (Or.inl (hw _ (List.mem_of_getElem? (i := 14) rfl))) (Or.inl (hw _ (List.mem_of_getElem? (i := 16) rfl))) (by decide) (t := (.array .double)) (t' := (.array .double)) (by decide) (by decide)))).ext E_8).other W_9 (Or.inr (slot_ne (Or.inl (hw _ (List.mem_of_getElem? (i := 14) rfl))) (Or.inl (hw _ (List.mem_of_getElem? (i := 18) rfl))) (by decide) (t := (.array .double)) (t' := (.array .double)) (by decide) (by decide)))).ext E_10).other W_11 (Or.inr (slot_ne (Or.inl (hw _ (List.mem_of_getElem? (i := 14) rfl))) (Or.inl (hw _ (List.mem_of_getElem? (i := 20) rfl))) (by decide) (t := (.array .double)) (t' := (.array .double)) (by decide) (by decide)))).ext E_12).other W_13 (Or.inr (slot_ne (Or.inl (hw _ (List.mem_of_getElem? (i := 14) rfl))) (Or.inl (hw _ (List.mem_of_getElem? (i := 24) rfl))) (by decide) (t := (.array .double)) (t' := (.array (.object "com/example/gleitfahrt/gleitfahrt/engine/Regime"))) (by decide) (by decide)))).ext E_14).other W_15 (Or.inr (slot_ne (Or.inl (hw _ (List.mem_of_getElem? (i := 14) rfl))) (Or.inl (hw _ (List.mem_of_getElem? (i := 26) rfl))) (by decide) (t := (.array .double)) (t' := (.array .double)) (by decide) (by decide)))).ext E_16).other W_17 (Or.inr (slot_ne (Or.inl (hw _ (List.mem_of_getElem? (i := 14) rfl))) (Or.inl (hw _ (List.mem_of_getElem? (i := 28) rfl))) (by decide) (t := (.array .double)) (t' := (.array .double)) (by decide) (by decide)))), ((((((((((Fw_7.ext E_8).other W_9 (Or.inr (slot_ne (Or.inl (hw _ (List.mem_of_getElem? (i := 16) rfl))) (Or.inl (hw _ (List.mem_of_getElem? (i := 18) rfl))) (by decide) (t := (.array .double)) (t' := (.array .double)) (by decide) (by decide)))).ext E_10).other W_11 (Or.inr (slot_ne (Or.inl (hw _ (List.mem_of_getElem? (i := 16) rfl))) (Or.inl (hw _ (List.mem_of_getElem? (i := 20) rfl))) (by decide) (t := (.array .double)) (t' := (.array .double)) (by decide) (by decide)))).ext E_12).other W_13 (Or.inr (slot_ne (Or.inl (hw _ (List.mem_of_getElem? (i := 16) rfl))) (Or.inl (hw _ (List.mem_of_getElem? (i := 24) rfl))) (by decide) (t := (.array .double)) (t' := (.array (.object "com/example/gleitfahrt/gleitfahrt/engine/Regime"))) (by decide) (by decide)))).ext E_14).other W_15 (Or.inr (slot_ne (Or.inl (hw _ (List.mem_of_getElem? (i := 16) rfl))) (Or.inl (hw _ (List.mem_of_getElem? (i := 26) rfl))) (by decide) (t := (.array .double)) (t' := (.array .double)) (by decide) (by decide)))).ext E_16).other W_17 (Or.inr (slot_ne (Or.inl (hw _ (List.mem_of_getElem? (i := 16) rfl))) (Or.inl (hw _ (List.mem_of_getElem? (i := 28) rfl))) (by decide) (t := (.array .double)) (t' := (.array .double)) (by decide) (by decide)))), ((((((((Fw_9.ext E_10).other W_11 (Or.inr (slot_ne (Or.inl (hw _ (List.mem_of_getElem? (i := 18) rfl))) (Or.inl (hw _ (List.mem_of_getElem? (i := 20) rfl))) (by decide) (t := (.array .double)) (t' := (.array .double)) (by decide) (by decide)))).ext E_12).other W_13 (Or.inr (slot_ne (Or.inl (hw _ (List.mem_of_getElem? (i := 18) rfl))) (Or.inl (hw _ (List.mem_of_getElem? (i := 24) rfl))) (by decide) (t := (.array .double)) (t' := (.array (.object "com/example/gleitfahrt/gleitfahrt/engine/Regime"))) (by decide) (by decide)))).ext E_14).other W_15 (Or.inr (slot_ne (Or.inl (hw _ (List.mem_of_getElem? (i := 18) rfl))) (Or.inl (hw _ (List.mem_of_getElem? (i := 26) rfl))) (by decide) (t := (.array .double)) (t' := (.array .double)) (by decide) (by decide)))).ext E_16).other W_17 (Or.inr (slot_ne (Or.inl (hw _ (List.mem_of_getElem? (i := 18) rfl))) (Or.inl (hw _ (List.mem_of_getElem? (i := 28) rfl))) (by decide) (t := (.array .double)) (t' := (.array .double)) (by decide) (by decide)))), ((((((Fw_11.ext E_12).other W_13 (Or.inr (slot_ne (Or.inl (hw _ (List.mem_of_getElem? (i := 20) rfl))) (Or.inl (hw _ (List.mem_of_getElem? (i := 24) rfl))) (by decide) (t := (.array .double)) (t' := (.array (.object "com/example/gleitfahrt/gleitfahrt/engine/Regime"))) (by decide) (by decide)))).ext E_14).other W_15 (Or.inr (slot_ne (Or.inl (hw _ (List.mem_of_getElem? (i := 20) rfl))) (Or.inl (hw _ (List.mem_of_getElem? (i := 26) rfl))) (by decide) (t := (.array .double)) (t' := (.array .double)) (by decide) (by decide)))).ext E_16).other W_17 (Or.inr (slot_ne (Or.inl (hw _ (List.mem_of_getElem? (i := 20) rfl))) (Or.inl (hw _ (List.mem_of_getElem? (i := 28) rfl))) (by decide) (t := (.array .double)) (t' := (.array .double)) (by decide) (by decide)))), ((((Fw_13.ext E_14).other W_15 (Or.inr (slot_ne (Or.inl (hw _ (List.mem_of_getElem? (i := 24) rfl))) (Or.inl (hw _ (List.mem_of_getElem? (i := 26) rfl))) (by decide) (t := (.array (.object "com/example/gleitfahrt/gleitfahrt/engine/Regime"))) (t' := (.array .double)) (by decide) (by decide)))).ext E_16).other W_17 (Or.inr (slot_ne (Or.inl (hw _ (List.mem_of_getElem? (i := 24) rfl))) (Or.inl (hw _ (List.mem_of_getElem? (i := 28) rfl))) (by decide) (t := (.array (.object "com/example/gleitfahrt/gleitfahrt/engine/Regime"))) (t' := (.array .double)) (by decide) (by decide)))), ((Fw_15.ext E_16).other W_17 (Or.inr (slot_ne (Or.inl (hw _ (List.mem_of_getElem? (i := 26) rfl))) (Or.inl (hw _ (List.mem_of_getElem? (i := 28) rfl))) (by decide) (t := (.array .double)) (t' := (.array .double)) (by decide) (by decide)))), Fw_17, ((((((((((((((((F8.ext E_2).other W_3 (Or.inr (slot_ne (Or.inl (hw _ (List.mem_of_getElem? (i := 35) rfl))) (Or.inl (hw _ (List.mem_of_getElem? (i := 12) rfl))) (by decide) (t := .int) (t' := (.array .double)) (by decide) (by decide)))).ext E_4).other W_5 (Or.inr (slot_ne (Or.inl (hw _ (List.mem_of_getElem? (i := 35) rfl))) (Or.inl (hw _ (List.mem_of_getElem? (i := 14) rfl))) (by decide) (t := .int) (t' := (.array .double)) (by decide) (by decide)))).ext E_6).other W_7 (Or.inr (slot_ne (Or.inl (hw _ (List.mem_of_getElem? (i := 35) rfl))) (Or.inl (hw _ (List.mem_of_getElem? (i := 16) rfl))) (by decide) (t := .int) (t' := (.array .double)) (by decide) (by decide)))).ext E_8).other W_9 (Or.inr (slot_ne (Or.inl (hw _ (List.mem_of_getElem? (i := 35) rfl))) (Or.inl (hw _ (List.mem_of_getElem? (i := 18) rfl))) (by decide) (t := .int) (t' := (.array .double)) (by decide) (by decide)))).ext E_10).other W_11 (Or.inr (slot_ne (Or.inl (hw _ (List.mem_of_getElem? (i := 35) rfl))) (Or.inl (hw _ (List.mem_of_getElem? (i := 20) rfl))) (by decide) (t := .int) (t' := (.array .double)) (by decide) (by decide)))).ext E_12).other W_13 (Or.inr (slot_ne (Or.inl (hw _ (List.mem_of_getElem? (i := 35) rfl))) (Or.inl (hw _ (List.mem_of_getElem? (i := 24) rfl))) (by decide) (t := .int) (t' := (.array (.object "com/example/gleitfahrt/gleitfahrt/engine/Regime"))) (by decide) (by decide)))).ext E_14).other W_15 (Or.inr (slot_ne (Or.inl (hw _ (List.mem_of_getElem? (i := 35) rfl))) (Or.inl (hw _ (List.mem_of_getElem? (i := 26) rfl))) (by decide) (t := .int) (t' := (.array .double)) (by decide) (by decide)))).ext E_16).other W_17 (Or.inr (slot_ne (Or.inl (hw _ (List.mem_of_getElem? (i := 35) rfl))) (Or.inl (hw _ (List.mem_of_getElem? (i := 28) rfl))) (by decide) (t := .int) (t' := (.array .double)) (by decide) (by decide)))), (((((((((((((((V_2.other W_3 (Ne.symm ne_a_y0)).ext E_4).other W_5 (Ne.symm ne_a_y0)).ext E_6).other W_7 (Ne.symm ne_a_y0)).ext E_8).other W_9 (Ne.symm ne_a_y0)).ext E_10).other W_11 (Ne.symm ne_a_y0)).ext E_12).other W_13 (Ne.symm ne_a_y0)).ext E_14).other W_15 (Ne.symm ne_a_y0)).ext E_16).other W_17 (Ne.symm ne_a_y0)), (((((((((((((V_4.other W_5 (Ne.symm ne_a_y1)).ext E_6).other W_7 (Ne.symm ne_a_y1)).ext E_8).other W_9 (Ne.symm ne_a_y1)).ext E_10).other W_11 (Ne.symm ne_a_y1)).ext E_12).other W_13 (Ne.symm ne_a_y1)).ext E_14).other W_15 (Ne.symm ne_a_y1)).ext E_16).other W_17 (Ne.symm ne_a_y1)), (((((((((((V_6.other W_7 (Ne.symm ne_a_y2)).ext E_8).other W_9 (Ne.symm ne_a_y2)).ext E_10).other W_11 (Ne.symm ne_a_y2)).ext E_12).other W_13 (Ne.symm ne_a_y2)).ext E_14).other W_15 (Ne.symm ne_a_y2)).ext E_16).other W_17 (Ne.symm ne_a_y2)), (((((((((V_8.other W_9 (Ne.symm ne_a_y3)).ext E_10).other W_11 (Ne.symm ne_a_y3)).ext E_12).other W_13 (Ne.symm ne_a_y3)).ext E_14).other W_15 (Ne.symm ne_a_y3)).ext E_16).other W_17 (Ne.symm ne_a_y3)), (((((((V_10.other W_11 (Ne.symm ne_a_y4)).ext E_12).other W_13 (Ne.symm ne_a_y4)).ext E_14).other W_15 (Ne.symm ne_a_y4)).ext E_16).other W_17 (Ne.symm ne_a_y4)), (((((V_12.other W_13 (Ne.symm ne_a_y5)).ext E_14).other W_15 (Ne.symm ne_a_y5)).ext E_16).other W_17 (Ne.symm ne_a_y5)), (((V_14.other W_15 (Ne.symm ne_a_y6)).ext E_16).other W_17 (Ne.symm ne_a_y6)), (V_16.other W_17 (Ne.symm ne_a_y7))⟩)
theorem d2_0 : decode prog_5_method_2_code 0 = .ok (.aload_n 0, 1) := by decide +kernel
theorem d2_1 : decode prog_5_method_2_code 1 = .ok (.getfield 37, 3) := by decide +kernel
theorem d2_4 : decode prog_5_method_2_code 4 = .ok (.aload_n 0, 1) := by decide +kernel
theorem d2_5 : decode prog_5_method_2_code 5 = .ok (.getfield 7, 3) := by decide +kernel
theorem d2_8 : decode prog_5_method_2_code 8 = .ok (.arraylength, 1) := by decide +kernel
theorem d2_9 : decode prog_5_method_2_code 9 = .ok (.if_icmp .ne 118, 3) := by decide +kernel
theorem d2_127 : decode prog_5_method_2_code 127 = .ok (.aload_n 0, 1) := by decide +kernel
theorem d2_128 : decode prog_5_method_2_code 128 = .ok (.getfield 7, 3) := by decide +kernel
theorem d2_131 : decode prog_5_method_2_code 131 = .ok (.aload_n 0, 1) := by decide +kernel
theorem d2_132 : decode prog_5_method_2_code 132 = .ok (.getfield 37, 3) := by decide +kernel
theorem d2_135 : decode prog_5_method_2_code 135 = .ok (.dload_n 1, 1) := by decide +kernel
theorem d2_136 : decode prog_5_method_2_code 136 = .ok (.dastore, 1) := by decide +kernel
theorem d2_137 : decode prog_5_method_2_code 137 = .ok (.aload_n 0, 1) := by decide +kernel
theorem d2_138 : decode prog_5_method_2_code 138 = .ok (.getfield 13, 3) := by decide +kernel
theorem d2_141 : decode prog_5_method_2_code 141 = .ok (.aload_n 0, 1) := by decide +kernel
theorem d2_142 : decode prog_5_method_2_code 142 = .ok (.getfield 37, 3) := by decide +kernel
theorem d2_145 : decode prog_5_method_2_code 145 = .ok (.dload_n 3, 1) := by decide +kernel
theorem d2_146 : decode prog_5_method_2_code 146 = .ok (.dastore, 1) := by decide +kernel
theorem d2_147 : decode prog_5_method_2_code 147 = .ok (.aload_n 0, 1) := by decide +kernel
theorem d2_148 : decode prog_5_method_2_code 148 = .ok (.getfield 16, 3) := by decide +kernel
theorem d2_151 : decode prog_5_method_2_code 151 = .ok (.aload_n 0, 1) := by decide +kernel
theorem d2_152 : decode prog_5_method_2_code 152 = .ok (.getfield 37, 3) := by decide +kernel
theorem d2_155 : decode prog_5_method_2_code 155 = .ok (.dload 5, 2) := by decide +kernel
theorem d2_157 : decode prog_5_method_2_code 157 = .ok (.dastore, 1) := by decide +kernel
theorem d2_158 : decode prog_5_method_2_code 158 = .ok (.aload_n 0, 1) := by decide +kernel
theorem d2_159 : decode prog_5_method_2_code 159 = .ok (.getfield 19, 3) := by decide +kernel
theorem d2_162 : decode prog_5_method_2_code 162 = .ok (.aload_n 0, 1) := by decide +kernel
theorem d2_163 : decode prog_5_method_2_code 163 = .ok (.getfield 37, 3) := by decide +kernel
theorem d2_166 : decode prog_5_method_2_code 166 = .ok (.dload 7, 2) := by decide +kernel
theorem d2_168 : decode prog_5_method_2_code 168 = .ok (.dastore, 1) := by decide +kernel
theorem d2_169 : decode prog_5_method_2_code 169 = .ok (.aload_n 0, 1) := by decide +kernel
theorem d2_170 : decode prog_5_method_2_code 170 = .ok (.getfield 22, 3) := by decide +kernel
theorem d2_173 : decode prog_5_method_2_code 173 = .ok (.aload_n 0, 1) := by decide +kernel
theorem d2_174 : decode prog_5_method_2_code 174 = .ok (.getfield 37, 3) := by decide +kernel
theorem d2_177 : decode prog_5_method_2_code 177 = .ok (.dload 9, 2) := by decide +kernel
theorem d2_179 : decode prog_5_method_2_code 179 = .ok (.dastore, 1) := by decide +kernel
theorem d2_180 : decode prog_5_method_2_code 180 = .ok (.aload_n 0, 1) := by decide +kernel
theorem d2_181 : decode prog_5_method_2_code 181 = .ok (.getfield 27, 3) := by decide +kernel
theorem d2_184 : decode prog_5_method_2_code 184 = .ok (.aload_n 0, 1) := by decide +kernel
theorem d2_185 : decode prog_5_method_2_code 185 = .ok (.getfield 37, 3) := by decide +kernel
theorem d2_188 : decode prog_5_method_2_code 188 = .ok (.aload 11, 2) := by decide +kernel
theorem d2_190 : decode prog_5_method_2_code 190 = .ok (.aastore, 1) := by decide +kernel
theorem d2_191 : decode prog_5_method_2_code 191 = .ok (.aload_n 0, 1) := by decide +kernel
theorem d2_192 : decode prog_5_method_2_code 192 = .ok (.getfield 31, 3) := by decide +kernel
theorem d2_195 : decode prog_5_method_2_code 195 = .ok (.aload_n 0, 1) := by decide +kernel
theorem d2_196 : decode prog_5_method_2_code 196 = .ok (.getfield 37, 3) := by decide +kernel
theorem d2_199 : decode prog_5_method_2_code 199 = .ok (.dload 12, 2) := by decide +kernel
theorem d2_201 : decode prog_5_method_2_code 201 = .ok (.dastore, 1) := by decide +kernel
theorem d2_202 : decode prog_5_method_2_code 202 = .ok (.aload_n 0, 1) := by decide +kernel
theorem d2_203 : decode prog_5_method_2_code 203 = .ok (.getfield 34, 3) := by decide +kernel
theorem d2_206 : decode prog_5_method_2_code 206 = .ok (.aload_n 0, 1) := by decide +kernel
theorem d2_207 : decode prog_5_method_2_code 207 = .ok (.getfield 37, 3) := by decide +kernel
theorem d2_210 : decode prog_5_method_2_code 210 = .ok (.dload 14, 2) := by decide +kernel
theorem d2_212 : decode prog_5_method_2_code 212 = .ok (.dastore, 1) := by decide +kernel
theorem d2_213 : decode prog_5_method_2_code 213 = .ok (.aload_n 0, 1) := by decide +kernel
theorem d2_214 : decode prog_5_method_2_code 214 = .ok (.dup, 1) := by decide +kernel
theorem d2_215 : decode prog_5_method_2_code 215 = .ok (.getfield 37, 3) := by decide +kernel
theorem d2_218 : decode prog_5_method_2_code 218 = .ok (.iconst 1, 1) := by decide +kernel
theorem d2_219 : decode prog_5_method_2_code 219 = .ok (.iadd, 1) := by decide +kernel
theorem d2_220 : decode prog_5_method_2_code 220 = .ok (.putfield 37, 3) := by decide +kernel
theorem d2_223 : decode prog_5_method_2_code 223 = .ok (.return_, 1) := by decide +kernel
theorem pn_2 : plainName "com/example/gleitfahrt/gleitfahrt/engine/Course$Builder" = true := by first | (simp [plainName, overriddenIn]; done) | decide +kernel
theorem ef_2 (m : MethodId) (x0 : Addr) (x1 : UInt64) (x2 : UInt64) (x3 : UInt64) (x4 : UInt64) (x5 : UInt64) (x6 : Addr) (x7 : UInt64) (x8 : UInt64) : entryFrame m #[(.ref x0), (.double x1), (.double x2), (.double x3), (.double x4), (.double x5), (.ref x6), (.double x7), (.double x8)] 17 = mkF m 0 #[.val (.ref x0), .val (.double x1), .second, .val (.double x2), .second, .val (.double x3), .second, .val (.double x4), .second, .val (.double x5), .second, .val (.ref x6), .val (.double x7), .second, .val (.double x8), .second, .unset] [] := by first | (simp [entryFrame, mkF, argsToLocals, Value.category]; done) | rfl
def Q2 (Z : State) (a : Addr) (d1 : UInt64) (d2 : UInt64) (d3 : UInt64) (d4 : UInt64) (d5 : UInt64) (rg : Addr) (d6 : UInt64) (d7 : UInt64) (x0 : Addr) (x1 : Addr) (x2 : Addr) (x3 : Addr) (x4 : Addr) (x5 : Addr) (x6 : Addr) (x7 : Addr) (k0 : ClassId) (k1 : ClassId) (k2 : ClassId) (k3 : ClassId) (k4 : ClassId) (k5 : ClassId) (k6 : ClassId) (k7 : ClassId) (h0 : Heap) (n0 : Nat) (v : Option Value) (h : Heap) (L : List Loc) : Prop := v = none ∧ Fr n0 L ∧ Keep h0 h [a, x0, x1, x2, x3, x4, x5, x6, x7] ∧ Exa Z h a "com/example/gleitfahrt/gleitfahrt/engine/Course$Builder" ∧ Fld Z h a "com/example/gleitfahrt/gleitfahrt/engine/Course$Builder" "positions" "[D" (.ref x0) ∧ Fld Z h a "com/example/gleitfahrt/gleitfahrt/engine/Course$Builder" "times" "[D" (.ref x1) ∧ Fld Z h a "com/example/gleitfahrt/gleitfahrt/engine/Course$Builder" "speeds" "[D" (.ref x2) ∧ Fld Z h a "com/example/gleitfahrt/gleitfahrt/engine/Course$Builder" "drawn" "[D" (.ref x3) ∧ Fld Z h a "com/example/gleitfahrt/gleitfahrt/engine/Course$Builder" "recovered" "[D" (.ref x4) ∧ Fld Z h a "com/example/gleitfahrt/gleitfahrt/engine/Course$Builder" "regimes" "[Lcom/example/gleitfahrt/gleitfahrt/engine/Regime;" (.ref x5) ∧ Fld Z h a "com/example/gleitfahrt/gleitfahrt/engine/Course$Builder" "targets" "[D" (.ref x6) ∧ Fld Z h a "com/example/gleitfahrt/gleitfahrt/engine/Course$Builder" "peaks" "[D" (.ref x7) ∧ Fld Z h a "com/example/gleitfahrt/gleitfahrt/engine/Course$Builder" "size" "I" (.int (1 : Int32)) ∧ Arv Z h x0 k0 .double (64 : Int32) [(.double d1), (.double (0 : UInt64))] (.double (0 : UInt64)) ∧ Arv Z h x1 k1 .double (64 : Int32) [(.double d2), (.double (0 : UInt64))] (.double (0 : UInt64)) ∧ Arv Z h x2 k2 .double (64 : Int32) [(.double d3), (.double (0 : UInt64))] (.double (0 : UInt64)) ∧ Arv Z h x3 k3 .double (64 : Int32) [(.double d4), (.double (0 : UInt64))] (.double (0 : UInt64)) ∧ Arv Z h x4 k4 .double (64 : Int32) [(.double d5), (.double (0 : UInt64))] (.double (0 : UInt64)) ∧ Arv Z h x5 k5 (.object "com/example/gleitfahrt/gleitfahrt/engine/Regime") (64 : Int32) [(.ref rg), .null] .null ∧ Arv Z h x6 k6 .double (64 : Int32) [(.double d6), (.double (0 : UInt64))] (.double (0 : UInt64)) ∧ Arv Z h x7 k7 .double (64 : Int32) [(.double d7), (.double (0 : UInt64))] (.double (0 : UInt64))
set_option maxRecDepth 65536 in
set_option maxHeartbeats 40000000 in
theorem rm2 (l : Launch) (Z : State) (a0 : Array Value) (hw : ∀ d ∈ tables_1, d.before a0 Z = true) (ws : List Jvm.Cond) (a : Addr) (d1 : UInt64) (d2 : UInt64) (d3 : UInt64) (d4 : UInt64) (d5 : UInt64) (rg : Addr) (d6 : UInt64) (d7 : UInt64) (x0 : Addr) (x1 : Addr) (x2 : Addr) (x3 : Addr) (x4 : Addr) (x5 : Addr) (x6 : Addr) (x7 : Addr) (k0 : ClassId) (k1 : ClassId) (k2 : ClassId) (k3 : ClassId) (k4 : ClassId) (k5 : ClassId) (k6 : ClassId) (k7 : ClassId) (h0 : Heap) (n0 : Nat) (Z0 : n0 ≤ h0.size) (E_a : Exa Z h0 a "com/example/gleitfahrt/gleitfahrt/engine/Course$Builder") (E_rg : Exa Z h0 rg "com/example/gleitfahrt/gleitfahrt/engine/Regime") (g_a : n0 ≤ a) (hch : a < x0 ∧ x0 < x1 ∧ x1 < x2 ∧ x2 < x3 ∧ x3 < x4 ∧ x4 < x5 ∧ x5 < x6 ∧ x6 < x7) (Ov : Ovr Z k5 "com/example/gleitfahrt/gleitfahrt/engine/Regime") (Fx0 : Fld Z h0 a "com/example/gleitfahrt/gleitfahrt/engine/Course$Builder" "positions" "[D" (.ref x0)) (Fx1 : Fld Z h0 a "com/example/gleitfahrt/gleitfahrt/engine/Course$Builder" "times" "[D" (.ref x1)) (Fx2 : Fld Z h0 a "com/example/gleitfahrt/gleitfahrt/engine/Course$Builder" "speeds" "[D" (.ref x2)) (Fx3 : Fld Z h0 a "com/example/gleitfahrt/gleitfahrt/engine/Course$Builder" "drawn" "[D" (.ref x3)) (Fx4 : Fld Z h0 a "com/example/gleitfahrt/gleitfahrt/engine/Course$Builder" "recovered" "[D" (.ref x4)) (Fx5 : Fld Z h0 a "com/example/gleitfahrt/gleitfahrt/engine/Course$Builder" "regimes" "[Lcom/example/gleitfahrt/gleitfahrt/engine/Regime;" (.ref x5)) (Fx6 : Fld Z h0 a "com/example/gleitfahrt/gleitfahrt/engine/Course$Builder" "targets" "[D" (.ref x6)) (Fx7 : Fld Z h0 a "com/example/gleitfahrt/gleitfahrt/engine/Course$Builder" "peaks" "[D" (.ref x7)) (Fsz : Fld Z h0 a "com/example/gleitfahrt/gleitfahrt/engine/Course$Builder" "size" "I" (.int (0 : Int32))) (Va0 : Arv Z h0 x0 k0 .double (64 : Int32) [(.double (0 : UInt64)), (.double (0 : UInt64))] (.double (0 : UInt64))) (Va1 : Arv Z h0 x1 k1 .double (64 : Int32) [(.double (0 : UInt64)), (.double (0 : UInt64))] (.double (0 : UInt64))) (Va2 : Arv Z h0 x2 k2 .double (64 : Int32) [(.double (0 : UInt64)), (.double (0 : UInt64))] (.double (0 : UInt64))) (Va3 : Arv Z h0 x3 k3 .double (64 : Int32) [(.double (0 : UInt64)), (.double (0 : UInt64))] (.double (0 : UInt64))) (Va4 : Arv Z h0 x4 k4 .double (64 : Int32) [(.double (0 : UInt64)), (.double (0 : UInt64))] (.double (0 : UInt64))) (Va5 : Arv Z h0 x5 k5 (.object "com/example/gleitfahrt/gleitfahrt/engine/Regime") (64 : Int32) [.null, .null] .null) (Va6 : Arv Z h0 x6 k6 .double (64 : Int32) [(.double (0 : UInt64)), (.double (0 : UInt64))] (.double (0 : UInt64))) (Va7 : Arv Z h0 x7 k7 .double (64 : Int32) [(.double (0 : UInt64)), (.double (0 : UInt64))] (.double (0 : UInt64))) :
    MetFree l (⟨"com/example/gleitfahrt/gleitfahrt/engine/Course$Builder", "add", "(DDDDDLcom/example/gleitfahrt/gleitfahrt/engine/Regime;DD)V"⟩ : MethodName) (head1 (Jvm.Cond.code (⟨"com/example/gleitfahrt/gleitfahrt/engine/Course$Builder", "add", "(DDDDDLcom/example/gleitfahrt/gleitfahrt/engine/Regime;DD)V"⟩ : MethodName) prog_5_method_2_code 17 none :: ws) ({ frames := 0, cells := 0, slots := 0, locals := 0 } : Room)) (fun a_ U => a_ = #[(.ref a), (.double d1), (.double d2), (.double d3), (.double d4), (.double d5), (.ref rg), (.double d6), (.double d7)] ∧ Z.Warmed39 U.vm ∧ U.heap = h0) (fun _ _ _ _ _ => True) (fun _ U o U' => ∃ v L, o = .returned v ∧ Q2 Z a d1 d2 d3 d4 d5 rg d6 d7 x0 x1 x2 x3 x4 x5 x6 x7 k0 k1 k2 k3 k4 k5 k6 k7 h0 n0 v U'.heap L ∧ FrameEnd U o U' L (({ frames := 0, cells := 0, slots := 0, locals := 0 } : Room)).cells (({ frames := 0, cells := 0, slots := 0, locals := 0 } : Room)).slots) := by
  refine MetFree.of_bodySF (plainFor_of_name pn_2) hisR ?_
  intro p e s m args below meth c s₁ Bd hml0 hP0 hK
  obtain ⟨rfl, hZ, hh⟩ := hP0
  have hx := Bd.exec
  have hby := Bd.bytes
  have hml : c.maxLocals = 17 := hml0
  have hown : s.vm.findClass "com/example/gleitfahrt/gleitfahrt/engine/Course$Builder" = some m.cls := findClass_of_methodNamed Bd.named
  have hnm := (name_of_methodNamed Bd.named Bd.method).1
  have X0 : Stand p l e ({ frames := 0, cells := 0, slots := 0, locals := 0 } : Room) s m #[(.ref a), (.double d1), (.double d2), (.double d3), (.double d4), (.double d5), (.ref rg), (.double d6), (.double d7)] below meth c s₁ [] 0 0 := Stand.of_body Bd
  have e0 : s₁.heap = h0 := by rw [← hh, Bd.state]; rfl
  have N0 := Fr.nil n0
  have hlk : meth.locks = false := BodyLoose.notSynchronized Bd
  refine Go.start (P₀ := fun s₂ o => ∃ v L, o = .returned v ∧ Q2 Z a d1 d2 d3 d4 d5 rg d6 d7 x0 x1 x2 x3 x4 x5 x6 x7 k0 k1 k2 k3 k4 k5 k6 k7 h0 n0 v s₂.heap L ∧ FrameEnd s o s₂ L (({ frames := 0, cells := 0, slots := 0, locals := 0 } : Room)).cells (({ frames := 0, cells := 0, slots := 0, locals := 0 } : Room)).slots) (congrArg s₁.setTop (ef_2 m a d1 d2 d3 d4 d5 rg d6 d7)) ?_
  intro P hP
  show Go p.tables e below P (s₁.setTop (mkF m 0 #[.val (.ref a), .val (.double d1), .second, .val (.double d2), .second, .val (.double d3), .second, .val (.double d4), .second, .val (.double d5), .second, .val (.ref rg), .val (.double d6), .second, .val (.double d7), .second, .unset] []))
  obtain ⟨c0, c1, c2, c3, c4, c5, c6, c7⟩ := hch
  have l_0_1 : a < x0 := c0
  have l_0_2 : a < x1 := Nat.lt_trans l_0_1 c1
  have l_0_3 : a < x2 := Nat.lt_trans l_0_2 c2
  have l_0_4 : a < x3 := Nat.lt_trans l_0_3 c3
  have l_0_5 : a < x4 := Nat.lt_trans l_0_4 c4
  have l_0_6 : a < x5 := Nat.lt_trans l_0_5 c5
  have l_0_7 : a < x6 := Nat.lt_trans l_0_6 c6
  have l_0_8 : a < x7 := Nat.lt_trans l_0_7 c7
  have l_1_2 : x0 < x1 := c1
  have l_1_3 : x0 < x2 := Nat.lt_trans l_1_2 c2
  have l_1_4 : x0 < x3 := Nat.lt_trans l_1_3 c3
  have l_1_5 : x0 < x4 := Nat.lt_trans l_1_4 c4
  have l_1_6 : x0 < x5 := Nat.lt_trans l_1_5 c5
  have l_1_7 : x0 < x6 := Nat.lt_trans l_1_6 c6
  have l_1_8 : x0 < x7 := Nat.lt_trans l_1_7 c7
  have l_2_3 : x1 < x2 := c2
  have l_2_4 : x1 < x3 := Nat.lt_trans l_2_3 c3
  have l_2_5 : x1 < x4 := Nat.lt_trans l_2_4 c4
  have l_2_6 : x1 < x5 := Nat.lt_trans l_2_5 c5
  have l_2_7 : x1 < x6 := Nat.lt_trans l_2_6 c6
  have l_2_8 : x1 < x7 := Nat.lt_trans l_2_7 c7
  have l_3_4 : x2 < x3 := c3
  have l_3_5 : x2 < x4 := Nat.lt_trans l_3_4 c4
  have l_3_6 : x2 < x5 := Nat.lt_trans l_3_5 c5
  have l_3_7 : x2 < x6 := Nat.lt_trans l_3_6 c6
  have l_3_8 : x2 < x7 := Nat.lt_trans l_3_7 c7
  have l_4_5 : x3 < x4 := c4
  have l_4_6 : x3 < x5 := Nat.lt_trans l_4_5 c5
  have l_4_7 : x3 < x6 := Nat.lt_trans l_4_6 c6
  have l_4_8 : x3 < x7 := Nat.lt_trans l_4_7 c7
  have l_5_6 : x4 < x5 := c5
  have l_5_7 : x4 < x6 := Nat.lt_trans l_5_6 c6
  have l_5_8 : x4 < x7 := Nat.lt_trans l_5_7 c7
  have l_6_7 : x5 < x6 := c6
  have l_6_8 : x5 < x7 := Nat.lt_trans l_6_7 c7
  have l_7_8 : x6 < x7 := c7
  have g_x0 : n0 ≤ x0 := Nat.le_trans g_a (Nat.le_of_lt l_0_1)
  have g_x1 : n0 ≤ x1 := Nat.le_trans g_a (Nat.le_of_lt l_0_2)
  have g_x2 : n0 ≤ x2 := Nat.le_trans g_a (Nat.le_of_lt l_0_3)
  have g_x3 : n0 ≤ x3 := Nat.le_trans g_a (Nat.le_of_lt l_0_4)
  have g_x4 : n0 ≤ x4 := Nat.le_trans g_a (Nat.le_of_lt l_0_5)
  have g_x5 : n0 ≤ x5 := Nat.le_trans g_a (Nat.le_of_lt l_0_6)
  have g_x6 : n0 ≤ x6 := Nat.le_trans g_a (Nat.le_of_lt l_0_7)
  have g_x7 : n0 ≤ x7 := Nat.le_trans g_a (Nat.le_of_lt l_0_8)
  refine Go.step (fun t k => XS.aloadN X0.here hx rfl (hb hby d2_0) rfl rfl k) ?_
  show Go p.tables e below P (s₁.setTop (mkF m 1 #[.val (.ref a), .val (.double d1), .second, .val (.double d2), .second, .val (.double d3), .second, .val (.double d4), .second, .val (.double d5), .second, .val (.ref rg), .val (.double d6), .second, .val (.double d7), .second, .unset] [(.ref a)]))
  obtain ⟨T_1, X_1, e_1, st_1⟩ := getF X0 hx hZ hown (host := "") (Or.inl (hw _ (List.mem_of_getElem? (i := 34) rfl))) Via.refl e0 Fsz (g := (mkF m 1 #[.val (.ref a), .val (.double d1), .second, .val (.double d2), .second, .val (.double d3), .second, .val (.double d4), .second, .val (.double d5), .second, .val (.ref rg), .val (.double d6), .second, .val (.double d7), .second, .unset] [(.ref a)])) rfl rfl (hb hby d2_1)
  refine Go.step (fun t k => st_1 t k) ?_
  show Go p.tables e below P (T_1.setTop (mkF m 4 #[.val (.ref a), .val (.double d1), .second, .val (.double d2), .second, .val (.double d3), .second, .val (.double d4), .second, .val (.double d5), .second, .val (.ref rg), .val (.double d6), .second, .val (.double d7), .second, .unset] [(.int (0 : Int32))]))
  refine Go.step (fun t k => XS.aloadN X_1.here hx rfl (hb hby d2_4) rfl rfl k) ?_
  show Go p.tables e below P (T_1.setTop (mkF m 5 #[.val (.ref a), .val (.double d1), .second, .val (.double d2), .second, .val (.double d3), .second, .val (.double d4), .second, .val (.double d5), .second, .val (.ref rg), .val (.double d6), .second, .val (.double d7), .second, .unset] [(.ref a), (.int (0 : Int32))]))
  obtain ⟨T_2, X_2, e_2, st_2⟩ := getF X_1 hx hZ hown (host := "") (Or.inl (hw _ (List.mem_of_getElem? (i := 11) rfl))) Via.refl e_1 Fx0 (g := (mkF m 5 #[.val (.ref a), .val (.double d1), .second, .val (.double d2), .second, .val (.double d3), .second, .val (.double d4), .second, .val (.double d5), .second, .val (.ref rg), .val (.double d6), .second, .val (.double d7), .second, .unset] [(.ref a), (.int (0 : Int32))])) rfl rfl (hb hby d2_5)
  refine Go.step (fun t k => st_2 t k) ?_
  show Go p.tables e below P (T_2.setTop (mkF m 8 #[.val (.ref a), .val (.double d1), .second, .val (.double d2), .second, .val (.double d3), .second, .val (.double d4), .second, .val (.double d5), .second, .val (.ref rg), .val (.double d6), .second, .val (.double d7), .second, .unset] [(.ref x0), (.int (0 : Int32))]))
  have vq_3 := Va0
  obtain ⟨cl_3, Ar_3, q_3, S_3, Nn_3, H_3, G_3⟩ := vq_3
  refine Go.step (fun t k => X_2.arraylength hx (by rw [e_2]; exact Ar_3.1) (State.isArrayOf_alike hZ.alike Ar_3.2.1) (g := (mkF m 8 #[.val (.ref a), .val (.double d1), .second, .val (.double d2), .second, .val (.double d3), .second, .val (.double d4), .second, .val (.double d5), .second, .val (.ref rg), .val (.double d6), .second, .val (.double d7), .second, .unset] [(.ref x0), (.int (0 : Int32))])) rfl rfl (hb hby d2_8) t k) ?_
  rw [len_of S_3 Nn_3]
  show Go p.tables e below P (T_2.setTop (mkF m 9 #[.val (.ref a), .val (.double d1), .second, .val (.double d2), .second, .val (.double d3), .second, .val (.double d4), .second, .val (.double d5), .second, .val (.ref rg), .val (.double d6), .second, .val (.double d7), .second, .unset] [(.int (64 : Int32)), (.int (0 : Int32))]))
  refine Go.step (fun t k => XS.icmpYes X_2.here hx rfl (pc0 := 9) (pc' := 127) rfl (hb hby d2_9) rfl (icY (cd := .ne) (by decide : ¬ (0 : Int) = (64 : Int))) (by decide) (by decide) k) ?_
  show Go p.tables e below P (T_2.setTop (mkF m 127 #[.val (.ref a), .val (.double d1), .second, .val (.double d2), .second, .val (.double d3), .second, .val (.double d4), .second, .val (.double d5), .second, .val (.ref rg), .val (.double d6), .second, .val (.double d7), .second, .unset] []))
  refine Go.step (fun t k => XS.aloadN X_2.here hx rfl (hb hby d2_127) rfl rfl k) ?_
  show Go p.tables e below P (T_2.setTop (mkF m 128 #[.val (.ref a), .val (.double d1), .second, .val (.double d2), .second, .val (.double d3), .second, .val (.double d4), .second, .val (.double d5), .second, .val (.ref rg), .val (.double d6), .second, .val (.double d7), .second, .unset] [(.ref a)]))
  obtain ⟨T_4, X_4, e_4, st_4⟩ := getF X_2 hx hZ hown (host := "") (Or.inl (hw _ (List.mem_of_getElem? (i := 11) rfl))) Via.refl e_2 Fx0 (g := (mkF m 128 #[.val (.ref a), .val (.double d1), .second, .val (.double d2), .second, .val (.double d3), .second, .val (.double d4), .second, .val (.double d5), .second, .val (.ref rg), .val (.double d6), .second, .val (.double d7), .second, .unset] [(.ref a)])) rfl rfl (hb hby d2_128)
  refine Go.step (fun t k => st_4 t k) ?_
  show Go p.tables e below P (T_4.setTop (mkF m 131 #[.val (.ref a), .val (.double d1), .second, .val (.double d2), .second, .val (.double d3), .second, .val (.double d4), .second, .val (.double d5), .second, .val (.ref rg), .val (.double d6), .second, .val (.double d7), .second, .unset] [(.ref x0)]))
  refine Go.step (fun t k => XS.aloadN X_4.here hx rfl (hb hby d2_131) rfl rfl k) ?_
  show Go p.tables e below P (T_4.setTop (mkF m 132 #[.val (.ref a), .val (.double d1), .second, .val (.double d2), .second, .val (.double d3), .second, .val (.double d4), .second, .val (.double d5), .second, .val (.ref rg), .val (.double d6), .second, .val (.double d7), .second, .unset] [(.ref a), (.ref x0)]))
  obtain ⟨T_5, X_5, e_5, st_5⟩ := getF X_4 hx hZ hown (host := "") (Or.inl (hw _ (List.mem_of_getElem? (i := 34) rfl))) Via.refl e_4 Fsz (g := (mkF m 132 #[.val (.ref a), .val (.double d1), .second, .val (.double d2), .second, .val (.double d3), .second, .val (.double d4), .second, .val (.double d5), .second, .val (.ref rg), .val (.double d6), .second, .val (.double d7), .second, .unset] [(.ref a), (.ref x0)])) rfl rfl (hb hby d2_132)
  refine Go.step (fun t k => st_5 t k) ?_
  show Go p.tables e below P (T_5.setTop (mkF m 135 #[.val (.ref a), .val (.double d1), .second, .val (.double d2), .second, .val (.double d3), .second, .val (.double d4), .second, .val (.double d5), .second, .val (.ref rg), .val (.double d6), .second, .val (.double d7), .second, .unset] [(.int (0 : Int32)), (.ref x0)]))
  refine Go.step (fun t k => XS.dloadN X_5.here hx rfl (hb hby d2_135) rfl  k) ?_
  show Go p.tables e below P (T_5.setTop (mkF m 136 #[.val (.ref a), .val (.double d1), .second, .val (.double d2), .second, .val (.double d3), .second, .val (.double d4), .second, .val (.double d5), .second, .val (.ref rg), .val (.double d6), .second, .val (.double d7), .second, .unset] [(.double d1), (.int (0 : Int32)), (.ref x0)]))
  have vq_6 := Va0
  obtain ⟨cl_6, Ar_6, q_6, S_6, Nn_6, H_6, G_6⟩ := vq_6
  have hin_6 : ¬ ((0 : Int32) < 0 ∨ cl_6.slots.size ≤ ((0 : Int32)).toNatClampNeg) := inb_of S_6 ⟨by decide, by decide⟩
  obtain ⟨T_7, h_7, X_7, e_7, W_7, st_7⟩ := stD X_5 hx hZ e_5 Ar_6 (j := (0 : Int32)) hin_6 (g := (mkF m 136 #[.val (.ref a), .val (.double d1), .second, .val (.double d2), .second, .val (.double d3), .second, .val (.double d4), .second, .val (.double d5), .second, .val (.ref rg), .val (.double d6), .second, .val (.double d7), .second, .unset] [(.double d1), (.int (0 : Int32)), (.ref x0)])) rfl rfl (hb hby d2_136)
  have V_7 : Arv Z h_7 x0 k0 .double (64 : Int32) [(.double d1), (.double (0 : UInt64))] (.double (0 : UInt64)) := Arv.set Ar_6 q_6 S_6 Nn_6 H_6 G_6 rfl W_7 0 rfl (Nat.le_of_ble_eq_true rfl)
  have N_7 := Fr.snoc X_7 N0 g_x0
  have K_7 : Keep h0 h_7 [a, x0, x1, x2, x3, x4, x5, x6, x7] := (Keep.refl h0 [a, x0, x1, x2, x3, x4, x5, x6, x7]).wr W_7 (Or.inl (List.mem_of_getElem? (i := 1) rfl))
  have Z_7 : n0 ≤ h_7.size := Nat.le_trans Z0 (Keep.of_wr W_7).1
  refine Go.step (fun t k => st_7 t k) ?_
  show Go p.tables e below P (T_7.setTop (mkF m 137 #[.val (.ref a), .val (.double d1), .second, .val (.double d2), .second, .val (.double d3), .second, .val (.double d4), .second, .val (.double d5), .second, .val (.ref rg), .val (.double d6), .second, .val (.double d7), .second, .unset] []))
  refine Go.step (fun t k => XS.aloadN X_7.here hx rfl (hb hby d2_137) rfl rfl k) ?_
  show Go p.tables e below P (T_7.setTop (mkF m 138 #[.val (.ref a), .val (.double d1), .second, .val (.double d2), .second, .val (.double d3), .second, .val (.double d4), .second, .val (.double d5), .second, .val (.ref rg), .val (.double d6), .second, .val (.double d7), .second, .unset] [(.ref a)]))
  obtain ⟨T_8, X_8, e_8, st_8⟩ := getF X_7 hx hZ hown (host := "") (Or.inl (hw _ (List.mem_of_getElem? (i := 13) rfl))) Via.refl e_7 (Fx1.other W_7 (Or.inl (Nat.ne_of_lt l_0_1))) (g := (mkF m 138 #[.val (.ref a), .val (.double d1), .second, .val (.double d2), .second, .val (.double d3), .second, .val (.double d4), .second, .val (.double d5), .second, .val (.ref rg), .val (.double d6), .second, .val (.double d7), .second, .unset] [(.ref a)])) rfl rfl (hb hby d2_138)
  refine Go.step (fun t k => st_8 t k) ?_
  show Go p.tables e below P (T_8.setTop (mkF m 141 #[.val (.ref a), .val (.double d1), .second, .val (.double d2), .second, .val (.double d3), .second, .val (.double d4), .second, .val (.double d5), .second, .val (.ref rg), .val (.double d6), .second, .val (.double d7), .second, .unset] [(.ref x1)]))
  refine Go.step (fun t k => XS.aloadN X_8.here hx rfl (hb hby d2_141) rfl rfl k) ?_
  show Go p.tables e below P (T_8.setTop (mkF m 142 #[.val (.ref a), .val (.double d1), .second, .val (.double d2), .second, .val (.double d3), .second, .val (.double d4), .second, .val (.double d5), .second, .val (.ref rg), .val (.double d6), .second, .val (.double d7), .second, .unset] [(.ref a), (.ref x1)]))
  obtain ⟨T_9, X_9, e_9, st_9⟩ := getF X_8 hx hZ hown (host := "") (Or.inl (hw _ (List.mem_of_getElem? (i := 34) rfl))) Via.refl e_8 (Fsz.other W_7 (Or.inl (Nat.ne_of_lt l_0_1))) (g := (mkF m 142 #[.val (.ref a), .val (.double d1), .second, .val (.double d2), .second, .val (.double d3), .second, .val (.double d4), .second, .val (.double d5), .second, .val (.ref rg), .val (.double d6), .second, .val (.double d7), .second, .unset] [(.ref a), (.ref x1)])) rfl rfl (hb hby d2_142)
  refine Go.step (fun t k => st_9 t k) ?_
  show Go p.tables e below P (T_9.setTop (mkF m 145 #[.val (.ref a), .val (.double d1), .second, .val (.double d2), .second, .val (.double d3), .second, .val (.double d4), .second, .val (.double d5), .second, .val (.ref rg), .val (.double d6), .second, .val (.double d7), .second, .unset] [(.int (0 : Int32)), (.ref x1)]))
  refine Go.step (fun t k => XS.dloadN X_9.here hx rfl (hb hby d2_145) rfl  k) ?_
  show Go p.tables e below P (T_9.setTop (mkF m 146 #[.val (.ref a), .val (.double d1), .second, .val (.double d2), .second, .val (.double d3), .second, .val (.double d4), .second, .val (.double d5), .second, .val (.ref rg), .val (.double d6), .second, .val (.double d7), .second, .unset] [(.double d2), (.int (0 : Int32)), (.ref x1)]))
  have vq_10 := (Va1.other W_7 (Ne.symm (Nat.ne_of_lt l_1_2)))
  obtain ⟨cl_10, Ar_10, q_10, S_10, Nn_10, H_10, G_10⟩ := vq_10
  have hin_10 : ¬ ((0 : Int32) < 0 ∨ cl_10.slots.size ≤ ((0 : Int32)).toNatClampNeg) := inb_of S_10 ⟨by decide, by decide⟩
  obtain ⟨T_11, h_11, X_11, e_11, W_11, st_11⟩ := stD X_9 hx hZ e_9 Ar_10 (j := (0 : Int32)) hin_10 (g := (mkF m 146 #[.val (.ref a), .val (.double d1), .second, .val (.double d2), .second, .val (.double d3), .second, .val (.double d4), .second, .val (.double d5), .second, .val (.ref rg), .val (.double d6), .second, .val (.double d7), .second, .unset] [(.double d2), (.int (0 : Int32)), (.ref x1)])) rfl rfl (hb hby d2_146)
  have V_11 : Arv Z h_11 x1 k1 .double (64 : Int32) [(.double d2), (.double (0 : UInt64))] (.double (0 : UInt64)) := Arv.set Ar_10 q_10 S_10 Nn_10 H_10 G_10 rfl W_11 0 rfl (Nat.le_of_ble_eq_true rfl)
  have N_11 := Fr.snoc X_11 N_7 g_x1
  have K_11 : Keep h0 h_11 [a, x0, x1, x2, x3, x4, x5, x6, x7] := K_7.wr W_11 (Or.inl (List.mem_of_getElem? (i := 2) rfl))
  have Z_11 : n0 ≤ h_11.size := Nat.le_trans Z_7 (Keep.of_wr W_11).1
  refine Go.step (fun t k => st_11 t k) ?_
  show Go p.tables e below P (T_11.setTop (mkF m 147 #[.val (.ref a), .val (.double d1), .second, .val (.double d2), .second, .val (.double d3), .second, .val (.double d4), .second, .val (.double d5), .second, .val (.ref rg), .val (.double d6), .second, .val (.double d7), .second, .unset] []))
  refine Go.step (fun t k => XS.aloadN X_11.here hx rfl (hb hby d2_147) rfl rfl k) ?_
  show Go p.tables e below P (T_11.setTop (mkF m 148 #[.val (.ref a), .val (.double d1), .second, .val (.double d2), .second, .val (.double d3), .second, .val (.double d4), .second, .val (.double d5), .second, .val (.ref rg), .val (.double d6), .second, .val (.double d7), .second, .unset] [(.ref a)]))
  obtain ⟨T_12, X_12, e_12, st_12⟩ := getF X_11 hx hZ hown (host := "") (Or.inl (hw _ (List.mem_of_getElem? (i := 15) rfl))) Via.refl e_11 ((Fx2.other W_7 (Or.inl (Nat.ne_of_lt l_0_1))).other W_11 (Or.inl (Nat.ne_of_lt l_0_2))) (g := (mkF m 148 #[.val (.ref a), .val (.double d1), .second, .val (.double d2), .second, .val (.double d3), .second, .val (.double d4), .second, .val (.double d5), .second, .val (.ref rg), .val (.double d6), .second, .val (.double d7), .second, .unset] [(.ref a)])) rfl rfl (hb hby d2_148)
  refine Go.step (fun t k => st_12 t k) ?_
  show Go p.tables e below P (T_12.setTop (mkF m 151 #[.val (.ref a), .val (.double d1), .second, .val (.double d2), .second, .val (.double d3), .second, .val (.double d4), .second, .val (.double d5), .second, .val (.ref rg), .val (.double d6), .second, .val (.double d7), .second, .unset] [(.ref x2)]))
  refine Go.step (fun t k => XS.aloadN X_12.here hx rfl (hb hby d2_151) rfl rfl k) ?_
  show Go p.tables e below P (T_12.setTop (mkF m 152 #[.val (.ref a), .val (.double d1), .second, .val (.double d2), .second, .val (.double d3), .second, .val (.double d4), .second, .val (.double d5), .second, .val (.ref rg), .val (.double d6), .second, .val (.double d7), .second, .unset] [(.ref a), (.ref x2)]))
  obtain ⟨T_13, X_13, e_13, st_13⟩ := getF X_12 hx hZ hown (host := "") (Or.inl (hw _ (List.mem_of_getElem? (i := 34) rfl))) Via.refl e_12 ((Fsz.other W_7 (Or.inl (Nat.ne_of_lt l_0_1))).other W_11 (Or.inl (Nat.ne_of_lt l_0_2))) (g := (mkF m 152 #[.val (.ref a), .val (.double d1), .second, .val (.double d2), .second, .val (.double d3), .second, .val (.double d4), .second, .val (.double d5), .second, .val (.ref rg), .val (.double d6), .second, .val (.double d7), .second, .unset] [(.ref a), (.ref x2)])) rfl rfl (hb hby d2_152)
  refine Go.step (fun t k => st_13 t k) ?_
  show Go p.tables e below P (T_13.setTop (mkF m 155 #[.val (.ref a), .val (.double d1), .second, .val (.double d2), .second, .val (.double d3), .second, .val (.double d4), .second, .val (.double d5), .second, .val (.ref rg), .val (.double d6), .second, .val (.double d7), .second, .unset] [(.int (0 : Int32)), (.ref x2)]))
  refine Go.step (fun t k => XS.dload X_13.here hx rfl (hb hby d2_155) rfl  k) ?_
  show Go p.tables e below P (T_13.setTop (mkF m 157 #[.val (.ref a), .val (.double d1), .second, .val (.double d2), .second, .val (.double d3), .second, .val (.double d4), .second, .val (.double d5), .second, .val (.ref rg), .val (.double d6), .second, .val (.double d7), .second, .unset] [(.double d3), (.int (0 : Int32)), (.ref x2)]))
  have vq_14 := ((Va2.other W_7 (Ne.symm (Nat.ne_of_lt l_1_3))).other W_11 (Ne.symm (Nat.ne_of_lt l_2_3)))
  obtain ⟨cl_14, Ar_14, q_14, S_14, Nn_14, H_14, G_14⟩ := vq_14
  have hin_14 : ¬ ((0 : Int32) < 0 ∨ cl_14.slots.size ≤ ((0 : Int32)).toNatClampNeg) := inb_of S_14 ⟨by decide, by decide⟩
  obtain ⟨T_15, h_15, X_15, e_15, W_15, st_15⟩ := stD X_13 hx hZ e_13 Ar_14 (j := (0 : Int32)) hin_14 (g := (mkF m 157 #[.val (.ref a), .val (.double d1), .second, .val (.double d2), .second, .val (.double d3), .second, .val (.double d4), .second, .val (.double d5), .second, .val (.ref rg), .val (.double d6), .second, .val (.double d7), .second, .unset] [(.double d3), (.int (0 : Int32)), (.ref x2)])) rfl rfl (hb hby d2_157)
  have V_15 : Arv Z h_15 x2 k2 .double (64 : Int32) [(.double d3), (.double (0 : UInt64))] (.double (0 : UInt64)) := Arv.set Ar_14 q_14 S_14 Nn_14 H_14 G_14 rfl W_15 0 rfl (Nat.le_of_ble_eq_true rfl)
  have N_15 := Fr.snoc X_15 N_11 g_x2
  have K_15 : Keep h0 h_15 [a, x0, x1, x2, x3, x4, x5, x6, x7] := K_11.wr W_15 (Or.inl (List.mem_of_getElem? (i := 3) rfl))
  have Z_15 : n0 ≤ h_15.size := Nat.le_trans Z_11 (Keep.of_wr W_15).1
  refine Go.step (fun t k => st_15 t k) ?_
  show Go p.tables e below P (T_15.setTop (mkF m 158 #[.val (.ref a), .val (.double d1), .second, .val (.double d2), .second, .val (.double d3), .second, .val (.double d4), .second, .val (.double d5), .second, .val (.ref rg), .val (.double d6), .second, .val (.double d7), .second, .unset] []))
  refine Go.step (fun t k => XS.aloadN X_15.here hx rfl (hb hby d2_158) rfl rfl k) ?_
  show Go p.tables e below P (T_15.setTop (mkF m 159 #[.val (.ref a), .val (.double d1), .second, .val (.double d2), .second, .val (.double d3), .second, .val (.double d4), .second, .val (.double d5), .second, .val (.ref rg), .val (.double d6), .second, .val (.double d7), .second, .unset] [(.ref a)]))
  obtain ⟨T_16, X_16, e_16, st_16⟩ := getF X_15 hx hZ hown (host := "") (Or.inl (hw _ (List.mem_of_getElem? (i := 17) rfl))) Via.refl e_15 (((Fx3.other W_7 (Or.inl (Nat.ne_of_lt l_0_1))).other W_11 (Or.inl (Nat.ne_of_lt l_0_2))).other W_15 (Or.inl (Nat.ne_of_lt l_0_3))) (g := (mkF m 159 #[.val (.ref a), .val (.double d1), .second, .val (.double d2), .second, .val (.double d3), .second, .val (.double d4), .second, .val (.double d5), .second, .val (.ref rg), .val (.double d6), .second, .val (.double d7), .second, .unset] [(.ref a)])) rfl rfl (hb hby d2_159)
  refine Go.step (fun t k => st_16 t k) ?_
  show Go p.tables e below P (T_16.setTop (mkF m 162 #[.val (.ref a), .val (.double d1), .second, .val (.double d2), .second, .val (.double d3), .second, .val (.double d4), .second, .val (.double d5), .second, .val (.ref rg), .val (.double d6), .second, .val (.double d7), .second, .unset] [(.ref x3)]))
  refine Go.step (fun t k => XS.aloadN X_16.here hx rfl (hb hby d2_162) rfl rfl k) ?_
  show Go p.tables e below P (T_16.setTop (mkF m 163 #[.val (.ref a), .val (.double d1), .second, .val (.double d2), .second, .val (.double d3), .second, .val (.double d4), .second, .val (.double d5), .second, .val (.ref rg), .val (.double d6), .second, .val (.double d7), .second, .unset] [(.ref a), (.ref x3)]))
  obtain ⟨T_17, X_17, e_17, st_17⟩ := getF X_16 hx hZ hown (host := "") (Or.inl (hw _ (List.mem_of_getElem? (i := 34) rfl))) Via.refl e_16 (((Fsz.other W_7 (Or.inl (Nat.ne_of_lt l_0_1))).other W_11 (Or.inl (Nat.ne_of_lt l_0_2))).other W_15 (Or.inl (Nat.ne_of_lt l_0_3))) (g := (mkF m 163 #[.val (.ref a), .val (.double d1), .second, .val (.double d2), .second, .val (.double d3), .second, .val (.double d4), .second, .val (.double d5), .second, .val (.ref rg), .val (.double d6), .second, .val (.double d7), .second, .unset] [(.ref a), (.ref x3)])) rfl rfl (hb hby d2_163)
  refine Go.step (fun t k => st_17 t k) ?_
  show Go p.tables e below P (T_17.setTop (mkF m 166 #[.val (.ref a), .val (.double d1), .second, .val (.double d2), .second, .val (.double d3), .second, .val (.double d4), .second, .val (.double d5), .second, .val (.ref rg), .val (.double d6), .second, .val (.double d7), .second, .unset] [(.int (0 : Int32)), (.ref x3)]))
  refine Go.step (fun t k => XS.dload X_17.here hx rfl (hb hby d2_166) rfl  k) ?_
  show Go p.tables e below P (T_17.setTop (mkF m 168 #[.val (.ref a), .val (.double d1), .second, .val (.double d2), .second, .val (.double d3), .second, .val (.double d4), .second, .val (.double d5), .second, .val (.ref rg), .val (.double d6), .second, .val (.double d7), .second, .unset] [(.double d4), (.int (0 : Int32)), (.ref x3)]))
  have vq_18 := (((Va3.other W_7 (Ne.symm (Nat.ne_of_lt l_1_4))).other W_11 (Ne.symm (Nat.ne_of_lt l_2_4))).other W_15 (Ne.symm (Nat.ne_of_lt l_3_4)))
  obtain ⟨cl_18, Ar_18, q_18, S_18, Nn_18, H_18, G_18⟩ := vq_18
  have hin_18 : ¬ ((0 : Int32) < 0 ∨ cl_18.slots.size ≤ ((0 : Int32)).toNatClampNeg) := inb_of S_18 ⟨by decide, by decide⟩
  obtain ⟨T_19, h_19, X_19, e_19, W_19, st_19⟩ := stD X_17 hx hZ e_17 Ar_18 (j := (0 : Int32)) hin_18 (g := (mkF m 168 #[.val (.ref a), .val (.double d1), .second, .val (.double d2), .second, .val (.double d3), .second, .val (.double d4), .second, .val (.double d5), .second, .val (.ref rg), .val (.double d6), .second, .val (.double d7), .second, .unset] [(.double d4), (.int (0 : Int32)), (.ref x3)])) rfl rfl (hb hby d2_168)
  have V_19 : Arv Z h_19 x3 k3 .double (64 : Int32) [(.double d4), (.double (0 : UInt64))] (.double (0 : UInt64)) := Arv.set Ar_18 q_18 S_18 Nn_18 H_18 G_18 rfl W_19 0 rfl (Nat.le_of_ble_eq_true rfl)
  have N_19 := Fr.snoc X_19 N_15 g_x3
  have K_19 : Keep h0 h_19 [a, x0, x1, x2, x3, x4, x5, x6, x7] := K_15.wr W_19 (Or.inl (List.mem_of_getElem? (i := 4) rfl))
  have Z_19 : n0 ≤ h_19.size := Nat.le_trans Z_15 (Keep.of_wr W_19).1
  refine Go.step (fun t k => st_19 t k) ?_
  show Go p.tables e below P (T_19.setTop (mkF m 169 #[.val (.ref a), .val (.double d1), .second, .val (.double d2), .second, .val (.double d3), .second, .val (.double d4), .second, .val (.double d5), .second, .val (.ref rg), .val (.double d6), .second, .val (.double d7), .second, .unset] []))
  refine Go.step (fun t k => XS.aloadN X_19.here hx rfl (hb hby d2_169) rfl rfl k) ?_
  show Go p.tables e below P (T_19.setTop (mkF m 170 #[.val (.ref a), .val (.double d1), .second, .val (.double d2), .second, .val (.double d3), .second, .val (.double d4), .second, .val (.double d5), .second, .val (.ref rg), .val (.double d6), .second, .val (.double d7), .second, .unset] [(.ref a)]))
  obtain ⟨T_20, X_20, e_20, st_20⟩ := getF X_19 hx hZ hown (host := "") (Or.inl (hw _ (List.mem_of_getElem? (i := 19) rfl))) Via.refl e_19 ((((Fx4.other W_7 (Or.inl (Nat.ne_of_lt l_0_1))).other W_11 (Or.inl (Nat.ne_of_lt l_0_2))).other W_15 (Or.inl (Nat.ne_of_lt l_0_3))).other W_19 (Or.inl (Nat.ne_of_lt l_0_4))) (g := (mkF m 170 #[.val (.ref a), .val (.double d1), .second, .val (.double d2), .second, .val (.double d3), .second, .val (.double d4), .second, .val (.double d5), .second, .val (.ref rg), .val (.double d6), .second, .val (.double d7), .second, .unset] [(.ref a)])) rfl rfl (hb hby d2_170)
  refine Go.step (fun t k => st_20 t k) ?_
  show Go p.tables e below P (T_20.setTop (mkF m 173 #[.val (.ref a), .val (.double d1), .second, .val (.double d2), .second, .val (.double d3), .second, .val (.double d4), .second, .val (.double d5), .second, .val (.ref rg), .val (.double d6), .second, .val (.double d7), .second, .unset] [(.ref x4)]))
  refine Go.step (fun t k => XS.aloadN X_20.here hx rfl (hb hby d2_173) rfl rfl k) ?_
  show Go p.tables e below P (T_20.setTop (mkF m 174 #[.val (.ref a), .val (.double d1), .second, .val (.double d2), .second, .val (.double d3), .second, .val (.double d4), .second, .val (.double d5), .second, .val (.ref rg), .val (.double d6), .second, .val (.double d7), .second, .unset] [(.ref a), (.ref x4)]))
  obtain ⟨T_21, X_21, e_21, st_21⟩ := getF X_20 hx hZ hown (host := "") (Or.inl (hw _ (List.mem_of_getElem? (i := 34) rfl))) Via.refl e_20 ((((Fsz.other W_7 (Or.inl (Nat.ne_of_lt l_0_1))).other W_11 (Or.inl (Nat.ne_of_lt l_0_2))).other W_15 (Or.inl (Nat.ne_of_lt l_0_3))).other W_19 (Or.inl (Nat.ne_of_lt l_0_4))) (g := (mkF m 174 #[.val (.ref a), .val (.double d1), .second, .val (.double d2), .second, .val (.double d3), .second, .val (.double d4), .second, .val (.double d5), .second, .val (.ref rg), .val (.double d6), .second, .val (.double d7), .second, .unset] [(.ref a), (.ref x4)])) rfl rfl (hb hby d2_174)
  refine Go.step (fun t k => st_21 t k) ?_
  show Go p.tables e below P (T_21.setTop (mkF m 177 #[.val (.ref a), .val (.double d1), .second, .val (.double d2), .second, .val (.double d3), .second, .val (.double d4), .second, .val (.double d5), .second, .val (.ref rg), .val (.double d6), .second, .val (.double d7), .second, .unset] [(.int (0 : Int32)), (.ref x4)]))
  refine Go.step (fun t k => XS.dload X_21.here hx rfl (hb hby d2_177) rfl  k) ?_
  show Go p.tables e below P (T_21.setTop (mkF m 179 #[.val (.ref a), .val (.double d1), .second, .val (.double d2), .second, .val (.double d3), .second, .val (.double d4), .second, .val (.double d5), .second, .val (.ref rg), .val (.double d6), .second, .val (.double d7), .second, .unset] [(.double d5), (.int (0 : Int32)), (.ref x4)]))
  have vq_22 := ((((Va4.other W_7 (Ne.symm (Nat.ne_of_lt l_1_5))).other W_11 (Ne.symm (Nat.ne_of_lt l_2_5))).other W_15 (Ne.symm (Nat.ne_of_lt l_3_5))).other W_19 (Ne.symm (Nat.ne_of_lt l_4_5)))
  obtain ⟨cl_22, Ar_22, q_22, S_22, Nn_22, H_22, G_22⟩ := vq_22
  have hin_22 : ¬ ((0 : Int32) < 0 ∨ cl_22.slots.size ≤ ((0 : Int32)).toNatClampNeg) := inb_of S_22 ⟨by decide, by decide⟩
  obtain ⟨T_23, h_23, X_23, e_23, W_23, st_23⟩ := stD X_21 hx hZ e_21 Ar_22 (j := (0 : Int32)) hin_22 (g := (mkF m 179 #[.val (.ref a), .val (.double d1), .second, .val (.double d2), .second, .val (.double d3), .second, .val (.double d4), .second, .val (.double d5), .second, .val (.ref rg), .val (.double d6), .second, .val (.double d7), .second, .unset] [(.double d5), (.int (0 : Int32)), (.ref x4)])) rfl rfl (hb hby d2_179)
  have V_23 : Arv Z h_23 x4 k4 .double (64 : Int32) [(.double d5), (.double (0 : UInt64))] (.double (0 : UInt64)) := Arv.set Ar_22 q_22 S_22 Nn_22 H_22 G_22 rfl W_23 0 rfl (Nat.le_of_ble_eq_true rfl)
  have N_23 := Fr.snoc X_23 N_19 g_x4
  have K_23 : Keep h0 h_23 [a, x0, x1, x2, x3, x4, x5, x6, x7] := K_19.wr W_23 (Or.inl (List.mem_of_getElem? (i := 5) rfl))
  have Z_23 : n0 ≤ h_23.size := Nat.le_trans Z_19 (Keep.of_wr W_23).1
  refine Go.step (fun t k => st_23 t k) ?_
  show Go p.tables e below P (T_23.setTop (mkF m 180 #[.val (.ref a), .val (.double d1), .second, .val (.double d2), .second, .val (.double d3), .second, .val (.double d4), .second, .val (.double d5), .second, .val (.ref rg), .val (.double d6), .second, .val (.double d7), .second, .unset] []))
  refine Go.step (fun t k => XS.aloadN X_23.here hx rfl (hb hby d2_180) rfl rfl k) ?_
  show Go p.tables e below P (T_23.setTop (mkF m 181 #[.val (.ref a), .val (.double d1), .second, .val (.double d2), .second, .val (.double d3), .second, .val (.double d4), .second, .val (.double d5), .second, .val (.ref rg), .val (.double d6), .second, .val (.double d7), .second, .unset] [(.ref a)]))
  obtain ⟨T_24, X_24, e_24, st_24⟩ := getF X_23 hx hZ hown (host := "") (Or.inl (hw _ (List.mem_of_getElem? (i := 23) rfl))) Via.refl e_23 (((((Fx5.other W_7 (Or.inl (Nat.ne_of_lt l_0_1))).other W_11 (Or.inl (Nat.ne_of_lt l_0_2))).other W_15 (Or.inl (Nat.ne_of_lt l_0_3))).other W_19 (Or.inl (Nat.ne_of_lt l_0_4))).other W_23 (Or.inl (Nat.ne_of_lt l_0_5))) (g := (mkF m 181 #[.val (.ref a), .val (.double d1), .second, .val (.double d2), .second, .val (.double d3), .second, .val (.double d4), .second, .val (.double d5), .second, .val (.ref rg), .val (.double d6), .second, .val (.double d7), .second, .unset] [(.ref a)])) rfl rfl (hb hby d2_181)
  refine Go.step (fun t k => st_24 t k) ?_
  show Go p.tables e below P (T_24.setTop (mkF m 184 #[.val (.ref a), .val (.double d1), .second, .val (.double d2), .second, .val (.double d3), .second, .val (.double d4), .second, .val (.double d5), .second, .val (.ref rg), .val (.double d6), .second, .val (.double d7), .second, .unset] [(.ref x5)]))
  refine Go.step (fun t k => XS.aloadN X_24.here hx rfl (hb hby d2_184) rfl rfl k) ?_
  show Go p.tables e below P (T_24.setTop (mkF m 185 #[.val (.ref a), .val (.double d1), .second, .val (.double d2), .second, .val (.double d3), .second, .val (.double d4), .second, .val (.double d5), .second, .val (.ref rg), .val (.double d6), .second, .val (.double d7), .second, .unset] [(.ref a), (.ref x5)]))
  obtain ⟨T_25, X_25, e_25, st_25⟩ := getF X_24 hx hZ hown (host := "") (Or.inl (hw _ (List.mem_of_getElem? (i := 34) rfl))) Via.refl e_24 (((((Fsz.other W_7 (Or.inl (Nat.ne_of_lt l_0_1))).other W_11 (Or.inl (Nat.ne_of_lt l_0_2))).other W_15 (Or.inl (Nat.ne_of_lt l_0_3))).other W_19 (Or.inl (Nat.ne_of_lt l_0_4))).other W_23 (Or.inl (Nat.ne_of_lt l_0_5))) (g := (mkF m 185 #[.val (.ref a), .val (.double d1), .second, .val (.double d2), .second, .val (.double d3), .second, .val (.double d4), .second, .val (.double d5), .second, .val (.ref rg), .val (.double d6), .second, .val (.double d7), .second, .unset] [(.ref a), (.ref x5)])) rfl rfl (hb hby d2_185)
  refine Go.step (fun t k => st_25 t k) ?_
  show Go p.tables e below P (T_25.setTop (mkF m 188 #[.val (.ref a), .val (.double d1), .second, .val (.double d2), .second, .val (.double d3), .second, .val (.double d4), .second, .val (.double d5), .second, .val (.ref rg), .val (.double d6), .second, .val (.double d7), .second, .unset] [(.int (0 : Int32)), (.ref x5)]))
  refine Go.step (fun t k => XS.aload X_25.here hx rfl (hb hby d2_188) rfl rfl k) ?_
  show Go p.tables e below P (T_25.setTop (mkF m 190 #[.val (.ref a), .val (.double d1), .second, .val (.double d2), .second, .val (.double d3), .second, .val (.double d4), .second, .val (.double d5), .second, .val (.ref rg), .val (.double d6), .second, .val (.double d7), .second, .unset] [(.ref rg), (.int (0 : Int32)), (.ref x5)]))
  have vq_26 := (((((Va5.other W_7 (Ne.symm (Nat.ne_of_lt l_1_6))).other W_11 (Ne.symm (Nat.ne_of_lt l_2_6))).other W_15 (Ne.symm (Nat.ne_of_lt l_3_6))).other W_19 (Ne.symm (Nat.ne_of_lt l_4_6))).other W_23 (Ne.symm (Nat.ne_of_lt l_5_6)))
  obtain ⟨cl_26, Ar_26, q_26, S_26, Nn_26, H_26, G_26⟩ := vq_26
  have hin_26 : ¬ ((0 : Int32) < 0 ∨ cl_26.slots.size ≤ ((0 : Int32)).toNatClampNeg) := inb_of S_26 ⟨by decide, by decide⟩
  obtain ⟨T_27, h_27, X_27, e_27, W_27, st_27⟩ := stR X_25 hx hZ e_25 Ar_26 (j := (0 : Int32)) hin_26 rfl (Sto.ofV Ar_26 q_26 Ov (Ins.self (((((E_rg.wr W_7).wr W_11).wr W_15).wr W_19).wr W_23))) (g := (mkF m 190 #[.val (.ref a), .val (.double d1), .second, .val (.double d2), .second, .val (.double d3), .second, .val (.double d4), .second, .val (.double d5), .second, .val (.ref rg), .val (.double d6), .second, .val (.double d7), .second, .unset] [(.ref rg), (.int (0 : Int32)), (.ref x5)])) rfl rfl (hb hby d2_190)
  have V_27 : Arv Z h_27 x5 k5 (.object "com/example/gleitfahrt/gleitfahrt/engine/Regime") (64 : Int32) [(.ref rg), .null] .null := Arv.set Ar_26 q_26 S_26 Nn_26 H_26 G_26 rfl W_27 0 rfl (Nat.le_of_ble_eq_true rfl)
  have N_27 := Fr.snoc X_27 N_23 g_x5
  have K_27 : Keep h0 h_27 [a, x0, x1, x2, x3, x4, x5, x6, x7] := K_23.wr W_27 (Or.inl (List.mem_of_getElem? (i := 6) rfl))
  have Z_27 : n0 ≤ h_27.size := Nat.le_trans Z_23 (Keep.of_wr W_27).1
  refine Go.step (fun t k => st_27 t k) ?_
  show Go p.tables e below P (T_27.setTop (mkF m 191 #[.val (.ref a), .val (.double d1), .second, .val (.double d2), .second, .val (.double d3), .second, .val (.double d4), .second, .val (.double d5), .second, .val (.ref rg), .val (.double d6), .second, .val (.double d7), .second, .unset] []))
  refine Go.step (fun t k => XS.aloadN X_27.here hx rfl (hb hby d2_191) rfl rfl k) ?_
  show Go p.tables e below P (T_27.setTop (mkF m 192 #[.val (.ref a), .val (.double d1), .second, .val (.double d2), .second, .val (.double d3), .second, .val (.double d4), .second, .val (.double d5), .second, .val (.ref rg), .val (.double d6), .second, .val (.double d7), .second, .unset] [(.ref a)]))
  obtain ⟨T_28, X_28, e_28, st_28⟩ := getF X_27 hx hZ hown (host := "") (Or.inl (hw _ (List.mem_of_getElem? (i := 25) rfl))) Via.refl e_27 ((((((Fx6.other W_7 (Or.inl (Nat.ne_of_lt l_0_1))).other W_11 (Or.inl (Nat.ne_of_lt l_0_2))).other W_15 (Or.inl (Nat.ne_of_lt l_0_3))).other W_19 (Or.inl (Nat.ne_of_lt l_0_4))).other W_23 (Or.inl (Nat.ne_of_lt l_0_5))).other W_27 (Or.inl (Nat.ne_of_lt l_0_6))) (g := (mkF m 192 #[.val (.ref a), .val (.double d1), .second, .val (.double d2), .second, .val (.double d3), .second, .val (.double d4), .second, .val (.double d5), .second, .val (.ref rg), .val (.double d6), .second, .val (.double d7), .second, .unset] [(.ref a)])) rfl rfl (hb hby d2_192)
  refine Go.step (fun t k => st_28 t k) ?_
  show Go p.tables e below P (T_28.setTop (mkF m 195 #[.val (.ref a), .val (.double d1), .second, .val (.double d2), .second, .val (.double d3), .second, .val (.double d4), .second, .val (.double d5), .second, .val (.ref rg), .val (.double d6), .second, .val (.double d7), .second, .unset] [(.ref x6)]))
  refine Go.step (fun t k => XS.aloadN X_28.here hx rfl (hb hby d2_195) rfl rfl k) ?_
  show Go p.tables e below P (T_28.setTop (mkF m 196 #[.val (.ref a), .val (.double d1), .second, .val (.double d2), .second, .val (.double d3), .second, .val (.double d4), .second, .val (.double d5), .second, .val (.ref rg), .val (.double d6), .second, .val (.double d7), .second, .unset] [(.ref a), (.ref x6)]))
  obtain ⟨T_29, X_29, e_29, st_29⟩ := getF X_28 hx hZ hown (host := "") (Or.inl (hw _ (List.mem_of_getElem? (i := 34) rfl))) Via.refl e_28 ((((((Fsz.other W_7 (Or.inl (Nat.ne_of_lt l_0_1))).other W_11 (Or.inl (Nat.ne_of_lt l_0_2))).other W_15 (Or.inl (Nat.ne_of_lt l_0_3))).other W_19 (Or.inl (Nat.ne_of_lt l_0_4))).other W_23 (Or.inl (Nat.ne_of_lt l_0_5))).other W_27 (Or.inl (Nat.ne_of_lt l_0_6))) (g := (mkF m 196 #[.val (.ref a), .val (.double d1), .second, .val (.double d2), .second, .val (.double d3), .second, .val (.double d4), .second, .val (.double d5), .second, .val (.ref rg), .val (.double d6), .second, .val (.double d7), .second, .unset] [(.ref a), (.ref x6)])) rfl rfl (hb hby d2_196)
  refine Go.step (fun t k => st_29 t k) ?_
  show Go p.tables e below P (T_29.setTop (mkF m 199 #[.val (.ref a), .val (.double d1), .second, .val (.double d2), .second, .val (.double d3), .second, .val (.double d4), .second, .val (.double d5), .second, .val (.ref rg), .val (.double d6), .second, .val (.double d7), .second, .unset] [(.int (0 : Int32)), (.ref x6)]))
  refine Go.step (fun t k => XS.dload X_29.here hx rfl (hb hby d2_199) rfl  k) ?_
  show Go p.tables e below P (T_29.setTop (mkF m 201 #[.val (.ref a), .val (.double d1), .second, .val (.double d2), .second, .val (.double d3), .second, .val (.double d4), .second, .val (.double d5), .second, .val (.ref rg), .val (.double d6), .second, .val (.double d7), .second, .unset] [(.double d6), (.int (0 : Int32)), (.ref x6)]))
  have vq_30 := ((((((Va6.other W_7 (Ne.symm (Nat.ne_of_lt l_1_7))).other W_11 (Ne.symm (Nat.ne_of_lt l_2_7))).other W_15 (Ne.symm (Nat.ne_of_lt l_3_7))).other W_19 (Ne.symm (Nat.ne_of_lt l_4_7))).other W_23 (Ne.symm (Nat.ne_of_lt l_5_7))).other W_27 (Ne.symm (Nat.ne_of_lt l_6_7)))
  obtain ⟨cl_30, Ar_30, q_30, S_30, Nn_30, H_30, G_30⟩ := vq_30
  have hin_30 : ¬ ((0 : Int32) < 0 ∨ cl_30.slots.size ≤ ((0 : Int32)).toNatClampNeg) := inb_of S_30 ⟨by decide, by decide⟩
  obtain ⟨T_31, h_31, X_31, e_31, W_31, st_31⟩ := stD X_29 hx hZ e_29 Ar_30 (j := (0 : Int32)) hin_30 (g := (mkF m 201 #[.val (.ref a), .val (.double d1), .second, .val (.double d2), .second, .val (.double d3), .second, .val (.double d4), .second, .val (.double d5), .second, .val (.ref rg), .val (.double d6), .second, .val (.double d7), .second, .unset] [(.double d6), (.int (0 : Int32)), (.ref x6)])) rfl rfl (hb hby d2_201)
  have V_31 : Arv Z h_31 x6 k6 .double (64 : Int32) [(.double d6), (.double (0 : UInt64))] (.double (0 : UInt64)) := Arv.set Ar_30 q_30 S_30 Nn_30 H_30 G_30 rfl W_31 0 rfl (Nat.le_of_ble_eq_true rfl)
  have N_31 := Fr.snoc X_31 N_27 g_x6
  have K_31 : Keep h0 h_31 [a, x0, x1, x2, x3, x4, x5, x6, x7] := K_27.wr W_31 (Or.inl (List.mem_of_getElem? (i := 7) rfl))
  have Z_31 : n0 ≤ h_31.size := Nat.le_trans Z_27 (Keep.of_wr W_31).1
  refine Go.step (fun t k => st_31 t k) ?_
  show Go p.tables e below P (T_31.setTop (mkF m 202 #[.val (.ref a), .val (.double d1), .second, .val (.double d2), .second, .val (.double d3), .second, .val (.double d4), .second, .val (.double d5), .second, .val (.ref rg), .val (.double d6), .second, .val (.double d7), .second, .unset] []))
  refine Go.step (fun t k => XS.aloadN X_31.here hx rfl (hb hby d2_202) rfl rfl k) ?_
  show Go p.tables e below P (T_31.setTop (mkF m 203 #[.val (.ref a), .val (.double d1), .second, .val (.double d2), .second, .val (.double d3), .second, .val (.double d4), .second, .val (.double d5), .second, .val (.ref rg), .val (.double d6), .second, .val (.double d7), .second, .unset] [(.ref a)]))
  obtain ⟨T_32, X_32, e_32, st_32⟩ := getF X_31 hx hZ hown (host := "") (Or.inl (hw _ (List.mem_of_getElem? (i := 27) rfl))) Via.refl e_31 (((((((Fx7.other W_7 (Or.inl (Nat.ne_of_lt l_0_1))).other W_11 (Or.inl (Nat.ne_of_lt l_0_2))).other W_15 (Or.inl (Nat.ne_of_lt l_0_3))).other W_19 (Or.inl (Nat.ne_of_lt l_0_4))).other W_23 (Or.inl (Nat.ne_of_lt l_0_5))).other W_27 (Or.inl (Nat.ne_of_lt l_0_6))).other W_31 (Or.inl (Nat.ne_of_lt l_0_7))) (g := (mkF m 203 #[.val (.ref a), .val (.double d1), .second, .val (.double d2), .second, .val (.double d3), .second, .val (.double d4), .second, .val (.double d5), .second, .val (.ref rg), .val (.double d6), .second, .val (.double d7), .second, .unset] [(.ref a)])) rfl rfl (hb hby d2_203)
  refine Go.step (fun t k => st_32 t k) ?_
  show Go p.tables e below P (T_32.setTop (mkF m 206 #[.val (.ref a), .val (.double d1), .second, .val (.double d2), .second, .val (.double d3), .second, .val (.double d4), .second, .val (.double d5), .second, .val (.ref rg), .val (.double d6), .second, .val (.double d7), .second, .unset] [(.ref x7)]))
  refine Go.step (fun t k => XS.aloadN X_32.here hx rfl (hb hby d2_206) rfl rfl k) ?_
  show Go p.tables e below P (T_32.setTop (mkF m 207 #[.val (.ref a), .val (.double d1), .second, .val (.double d2), .second, .val (.double d3), .second, .val (.double d4), .second, .val (.double d5), .second, .val (.ref rg), .val (.double d6), .second, .val (.double d7), .second, .unset] [(.ref a), (.ref x7)]))
  obtain ⟨T_33, X_33, e_33, st_33⟩ := getF X_32 hx hZ hown (host := "") (Or.inl (hw _ (List.mem_of_getElem? (i := 34) rfl))) Via.refl e_32 (((((((Fsz.other W_7 (Or.inl (Nat.ne_of_lt l_0_1))).other W_11 (Or.inl (Nat.ne_of_lt l_0_2))).other W_15 (Or.inl (Nat.ne_of_lt l_0_3))).other W_19 (Or.inl (Nat.ne_of_lt l_0_4))).other W_23 (Or.inl (Nat.ne_of_lt l_0_5))).other W_27 (Or.inl (Nat.ne_of_lt l_0_6))).other W_31 (Or.inl (Nat.ne_of_lt l_0_7))) (g := (mkF m 207 #[.val (.ref a), .val (.double d1), .second, .val (.double d2), .second, .val (.double d3), .second, .val (.double d4), .second, .val (.double d5), .second, .val (.ref rg), .val (.double d6), .second, .val (.double d7), .second, .unset] [(.ref a), (.ref x7)])) rfl rfl (hb hby d2_207)
  refine Go.step (fun t k => st_33 t k) ?_
  show Go p.tables e below P (T_33.setTop (mkF m 210 #[.val (.ref a), .val (.double d1), .second, .val (.double d2), .second, .val (.double d3), .second, .val (.double d4), .second, .val (.double d5), .second, .val (.ref rg), .val (.double d6), .second, .val (.double d7), .second, .unset] [(.int (0 : Int32)), (.ref x7)]))
  refine Go.step (fun t k => XS.dload X_33.here hx rfl (hb hby d2_210) rfl  k) ?_
  show Go p.tables e below P (T_33.setTop (mkF m 212 #[.val (.ref a), .val (.double d1), .second, .val (.double d2), .second, .val (.double d3), .second, .val (.double d4), .second, .val (.double d5), .second, .val (.ref rg), .val (.double d6), .second, .val (.double d7), .second, .unset] [(.double d7), (.int (0 : Int32)), (.ref x7)]))
  have vq_34 := (((((((Va7.other W_7 (Ne.symm (Nat.ne_of_lt l_1_8))).other W_11 (Ne.symm (Nat.ne_of_lt l_2_8))).other W_15 (Ne.symm (Nat.ne_of_lt l_3_8))).other W_19 (Ne.symm (Nat.ne_of_lt l_4_8))).other W_23 (Ne.symm (Nat.ne_of_lt l_5_8))).other W_27 (Ne.symm (Nat.ne_of_lt l_6_8))).other W_31 (Ne.symm (Nat.ne_of_lt l_7_8)))
  obtain ⟨cl_34, Ar_34, q_34, S_34, Nn_34, H_34, G_34⟩ := vq_34
  have hin_34 : ¬ ((0 : Int32) < 0 ∨ cl_34.slots.size ≤ ((0 : Int32)).toNatClampNeg) := inb_of S_34 ⟨by decide, by decide⟩
  obtain ⟨T_35, h_35, X_35, e_35, W_35, st_35⟩ := stD X_33 hx hZ e_33 Ar_34 (j := (0 : Int32)) hin_34 (g := (mkF m 212 #[.val (.ref a), .val (.double d1), .second, .val (.double d2), .second, .val (.double d3), .second, .val (.double d4), .second, .val (.double d5), .second, .val (.ref rg), .val (.double d6), .second, .val (.double d7), .second, .unset] [(.double d7), (.int (0 : Int32)), (.ref x7)])) rfl rfl (hb hby d2_212)
  have V_35 : Arv Z h_35 x7 k7 .double (64 : Int32) [(.double d7), (.double (0 : UInt64))] (.double (0 : UInt64)) := Arv.set Ar_34 q_34 S_34 Nn_34 H_34 G_34 rfl W_35 0 rfl (Nat.le_of_ble_eq_true rfl)
  have N_35 := Fr.snoc X_35 N_31 g_x7
  have K_35 : Keep h0 h_35 [a, x0, x1, x2, x3, x4, x5, x6, x7] := K_31.wr W_35 (Or.inl (List.mem_of_getElem? (i := 8) rfl))
  have Z_35 : n0 ≤ h_35.size := Nat.le_trans Z_31 (Keep.of_wr W_35).1
  refine Go.step (fun t k => st_35 t k) ?_
  show Go p.tables e below P (T_35.setTop (mkF m 213 #[.val (.ref a), .val (.double d1), .second, .val (.double d2), .second, .val (.double d3), .second, .val (.double d4), .second, .val (.double d5), .second, .val (.ref rg), .val (.double d6), .second, .val (.double d7), .second, .unset] []))
  refine Go.step (fun t k => XS.aloadN X_35.here hx rfl (hb hby d2_213) rfl rfl k) ?_
  show Go p.tables e below P (T_35.setTop (mkF m 214 #[.val (.ref a), .val (.double d1), .second, .val (.double d2), .second, .val (.double d3), .second, .val (.double d4), .second, .val (.double d5), .second, .val (.ref rg), .val (.double d6), .second, .val (.double d7), .second, .unset] [(.ref a)]))
  refine Go.step (fun t k => XS.dup X_35.here hx rfl (hb hby d2_214) rfl rfl k) ?_
  show Go p.tables e below P (T_35.setTop (mkF m 215 #[.val (.ref a), .val (.double d1), .second, .val (.double d2), .second, .val (.double d3), .second, .val (.double d4), .second, .val (.double d5), .second, .val (.ref rg), .val (.double d6), .second, .val (.double d7), .second, .unset] [(.ref a), (.ref a)]))
  obtain ⟨T_36, X_36, e_36, st_36⟩ := getF X_35 hx hZ hown (host := "") (Or.inl (hw _ (List.mem_of_getElem? (i := 34) rfl))) Via.refl e_35 ((((((((Fsz.other W_7 (Or.inl (Nat.ne_of_lt l_0_1))).other W_11 (Or.inl (Nat.ne_of_lt l_0_2))).other W_15 (Or.inl (Nat.ne_of_lt l_0_3))).other W_19 (Or.inl (Nat.ne_of_lt l_0_4))).other W_23 (Or.inl (Nat.ne_of_lt l_0_5))).other W_27 (Or.inl (Nat.ne_of_lt l_0_6))).other W_31 (Or.inl (Nat.ne_of_lt l_0_7))).other W_35 (Or.inl (Nat.ne_of_lt l_0_8))) (g := (mkF m 215 #[.val (.ref a), .val (.double d1), .second, .val (.double d2), .second, .val (.double d3), .second, .val (.double d4), .second, .val (.double d5), .second, .val (.ref rg), .val (.double d6), .second, .val (.double d7), .second, .unset] [(.ref a), (.ref a)])) rfl rfl (hb hby d2_215)
  refine Go.step (fun t k => st_36 t k) ?_
  show Go p.tables e below P (T_36.setTop (mkF m 218 #[.val (.ref a), .val (.double d1), .second, .val (.double d2), .second, .val (.double d3), .second, .val (.double d4), .second, .val (.double d5), .second, .val (.ref rg), .val (.double d6), .second, .val (.double d7), .second, .unset] [(.int (0 : Int32)), (.ref a)]))
  refine Go.step (fun t k => XS.iconst X_36.here hx rfl (hb hby d2_218) k) ?_
  show Go p.tables e below P (T_36.setTop (mkF m 219 #[.val (.ref a), .val (.double d1), .second, .val (.double d2), .second, .val (.double d3), .second, .val (.double d4), .second, .val (.double d5), .second, .val (.ref rg), .val (.double d6), .second, .val (.double d7), .second, .unset] [(.int (1 : Int32)), (.int (0 : Int32)), (.ref a)]))
  obtain ⟨sz1, hsz1⟩ : ∃ z : Int32, (0 : Int32) + (1 : Int32) = z := ⟨_, rfl⟩
  refine Go.step (fun t k => iadd_v X_36.here hx rfl (hb hby d2_219) rfl  hsz1 k) ?_
  show Go p.tables e below P (T_36.setTop (mkF m 220 #[.val (.ref a), .val (.double d1), .second, .val (.double d2), .second, .val (.double d3), .second, .val (.double d4), .second, .val (.double d5), .second, .val (.ref rg), .val (.double d6), .second, .val (.double d7), .second, .unset] [(.int sz1), (.ref a)]))
  have ez : sz1 = (1 : Int32) := by rw [← hsz1]; rfl
  subst ez
  show Go p.tables e below P (T_36.setTop (mkF m 220 #[.val (.ref a), .val (.double d1), .second, .val (.double d2), .second, .val (.double d3), .second, .val (.double d4), .second, .val (.double d5), .second, .val (.ref rg), .val (.double d6), .second, .val (.double d7), .second, .unset] [(.int (1 : Int32)), (.ref a)]))
  obtain ⟨T_37, h_37, X_37, e_37, W_37, st_37⟩ := putF X_36 hx hZ hown (host := "") (Or.inl (hw _ (List.mem_of_getElem? (i := 34) rfl))) Via.refl e_36 ((((((((Fsz.other W_7 (Or.inl (Nat.ne_of_lt l_0_1))).other W_11 (Or.inl (Nat.ne_of_lt l_0_2))).other W_15 (Or.inl (Nat.ne_of_lt l_0_3))).other W_19 (Or.inl (Nat.ne_of_lt l_0_4))).other W_23 (Or.inl (Nat.ne_of_lt l_0_5))).other W_27 (Or.inl (Nat.ne_of_lt l_0_6))).other W_31 (Or.inl (Nat.ne_of_lt l_0_7))).other W_35 (Or.inl (Nat.ne_of_lt l_0_8))) ((((((((E_a.wr W_7).wr W_11).wr W_15).wr W_19).wr W_23).wr W_27).wr W_31).wr W_35) (Or.inl (hw _ (List.mem_of_getElem? (i := 35) rfl))) (hw _ (List.mem_of_getElem? (i := 2) rfl)) (ty := .int) (by decide) rfl rfl (g := (mkF m 220 #[.val (.ref a), .val (.double d1), .second, .val (.double d2), .second, .val (.double d3), .second, .val (.double d4), .second, .val (.double d5), .second, .val (.ref rg), .val (.double d6), .second, .val (.double d7), .second, .unset] [(.int (1 : Int32)), (.ref a)])) rfl rfl (hb hby d2_220)
  have Fw_37 := ((((((((Fsz.other W_7 (Or.inl (Nat.ne_of_lt l_0_1))).other W_11 (Or.inl (Nat.ne_of_lt l_0_2))).other W_15 (Or.inl (Nat.ne_of_lt l_0_3))).other W_19 (Or.inl (Nat.ne_of_lt l_0_4))).other W_23 (Or.inl (Nat.ne_of_lt l_0_5))).other W_27 (Or.inl (Nat.ne_of_lt l_0_6))).other W_31 (Or.inl (Nat.ne_of_lt l_0_7))).other W_35 (Or.inl (Nat.ne_of_lt l_0_8))).same W_37
  have N_37 := Fr.snoc X_37 N_35 g_a
  have K_37 : Keep h0 h_37 [a, x0, x1, x2, x3, x4, x5, x6, x7] := K_35.wr W_37 (Or.inl (List.mem_of_getElem? (i := 0) rfl))
  have Z_37 : n0 ≤ h_37.size := Nat.le_trans Z_35 (Keep.of_wr W_37).1
  refine Go.step (fun t k => st_37 t k) ?_
  show Go p.tables e below P (T_37.setTop (mkF m 223 #[.val (.ref a), .val (.double d1), .second, .val (.double d2), .second, .val (.double d3), .second, .val (.double d4), .second, .val (.double d5), .second, .val (.ref rg), .val (.double d6), .second, .val (.double d7), .second, .unset] []))
  exact voidGo X_37 hx hP Bd.returns hlk (hb hby d2_223) (by decide) (by decide) (by rw [e_37]; exact ⟨rfl, N_37, K_37, (((((((((E_a.wr W_7).wr W_11).wr W_15).wr W_19).wr W_23).wr W_27).wr W_31).wr W_35).wr W_37), (((((((((Fx0.other W_7 (Or.inl (Nat.ne_of_lt l_0_1))).other W_11 (Or.inl (Nat.ne_of_lt l_0_2))).other W_15 (Or.inl (Nat.ne_of_lt l_0_3))).other W_19 (Or.inl (Nat.ne_of_lt l_0_4))).other W_23 (Or.inl (Nat.ne_of_lt l_0_5))).other W_27 (Or.inl (Nat.ne_of_lt l_0_6))).other W_31 (Or.inl (Nat.ne_of_lt l_0_7))).other W_35 (Or.inl (Nat.ne_of_lt l_0_8))).other W_37 (Or.inr (slot_ne (Or.inl (hw _ (List.mem_of_getElem? (i := 12) rfl))) (Or.inl (hw _ (List.mem_of_getElem? (i := 35) rfl))) (by decide) (t := (.array .double)) (t' := .int) (by decide) (by decide)))), (((((((((Fx1.other W_7 (Or.inl (Nat.ne_of_lt l_0_1))).other W_11 (Or.inl (Nat.ne_of_lt l_0_2))).other W_15 (Or.inl (Nat.ne_of_lt l_0_3))).other W_19 (Or.inl (Nat.ne_of_lt l_0_4))).other W_23 (Or.inl (Nat.ne_of_lt l_0_5))).other W_27 (Or.inl (Nat.ne_of_lt l_0_6))).other W_31 (Or.inl (Nat.ne_of_lt l_0_7))).other W_35 (Or.inl (Nat.ne_of_lt l_0_8))).other W_37 (Or.inr (slot_ne (Or.inl (hw _ (List.mem_of_getElem? (i := 14) rfl))) (Or.inl (hw _ (List.mem_of_getElem? (i := 35) rfl))) (by decide) (t := (.array .double)) (t' := .int) (by decide) (by decide)))), (((((((((Fx2.other W_7 (Or.inl (Nat.ne_of_lt l_0_1))).other W_11 (Or.inl (Nat.ne_of_lt l_0_2))).other W_15 (Or.inl (Nat.ne_of_lt l_0_3))).other W_19 (Or.inl (Nat.ne_of_lt l_0_4))).other W_23 (Or.inl (Nat.ne_of_lt l_0_5))).other W_27 (Or.inl (Nat.ne_of_lt l_0_6))).other W_31 (Or.inl (Nat.ne_of_lt l_0_7))).other W_35 (Or.inl (Nat.ne_of_lt l_0_8))).other W_37 (Or.inr (slot_ne (Or.inl (hw _ (List.mem_of_getElem? (i := 16) rfl))) (Or.inl (hw _ (List.mem_of_getElem? (i := 35) rfl))) (by decide) (t := (.array .double)) (t' := .int) (by decide) (by decide)))), (((((((((Fx3.other W_7 (Or.inl (Nat.ne_of_lt l_0_1))).other W_11 (Or.inl (Nat.ne_of_lt l_0_2))).other W_15 (Or.inl (Nat.ne_of_lt l_0_3))).other W_19 (Or.inl (Nat.ne_of_lt l_0_4))).other W_23 (Or.inl (Nat.ne_of_lt l_0_5))).other W_27 (Or.inl (Nat.ne_of_lt l_0_6))).other W_31 (Or.inl (Nat.ne_of_lt l_0_7))).other W_35 (Or.inl (Nat.ne_of_lt l_0_8))).other W_37 (Or.inr (slot_ne (Or.inl (hw _ (List.mem_of_getElem? (i := 18) rfl))) (Or.inl (hw _ (List.mem_of_getElem? (i := 35) rfl))) (by decide) (t := (.array .double)) (t' := .int) (by decide) (by decide)))), (((((((((Fx4.other W_7 (Or.inl (Nat.ne_of_lt l_0_1))).other W_11 (Or.inl (Nat.ne_of_lt l_0_2))).other W_15 (Or.inl (Nat.ne_of_lt l_0_3))).other W_19 (Or.inl (Nat.ne_of_lt l_0_4))).other W_23 (Or.inl (Nat.ne_of_lt l_0_5))).other W_27 (Or.inl (Nat.ne_of_lt l_0_6))).other W_31 (Or.inl (Nat.ne_of_lt l_0_7))).other W_35 (Or.inl (Nat.ne_of_lt l_0_8))).other W_37 (Or.inr (slot_ne (Or.inl (hw _ (List.mem_of_getElem? (i := 20) rfl))) (Or.inl (hw _ (List.mem_of_getElem? (i := 35) rfl))) (by decide) (t := (.array .double)) (t' := .int) (by decide) (by decide)))), (((((((((Fx5.other W_7 (Or.inl (Nat.ne_of_lt l_0_1))).other W_11 (Or.inl (Nat.ne_of_lt l_0_2))).other W_15 (Or.inl (Nat.ne_of_lt l_0_3))).other W_19 (Or.inl (Nat.ne_of_lt l_0_4))).other W_23 (Or.inl (Nat.ne_of_lt l_0_5))).other W_27 (Or.inl (Nat.ne_of_lt l_0_6))).other W_31 (Or.inl (Nat.ne_of_lt l_0_7))).other W_35 (Or.inl (Nat.ne_of_lt l_0_8))).other W_37 (Or.inr (slot_ne (Or.inl (hw _ (List.mem_of_getElem? (i := 24) rfl))) (Or.inl (hw _ (List.mem_of_getElem? (i := 35) rfl))) (by decide) (t := (.array (.object "com/example/gleitfahrt/gleitfahrt/engine/Regime"))) (t' := .int) (by decide) (by decide)))), (((((((((Fx6.other W_7 (Or.inl (Nat.ne_of_lt l_0_1))).other W_11 (Or.inl (Nat.ne_of_lt l_0_2))).other W_15 (Or.inl (Nat.ne_of_lt l_0_3))).other W_19 (Or.inl (Nat.ne_of_lt l_0_4))).other W_23 (Or.inl (Nat.ne_of_lt l_0_5))).other W_27 (Or.inl (Nat.ne_of_lt l_0_6))).other W_31 (Or.inl (Nat.ne_of_lt l_0_7))).other W_35 (Or.inl (Nat.ne_of_lt l_0_8))).other W_37 (Or.inr (slot_ne (Or.inl (hw _ (List.mem_of_getElem? (i := 26) rfl))) (Or.inl (hw _ (List.mem_of_getElem? (i := 35) rfl))) (by decide) (t := (.array .double)) (t' := .int) (by decide) (by decide)))), (((((((((Fx7.other W_7 (Or.inl (Nat.ne_of_lt l_0_1))).other W_11 (Or.inl (Nat.ne_of_lt l_0_2))).other W_15 (Or.inl (Nat.ne_of_lt l_0_3))).other W_19 (Or.inl (Nat.ne_of_lt l_0_4))).other W_23 (Or.inl (Nat.ne_of_lt l_0_5))).other W_27 (Or.inl (Nat.ne_of_lt l_0_6))).other W_31 (Or.inl (Nat.ne_of_lt l_0_7))).other W_35 (Or.inl (Nat.ne_of_lt l_0_8))).other W_37 (Or.inr (slot_ne (Or.inl (hw _ (List.mem_of_getElem? (i := 28) rfl))) (Or.inl (hw _ (List.mem_of_getElem? (i := 35) rfl))) (by decide) (t := (.array .double)) (t' := .int) (by decide) (by decide)))), Fw_37, ((((((((V_7.other W_11 (Nat.ne_of_lt l_1_2)).other W_15 (Nat.ne_of_lt l_1_3)).other W_19 (Nat.ne_of_lt l_1_4)).other W_23 (Nat.ne_of_lt l_1_5)).other W_27 (Nat.ne_of_lt l_1_6)).other W_31 (Nat.ne_of_lt l_1_7)).other W_35 (Nat.ne_of_lt l_1_8)).other W_37 (Ne.symm (Nat.ne_of_lt l_0_1))), (((((((V_11.other W_15 (Nat.ne_of_lt l_2_3)).other W_19 (Nat.ne_of_lt l_2_4)).other W_23 (Nat.ne_of_lt l_2_5)).other W_27 (Nat.ne_of_lt l_2_6)).other W_31 (Nat.ne_of_lt l_2_7)).other W_35 (Nat.ne_of_lt l_2_8)).other W_37 (Ne.symm (Nat.ne_of_lt l_0_2))), ((((((V_15.other W_19 (Nat.ne_of_lt l_3_4)).other W_23 (Nat.ne_of_lt l_3_5)).other W_27 (Nat.ne_of_lt l_3_6)).other W_31 (Nat.ne_of_lt l_3_7)).other W_35 (Nat.ne_of_lt l_3_8)).other W_37 (Ne.symm (Nat.ne_of_lt l_0_3))), (((((V_19.other W_23 (Nat.ne_of_lt l_4_5)).other W_27 (Nat.ne_of_lt l_4_6)).other W_31 (Nat.ne_of_lt l_4_7)).other W_35 (Nat.ne_of_lt l_4_8)).other W_37 (Ne.symm (Nat.ne_of_lt l_0_4))), ((((V_23.other W_27 (Nat.ne_of_lt l_5_6)).other W_31 (Nat.ne_of_lt l_5_7)).other W_35 (Nat.ne_of_lt l_5_8)).other W_37 (Ne.symm (Nat.ne_of_lt l_0_5))), (((V_27.other W_31 (Nat.ne_of_lt l_6_7)).other W_35 (Nat.ne_of_lt l_6_8)).other W_37 (Ne.symm (Nat.ne_of_lt l_0_6))), ((V_31.other W_35 (Nat.ne_of_lt l_7_8)).other W_37 (Ne.symm (Nat.ne_of_lt l_0_7))), (V_35.other W_37 (Ne.symm (Nat.ne_of_lt l_0_8)))⟩)
theorem d3_0 : decode prog_5_method_2_code 0 = .ok (.aload_n 0, 1) := by decide +kernel
theorem d3_1 : decode prog_5_method_2_code 1 = .ok (.getfield 37, 3) := by decide +kernel
theorem d3_4 : decode prog_5_method_2_code 4 = .ok (.aload_n 0, 1) := by decide +kernel
theorem d3_5 : decode prog_5_method_2_code 5 = .ok (.getfield 7, 3) := by decide +kernel
theorem d3_8 : decode prog_5_method_2_code 8 = .ok (.arraylength, 1) := by decide +kernel
theorem d3_9 : decode prog_5_method_2_code 9 = .ok (.if_icmp .ne 118, 3) := by decide +kernel
theorem d3_127 : decode prog_5_method_2_code 127 = .ok (.aload_n 0, 1) := by decide +kernel
theorem d3_128 : decode prog_5_method_2_code 128 = .ok (.getfield 7, 3) := by decide +kernel
theorem d3_131 : decode prog_5_method_2_code 131 = .ok (.aload_n 0, 1) := by decide +kernel
theorem d3_132 : decode prog_5_method_2_code 132 = .ok (.getfield 37, 3) := by decide +kernel
theorem d3_135 : decode prog_5_method_2_code 135 = .ok (.dload_n 1, 1) := by decide +kernel
theorem d3_136 : decode prog_5_method_2_code 136 = .ok (.dastore, 1) := by decide +kernel
theorem d3_137 : decode prog_5_method_2_code 137 = .ok (.aload_n 0, 1) := by decide +kernel
theorem d3_138 : decode prog_5_method_2_code 138 = .ok (.getfield 13, 3) := by decide +kernel
theorem d3_141 : decode prog_5_method_2_code 141 = .ok (.aload_n 0, 1) := by decide +kernel
theorem d3_142 : decode prog_5_method_2_code 142 = .ok (.getfield 37, 3) := by decide +kernel
theorem d3_145 : decode prog_5_method_2_code 145 = .ok (.dload_n 3, 1) := by decide +kernel
theorem d3_146 : decode prog_5_method_2_code 146 = .ok (.dastore, 1) := by decide +kernel
theorem d3_147 : decode prog_5_method_2_code 147 = .ok (.aload_n 0, 1) := by decide +kernel
theorem d3_148 : decode prog_5_method_2_code 148 = .ok (.getfield 16, 3) := by decide +kernel
theorem d3_151 : decode prog_5_method_2_code 151 = .ok (.aload_n 0, 1) := by decide +kernel
theorem d3_152 : decode prog_5_method_2_code 152 = .ok (.getfield 37, 3) := by decide +kernel
theorem d3_155 : decode prog_5_method_2_code 155 = .ok (.dload 5, 2) := by decide +kernel
theorem d3_157 : decode prog_5_method_2_code 157 = .ok (.dastore, 1) := by decide +kernel
theorem d3_158 : decode prog_5_method_2_code 158 = .ok (.aload_n 0, 1) := by decide +kernel
theorem d3_159 : decode prog_5_method_2_code 159 = .ok (.getfield 19, 3) := by decide +kernel
theorem d3_162 : decode prog_5_method_2_code 162 = .ok (.aload_n 0, 1) := by decide +kernel
theorem d3_163 : decode prog_5_method_2_code 163 = .ok (.getfield 37, 3) := by decide +kernel
theorem d3_166 : decode prog_5_method_2_code 166 = .ok (.dload 7, 2) := by decide +kernel
theorem d3_168 : decode prog_5_method_2_code 168 = .ok (.dastore, 1) := by decide +kernel
theorem d3_169 : decode prog_5_method_2_code 169 = .ok (.aload_n 0, 1) := by decide +kernel
theorem d3_170 : decode prog_5_method_2_code 170 = .ok (.getfield 22, 3) := by decide +kernel
theorem d3_173 : decode prog_5_method_2_code 173 = .ok (.aload_n 0, 1) := by decide +kernel
theorem d3_174 : decode prog_5_method_2_code 174 = .ok (.getfield 37, 3) := by decide +kernel
theorem d3_177 : decode prog_5_method_2_code 177 = .ok (.dload 9, 2) := by decide +kernel
theorem d3_179 : decode prog_5_method_2_code 179 = .ok (.dastore, 1) := by decide +kernel
theorem d3_180 : decode prog_5_method_2_code 180 = .ok (.aload_n 0, 1) := by decide +kernel
theorem d3_181 : decode prog_5_method_2_code 181 = .ok (.getfield 27, 3) := by decide +kernel
theorem d3_184 : decode prog_5_method_2_code 184 = .ok (.aload_n 0, 1) := by decide +kernel
theorem d3_185 : decode prog_5_method_2_code 185 = .ok (.getfield 37, 3) := by decide +kernel
theorem d3_188 : decode prog_5_method_2_code 188 = .ok (.aload 11, 2) := by decide +kernel
theorem d3_190 : decode prog_5_method_2_code 190 = .ok (.aastore, 1) := by decide +kernel
theorem d3_191 : decode prog_5_method_2_code 191 = .ok (.aload_n 0, 1) := by decide +kernel
theorem d3_192 : decode prog_5_method_2_code 192 = .ok (.getfield 31, 3) := by decide +kernel
theorem d3_195 : decode prog_5_method_2_code 195 = .ok (.aload_n 0, 1) := by decide +kernel
theorem d3_196 : decode prog_5_method_2_code 196 = .ok (.getfield 37, 3) := by decide +kernel
theorem d3_199 : decode prog_5_method_2_code 199 = .ok (.dload 12, 2) := by decide +kernel
theorem d3_201 : decode prog_5_method_2_code 201 = .ok (.dastore, 1) := by decide +kernel
theorem d3_202 : decode prog_5_method_2_code 202 = .ok (.aload_n 0, 1) := by decide +kernel
theorem d3_203 : decode prog_5_method_2_code 203 = .ok (.getfield 34, 3) := by decide +kernel
theorem d3_206 : decode prog_5_method_2_code 206 = .ok (.aload_n 0, 1) := by decide +kernel
theorem d3_207 : decode prog_5_method_2_code 207 = .ok (.getfield 37, 3) := by decide +kernel
theorem d3_210 : decode prog_5_method_2_code 210 = .ok (.dload 14, 2) := by decide +kernel
theorem d3_212 : decode prog_5_method_2_code 212 = .ok (.dastore, 1) := by decide +kernel
theorem d3_213 : decode prog_5_method_2_code 213 = .ok (.aload_n 0, 1) := by decide +kernel
theorem d3_214 : decode prog_5_method_2_code 214 = .ok (.dup, 1) := by decide +kernel
theorem d3_215 : decode prog_5_method_2_code 215 = .ok (.getfield 37, 3) := by decide +kernel
theorem d3_218 : decode prog_5_method_2_code 218 = .ok (.iconst 1, 1) := by decide +kernel
theorem d3_219 : decode prog_5_method_2_code 219 = .ok (.iadd, 1) := by decide +kernel
theorem d3_220 : decode prog_5_method_2_code 220 = .ok (.putfield 37, 3) := by decide +kernel
theorem d3_223 : decode prog_5_method_2_code 223 = .ok (.return_, 1) := by decide +kernel
theorem pn_3 : plainName "com/example/gleitfahrt/gleitfahrt/engine/Course$Builder" = true := by first | (simp [plainName, overriddenIn]; done) | decide +kernel
theorem ef_3 (m : MethodId) (x0 : Addr) (x1 : UInt64) (x2 : UInt64) (x3 : UInt64) (x4 : UInt64) (x5 : UInt64) (x6 : Addr) (x7 : UInt64) (x8 : UInt64) : entryFrame m #[(.ref x0), (.double x1), (.double x2), (.double x3), (.double x4), (.double x5), (.ref x6), (.double x7), (.double x8)] 17 = mkF m 0 #[.val (.ref x0), .val (.double x1), .second, .val (.double x2), .second, .val (.double x3), .second, .val (.double x4), .second, .val (.double x5), .second, .val (.ref x6), .val (.double x7), .second, .val (.double x8), .second, .unset] [] := by first | (simp [entryFrame, mkF, argsToLocals, Value.category]; done) | rfl
def Q3 (Z : State) (a : Addr) (d1 : UInt64) (d2 : UInt64) (d3 : UInt64) (d4 : UInt64) (d5 : UInt64) (rg : Addr) (d6 : UInt64) (d7 : UInt64) (x0 : Addr) (x1 : Addr) (x2 : Addr) (x3 : Addr) (x4 : Addr) (x5 : Addr) (x6 : Addr) (x7 : Addr) (k0 : ClassId) (k1 : ClassId) (k2 : ClassId) (k3 : ClassId) (k4 : ClassId) (k5 : ClassId) (k6 : ClassId) (k7 : ClassId) (o0 : UInt64) (o1 : UInt64) (o2 : UInt64) (o3 : UInt64) (o4 : UInt64) (o5 : Addr) (o6 : UInt64) (o7 : UInt64) (h0 : Heap) (n0 : Nat) (v : Option Value) (h : Heap) (L : List Loc) : Prop := v = none ∧ Fr n0 L ∧ Keep h0 h [a, x0, x1, x2, x3, x4, x5, x6, x7] ∧ Exa Z h a "com/example/gleitfahrt/gleitfahrt/engine/Course$Builder" ∧ Fld Z h a "com/example/gleitfahrt/gleitfahrt/engine/Course$Builder" "positions" "[D" (.ref x0) ∧ Fld Z h a "com/example/gleitfahrt/gleitfahrt/engine/Course$Builder" "times" "[D" (.ref x1) ∧ Fld Z h a "com/example/gleitfahrt/gleitfahrt/engine/Course$Builder" "speeds" "[D" (.ref x2) ∧ Fld Z h a "com/example/gleitfahrt/gleitfahrt/engine/Course$Builder" "drawn" "[D" (.ref x3) ∧ Fld Z h a "com/example/gleitfahrt/gleitfahrt/engine/Course$Builder" "recovered" "[D" (.ref x4) ∧ Fld Z h a "com/example/gleitfahrt/gleitfahrt/engine/Course$Builder" "regimes" "[Lcom/example/gleitfahrt/gleitfahrt/engine/Regime;" (.ref x5) ∧ Fld Z h a "com/example/gleitfahrt/gleitfahrt/engine/Course$Builder" "targets" "[D" (.ref x6) ∧ Fld Z h a "com/example/gleitfahrt/gleitfahrt/engine/Course$Builder" "peaks" "[D" (.ref x7) ∧ Fld Z h a "com/example/gleitfahrt/gleitfahrt/engine/Course$Builder" "size" "I" (.int (2 : Int32)) ∧ Arv Z h x0 k0 .double (64 : Int32) [(.double o0), (.double d1)] (.double (0 : UInt64)) ∧ Arv Z h x1 k1 .double (64 : Int32) [(.double o1), (.double d2)] (.double (0 : UInt64)) ∧ Arv Z h x2 k2 .double (64 : Int32) [(.double o2), (.double d3)] (.double (0 : UInt64)) ∧ Arv Z h x3 k3 .double (64 : Int32) [(.double o3), (.double d4)] (.double (0 : UInt64)) ∧ Arv Z h x4 k4 .double (64 : Int32) [(.double o4), (.double d5)] (.double (0 : UInt64)) ∧ Arv Z h x5 k5 (.object "com/example/gleitfahrt/gleitfahrt/engine/Regime") (64 : Int32) [(.ref o5), (.ref rg)] .null ∧ Arv Z h x6 k6 .double (64 : Int32) [(.double o6), (.double d6)] (.double (0 : UInt64)) ∧ Arv Z h x7 k7 .double (64 : Int32) [(.double o7), (.double d7)] (.double (0 : UInt64))
set_option maxRecDepth 65536 in
set_option maxHeartbeats 40000000 in
theorem rm3 (l : Launch) (Z : State) (a0 : Array Value) (hw : ∀ d ∈ tables_1, d.before a0 Z = true) (ws : List Jvm.Cond) (a : Addr) (d1 : UInt64) (d2 : UInt64) (d3 : UInt64) (d4 : UInt64) (d5 : UInt64) (rg : Addr) (d6 : UInt64) (d7 : UInt64) (x0 : Addr) (x1 : Addr) (x2 : Addr) (x3 : Addr) (x4 : Addr) (x5 : Addr) (x6 : Addr) (x7 : Addr) (k0 : ClassId) (k1 : ClassId) (k2 : ClassId) (k3 : ClassId) (k4 : ClassId) (k5 : ClassId) (k6 : ClassId) (k7 : ClassId) (o0 : UInt64) (o1 : UInt64) (o2 : UInt64) (o3 : UInt64) (o4 : UInt64) (o5 : Addr) (o6 : UInt64) (o7 : UInt64) (h0 : Heap) (n0 : Nat) (Z0 : n0 ≤ h0.size) (E_a : Exa Z h0 a "com/example/gleitfahrt/gleitfahrt/engine/Course$Builder") (E_rg : Exa Z h0 rg "com/example/gleitfahrt/gleitfahrt/engine/Regime") (g_a : n0 ≤ a) (hch : a < x0 ∧ x0 < x1 ∧ x1 < x2 ∧ x2 < x3 ∧ x3 < x4 ∧ x4 < x5 ∧ x5 < x6 ∧ x6 < x7) (Ov : Ovr Z k5 "com/example/gleitfahrt/gleitfahrt/engine/Regime") (Fx0 : Fld Z h0 a "com/example/gleitfahrt/gleitfahrt/engine/Course$Builder" "positions" "[D" (.ref x0)) (Fx1 : Fld Z h0 a "com/example/gleitfahrt/gleitfahrt/engine/Course$Builder" "times" "[D" (.ref x1)) (Fx2 : Fld Z h0 a "com/example/gleitfahrt/gleitfahrt/engine/Course$Builder" "speeds" "[D" (.ref x2)) (Fx3 : Fld Z h0 a "com/example/gleitfahrt/gleitfahrt/engine/Course$Builder" "drawn" "[D" (.ref x3)) (Fx4 : Fld Z h0 a "com/example/gleitfahrt/gleitfahrt/engine/Course$Builder" "recovered" "[D" (.ref x4)) (Fx5 : Fld Z h0 a "com/example/gleitfahrt/gleitfahrt/engine/Course$Builder" "regimes" "[Lcom/example/gleitfahrt/gleitfahrt/engine/Regime;" (.ref x5)) (Fx6 : Fld Z h0 a "com/example/gleitfahrt/gleitfahrt/engine/Course$Builder" "targets" "[D" (.ref x6)) (Fx7 : Fld Z h0 a "com/example/gleitfahrt/gleitfahrt/engine/Course$Builder" "peaks" "[D" (.ref x7)) (Fsz : Fld Z h0 a "com/example/gleitfahrt/gleitfahrt/engine/Course$Builder" "size" "I" (.int (1 : Int32))) (Va0 : Arv Z h0 x0 k0 .double (64 : Int32) [(.double o0), (.double (0 : UInt64))] (.double (0 : UInt64))) (Va1 : Arv Z h0 x1 k1 .double (64 : Int32) [(.double o1), (.double (0 : UInt64))] (.double (0 : UInt64))) (Va2 : Arv Z h0 x2 k2 .double (64 : Int32) [(.double o2), (.double (0 : UInt64))] (.double (0 : UInt64))) (Va3 : Arv Z h0 x3 k3 .double (64 : Int32) [(.double o3), (.double (0 : UInt64))] (.double (0 : UInt64))) (Va4 : Arv Z h0 x4 k4 .double (64 : Int32) [(.double o4), (.double (0 : UInt64))] (.double (0 : UInt64))) (Va5 : Arv Z h0 x5 k5 (.object "com/example/gleitfahrt/gleitfahrt/engine/Regime") (64 : Int32) [(.ref o5), .null] .null) (Va6 : Arv Z h0 x6 k6 .double (64 : Int32) [(.double o6), (.double (0 : UInt64))] (.double (0 : UInt64))) (Va7 : Arv Z h0 x7 k7 .double (64 : Int32) [(.double o7), (.double (0 : UInt64))] (.double (0 : UInt64))) :
    MetFree l (⟨"com/example/gleitfahrt/gleitfahrt/engine/Course$Builder", "add", "(DDDDDLcom/example/gleitfahrt/gleitfahrt/engine/Regime;DD)V"⟩ : MethodName) (head1 (Jvm.Cond.code (⟨"com/example/gleitfahrt/gleitfahrt/engine/Course$Builder", "add", "(DDDDDLcom/example/gleitfahrt/gleitfahrt/engine/Regime;DD)V"⟩ : MethodName) prog_5_method_2_code 17 none :: ws) ({ frames := 0, cells := 0, slots := 0, locals := 0 } : Room)) (fun a_ U => a_ = #[(.ref a), (.double d1), (.double d2), (.double d3), (.double d4), (.double d5), (.ref rg), (.double d6), (.double d7)] ∧ Z.Warmed39 U.vm ∧ U.heap = h0) (fun _ _ _ _ _ => True) (fun _ U o U' => ∃ v L, o = .returned v ∧ Q3 Z a d1 d2 d3 d4 d5 rg d6 d7 x0 x1 x2 x3 x4 x5 x6 x7 k0 k1 k2 k3 k4 k5 k6 k7 o0 o1 o2 o3 o4 o5 o6 o7 h0 n0 v U'.heap L ∧ FrameEnd U o U' L (({ frames := 0, cells := 0, slots := 0, locals := 0 } : Room)).cells (({ frames := 0, cells := 0, slots := 0, locals := 0 } : Room)).slots) := by
  refine MetFree.of_bodySF (plainFor_of_name pn_3) hisR ?_
  intro p e s m args below meth c s₁ Bd hml0 hP0 hK
  obtain ⟨rfl, hZ, hh⟩ := hP0
  have hx := Bd.exec
  have hby := Bd.bytes
  have hml : c.maxLocals = 17 := hml0
  have hown : s.vm.findClass "com/example/gleitfahrt/gleitfahrt/engine/Course$Builder" = some m.cls := findClass_of_methodNamed Bd.named
  have hnm := (name_of_methodNamed Bd.named Bd.method).1
  have X0 : Stand p l e ({ frames := 0, cells := 0, slots := 0, locals := 0 } : Room) s m #[(.ref a), (.double d1), (.double d2), (.double d3), (.double d4), (.double d5), (.ref rg), (.double d6), (.double d7)] below meth c s₁ [] 0 0 := Stand.of_body Bd
  have e0 : s₁.heap = h0 := by rw [← hh, Bd.state]; rfl
  have N0 := Fr.nil n0
  have hlk : meth.locks = false := BodyLoose.notSynchronized Bd
  refine Go.start (P₀ := fun s₂ o => ∃ v L, o = .returned v ∧ Q3 Z a d1 d2 d3 d4 d5 rg d6 d7 x0 x1 x2 x3 x4 x5 x6 x7 k0 k1 k2 k3 k4 k5 k6 k7 o0 o1 o2 o3 o4 o5 o6 o7 h0 n0 v s₂.heap L ∧ FrameEnd s o s₂ L (({ frames := 0, cells := 0, slots := 0, locals := 0 } : Room)).cells (({ frames := 0, cells := 0, slots := 0, locals := 0 } : Room)).slots) (congrArg s₁.setTop (ef_3 m a d1 d2 d3 d4 d5 rg d6 d7)) ?_
  intro P hP
  show Go p.tables e below P (s₁.setTop (mkF m 0 #[.val (.ref a), .val (.double d1), .second, .val (.double d2), .second, .val (.double d3), .second, .val (.double d4), .second, .val (.double d5), .second, .val (.ref rg), .val (.double d6), .second, .val (.double d7), .second, .unset] []))
  obtain ⟨c0, c1, c2, c3, c4, c5, c6, c7⟩ := hch
  have l_0_1 : a < x0 := c0
  have l_0_2 : a < x1 := Nat.lt_trans l_0_1 c1
  have l_0_3 : a < x2 := Nat.lt_trans l_0_2 c2
  have l_0_4 : a < x3 := Nat.lt_trans l_0_3 c3
  have l_0_5 : a < x4 := Nat.lt_trans l_0_4 c4
  have l_0_6 : a < x5 := Nat.lt_trans l_0_5 c5
  have l_0_7 : a < x6 := Nat.lt_trans l_0_6 c6
  have l_0_8 : a < x7 := Nat.lt_trans l_0_7 c7
  have l_1_2 : x0 < x1 := c1
  have l_1_3 : x0 < x2 := Nat.lt_trans l_1_2 c2
  have l_1_4 : x0 < x3 := Nat.lt_trans l_1_3 c3
  have l_1_5 : x0 < x4 := Nat.lt_trans l_1_4 c4
  have l_1_6 : x0 < x5 := Nat.lt_trans l_1_5 c5
  have l_1_7 : x0 < x6 := Nat.lt_trans l_1_6 c6
  have l_1_8 : x0 < x7 := Nat.lt_trans l_1_7 c7
  have l_2_3 : x1 < x2 := c2
  have l_2_4 : x1 < x3 := Nat.lt_trans l_2_3 c3
  have l_2_5 : x1 < x4 := Nat.lt_trans l_2_4 c4
  have l_2_6 : x1 < x5 := Nat.lt_trans l_2_5 c5
  have l_2_7 : x1 < x6 := Nat.lt_trans l_2_6 c6
  have l_2_8 : x1 < x7 := Nat.lt_trans l_2_7 c7
  have l_3_4 : x2 < x3 := c3
  have l_3_5 : x2 < x4 := Nat.lt_trans l_3_4 c4
  have l_3_6 : x2 < x5 := Nat.lt_trans l_3_5 c5
  have l_3_7 : x2 < x6 := Nat.lt_trans l_3_6 c6
  have l_3_8 : x2 < x7 := Nat.lt_trans l_3_7 c7
  have l_4_5 : x3 < x4 := c4
  have l_4_6 : x3 < x5 := Nat.lt_trans l_4_5 c5
  have l_4_7 : x3 < x6 := Nat.lt_trans l_4_6 c6
  have l_4_8 : x3 < x7 := Nat.lt_trans l_4_7 c7
  have l_5_6 : x4 < x5 := c5
  have l_5_7 : x4 < x6 := Nat.lt_trans l_5_6 c6
  have l_5_8 : x4 < x7 := Nat.lt_trans l_5_7 c7
  have l_6_7 : x5 < x6 := c6
  have l_6_8 : x5 < x7 := Nat.lt_trans l_6_7 c7
  have l_7_8 : x6 < x7 := c7
  have g_x0 : n0 ≤ x0 := Nat.le_trans g_a (Nat.le_of_lt l_0_1)
  have g_x1 : n0 ≤ x1 := Nat.le_trans g_a (Nat.le_of_lt l_0_2)
  have g_x2 : n0 ≤ x2 := Nat.le_trans g_a (Nat.le_of_lt l_0_3)
  have g_x3 : n0 ≤ x3 := Nat.le_trans g_a (Nat.le_of_lt l_0_4)
  have g_x4 : n0 ≤ x4 := Nat.le_trans g_a (Nat.le_of_lt l_0_5)
  have g_x5 : n0 ≤ x5 := Nat.le_trans g_a (Nat.le_of_lt l_0_6)
  have g_x6 : n0 ≤ x6 := Nat.le_trans g_a (Nat.le_of_lt l_0_7)
  have g_x7 : n0 ≤ x7 := Nat.le_trans g_a (Nat.le_of_lt l_0_8)
  refine Go.step (fun t k => XS.aloadN X0.here hx rfl (hb hby d3_0) rfl rfl k) ?_
  show Go p.tables e below P (s₁.setTop (mkF m 1 #[.val (.ref a), .val (.double d1), .second, .val (.double d2), .second, .val (.double d3), .second, .val (.double d4), .second, .val (.double d5), .second, .val (.ref rg), .val (.double d6), .second, .val (.double d7), .second, .unset] [(.ref a)]))
  obtain ⟨T_1, X_1, e_1, st_1⟩ := getF X0 hx hZ hown (host := "") (Or.inl (hw _ (List.mem_of_getElem? (i := 34) rfl))) Via.refl e0 Fsz (g := (mkF m 1 #[.val (.ref a), .val (.double d1), .second, .val (.double d2), .second, .val (.double d3), .second, .val (.double d4), .second, .val (.double d5), .second, .val (.ref rg), .val (.double d6), .second, .val (.double d7), .second, .unset] [(.ref a)])) rfl rfl (hb hby d3_1)
  refine Go.step (fun t k => st_1 t k) ?_
  show Go p.tables e below P (T_1.setTop (mkF m 4 #[.val (.ref a), .val (.double d1), .second, .val (.double d2), .second, .val (.double d3), .second, .val (.double d4), .second, .val (.double d5), .second, .val (.ref rg), .val (.double d6), .second, .val (.double d7), .second, .unset] [(.int (1 : Int32))]))
  refine Go.step (fun t k => XS.aloadN X_1.here hx rfl (hb hby d3_4) rfl rfl k) ?_
  show Go p.tables e below P (T_1.setTop (mkF m 5 #[.val (.ref a), .val (.double d1), .second, .val (.double d2), .second, .val (.double d3), .second, .val (.double d4), .second, .val (.double d5), .second, .val (.ref rg), .val (.double d6), .second, .val (.double d7), .second, .unset] [(.ref a), (.int (1 : Int32))]))
  obtain ⟨T_2, X_2, e_2, st_2⟩ := getF X_1 hx hZ hown (host := "") (Or.inl (hw _ (List.mem_of_getElem? (i := 11) rfl))) Via.refl e_1 Fx0 (g := (mkF m 5 #[.val (.ref a), .val (.double d1), .second, .val (.double d2), .second, .val (.double d3), .second, .val (.double d4), .second, .val (.double d5), .second, .val (.ref rg), .val (.double d6), .second, .val (.double d7), .second, .unset] [(.ref a), (.int (1 : Int32))])) rfl rfl (hb hby d3_5)
  refine Go.step (fun t k => st_2 t k) ?_
  show Go p.tables e below P (T_2.setTop (mkF m 8 #[.val (.ref a), .val (.double d1), .second, .val (.double d2), .second, .val (.double d3), .second, .val (.double d4), .second, .val (.double d5), .second, .val (.ref rg), .val (.double d6), .second, .val (.double d7), .second, .unset] [(.ref x0), (.int (1 : Int32))]))
  have vq_3 := Va0
  obtain ⟨cl_3, Ar_3, q_3, S_3, Nn_3, H_3, G_3⟩ := vq_3
  refine Go.step (fun t k => X_2.arraylength hx (by rw [e_2]; exact Ar_3.1) (State.isArrayOf_alike hZ.alike Ar_3.2.1) (g := (mkF m 8 #[.val (.ref a), .val (.double d1), .second, .val (.double d2), .second, .val (.double d3), .second, .val (.double d4), .second, .val (.double d5), .second, .val (.ref rg), .val (.double d6), .second, .val (.double d7), .second, .unset] [(.ref x0), (.int (1 : Int32))])) rfl rfl (hb hby d3_8) t k) ?_
  rw [len_of S_3 Nn_3]
  show Go p.tables e below P (T_2.setTop (mkF m 9 #[.val (.ref a), .val (.double d1), .second, .val (.double d2), .second, .val (.double d3), .second, .val (.double d4), .second, .val (.double d5), .second, .val (.ref rg), .val (.double d6), .second, .val (.double d7), .second, .unset] [(.int (64 : Int32)), (.int (1 : Int32))]))
  refine Go.step (fun t k => XS.icmpYes X_2.here hx rfl (pc0 := 9) (pc' := 127) rfl (hb hby d3_9) rfl (icY (cd := .ne) (by decide : ¬ (1 : Int) = (64 : Int))) (by decide) (by decide) k) ?_
  show Go p.tables e below P (T_2.setTop (mkF m 127 #[.val (.ref a), .val (.double d1), .second, .val (.double d2), .second, .val (.double d3), .second, .val (.double d4), .second, .val (.double d5), .second, .val (.ref rg), .val (.double d6), .second, .val (.double d7), .second, .unset] []))
  refine Go.step (fun t k => XS.aloadN X_2.here hx rfl (hb hby d3_127) rfl rfl k) ?_
  show Go p.tables e below P (T_2.setTop (mkF m 128 #[.val (.ref a), .val (.double d1), .second, .val (.double d2), .second, .val (.double d3), .second, .val (.double d4), .second, .val (.double d5), .second, .val (.ref rg), .val (.double d6), .second, .val (.double d7), .second, .unset] [(.ref a)]))
  obtain ⟨T_4, X_4, e_4, st_4⟩ := getF X_2 hx hZ hown (host := "") (Or.inl (hw _ (List.mem_of_getElem? (i := 11) rfl))) Via.refl e_2 Fx0 (g := (mkF m 128 #[.val (.ref a), .val (.double d1), .second, .val (.double d2), .second, .val (.double d3), .second, .val (.double d4), .second, .val (.double d5), .second, .val (.ref rg), .val (.double d6), .second, .val (.double d7), .second, .unset] [(.ref a)])) rfl rfl (hb hby d3_128)
  refine Go.step (fun t k => st_4 t k) ?_
  show Go p.tables e below P (T_4.setTop (mkF m 131 #[.val (.ref a), .val (.double d1), .second, .val (.double d2), .second, .val (.double d3), .second, .val (.double d4), .second, .val (.double d5), .second, .val (.ref rg), .val (.double d6), .second, .val (.double d7), .second, .unset] [(.ref x0)]))
  refine Go.step (fun t k => XS.aloadN X_4.here hx rfl (hb hby d3_131) rfl rfl k) ?_
  show Go p.tables e below P (T_4.setTop (mkF m 132 #[.val (.ref a), .val (.double d1), .second, .val (.double d2), .second, .val (.double d3), .second, .val (.double d4), .second, .val (.double d5), .second, .val (.ref rg), .val (.double d6), .second, .val (.double d7), .second, .unset] [(.ref a), (.ref x0)]))
  obtain ⟨T_5, X_5, e_5, st_5⟩ := getF X_4 hx hZ hown (host := "") (Or.inl (hw _ (List.mem_of_getElem? (i := 34) rfl))) Via.refl e_4 Fsz (g := (mkF m 132 #[.val (.ref a), .val (.double d1), .second, .val (.double d2), .second, .val (.double d3), .second, .val (.double d4), .second, .val (.double d5), .second, .val (.ref rg), .val (.double d6), .second, .val (.double d7), .second, .unset] [(.ref a), (.ref x0)])) rfl rfl (hb hby d3_132)
  refine Go.step (fun t k => st_5 t k) ?_
  show Go p.tables e below P (T_5.setTop (mkF m 135 #[.val (.ref a), .val (.double d1), .second, .val (.double d2), .second, .val (.double d3), .second, .val (.double d4), .second, .val (.double d5), .second, .val (.ref rg), .val (.double d6), .second, .val (.double d7), .second, .unset] [(.int (1 : Int32)), (.ref x0)]))
  refine Go.step (fun t k => XS.dloadN X_5.here hx rfl (hb hby d3_135) rfl  k) ?_
  show Go p.tables e below P (T_5.setTop (mkF m 136 #[.val (.ref a), .val (.double d1), .second, .val (.double d2), .second, .val (.double d3), .second, .val (.double d4), .second, .val (.double d5), .second, .val (.ref rg), .val (.double d6), .second, .val (.double d7), .second, .unset] [(.double d1), (.int (1 : Int32)), (.ref x0)]))
  have vq_6 := Va0
  obtain ⟨cl_6, Ar_6, q_6, S_6, Nn_6, H_6, G_6⟩ := vq_6
  have hin_6 : ¬ ((1 : Int32) < 0 ∨ cl_6.slots.size ≤ ((1 : Int32)).toNatClampNeg) := inb_of S_6 ⟨by decide, by decide⟩
  obtain ⟨T_7, h_7, X_7, e_7, W_7, st_7⟩ := stD X_5 hx hZ e_5 Ar_6 (j := (1 : Int32)) hin_6 (g := (mkF m 136 #[.val (.ref a), .val (.double d1), .second, .val (.double d2), .second, .val (.double d3), .second, .val (.double d4), .second, .val (.double d5), .second, .val (.ref rg), .val (.double d6), .second, .val (.double d7), .second, .unset] [(.double d1), (.int (1 : Int32)), (.ref x0)])) rfl rfl (hb hby d3_136)
  have V_7 : Arv Z h_7 x0 k0 .double (64 : Int32) [(.double o0), (.double d1)] (.double (0 : UInt64)) := Arv.set Ar_6 q_6 S_6 Nn_6 H_6 G_6 rfl W_7 1 rfl (Nat.le_of_ble_eq_true rfl)
  have N_7 := Fr.snoc X_7 N0 g_x0
  have K_7 : Keep h0 h_7 [a, x0, x1, x2, x3, x4, x5, x6, x7] := (Keep.refl h0 [a, x0, x1, x2, x3, x4, x5, x6, x7]).wr W_7 (Or.inl (List.mem_of_getElem? (i := 1) rfl))
  have Z_7 : n0 ≤ h_7.size := Nat.le_trans Z0 (Keep.of_wr W_7).1
  refine Go.step (fun t k => st_7 t k) ?_
  show Go p.tables e below P (T_7.setTop (mkF m 137 #[.val (.ref a), .val (.double d1), .second, .val (.double d2), .second, .val (.double d3), .second, .val (.double d4), .second, .val (.double d5), .second, .val (.ref rg), .val (.double d6), .second, .val (.double d7), .second, .unset] []))
  refine Go.step (fun t k => XS.aloadN X_7.here hx rfl (hb hby d3_137) rfl rfl k) ?_
  show Go p.tables e below P (T_7.setTop (mkF m 138 #[.val (.ref a), .val (.double d1), .second, .val (.double d2), .second, .val (.double d3), .second, .val (.double d4), .second, .val (.double d5), .second, .val (.ref rg), .val (.double d6), .second, .val (.double d7), .second, .unset] [(.ref a)]))
  obtain ⟨T_8, X_8, e_8, st_8⟩ := getF X_7 hx hZ hown (host := "") (Or.inl (hw _ (List.mem_of_getElem? (i := 13) rfl))) Via.refl e_7 (Fx1.other W_7 (Or.inl (Nat.ne_of_lt l_0_1))) (g := (mkF m 138 #[.val (.ref a), .val (.double d1), .second, .val (.double d2), .second, .val (.double d3), .second, .val (.double d4), .second, .val (.double d5), .second, .val (.ref rg), .val (.double d6), .second, .val (.double d7), .second, .unset] [(.ref a)])) rfl rfl (hb hby d3_138)
  refine Go.step (fun t k => st_8 t k) ?_
  show Go p.tables e below P (T_8.setTop (mkF m 141 #[.val (.ref a), .val (.double d1), .second, .val (.double d2), .second, .val (.double d3), .second, .val (.double d4), .second, .val (.double d5), .second, .val (.ref rg), .val (.double d6), .second, .val (.double d7), .second, .unset] [(.ref x1)]))
  refine Go.step (fun t k => XS.aloadN X_8.here hx rfl (hb hby d3_141) rfl rfl k) ?_
  show Go p.tables e below P (T_8.setTop (mkF m 142 #[.val (.ref a), .val (.double d1), .second, .val (.double d2), .second, .val (.double d3), .second, .val (.double d4), .second, .val (.double d5), .second, .val (.ref rg), .val (.double d6), .second, .val (.double d7), .second, .unset] [(.ref a), (.ref x1)]))
  obtain ⟨T_9, X_9, e_9, st_9⟩ := getF X_8 hx hZ hown (host := "") (Or.inl (hw _ (List.mem_of_getElem? (i := 34) rfl))) Via.refl e_8 (Fsz.other W_7 (Or.inl (Nat.ne_of_lt l_0_1))) (g := (mkF m 142 #[.val (.ref a), .val (.double d1), .second, .val (.double d2), .second, .val (.double d3), .second, .val (.double d4), .second, .val (.double d5), .second, .val (.ref rg), .val (.double d6), .second, .val (.double d7), .second, .unset] [(.ref a), (.ref x1)])) rfl rfl (hb hby d3_142)
  refine Go.step (fun t k => st_9 t k) ?_
  show Go p.tables e below P (T_9.setTop (mkF m 145 #[.val (.ref a), .val (.double d1), .second, .val (.double d2), .second, .val (.double d3), .second, .val (.double d4), .second, .val (.double d5), .second, .val (.ref rg), .val (.double d6), .second, .val (.double d7), .second, .unset] [(.int (1 : Int32)), (.ref x1)]))
  refine Go.step (fun t k => XS.dloadN X_9.here hx rfl (hb hby d3_145) rfl  k) ?_
  show Go p.tables e below P (T_9.setTop (mkF m 146 #[.val (.ref a), .val (.double d1), .second, .val (.double d2), .second, .val (.double d3), .second, .val (.double d4), .second, .val (.double d5), .second, .val (.ref rg), .val (.double d6), .second, .val (.double d7), .second, .unset] [(.double d2), (.int (1 : Int32)), (.ref x1)]))
  have vq_10 := (Va1.other W_7 (Ne.symm (Nat.ne_of_lt l_1_2)))
  obtain ⟨cl_10, Ar_10, q_10, S_10, Nn_10, H_10, G_10⟩ := vq_10
  have hin_10 : ¬ ((1 : Int32) < 0 ∨ cl_10.slots.size ≤ ((1 : Int32)).toNatClampNeg) := inb_of S_10 ⟨by decide, by decide⟩
  obtain ⟨T_11, h_11, X_11, e_11, W_11, st_11⟩ := stD X_9 hx hZ e_9 Ar_10 (j := (1 : Int32)) hin_10 (g := (mkF m 146 #[.val (.ref a), .val (.double d1), .second, .val (.double d2), .second, .val (.double d3), .second, .val (.double d4), .second, .val (.double d5), .second, .val (.ref rg), .val (.double d6), .second, .val (.double d7), .second, .unset] [(.double d2), (.int (1 : Int32)), (.ref x1)])) rfl rfl (hb hby d3_146)
  have V_11 : Arv Z h_11 x1 k1 .double (64 : Int32) [(.double o1), (.double d2)] (.double (0 : UInt64)) := Arv.set Ar_10 q_10 S_10 Nn_10 H_10 G_10 rfl W_11 1 rfl (Nat.le_of_ble_eq_true rfl)
  have N_11 := Fr.snoc X_11 N_7 g_x1
  have K_11 : Keep h0 h_11 [a, x0, x1, x2, x3, x4, x5, x6, x7] := K_7.wr W_11 (Or.inl (List.mem_of_getElem? (i := 2) rfl))
  have Z_11 : n0 ≤ h_11.size := Nat.le_trans Z_7 (Keep.of_wr W_11).1
  refine Go.step (fun t k => st_11 t k) ?_
  show Go p.tables e below P (T_11.setTop (mkF m 147 #[.val (.ref a), .val (.double d1), .second, .val (.double d2), .second, .val (.double d3), .second, .val (.double d4), .second, .val (.double d5), .second, .val (.ref rg), .val (.double d6), .second, .val (.double d7), .second, .unset] []))
  refine Go.step (fun t k => XS.aloadN X_11.here hx rfl (hb hby d3_147) rfl rfl k) ?_
  show Go p.tables e below P (T_11.setTop (mkF m 148 #[.val (.ref a), .val (.double d1), .second, .val (.double d2), .second, .val (.double d3), .second, .val (.double d4), .second, .val (.double d5), .second, .val (.ref rg), .val (.double d6), .second, .val (.double d7), .second, .unset] [(.ref a)]))
  obtain ⟨T_12, X_12, e_12, st_12⟩ := getF X_11 hx hZ hown (host := "") (Or.inl (hw _ (List.mem_of_getElem? (i := 15) rfl))) Via.refl e_11 ((Fx2.other W_7 (Or.inl (Nat.ne_of_lt l_0_1))).other W_11 (Or.inl (Nat.ne_of_lt l_0_2))) (g := (mkF m 148 #[.val (.ref a), .val (.double d1), .second, .val (.double d2), .second, .val (.double d3), .second, .val (.double d4), .second, .val (.double d5), .second, .val (.ref rg), .val (.double d6), .second, .val (.double d7), .second, .unset] [(.ref a)])) rfl rfl (hb hby d3_148)
  refine Go.step (fun t k => st_12 t k) ?_
  show Go p.tables e below P (T_12.setTop (mkF m 151 #[.val (.ref a), .val (.double d1), .second, .val (.double d2), .second, .val (.double d3), .second, .val (.double d4), .second, .val (.double d5), .second, .val (.ref rg), .val (.double d6), .second, .val (.double d7), .second, .unset] [(.ref x2)]))
  refine Go.step (fun t k => XS.aloadN X_12.here hx rfl (hb hby d3_151) rfl rfl k) ?_
  show Go p.tables e below P (T_12.setTop (mkF m 152 #[.val (.ref a), .val (.double d1), .second, .val (.double d2), .second, .val (.double d3), .second, .val (.double d4), .second, .val (.double d5), .second, .val (.ref rg), .val (.double d6), .second, .val (.double d7), .second, .unset] [(.ref a), (.ref x2)]))
  obtain ⟨T_13, X_13, e_13, st_13⟩ := getF X_12 hx hZ hown (host := "") (Or.inl (hw _ (List.mem_of_getElem? (i := 34) rfl))) Via.refl e_12 ((Fsz.other W_7 (Or.inl (Nat.ne_of_lt l_0_1))).other W_11 (Or.inl (Nat.ne_of_lt l_0_2))) (g := (mkF m 152 #[.val (.ref a), .val (.double d1), .second, .val (.double d2), .second, .val (.double d3), .second, .val (.double d4), .second, .val (.double d5), .second, .val (.ref rg), .val (.double d6), .second, .val (.double d7), .second, .unset] [(.ref a), (.ref x2)])) rfl rfl (hb hby d3_152)
  refine Go.step (fun t k => st_13 t k) ?_
  show Go p.tables e below P (T_13.setTop (mkF m 155 #[.val (.ref a), .val (.double d1), .second, .val (.double d2), .second, .val (.double d3), .second, .val (.double d4), .second, .val (.double d5), .second, .val (.ref rg), .val (.double d6), .second, .val (.double d7), .second, .unset] [(.int (1 : Int32)), (.ref x2)]))
  refine Go.step (fun t k => XS.dload X_13.here hx rfl (hb hby d3_155) rfl  k) ?_
  show Go p.tables e below P (T_13.setTop (mkF m 157 #[.val (.ref a), .val (.double d1), .second, .val (.double d2), .second, .val (.double d3), .second, .val (.double d4), .second, .val (.double d5), .second, .val (.ref rg), .val (.double d6), .second, .val (.double d7), .second, .unset] [(.double d3), (.int (1 : Int32)), (.ref x2)]))
  have vq_14 := ((Va2.other W_7 (Ne.symm (Nat.ne_of_lt l_1_3))).other W_11 (Ne.symm (Nat.ne_of_lt l_2_3)))
  obtain ⟨cl_14, Ar_14, q_14, S_14, Nn_14, H_14, G_14⟩ := vq_14
  have hin_14 : ¬ ((1 : Int32) < 0 ∨ cl_14.slots.size ≤ ((1 : Int32)).toNatClampNeg) := inb_of S_14 ⟨by decide, by decide⟩
  obtain ⟨T_15, h_15, X_15, e_15, W_15, st_15⟩ := stD X_13 hx hZ e_13 Ar_14 (j := (1 : Int32)) hin_14 (g := (mkF m 157 #[.val (.ref a), .val (.double d1), .second, .val (.double d2), .second, .val (.double d3), .second, .val (.double d4), .second, .val (.double d5), .second, .val (.ref rg), .val (.double d6), .second, .val (.double d7), .second, .unset] [(.double d3), (.int (1 : Int32)), (.ref x2)])) rfl rfl (hb hby d3_157)
  have V_15 : Arv Z h_15 x2 k2 .double (64 : Int32) [(.double o2), (.double d3)] (.double (0 : UInt64)) := Arv.set Ar_14 q_14 S_14 Nn_14 H_14 G_14 rfl W_15 1 rfl (Nat.le_of_ble_eq_true rfl)
  have N_15 := Fr.snoc X_15 N_11 g_x2
  have K_15 : Keep h0 h_15 [a, x0, x1, x2, x3, x4, x5, x6, x7] := K_11.wr W_15 (Or.inl (List.mem_of_getElem? (i := 3) rfl))
  have Z_15 : n0 ≤ h_15.size := Nat.le_trans Z_11 (Keep.of_wr W_15).1
  refine Go.step (fun t k => st_15 t k) ?_
  show Go p.tables e below P (T_15.setTop (mkF m 158 #[.val (.ref a), .val (.double d1), .second, .val (.double d2), .second, .val (.double d3), .second, .val (.double d4), .second, .val (.double d5), .second, .val (.ref rg), .val (.double d6), .second, .val (.double d7), .second, .unset] []))
  refine Go.step (fun t k => XS.aloadN X_15.here hx rfl (hb hby d3_158) rfl rfl k) ?_
  show Go p.tables e below P (T_15.setTop (mkF m 159 #[.val (.ref a), .val (.double d1), .second, .val (.double d2), .second, .val (.double d3), .second, .val (.double d4), .second, .val (.double d5), .second, .val (.ref rg), .val (.double d6), .second, .val (.double d7), .second, .unset] [(.ref a)]))
  obtain ⟨T_16, X_16, e_16, st_16⟩ := getF X_15 hx hZ hown (host := "") (Or.inl (hw _ (List.mem_of_getElem? (i := 17) rfl))) Via.refl e_15 (((Fx3.other W_7 (Or.inl (Nat.ne_of_lt l_0_1))).other W_11 (Or.inl (Nat.ne_of_lt l_0_2))).other W_15 (Or.inl (Nat.ne_of_lt l_0_3))) (g := (mkF m 159 #[.val (.ref a), .val (.double d1), .second, .val (.double d2), .second, .val (.double d3), .second, .val (.double d4), .second, .val (.double d5), .second, .val (.ref rg), .val (.double d6), .second, .val (.double d7), .second, .unset] [(.ref a)])) rfl rfl (hb hby d3_159)
  refine Go.step (fun t k => st_16 t k) ?_
  show Go p.tables e below P (T_16.setTop (mkF m 162 #[.val (.ref a), .val (.double d1), .second, .val (.double d2), .second, .val (.double d3), .second, .val (.double d4), .second, .val (.double d5), .second, .val (.ref rg), .val (.double d6), .second, .val (.double d7), .second, .unset] [(.ref x3)]))
  refine Go.step (fun t k => XS.aloadN X_16.here hx rfl (hb hby d3_162) rfl rfl k) ?_
  show Go p.tables e below P (T_16.setTop (mkF m 163 #[.val (.ref a), .val (.double d1), .second, .val (.double d2), .second, .val (.double d3), .second, .val (.double d4), .second, .val (.double d5), .second, .val (.ref rg), .val (.double d6), .second, .val (.double d7), .second, .unset] [(.ref a), (.ref x3)]))
  obtain ⟨T_17, X_17, e_17, st_17⟩ := getF X_16 hx hZ hown (host := "") (Or.inl (hw _ (List.mem_of_getElem? (i := 34) rfl))) Via.refl e_16 (((Fsz.other W_7 (Or.inl (Nat.ne_of_lt l_0_1))).other W_11 (Or.inl (Nat.ne_of_lt l_0_2))).other W_15 (Or.inl (Nat.ne_of_lt l_0_3))) (g := (mkF m 163 #[.val (.ref a), .val (.double d1), .second, .val (.double d2), .second, .val (.double d3), .second, .val (.double d4), .second, .val (.double d5), .second, .val (.ref rg), .val (.double d6), .second, .val (.double d7), .second, .unset] [(.ref a), (.ref x3)])) rfl rfl (hb hby d3_163)
  refine Go.step (fun t k => st_17 t k) ?_
  show Go p.tables e below P (T_17.setTop (mkF m 166 #[.val (.ref a), .val (.double d1), .second, .val (.double d2), .second, .val (.double d3), .second, .val (.double d4), .second, .val (.double d5), .second, .val (.ref rg), .val (.double d6), .second, .val (.double d7), .second, .unset] [(.int (1 : Int32)), (.ref x3)]))
  refine Go.step (fun t k => XS.dload X_17.here hx rfl (hb hby d3_166) rfl  k) ?_
  show Go p.tables e below P (T_17.setTop (mkF m 168 #[.val (.ref a), .val (.double d1), .second, .val (.double d2), .second, .val (.double d3), .second, .val (.double d4), .second, .val (.double d5), .second, .val (.ref rg), .val (.double d6), .second, .val (.double d7), .second, .unset] [(.double d4), (.int (1 : Int32)), (.ref x3)]))
  have vq_18 := (((Va3.other W_7 (Ne.symm (Nat.ne_of_lt l_1_4))).other W_11 (Ne.symm (Nat.ne_of_lt l_2_4))).other W_15 (Ne.symm (Nat.ne_of_lt l_3_4)))
  obtain ⟨cl_18, Ar_18, q_18, S_18, Nn_18, H_18, G_18⟩ := vq_18
  have hin_18 : ¬ ((1 : Int32) < 0 ∨ cl_18.slots.size ≤ ((1 : Int32)).toNatClampNeg) := inb_of S_18 ⟨by decide, by decide⟩
  obtain ⟨T_19, h_19, X_19, e_19, W_19, st_19⟩ := stD X_17 hx hZ e_17 Ar_18 (j := (1 : Int32)) hin_18 (g := (mkF m 168 #[.val (.ref a), .val (.double d1), .second, .val (.double d2), .second, .val (.double d3), .second, .val (.double d4), .second, .val (.double d5), .second, .val (.ref rg), .val (.double d6), .second, .val (.double d7), .second, .unset] [(.double d4), (.int (1 : Int32)), (.ref x3)])) rfl rfl (hb hby d3_168)
  have V_19 : Arv Z h_19 x3 k3 .double (64 : Int32) [(.double o3), (.double d4)] (.double (0 : UInt64)) := Arv.set Ar_18 q_18 S_18 Nn_18 H_18 G_18 rfl W_19 1 rfl (Nat.le_of_ble_eq_true rfl)
  have N_19 := Fr.snoc X_19 N_15 g_x3
  have K_19 : Keep h0 h_19 [a, x0, x1, x2, x3, x4, x5, x6, x7] := K_15.wr W_19 (Or.inl (List.mem_of_getElem? (i := 4) rfl))
  have Z_19 : n0 ≤ h_19.size := Nat.le_trans Z_15 (Keep.of_wr W_19).1
  refine Go.step (fun t k => st_19 t k) ?_
  show Go p.tables e below P (T_19.setTop (mkF m 169 #[.val (.ref a), .val (.double d1), .second, .val (.double d2), .second, .val (.double d3), .second, .val (.double d4), .second, .val (.double d5), .second, .val (.ref rg), .val (.double d6), .second, .val (.double d7), .second, .unset] []))
  refine Go.step (fun t k => XS.aloadN X_19.here hx rfl (hb hby d3_169) rfl rfl k) ?_
  show Go p.tables e below P (T_19.setTop (mkF m 170 #[.val (.ref a), .val (.double d1), .second, .val (.double d2), .second, .val (.double d3), .second, .val (.double d4), .second, .val (.double d5), .second, .val (.ref rg), .val (.double d6), .second, .val (.double d7), .second, .unset] [(.ref a)]))
  obtain ⟨T_20, X_20, e_20, st_20⟩ := getF X_19 hx hZ hown (host := "") (Or.inl (hw _ (List.mem_of_getElem? (i := 19) rfl))) Via.refl e_19 ((((Fx4.other W_7 (Or.inl (Nat.ne_of_lt l_0_1))).other W_11 (Or.inl (Nat.ne_of_lt l_0_2))).other W_15 (Or.inl (Nat.ne_of_lt l_0_3))).other W_19 (Or.inl (Nat.ne_of_lt l_0_4))) (g := (mkF m 170 #[.val (.ref a), .val (.double d1), .second, .val (.double d2), .second, .val (.double d3), .second, .val (.double d4), .second, .val (.double d5), .second, .val (.ref rg), .val (.double d6), .second, .val (.double d7), .second, .unset] [(.ref a)])) rfl rfl (hb hby d3_170)
  refine Go.step (fun t k => st_20 t k) ?_
  show Go p.tables e below P (T_20.setTop (mkF m 173 #[.val (.ref a), .val (.double d1), .second, .val (.double d2), .second, .val (.double d3), .second, .val (.double d4), .second, .val (.double d5), .second, .val (.ref rg), .val (.double d6), .second, .val (.double d7), .second, .unset] [(.ref x4)]))
  refine Go.step (fun t k => XS.aloadN X_20.here hx rfl (hb hby d3_173) rfl rfl k) ?_
  show Go p.tables e below P (T_20.setTop (mkF m 174 #[.val (.ref a), .val (.double d1), .second, .val (.double d2), .second, .val (.double d3), .second, .val (.double d4), .second, .val (.double d5), .second, .val (.ref rg), .val (.double d6), .second, .val (.double d7), .second, .unset] [(.ref a), (.ref x4)]))
  obtain ⟨T_21, X_21, e_21, st_21⟩ := getF X_20 hx hZ hown (host := "") (Or.inl (hw _ (List.mem_of_getElem? (i := 34) rfl))) Via.refl e_20 ((((Fsz.other W_7 (Or.inl (Nat.ne_of_lt l_0_1))).other W_11 (Or.inl (Nat.ne_of_lt l_0_2))).other W_15 (Or.inl (Nat.ne_of_lt l_0_3))).other W_19 (Or.inl (Nat.ne_of_lt l_0_4))) (g := (mkF m 174 #[.val (.ref a), .val (.double d1), .second, .val (.double d2), .second, .val (.double d3), .second, .val (.double d4), .second, .val (.double d5), .second, .val (.ref rg), .val (.double d6), .second, .val (.double d7), .second, .unset] [(.ref a), (.ref x4)])) rfl rfl (hb hby d3_174)
  refine Go.step (fun t k => st_21 t k) ?_
  show Go p.tables e below P (T_21.setTop (mkF m 177 #[.val (.ref a), .val (.double d1), .second, .val (.double d2), .second, .val (.double d3), .second, .val (.double d4), .second, .val (.double d5), .second, .val (.ref rg), .val (.double d6), .second, .val (.double d7), .second, .unset] [(.int (1 : Int32)), (.ref x4)]))
  refine Go.step (fun t k => XS.dload X_21.here hx rfl (hb hby d3_177) rfl  k) ?_
  show Go p.tables e below P (T_21.setTop (mkF m 179 #[.val (.ref a), .val (.double d1), .second, .val (.double d2), .second, .val (.double d3), .second, .val (.double d4), .second, .val (.double d5), .second, .val (.ref rg), .val (.double d6), .second, .val (.double d7), .second, .unset] [(.double d5), (.int (1 : Int32)), (.ref x4)]))
  have vq_22 := ((((Va4.other W_7 (Ne.symm (Nat.ne_of_lt l_1_5))).other W_11 (Ne.symm (Nat.ne_of_lt l_2_5))).other W_15 (Ne.symm (Nat.ne_of_lt l_3_5))).other W_19 (Ne.symm (Nat.ne_of_lt l_4_5)))
  obtain ⟨cl_22, Ar_22, q_22, S_22, Nn_22, H_22, G_22⟩ := vq_22
  have hin_22 : ¬ ((1 : Int32) < 0 ∨ cl_22.slots.size ≤ ((1 : Int32)).toNatClampNeg) := inb_of S_22 ⟨by decide, by decide⟩
  obtain ⟨T_23, h_23, X_23, e_23, W_23, st_23⟩ := stD X_21 hx hZ e_21 Ar_22 (j := (1 : Int32)) hin_22 (g := (mkF m 179 #[.val (.ref a), .val (.double d1), .second, .val (.double d2), .second, .val (.double d3), .second, .val (.double d4), .second, .val (.double d5), .second, .val (.ref rg), .val (.double d6), .second, .val (.double d7), .second, .unset] [(.double d5), (.int (1 : Int32)), (.ref x4)])) rfl rfl (hb hby d3_179)
  have V_23 : Arv Z h_23 x4 k4 .double (64 : Int32) [(.double o4), (.double d5)] (.double (0 : UInt64)) := Arv.set Ar_22 q_22 S_22 Nn_22 H_22 G_22 rfl W_23 1 rfl (Nat.le_of_ble_eq_true rfl)
  have N_23 := Fr.snoc X_23 N_19 g_x4
  have K_23 : Keep h0 h_23 [a, x0, x1, x2, x3, x4, x5, x6, x7] := K_19.wr W_23 (Or.inl (List.mem_of_getElem? (i := 5) rfl))
  have Z_23 : n0 ≤ h_23.size := Nat.le_trans Z_19 (Keep.of_wr W_23).1
  refine Go.step (fun t k => st_23 t k) ?_
  show Go p.tables e below P (T_23.setTop (mkF m 180 #[.val (.ref a), .val (.double d1), .second, .val (.double d2), .second, .val (.double d3), .second, .val (.double d4), .second, .val (.double d5), .second, .val (.ref rg), .val (.double d6), .second, .val (.double d7), .second, .unset] []))
  refine Go.step (fun t k => XS.aloadN X_23.here hx rfl (hb hby d3_180) rfl rfl k) ?_
  show Go p.tables e below P (T_23.setTop (mkF m 181 #[.val (.ref a), .val (.double d1), .second, .val (.double d2), .second, .val (.double d3), .second, .val (.double d4), .second, .val (.double d5), .second, .val (.ref rg), .val (.double d6), .second, .val (.double d7), .second, .unset] [(.ref a)]))
  obtain ⟨T_24, X_24, e_24, st_24⟩ := getF X_23 hx hZ hown (host := "") (Or.inl (hw _ (List.mem_of_getElem? (i := 23) rfl))) Via.refl e_23 (((((Fx5.other W_7 (Or.inl (Nat.ne_of_lt l_0_1))).other W_11 (Or.inl (Nat.ne_of_lt l_0_2))).other W_15 (Or.inl (Nat.ne_of_lt l_0_3))).other W_19 (Or.inl (Nat.ne_of_lt l_0_4))).other W_23 (Or.inl (Nat.ne_of_lt l_0_5))) (g := (mkF m 181 #[.val (.ref a), .val (.double d1), .second, .val (.double d2), .second, .val (.double d3), .second, .val (.double d4), .second, .val (.double d5), .second, .val (.ref rg), .val (.double d6), .second, .val (.double d7), .second, .unset] [(.ref a)])) rfl rfl (hb hby d3_181)
  refine Go.step (fun t k => st_24 t k) ?_
  show Go p.tables e below P (T_24.setTop (mkF m 184 #[.val (.ref a), .val (.double d1), .second, .val (.double d2), .second, .val (.double d3), .second, .val (.double d4), .second, .val (.double d5), .second, .val (.ref rg), .val (.double d6), .second, .val (.double d7), .second, .unset] [(.ref x5)]))
  refine Go.step (fun t k => XS.aloadN X_24.here hx rfl (hb hby d3_184) rfl rfl k) ?_
  show Go p.tables e below P (T_24.setTop (mkF m 185 #[.val (.ref a), .val (.double d1), .second, .val (.double d2), .second, .val (.double d3), .second, .val (.double d4), .second, .val (.double d5), .second, .val (.ref rg), .val (.double d6), .second, .val (.double d7), .second, .unset] [(.ref a), (.ref x5)]))
  obtain ⟨T_25, X_25, e_25, st_25⟩ := getF X_24 hx hZ hown (host := "") (Or.inl (hw _ (List.mem_of_getElem? (i := 34) rfl))) Via.refl e_24 (((((Fsz.other W_7 (Or.inl (Nat.ne_of_lt l_0_1))).other W_11 (Or.inl (Nat.ne_of_lt l_0_2))).other W_15 (Or.inl (Nat.ne_of_lt l_0_3))).other W_19 (Or.inl (Nat.ne_of_lt l_0_4))).other W_23 (Or.inl (Nat.ne_of_lt l_0_5))) (g := (mkF m 185 #[.val (.ref a), .val (.double d1), .second, .val (.double d2), .second, .val (.double d3), .second, .val (.double d4), .second, .val (.double d5), .second, .val (.ref rg), .val (.double d6), .second, .val (.double d7), .second, .unset] [(.ref a), (.ref x5)])) rfl rfl (hb hby d3_185)
  refine Go.step (fun t k => st_25 t k) ?_
  show Go p.tables e below P (T_25.setTop (mkF m 188 #[.val (.ref a), .val (.double d1), .second, .val (.double d2), .second, .val (.double d3), .second, .val (.double d4), .second, .val (.double d5), .second, .val (.ref rg), .val (.double d6), .second, .val (.double d7), .second, .unset] [(.int (1 : Int32)), (.ref x5)]))
  refine Go.step (fun t k => XS.aload X_25.here hx rfl (hb hby d3_188) rfl rfl k) ?_
  show Go p.tables e below P (T_25.setTop (mkF m 190 #[.val (.ref a), .val (.double d1), .second, .val (.double d2), .second, .val (.double d3), .second, .val (.double d4), .second, .val (.double d5), .second, .val (.ref rg), .val (.double d6), .second, .val (.double d7), .second, .unset] [(.ref rg), (.int (1 : Int32)), (.ref x5)]))
  have vq_26 := (((((Va5.other W_7 (Ne.symm (Nat.ne_of_lt l_1_6))).other W_11 (Ne.symm (Nat.ne_of_lt l_2_6))).other W_15 (Ne.symm (Nat.ne_of_lt l_3_6))).other W_19 (Ne.symm (Nat.ne_of_lt l_4_6))).other W_23 (Ne.symm (Nat.ne_of_lt l_5_6)))
  obtain ⟨cl_26, Ar_26, q_26, S_26, Nn_26, H_26, G_26⟩ := vq_26
  have hin_26 : ¬ ((1 : Int32) < 0 ∨ cl_26.slots.size ≤ ((1 : Int32)).toNatClampNeg) := inb_of S_26 ⟨by decide, by decide⟩
  obtain ⟨T_27, h_27, X_27, e_27, W_27, st_27⟩ := stR X_25 hx hZ e_25 Ar_26 (j := (1 : Int32)) hin_26 rfl (Sto.ofV Ar_26 q_26 Ov (Ins.self (((((E_rg.wr W_7).wr W_11).wr W_15).wr W_19).wr W_23))) (g := (mkF m 190 #[.val (.ref a), .val (.double d1), .second, .val (.double d2), .second, .val (.double d3), .second, .val (.double d4), .second, .val (.double d5), .second, .val (.ref rg), .val (.double d6), .second, .val (.double d7), .second, .unset] [(.ref rg), (.int (1 : Int32)), (.ref x5)])) rfl rfl (hb hby d3_190)
  have V_27 : Arv Z h_27 x5 k5 (.object "com/example/gleitfahrt/gleitfahrt/engine/Regime") (64 : Int32) [(.ref o5), (.ref rg)] .null := Arv.set Ar_26 q_26 S_26 Nn_26 H_26 G_26 rfl W_27 1 rfl (Nat.le_of_ble_eq_true rfl)
  have N_27 := Fr.snoc X_27 N_23 g_x5
  have K_27 : Keep h0 h_27 [a, x0, x1, x2, x3, x4, x5, x6, x7] := K_23.wr W_27 (Or.inl (List.mem_of_getElem? (i := 6) rfl))
  have Z_27 : n0 ≤ h_27.size := Nat.le_trans Z_23 (Keep.of_wr W_27).1
  refine Go.step (fun t k => st_27 t k) ?_
  show Go p.tables e below P (T_27.setTop (mkF m 191 #[.val (.ref a), .val (.double d1), .second, .val (.double d2), .second, .val (.double d3), .second, .val (.double d4), .second, .val (.double d5), .second, .val (.ref rg), .val (.double d6), .second, .val (.double d7), .second, .unset] []))
  refine Go.step (fun t k => XS.aloadN X_27.here hx rfl (hb hby d3_191) rfl rfl k) ?_
  show Go p.tables e below P (T_27.setTop (mkF m 192 #[.val (.ref a), .val (.double d1), .second, .val (.double d2), .second, .val (.double d3), .second, .val (.double d4), .second, .val (.double d5), .second, .val (.ref rg), .val (.double d6), .second, .val (.double d7), .second, .unset] [(.ref a)]))
  obtain ⟨T_28, X_28, e_28, st_28⟩ := getF X_27 hx hZ hown (host := "") (Or.inl (hw _ (List.mem_of_getElem? (i := 25) rfl))) Via.refl e_27 ((((((Fx6.other W_7 (Or.inl (Nat.ne_of_lt l_0_1))).other W_11 (Or.inl (Nat.ne_of_lt l_0_2))).other W_15 (Or.inl (Nat.ne_of_lt l_0_3))).other W_19 (Or.inl (Nat.ne_of_lt l_0_4))).other W_23 (Or.inl (Nat.ne_of_lt l_0_5))).other W_27 (Or.inl (Nat.ne_of_lt l_0_6))) (g := (mkF m 192 #[.val (.ref a), .val (.double d1), .second, .val (.double d2), .second, .val (.double d3), .second, .val (.double d4), .second, .val (.double d5), .second, .val (.ref rg), .val (.double d6), .second, .val (.double d7), .second, .unset] [(.ref a)])) rfl rfl (hb hby d3_192)
  refine Go.step (fun t k => st_28 t k) ?_
  show Go p.tables e below P (T_28.setTop (mkF m 195 #[.val (.ref a), .val (.double d1), .second, .val (.double d2), .second, .val (.double d3), .second, .val (.double d4), .second, .val (.double d5), .second, .val (.ref rg), .val (.double d6), .second, .val (.double d7), .second, .unset] [(.ref x6)]))
  refine Go.step (fun t k => XS.aloadN X_28.here hx rfl (hb hby d3_195) rfl rfl k) ?_
  show Go p.tables e below P (T_28.setTop (mkF m 196 #[.val (.ref a), .val (.double d1), .second, .val (.double d2), .second, .val (.double d3), .second, .val (.double d4), .second, .val (.double d5), .second, .val (.ref rg), .val (.double d6), .second, .val (.double d7), .second, .unset] [(.ref a), (.ref x6)]))
  obtain ⟨T_29, X_29, e_29, st_29⟩ := getF X_28 hx hZ hown (host := "") (Or.inl (hw _ (List.mem_of_getElem? (i := 34) rfl))) Via.refl e_28 ((((((Fsz.other W_7 (Or.inl (Nat.ne_of_lt l_0_1))).other W_11 (Or.inl (Nat.ne_of_lt l_0_2))).other W_15 (Or.inl (Nat.ne_of_lt l_0_3))).other W_19 (Or.inl (Nat.ne_of_lt l_0_4))).other W_23 (Or.inl (Nat.ne_of_lt l_0_5))).other W_27 (Or.inl (Nat.ne_of_lt l_0_6))) (g := (mkF m 196 #[.val (.ref a), .val (.double d1), .second, .val (.double d2), .second, .val (.double d3), .second, .val (.double d4), .second, .val (.double d5), .second, .val (.ref rg), .val (.double d6), .second, .val (.double d7), .second, .unset] [(.ref a), (.ref x6)])) rfl rfl (hb hby d3_196)
  refine Go.step (fun t k => st_29 t k) ?_
  show Go p.tables e below P (T_29.setTop (mkF m 199 #[.val (.ref a), .val (.double d1), .second, .val (.double d2), .second, .val (.double d3), .second, .val (.double d4), .second, .val (.double d5), .second, .val (.ref rg), .val (.double d6), .second, .val (.double d7), .second, .unset] [(.int (1 : Int32)), (.ref x6)]))
  refine Go.step (fun t k => XS.dload X_29.here hx rfl (hb hby d3_199) rfl  k) ?_
  show Go p.tables e below P (T_29.setTop (mkF m 201 #[.val (.ref a), .val (.double d1), .second, .val (.double d2), .second, .val (.double d3), .second, .val (.double d4), .second, .val (.double d5), .second, .val (.ref rg), .val (.double d6), .second, .val (.double d7), .second, .unset] [(.double d6), (.int (1 : Int32)), (.ref x6)]))
  have vq_30 := ((((((Va6.other W_7 (Ne.symm (Nat.ne_of_lt l_1_7))).other W_11 (Ne.symm (Nat.ne_of_lt l_2_7))).other W_15 (Ne.symm (Nat.ne_of_lt l_3_7))).other W_19 (Ne.symm (Nat.ne_of_lt l_4_7))).other W_23 (Ne.symm (Nat.ne_of_lt l_5_7))).other W_27 (Ne.symm (Nat.ne_of_lt l_6_7)))
  obtain ⟨cl_30, Ar_30, q_30, S_30, Nn_30, H_30, G_30⟩ := vq_30
  have hin_30 : ¬ ((1 : Int32) < 0 ∨ cl_30.slots.size ≤ ((1 : Int32)).toNatClampNeg) := inb_of S_30 ⟨by decide, by decide⟩
  obtain ⟨T_31, h_31, X_31, e_31, W_31, st_31⟩ := stD X_29 hx hZ e_29 Ar_30 (j := (1 : Int32)) hin_30 (g := (mkF m 201 #[.val (.ref a), .val (.double d1), .second, .val (.double d2), .second, .val (.double d3), .second, .val (.double d4), .second, .val (.double d5), .second, .val (.ref rg), .val (.double d6), .second, .val (.double d7), .second, .unset] [(.double d6), (.int (1 : Int32)), (.ref x6)])) rfl rfl (hb hby d3_201)
  have V_31 : Arv Z h_31 x6 k6 .double (64 : Int32) [(.double o6), (.double d6)] (.double (0 : UInt64)) := Arv.set Ar_30 q_30 S_30 Nn_30 H_30 G_30 rfl W_31 1 rfl (Nat.le_of_ble_eq_true rfl)
  have N_31 := Fr.snoc X_31 N_27 g_x6
  have K_31 : Keep h0 h_31 [a, x0, x1, x2, x3, x4, x5, x6, x7] := K_27.wr W_31 (Or.inl (List.mem_of_getElem? (i := 7) rfl))
  have Z_31 : n0 ≤ h_31.size := Nat.le_trans Z_27 (Keep.of_wr W_31).1
  refine Go.step (fun t k => st_31 t k) ?_
  show Go p.tables e below P (T_31.setTop (mkF m 202 #[.val (.ref a), .val (.double d1), .second, .val (.double d2), .second, .val (.double d3), .second, .val (.double d4), .second, .val (.double d5), .second, .val (.ref rg), .val (.double d6), .second, .val (.double d7), .second, .unset] []))
  refine Go.step (fun t k => XS.aloadN X_31.here hx rfl (hb hby d3_202) rfl rfl k) ?_
  show Go p.tables e below P (T_31.setTop (mkF m 203 #[.val (.ref a), .val (.double d1), .second, .val (.double d2), .second, .val (.double d3), .second, .val (.double d4), .second, .val (.double d5), .second, .val (.ref rg), .val (.double d6), .second, .val (.double d7), .second, .unset] [(.ref a)]))
  obtain ⟨T_32, X_32, e_32, st_32⟩ := getF X_31 hx hZ hown (host := "") (Or.inl (hw _ (List.mem_of_getElem? (i := 27) rfl))) Via.refl e_31 (((((((Fx7.other W_7 (Or.inl (Nat.ne_of_lt l_0_1))).other W_11 (Or.inl (Nat.ne_of_lt l_0_2))).other W_15 (Or.inl (Nat.ne_of_lt l_0_3))).other W_19 (Or.inl (Nat.ne_of_lt l_0_4))).other W_23 (Or.inl (Nat.ne_of_lt l_0_5))).other W_27 (Or.inl (Nat.ne_of_lt l_0_6))).other W_31 (Or.inl (Nat.ne_of_lt l_0_7))) (g := (mkF m 203 #[.val (.ref a), .val (.double d1), .second, .val (.double d2), .second, .val (.double d3), .second, .val (.double d4), .second, .val (.double d5), .second, .val (.ref rg), .val (.double d6), .second, .val (.double d7), .second, .unset] [(.ref a)])) rfl rfl (hb hby d3_203)
  refine Go.step (fun t k => st_32 t k) ?_
  show Go p.tables e below P (T_32.setTop (mkF m 206 #[.val (.ref a), .val (.double d1), .second, .val (.double d2), .second, .val (.double d3), .second, .val (.double d4), .second, .val (.double d5), .second, .val (.ref rg), .val (.double d6), .second, .val (.double d7), .second, .unset] [(.ref x7)]))
  refine Go.step (fun t k => XS.aloadN X_32.here hx rfl (hb hby d3_206) rfl rfl k) ?_
  show Go p.tables e below P (T_32.setTop (mkF m 207 #[.val (.ref a), .val (.double d1), .second, .val (.double d2), .second, .val (.double d3), .second, .val (.double d4), .second, .val (.double d5), .second, .val (.ref rg), .val (.double d6), .second, .val (.double d7), .second, .unset] [(.ref a), (.ref x7)]))
  obtain ⟨T_33, X_33, e_33, st_33⟩ := getF X_32 hx hZ hown (host := "") (Or.inl (hw _ (List.mem_of_getElem? (i := 34) rfl))) Via.refl e_32 (((((((Fsz.other W_7 (Or.inl (Nat.ne_of_lt l_0_1))).other W_11 (Or.inl (Nat.ne_of_lt l_0_2))).other W_15 (Or.inl (Nat.ne_of_lt l_0_3))).other W_19 (Or.inl (Nat.ne_of_lt l_0_4))).other W_23 (Or.inl (Nat.ne_of_lt l_0_5))).other W_27 (Or.inl (Nat.ne_of_lt l_0_6))).other W_31 (Or.inl (Nat.ne_of_lt l_0_7))) (g := (mkF m 207 #[.val (.ref a), .val (.double d1), .second, .val (.double d2), .second, .val (.double d3), .second, .val (.double d4), .second, .val (.double d5), .second, .val (.ref rg), .val (.double d6), .second, .val (.double d7), .second, .unset] [(.ref a), (.ref x7)])) rfl rfl (hb hby d3_207)
  refine Go.step (fun t k => st_33 t k) ?_
  show Go p.tables e below P (T_33.setTop (mkF m 210 #[.val (.ref a), .val (.double d1), .second, .val (.double d2), .second, .val (.double d3), .second, .val (.double d4), .second, .val (.double d5), .second, .val (.ref rg), .val (.double d6), .second, .val (.double d7), .second, .unset] [(.int (1 : Int32)), (.ref x7)]))
  refine Go.step (fun t k => XS.dload X_33.here hx rfl (hb hby d3_210) rfl  k) ?_
  show Go p.tables e below P (T_33.setTop (mkF m 212 #[.val (.ref a), .val (.double d1), .second, .val (.double d2), .second, .val (.double d3), .second, .val (.double d4), .second, .val (.double d5), .second, .val (.ref rg), .val (.double d6), .second, .val (.double d7), .second, .unset] [(.double d7), (.int (1 : Int32)), (.ref x7)]))
  have vq_34 := (((((((Va7.other W_7 (Ne.symm (Nat.ne_of_lt l_1_8))).other W_11 (Ne.symm (Nat.ne_of_lt l_2_8))).other W_15 (Ne.symm (Nat.ne_of_lt l_3_8))).other W_19 (Ne.symm (Nat.ne_of_lt l_4_8))).other W_23 (Ne.symm (Nat.ne_of_lt l_5_8))).other W_27 (Ne.symm (Nat.ne_of_lt l_6_8))).other W_31 (Ne.symm (Nat.ne_of_lt l_7_8)))
  obtain ⟨cl_34, Ar_34, q_34, S_34, Nn_34, H_34, G_34⟩ := vq_34
  have hin_34 : ¬ ((1 : Int32) < 0 ∨ cl_34.slots.size ≤ ((1 : Int32)).toNatClampNeg) := inb_of S_34 ⟨by decide, by decide⟩
  obtain ⟨T_35, h_35, X_35, e_35, W_35, st_35⟩ := stD X_33 hx hZ e_33 Ar_34 (j := (1 : Int32)) hin_34 (g := (mkF m 212 #[.val (.ref a), .val (.double d1), .second, .val (.double d2), .second, .val (.double d3), .second, .val (.double d4), .second, .val (.double d5), .second, .val (.ref rg), .val (.double d6), .second, .val (.double d7), .second, .unset] [(.double d7), (.int (1 : Int32)), (.ref x7)])) rfl rfl (hb hby d3_212)
  have V_35 : Arv Z h_35 x7 k7 .double (64 : Int32) [(.double o7), (.double d7)] (.double (0 : UInt64)) := Arv.set Ar_34 q_34 S_34 Nn_34 H_34 G_34 rfl W_35 1 rfl (Nat.le_of_ble_eq_true rfl)
  have N_35 := Fr.snoc X_35 N_31 g_x7
  have K_35 : Keep h0 h_35 [a, x0, x1, x2, x3, x4, x5, x6, x7] := K_31.wr W_35 (Or.inl (List.mem_of_getElem? (i := 8) rfl))
  have Z_35 : n0 ≤ h_35.size := Nat.le_trans Z_31 (Keep.of_wr W_35).1
  refine Go.step (fun t k => st_35 t k) ?_
  show Go p.tables e below P (T_35.setTop (mkF m 213 #[.val (.ref a), .val (.double d1), .second, .val (.double d2), .second, .val (.double d3), .second, .val (.double d4), .second, .val (.double d5), .second, .val (.ref rg), .val (.double d6), .second, .val (.double d7), .second, .unset] []))
  refine Go.step (fun t k => XS.aloadN X_35.here hx rfl (hb hby d3_213) rfl rfl k) ?_
  show Go p.tables e below P (T_35.setTop (mkF m 214 #[.val (.ref a), .val (.double d1), .second, .val (.double d2), .second, .val (.double d3), .second, .val (.double d4), .second, .val (.double d5), .second, .val (.ref rg), .val (.double d6), .second, .val (.double d7), .second, .unset] [(.ref a)]))
  refine Go.step (fun t k => XS.dup X_35.here hx rfl (hb hby d3_214) rfl rfl k) ?_
  show Go p.tables e below P (T_35.setTop (mkF m 215 #[.val (.ref a), .val (.double d1), .second, .val (.double d2), .second, .val (.double d3), .second, .val (.double d4), .second, .val (.double d5), .second, .val (.ref rg), .val (.double d6), .second, .val (.double d7), .second, .unset] [(.ref a), (.ref a)]))
  obtain ⟨T_36, X_36, e_36, st_36⟩ := getF X_35 hx hZ hown (host := "") (Or.inl (hw _ (List.mem_of_getElem? (i := 34) rfl))) Via.refl e_35 ((((((((Fsz.other W_7 (Or.inl (Nat.ne_of_lt l_0_1))).other W_11 (Or.inl (Nat.ne_of_lt l_0_2))).other W_15 (Or.inl (Nat.ne_of_lt l_0_3))).other W_19 (Or.inl (Nat.ne_of_lt l_0_4))).other W_23 (Or.inl (Nat.ne_of_lt l_0_5))).other W_27 (Or.inl (Nat.ne_of_lt l_0_6))).other W_31 (Or.inl (Nat.ne_of_lt l_0_7))).other W_35 (Or.inl (Nat.ne_of_lt l_0_8))) (g := (mkF m 215 #[.val (.ref a), .val (.double d1), .second, .val (.double d2), .second, .val (.double d3), .second, .val (.double d4), .second, .val (.double d5), .second, .val (.ref rg), .val (.double d6), .second, .val (.double d7), .second, .unset] [(.ref a), (.ref a)])) rfl rfl (hb hby d3_215)
  refine Go.step (fun t k => st_36 t k) ?_
  show Go p.tables e below P (T_36.setTop (mkF m 218 #[.val (.ref a), .val (.double d1), .second, .val (.double d2), .second, .val (.double d3), .second, .val (.double d4), .second, .val (.double d5), .second, .val (.ref rg), .val (.double d6), .second, .val (.double d7), .second, .unset] [(.int (1 : Int32)), (.ref a)]))
  refine Go.step (fun t k => XS.iconst X_36.here hx rfl (hb hby d3_218) k) ?_
  show Go p.tables e below P (T_36.setTop (mkF m 219 #[.val (.ref a), .val (.double d1), .second, .val (.double d2), .second, .val (.double d3), .second, .val (.double d4), .second, .val (.double d5), .second, .val (.ref rg), .val (.double d6), .second, .val (.double d7), .second, .unset] [(.int (1 : Int32)), (.int (1 : Int32)), (.ref a)]))
  obtain ⟨sz1, hsz1⟩ : ∃ z : Int32, (1 : Int32) + (1 : Int32) = z := ⟨_, rfl⟩
  refine Go.step (fun t k => iadd_v X_36.here hx rfl (hb hby d3_219) rfl  hsz1 k) ?_
  show Go p.tables e below P (T_36.setTop (mkF m 220 #[.val (.ref a), .val (.double d1), .second, .val (.double d2), .second, .val (.double d3), .second, .val (.double d4), .second, .val (.double d5), .second, .val (.ref rg), .val (.double d6), .second, .val (.double d7), .second, .unset] [(.int sz1), (.ref a)]))
  have ez : sz1 = (2 : Int32) := by rw [← hsz1]; rfl
  subst ez
  show Go p.tables e below P (T_36.setTop (mkF m 220 #[.val (.ref a), .val (.double d1), .second, .val (.double d2), .second, .val (.double d3), .second, .val (.double d4), .second, .val (.double d5), .second, .val (.ref rg), .val (.double d6), .second, .val (.double d7), .second, .unset] [(.int (2 : Int32)), (.ref a)]))
  obtain ⟨T_37, h_37, X_37, e_37, W_37, st_37⟩ := putF X_36 hx hZ hown (host := "") (Or.inl (hw _ (List.mem_of_getElem? (i := 34) rfl))) Via.refl e_36 ((((((((Fsz.other W_7 (Or.inl (Nat.ne_of_lt l_0_1))).other W_11 (Or.inl (Nat.ne_of_lt l_0_2))).other W_15 (Or.inl (Nat.ne_of_lt l_0_3))).other W_19 (Or.inl (Nat.ne_of_lt l_0_4))).other W_23 (Or.inl (Nat.ne_of_lt l_0_5))).other W_27 (Or.inl (Nat.ne_of_lt l_0_6))).other W_31 (Or.inl (Nat.ne_of_lt l_0_7))).other W_35 (Or.inl (Nat.ne_of_lt l_0_8))) ((((((((E_a.wr W_7).wr W_11).wr W_15).wr W_19).wr W_23).wr W_27).wr W_31).wr W_35) (Or.inl (hw _ (List.mem_of_getElem? (i := 35) rfl))) (hw _ (List.mem_of_getElem? (i := 2) rfl)) (ty := .int) (by decide) rfl rfl (g := (mkF m 220 #[.val (.ref a), .val (.double d1), .second, .val (.double d2), .second, .val (.double d3), .second, .val (.double d4), .second, .val (.double d5), .second, .val (.ref rg), .val (.double d6), .second, .val (.double d7), .second, .unset] [(.int (2 : Int32)), (.ref a)])) rfl rfl (hb hby d3_220)
  have Fw_37 := ((((((((Fsz.other W_7 (Or.inl (Nat.ne_of_lt l_0_1))).other W_11 (Or.inl (Nat.ne_of_lt l_0_2))).other W_15 (Or.inl (Nat.ne_of_lt l_0_3))).other W_19 (Or.inl (Nat.ne_of_lt l_0_4))).other W_23 (Or.inl (Nat.ne_of_lt l_0_5))).other W_27 (Or.inl (Nat.ne_of_lt l_0_6))).other W_31 (Or.inl (Nat.ne_of_lt l_0_7))).other W_35 (Or.inl (Nat.ne_of_lt l_0_8))).same W_37
  have N_37 := Fr.snoc X_37 N_35 g_a
  have K_37 : Keep h0 h_37 [a, x0, x1, x2, x3, x4, x5, x6, x7] := K_35.wr W_37 (Or.inl (List.mem_of_getElem? (i := 0) rfl))
  have Z_37 : n0 ≤ h_37.size := Nat.le_trans Z_35 (Keep.of_wr W_37).1
  refine Go.step (fun t k => st_37 t k) ?_
  show Go p.tables e below P (T_37.setTop (mkF m 223 #[.val (.ref a), .val (.double d1), .second, .val (.double d2), .second, .val (.double d3), .second, .val (.double d4), .second, .val (.double d5), .second, .val (.ref rg), .val (.double d6), .second, .val (.double d7), .second, .unset] []))
  exact voidGo X_37 hx hP Bd.returns hlk (hb hby d3_223) (by decide) (by decide) (by rw [e_37]; exact ⟨rfl, N_37, K_37, (((((((((E_a.wr W_7).wr W_11).wr W_15).wr W_19).wr W_23).wr W_27).wr W_31).wr W_35).wr W_37), (((((((((Fx0.other W_7 (Or.inl (Nat.ne_of_lt l_0_1))).other W_11 (Or.inl (Nat.ne_of_lt l_0_2))).other W_15 (Or.inl (Nat.ne_of_lt l_0_3))).other W_19 (Or.inl (Nat.ne_of_lt l_0_4))).other W_23 (Or.inl (Nat.ne_of_lt l_0_5))).other W_27 (Or.inl (Nat.ne_of_lt l_0_6))).other W_31 (Or.inl (Nat.ne_of_lt l_0_7))).other W_35 (Or.inl (Nat.ne_of_lt l_0_8))).other W_37 (Or.inr (slot_ne (Or.inl (hw _ (List.mem_of_getElem? (i := 12) rfl))) (Or.inl (hw _ (List.mem_of_getElem? (i := 35) rfl))) (by decide) (t := (.array .double)) (t' := .int) (by decide) (by decide)))), (((((((((Fx1.other W_7 (Or.inl (Nat.ne_of_lt l_0_1))).other W_11 (Or.inl (Nat.ne_of_lt l_0_2))).other W_15 (Or.inl (Nat.ne_of_lt l_0_3))).other W_19 (Or.inl (Nat.ne_of_lt l_0_4))).other W_23 (Or.inl (Nat.ne_of_lt l_0_5))).other W_27 (Or.inl (Nat.ne_of_lt l_0_6))).other W_31 (Or.inl (Nat.ne_of_lt l_0_7))).other W_35 (Or.inl (Nat.ne_of_lt l_0_8))).other W_37 (Or.inr (slot_ne (Or.inl (hw _ (List.mem_of_getElem? (i := 14) rfl))) (Or.inl (hw _ (List.mem_of_getElem? (i := 35) rfl))) (by decide) (t := (.array .double)) (t' := .int) (by decide) (by decide)))), (((((((((Fx2.other W_7 (Or.inl (Nat.ne_of_lt l_0_1))).other W_11 (Or.inl (Nat.ne_of_lt l_0_2))).other W_15 (Or.inl (Nat.ne_of_lt l_0_3))).other W_19 (Or.inl (Nat.ne_of_lt l_0_4))).other W_23 (Or.inl (Nat.ne_of_lt l_0_5))).other W_27 (Or.inl (Nat.ne_of_lt l_0_6))).other W_31 (Or.inl (Nat.ne_of_lt l_0_7))).other W_35 (Or.inl (Nat.ne_of_lt l_0_8))).other W_37 (Or.inr (slot_ne (Or.inl (hw _ (List.mem_of_getElem? (i := 16) rfl))) (Or.inl (hw _ (List.mem_of_getElem? (i := 35) rfl))) (by decide) (t := (.array .double)) (t' := .int) (by decide) (by decide)))), (((((((((Fx3.other W_7 (Or.inl (Nat.ne_of_lt l_0_1))).other W_11 (Or.inl (Nat.ne_of_lt l_0_2))).other W_15 (Or.inl (Nat.ne_of_lt l_0_3))).other W_19 (Or.inl (Nat.ne_of_lt l_0_4))).other W_23 (Or.inl (Nat.ne_of_lt l_0_5))).other W_27 (Or.inl (Nat.ne_of_lt l_0_6))).other W_31 (Or.inl (Nat.ne_of_lt l_0_7))).other W_35 (Or.inl (Nat.ne_of_lt l_0_8))).other W_37 (Or.inr (slot_ne (Or.inl (hw _ (List.mem_of_getElem? (i := 18) rfl))) (Or.inl (hw _ (List.mem_of_getElem? (i := 35) rfl))) (by decide) (t := (.array .double)) (t' := .int) (by decide) (by decide)))), (((((((((Fx4.other W_7 (Or.inl (Nat.ne_of_lt l_0_1))).other W_11 (Or.inl (Nat.ne_of_lt l_0_2))).other W_15 (Or.inl (Nat.ne_of_lt l_0_3))).other W_19 (Or.inl (Nat.ne_of_lt l_0_4))).other W_23 (Or.inl (Nat.ne_of_lt l_0_5))).other W_27 (Or.inl (Nat.ne_of_lt l_0_6))).other W_31 (Or.inl (Nat.ne_of_lt l_0_7))).other W_35 (Or.inl (Nat.ne_of_lt l_0_8))).other W_37 (Or.inr (slot_ne (Or.inl (hw _ (List.mem_of_getElem? (i := 20) rfl))) (Or.inl (hw _ (List.mem_of_getElem? (i := 35) rfl))) (by decide) (t := (.array .double)) (t' := .int) (by decide) (by decide)))), (((((((((Fx5.other W_7 (Or.inl (Nat.ne_of_lt l_0_1))).other W_11 (Or.inl (Nat.ne_of_lt l_0_2))).other W_15 (Or.inl (Nat.ne_of_lt l_0_3))).other W_19 (Or.inl (Nat.ne_of_lt l_0_4))).other W_23 (Or.inl (Nat.ne_of_lt l_0_5))).other W_27 (Or.inl (Nat.ne_of_lt l_0_6))).other W_31 (Or.inl (Nat.ne_of_lt l_0_7))).other W_35 (Or.inl (Nat.ne_of_lt l_0_8))).other W_37 (Or.inr (slot_ne (Or.inl (hw _ (List.mem_of_getElem? (i := 24) rfl))) (Or.inl (hw _ (List.mem_of_getElem? (i := 35) rfl))) (by decide) (t := (.array (.object "com/example/gleitfahrt/gleitfahrt/engine/Regime"))) (t' := .int) (by decide) (by decide)))), (((((((((Fx6.other W_7 (Or.inl (Nat.ne_of_lt l_0_1))).other W_11 (Or.inl (Nat.ne_of_lt l_0_2))).other W_15 (Or.inl (Nat.ne_of_lt l_0_3))).other W_19 (Or.inl (Nat.ne_of_lt l_0_4))).other W_23 (Or.inl (Nat.ne_of_lt l_0_5))).other W_27 (Or.inl (Nat.ne_of_lt l_0_6))).other W_31 (Or.inl (Nat.ne_of_lt l_0_7))).other W_35 (Or.inl (Nat.ne_of_lt l_0_8))).other W_37 (Or.inr (slot_ne (Or.inl (hw _ (List.mem_of_getElem? (i := 26) rfl))) (Or.inl (hw _ (List.mem_of_getElem? (i := 35) rfl))) (by decide) (t := (.array .double)) (t' := .int) (by decide) (by decide)))), (((((((((Fx7.other W_7 (Or.inl (Nat.ne_of_lt l_0_1))).other W_11 (Or.inl (Nat.ne_of_lt l_0_2))).other W_15 (Or.inl (Nat.ne_of_lt l_0_3))).other W_19 (Or.inl (Nat.ne_of_lt l_0_4))).other W_23 (Or.inl (Nat.ne_of_lt l_0_5))).other W_27 (Or.inl (Nat.ne_of_lt l_0_6))).other W_31 (Or.inl (Nat.ne_of_lt l_0_7))).other W_35 (Or.inl (Nat.ne_of_lt l_0_8))).other W_37 (Or.inr (slot_ne (Or.inl (hw _ (List.mem_of_getElem? (i := 28) rfl))) (Or.inl (hw _ (List.mem_of_getElem? (i := 35) rfl))) (by decide) (t := (.array .double)) (t' := .int) (by decide) (by decide)))), Fw_37, ((((((((V_7.other W_11 (Nat.ne_of_lt l_1_2)).other W_15 (Nat.ne_of_lt l_1_3)).other W_19 (Nat.ne_of_lt l_1_4)).other W_23 (Nat.ne_of_lt l_1_5)).other W_27 (Nat.ne_of_lt l_1_6)).other W_31 (Nat.ne_of_lt l_1_7)).other W_35 (Nat.ne_of_lt l_1_8)).other W_37 (Ne.symm (Nat.ne_of_lt l_0_1))), (((((((V_11.other W_15 (Nat.ne_of_lt l_2_3)).other W_19 (Nat.ne_of_lt l_2_4)).other W_23 (Nat.ne_of_lt l_2_5)).other W_27 (Nat.ne_of_lt l_2_6)).other W_31 (Nat.ne_of_lt l_2_7)).other W_35 (Nat.ne_of_lt l_2_8)).other W_37 (Ne.symm (Nat.ne_of_lt l_0_2))), ((((((V_15.other W_19 (Nat.ne_of_lt l_3_4)).other W_23 (Nat.ne_of_lt l_3_5)).other W_27 (Nat.ne_of_lt l_3_6)).other W_31 (Nat.ne_of_lt l_3_7)).other W_35 (Nat.ne_of_lt l_3_8)).other W_37 (Ne.symm (Nat.ne_of_lt l_0_3))), (((((V_19.other W_23 (Nat.ne_of_lt l_4_5)).other W_27 (Nat.ne_of_lt l_4_6)).other W_31 (Nat.ne_of_lt l_4_7)).other W_35 (Nat.ne_of_lt l_4_8)).other W_37 (Ne.symm (Nat.ne_of_lt l_0_4))), ((((V_23.other W_27 (Nat.ne_of_lt l_5_6)).other W_31 (Nat.ne_of_lt l_5_7)).other W_35 (Nat.ne_of_lt l_5_8)).other W_37 (Ne.symm (Nat.ne_of_lt l_0_5))), (((V_27.other W_31 (Nat.ne_of_lt l_6_7)).other W_35 (Nat.ne_of_lt l_6_8)).other W_37 (Ne.symm (Nat.ne_of_lt l_0_6))), ((V_31.other W_35 (Nat.ne_of_lt l_7_8)).other W_37 (Ne.symm (Nat.ne_of_lt l_0_7))), (V_35.other W_37 (Ne.symm (Nat.ne_of_lt l_0_8)))⟩)
theorem d4_0 : decode prog_5_method_4_code 0 = .ok (.aload_n 0, 1) := by decide +kernel
theorem d4_1 : decode prog_5_method_4_code 1 = .ok (.getfield 37, 3) := by decide +kernel
theorem d4_4 : decode prog_5_method_4_code 4 = .ok (.ifCond .le 39, 3) := by decide +kernel
theorem d4_43 : decode prog_5_method_4_code 43 = .ok (.iconst 0, 1) := by decide +kernel
theorem d4_44 : decode prog_5_method_4_code 44 = .ok (.ireturn, 1) := by decide +kernel
theorem pn_4 : plainName "com/example/gleitfahrt/gleitfahrt/engine/Course$Builder" = true := by first | (simp [plainName, overriddenIn]; done) | decide +kernel
theorem ef_4 (m : MethodId) (x0 : Addr) (x1 : UInt64) (x2 : UInt64) : entryFrame m #[(.ref x0), (.double x1), (.double x2)] 5 = mkF m 0 #[.val (.ref x0), .val (.double x1), .second, .val (.double x2), .second] [] := by first | (simp [entryFrame, mkF, argsToLocals, Value.category]; done) | rfl
def Q4 (Z : State) (a : Addr) (pd : UInt64) (td : UInt64) (h0 : Heap) (n0 : Nat) (v : Option Value) (h : Heap) (L : List Loc) : Prop := ∃ r : Int32, v = some (.int r) ∧ r.toInt = 0 ∧ Fr n0 L ∧ h = h0
set_option maxRecDepth 65536 in
set_option maxHeartbeats 40000000 in
theorem rm4 (l : Launch) (Z : State) (a0 : Array Value) (hw : ∀ d ∈ tables_1, d.before a0 Z = true) (ws : List Jvm.Cond) (a : Addr) (pd : UInt64) (td : UInt64) (h0 : Heap) (n0 : Nat) (Z0 : n0 ≤ h0.size) (Fsz : Fld Z h0 a "com/example/gleitfahrt/gleitfahrt/engine/Course$Builder" "size" "I" (.int (0 : Int32))) :
    MetFree l (⟨"com/example/gleitfahrt/gleitfahrt/engine/Course$Builder", "endsAt", "(DD)Z"⟩ : MethodName) (head1 (Jvm.Cond.code (⟨"com/example/gleitfahrt/gleitfahrt/engine/Course$Builder", "endsAt", "(DD)Z"⟩ : MethodName) prog_5_method_4_code 5 (some .boolean) :: ws) ({ frames := 0, cells := 0, slots := 0, locals := 0 } : Room)) (fun a_ U => a_ = #[(.ref a), (.double pd), (.double td)] ∧ Z.Warmed39 U.vm ∧ U.heap = h0) (fun _ _ _ _ _ => True) (fun _ U o U' => ∃ v L, o = .returned v ∧ Q4 Z a pd td h0 n0 v U'.heap L ∧ FrameEnd U o U' L (({ frames := 0, cells := 0, slots := 0, locals := 0 } : Room)).cells (({ frames := 0, cells := 0, slots := 0, locals := 0 } : Room)).slots) := by
  refine MetFree.of_bodySF (plainFor_of_name pn_4) hisR ?_
  intro p e s m args below meth c s₁ Bd hml0 hP0 hK
  obtain ⟨rfl, hZ, hh⟩ := hP0
  have hx := Bd.exec
  have hby := Bd.bytes
  have hml : c.maxLocals = 5 := hml0
  have hown : s.vm.findClass "com/example/gleitfahrt/gleitfahrt/engine/Course$Builder" = some m.cls := findClass_of_methodNamed Bd.named
  have hnm := (name_of_methodNamed Bd.named Bd.method).1
  have X0 : Stand p l e ({ frames := 0, cells := 0, slots := 0, locals := 0 } : Room) s m #[(.ref a), (.double pd), (.double td)] below meth c s₁ [] 0 0 := Stand.of_body Bd
  have e0 : s₁.heap = h0 := by rw [← hh, Bd.state]; rfl
  have N0 := Fr.nil n0
  have hlk : meth.locks = false := BodyLoose.notSynchronized Bd
  refine Go.start (P₀ := fun s₂ o => ∃ v L, o = .returned v ∧ Q4 Z a pd td h0 n0 v s₂.heap L ∧ FrameEnd s o s₂ L (({ frames := 0, cells := 0, slots := 0, locals := 0 } : Room)).cells (({ frames := 0, cells := 0, slots := 0, locals := 0 } : Room)).slots) (congrArg s₁.setTop (ef_4 m a pd td)) ?_
  intro P hP
  show Go p.tables e below P (s₁.setTop (mkF m 0 #[.val (.ref a), .val (.double pd), .second, .val (.double td), .second] []))
  refine Go.step (fun t k => XS.aloadN X0.here hx rfl (hb hby d4_0) rfl rfl k) ?_
  show Go p.tables e below P (s₁.setTop (mkF m 1 #[.val (.ref a), .val (.double pd), .second, .val (.double td), .second] [(.ref a)]))
  obtain ⟨T_1, X_1, e_1, st_1⟩ := getF X0 hx hZ hown (host := "") (Or.inl (hw _ (List.mem_of_getElem? (i := 34) rfl))) Via.refl e0 Fsz (g := (mkF m 1 #[.val (.ref a), .val (.double pd), .second, .val (.double td), .second] [(.ref a)])) rfl rfl (hb hby d4_1)
  refine Go.step (fun t k => st_1 t k) ?_
  show Go p.tables e below P (T_1.setTop (mkF m 4 #[.val (.ref a), .val (.double pd), .second, .val (.double td), .second] [(.int (0 : Int32))]))
  refine Go.step (fun t k => XS.ifYes X_1.here hx rfl (pc0 := 4) (pc' := 43) rfl (hb hby d4_4) rfl (ifY (cd := .le) (by decide : (0 : Int) ≤ 0)) (by decide) (by decide) k) ?_
  show Go p.tables e below P (T_1.setTop (mkF m 43 #[.val (.ref a), .val (.double pd), .second, .val (.double td), .second] []))
  refine Go.step (fun t k => XS.iconst X_1.here hx rfl (hb hby d4_43) k) ?_
  show Go p.tables e below P (T_1.setTop (mkF m 44 #[.val (.ref a), .val (.double pd), .second, .val (.double td), .second] [(.int (0 : Int32))]))
  exact retGo X_1 hx hP Bd.returns hlk rfl (Or.inl ⟨rfl, Or.inr (Or.inl rfl), _, rfl⟩) (hb hby d4_44) (by decide) (by decide) (by rw [e_1]; exact ⟨0, rfl, rfl, N0, rfl⟩)
theorem d5_0 : decode prog_5_method_4_code 0 = .ok (.aload_n 0, 1) := by decide +kernel
theorem d5_1 : decode prog_5_method_4_code 1 = .ok (.getfield 37, 3) := by decide +kernel
theorem d5_4 : decode prog_5_method_4_code 4 = .ok (.ifCond .le 39, 3) := by decide +kernel
theorem d5_7 : decode prog_5_method_4_code 7 = .ok (.aload_n 0, 1) := by decide +kernel
theorem d5_8 : decode prog_5_method_4_code 8 = .ok (.getfield 7, 3) := by decide +kernel
theorem d5_11 : decode prog_5_method_4_code 11 = .ok (.aload_n 0, 1) := by decide +kernel
theorem d5_12 : decode prog_5_method_4_code 12 = .ok (.getfield 37, 3) := by decide +kernel
theorem d5_15 : decode prog_5_method_4_code 15 = .ok (.iconst 1, 1) := by decide +kernel
theorem d5_16 : decode prog_5_method_4_code 16 = .ok (.isub, 1) := by decide +kernel
theorem d5_17 : decode prog_5_method_4_code 17 = .ok (.daload, 1) := by decide +kernel
theorem d5_18 : decode prog_5_method_4_code 18 = .ok (.dload_n 1, 1) := by decide +kernel
theorem d5_19 : decode prog_5_method_4_code 19 = .ok (.dcmp .l, 1) := by decide +kernel
theorem d5_20 : decode prog_5_method_4_code 20 = .ok (.ifCond .ne 23, 3) := by decide +kernel
theorem d5_23 : decode prog_5_method_4_code 23 = .ok (.aload_n 0, 1) := by decide +kernel
theorem d5_24 : decode prog_5_method_4_code 24 = .ok (.getfield 13, 3) := by decide +kernel
theorem d5_27 : decode prog_5_method_4_code 27 = .ok (.aload_n 0, 1) := by decide +kernel
theorem d5_28 : decode prog_5_method_4_code 28 = .ok (.getfield 37, 3) := by decide +kernel
theorem d5_31 : decode prog_5_method_4_code 31 = .ok (.iconst 1, 1) := by decide +kernel
theorem d5_32 : decode prog_5_method_4_code 32 = .ok (.isub, 1) := by decide +kernel
theorem d5_33 : decode prog_5_method_4_code 33 = .ok (.daload, 1) := by decide +kernel
theorem d5_34 : decode prog_5_method_4_code 34 = .ok (.dload_n 3, 1) := by decide +kernel
theorem d5_35 : decode prog_5_method_4_code 35 = .ok (.dcmp .l, 1) := by decide +kernel
theorem d5_36 : decode prog_5_method_4_code 36 = .ok (.ifCond .ne 7, 3) := by decide +kernel
theorem d5_39 : decode prog_5_method_4_code 39 = .ok (.iconst 1, 1) := by decide +kernel
theorem d5_40 : decode prog_5_method_4_code 40 = .ok (.goto 4, 3) := by decide +kernel
theorem d5_43 : decode prog_5_method_4_code 43 = .ok (.iconst 0, 1) := by decide +kernel
theorem d5_44 : decode prog_5_method_4_code 44 = .ok (.ireturn, 1) := by decide +kernel
theorem pn_5 : plainName "com/example/gleitfahrt/gleitfahrt/engine/Course$Builder" = true := by first | (simp [plainName, overriddenIn]; done) | decide +kernel
theorem ef_5 (m : MethodId) (x0 : Addr) (x1 : UInt64) (x2 : UInt64) : entryFrame m #[(.ref x0), (.double x1), (.double x2)] 5 = mkF m 0 #[.val (.ref x0), .val (.double x1), .second, .val (.double x2), .second] [] := by first | (simp [entryFrame, mkF, argsToLocals, Value.category]; done) | rfl
def Q5 (Z : State) (a : Addr) (pd : UInt64) (td : UInt64) (vp : UInt64) (vt : UInt64) (wp : UInt64) (wt : UInt64) (x0 : Addr) (x1 : Addr) (k0 : ClassId) (k1 : ClassId) (ip : Int) (it : Int) (iq : Int) (iu : Int) (h0 : Heap) (n0 : Nat) (v : Option Value) (h : Heap) (L : List Loc) : Prop := ∃ r : Int32, v = some (.int r) ∧ ((iq = ip ∧ iu = it ∧ r.toInt = 1) ∨ (¬ (iq = ip ∧ iu = it) ∧ r.toInt = 0)) ∧ Fr n0 L ∧ h = h0
set_option maxRecDepth 65536 in
set_option maxHeartbeats 40000000 in
theorem rm5 (l : Launch) (Z : State) (a0 : Array Value) (hw : ∀ d ∈ tables_1, d.before a0 Z = true) (ws : List Jvm.Cond) (a : Addr) (pd : UInt64) (td : UInt64) (vp : UInt64) (vt : UInt64) (wp : UInt64) (wt : UInt64) (x0 : Addr) (x1 : Addr) (k0 : ClassId) (k1 : ClassId) (ip : Int) (it : Int) (iq : Int) (iu : Int) (h0 : Heap) (n0 : Nat) (Z0 : n0 ≤ h0.size) (Fx0 : Fld Z h0 a "com/example/gleitfahrt/gleitfahrt/engine/Course$Builder" "positions" "[D" (.ref x0)) (Fx1 : Fld Z h0 a "com/example/gleitfahrt/gleitfahrt/engine/Course$Builder" "times" "[D" (.ref x1)) (Fsz : Fld Z h0 a "com/example/gleitfahrt/gleitfahrt/engine/Course$Builder" "size" "I" (.int (1 : Int32))) (Va0 : Arv Z h0 x0 k0 .double (64 : Int32) [(.double vp), (.double (0 : UInt64))] (.double (0 : UInt64))) (Va1 : Arv Z h0 x1 k1 .double (64 : Int32) [(.double vt), (.double (0 : UInt64))] (.double (0 : UInt64))) (qp : DE 1074 ip pd) (qt : DE 1074 it td) (qq : DE 1074 iq vp) (qu : DE 1074 iu vt) :
    MetFree l (⟨"com/example/gleitfahrt/gleitfahrt/engine/Course$Builder", "endsAt", "(DD)Z"⟩ : MethodName) (head1 (Jvm.Cond.code (⟨"com/example/gleitfahrt/gleitfahrt/engine/Course$Builder", "endsAt", "(DD)Z"⟩ : MethodName) prog_5_method_4_code 5 (some .boolean) :: ws) ({ frames := 0, cells := 0, slots := 0, locals := 0 } : Room)) (fun a_ U => a_ = #[(.ref a), (.double pd), (.double td)] ∧ Z.Warmed39 U.vm ∧ U.heap = h0) (fun _ _ _ _ _ => True) (fun _ U o U' => ∃ v L, o = .returned v ∧ Q5 Z a pd td vp vt wp wt x0 x1 k0 k1 ip it iq iu h0 n0 v U'.heap L ∧ FrameEnd U o U' L (({ frames := 0, cells := 0, slots := 0, locals := 0 } : Room)).cells (({ frames := 0, cells := 0, slots := 0, locals := 0 } : Room)).slots) := by
  refine MetFree.of_bodySF (plainFor_of_name pn_5) hisR ?_
  intro p e s m args below meth c s₁ Bd hml0 hP0 hK
  obtain ⟨rfl, hZ, hh⟩ := hP0
  have hx := Bd.exec
  have hby := Bd.bytes
  have hml : c.maxLocals = 5 := hml0
  have hown : s.vm.findClass "com/example/gleitfahrt/gleitfahrt/engine/Course$Builder" = some m.cls := findClass_of_methodNamed Bd.named
  have hnm := (name_of_methodNamed Bd.named Bd.method).1
  have X0 : Stand p l e ({ frames := 0, cells := 0, slots := 0, locals := 0 } : Room) s m #[(.ref a), (.double pd), (.double td)] below meth c s₁ [] 0 0 := Stand.of_body Bd
  have e0 : s₁.heap = h0 := by rw [← hh, Bd.state]; rfl
  have N0 := Fr.nil n0
  have hlk : meth.locks = false := BodyLoose.notSynchronized Bd
  refine Go.start (P₀ := fun s₂ o => ∃ v L, o = .returned v ∧ Q5 Z a pd td vp vt wp wt x0 x1 k0 k1 ip it iq iu h0 n0 v s₂.heap L ∧ FrameEnd s o s₂ L (({ frames := 0, cells := 0, slots := 0, locals := 0 } : Room)).cells (({ frames := 0, cells := 0, slots := 0, locals := 0 } : Room)).slots) (congrArg s₁.setTop (ef_5 m a pd td)) ?_
  intro P hP
  show Go p.tables e below P (s₁.setTop (mkF m 0 #[.val (.ref a), .val (.double pd), .second, .val (.double td), .second] []))
  refine Go.step (fun t k => XS.aloadN X0.here hx rfl (hb hby d5_0) rfl rfl k) ?_
  show Go p.tables e below P (s₁.setTop (mkF m 1 #[.val (.ref a), .val (.double pd), .second, .val (.double td), .second] [(.ref a)]))
  obtain ⟨T_1, X_1, e_1, st_1⟩ := getF X0 hx hZ hown (host := "") (Or.inl (hw _ (List.mem_of_getElem? (i := 34) rfl))) Via.refl e0 Fsz (g := (mkF m 1 #[.val (.ref a), .val (.double pd), .second, .val (.double td), .second] [(.ref a)])) rfl rfl (hb hby d5_1)
  refine Go.step (fun t k => st_1 t k) ?_
  show Go p.tables e below P (T_1.setTop (mkF m 4 #[.val (.ref a), .val (.double pd), .second, .val (.double td), .second] [(.int (1 : Int32))]))
  refine Go.step (fun t k => XS.ifNo X_1.here hx rfl (hb hby d5_4) rfl (ifN (cd := .le) (by decide : ¬ ((1 : Int) ≤ 0))) k) ?_
  show Go p.tables e below P (T_1.setTop (mkF m 7 #[.val (.ref a), .val (.double pd), .second, .val (.double td), .second] []))
  refine Go.step (fun t k => XS.aloadN X_1.here hx rfl (hb hby d5_7) rfl rfl k) ?_
  show Go p.tables e below P (T_1.setTop (mkF m 8 #[.val (.ref a), .val (.double pd), .second, .val (.double td), .second] [(.ref a)]))
  obtain ⟨T_2, X_2, e_2, st_2⟩ := getF X_1 hx hZ hown (host := "") (Or.inl (hw _ (List.mem_of_getElem? (i := 11) rfl))) Via.refl e_1 Fx0 (g := (mkF m 8 #[.val (.ref a), .val (.double pd), .second, .val (.double td), .second] [(.ref a)])) rfl rfl (hb hby d5_8)
  refine Go.step (fun t k => st_2 t k) ?_
  show Go p.tables e below P (T_2.setTop (mkF m 11 #[.val (.ref a), .val (.double pd), .second, .val (.double td), .second] [(.ref x0)]))
  refine Go.step (fun t k => XS.aloadN X_2.here hx rfl (hb hby d5_11) rfl rfl k) ?_
  show Go p.tables e below P (T_2.setTop (mkF m 12 #[.val (.ref a), .val (.double pd), .second, .val (.double td), .second] [(.ref a), (.ref x0)]))
  obtain ⟨T_3, X_3, e_3, st_3⟩ := getF X_2 hx hZ hown (host := "") (Or.inl (hw _ (List.mem_of_getElem? (i := 34) rfl))) Via.refl e_2 Fsz (g := (mkF m 12 #[.val (.ref a), .val (.double pd), .second, .val (.double td), .second] [(.ref a), (.ref x0)])) rfl rfl (hb hby d5_12)
  refine Go.step (fun t k => st_3 t k) ?_
  show Go p.tables e below P (T_3.setTop (mkF m 15 #[.val (.ref a), .val (.double pd), .second, .val (.double td), .second] [(.int (1 : Int32)), (.ref x0)]))
  refine Go.step (fun t k => XS.iconst X_3.here hx rfl (hb hby d5_15) k) ?_
  show Go p.tables e below P (T_3.setTop (mkF m 16 #[.val (.ref a), .val (.double pd), .second, .val (.double td), .second] [(.int (1 : Int32)), (.int (1 : Int32)), (.ref x0)]))
  obtain ⟨ix16, hix16⟩ : ∃ z : Int32, (1 : Int32) - (1 : Int32) = z := ⟨_, rfl⟩
  refine Go.step (fun t k => isub_v X_3.here hx rfl (hb hby d5_16) rfl  hix16 k) ?_
  show Go p.tables e below P (T_3.setTop (mkF m 17 #[.val (.ref a), .val (.double pd), .second, .val (.double td), .second] [(.int ix16), (.ref x0)]))
  have ez16 : ix16 = (0 : Int32) := by rw [← hix16]; rfl
  subst ez16
  show Go p.tables e below P (T_3.setTop (mkF m 17 #[.val (.ref a), .val (.double pd), .second, .val (.double td), .second] [(.int (0 : Int32)), (.ref x0)]))
  have vq_4 := Va0
  obtain ⟨cl_4, Ar_4, q_4, S_4, Nn_4, H_4, G_4⟩ := vq_4
  have hin_4 : ¬ ((0 : Int32) < 0 ∨ cl_4.slots.size ≤ ((0 : Int32)).toNatClampNeg) := inb_of S_4 ⟨by decide, by decide⟩
  have hat_4 : cl_4.slots[((0 : Int32)).toNatClampNeg]? = some (.double vp) := Has.at H_4 hin_4 rfl
  refine Go.step (fun t k => X_3.daload hx (j := (0 : Int32)) (v := (.double vp)) (by rw [e_3]; exact Ar_4.1) (State.isArrayOf_alike hZ.alike Ar_4.2.1) Ar_4.2.2 hin_4 hat_4 (g := (mkF m 17 #[.val (.ref a), .val (.double pd), .second, .val (.double td), .second] [(.int (0 : Int32)), (.ref x0)])) rfl rfl (hb hby d5_17) t k) ?_
  show Go p.tables e below P (T_3.setTop (mkF m 18 #[.val (.ref a), .val (.double pd), .second, .val (.double td), .second] [(.double vp)]))
  refine Go.step (fun t k => XS.dloadN X_3.here hx rfl (hb hby d5_18) rfl  k) ?_
  show Go p.tables e below P (T_3.setTop (mkF m 19 #[.val (.ref a), .val (.double pd), .second, .val (.double td), .second] [(.double pd), (.double vp)]))
  refine Go.step (fun t k => XS.dcmpS X_3.here hx rfl (hb hby d5_19) rfl rfl k) ?_
  show Go p.tables e below P (T_3.setTop (mkF m 20 #[.val (.ref a), .val (.double pd), .second, .val (.double td), .second] [(.int (cmpValue (FP.dcmp vp pd) .l))]))
  by_cases hc20 : ¬ iq = ip
  · refine Go.step (fun t k => XS.ifYes X_3.here hx rfl (pc0 := 20) (pc' := 43) rfl (hb hby d5_20) rfl (dcY (cd := .ne) (DE.cmp qq qp) hc20) (by decide) (by decide) k) ?_
    show Go p.tables e below P (T_3.setTop (mkF m 43 #[.val (.ref a), .val (.double pd), .second, .val (.double td), .second] []))
    refine Go.step (fun t k => XS.iconst X_3.here hx rfl (hb hby d5_43) k) ?_
    show Go p.tables e below P (T_3.setTop (mkF m 44 #[.val (.ref a), .val (.double pd), .second, .val (.double td), .second] [(.int (0 : Int32))]))
    exact retGo X_3 hx hP Bd.returns hlk rfl (Or.inl ⟨rfl, Or.inr (Or.inl rfl), _, rfl⟩) (hb hby d5_44) (by decide) (by decide) (by rw [e_3]; exact ⟨0, rfl, Or.inr ⟨by omega, rfl⟩, N0, rfl⟩)
  · refine Go.step (fun t k => XS.ifNo X_3.here hx rfl (hb hby d5_20) rfl (dcN (cd := .ne) (DE.cmp qq qp) hc20) k) ?_
    show Go p.tables e below P (T_3.setTop (mkF m 23 #[.val (.ref a), .val (.double pd), .second, .val (.double td), .second] []))
    refine Go.step (fun t k => XS.aloadN X_3.here hx rfl (hb hby d5_23) rfl rfl k) ?_
    show Go p.tables e below P (T_3.setTop (mkF m 24 #[.val (.ref a), .val (.double pd), .second, .val (.double td), .second] [(.ref a)]))
    obtain ⟨T_5, X_5, e_5, st_5⟩ := getF X_3 hx hZ hown (host := "") (Or.inl (hw _ (List.mem_of_getElem? (i := 13) rfl))) Via.refl e_3 Fx1 (g := (mkF m 24 #[.val (.ref a), .val (.double pd), .second, .val (.double td), .second] [(.ref a)])) rfl rfl (hb hby d5_24)
    refine Go.step (fun t k => st_5 t k) ?_
    show Go p.tables e below P (T_5.setTop (mkF m 27 #[.val (.ref a), .val (.double pd), .second, .val (.double td), .second] [(.ref x1)]))
    refine Go.step (fun t k => XS.aloadN X_5.here hx rfl (hb hby d5_27) rfl rfl k) ?_
    show Go p.tables e below P (T_5.setTop (mkF m 28 #[.val (.ref a), .val (.double pd), .second, .val (.double td), .second] [(.ref a), (.ref x1)]))
    obtain ⟨T_6, X_6, e_6, st_6⟩ := getF X_5 hx hZ hown (host := "") (Or.inl (hw _ (List.mem_of_getElem? (i := 34) rfl))) Via.refl e_5 Fsz (g := (mkF m 28 #[.val (.ref a), .val (.double pd), .second, .val (.double td), .second] [(.ref a), (.ref x1)])) rfl rfl (hb hby d5_28)
    refine Go.step (fun t k => st_6 t k) ?_
    show Go p.tables e below P (T_6.setTop (mkF m 31 #[.val (.ref a), .val (.double pd), .second, .val (.double td), .second] [(.int (1 : Int32)), (.ref x1)]))
    refine Go.step (fun t k => XS.iconst X_6.here hx rfl (hb hby d5_31) k) ?_
    show Go p.tables e below P (T_6.setTop (mkF m 32 #[.val (.ref a), .val (.double pd), .second, .val (.double td), .second] [(.int (1 : Int32)), (.int (1 : Int32)), (.ref x1)]))
    obtain ⟨ix32, hix32⟩ : ∃ z : Int32, (1 : Int32) - (1 : Int32) = z := ⟨_, rfl⟩
    refine Go.step (fun t k => isub_v X_6.here hx rfl (hb hby d5_32) rfl  hix32 k) ?_
    show Go p.tables e below P (T_6.setTop (mkF m 33 #[.val (.ref a), .val (.double pd), .second, .val (.double td), .second] [(.int ix32), (.ref x1)]))
    have ez32 : ix32 = (0 : Int32) := by rw [← hix32]; rfl
    subst ez32
    show Go p.tables e below P (T_6.setTop (mkF m 33 #[.val (.ref a), .val (.double pd), .second, .val (.double td), .second] [(.int (0 : Int32)), (.ref x1)]))
    have vq_7 := Va1
    obtain ⟨cl_7, Ar_7, q_7, S_7, Nn_7, H_7, G_7⟩ := vq_7
    have hin_7 : ¬ ((0 : Int32) < 0 ∨ cl_7.slots.size ≤ ((0 : Int32)).toNatClampNeg) := inb_of S_7 ⟨by decide, by decide⟩
    have hat_7 : cl_7.slots[((0 : Int32)).toNatClampNeg]? = some (.double vt) := Has.at H_7 hin_7 rfl
    refine Go.step (fun t k => X_6.daload hx (j := (0 : Int32)) (v := (.double vt)) (by rw [e_6]; exact Ar_7.1) (State.isArrayOf_alike hZ.alike Ar_7.2.1) Ar_7.2.2 hin_7 hat_7 (g := (mkF m 33 #[.val (.ref a), .val (.double pd), .second, .val (.double td), .second] [(.int (0 : Int32)), (.ref x1)])) rfl rfl (hb hby d5_33) t k) ?_
    show Go p.tables e below P (T_6.setTop (mkF m 34 #[.val (.ref a), .val (.double pd), .second, .val (.double td), .second] [(.double vt)]))
    refine Go.step (fun t k => XS.dloadN X_6.here hx rfl (hb hby d5_34) rfl  k) ?_
    show Go p.tables e below P (T_6.setTop (mkF m 35 #[.val (.ref a), .val (.double pd), .second, .val (.double td), .second] [(.double td), (.double vt)]))
    refine Go.step (fun t k => XS.dcmpS X_6.here hx rfl (hb hby d5_35) rfl rfl k) ?_
    show Go p.tables e below P (T_6.setTop (mkF m 36 #[.val (.ref a), .val (.double pd), .second, .val (.double td), .second] [(.int (cmpValue (FP.dcmp vt td) .l))]))
    by_cases hc36 : ¬ iu = it
    · refine Go.step (fun t k => XS.ifYes X_6.here hx rfl (pc0 := 36) (pc' := 43) rfl (hb hby d5_36) rfl (dcY (cd := .ne) (DE.cmp qu qt) hc36) (by decide) (by decide) k) ?_
      show Go p.tables e below P (T_6.setTop (mkF m 43 #[.val (.ref a), .val (.double pd), .second, .val (.double td), .second] []))
      refine Go.step (fun t k => XS.iconst X_6.here hx rfl (hb hby d5_43) k) ?_
      show Go p.tables e below P (T_6.setTop (mkF m 44 #[.val (.ref a), .val (.double pd), .second, .val (.double td), .second] [(.int (0 : Int32))]))
      exact retGo X_6 hx hP Bd.returns hlk rfl (Or.inl ⟨rfl, Or.inr (Or.inl rfl), _, rfl⟩) (hb hby d5_44) (by decide) (by decide) (by rw [e_6]; exact ⟨0, rfl, Or.inr ⟨by omega, rfl⟩, N0, rfl⟩)
    · refine Go.step (fun t k => XS.ifNo X_6.here hx rfl (hb hby d5_36) rfl (dcN (cd := .ne) (DE.cmp qu qt) hc36) k) ?_
      show Go p.tables e below P (T_6.setTop (mkF m 39 #[.val (.ref a), .val (.double pd), .second, .val (.double td), .second] []))
      refine Go.step (fun t k => XS.iconst X_6.here hx rfl (hb hby d5_39) k) ?_
      show Go p.tables e below P (T_6.setTop (mkF m 40 #[.val (.ref a), .val (.double pd), .second, .val (.double td), .second] [(.int (1 : Int32))]))
      refine Go.step (fun t k => XS.goto X_6.here hx rfl (pc0 := 40) (pc' := 44) rfl (hb hby d5_40) (by decide) (by decide) k) ?_
      show Go p.tables e below P (T_6.setTop (mkF m 44 #[.val (.ref a), .val (.double pd), .second, .val (.double td), .second] [(.int (1 : Int32))]))
      exact retGo X_6 hx hP Bd.returns hlk rfl (Or.inl ⟨rfl, Or.inr (Or.inl rfl), _, rfl⟩) (hb hby d5_44) (by decide) (by decide) (by rw [e_6]; exact ⟨1, rfl, Or.inl ⟨by omega, by omega, rfl⟩, N0, rfl⟩)
theorem d6_0 : decode prog_5_method_4_code 0 = .ok (.aload_n 0, 1) := by decide +kernel
theorem d6_1 : decode prog_5_method_4_code 1 = .ok (.getfield 37, 3) := by decide +kernel
theorem d6_4 : decode prog_5_method_4_code 4 = .ok (.ifCond .le 39, 3) := by decide +kernel
theorem d6_7 : decode prog_5_method_4_code 7 = .ok (.aload_n 0, 1) := by decide +kernel
theorem d6_8 : decode prog_5_method_4_code 8 = .ok (.getfield 7, 3) := by decide +kernel
theorem d6_11 : decode prog_5_method_4_code 11 = .ok (.aload_n 0, 1) := by decide +kernel
theorem d6_12 : decode prog_5_method_4_code 12 = .ok (.getfield 37, 3) := by decide +kernel
theorem d6_15 : decode prog_5_method_4_code 15 = .ok (.iconst 1, 1) := by decide +kernel
theorem d6_16 : decode prog_5_method_4_code 16 = .ok (.isub, 1) := by decide +kernel
theorem d6_17 : decode prog_5_method_4_code 17 = .ok (.daload, 1) := by decide +kernel
theorem d6_18 : decode prog_5_method_4_code 18 = .ok (.dload_n 1, 1) := by decide +kernel
theorem d6_19 : decode prog_5_method_4_code 19 = .ok (.dcmp .l, 1) := by decide +kernel
theorem d6_20 : decode prog_5_method_4_code 20 = .ok (.ifCond .ne 23, 3) := by decide +kernel
theorem d6_23 : decode prog_5_method_4_code 23 = .ok (.aload_n 0, 1) := by decide +kernel
theorem d6_24 : decode prog_5_method_4_code 24 = .ok (.getfield 13, 3) := by decide +kernel
theorem d6_27 : decode prog_5_method_4_code 27 = .ok (.aload_n 0, 1) := by decide +kernel
theorem d6_28 : decode prog_5_method_4_code 28 = .ok (.getfield 37, 3) := by decide +kernel
theorem d6_31 : decode prog_5_method_4_code 31 = .ok (.iconst 1, 1) := by decide +kernel
theorem d6_32 : decode prog_5_method_4_code 32 = .ok (.isub, 1) := by decide +kernel
theorem d6_33 : decode prog_5_method_4_code 33 = .ok (.daload, 1) := by decide +kernel
theorem d6_34 : decode prog_5_method_4_code 34 = .ok (.dload_n 3, 1) := by decide +kernel
theorem d6_35 : decode prog_5_method_4_code 35 = .ok (.dcmp .l, 1) := by decide +kernel
theorem d6_36 : decode prog_5_method_4_code 36 = .ok (.ifCond .ne 7, 3) := by decide +kernel
theorem d6_39 : decode prog_5_method_4_code 39 = .ok (.iconst 1, 1) := by decide +kernel
theorem d6_40 : decode prog_5_method_4_code 40 = .ok (.goto 4, 3) := by decide +kernel
theorem d6_43 : decode prog_5_method_4_code 43 = .ok (.iconst 0, 1) := by decide +kernel
theorem d6_44 : decode prog_5_method_4_code 44 = .ok (.ireturn, 1) := by decide +kernel
theorem pn_6 : plainName "com/example/gleitfahrt/gleitfahrt/engine/Course$Builder" = true := by first | (simp [plainName, overriddenIn]; done) | decide +kernel
theorem ef_6 (m : MethodId) (x0 : Addr) (x1 : UInt64) (x2 : UInt64) : entryFrame m #[(.ref x0), (.double x1), (.double x2)] 5 = mkF m 0 #[.val (.ref x0), .val (.double x1), .second, .val (.double x2), .second] [] := by first | (simp [entryFrame, mkF, argsToLocals, Value.category]; done) | rfl
def Q6 (Z : State) (a : Addr) (pd : UInt64) (td : UInt64) (vp : UInt64) (vt : UInt64) (wp : UInt64) (wt : UInt64) (x0 : Addr) (x1 : Addr) (k0 : ClassId) (k1 : ClassId) (ip : Int) (it : Int) (iq : Int) (iu : Int) (h0 : Heap) (n0 : Nat) (v : Option Value) (h : Heap) (L : List Loc) : Prop := ∃ r : Int32, v = some (.int r) ∧ ((iq = ip ∧ iu = it ∧ r.toInt = 1) ∨ (¬ (iq = ip ∧ iu = it) ∧ r.toInt = 0)) ∧ Fr n0 L ∧ h = h0
set_option maxRecDepth 65536 in
set_option maxHeartbeats 40000000 in
theorem rm6 (l : Launch) (Z : State) (a0 : Array Value) (hw : ∀ d ∈ tables_1, d.before a0 Z = true) (ws : List Jvm.Cond) (a : Addr) (pd : UInt64) (td : UInt64) (vp : UInt64) (vt : UInt64) (wp : UInt64) (wt : UInt64) (x0 : Addr) (x1 : Addr) (k0 : ClassId) (k1 : ClassId) (ip : Int) (it : Int) (iq : Int) (iu : Int) (h0 : Heap) (n0 : Nat) (Z0 : n0 ≤ h0.size) (Fx0 : Fld Z h0 a "com/example/gleitfahrt/gleitfahrt/engine/Course$Builder" "positions" "[D" (.ref x0)) (Fx1 : Fld Z h0 a "com/example/gleitfahrt/gleitfahrt/engine/Course$Builder" "times" "[D" (.ref x1)) (Fsz : Fld Z h0 a "com/example/gleitfahrt/gleitfahrt/engine/Course$Builder" "size" "I" (.int (2 : Int32))) (Va0 : Arv Z h0 x0 k0 .double (64 : Int32) [(.double wp), (.double vp)] (.double (0 : UInt64))) (Va1 : Arv Z h0 x1 k1 .double (64 : Int32) [(.double wt), (.double vt)] (.double (0 : UInt64))) (qp : DE 1074 ip pd) (qt : DE 1074 it td) (qq : DE 1074 iq vp) (qu : DE 1074 iu vt) :
    MetFree l (⟨"com/example/gleitfahrt/gleitfahrt/engine/Course$Builder", "endsAt", "(DD)Z"⟩ : MethodName) (head1 (Jvm.Cond.code (⟨"com/example/gleitfahrt/gleitfahrt/engine/Course$Builder", "endsAt", "(DD)Z"⟩ : MethodName) prog_5_method_4_code 5 (some .boolean) :: ws) ({ frames := 0, cells := 0, slots := 0, locals := 0 } : Room)) (fun a_ U => a_ = #[(.ref a), (.double pd), (.double td)] ∧ Z.Warmed39 U.vm ∧ U.heap = h0) (fun _ _ _ _ _ => True) (fun _ U o U' => ∃ v L, o = .returned v ∧ Q6 Z a pd td vp vt wp wt x0 x1 k0 k1 ip it iq iu h0 n0 v U'.heap L ∧ FrameEnd U o U' L (({ frames := 0, cells := 0, slots := 0, locals := 0 } : Room)).cells (({ frames := 0, cells := 0, slots := 0, locals := 0 } : Room)).slots) := by
  refine MetFree.of_bodySF (plainFor_of_name pn_6) hisR ?_
  intro p e s m args below meth c s₁ Bd hml0 hP0 hK
  obtain ⟨rfl, hZ, hh⟩ := hP0
  have hx := Bd.exec
  have hby := Bd.bytes
  have hml : c.maxLocals = 5 := hml0
  have hown : s.vm.findClass "com/example/gleitfahrt/gleitfahrt/engine/Course$Builder" = some m.cls := findClass_of_methodNamed Bd.named
  have hnm := (name_of_methodNamed Bd.named Bd.method).1
  have X0 : Stand p l e ({ frames := 0, cells := 0, slots := 0, locals := 0 } : Room) s m #[(.ref a), (.double pd), (.double td)] below meth c s₁ [] 0 0 := Stand.of_body Bd
  have e0 : s₁.heap = h0 := by rw [← hh, Bd.state]; rfl
  have N0 := Fr.nil n0
  have hlk : meth.locks = false := BodyLoose.notSynchronized Bd
  refine Go.start (P₀ := fun s₂ o => ∃ v L, o = .returned v ∧ Q6 Z a pd td vp vt wp wt x0 x1 k0 k1 ip it iq iu h0 n0 v s₂.heap L ∧ FrameEnd s o s₂ L (({ frames := 0, cells := 0, slots := 0, locals := 0 } : Room)).cells (({ frames := 0, cells := 0, slots := 0, locals := 0 } : Room)).slots) (congrArg s₁.setTop (ef_6 m a pd td)) ?_
  intro P hP
  show Go p.tables e below P (s₁.setTop (mkF m 0 #[.val (.ref a), .val (.double pd), .second, .val (.double td), .second] []))
  refine Go.step (fun t k => XS.aloadN X0.here hx rfl (hb hby d6_0) rfl rfl k) ?_
  show Go p.tables e below P (s₁.setTop (mkF m 1 #[.val (.ref a), .val (.double pd), .second, .val (.double td), .second] [(.ref a)]))
  obtain ⟨T_1, X_1, e_1, st_1⟩ := getF X0 hx hZ hown (host := "") (Or.inl (hw _ (List.mem_of_getElem? (i := 34) rfl))) Via.refl e0 Fsz (g := (mkF m 1 #[.val (.ref a), .val (.double pd), .second, .val (.double td), .second] [(.ref a)])) rfl rfl (hb hby d6_1)
  refine Go.step (fun t k => st_1 t k) ?_
  show Go p.tables e below P (T_1.setTop (mkF m 4 #[.val (.ref a), .val (.double pd), .second, .val (.double td), .second] [(.int (2 : Int32))]))
  refine Go.step (fun t k => XS.ifNo X_1.here hx rfl (hb hby d6_4) rfl (ifN (cd := .le) (by decide : ¬ ((2 : Int) ≤ 0))) k) ?_
  show Go p.tables e below P (T_1.setTop (mkF m 7 #[.val (.ref a), .val (.double pd), .second, .val (.double td), .second] []))
  refine Go.step (fun t k => XS.aloadN X_1.here hx rfl (hb hby d6_7) rfl rfl k) ?_
  show Go p.tables e below P (T_1.setTop (mkF m 8 #[.val (.ref a), .val (.double pd), .second, .val (.double td), .second] [(.ref a)]))
  obtain ⟨T_2, X_2, e_2, st_2⟩ := getF X_1 hx hZ hown (host := "") (Or.inl (hw _ (List.mem_of_getElem? (i := 11) rfl))) Via.refl e_1 Fx0 (g := (mkF m 8 #[.val (.ref a), .val (.double pd), .second, .val (.double td), .second] [(.ref a)])) rfl rfl (hb hby d6_8)
  refine Go.step (fun t k => st_2 t k) ?_
  show Go p.tables e below P (T_2.setTop (mkF m 11 #[.val (.ref a), .val (.double pd), .second, .val (.double td), .second] [(.ref x0)]))
  refine Go.step (fun t k => XS.aloadN X_2.here hx rfl (hb hby d6_11) rfl rfl k) ?_
  show Go p.tables e below P (T_2.setTop (mkF m 12 #[.val (.ref a), .val (.double pd), .second, .val (.double td), .second] [(.ref a), (.ref x0)]))
  obtain ⟨T_3, X_3, e_3, st_3⟩ := getF X_2 hx hZ hown (host := "") (Or.inl (hw _ (List.mem_of_getElem? (i := 34) rfl))) Via.refl e_2 Fsz (g := (mkF m 12 #[.val (.ref a), .val (.double pd), .second, .val (.double td), .second] [(.ref a), (.ref x0)])) rfl rfl (hb hby d6_12)
  refine Go.step (fun t k => st_3 t k) ?_
  show Go p.tables e below P (T_3.setTop (mkF m 15 #[.val (.ref a), .val (.double pd), .second, .val (.double td), .second] [(.int (2 : Int32)), (.ref x0)]))
  refine Go.step (fun t k => XS.iconst X_3.here hx rfl (hb hby d6_15) k) ?_
  show Go p.tables e below P (T_3.setTop (mkF m 16 #[.val (.ref a), .val (.double pd), .second, .val (.double td), .second] [(.int (1 : Int32)), (.int (2 : Int32)), (.ref x0)]))
  obtain ⟨ix16, hix16⟩ : ∃ z : Int32, (2 : Int32) - (1 : Int32) = z := ⟨_, rfl⟩
  refine Go.step (fun t k => isub_v X_3.here hx rfl (hb hby d6_16) rfl  hix16 k) ?_
  show Go p.tables e below P (T_3.setTop (mkF m 17 #[.val (.ref a), .val (.double pd), .second, .val (.double td), .second] [(.int ix16), (.ref x0)]))
  have ez16 : ix16 = (1 : Int32) := by rw [← hix16]; rfl
  subst ez16
  show Go p.tables e below P (T_3.setTop (mkF m 17 #[.val (.ref a), .val (.double pd), .second, .val (.double td), .second] [(.int (1 : Int32)), (.ref x0)]))
  have vq_4 := Va0
  obtain ⟨cl_4, Ar_4, q_4, S_4, Nn_4, H_4, G_4⟩ := vq_4
  have hin_4 : ¬ ((1 : Int32) < 0 ∨ cl_4.slots.size ≤ ((1 : Int32)).toNatClampNeg) := inb_of S_4 ⟨by decide, by decide⟩
  have hat_4 : cl_4.slots[((1 : Int32)).toNatClampNeg]? = some (.double vp) := Has.at H_4 hin_4 rfl
  refine Go.step (fun t k => X_3.daload hx (j := (1 : Int32)) (v := (.double vp)) (by rw [e_3]; exact Ar_4.1) (State.isArrayOf_alike hZ.alike Ar_4.2.1) Ar_4.2.2 hin_4 hat_4 (g := (mkF m 17 #[.val (.ref a), .val (.double pd), .second, .val (.double td), .second] [(.int (1 : Int32)), (.ref x0)])) rfl rfl (hb hby d6_17) t k) ?_
  show Go p.tables e below P (T_3.setTop (mkF m 18 #[.val (.ref a), .val (.double pd), .second, .val (.double td), .second] [(.double vp)]))
  refine Go.step (fun t k => XS.dloadN X_3.here hx rfl (hb hby d6_18) rfl  k) ?_
  show Go p.tables e below P (T_3.setTop (mkF m 19 #[.val (.ref a), .val (.double pd), .second, .val (.double td), .second] [(.double pd), (.double vp)]))
  refine Go.step (fun t k => XS.dcmpS X_3.here hx rfl (hb hby d6_19) rfl rfl k) ?_
  show Go p.tables e below P (T_3.setTop (mkF m 20 #[.val (.ref a), .val (.double pd), .second, .val (.double td), .second] [(.int (cmpValue (FP.dcmp vp pd) .l))]))
  by_cases hc20 : ¬ iq = ip
  · refine Go.step (fun t k => XS.ifYes X_3.here hx rfl (pc0 := 20) (pc' := 43) rfl (hb hby d6_20) rfl (dcY (cd := .ne) (DE.cmp qq qp) hc20) (by decide) (by decide) k) ?_
    show Go p.tables e below P (T_3.setTop (mkF m 43 #[.val (.ref a), .val (.double pd), .second, .val (.double td), .second] []))
    refine Go.step (fun t k => XS.iconst X_3.here hx rfl (hb hby d6_43) k) ?_
    show Go p.tables e below P (T_3.setTop (mkF m 44 #[.val (.ref a), .val (.double pd), .second, .val (.double td), .second] [(.int (0 : Int32))]))
    exact retGo X_3 hx hP Bd.returns hlk rfl (Or.inl ⟨rfl, Or.inr (Or.inl rfl), _, rfl⟩) (hb hby d6_44) (by decide) (by decide) (by rw [e_3]; exact ⟨0, rfl, Or.inr ⟨by omega, rfl⟩, N0, rfl⟩)
  · refine Go.step (fun t k => XS.ifNo X_3.here hx rfl (hb hby d6_20) rfl (dcN (cd := .ne) (DE.cmp qq qp) hc20) k) ?_
    show Go p.tables e below P (T_3.setTop (mkF m 23 #[.val (.ref a), .val (.double pd), .second, .val (.double td), .second] []))
    refine Go.step (fun t k => XS.aloadN X_3.here hx rfl (hb hby d6_23) rfl rfl k) ?_
    show Go p.tables e below P (T_3.setTop (mkF m 24 #[.val (.ref a), .val (.double pd), .second, .val (.double td), .second] [(.ref a)]))
    obtain ⟨T_5, X_5, e_5, st_5⟩ := getF X_3 hx hZ hown (host := "") (Or.inl (hw _ (List.mem_of_getElem? (i := 13) rfl))) Via.refl e_3 Fx1 (g := (mkF m 24 #[.val (.ref a), .val (.double pd), .second, .val (.double td), .second] [(.ref a)])) rfl rfl (hb hby d6_24)
    refine Go.step (fun t k => st_5 t k) ?_
    show Go p.tables e below P (T_5.setTop (mkF m 27 #[.val (.ref a), .val (.double pd), .second, .val (.double td), .second] [(.ref x1)]))
    refine Go.step (fun t k => XS.aloadN X_5.here hx rfl (hb hby d6_27) rfl rfl k) ?_
    show Go p.tables e below P (T_5.setTop (mkF m 28 #[.val (.ref a), .val (.double pd), .second, .val (.double td), .second] [(.ref a), (.ref x1)]))
    obtain ⟨T_6, X_6, e_6, st_6⟩ := getF X_5 hx hZ hown (host := "") (Or.inl (hw _ (List.mem_of_getElem? (i := 34) rfl))) Via.refl e_5 Fsz (g := (mkF m 28 #[.val (.ref a), .val (.double pd), .second, .val (.double td), .second] [(.ref a), (.ref x1)])) rfl rfl (hb hby d6_28)
    refine Go.step (fun t k => st_6 t k) ?_
    show Go p.tables e below P (T_6.setTop (mkF m 31 #[.val (.ref a), .val (.double pd), .second, .val (.double td), .second] [(.int (2 : Int32)), (.ref x1)]))
    refine Go.step (fun t k => XS.iconst X_6.here hx rfl (hb hby d6_31) k) ?_
    show Go p.tables e below P (T_6.setTop (mkF m 32 #[.val (.ref a), .val (.double pd), .second, .val (.double td), .second] [(.int (1 : Int32)), (.int (2 : Int32)), (.ref x1)]))
    obtain ⟨ix32, hix32⟩ : ∃ z : Int32, (2 : Int32) - (1 : Int32) = z := ⟨_, rfl⟩
    refine Go.step (fun t k => isub_v X_6.here hx rfl (hb hby d6_32) rfl  hix32 k) ?_
    show Go p.tables e below P (T_6.setTop (mkF m 33 #[.val (.ref a), .val (.double pd), .second, .val (.double td), .second] [(.int ix32), (.ref x1)]))
    have ez32 : ix32 = (1 : Int32) := by rw [← hix32]; rfl
    subst ez32
    show Go p.tables e below P (T_6.setTop (mkF m 33 #[.val (.ref a), .val (.double pd), .second, .val (.double td), .second] [(.int (1 : Int32)), (.ref x1)]))
    have vq_7 := Va1
    obtain ⟨cl_7, Ar_7, q_7, S_7, Nn_7, H_7, G_7⟩ := vq_7
    have hin_7 : ¬ ((1 : Int32) < 0 ∨ cl_7.slots.size ≤ ((1 : Int32)).toNatClampNeg) := inb_of S_7 ⟨by decide, by decide⟩
    have hat_7 : cl_7.slots[((1 : Int32)).toNatClampNeg]? = some (.double vt) := Has.at H_7 hin_7 rfl
    refine Go.step (fun t k => X_6.daload hx (j := (1 : Int32)) (v := (.double vt)) (by rw [e_6]; exact Ar_7.1) (State.isArrayOf_alike hZ.alike Ar_7.2.1) Ar_7.2.2 hin_7 hat_7 (g := (mkF m 33 #[.val (.ref a), .val (.double pd), .second, .val (.double td), .second] [(.int (1 : Int32)), (.ref x1)])) rfl rfl (hb hby d6_33) t k) ?_
    show Go p.tables e below P (T_6.setTop (mkF m 34 #[.val (.ref a), .val (.double pd), .second, .val (.double td), .second] [(.double vt)]))
    refine Go.step (fun t k => XS.dloadN X_6.here hx rfl (hb hby d6_34) rfl  k) ?_
    show Go p.tables e below P (T_6.setTop (mkF m 35 #[.val (.ref a), .val (.double pd), .second, .val (.double td), .second] [(.double td), (.double vt)]))
    refine Go.step (fun t k => XS.dcmpS X_6.here hx rfl (hb hby d6_35) rfl rfl k) ?_
    show Go p.tables e below P (T_6.setTop (mkF m 36 #[.val (.ref a), .val (.double pd), .second, .val (.double td), .second] [(.int (cmpValue (FP.dcmp vt td) .l))]))
    by_cases hc36 : ¬ iu = it
    · refine Go.step (fun t k => XS.ifYes X_6.here hx rfl (pc0 := 36) (pc' := 43) rfl (hb hby d6_36) rfl (dcY (cd := .ne) (DE.cmp qu qt) hc36) (by decide) (by decide) k) ?_
      show Go p.tables e below P (T_6.setTop (mkF m 43 #[.val (.ref a), .val (.double pd), .second, .val (.double td), .second] []))
      refine Go.step (fun t k => XS.iconst X_6.here hx rfl (hb hby d6_43) k) ?_
      show Go p.tables e below P (T_6.setTop (mkF m 44 #[.val (.ref a), .val (.double pd), .second, .val (.double td), .second] [(.int (0 : Int32))]))
      exact retGo X_6 hx hP Bd.returns hlk rfl (Or.inl ⟨rfl, Or.inr (Or.inl rfl), _, rfl⟩) (hb hby d6_44) (by decide) (by decide) (by rw [e_6]; exact ⟨0, rfl, Or.inr ⟨by omega, rfl⟩, N0, rfl⟩)
    · refine Go.step (fun t k => XS.ifNo X_6.here hx rfl (hb hby d6_36) rfl (dcN (cd := .ne) (DE.cmp qu qt) hc36) k) ?_
      show Go p.tables e below P (T_6.setTop (mkF m 39 #[.val (.ref a), .val (.double pd), .second, .val (.double td), .second] []))
      refine Go.step (fun t k => XS.iconst X_6.here hx rfl (hb hby d6_39) k) ?_
      show Go p.tables e below P (T_6.setTop (mkF m 40 #[.val (.ref a), .val (.double pd), .second, .val (.double td), .second] [(.int (1 : Int32))]))
      refine Go.step (fun t k => XS.goto X_6.here hx rfl (pc0 := 40) (pc' := 44) rfl (hb hby d6_40) (by decide) (by decide) k) ?_
      show Go p.tables e below P (T_6.setTop (mkF m 44 #[.val (.ref a), .val (.double pd), .second, .val (.double td), .second] [(.int (1 : Int32))]))
      exact retGo X_6 hx hP Bd.returns hlk rfl (Or.inl ⟨rfl, Or.inr (Or.inl rfl), _, rfl⟩) (hb hby d6_44) (by decide) (by decide) (by rw [e_6]; exact ⟨1, rfl, Or.inl ⟨by omega, by omega, rfl⟩, N0, rfl⟩)
theorem pn_0 : plainName "com/example/gleitfahrt/gleitfahrt/engine/BuilderEndsAtPinLaw" = true := by first | (simp [plainName, overriddenIn]; done) | decide +kernel
theorem ef_0 (m : MethodId) (x0 : Int32) (x1 : Int32) (x2 : Int32) (x3 : Int32) : entryFrame m #[(.int x0), (.int x1), (.int x2), (.int x3)] maxLocals = mkF m 0 #[.val (.int x0), .val (.int x1), .val (.int x2), .val (.int x3), .unset, .unset, .unset, .unset, .unset, .unset, .unset, .unset, .unset, .unset, .unset, .unset, .unset, .unset, .unset] [] := by first | (simp [entryFrame, mkF, argsToLocals, Value.category, maxLocals]; done) | rfl
def Q0 (Z : State) (p1 : Int32) (p2 : Int32) (p3 : Int32) (p4 : Int32) (pw : Addr) (co : Addr) (h0 : Heap) (n0 : Nat) (v : Option Value) (h : Heap) (L : List Loc) : Prop := v = some (.int 1) ∧ Fr n0 L
set_option maxRecDepth 65536 in
set_option maxHeartbeats 40000000 in
theorem rm0 (l : Launch) (Z : State) (a0 : Array Value) (hw : ∀ d ∈ tables_1, d.before a0 Z = true) (ws : List Jvm.Cond) (p1 : Int32) (p2 : Int32) (p3 : Int32) (p4 : Int32) (pw : Addr) (co : Addr) (h0 : Heap) (n0 : Nat) (Z0 : n0 ≤ h0.size) (E_pw : Exa Z h0 pw "com/example/gleitfahrt/gleitfahrt/engine/Regime") (E_co : Exa Z h0 co "com/example/gleitfahrt/gleitfahrt/engine/Regime") (S_pw : Sta Z h0 "com/example/gleitfahrt/gleitfahrt/engine/Regime" "POWER" "Lcom/example/gleitfahrt/gleitfahrt/engine/Regime;" (.ref pw)) (S_co : Sta Z h0 "com/example/gleitfahrt/gleitfahrt/engine/Regime" "COAST" "Lcom/example/gleitfahrt/gleitfahrt/engine/Regime;" (.ref co)) :
    MetFree l x (head1 (Jvm.Cond.code x code maxLocals ret :: ws) room_1) (fun a_ U => a_ = #[(.int p1), (.int p2), (.int p3), (.int p4)] ∧ Z.Warmed39 U.vm ∧ U.heap = h0) (fun _ _ _ _ _ => True) (fun _ U o U' => ∃ v L, o = .returned v ∧ Q0 Z p1 p2 p3 p4 pw co h0 n0 v U'.heap L ∧ FrameEnd U o U' L 32 1152) := by
  refine MetFree.of_bodySF (plainFor_of_name pn_0) hisR ?_
  intro p e s m args below meth c s₁ Bd hml0 hP0 hK
  obtain ⟨rfl, hZ, hh⟩ := hP0
  have hx := Bd.exec
  have hby := Bd.bytes
  have hml : c.maxLocals = 19 := hml0
  have hown : s.vm.findClass "com/example/gleitfahrt/gleitfahrt/engine/BuilderEndsAtPinLaw" = some m.cls := findClass_of_methodNamed Bd.named
  have hnm := (name_of_methodNamed Bd.named Bd.method).1
  have X0 : Stand p l e room_1 s m #[(.int p1), (.int p2), (.int p3), (.int p4)] below meth c s₁ [] 0 0 := Stand.of_body Bd
  have e0 : s₁.heap = h0 := by rw [← hh, Bd.state]; rfl
  have N0 := Fr.nil n0
  have hlk : meth.locks = false := BodyLoose.notSynchronized Bd
  refine Go.start (P₀ := fun s₂ o => ∃ v L, o = .returned v ∧ Q0 Z p1 p2 p3 p4 pw co h0 n0 v s₂.heap L ∧ FrameEnd s o s₂ L 32 1152) (congrArg s₁.setTop (ef_0 m p1 p2 p3 p4)) ?_
  intro P hP
  show Go p.tables e below P (s₁.setTop (mkF m 0 #[.val (.int p1), .val (.int p2), .val (.int p3), .val (.int p4), .unset, .unset, .unset, .unset, .unset, .unset, .unset, .unset, .unset, .unset, .unset, .unset, .unset, .unset, .unset] []))
  refine Go.step (fun t k => XS.iloadN X0.here hx rfl (hb hby at_0) rfl  k) ?_
  show Go p.tables e below P (s₁.setTop (mkF m 1 #[.val (.int p1), .val (.int p2), .val (.int p3), .val (.int p4), .unset, .unset, .unset, .unset, .unset, .unset, .unset, .unset, .unset, .unset, .unset, .unset, .unset, .unset, .unset] [(.int p1)]))
  refine Go.step (fun t k => X0.ldcInt hx hown (mvT hZ (hw _ (List.mem_of_getElem? (i := 0) rfl))) (g := (mkF m 1 #[.val (.int p1), .val (.int p2), .val (.int p3), .val (.int p4), .unset, .unset, .unset, .unset, .unset, .unset, .unset, .unset, .unset, .unset, .unset, .unset, .unset, .unset, .unset] [(.int p1)])) rfl (hb hby at_1) t k) ?_
  show Go p.tables e below P (s₁.setTop (mkF m 3 #[.val (.int p1), .val (.int p2), .val (.int p3), .val (.int p4), .unset, .unset, .unset, .unset, .unset, .unset, .unset, .unset, .unset, .unset, .unset, .unset, .unset, .unset, .unset] [(.int (2147483647 : Int32)), (.int p1)]))
  obtain ⟨i3, hi3⟩ : ∃ z : Int32, p1 &&& (2147483647 : Int32) = z := ⟨_, rfl⟩
  refine Go.step (fun t k => iand_v X0.here hx rfl (hb hby at_3) rfl  hi3 k) ?_
  show Go p.tables e below P (s₁.setTop (mkF m 4 #[.val (.int p1), .val (.int p2), .val (.int p3), .val (.int p4), .unset, .unset, .unset, .unset, .unset, .unset, .unset, .unset, .unset, .unset, .unset, .unset, .unset, .unset, .unset] [(.int i3)]))
  refine Go.step (fun t k => XS.iconst X0.here hx rfl (hb hby at_4) k) ?_
  show Go p.tables e below P (s₁.setTop (mkF m 5 #[.val (.int p1), .val (.int p2), .val (.int p3), .val (.int p4), .unset, .unset, .unset, .unset, .unset, .unset, .unset, .unset, .unset, .unset, .unset, .unset, .unset, .unset, .unset] [(.int (3 : Int32)), (.int i3)]))
  obtain ⟨i5, hi5⟩ : ∃ z : Int32, i3 % (3 : Int32) = z := ⟨_, rfl⟩
  refine Go.step (fun t k => irem_v X0.here hx rfl (hb hby at_5) rfl (by decide) hi5 k) ?_
  show Go p.tables e below P (s₁.setTop (mkF m 6 #[.val (.int p1), .val (.int p2), .val (.int p3), .val (.int p4), .unset, .unset, .unset, .unset, .unset, .unset, .unset, .unset, .unset, .unset, .unset, .unset, .unset, .unset, .unset] [(.int i5)]))
  have f3 := c_mask p1 (2147483647 : Int32) 31 (by decide) rfl; rw [hi3] at f3
  have f5 := c_irem i3 (3 : Int32) 3 rfl; rw [hi5] at f5
  have f5' := f5.1 (by omega)
  have b5 : 0 ≤ i5.toInt ∧ i5.toInt ≤ 2 := by omega
  clear f3 f5 f5'
  refine Go.step (fun t k => XS.istore X0.here hx rfl (hb hby at_6) rfl (l' := #[.val (.int p1), .val (.int p2), .val (.int p3), .val (.int p4), .val (.int i5), .unset, .unset, .unset, .unset, .unset, .unset, .unset, .unset, .unset, .unset, .unset, .unset, .unset, .unset]) rfl k) ?_
  show Go p.tables e below P (s₁.setTop (mkF m 8 #[.val (.int p1), .val (.int p2), .val (.int p3), .val (.int p4), .val (.int i5), .unset, .unset, .unset, .unset, .unset, .unset, .unset, .unset, .unset, .unset, .unset, .unset, .unset, .unset] []))
  refine Go.step (fun t k => XS.iloadN X0.here hx rfl (hb hby at_8) rfl  k) ?_
  show Go p.tables e below P (s₁.setTop (mkF m 9 #[.val (.int p1), .val (.int p2), .val (.int p3), .val (.int p4), .val (.int i5), .unset, .unset, .unset, .unset, .unset, .unset, .unset, .unset, .unset, .unset, .unset, .unset, .unset, .unset] [(.int p2)]))
  refine Go.step (fun t k => XS.iconst X0.here hx rfl (hb hby at_9) k) ?_
  show Go p.tables e below P (s₁.setTop (mkF m 10 #[.val (.int p1), .val (.int p2), .val (.int p3), .val (.int p4), .val (.int i5), .unset, .unset, .unset, .unset, .unset, .unset, .unset, .unset, .unset, .unset, .unset, .unset, .unset, .unset] [(.int (3 : Int32)), (.int p2)]))
  obtain ⟨i10, hi10⟩ : ∃ z : Int32, p2 &&& (3 : Int32) = z := ⟨_, rfl⟩
  refine Go.step (fun t k => iand_v X0.here hx rfl (hb hby at_10) rfl  hi10 k) ?_
  show Go p.tables e below P (s₁.setTop (mkF m 11 #[.val (.int p1), .val (.int p2), .val (.int p3), .val (.int p4), .val (.int i5), .unset, .unset, .unset, .unset, .unset, .unset, .unset, .unset, .unset, .unset, .unset, .unset, .unset, .unset] [(.int i10)]))
  obtain ⟨d11, hd11⟩ : ∃ z : UInt64, FP.i2d i10 = z := ⟨_, rfl⟩
  refine Go.step (fun t k => XS.i2dS X0.here hx rfl (hb hby at_11) rfl hd11 k) ?_
  show Go p.tables e below P (s₁.setTop (mkF m 12 #[.val (.int p1), .val (.int p2), .val (.int p3), .val (.int p4), .val (.int i5), .unset, .unset, .unset, .unset, .unset, .unset, .unset, .unset, .unset, .unset, .unset, .unset, .unset, .unset] [(.double d11)]))
  have q11 := i2d_e i10; rw [hd11] at q11
  refine Go.step (fun t k => XS.dstore X0.here hx rfl (hb hby at_12) rfl (l' := #[.val (.int p1), .val (.int p2), .val (.int p3), .val (.int p4), .val (.int i5), .val (.double d11), .second, .unset, .unset, .unset, .unset, .unset, .unset, .unset, .unset, .unset, .unset, .unset, .unset]) rfl k) ?_
  show Go p.tables e below P (s₁.setTop (mkF m 14 #[.val (.int p1), .val (.int p2), .val (.int p3), .val (.int p4), .val (.int i5), .val (.double d11), .second, .unset, .unset, .unset, .unset, .unset, .unset, .unset, .unset, .unset, .unset, .unset, .unset] []))
  refine Go.step (fun t k => XS.iloadN X0.here hx rfl (hb hby at_14) rfl  k) ?_
  show Go p.tables e below P (s₁.setTop (mkF m 15 #[.val (.int p1), .val (.int p2), .val (.int p3), .val (.int p4), .val (.int i5), .val (.double d11), .second, .unset, .unset, .unset, .unset, .unset, .unset, .unset, .unset, .unset, .unset, .unset, .unset] [(.int p2)]))
  refine Go.step (fun t k => XS.iconst X0.here hx rfl (hb hby at_15) k) ?_
  show Go p.tables e below P (s₁.setTop (mkF m 16 #[.val (.int p1), .val (.int p2), .val (.int p3), .val (.int p4), .val (.int i5), .val (.double d11), .second, .unset, .unset, .unset, .unset, .unset, .unset, .unset, .unset, .unset, .unset, .unset, .unset] [(.int (2 : Int32)), (.int p2)]))
  obtain ⟨i16, hi16⟩ : ∃ z : Int32, (p2 >>> ((2 : Int32) &&& 31)) = z := ⟨_, rfl⟩
  refine Go.step (fun t k => ishr_v X0.here hx rfl (hb hby at_16) rfl  hi16 k) ?_
  show Go p.tables e below P (s₁.setTop (mkF m 17 #[.val (.int p1), .val (.int p2), .val (.int p3), .val (.int p4), .val (.int i5), .val (.double d11), .second, .unset, .unset, .unset, .unset, .unset, .unset, .unset, .unset, .unset, .unset, .unset, .unset] [(.int i16)]))
  refine Go.step (fun t k => XS.iconst X0.here hx rfl (hb hby at_17) k) ?_
  show Go p.tables e below P (s₁.setTop (mkF m 18 #[.val (.int p1), .val (.int p2), .val (.int p3), .val (.int p4), .val (.int i5), .val (.double d11), .second, .unset, .unset, .unset, .unset, .unset, .unset, .unset, .unset, .unset, .unset, .unset, .unset] [(.int (3 : Int32)), (.int i16)]))
  obtain ⟨i18, hi18⟩ : ∃ z : Int32, i16 &&& (3 : Int32) = z := ⟨_, rfl⟩
  refine Go.step (fun t k => iand_v X0.here hx rfl (hb hby at_18) rfl  hi18 k) ?_
  show Go p.tables e below P (s₁.setTop (mkF m 19 #[.val (.int p1), .val (.int p2), .val (.int p3), .val (.int p4), .val (.int i5), .val (.double d11), .second, .unset, .unset, .unset, .unset, .unset, .unset, .unset, .unset, .unset, .unset, .unset, .unset] [(.int i18)]))
  obtain ⟨d19, hd19⟩ : ∃ z : UInt64, FP.i2d i18 = z := ⟨_, rfl⟩
  refine Go.step (fun t k => XS.i2dS X0.here hx rfl (hb hby at_19) rfl hd19 k) ?_
  show Go p.tables e below P (s₁.setTop (mkF m 20 #[.val (.int p1), .val (.int p2), .val (.int p3), .val (.int p4), .val (.int i5), .val (.double d11), .second, .unset, .unset, .unset, .unset, .unset, .unset, .unset, .unset, .unset, .unset, .unset, .unset] [(.double d19)]))
  have q19 := i2d_e i18; rw [hd19] at q19
  refine Go.step (fun t k => XS.dstore X0.here hx rfl (hb hby at_20) rfl (l' := #[.val (.int p1), .val (.int p2), .val (.int p3), .val (.int p4), .val (.int i5), .val (.double d11), .second, .val (.double d19), .second, .unset, .unset, .unset, .unset, .unset, .unset, .unset, .unset, .unset, .unset]) rfl k) ?_
  show Go p.tables e below P (s₁.setTop (mkF m 22 #[.val (.int p1), .val (.int p2), .val (.int p3), .val (.int p4), .val (.int i5), .val (.double d11), .second, .val (.double d19), .second, .unset, .unset, .unset, .unset, .unset, .unset, .unset, .unset, .unset, .unset] []))
  refine Go.step (fun t k => XS.iloadN X0.here hx rfl (hb hby at_22) rfl  k) ?_
  show Go p.tables e below P (s₁.setTop (mkF m 23 #[.val (.int p1), .val (.int p2), .val (.int p3), .val (.int p4), .val (.int i5), .val (.double d11), .second, .val (.double d19), .second, .unset, .unset, .unset, .unset, .unset, .unset, .unset, .unset, .unset, .unset] [(.int p3)]))
  refine Go.step (fun t k => XS.iconst X0.here hx rfl (hb hby at_23) k) ?_
  show Go p.tables e below P (s₁.setTop (mkF m 24 #[.val (.int p1), .val (.int p2), .val (.int p3), .val (.int p4), .val (.int i5), .val (.double d11), .second, .val (.double d19), .second, .unset, .unset, .unset, .unset, .unset, .unset, .unset, .unset, .unset, .unset] [(.int (3 : Int32)), (.int p3)]))
  obtain ⟨i24, hi24⟩ : ∃ z : Int32, p3 &&& (3 : Int32) = z := ⟨_, rfl⟩
  refine Go.step (fun t k => iand_v X0.here hx rfl (hb hby at_24) rfl  hi24 k) ?_
  show Go p.tables e below P (s₁.setTop (mkF m 25 #[.val (.int p1), .val (.int p2), .val (.int p3), .val (.int p4), .val (.int i5), .val (.double d11), .second, .val (.double d19), .second, .unset, .unset, .unset, .unset, .unset, .unset, .unset, .unset, .unset, .unset] [(.int i24)]))
  obtain ⟨d25, hd25⟩ : ∃ z : UInt64, FP.i2d i24 = z := ⟨_, rfl⟩
  refine Go.step (fun t k => XS.i2dS X0.here hx rfl (hb hby at_25) rfl hd25 k) ?_
  show Go p.tables e below P (s₁.setTop (mkF m 26 #[.val (.int p1), .val (.int p2), .val (.int p3), .val (.int p4), .val (.int i5), .val (.double d11), .second, .val (.double d19), .second, .unset, .unset, .unset, .unset, .unset, .unset, .unset, .unset, .unset, .unset] [(.double d25)]))
  have q25 := i2d_e i24; rw [hd25] at q25
  refine Go.step (fun t k => XS.dstore X0.here hx rfl (hb hby at_26) rfl (l' := #[.val (.int p1), .val (.int p2), .val (.int p3), .val (.int p4), .val (.int i5), .val (.double d11), .second, .val (.double d19), .second, .val (.double d25), .second, .unset, .unset, .unset, .unset, .unset, .unset, .unset, .unset]) rfl k) ?_
  show Go p.tables e below P (s₁.setTop (mkF m 28 #[.val (.int p1), .val (.int p2), .val (.int p3), .val (.int p4), .val (.int i5), .val (.double d11), .second, .val (.double d19), .second, .val (.double d25), .second, .unset, .unset, .unset, .unset, .unset, .unset, .unset, .unset] []))
  refine Go.step (fun t k => XS.iloadN X0.here hx rfl (hb hby at_28) rfl  k) ?_
  show Go p.tables e below P (s₁.setTop (mkF m 29 #[.val (.int p1), .val (.int p2), .val (.int p3), .val (.int p4), .val (.int i5), .val (.double d11), .second, .val (.double d19), .second, .val (.double d25), .second, .unset, .unset, .unset, .unset, .unset, .unset, .unset, .unset] [(.int p3)]))
  refine Go.step (fun t k => XS.iconst X0.here hx rfl (hb hby at_29) k) ?_
  show Go p.tables e below P (s₁.setTop (mkF m 30 #[.val (.int p1), .val (.int p2), .val (.int p3), .val (.int p4), .val (.int i5), .val (.double d11), .second, .val (.double d19), .second, .val (.double d25), .second, .unset, .unset, .unset, .unset, .unset, .unset, .unset, .unset] [(.int (2 : Int32)), (.int p3)]))
  obtain ⟨i30, hi30⟩ : ∃ z : Int32, (p3 >>> ((2 : Int32) &&& 31)) = z := ⟨_, rfl⟩
  refine Go.step (fun t k => ishr_v X0.here hx rfl (hb hby at_30) rfl  hi30 k) ?_
  show Go p.tables e below P (s₁.setTop (mkF m 31 #[.val (.int p1), .val (.int p2), .val (.int p3), .val (.int p4), .val (.int i5), .val (.double d11), .second, .val (.double d19), .second, .val (.double d25), .second, .unset, .unset, .unset, .unset, .unset, .unset, .unset, .unset] [(.int i30)]))
  refine Go.step (fun t k => XS.iconst X0.here hx rfl (hb hby at_31) k) ?_
  show Go p.tables e below P (s₁.setTop (mkF m 32 #[.val (.int p1), .val (.int p2), .val (.int p3), .val (.int p4), .val (.int i5), .val (.double d11), .second, .val (.double d19), .second, .val (.double d25), .second, .unset, .unset, .unset, .unset, .unset, .unset, .unset, .unset] [(.int (3 : Int32)), (.int i30)]))
  obtain ⟨i32, hi32⟩ : ∃ z : Int32, i30 &&& (3 : Int32) = z := ⟨_, rfl⟩
  refine Go.step (fun t k => iand_v X0.here hx rfl (hb hby at_32) rfl  hi32 k) ?_
  show Go p.tables e below P (s₁.setTop (mkF m 33 #[.val (.int p1), .val (.int p2), .val (.int p3), .val (.int p4), .val (.int i5), .val (.double d11), .second, .val (.double d19), .second, .val (.double d25), .second, .unset, .unset, .unset, .unset, .unset, .unset, .unset, .unset] [(.int i32)]))
  obtain ⟨d33, hd33⟩ : ∃ z : UInt64, FP.i2d i32 = z := ⟨_, rfl⟩
  refine Go.step (fun t k => XS.i2dS X0.here hx rfl (hb hby at_33) rfl hd33 k) ?_
  show Go p.tables e below P (s₁.setTop (mkF m 34 #[.val (.int p1), .val (.int p2), .val (.int p3), .val (.int p4), .val (.int i5), .val (.double d11), .second, .val (.double d19), .second, .val (.double d25), .second, .unset, .unset, .unset, .unset, .unset, .unset, .unset, .unset] [(.double d33)]))
  have q33 := i2d_e i32; rw [hd33] at q33
  refine Go.step (fun t k => XS.dstore X0.here hx rfl (hb hby at_34) rfl (l' := #[.val (.int p1), .val (.int p2), .val (.int p3), .val (.int p4), .val (.int i5), .val (.double d11), .second, .val (.double d19), .second, .val (.double d25), .second, .val (.double d33), .second, .unset, .unset, .unset, .unset, .unset, .unset]) rfl k) ?_
  show Go p.tables e below P (s₁.setTop (mkF m 36 #[.val (.int p1), .val (.int p2), .val (.int p3), .val (.int p4), .val (.int i5), .val (.double d11), .second, .val (.double d19), .second, .val (.double d25), .second, .val (.double d33), .second, .unset, .unset, .unset, .unset, .unset, .unset] []))
  refine Go.step (fun t k => XS.iloadN X0.here hx rfl (hb hby at_36) rfl  k) ?_
  show Go p.tables e below P (s₁.setTop (mkF m 37 #[.val (.int p1), .val (.int p2), .val (.int p3), .val (.int p4), .val (.int i5), .val (.double d11), .second, .val (.double d19), .second, .val (.double d25), .second, .val (.double d33), .second, .unset, .unset, .unset, .unset, .unset, .unset] [(.int p4)]))
  refine Go.step (fun t k => XS.iconst X0.here hx rfl (hb hby at_37) k) ?_
  show Go p.tables e below P (s₁.setTop (mkF m 38 #[.val (.int p1), .val (.int p2), .val (.int p3), .val (.int p4), .val (.int i5), .val (.double d11), .second, .val (.double d19), .second, .val (.double d25), .second, .val (.double d33), .second, .unset, .unset, .unset, .unset, .unset, .unset] [(.int (3 : Int32)), (.int p4)]))
  obtain ⟨i38, hi38⟩ : ∃ z : Int32, p4 &&& (3 : Int32) = z := ⟨_, rfl⟩
  refine Go.step (fun t k => iand_v X0.here hx rfl (hb hby at_38) rfl  hi38 k) ?_
  show Go p.tables e below P (s₁.setTop (mkF m 39 #[.val (.int p1), .val (.int p2), .val (.int p3), .val (.int p4), .val (.int i5), .val (.double d11), .second, .val (.double d19), .second, .val (.double d25), .second, .val (.double d33), .second, .unset, .unset, .unset, .unset, .unset, .unset] [(.int i38)]))
  obtain ⟨d39, hd39⟩ : ∃ z : UInt64, FP.i2d i38 = z := ⟨_, rfl⟩
  refine Go.step (fun t k => XS.i2dS X0.here hx rfl (hb hby at_39) rfl hd39 k) ?_
  show Go p.tables e below P (s₁.setTop (mkF m 40 #[.val (.int p1), .val (.int p2), .val (.int p3), .val (.int p4), .val (.int i5), .val (.double d11), .second, .val (.double d19), .second, .val (.double d25), .second, .val (.double d33), .second, .unset, .unset, .unset, .unset, .unset, .unset] [(.double d39)]))
  have q39 := i2d_e i38; rw [hd39] at q39
  refine Go.step (fun t k => XS.dstore X0.here hx rfl (hb hby at_40) rfl (l' := #[.val (.int p1), .val (.int p2), .val (.int p3), .val (.int p4), .val (.int i5), .val (.double d11), .second, .val (.double d19), .second, .val (.double d25), .second, .val (.double d33), .second, .val (.double d39), .second, .unset, .unset, .unset, .unset]) rfl k) ?_
  show Go p.tables e below P (s₁.setTop (mkF m 42 #[.val (.int p1), .val (.int p2), .val (.int p3), .val (.int p4), .val (.int i5), .val (.double d11), .second, .val (.double d19), .second, .val (.double d25), .second, .val (.double d33), .second, .val (.double d39), .second, .unset, .unset, .unset, .unset] []))
  refine Go.step (fun t k => XS.iloadN X0.here hx rfl (hb hby at_42) rfl  k) ?_
  show Go p.tables e below P (s₁.setTop (mkF m 43 #[.val (.int p1), .val (.int p2), .val (.int p3), .val (.int p4), .val (.int i5), .val (.double d11), .second, .val (.double d19), .second, .val (.double d25), .second, .val (.double d33), .second, .val (.double d39), .second, .unset, .unset, .unset, .unset] [(.int p4)]))
  refine Go.step (fun t k => XS.iconst X0.here hx rfl (hb hby at_43) k) ?_
  show Go p.tables e below P (s₁.setTop (mkF m 44 #[.val (.int p1), .val (.int p2), .val (.int p3), .val (.int p4), .val (.int i5), .val (.double d11), .second, .val (.double d19), .second, .val (.double d25), .second, .val (.double d33), .second, .val (.double d39), .second, .unset, .unset, .unset, .unset] [(.int (2 : Int32)), (.int p4)]))
  obtain ⟨i44, hi44⟩ : ∃ z : Int32, (p4 >>> ((2 : Int32) &&& 31)) = z := ⟨_, rfl⟩
  refine Go.step (fun t k => ishr_v X0.here hx rfl (hb hby at_44) rfl  hi44 k) ?_
  show Go p.tables e below P (s₁.setTop (mkF m 45 #[.val (.int p1), .val (.int p2), .val (.int p3), .val (.int p4), .val (.int i5), .val (.double d11), .second, .val (.double d19), .second, .val (.double d25), .second, .val (.double d33), .second, .val (.double d39), .second, .unset, .unset, .unset, .unset] [(.int i44)]))
  refine Go.step (fun t k => XS.iconst X0.here hx rfl (hb hby at_45) k) ?_
  show Go p.tables e below P (s₁.setTop (mkF m 46 #[.val (.int p1), .val (.int p2), .val (.int p3), .val (.int p4), .val (.int i5), .val (.double d11), .second, .val (.double d19), .second, .val (.double d25), .second, .val (.double d33), .second, .val (.double d39), .second, .unset, .unset, .unset, .unset] [(.int (3 : Int32)), (.int i44)]))
  obtain ⟨i46, hi46⟩ : ∃ z : Int32, i44 &&& (3 : Int32) = z := ⟨_, rfl⟩
  refine Go.step (fun t k => iand_v X0.here hx rfl (hb hby at_46) rfl  hi46 k) ?_
  show Go p.tables e below P (s₁.setTop (mkF m 47 #[.val (.int p1), .val (.int p2), .val (.int p3), .val (.int p4), .val (.int i5), .val (.double d11), .second, .val (.double d19), .second, .val (.double d25), .second, .val (.double d33), .second, .val (.double d39), .second, .unset, .unset, .unset, .unset] [(.int i46)]))
  obtain ⟨d47, hd47⟩ : ∃ z : UInt64, FP.i2d i46 = z := ⟨_, rfl⟩
  refine Go.step (fun t k => XS.i2dS X0.here hx rfl (hb hby at_47) rfl hd47 k) ?_
  show Go p.tables e below P (s₁.setTop (mkF m 48 #[.val (.int p1), .val (.int p2), .val (.int p3), .val (.int p4), .val (.int i5), .val (.double d11), .second, .val (.double d19), .second, .val (.double d25), .second, .val (.double d33), .second, .val (.double d39), .second, .unset, .unset, .unset, .unset] [(.double d47)]))
  have q47 := i2d_e i46; rw [hd47] at q47
  refine Go.step (fun t k => XS.dstore X0.here hx rfl (hb hby at_48) rfl (l' := #[.val (.int p1), .val (.int p2), .val (.int p3), .val (.int p4), .val (.int i5), .val (.double d11), .second, .val (.double d19), .second, .val (.double d25), .second, .val (.double d33), .second, .val (.double d39), .second, .val (.double d47), .second, .unset, .unset]) rfl k) ?_
  show Go p.tables e below P (s₁.setTop (mkF m 50 #[.val (.int p1), .val (.int p2), .val (.int p3), .val (.int p4), .val (.int i5), .val (.double d11), .second, .val (.double d19), .second, .val (.double d25), .second, .val (.double d33), .second, .val (.double d39), .second, .val (.double d47), .second, .unset, .unset] []))
  obtain ⟨T_1, h_1, X_1, e_1, E_1, A_1, D_1, -, st_1⟩ := newO X0 hx hZ hown (hw _ (List.mem_of_getElem? (i := 1) rfl)) (hw _ (List.mem_of_getElem? (i := 2) rfl)) (hw _ (List.mem_of_getElem? (i := 3) rfl)) e0 (g := (mkF m 50 #[.val (.int p1), .val (.int p2), .val (.int p3), .val (.int p4), .val (.int i5), .val (.double d11), .second, .val (.double d19), .second, .val (.double d25), .second, .val (.double d33), .second, .val (.double d39), .second, .val (.double d47), .second, .unset, .unset] [])) rfl (hb hby at_50) (by decide) (by decide)
  obtain ⟨b_1, g_1⟩ : ∃ z, z = h0.size := ⟨_, rfl⟩
  rw [← g_1] at A_1 D_1 st_1
  have g_b_1 : n0 ≤ b_1 := Nat.le_trans Z0 (Nat.le_of_eq g_1.symm)
  have sz_b_1 : h0.size ≤ b_1 := Nat.le_trans (Keep.refl h0 []).1 (Nat.le_of_eq g_1.symm)
  have F_positions_b_1 : Fld Z h_1 b_1 "com/example/gleitfahrt/gleitfahrt/engine/Course$Builder" "positions" "[D" .null := D_1 (Or.inl (hw _ (List.mem_of_getElem? (i := 12) rfl))) (ty := (.array .double)) (by decide)
  have F_times_b_1 : Fld Z h_1 b_1 "com/example/gleitfahrt/gleitfahrt/engine/Course$Builder" "times" "[D" .null := D_1 (Or.inl (hw _ (List.mem_of_getElem? (i := 14) rfl))) (ty := (.array .double)) (by decide)
  have F_speeds_b_1 : Fld Z h_1 b_1 "com/example/gleitfahrt/gleitfahrt/engine/Course$Builder" "speeds" "[D" .null := D_1 (Or.inl (hw _ (List.mem_of_getElem? (i := 16) rfl))) (ty := (.array .double)) (by decide)
  have F_drawn_b_1 : Fld Z h_1 b_1 "com/example/gleitfahrt/gleitfahrt/engine/Course$Builder" "drawn" "[D" .null := D_1 (Or.inl (hw _ (List.mem_of_getElem? (i := 18) rfl))) (ty := (.array .double)) (by decide)
  have F_recovered_b_1 : Fld Z h_1 b_1 "com/example/gleitfahrt/gleitfahrt/engine/Course$Builder" "recovered" "[D" .null := D_1 (Or.inl (hw _ (List.mem_of_getElem? (i := 20) rfl))) (ty := (.array .double)) (by decide)
  have F_regimes_b_1 : Fld Z h_1 b_1 "com/example/gleitfahrt/gleitfahrt/engine/Course$Builder" "regimes" "[Lcom/example/gleitfahrt/gleitfahrt/engine/Regime;" .null := D_1 (Or.inl (hw _ (List.mem_of_getElem? (i := 24) rfl))) (ty := (.array (.object "com/example/gleitfahrt/gleitfahrt/engine/Regime"))) (by decide)
  have F_targets_b_1 : Fld Z h_1 b_1 "com/example/gleitfahrt/gleitfahrt/engine/Course$Builder" "targets" "[D" .null := D_1 (Or.inl (hw _ (List.mem_of_getElem? (i := 26) rfl))) (ty := (.array .double)) (by decide)
  have F_peaks_b_1 : Fld Z h_1 b_1 "com/example/gleitfahrt/gleitfahrt/engine/Course$Builder" "peaks" "[D" .null := D_1 (Or.inl (hw _ (List.mem_of_getElem? (i := 28) rfl))) (ty := (.array .double)) (by decide)
  have F_size_b_1 : Fld Z h_1 b_1 "com/example/gleitfahrt/gleitfahrt/engine/Course$Builder" "size" "I" (.int (0 : Int32)) := D_1 (Or.inl (hw _ (List.mem_of_getElem? (i := 35) rfl))) (ty := .int) (by decide)
  have K_1 : Keep h0 h_1 [] := (Keep.refl h0 []).ext E_1
  have Z_1 : n0 ≤ h_1.size := Nat.le_trans Z0 E_1.1
  refine Go.step (fun t k => st_1 t k) ?_
  show Go p.tables e below P (T_1.setTop (mkF m 53 #[.val (.int p1), .val (.int p2), .val (.int p3), .val (.int p4), .val (.int i5), .val (.double d11), .second, .val (.double d19), .second, .val (.double d25), .second, .val (.double d33), .second, .val (.double d39), .second, .val (.double d47), .second, .unset, .unset] [(.ref b_1)]))
  refine Go.step (fun t k => XS.dup X_1.here hx rfl (hb hby at_53) rfl rfl k) ?_
  show Go p.tables e below P (T_1.setTop (mkF m 54 #[.val (.int p1), .val (.int p2), .val (.int p3), .val (.int p4), .val (.int i5), .val (.double d11), .second, .val (.double d19), .second, .val (.double d25), .second, .val (.double d33), .second, .val (.double d39), .second, .val (.double d47), .second, .unset, .unset] [(.ref b_1), (.ref b_1)]))
  obtain ⟨_, _, ⟨T_2, L_2, k_2, n_2⟩, -, X_2, ⟨Lc_2, hQ_2, l_2, y_2, z_2⟩, st_2⟩ := X_1.specialBack hx (y := (⟨"com/example/gleitfahrt/gleitfahrt/engine/Course$Builder", "<init>", "()V"⟩ : MethodName)) rfl hown (mvT hZ (hw _ (List.mem_of_getElem? (i := 4) rfl))) (mvT hZ (hw _ (List.mem_of_getElem? (i := 5) rfl))) (mvT hZ (hw _ (List.mem_of_getElem? (i := 6) rfl))) (by decide) (backOf (W := 1) (rm1 l Z a0 hw [] b_1 h_1 n0 Z_1 A_1 F_positions_b_1 F_times_b_1 F_speeds_b_1 F_drawn_b_1 F_recovered_b_1 F_regimes_b_1 F_targets_b_1 F_peaks_b_1 F_size_b_1 g_b_1) hZ (hw _ (List.mem_of_getElem? (i := 6) rfl)) (hw _ (List.mem_of_getElem? (i := 3) rfl)) (by decide) (by decide)) (g := (mkF m 54 #[.val (.int p1), .val (.int p2), .val (.int p3), .val (.int p4), .val (.int i5), .val (.double d11), .second, .val (.double d19), .second, .val (.double d25), .second, .val (.double d33), .second, .val (.double d39), .second, .val (.double d47), .second, .unset, .unset] [(.ref b_1), (.ref b_1)])) rfl (by rw [hml]; rfl) (Steps.refl _) (a := b_1) (argsL := []) (rest := [(.ref b_1)]) (lenOf pd_0 rfl) rfl (by show 2 * 0 + _ ≤ _; exact Nat.le_of_eq rfl) (hb hby at_54) (fun _ _ => ⟨rfl, e_1, (by decide : 1 + 8 ≤ _), (by decide : 9 + 512 ≤ _)⟩)
  dsimp only [Pt.U, Pt.locs, Pt.cells, Pt.slots] at X_2 l_2 y_2 z_2 st_2 hQ_2
  subst l_2 y_2 z_2
  obtain ⟨rfl, N_2q, Kc_2, Ee_2, x0, x1, x2, x3, x4, x5, x6, x7, k0, k1, k2, k3, k4, k5, k6, k7, hch, Ov, Fx0c, Fx1c, Fx2c, Fx3c, Fx4c, Fx5c, Fx6c, Fx7c, Fszc, Va0c, Va1c, Va2c, Va3c, Va4c, Va5c, Va6c, Va7c⟩ := hQ_2
  have N_2 := Fr.app N0 N_2q
  have K_2 : Keep h0 T_2.heap [] := K_1.trans Kc_2 (allS (Or.inr sz_b_1) all0)
  have Z_2 : n0 ≤ T_2.heap.size := Nat.le_trans Z_1 Kc_2.1
  refine Go.tr st_2 ?_
  show Go p.tables e below P (T_2.setTop (mkF m 57 #[.val (.int p1), .val (.int p2), .val (.int p3), .val (.int p4), .val (.int i5), .val (.double d11), .second, .val (.double d19), .second, .val (.double d25), .second, .val (.double d33), .second, .val (.double d39), .second, .val (.double d47), .second, .unset, .unset] [(.ref b_1)]))
  have hch' := hch
  obtain ⟨c0, c1, c2, c3, c4, c5, c6, c7⟩ := hch'
  have l_0_1 : b_1 < x0 := c0
  have sz_x0 : h0.size ≤ x0 := Nat.le_trans sz_b_1 (Nat.le_of_lt l_0_1)
  have l_0_2 : b_1 < x1 := Nat.lt_trans l_0_1 c1
  have sz_x1 : h0.size ≤ x1 := Nat.le_trans sz_b_1 (Nat.le_of_lt l_0_2)
  have l_0_3 : b_1 < x2 := Nat.lt_trans l_0_2 c2
  have sz_x2 : h0.size ≤ x2 := Nat.le_trans sz_b_1 (Nat.le_of_lt l_0_3)
  have l_0_4 : b_1 < x3 := Nat.lt_trans l_0_3 c3
  have sz_x3 : h0.size ≤ x3 := Nat.le_trans sz_b_1 (Nat.le_of_lt l_0_4)
  have l_0_5 : b_1 < x4 := Nat.lt_trans l_0_4 c4
  have sz_x4 : h0.size ≤ x4 := Nat.le_trans sz_b_1 (Nat.le_of_lt l_0_5)
  have l_0_6 : b_1 < x5 := Nat.lt_trans l_0_5 c5
  have sz_x5 : h0.size ≤ x5 := Nat.le_trans sz_b_1 (Nat.le_of_lt l_0_6)
  have l_0_7 : b_1 < x6 := Nat.lt_trans l_0_6 c6
  have sz_x6 : h0.size ≤ x6 := Nat.le_trans sz_b_1 (Nat.le_of_lt l_0_7)
  have l_0_8 : b_1 < x7 := Nat.lt_trans l_0_7 c7
  have sz_x7 : h0.size ≤ x7 := Nat.le_trans sz_b_1 (Nat.le_of_lt l_0_8)
  refine Go.step (fun t k => XS.astore X_2.here hx rfl (hb hby at_57) rfl rfl (l' := #[.val (.int p1), .val (.int p2), .val (.int p3), .val (.int p4), .val (.int i5), .val (.double d11), .second, .val (.double d19), .second, .val (.double d25), .second, .val (.double d33), .second, .val (.double d39), .second, .val (.double d47), .second, .val (.ref b_1), .unset]) rfl k) ?_
  show Go p.tables e below P (T_2.setTop (mkF m 59 #[.val (.int p1), .val (.int p2), .val (.int p3), .val (.int p4), .val (.int i5), .val (.double d11), .second, .val (.double d19), .second, .val (.double d25), .second, .val (.double d33), .second, .val (.double d39), .second, .val (.double d47), .second, .val (.ref b_1), .unset] []))
  refine Go.step (fun t k => XS.iload X_2.here hx rfl (hb hby at_59) rfl  k) ?_
  show Go p.tables e below P (T_2.setTop (mkF m 61 #[.val (.int p1), .val (.int p2), .val (.int p3), .val (.int p4), .val (.int i5), .val (.double d11), .second, .val (.double d19), .second, .val (.double d25), .second, .val (.double d33), .second, .val (.double d39), .second, .val (.double d47), .second, .val (.ref b_1), .unset] [(.int i5)]))
  refine Go.step (fun t k => XS.iconst X_2.here hx rfl (hb hby at_61) k) ?_
  show Go p.tables e below P (T_2.setTop (mkF m 62 #[.val (.int p1), .val (.int p2), .val (.int p3), .val (.int p4), .val (.int i5), .val (.double d11), .second, .val (.double d19), .second, .val (.double d25), .second, .val (.double d33), .second, .val (.double d39), .second, .val (.double d47), .second, .val (.ref b_1), .unset] [(.int (1 : Int32)), (.int i5)]))
  by_cases hc62 : i5.toInt < (1 : Int)
  · refine Go.step (fun t k => XS.icmpYes X_2.here hx rfl (pc0 := 62) (pc' := 82) rfl (hb hby at_62) rfl (icY (cd := .lt) hc62) (by decide) (by decide) k) ?_
    show Go p.tables e below P (T_2.setTop (mkF m 82 #[.val (.int p1), .val (.int p2), .val (.int p3), .val (.int p4), .val (.int i5), .val (.double d11), .second, .val (.double d19), .second, .val (.double d25), .second, .val (.double d33), .second, .val (.double d39), .second, .val (.double d47), .second, .val (.ref b_1), .unset] []))
    refine Go.step (fun t k => XS.iload X_2.here hx rfl (hb hby at_82) rfl  k) ?_
    show Go p.tables e below P (T_2.setTop (mkF m 84 #[.val (.int p1), .val (.int p2), .val (.int p3), .val (.int p4), .val (.int i5), .val (.double d11), .second, .val (.double d19), .second, .val (.double d25), .second, .val (.double d33), .second, .val (.double d39), .second, .val (.double d47), .second, .val (.ref b_1), .unset] [(.int i5)]))
    refine Go.step (fun t k => XS.iconst X_2.here hx rfl (hb hby at_84) k) ?_
    show Go p.tables e below P (T_2.setTop (mkF m 85 #[.val (.int p1), .val (.int p2), .val (.int p3), .val (.int p4), .val (.int i5), .val (.double d11), .second, .val (.double d19), .second, .val (.double d25), .second, .val (.double d33), .second, .val (.double d39), .second, .val (.double d47), .second, .val (.ref b_1), .unset] [(.int (2 : Int32)), (.int i5)]))
    refine Go.step (fun t k => XS.icmpYes X_2.here hx rfl (pc0 := 85) (pc' := 105) rfl (hb hby at_85) rfl (icY (cd := .lt) (by omega : i5.toInt < (2 : Int))) (by decide) (by decide) k) ?_
    show Go p.tables e below P (T_2.setTop (mkF m 105 #[.val (.int p1), .val (.int p2), .val (.int p3), .val (.int p4), .val (.int i5), .val (.double d11), .second, .val (.double d19), .second, .val (.double d25), .second, .val (.double d33), .second, .val (.double d39), .second, .val (.double d47), .second, .val (.ref b_1), .unset] []))
    refine Go.step (fun t k => XS.iload X_2.here hx rfl (hb hby at_105) rfl  k) ?_
    show Go p.tables e below P (T_2.setTop (mkF m 107 #[.val (.int p1), .val (.int p2), .val (.int p3), .val (.int p4), .val (.int i5), .val (.double d11), .second, .val (.double d19), .second, .val (.double d25), .second, .val (.double d33), .second, .val (.double d39), .second, .val (.double d47), .second, .val (.ref b_1), .unset] [(.int i5)]))
    refine Go.step (fun t k => XS.ifNo X_2.here hx rfl (hb hby at_107) rfl (ifN (cd := .ne) (by omega : ¬ (¬ i5.toInt = 0))) k) ?_
    show Go p.tables e below P (T_2.setTop (mkF m 110 #[.val (.int p1), .val (.int p2), .val (.int p3), .val (.int p4), .val (.int i5), .val (.double d11), .second, .val (.double d19), .second, .val (.double d25), .second, .val (.double d33), .second, .val (.double d39), .second, .val (.double d47), .second, .val (.ref b_1), .unset] []))
    refine Go.step (fun t k => XS.iconst X_2.here hx rfl (hb hby at_110) k) ?_
    show Go p.tables e below P (T_2.setTop (mkF m 111 #[.val (.int p1), .val (.int p2), .val (.int p3), .val (.int p4), .val (.int i5), .val (.double d11), .second, .val (.double d19), .second, .val (.double d25), .second, .val (.double d33), .second, .val (.double d39), .second, .val (.double d47), .second, .val (.ref b_1), .unset] [(.int (0 : Int32))]))
    refine Go.step (fun t k => XS.istore X_2.here hx rfl (hb hby at_111) rfl (l' := #[.val (.int p1), .val (.int p2), .val (.int p3), .val (.int p4), .val (.int i5), .val (.double d11), .second, .val (.double d19), .second, .val (.double d25), .second, .val (.double d33), .second, .val (.double d39), .second, .val (.double d47), .second, .val (.ref b_1), .val (.int (0 : Int32))]) rfl k) ?_
    show Go p.tables e below P (T_2.setTop (mkF m 113 #[.val (.int p1), .val (.int p2), .val (.int p3), .val (.int p4), .val (.int i5), .val (.double d11), .second, .val (.double d19), .second, .val (.double d25), .second, .val (.double d33), .second, .val (.double d39), .second, .val (.double d47), .second, .val (.ref b_1), .val (.int (0 : Int32))] []))
    refine Go.step (fun t k => XS.goto X_2.here hx rfl (pc0 := 113) (pc' := 171) rfl (hb hby at_113) (by decide) (by decide) k) ?_
    show Go p.tables e below P (T_2.setTop (mkF m 171 #[.val (.int p1), .val (.int p2), .val (.int p3), .val (.int p4), .val (.int i5), .val (.double d11), .second, .val (.double d19), .second, .val (.double d25), .second, .val (.double d33), .second, .val (.double d39), .second, .val (.double d47), .second, .val (.ref b_1), .val (.int (0 : Int32))] []))
    refine Go.step (fun t k => XS.aload X_2.here hx rfl (hb hby at_171) rfl rfl k) ?_
    show Go p.tables e below P (T_2.setTop (mkF m 173 #[.val (.int p1), .val (.int p2), .val (.int p3), .val (.int p4), .val (.int i5), .val (.double d11), .second, .val (.double d19), .second, .val (.double d25), .second, .val (.double d33), .second, .val (.double d39), .second, .val (.double d47), .second, .val (.ref b_1), .val (.int (0 : Int32))] [(.ref b_1)]))
    refine Go.step (fun t k => XS.dload X_2.here hx rfl (hb hby at_173) rfl  k) ?_
    show Go p.tables e below P (T_2.setTop (mkF m 175 #[.val (.int p1), .val (.int p2), .val (.int p3), .val (.int p4), .val (.int i5), .val (.double d11), .second, .val (.double d19), .second, .val (.double d25), .second, .val (.double d33), .second, .val (.double d39), .second, .val (.double d47), .second, .val (.ref b_1), .val (.int (0 : Int32))] [(.double d39), (.ref b_1)]))
    refine Go.step (fun t k => XS.dload X_2.here hx rfl (hb hby at_175) rfl  k) ?_
    show Go p.tables e below P (T_2.setTop (mkF m 177 #[.val (.int p1), .val (.int p2), .val (.int p3), .val (.int p4), .val (.int i5), .val (.double d11), .second, .val (.double d19), .second, .val (.double d25), .second, .val (.double d33), .second, .val (.double d39), .second, .val (.double d47), .second, .val (.ref b_1), .val (.int (0 : Int32))] [(.double d47), (.double d39), (.ref b_1)]))
    obtain ⟨cq_3, kq_3, q_3a, q_3b, q_3c⟩ := isOf hZ rfl (A_1.keep Kc_2)
    obtain ⟨_, _, ⟨T_3, L_3, k_3, n_3⟩, -, X_3, ⟨Lc_3, hQ_3, l_3, y_3, z_3⟩, st_3⟩ := X_2.virtualBack hx (y := (⟨"com/example/gleitfahrt/gleitfahrt/engine/Course$Builder", "endsAt", "(DD)Z"⟩ : MethodName)) (z := (⟨"com/example/gleitfahrt/gleitfahrt/engine/Course$Builder", "endsAt", "(DD)Z"⟩ : MethodName)) hown (mvT hZ (hw _ (List.mem_of_getElem? (i := 29) rfl))) (mvT hZ (hw _ (List.mem_of_getElem? (i := 30) rfl))) (notFace_of_selects (args := #[]) (mvT hZ (hw _ (List.mem_of_getElem? (i := 32) rfl)))) (mvT hZ (hw _ (List.mem_of_getElem? (i := 32) rfl))) (mvT hZ (hw _ (List.mem_of_getElem? (i := 31) rfl))) (by decide) (backOf (W := 0) (rm4 l Z a0 hw [] b_1 d39 d47 T_2.heap n0 Z_2 Fszc) hZ (hw _ (List.mem_of_getElem? (i := 33) rfl)) (hw _ (List.mem_of_getElem? (i := 3) rfl)) (by decide) (by decide)) q_3a q_3c (g := (mkF m 177 #[.val (.int p1), .val (.int p2), .val (.int p3), .val (.int p4), .val (.int i5), .val (.double d11), .second, .val (.double d19), .second, .val (.double d25), .second, .val (.double d33), .second, .val (.double d39), .second, .val (.double d47), .second, .val (.ref b_1), .val (.int (0 : Int32))] [(.double d47), (.double d39), (.ref b_1)])) rfl (by rw [hml]; rfl) (Steps.refl _) (argsL := [(.double d39), (.double d47)]) (rest := []) (lenOf pd_1 rfl) rfl (by show 2 * 0 + _ ≤ _; exact Nat.le_of_eq rfl) (hb hby at_177) (fun _ _ => ⟨rfl, rfl, (by decide : 9 + 0 ≤ _), (by decide : 521 + 0 ≤ _)⟩)
    dsimp only [Pt.U, Pt.locs, Pt.cells, Pt.slots] at X_3 l_3 y_3 z_3 st_3 hQ_3
    subst l_3 y_3 z_3
    obtain ⟨r0, rfl, hr0, N_3q, eh_3⟩ := hQ_3
    have N_3 := Fr.app N_2 N_3q
    refine Go.tr st_3 ?_
    show Go p.tables e below P (T_3.setTop (mkF m 180 #[.val (.int p1), .val (.int p2), .val (.int p3), .val (.int p4), .val (.int i5), .val (.double d11), .second, .val (.double d19), .second, .val (.double d25), .second, .val (.double d33), .second, .val (.double d39), .second, .val (.double d47), .second, .val (.ref b_1), .val (.int (0 : Int32))] [(.int r0)]))
    refine Go.step (fun t k => XS.iload X_3.here hx rfl (hb hby at_180) rfl  k) ?_
    show Go p.tables e below P (T_3.setTop (mkF m 182 #[.val (.int p1), .val (.int p2), .val (.int p3), .val (.int p4), .val (.int i5), .val (.double d11), .second, .val (.double d19), .second, .val (.double d25), .second, .val (.double d33), .second, .val (.double d39), .second, .val (.double d47), .second, .val (.ref b_1), .val (.int (0 : Int32))] [(.int (0 : Int32)), (.int r0)]))
    refine Go.step (fun t k => XS.icmpNo X_3.here hx rfl (hb hby at_182) rfl (icN (cd := .ne) (by omega : ¬ (¬ r0.toInt = (0 : Int)))) k) ?_
    show Go p.tables e below P (T_3.setTop (mkF m 185 #[.val (.int p1), .val (.int p2), .val (.int p3), .val (.int p4), .val (.int i5), .val (.double d11), .second, .val (.double d19), .second, .val (.double d25), .second, .val (.double d33), .second, .val (.double d39), .second, .val (.double d47), .second, .val (.ref b_1), .val (.int (0 : Int32))] []))
    refine Go.step (fun t k => XS.iconst X_3.here hx rfl (hb hby at_185) k) ?_
    show Go p.tables e below P (T_3.setTop (mkF m 186 #[.val (.int p1), .val (.int p2), .val (.int p3), .val (.int p4), .val (.int i5), .val (.double d11), .second, .val (.double d19), .second, .val (.double d25), .second, .val (.double d33), .second, .val (.double d39), .second, .val (.double d47), .second, .val (.ref b_1), .val (.int (0 : Int32))] [(.int (1 : Int32))]))
    refine Go.step (fun t k => XS.goto X_3.here hx rfl (pc0 := 186) (pc' := 190) rfl (hb hby at_186) (by decide) (by decide) k) ?_
    show Go p.tables e below P (T_3.setTop (mkF m 190 #[.val (.int p1), .val (.int p2), .val (.int p3), .val (.int p4), .val (.int i5), .val (.double d11), .second, .val (.double d19), .second, .val (.double d25), .second, .val (.double d33), .second, .val (.double d39), .second, .val (.double d47), .second, .val (.ref b_1), .val (.int (0 : Int32))] [(.int (1 : Int32))]))
    exact retGo X_3 hx hP Bd.returns hlk rfl (Or.inl ⟨rfl, Or.inr (Or.inl rfl), _, rfl⟩) (hb hby at_190) (by decide) (by decide) (by rw [eh_3]; exact ⟨rfl, N_3⟩)
  · refine Go.step (fun t k => XS.icmpNo X_2.here hx rfl (hb hby at_62) rfl (icN (cd := .lt) hc62) k) ?_
    show Go p.tables e below P (T_2.setTop (mkF m 65 #[.val (.int p1), .val (.int p2), .val (.int p3), .val (.int p4), .val (.int i5), .val (.double d11), .second, .val (.double d19), .second, .val (.double d25), .second, .val (.double d33), .second, .val (.double d39), .second, .val (.double d47), .second, .val (.ref b_1), .unset] []))
    refine Go.step (fun t k => XS.aload X_2.here hx rfl (hb hby at_65) rfl rfl k) ?_
    show Go p.tables e below P (T_2.setTop (mkF m 67 #[.val (.int p1), .val (.int p2), .val (.int p3), .val (.int p4), .val (.int i5), .val (.double d11), .second, .val (.double d19), .second, .val (.double d25), .second, .val (.double d33), .second, .val (.double d39), .second, .val (.double d47), .second, .val (.ref b_1), .unset] [(.ref b_1)]))
    refine Go.step (fun t k => XS.dload X_2.here hx rfl (hb hby at_67) rfl  k) ?_
    show Go p.tables e below P (T_2.setTop (mkF m 69 #[.val (.int p1), .val (.int p2), .val (.int p3), .val (.int p4), .val (.int i5), .val (.double d11), .second, .val (.double d19), .second, .val (.double d25), .second, .val (.double d33), .second, .val (.double d39), .second, .val (.double d47), .second, .val (.ref b_1), .unset] [(.double d11), (.ref b_1)]))
    refine Go.step (fun t k => XS.dload X_2.here hx rfl (hb hby at_69) rfl  k) ?_
    show Go p.tables e below P (T_2.setTop (mkF m 71 #[.val (.int p1), .val (.int p2), .val (.int p3), .val (.int p4), .val (.int i5), .val (.double d11), .second, .val (.double d19), .second, .val (.double d25), .second, .val (.double d33), .second, .val (.double d39), .second, .val (.double d47), .second, .val (.ref b_1), .unset] [(.double d25), (.double d11), (.ref b_1)]))
    refine Go.step (fun t k => XS.dconst0 X_2.here hx rfl (hb hby at_71) rfl k) ?_
    show Go p.tables e below P (T_2.setTop (mkF m 72 #[.val (.int p1), .val (.int p2), .val (.int p3), .val (.int p4), .val (.int i5), .val (.double d11), .second, .val (.double d19), .second, .val (.double d25), .second, .val (.double d33), .second, .val (.double d39), .second, .val (.double d47), .second, .val (.ref b_1), .unset] [(.double FP.dconst0), (.double d25), (.double d11), (.ref b_1)]))
    refine Go.step (fun t k => XS.dconst0 X_2.here hx rfl (hb hby at_72) rfl k) ?_
    show Go p.tables e below P (T_2.setTop (mkF m 73 #[.val (.int p1), .val (.int p2), .val (.int p3), .val (.int p4), .val (.int i5), .val (.double d11), .second, .val (.double d19), .second, .val (.double d25), .second, .val (.double d33), .second, .val (.double d39), .second, .val (.double d47), .second, .val (.ref b_1), .unset] [(.double FP.dconst0), (.double FP.dconst0), (.double d25), (.double d11), (.ref b_1)]))
    refine Go.step (fun t k => XS.dconst0 X_2.here hx rfl (hb hby at_73) rfl k) ?_
    show Go p.tables e below P (T_2.setTop (mkF m 74 #[.val (.int p1), .val (.int p2), .val (.int p3), .val (.int p4), .val (.int i5), .val (.double d11), .second, .val (.double d19), .second, .val (.double d25), .second, .val (.double d33), .second, .val (.double d39), .second, .val (.double d47), .second, .val (.ref b_1), .unset] [(.double FP.dconst0), (.double FP.dconst0), (.double FP.dconst0), (.double d25), (.double d11), (.ref b_1)]))
    obtain ⟨T_4, X_4, e_4, st_4⟩ := getS2 X_2 hx hZ hown (host := "") (Or.inl (hw _ (List.mem_of_getElem? (i := 36) rfl))) Via.refl rfl (Sta_keep0 S_pw K_2) (g := (mkF m 74 #[.val (.int p1), .val (.int p2), .val (.int p3), .val (.int p4), .val (.int i5), .val (.double d11), .second, .val (.double d19), .second, .val (.double d25), .second, .val (.double d33), .second, .val (.double d39), .second, .val (.double d47), .second, .val (.ref b_1), .unset] [(.double FP.dconst0), (.double FP.dconst0), (.double FP.dconst0), (.double d25), (.double d11), (.ref b_1)])) rfl (hb hby at_74)
    refine Go.step (fun t k => st_4 t k) ?_
    show Go p.tables e below P (T_4.setTop (mkF m 77 #[.val (.int p1), .val (.int p2), .val (.int p3), .val (.int p4), .val (.int i5), .val (.double d11), .second, .val (.double d19), .second, .val (.double d25), .second, .val (.double d33), .second, .val (.double d39), .second, .val (.double d47), .second, .val (.ref b_1), .unset] [(.ref pw), (.double FP.dconst0), (.double FP.dconst0), (.double FP.dconst0), (.double d25), (.double d11), (.ref b_1)]))
    refine Go.step (fun t k => XS.dconst0 X_4.here hx rfl (hb hby at_77) rfl k) ?_
    show Go p.tables e below P (T_4.setTop (mkF m 78 #[.val (.int p1), .val (.int p2), .val (.int p3), .val (.int p4), .val (.int i5), .val (.double d11), .second, .val (.double d19), .second, .val (.double d25), .second, .val (.double d33), .second, .val (.double d39), .second, .val (.double d47), .second, .val (.ref b_1), .unset] [(.double FP.dconst0), (.ref pw), (.double FP.dconst0), (.double FP.dconst0), (.double FP.dconst0), (.double d25), (.double d11), (.ref b_1)]))
    refine Go.step (fun t k => XS.dconst0 X_4.here hx rfl (hb hby at_78) rfl k) ?_
    show Go p.tables e below P (T_4.setTop (mkF m 79 #[.val (.int p1), .val (.int p2), .val (.int p3), .val (.int p4), .val (.int i5), .val (.double d11), .second, .val (.double d19), .second, .val (.double d25), .second, .val (.double d33), .second, .val (.double d39), .second, .val (.double d47), .second, .val (.ref b_1), .unset] [(.double FP.dconst0), (.double FP.dconst0), (.ref pw), (.double FP.dconst0), (.double FP.dconst0), (.double FP.dconst0), (.double d25), (.double d11), (.ref b_1)]))
    obtain ⟨cq_5, kq_5, q_5a, q_5b, q_5c⟩ := isOf hZ e_4 (A_1.keep Kc_2)
    obtain ⟨_, _, ⟨T_5, L_5, k_5, n_5⟩, -, X_5, ⟨Lc_5, hQ_5, l_5, y_5, z_5⟩, st_5⟩ := X_4.virtualBack hx (y := (⟨"com/example/gleitfahrt/gleitfahrt/engine/Course$Builder", "add", "(DDDDDLcom/example/gleitfahrt/gleitfahrt/engine/Regime;DD)V"⟩ : MethodName)) (z := (⟨"com/example/gleitfahrt/gleitfahrt/engine/Course$Builder", "add", "(DDDDDLcom/example/gleitfahrt/gleitfahrt/engine/Regime;DD)V"⟩ : MethodName)) hown (mvT hZ (hw _ (List.mem_of_getElem? (i := 39) rfl))) (mvT hZ (hw _ (List.mem_of_getElem? (i := 40) rfl))) (notFace_of_selects (args := #[]) (mvT hZ (hw _ (List.mem_of_getElem? (i := 42) rfl)))) (mvT hZ (hw _ (List.mem_of_getElem? (i := 42) rfl))) (mvT hZ (hw _ (List.mem_of_getElem? (i := 41) rfl))) (by decide) (backOf (W := 0) (rm2 l Z a0 hw [] b_1 d11 d25 FP.dconst0 FP.dconst0 FP.dconst0 pw FP.dconst0 FP.dconst0 x0 x1 x2 x3 x4 x5 x6 x7 k0 k1 k2 k3 k4 k5 k6 k7  T_2.heap n0 Z_2 (A_1.keep Kc_2) (E_pw.keep K_2) g_b_1 hch Ov Fx0c Fx1c Fx2c Fx3c Fx4c Fx5c Fx6c Fx7c Fszc Va0c Va1c Va2c Va3c Va4c Va5c Va6c Va7c) hZ (hw _ (List.mem_of_getElem? (i := 43) rfl)) (hw _ (List.mem_of_getElem? (i := 3) rfl)) (by decide) (by decide)) q_5a q_5c (g := (mkF m 79 #[.val (.int p1), .val (.int p2), .val (.int p3), .val (.int p4), .val (.int i5), .val (.double d11), .second, .val (.double d19), .second, .val (.double d25), .second, .val (.double d33), .second, .val (.double d39), .second, .val (.double d47), .second, .val (.ref b_1), .unset] [(.double FP.dconst0), (.double FP.dconst0), (.ref pw), (.double FP.dconst0), (.double FP.dconst0), (.double FP.dconst0), (.double d25), (.double d11), (.ref b_1)])) rfl (by rw [hml]; rfl) (Steps.refl _) (argsL := [(.double d11), (.double d25), (.double FP.dconst0), (.double FP.dconst0), (.double FP.dconst0), (.ref pw), (.double FP.dconst0), (.double FP.dconst0)]) (rest := []) (lenOf pd_2 rfl) rfl (by show 2 * 0 + _ ≤ _; exact Nat.le_of_eq rfl) (hb hby at_79) (fun _ _ => ⟨rfl, e_4, (by decide : 9 + 0 ≤ _), (by decide : 521 + 0 ≤ _)⟩)
    dsimp only [Pt.U, Pt.locs, Pt.cells, Pt.slots] at X_5 l_5 y_5 z_5 st_5 hQ_5
    subst l_5 y_5 z_5
    obtain ⟨rfl, N_5q, Kc_5, Ee_5, Fx0_0, Fx1_0, Fx2_0, Fx3_0, Fx4_0, Fx5_0, Fx6_0, Fx7_0, Fsz_0, Va0_0, Va1_0, Va2_0, Va3_0, Va4_0, Va5_0, Va6_0, Va7_0⟩ := hQ_5
    have N_5 := Fr.app N_2 N_5q
    have K_5 : Keep h0 T_5.heap [] := K_2.trans Kc_5 (allS (Or.inr sz_b_1) (allS (Or.inr sz_x0) (allS (Or.inr sz_x1) (allS (Or.inr sz_x2) (allS (Or.inr sz_x3) (allS (Or.inr sz_x4) (allS (Or.inr sz_x5) (allS (Or.inr sz_x6) (allS (Or.inr sz_x7) all0)))))))))
    have Z_5 : n0 ≤ T_5.heap.size := Nat.le_trans Z_2 Kc_5.1
    refine Go.tr st_5 ?_
    show Go p.tables e below P (T_5.setTop (mkF m 82 #[.val (.int p1), .val (.int p2), .val (.int p3), .val (.int p4), .val (.int i5), .val (.double d11), .second, .val (.double d19), .second, .val (.double d25), .second, .val (.double d33), .second, .val (.double d39), .second, .val (.double d47), .second, .val (.ref b_1), .unset] []))
    refine Go.step (fun t k => XS.iload X_5.here hx rfl (hb hby at_82) rfl  k) ?_
    show Go p.tables e below P (T_5.setTop (mkF m 84 #[.val (.int p1), .val (.int p2), .val (.int p3), .val (.int p4), .val (.int i5), .val (.double d11), .second, .val (.double d19), .second, .val (.double d25), .second, .val (.double d33), .second, .val (.double d39), .second, .val (.double d47), .second, .val (.ref b_1), .unset] [(.int i5)]))
    refine Go.step (fun t k => XS.iconst X_5.here hx rfl (hb hby at_84) k) ?_
    show Go p.tables e below P (T_5.setTop (mkF m 85 #[.val (.int p1), .val (.int p2), .val (.int p3), .val (.int p4), .val (.int i5), .val (.double d11), .second, .val (.double d19), .second, .val (.double d25), .second, .val (.double d33), .second, .val (.double d39), .second, .val (.double d47), .second, .val (.ref b_1), .unset] [(.int (2 : Int32)), (.int i5)]))
    by_cases hc85 : i5.toInt < (2 : Int)
    · refine Go.step (fun t k => XS.icmpYes X_5.here hx rfl (pc0 := 85) (pc' := 105) rfl (hb hby at_85) rfl (icY (cd := .lt) hc85) (by decide) (by decide) k) ?_
      show Go p.tables e below P (T_5.setTop (mkF m 105 #[.val (.int p1), .val (.int p2), .val (.int p3), .val (.int p4), .val (.int i5), .val (.double d11), .second, .val (.double d19), .second, .val (.double d25), .second, .val (.double d33), .second, .val (.double d39), .second, .val (.double d47), .second, .val (.ref b_1), .unset] []))
      refine Go.step (fun t k => XS.iload X_5.here hx rfl (hb hby at_105) rfl  k) ?_
      show Go p.tables e below P (T_5.setTop (mkF m 107 #[.val (.int p1), .val (.int p2), .val (.int p3), .val (.int p4), .val (.int i5), .val (.double d11), .second, .val (.double d19), .second, .val (.double d25), .second, .val (.double d33), .second, .val (.double d39), .second, .val (.double d47), .second, .val (.ref b_1), .unset] [(.int i5)]))
      refine Go.step (fun t k => XS.ifYes X_5.here hx rfl (pc0 := 107) (pc' := 116) rfl (hb hby at_107) rfl (ifY (cd := .ne) (by omega : ¬ i5.toInt = 0)) (by decide) (by decide) k) ?_
      show Go p.tables e below P (T_5.setTop (mkF m 116 #[.val (.int p1), .val (.int p2), .val (.int p3), .val (.int p4), .val (.int i5), .val (.double d11), .second, .val (.double d19), .second, .val (.double d25), .second, .val (.double d33), .second, .val (.double d39), .second, .val (.double d47), .second, .val (.ref b_1), .unset] []))
      refine Go.step (fun t k => XS.iload X_5.here hx rfl (hb hby at_116) rfl  k) ?_
      show Go p.tables e below P (T_5.setTop (mkF m 118 #[.val (.int p1), .val (.int p2), .val (.int p3), .val (.int p4), .val (.int i5), .val (.double d11), .second, .val (.double d19), .second, .val (.double d25), .second, .val (.double d33), .second, .val (.double d39), .second, .val (.double d47), .second, .val (.ref b_1), .unset] [(.int i5)]))
      refine Go.step (fun t k => XS.iconst X_5.here hx rfl (hb hby at_118) k) ?_
      show Go p.tables e below P (T_5.setTop (mkF m 119 #[.val (.int p1), .val (.int p2), .val (.int p3), .val (.int p4), .val (.int i5), .val (.double d11), .second, .val (.double d19), .second, .val (.double d25), .second, .val (.double d33), .second, .val (.double d39), .second, .val (.double d47), .second, .val (.ref b_1), .unset] [(.int (1 : Int32)), (.int i5)]))
      refine Go.step (fun t k => XS.icmpNo X_5.here hx rfl (hb hby at_119) rfl (icN (cd := .ne) (by omega : ¬ (¬ i5.toInt = (1 : Int)))) k) ?_
      show Go p.tables e below P (T_5.setTop (mkF m 122 #[.val (.int p1), .val (.int p2), .val (.int p3), .val (.int p4), .val (.int i5), .val (.double d11), .second, .val (.double d19), .second, .val (.double d25), .second, .val (.double d33), .second, .val (.double d39), .second, .val (.double d47), .second, .val (.ref b_1), .unset] []))
      refine Go.step (fun t k => XS.dload X_5.here hx rfl (hb hby at_122) rfl  k) ?_
      show Go p.tables e below P (T_5.setTop (mkF m 124 #[.val (.int p1), .val (.int p2), .val (.int p3), .val (.int p4), .val (.int i5), .val (.double d11), .second, .val (.double d19), .second, .val (.double d25), .second, .val (.double d33), .second, .val (.double d39), .second, .val (.double d47), .second, .val (.ref b_1), .unset] [(.double d11)]))
      refine Go.step (fun t k => XS.dload X_5.here hx rfl (hb hby at_124) rfl  k) ?_
      show Go p.tables e below P (T_5.setTop (mkF m 126 #[.val (.int p1), .val (.int p2), .val (.int p3), .val (.int p4), .val (.int i5), .val (.double d11), .second, .val (.double d19), .second, .val (.double d25), .second, .val (.double d33), .second, .val (.double d39), .second, .val (.double d47), .second, .val (.ref b_1), .unset] [(.double d39), (.double d11)]))
      refine Go.step (fun t k => XS.dcmpS X_5.here hx rfl (hb hby at_126) rfl rfl k) ?_
      show Go p.tables e below P (T_5.setTop (mkF m 127 #[.val (.int p1), .val (.int p2), .val (.int p3), .val (.int p4), .val (.int i5), .val (.double d11), .second, .val (.double d19), .second, .val (.double d25), .second, .val (.double d33), .second, .val (.double d39), .second, .val (.double d47), .second, .val (.ref b_1), .unset] [(.int (cmpValue (FP.dcmp d11 d39) .l))]))
      by_cases hc127 : ¬ i10.toInt = i38.toInt
      · refine Go.step (fun t k => XS.ifYes X_5.here hx rfl (pc0 := 127) (pc' := 142) rfl (hb hby at_127) rfl (dcY (cd := .ne) (DE.cmp q11 q39) hc127) (by decide) (by decide) k) ?_
        show Go p.tables e below P (T_5.setTop (mkF m 142 #[.val (.int p1), .val (.int p2), .val (.int p3), .val (.int p4), .val (.int i5), .val (.double d11), .second, .val (.double d19), .second, .val (.double d25), .second, .val (.double d33), .second, .val (.double d39), .second, .val (.double d47), .second, .val (.ref b_1), .unset] []))
        refine Go.step (fun t k => XS.iconst X_5.here hx rfl (hb hby at_142) k) ?_
        show Go p.tables e below P (T_5.setTop (mkF m 143 #[.val (.int p1), .val (.int p2), .val (.int p3), .val (.int p4), .val (.int i5), .val (.double d11), .second, .val (.double d19), .second, .val (.double d25), .second, .val (.double d33), .second, .val (.double d39), .second, .val (.double d47), .second, .val (.ref b_1), .unset] [(.int (0 : Int32))]))
        refine Go.step (fun t k => XS.istore X_5.here hx rfl (hb hby at_143) rfl (l' := #[.val (.int p1), .val (.int p2), .val (.int p3), .val (.int p4), .val (.int i5), .val (.double d11), .second, .val (.double d19), .second, .val (.double d25), .second, .val (.double d33), .second, .val (.double d39), .second, .val (.double d47), .second, .val (.ref b_1), .val (.int (0 : Int32))]) rfl k) ?_
        show Go p.tables e below P (T_5.setTop (mkF m 145 #[.val (.int p1), .val (.int p2), .val (.int p3), .val (.int p4), .val (.int i5), .val (.double d11), .second, .val (.double d19), .second, .val (.double d25), .second, .val (.double d33), .second, .val (.double d39), .second, .val (.double d47), .second, .val (.ref b_1), .val (.int (0 : Int32))] []))
        refine Go.step (fun t k => XS.goto X_5.here hx rfl (pc0 := 145) (pc' := 171) rfl (hb hby at_145) (by decide) (by decide) k) ?_
        show Go p.tables e below P (T_5.setTop (mkF m 171 #[.val (.int p1), .val (.int p2), .val (.int p3), .val (.int p4), .val (.int i5), .val (.double d11), .second, .val (.double d19), .second, .val (.double d25), .second, .val (.double d33), .second, .val (.double d39), .second, .val (.double d47), .second, .val (.ref b_1), .val (.int (0 : Int32))] []))
        refine Go.step (fun t k => XS.aload X_5.here hx rfl (hb hby at_171) rfl rfl k) ?_
        show Go p.tables e below P (T_5.setTop (mkF m 173 #[.val (.int p1), .val (.int p2), .val (.int p3), .val (.int p4), .val (.int i5), .val (.double d11), .second, .val (.double d19), .second, .val (.double d25), .second, .val (.double d33), .second, .val (.double d39), .second, .val (.double d47), .second, .val (.ref b_1), .val (.int (0 : Int32))] [(.ref b_1)]))
        refine Go.step (fun t k => XS.dload X_5.here hx rfl (hb hby at_173) rfl  k) ?_
        show Go p.tables e below P (T_5.setTop (mkF m 175 #[.val (.int p1), .val (.int p2), .val (.int p3), .val (.int p4), .val (.int i5), .val (.double d11), .second, .val (.double d19), .second, .val (.double d25), .second, .val (.double d33), .second, .val (.double d39), .second, .val (.double d47), .second, .val (.ref b_1), .val (.int (0 : Int32))] [(.double d39), (.ref b_1)]))
        refine Go.step (fun t k => XS.dload X_5.here hx rfl (hb hby at_175) rfl  k) ?_
        show Go p.tables e below P (T_5.setTop (mkF m 177 #[.val (.int p1), .val (.int p2), .val (.int p3), .val (.int p4), .val (.int i5), .val (.double d11), .second, .val (.double d19), .second, .val (.double d25), .second, .val (.double d33), .second, .val (.double d39), .second, .val (.double d47), .second, .val (.ref b_1), .val (.int (0 : Int32))] [(.double d47), (.double d39), (.ref b_1)]))
        obtain ⟨cq_6, kq_6, q_6a, q_6b, q_6c⟩ := isOf hZ rfl ((A_1.keep Kc_2).keep Kc_5)
        obtain ⟨_, _, ⟨T_6, L_6, k_6, n_6⟩, -, X_6, ⟨Lc_6, hQ_6, l_6, y_6, z_6⟩, st_6⟩ := X_5.virtualBack hx (y := (⟨"com/example/gleitfahrt/gleitfahrt/engine/Course$Builder", "endsAt", "(DD)Z"⟩ : MethodName)) (z := (⟨"com/example/gleitfahrt/gleitfahrt/engine/Course$Builder", "endsAt", "(DD)Z"⟩ : MethodName)) hown (mvT hZ (hw _ (List.mem_of_getElem? (i := 29) rfl))) (mvT hZ (hw _ (List.mem_of_getElem? (i := 30) rfl))) (notFace_of_selects (args := #[]) (mvT hZ (hw _ (List.mem_of_getElem? (i := 32) rfl)))) (mvT hZ (hw _ (List.mem_of_getElem? (i := 32) rfl))) (mvT hZ (hw _ (List.mem_of_getElem? (i := 31) rfl))) (by decide) (backOf (W := 0) (rm5 l Z a0 hw [] b_1 d39 d47 d11 d25 0 0 x0 x1 k0 k1 (i38.toInt) (i46.toInt) (i10.toInt) (i24.toInt) T_5.heap n0 Z_5 Fx0_0 Fx1_0 Fsz_0 Va0_0 Va1_0 q39 q47 q11 q25) hZ (hw _ (List.mem_of_getElem? (i := 33) rfl)) (hw _ (List.mem_of_getElem? (i := 3) rfl)) (by decide) (by decide)) q_6a q_6c (g := (mkF m 177 #[.val (.int p1), .val (.int p2), .val (.int p3), .val (.int p4), .val (.int i5), .val (.double d11), .second, .val (.double d19), .second, .val (.double d25), .second, .val (.double d33), .second, .val (.double d39), .second, .val (.double d47), .second, .val (.ref b_1), .val (.int (0 : Int32))] [(.double d47), (.double d39), (.ref b_1)])) rfl (by rw [hml]; rfl) (Steps.refl _) (argsL := [(.double d39), (.double d47)]) (rest := []) (lenOf pd_1 rfl) rfl (by show 2 * 0 + _ ≤ _; exact Nat.le_of_eq rfl) (hb hby at_177) (fun _ _ => ⟨rfl, rfl, (by decide : 9 + 0 ≤ _), (by decide : 521 + 0 ≤ _)⟩)
        dsimp only [Pt.U, Pt.locs, Pt.cells, Pt.slots] at X_6 l_6 y_6 z_6 st_6 hQ_6
        subst l_6 y_6 z_6
        obtain ⟨r0, rfl, hr0, N_6q, eh_6⟩ := hQ_6
        have N_6 := Fr.app N_5 N_6q
        refine Go.tr st_6 ?_
        show Go p.tables e below P (T_6.setTop (mkF m 180 #[.val (.int p1), .val (.int p2), .val (.int p3), .val (.int p4), .val (.int i5), .val (.double d11), .second, .val (.double d19), .second, .val (.double d25), .second, .val (.double d33), .second, .val (.double d39), .second, .val (.double d47), .second, .val (.ref b_1), .val (.int (0 : Int32))] [(.int r0)]))
        refine Go.step (fun t k => XS.iload X_6.here hx rfl (hb hby at_180) rfl  k) ?_
        show Go p.tables e below P (T_6.setTop (mkF m 182 #[.val (.int p1), .val (.int p2), .val (.int p3), .val (.int p4), .val (.int i5), .val (.double d11), .second, .val (.double d19), .second, .val (.double d25), .second, .val (.double d33), .second, .val (.double d39), .second, .val (.double d47), .second, .val (.ref b_1), .val (.int (0 : Int32))] [(.int (0 : Int32)), (.int r0)]))
        refine Go.step (fun t k => XS.icmpNo X_6.here hx rfl (hb hby at_182) rfl (icN (cd := .ne) (by omega : ¬ (¬ r0.toInt = (0 : Int)))) k) ?_
        show Go p.tables e below P (T_6.setTop (mkF m 185 #[.val (.int p1), .val (.int p2), .val (.int p3), .val (.int p4), .val (.int i5), .val (.double d11), .second, .val (.double d19), .second, .val (.double d25), .second, .val (.double d33), .second, .val (.double d39), .second, .val (.double d47), .second, .val (.ref b_1), .val (.int (0 : Int32))] []))
        refine Go.step (fun t k => XS.iconst X_6.here hx rfl (hb hby at_185) k) ?_
        show Go p.tables e below P (T_6.setTop (mkF m 186 #[.val (.int p1), .val (.int p2), .val (.int p3), .val (.int p4), .val (.int i5), .val (.double d11), .second, .val (.double d19), .second, .val (.double d25), .second, .val (.double d33), .second, .val (.double d39), .second, .val (.double d47), .second, .val (.ref b_1), .val (.int (0 : Int32))] [(.int (1 : Int32))]))
        refine Go.step (fun t k => XS.goto X_6.here hx rfl (pc0 := 186) (pc' := 190) rfl (hb hby at_186) (by decide) (by decide) k) ?_
        show Go p.tables e below P (T_6.setTop (mkF m 190 #[.val (.int p1), .val (.int p2), .val (.int p3), .val (.int p4), .val (.int i5), .val (.double d11), .second, .val (.double d19), .second, .val (.double d25), .second, .val (.double d33), .second, .val (.double d39), .second, .val (.double d47), .second, .val (.ref b_1), .val (.int (0 : Int32))] [(.int (1 : Int32))]))
        exact retGo X_6 hx hP Bd.returns hlk rfl (Or.inl ⟨rfl, Or.inr (Or.inl rfl), _, rfl⟩) (hb hby at_190) (by decide) (by decide) (by rw [eh_6]; exact ⟨rfl, N_6⟩)
      · refine Go.step (fun t k => XS.ifNo X_5.here hx rfl (hb hby at_127) rfl (dcN (cd := .ne) (DE.cmp q11 q39) hc127) k) ?_
        show Go p.tables e below P (T_5.setTop (mkF m 130 #[.val (.int p1), .val (.int p2), .val (.int p3), .val (.int p4), .val (.int i5), .val (.double d11), .second, .val (.double d19), .second, .val (.double d25), .second, .val (.double d33), .second, .val (.double d39), .second, .val (.double d47), .second, .val (.ref b_1), .unset] []))
        refine Go.step (fun t k => XS.dload X_5.here hx rfl (hb hby at_130) rfl  k) ?_
        show Go p.tables e below P (T_5.setTop (mkF m 132 #[.val (.int p1), .val (.int p2), .val (.int p3), .val (.int p4), .val (.int i5), .val (.double d11), .second, .val (.double d19), .second, .val (.double d25), .second, .val (.double d33), .second, .val (.double d39), .second, .val (.double d47), .second, .val (.ref b_1), .unset] [(.double d25)]))
        refine Go.step (fun t k => XS.dload X_5.here hx rfl (hb hby at_132) rfl  k) ?_
        show Go p.tables e below P (T_5.setTop (mkF m 134 #[.val (.int p1), .val (.int p2), .val (.int p3), .val (.int p4), .val (.int i5), .val (.double d11), .second, .val (.double d19), .second, .val (.double d25), .second, .val (.double d33), .second, .val (.double d39), .second, .val (.double d47), .second, .val (.ref b_1), .unset] [(.double d47), (.double d25)]))
        refine Go.step (fun t k => XS.dcmpS X_5.here hx rfl (hb hby at_134) rfl rfl k) ?_
        show Go p.tables e below P (T_5.setTop (mkF m 135 #[.val (.int p1), .val (.int p2), .val (.int p3), .val (.int p4), .val (.int i5), .val (.double d11), .second, .val (.double d19), .second, .val (.double d25), .second, .val (.double d33), .second, .val (.double d39), .second, .val (.double d47), .second, .val (.ref b_1), .unset] [(.int (cmpValue (FP.dcmp d25 d47) .l))]))
        by_cases hc135 : ¬ i24.toInt = i46.toInt
        · refine Go.step (fun t k => XS.ifYes X_5.here hx rfl (pc0 := 135) (pc' := 142) rfl (hb hby at_135) rfl (dcY (cd := .ne) (DE.cmp q25 q47) hc135) (by decide) (by decide) k) ?_
          show Go p.tables e below P (T_5.setTop (mkF m 142 #[.val (.int p1), .val (.int p2), .val (.int p3), .val (.int p4), .val (.int i5), .val (.double d11), .second, .val (.double d19), .second, .val (.double d25), .second, .val (.double d33), .second, .val (.double d39), .second, .val (.double d47), .second, .val (.ref b_1), .unset] []))
          refine Go.step (fun t k => XS.iconst X_5.here hx rfl (hb hby at_142) k) ?_
          show Go p.tables e below P (T_5.setTop (mkF m 143 #[.val (.int p1), .val (.int p2), .val (.int p3), .val (.int p4), .val (.int i5), .val (.double d11), .second, .val (.double d19), .second, .val (.double d25), .second, .val (.double d33), .second, .val (.double d39), .second, .val (.double d47), .second, .val (.ref b_1), .unset] [(.int (0 : Int32))]))
          refine Go.step (fun t k => XS.istore X_5.here hx rfl (hb hby at_143) rfl (l' := #[.val (.int p1), .val (.int p2), .val (.int p3), .val (.int p4), .val (.int i5), .val (.double d11), .second, .val (.double d19), .second, .val (.double d25), .second, .val (.double d33), .second, .val (.double d39), .second, .val (.double d47), .second, .val (.ref b_1), .val (.int (0 : Int32))]) rfl k) ?_
          show Go p.tables e below P (T_5.setTop (mkF m 145 #[.val (.int p1), .val (.int p2), .val (.int p3), .val (.int p4), .val (.int i5), .val (.double d11), .second, .val (.double d19), .second, .val (.double d25), .second, .val (.double d33), .second, .val (.double d39), .second, .val (.double d47), .second, .val (.ref b_1), .val (.int (0 : Int32))] []))
          refine Go.step (fun t k => XS.goto X_5.here hx rfl (pc0 := 145) (pc' := 171) rfl (hb hby at_145) (by decide) (by decide) k) ?_
          show Go p.tables e below P (T_5.setTop (mkF m 171 #[.val (.int p1), .val (.int p2), .val (.int p3), .val (.int p4), .val (.int i5), .val (.double d11), .second, .val (.double d19), .second, .val (.double d25), .second, .val (.double d33), .second, .val (.double d39), .second, .val (.double d47), .second, .val (.ref b_1), .val (.int (0 : Int32))] []))
          refine Go.step (fun t k => XS.aload X_5.here hx rfl (hb hby at_171) rfl rfl k) ?_
          show Go p.tables e below P (T_5.setTop (mkF m 173 #[.val (.int p1), .val (.int p2), .val (.int p3), .val (.int p4), .val (.int i5), .val (.double d11), .second, .val (.double d19), .second, .val (.double d25), .second, .val (.double d33), .second, .val (.double d39), .second, .val (.double d47), .second, .val (.ref b_1), .val (.int (0 : Int32))] [(.ref b_1)]))
          refine Go.step (fun t k => XS.dload X_5.here hx rfl (hb hby at_173) rfl  k) ?_
          show Go p.tables e below P (T_5.setTop (mkF m 175 #[.val (.int p1), .val (.int p2), .val (.int p3), .val (.int p4), .val (.int i5), .val (.double d11), .second, .val (.double d19), .second, .val (.double d25), .second, .val (.double d33), .second, .val (.double d39), .second, .val (.double d47), .second, .val (.ref b_1), .val (.int (0 : Int32))] [(.double d39), (.ref b_1)]))
          refine Go.step (fun t k => XS.dload X_5.here hx rfl (hb hby at_175) rfl  k) ?_
          show Go p.tables e below P (T_5.setTop (mkF m 177 #[.val (.int p1), .val (.int p2), .val (.int p3), .val (.int p4), .val (.int i5), .val (.double d11), .second, .val (.double d19), .second, .val (.double d25), .second, .val (.double d33), .second, .val (.double d39), .second, .val (.double d47), .second, .val (.ref b_1), .val (.int (0 : Int32))] [(.double d47), (.double d39), (.ref b_1)]))
          obtain ⟨cq_7, kq_7, q_7a, q_7b, q_7c⟩ := isOf hZ rfl ((A_1.keep Kc_2).keep Kc_5)
          obtain ⟨_, _, ⟨T_7, L_7, k_7, n_7⟩, -, X_7, ⟨Lc_7, hQ_7, l_7, y_7, z_7⟩, st_7⟩ := X_5.virtualBack hx (y := (⟨"com/example/gleitfahrt/gleitfahrt/engine/Course$Builder", "endsAt", "(DD)Z"⟩ : MethodName)) (z := (⟨"com/example/gleitfahrt/gleitfahrt/engine/Course$Builder", "endsAt", "(DD)Z"⟩ : MethodName)) hown (mvT hZ (hw _ (List.mem_of_getElem? (i := 29) rfl))) (mvT hZ (hw _ (List.mem_of_getElem? (i := 30) rfl))) (notFace_of_selects (args := #[]) (mvT hZ (hw _ (List.mem_of_getElem? (i := 32) rfl)))) (mvT hZ (hw _ (List.mem_of_getElem? (i := 32) rfl))) (mvT hZ (hw _ (List.mem_of_getElem? (i := 31) rfl))) (by decide) (backOf (W := 0) (rm5 l Z a0 hw [] b_1 d39 d47 d11 d25 0 0 x0 x1 k0 k1 (i38.toInt) (i46.toInt) (i10.toInt) (i24.toInt) T_5.heap n0 Z_5 Fx0_0 Fx1_0 Fsz_0 Va0_0 Va1_0 q39 q47 q11 q25) hZ (hw _ (List.mem_of_getElem? (i := 33) rfl)) (hw _ (List.mem_of_getElem? (i := 3) rfl)) (by decide) (by decide)) q_7a q_7c (g := (mkF m 177 #[.val (.int p1), .val (.int p2), .val (.int p3), .val (.int p4), .val (.int i5), .val (.double d11), .second, .val (.double d19), .second, .val (.double d25), .second, .val (.double d33), .second, .val (.double d39), .second, .val (.double d47), .second, .val (.ref b_1), .val (.int (0 : Int32))] [(.double d47), (.double d39), (.ref b_1)])) rfl (by rw [hml]; rfl) (Steps.refl _) (argsL := [(.double d39), (.double d47)]) (rest := []) (lenOf pd_1 rfl) rfl (by show 2 * 0 + _ ≤ _; exact Nat.le_of_eq rfl) (hb hby at_177) (fun _ _ => ⟨rfl, rfl, (by decide : 9 + 0 ≤ _), (by decide : 521 + 0 ≤ _)⟩)
          dsimp only [Pt.U, Pt.locs, Pt.cells, Pt.slots] at X_7 l_7 y_7 z_7 st_7 hQ_7
          subst l_7 y_7 z_7
          obtain ⟨r0, rfl, hr0, N_7q, eh_7⟩ := hQ_7
          have N_7 := Fr.app N_5 N_7q
          refine Go.tr st_7 ?_
          show Go p.tables e below P (T_7.setTop (mkF m 180 #[.val (.int p1), .val (.int p2), .val (.int p3), .val (.int p4), .val (.int i5), .val (.double d11), .second, .val (.double d19), .second, .val (.double d25), .second, .val (.double d33), .second, .val (.double d39), .second, .val (.double d47), .second, .val (.ref b_1), .val (.int (0 : Int32))] [(.int r0)]))
          refine Go.step (fun t k => XS.iload X_7.here hx rfl (hb hby at_180) rfl  k) ?_
          show Go p.tables e below P (T_7.setTop (mkF m 182 #[.val (.int p1), .val (.int p2), .val (.int p3), .val (.int p4), .val (.int i5), .val (.double d11), .second, .val (.double d19), .second, .val (.double d25), .second, .val (.double d33), .second, .val (.double d39), .second, .val (.double d47), .second, .val (.ref b_1), .val (.int (0 : Int32))] [(.int (0 : Int32)), (.int r0)]))
          refine Go.step (fun t k => XS.icmpNo X_7.here hx rfl (hb hby at_182) rfl (icN (cd := .ne) (by omega : ¬ (¬ r0.toInt = (0 : Int)))) k) ?_
          show Go p.tables e below P (T_7.setTop (mkF m 185 #[.val (.int p1), .val (.int p2), .val (.int p3), .val (.int p4), .val (.int i5), .val (.double d11), .second, .val (.double d19), .second, .val (.double d25), .second, .val (.double d33), .second, .val (.double d39), .second, .val (.double d47), .second, .val (.ref b_1), .val (.int (0 : Int32))] []))
          refine Go.step (fun t k => XS.iconst X_7.here hx rfl (hb hby at_185) k) ?_
          show Go p.tables e below P (T_7.setTop (mkF m 186 #[.val (.int p1), .val (.int p2), .val (.int p3), .val (.int p4), .val (.int i5), .val (.double d11), .second, .val (.double d19), .second, .val (.double d25), .second, .val (.double d33), .second, .val (.double d39), .second, .val (.double d47), .second, .val (.ref b_1), .val (.int (0 : Int32))] [(.int (1 : Int32))]))
          refine Go.step (fun t k => XS.goto X_7.here hx rfl (pc0 := 186) (pc' := 190) rfl (hb hby at_186) (by decide) (by decide) k) ?_
          show Go p.tables e below P (T_7.setTop (mkF m 190 #[.val (.int p1), .val (.int p2), .val (.int p3), .val (.int p4), .val (.int i5), .val (.double d11), .second, .val (.double d19), .second, .val (.double d25), .second, .val (.double d33), .second, .val (.double d39), .second, .val (.double d47), .second, .val (.ref b_1), .val (.int (0 : Int32))] [(.int (1 : Int32))]))
          exact retGo X_7 hx hP Bd.returns hlk rfl (Or.inl ⟨rfl, Or.inr (Or.inl rfl), _, rfl⟩) (hb hby at_190) (by decide) (by decide) (by rw [eh_7]; exact ⟨rfl, N_7⟩)
        · refine Go.step (fun t k => XS.ifNo X_5.here hx rfl (hb hby at_135) rfl (dcN (cd := .ne) (DE.cmp q25 q47) hc135) k) ?_
          show Go p.tables e below P (T_5.setTop (mkF m 138 #[.val (.int p1), .val (.int p2), .val (.int p3), .val (.int p4), .val (.int i5), .val (.double d11), .second, .val (.double d19), .second, .val (.double d25), .second, .val (.double d33), .second, .val (.double d39), .second, .val (.double d47), .second, .val (.ref b_1), .unset] []))
          refine Go.step (fun t k => XS.iconst X_5.here hx rfl (hb hby at_138) k) ?_
          show Go p.tables e below P (T_5.setTop (mkF m 139 #[.val (.int p1), .val (.int p2), .val (.int p3), .val (.int p4), .val (.int i5), .val (.double d11), .second, .val (.double d19), .second, .val (.double d25), .second, .val (.double d33), .second, .val (.double d39), .second, .val (.double d47), .second, .val (.ref b_1), .unset] [(.int (1 : Int32))]))
          refine Go.step (fun t k => XS.goto X_5.here hx rfl (pc0 := 139) (pc' := 143) rfl (hb hby at_139) (by decide) (by decide) k) ?_
          show Go p.tables e below P (T_5.setTop (mkF m 143 #[.val (.int p1), .val (.int p2), .val (.int p3), .val (.int p4), .val (.int i5), .val (.double d11), .second, .val (.double d19), .second, .val (.double d25), .second, .val (.double d33), .second, .val (.double d39), .second, .val (.double d47), .second, .val (.ref b_1), .unset] [(.int (1 : Int32))]))
          refine Go.step (fun t k => XS.istore X_5.here hx rfl (hb hby at_143) rfl (l' := #[.val (.int p1), .val (.int p2), .val (.int p3), .val (.int p4), .val (.int i5), .val (.double d11), .second, .val (.double d19), .second, .val (.double d25), .second, .val (.double d33), .second, .val (.double d39), .second, .val (.double d47), .second, .val (.ref b_1), .val (.int (1 : Int32))]) rfl k) ?_
          show Go p.tables e below P (T_5.setTop (mkF m 145 #[.val (.int p1), .val (.int p2), .val (.int p3), .val (.int p4), .val (.int i5), .val (.double d11), .second, .val (.double d19), .second, .val (.double d25), .second, .val (.double d33), .second, .val (.double d39), .second, .val (.double d47), .second, .val (.ref b_1), .val (.int (1 : Int32))] []))
          refine Go.step (fun t k => XS.goto X_5.here hx rfl (pc0 := 145) (pc' := 171) rfl (hb hby at_145) (by decide) (by decide) k) ?_
          show Go p.tables e below P (T_5.setTop (mkF m 171 #[.val (.int p1), .val (.int p2), .val (.int p3), .val (.int p4), .val (.int i5), .val (.double d11), .second, .val (.double d19), .second, .val (.double d25), .second, .val (.double d33), .second, .val (.double d39), .second, .val (.double d47), .second, .val (.ref b_1), .val (.int (1 : Int32))] []))
          refine Go.step (fun t k => XS.aload X_5.here hx rfl (hb hby at_171) rfl rfl k) ?_
          show Go p.tables e below P (T_5.setTop (mkF m 173 #[.val (.int p1), .val (.int p2), .val (.int p3), .val (.int p4), .val (.int i5), .val (.double d11), .second, .val (.double d19), .second, .val (.double d25), .second, .val (.double d33), .second, .val (.double d39), .second, .val (.double d47), .second, .val (.ref b_1), .val (.int (1 : Int32))] [(.ref b_1)]))
          refine Go.step (fun t k => XS.dload X_5.here hx rfl (hb hby at_173) rfl  k) ?_
          show Go p.tables e below P (T_5.setTop (mkF m 175 #[.val (.int p1), .val (.int p2), .val (.int p3), .val (.int p4), .val (.int i5), .val (.double d11), .second, .val (.double d19), .second, .val (.double d25), .second, .val (.double d33), .second, .val (.double d39), .second, .val (.double d47), .second, .val (.ref b_1), .val (.int (1 : Int32))] [(.double d39), (.ref b_1)]))
          refine Go.step (fun t k => XS.dload X_5.here hx rfl (hb hby at_175) rfl  k) ?_
          show Go p.tables e below P (T_5.setTop (mkF m 177 #[.val (.int p1), .val (.int p2), .val (.int p3), .val (.int p4), .val (.int i5), .val (.double d11), .second, .val (.double d19), .second, .val (.double d25), .second, .val (.double d33), .second, .val (.double d39), .second, .val (.double d47), .second, .val (.ref b_1), .val (.int (1 : Int32))] [(.double d47), (.double d39), (.ref b_1)]))
          obtain ⟨cq_8, kq_8, q_8a, q_8b, q_8c⟩ := isOf hZ rfl ((A_1.keep Kc_2).keep Kc_5)
          obtain ⟨_, _, ⟨T_8, L_8, k_8, n_8⟩, -, X_8, ⟨Lc_8, hQ_8, l_8, y_8, z_8⟩, st_8⟩ := X_5.virtualBack hx (y := (⟨"com/example/gleitfahrt/gleitfahrt/engine/Course$Builder", "endsAt", "(DD)Z"⟩ : MethodName)) (z := (⟨"com/example/gleitfahrt/gleitfahrt/engine/Course$Builder", "endsAt", "(DD)Z"⟩ : MethodName)) hown (mvT hZ (hw _ (List.mem_of_getElem? (i := 29) rfl))) (mvT hZ (hw _ (List.mem_of_getElem? (i := 30) rfl))) (notFace_of_selects (args := #[]) (mvT hZ (hw _ (List.mem_of_getElem? (i := 32) rfl)))) (mvT hZ (hw _ (List.mem_of_getElem? (i := 32) rfl))) (mvT hZ (hw _ (List.mem_of_getElem? (i := 31) rfl))) (by decide) (backOf (W := 0) (rm5 l Z a0 hw [] b_1 d39 d47 d11 d25 0 0 x0 x1 k0 k1 (i38.toInt) (i46.toInt) (i10.toInt) (i24.toInt) T_5.heap n0 Z_5 Fx0_0 Fx1_0 Fsz_0 Va0_0 Va1_0 q39 q47 q11 q25) hZ (hw _ (List.mem_of_getElem? (i := 33) rfl)) (hw _ (List.mem_of_getElem? (i := 3) rfl)) (by decide) (by decide)) q_8a q_8c (g := (mkF m 177 #[.val (.int p1), .val (.int p2), .val (.int p3), .val (.int p4), .val (.int i5), .val (.double d11), .second, .val (.double d19), .second, .val (.double d25), .second, .val (.double d33), .second, .val (.double d39), .second, .val (.double d47), .second, .val (.ref b_1), .val (.int (1 : Int32))] [(.double d47), (.double d39), (.ref b_1)])) rfl (by rw [hml]; rfl) (Steps.refl _) (argsL := [(.double d39), (.double d47)]) (rest := []) (lenOf pd_1 rfl) rfl (by show 2 * 0 + _ ≤ _; exact Nat.le_of_eq rfl) (hb hby at_177) (fun _ _ => ⟨rfl, rfl, (by decide : 9 + 0 ≤ _), (by decide : 521 + 0 ≤ _)⟩)
          dsimp only [Pt.U, Pt.locs, Pt.cells, Pt.slots] at X_8 l_8 y_8 z_8 st_8 hQ_8
          subst l_8 y_8 z_8
          obtain ⟨r0, rfl, hr0, N_8q, eh_8⟩ := hQ_8
          have N_8 := Fr.app N_5 N_8q
          refine Go.tr st_8 ?_
          show Go p.tables e below P (T_8.setTop (mkF m 180 #[.val (.int p1), .val (.int p2), .val (.int p3), .val (.int p4), .val (.int i5), .val (.double d11), .second, .val (.double d19), .second, .val (.double d25), .second, .val (.double d33), .second, .val (.double d39), .second, .val (.double d47), .second, .val (.ref b_1), .val (.int (1 : Int32))] [(.int r0)]))
          refine Go.step (fun t k => XS.iload X_8.here hx rfl (hb hby at_180) rfl  k) ?_
          show Go p.tables e below P (T_8.setTop (mkF m 182 #[.val (.int p1), .val (.int p2), .val (.int p3), .val (.int p4), .val (.int i5), .val (.double d11), .second, .val (.double d19), .second, .val (.double d25), .second, .val (.double d33), .second, .val (.double d39), .second, .val (.double d47), .second, .val (.ref b_1), .val (.int (1 : Int32))] [(.int (1 : Int32)), (.int r0)]))
          refine Go.step (fun t k => XS.icmpNo X_8.here hx rfl (hb hby at_182) rfl (icN (cd := .ne) (by omega : ¬ (¬ r0.toInt = (1 : Int)))) k) ?_
          show Go p.tables e below P (T_8.setTop (mkF m 185 #[.val (.int p1), .val (.int p2), .val (.int p3), .val (.int p4), .val (.int i5), .val (.double d11), .second, .val (.double d19), .second, .val (.double d25), .second, .val (.double d33), .second, .val (.double d39), .second, .val (.double d47), .second, .val (.ref b_1), .val (.int (1 : Int32))] []))
          refine Go.step (fun t k => XS.iconst X_8.here hx rfl (hb hby at_185) k) ?_
          show Go p.tables e below P (T_8.setTop (mkF m 186 #[.val (.int p1), .val (.int p2), .val (.int p3), .val (.int p4), .val (.int i5), .val (.double d11), .second, .val (.double d19), .second, .val (.double d25), .second, .val (.double d33), .second, .val (.double d39), .second, .val (.double d47), .second, .val (.ref b_1), .val (.int (1 : Int32))] [(.int (1 : Int32))]))
          refine Go.step (fun t k => XS.goto X_8.here hx rfl (pc0 := 186) (pc' := 190) rfl (hb hby at_186) (by decide) (by decide) k) ?_
          show Go p.tables e below P (T_8.setTop (mkF m 190 #[.val (.int p1), .val (.int p2), .val (.int p3), .val (.int p4), .val (.int i5), .val (.double d11), .second, .val (.double d19), .second, .val (.double d25), .second, .val (.double d33), .second, .val (.double d39), .second, .val (.double d47), .second, .val (.ref b_1), .val (.int (1 : Int32))] [(.int (1 : Int32))]))
          exact retGo X_8 hx hP Bd.returns hlk rfl (Or.inl ⟨rfl, Or.inr (Or.inl rfl), _, rfl⟩) (hb hby at_190) (by decide) (by decide) (by rw [eh_8]; exact ⟨rfl, N_8⟩)
    · refine Go.step (fun t k => XS.icmpNo X_5.here hx rfl (hb hby at_85) rfl (icN (cd := .lt) hc85) k) ?_
      show Go p.tables e below P (T_5.setTop (mkF m 88 #[.val (.int p1), .val (.int p2), .val (.int p3), .val (.int p4), .val (.int i5), .val (.double d11), .second, .val (.double d19), .second, .val (.double d25), .second, .val (.double d33), .second, .val (.double d39), .second, .val (.double d47), .second, .val (.ref b_1), .unset] []))
      refine Go.step (fun t k => XS.aload X_5.here hx rfl (hb hby at_88) rfl rfl k) ?_
      show Go p.tables e below P (T_5.setTop (mkF m 90 #[.val (.int p1), .val (.int p2), .val (.int p3), .val (.int p4), .val (.int i5), .val (.double d11), .second, .val (.double d19), .second, .val (.double d25), .second, .val (.double d33), .second, .val (.double d39), .second, .val (.double d47), .second, .val (.ref b_1), .unset] [(.ref b_1)]))
      refine Go.step (fun t k => XS.dload X_5.here hx rfl (hb hby at_90) rfl  k) ?_
      show Go p.tables e below P (T_5.setTop (mkF m 92 #[.val (.int p1), .val (.int p2), .val (.int p3), .val (.int p4), .val (.int i5), .val (.double d11), .second, .val (.double d19), .second, .val (.double d25), .second, .val (.double d33), .second, .val (.double d39), .second, .val (.double d47), .second, .val (.ref b_1), .unset] [(.double d19), (.ref b_1)]))
      refine Go.step (fun t k => XS.dload X_5.here hx rfl (hb hby at_92) rfl  k) ?_
      show Go p.tables e below P (T_5.setTop (mkF m 94 #[.val (.int p1), .val (.int p2), .val (.int p3), .val (.int p4), .val (.int i5), .val (.double d11), .second, .val (.double d19), .second, .val (.double d25), .second, .val (.double d33), .second, .val (.double d39), .second, .val (.double d47), .second, .val (.ref b_1), .unset] [(.double d33), (.double d19), (.ref b_1)]))
      refine Go.step (fun t k => XS.dconst0 X_5.here hx rfl (hb hby at_94) rfl k) ?_
      show Go p.tables e below P (T_5.setTop (mkF m 95 #[.val (.int p1), .val (.int p2), .val (.int p3), .val (.int p4), .val (.int i5), .val (.double d11), .second, .val (.double d19), .second, .val (.double d25), .second, .val (.double d33), .second, .val (.double d39), .second, .val (.double d47), .second, .val (.ref b_1), .unset] [(.double FP.dconst0), (.double d33), (.double d19), (.ref b_1)]))
      refine Go.step (fun t k => XS.dconst0 X_5.here hx rfl (hb hby at_95) rfl k) ?_
      show Go p.tables e below P (T_5.setTop (mkF m 96 #[.val (.int p1), .val (.int p2), .val (.int p3), .val (.int p4), .val (.int i5), .val (.double d11), .second, .val (.double d19), .second, .val (.double d25), .second, .val (.double d33), .second, .val (.double d39), .second, .val (.double d47), .second, .val (.ref b_1), .unset] [(.double FP.dconst0), (.double FP.dconst0), (.double d33), (.double d19), (.ref b_1)]))
      refine Go.step (fun t k => XS.dconst0 X_5.here hx rfl (hb hby at_96) rfl k) ?_
      show Go p.tables e below P (T_5.setTop (mkF m 97 #[.val (.int p1), .val (.int p2), .val (.int p3), .val (.int p4), .val (.int i5), .val (.double d11), .second, .val (.double d19), .second, .val (.double d25), .second, .val (.double d33), .second, .val (.double d39), .second, .val (.double d47), .second, .val (.ref b_1), .unset] [(.double FP.dconst0), (.double FP.dconst0), (.double FP.dconst0), (.double d33), (.double d19), (.ref b_1)]))
      obtain ⟨T_9, X_9, e_9, st_9⟩ := getS2 X_5 hx hZ hown (host := "") (Or.inl (hw _ (List.mem_of_getElem? (i := 45) rfl))) Via.refl rfl (Sta_keep0 S_co K_5) (g := (mkF m 97 #[.val (.int p1), .val (.int p2), .val (.int p3), .val (.int p4), .val (.int i5), .val (.double d11), .second, .val (.double d19), .second, .val (.double d25), .second, .val (.double d33), .second, .val (.double d39), .second, .val (.double d47), .second, .val (.ref b_1), .unset] [(.double FP.dconst0), (.double FP.dconst0), (.double FP.dconst0), (.double d33), (.double d19), (.ref b_1)])) rfl (hb hby at_97)
      refine Go.step (fun t k => st_9 t k) ?_
      show Go p.tables e below P (T_9.setTop (mkF m 100 #[.val (.int p1), .val (.int p2), .val (.int p3), .val (.int p4), .val (.int i5), .val (.double d11), .second, .val (.double d19), .second, .val (.double d25), .second, .val (.double d33), .second, .val (.double d39), .second, .val (.double d47), .second, .val (.ref b_1), .unset] [(.ref co), (.double FP.dconst0), (.double FP.dconst0), (.double FP.dconst0), (.double d33), (.double d19), (.ref b_1)]))
      refine Go.step (fun t k => XS.dconst0 X_9.here hx rfl (hb hby at_100) rfl k) ?_
      show Go p.tables e below P (T_9.setTop (mkF m 101 #[.val (.int p1), .val (.int p2), .val (.int p3), .val (.int p4), .val (.int i5), .val (.double d11), .second, .val (.double d19), .second, .val (.double d25), .second, .val (.double d33), .second, .val (.double d39), .second, .val (.double d47), .second, .val (.ref b_1), .unset] [(.double FP.dconst0), (.ref co), (.double FP.dconst0), (.double FP.dconst0), (.double FP.dconst0), (.double d33), (.double d19), (.ref b_1)]))
      refine Go.step (fun t k => XS.dconst0 X_9.here hx rfl (hb hby at_101) rfl k) ?_
      show Go p.tables e below P (T_9.setTop (mkF m 102 #[.val (.int p1), .val (.int p2), .val (.int p3), .val (.int p4), .val (.int i5), .val (.double d11), .second, .val (.double d19), .second, .val (.double d25), .second, .val (.double d33), .second, .val (.double d39), .second, .val (.double d47), .second, .val (.ref b_1), .unset] [(.double FP.dconst0), (.double FP.dconst0), (.ref co), (.double FP.dconst0), (.double FP.dconst0), (.double FP.dconst0), (.double d33), (.double d19), (.ref b_1)]))
      obtain ⟨cq_10, kq_10, q_10a, q_10b, q_10c⟩ := isOf hZ e_9 ((A_1.keep Kc_2).keep Kc_5)
      obtain ⟨_, _, ⟨T_10, L_10, k_10, n_10⟩, -, X_10, ⟨Lc_10, hQ_10, l_10, y_10, z_10⟩, st_10⟩ := X_9.virtualBack hx (y := (⟨"com/example/gleitfahrt/gleitfahrt/engine/Course$Builder", "add", "(DDDDDLcom/example/gleitfahrt/gleitfahrt/engine/Regime;DD)V"⟩ : MethodName)) (z := (⟨"com/example/gleitfahrt/gleitfahrt/engine/Course$Builder", "add", "(DDDDDLcom/example/gleitfahrt/gleitfahrt/engine/Regime;DD)V"⟩ : MethodName)) hown (mvT hZ (hw _ (List.mem_of_getElem? (i := 39) rfl))) (mvT hZ (hw _ (List.mem_of_getElem? (i := 40) rfl))) (notFace_of_selects (args := #[]) (mvT hZ (hw _ (List.mem_of_getElem? (i := 42) rfl)))) (mvT hZ (hw _ (List.mem_of_getElem? (i := 42) rfl))) (mvT hZ (hw _ (List.mem_of_getElem? (i := 41) rfl))) (by decide) (backOf (W := 0) (rm3 l Z a0 hw [] b_1 d19 d33 FP.dconst0 FP.dconst0 FP.dconst0 co FP.dconst0 FP.dconst0 x0 x1 x2 x3 x4 x5 x6 x7 k0 k1 k2 k3 k4 k5 k6 k7 d11 d25 FP.dconst0 FP.dconst0 FP.dconst0 pw FP.dconst0 FP.dconst0 T_5.heap n0 Z_5 ((A_1.keep Kc_2).keep Kc_5) (E_co.keep K_5) g_b_1 hch Ov Fx0_0 Fx1_0 Fx2_0 Fx3_0 Fx4_0 Fx5_0 Fx6_0 Fx7_0 Fsz_0 Va0_0 Va1_0 Va2_0 Va3_0 Va4_0 Va5_0 Va6_0 Va7_0) hZ (hw _ (List.mem_of_getElem? (i := 43) rfl)) (hw _ (List.mem_of_getElem? (i := 3) rfl)) (by decide) (by decide)) q_10a q_10c (g := (mkF m 102 #[.val (.int p1), .val (.int p2), .val (.int p3), .val (.int p4), .val (.int i5), .val (.double d11), .second, .val (.double d19), .second, .val (.double d25), .second, .val (.double d33), .second, .val (.double d39), .second, .val (.double d47), .second, .val (.ref b_1), .unset] [(.double FP.dconst0), (.double FP.dconst0), (.ref co), (.double FP.dconst0), (.double FP.dconst0), (.double FP.dconst0), (.double d33), (.double d19), (.ref b_1)])) rfl (by rw [hml]; rfl) (Steps.refl _) (argsL := [(.double d19), (.double d33), (.double FP.dconst0), (.double FP.dconst0), (.double FP.dconst0), (.ref co), (.double FP.dconst0), (.double FP.dconst0)]) (rest := []) (lenOf pd_2 rfl) rfl (by show 2 * 0 + _ ≤ _; exact Nat.le_of_eq rfl) (hb hby at_102) (fun _ _ => ⟨rfl, e_9, (by decide : 9 + 0 ≤ _), (by decide : 521 + 0 ≤ _)⟩)
      dsimp only [Pt.U, Pt.locs, Pt.cells, Pt.slots] at X_10 l_10 y_10 z_10 st_10 hQ_10
      subst l_10 y_10 z_10
      obtain ⟨rfl, N_10q, Kc_10, Ee_10, Fx0_1, Fx1_1, Fx2_1, Fx3_1, Fx4_1, Fx5_1, Fx6_1, Fx7_1, Fsz_1, Va0_1, Va1_1, Va2_1, Va3_1, Va4_1, Va5_1, Va6_1, Va7_1⟩ := hQ_10
      have N_10 := Fr.app N_5 N_10q
      have K_10 : Keep h0 T_10.heap [] := K_5.trans Kc_10 (allS (Or.inr sz_b_1) (allS (Or.inr sz_x0) (allS (Or.inr sz_x1) (allS (Or.inr sz_x2) (allS (Or.inr sz_x3) (allS (Or.inr sz_x4) (allS (Or.inr sz_x5) (allS (Or.inr sz_x6) (allS (Or.inr sz_x7) all0)))))))))
      have Z_10 : n0 ≤ T_10.heap.size := Nat.le_trans Z_5 Kc_10.1
      refine Go.tr st_10 ?_
      show Go p.tables e below P (T_10.setTop (mkF m 105 #[.val (.int p1), .val (.int p2), .val (.int p3), .val (.int p4), .val (.int i5), .val (.double d11), .second, .val (.double d19), .second, .val (.double d25), .second, .val (.double d33), .second, .val (.double d39), .second, .val (.double d47), .second, .val (.ref b_1), .unset] []))
      refine Go.step (fun t k => XS.iload X_10.here hx rfl (hb hby at_105) rfl  k) ?_
      show Go p.tables e below P (T_10.setTop (mkF m 107 #[.val (.int p1), .val (.int p2), .val (.int p3), .val (.int p4), .val (.int i5), .val (.double d11), .second, .val (.double d19), .second, .val (.double d25), .second, .val (.double d33), .second, .val (.double d39), .second, .val (.double d47), .second, .val (.ref b_1), .unset] [(.int i5)]))
      refine Go.step (fun t k => XS.ifYes X_10.here hx rfl (pc0 := 107) (pc' := 116) rfl (hb hby at_107) rfl (ifY (cd := .ne) (by omega : ¬ i5.toInt = 0)) (by decide) (by decide) k) ?_
      show Go p.tables e below P (T_10.setTop (mkF m 116 #[.val (.int p1), .val (.int p2), .val (.int p3), .val (.int p4), .val (.int i5), .val (.double d11), .second, .val (.double d19), .second, .val (.double d25), .second, .val (.double d33), .second, .val (.double d39), .second, .val (.double d47), .second, .val (.ref b_1), .unset] []))
      refine Go.step (fun t k => XS.iload X_10.here hx rfl (hb hby at_116) rfl  k) ?_
      show Go p.tables e below P (T_10.setTop (mkF m 118 #[.val (.int p1), .val (.int p2), .val (.int p3), .val (.int p4), .val (.int i5), .val (.double d11), .second, .val (.double d19), .second, .val (.double d25), .second, .val (.double d33), .second, .val (.double d39), .second, .val (.double d47), .second, .val (.ref b_1), .unset] [(.int i5)]))
      refine Go.step (fun t k => XS.iconst X_10.here hx rfl (hb hby at_118) k) ?_
      show Go p.tables e below P (T_10.setTop (mkF m 119 #[.val (.int p1), .val (.int p2), .val (.int p3), .val (.int p4), .val (.int i5), .val (.double d11), .second, .val (.double d19), .second, .val (.double d25), .second, .val (.double d33), .second, .val (.double d39), .second, .val (.double d47), .second, .val (.ref b_1), .unset] [(.int (1 : Int32)), (.int i5)]))
      refine Go.step (fun t k => XS.icmpYes X_10.here hx rfl (pc0 := 119) (pc' := 148) rfl (hb hby at_119) rfl (icY (cd := .ne) (by omega : ¬ i5.toInt = (1 : Int))) (by decide) (by decide) k) ?_
      show Go p.tables e below P (T_10.setTop (mkF m 148 #[.val (.int p1), .val (.int p2), .val (.int p3), .val (.int p4), .val (.int i5), .val (.double d11), .second, .val (.double d19), .second, .val (.double d25), .second, .val (.double d33), .second, .val (.double d39), .second, .val (.double d47), .second, .val (.ref b_1), .unset] []))
      refine Go.step (fun t k => XS.dload X_10.here hx rfl (hb hby at_148) rfl  k) ?_
      show Go p.tables e below P (T_10.setTop (mkF m 150 #[.val (.int p1), .val (.int p2), .val (.int p3), .val (.int p4), .val (.int i5), .val (.double d11), .second, .val (.double d19), .second, .val (.double d25), .second, .val (.double d33), .second, .val (.double d39), .second, .val (.double d47), .second, .val (.ref b_1), .unset] [(.double d19)]))
      refine Go.step (fun t k => XS.dload X_10.here hx rfl (hb hby at_150) rfl  k) ?_
      show Go p.tables e below P (T_10.setTop (mkF m 152 #[.val (.int p1), .val (.int p2), .val (.int p3), .val (.int p4), .val (.int i5), .val (.double d11), .second, .val (.double d19), .second, .val (.double d25), .second, .val (.double d33), .second, .val (.double d39), .second, .val (.double d47), .second, .val (.ref b_1), .unset] [(.double d39), (.double d19)]))
      refine Go.step (fun t k => XS.dcmpS X_10.here hx rfl (hb hby at_152) rfl rfl k) ?_
      show Go p.tables e below P (T_10.setTop (mkF m 153 #[.val (.int p1), .val (.int p2), .val (.int p3), .val (.int p4), .val (.int i5), .val (.double d11), .second, .val (.double d19), .second, .val (.double d25), .second, .val (.double d33), .second, .val (.double d39), .second, .val (.double d47), .second, .val (.ref b_1), .unset] [(.int (cmpValue (FP.dcmp d19 d39) .l))]))
      by_cases hc153 : ¬ i18.toInt = i38.toInt
      · refine Go.step (fun t k => XS.ifYes X_10.here hx rfl (pc0 := 153) (pc' := 168) rfl (hb hby at_153) rfl (dcY (cd := .ne) (DE.cmp q19 q39) hc153) (by decide) (by decide) k) ?_
        show Go p.tables e below P (T_10.setTop (mkF m 168 #[.val (.int p1), .val (.int p2), .val (.int p3), .val (.int p4), .val (.int i5), .val (.double d11), .second, .val (.double d19), .second, .val (.double d25), .second, .val (.double d33), .second, .val (.double d39), .second, .val (.double d47), .second, .val (.ref b_1), .unset] []))
        refine Go.step (fun t k => XS.iconst X_10.here hx rfl (hb hby at_168) k) ?_
        show Go p.tables e below P (T_10.setTop (mkF m 169 #[.val (.int p1), .val (.int p2), .val (.int p3), .val (.int p4), .val (.int i5), .val (.double d11), .second, .val (.double d19), .second, .val (.double d25), .second, .val (.double d33), .second, .val (.double d39), .second, .val (.double d47), .second, .val (.ref b_1), .unset] [(.int (0 : Int32))]))
        refine Go.step (fun t k => XS.istore X_10.here hx rfl (hb hby at_169) rfl (l' := #[.val (.int p1), .val (.int p2), .val (.int p3), .val (.int p4), .val (.int i5), .val (.double d11), .second, .val (.double d19), .second, .val (.double d25), .second, .val (.double d33), .second, .val (.double d39), .second, .val (.double d47), .second, .val (.ref b_1), .val (.int (0 : Int32))]) rfl k) ?_
        show Go p.tables e below P (T_10.setTop (mkF m 171 #[.val (.int p1), .val (.int p2), .val (.int p3), .val (.int p4), .val (.int i5), .val (.double d11), .second, .val (.double d19), .second, .val (.double d25), .second, .val (.double d33), .second, .val (.double d39), .second, .val (.double d47), .second, .val (.ref b_1), .val (.int (0 : Int32))] []))
        refine Go.step (fun t k => XS.aload X_10.here hx rfl (hb hby at_171) rfl rfl k) ?_
        show Go p.tables e below P (T_10.setTop (mkF m 173 #[.val (.int p1), .val (.int p2), .val (.int p3), .val (.int p4), .val (.int i5), .val (.double d11), .second, .val (.double d19), .second, .val (.double d25), .second, .val (.double d33), .second, .val (.double d39), .second, .val (.double d47), .second, .val (.ref b_1), .val (.int (0 : Int32))] [(.ref b_1)]))
        refine Go.step (fun t k => XS.dload X_10.here hx rfl (hb hby at_173) rfl  k) ?_
        show Go p.tables e below P (T_10.setTop (mkF m 175 #[.val (.int p1), .val (.int p2), .val (.int p3), .val (.int p4), .val (.int i5), .val (.double d11), .second, .val (.double d19), .second, .val (.double d25), .second, .val (.double d33), .second, .val (.double d39), .second, .val (.double d47), .second, .val (.ref b_1), .val (.int (0 : Int32))] [(.double d39), (.ref b_1)]))
        refine Go.step (fun t k => XS.dload X_10.here hx rfl (hb hby at_175) rfl  k) ?_
        show Go p.tables e below P (T_10.setTop (mkF m 177 #[.val (.int p1), .val (.int p2), .val (.int p3), .val (.int p4), .val (.int i5), .val (.double d11), .second, .val (.double d19), .second, .val (.double d25), .second, .val (.double d33), .second, .val (.double d39), .second, .val (.double d47), .second, .val (.ref b_1), .val (.int (0 : Int32))] [(.double d47), (.double d39), (.ref b_1)]))
        obtain ⟨cq_11, kq_11, q_11a, q_11b, q_11c⟩ := isOf hZ rfl (((A_1.keep Kc_2).keep Kc_5).keep Kc_10)
        obtain ⟨_, _, ⟨T_11, L_11, k_11, n_11⟩, -, X_11, ⟨Lc_11, hQ_11, l_11, y_11, z_11⟩, st_11⟩ := X_10.virtualBack hx (y := (⟨"com/example/gleitfahrt/gleitfahrt/engine/Course$Builder", "endsAt", "(DD)Z"⟩ : MethodName)) (z := (⟨"com/example/gleitfahrt/gleitfahrt/engine/Course$Builder", "endsAt", "(DD)Z"⟩ : MethodName)) hown (mvT hZ (hw _ (List.mem_of_getElem? (i := 29) rfl))) (mvT hZ (hw _ (List.mem_of_getElem? (i := 30) rfl))) (notFace_of_selects (args := #[]) (mvT hZ (hw _ (List.mem_of_getElem? (i := 32) rfl)))) (mvT hZ (hw _ (List.mem_of_getElem? (i := 32) rfl))) (mvT hZ (hw _ (List.mem_of_getElem? (i := 31) rfl))) (by decide) (backOf (W := 0) (rm6 l Z a0 hw [] b_1 d39 d47 d19 d33 d11 d25 x0 x1 k0 k1 (i38.toInt) (i46.toInt) (i18.toInt) (i32.toInt) T_10.heap n0 Z_10 Fx0_1 Fx1_1 Fsz_1 Va0_1 Va1_1 q39 q47 q19 q33) hZ (hw _ (List.mem_of_getElem? (i := 33) rfl)) (hw _ (List.mem_of_getElem? (i := 3) rfl)) (by decide) (by decide)) q_11a q_11c (g := (mkF m 177 #[.val (.int p1), .val (.int p2), .val (.int p3), .val (.int p4), .val (.int i5), .val (.double d11), .second, .val (.double d19), .second, .val (.double d25), .second, .val (.double d33), .second, .val (.double d39), .second, .val (.double d47), .second, .val (.ref b_1), .val (.int (0 : Int32))] [(.double d47), (.double d39), (.ref b_1)])) rfl (by rw [hml]; rfl) (Steps.refl _) (argsL := [(.double d39), (.double d47)]) (rest := []) (lenOf pd_1 rfl) rfl (by show 2 * 0 + _ ≤ _; exact Nat.le_of_eq rfl) (hb hby at_177) (fun _ _ => ⟨rfl, rfl, (by decide : 9 + 0 ≤ _), (by decide : 521 + 0 ≤ _)⟩)
        dsimp only [Pt.U, Pt.locs, Pt.cells, Pt.slots] at X_11 l_11 y_11 z_11 st_11 hQ_11
        subst l_11 y_11 z_11
        obtain ⟨r0, rfl, hr0, N_11q, eh_11⟩ := hQ_11
        have N_11 := Fr.app N_10 N_11q
        refine Go.tr st_11 ?_
        show Go p.tables e below P (T_11.setTop (mkF m 180 #[.val (.int p1), .val (.int p2), .val (.int p3), .val (.int p4), .val (.int i5), .val (.double d11), .second, .val (.double d19), .second, .val (.double d25), .second, .val (.double d33), .second, .val (.double d39), .second, .val (.double d47), .second, .val (.ref b_1), .val (.int (0 : Int32))] [(.int r0)]))
        refine Go.step (fun t k => XS.iload X_11.here hx rfl (hb hby at_180) rfl  k) ?_
        show Go p.tables e below P (T_11.setTop (mkF m 182 #[.val (.int p1), .val (.int p2), .val (.int p3), .val (.int p4), .val (.int i5), .val (.double d11), .second, .val (.double d19), .second, .val (.double d25), .second, .val (.double d33), .second, .val (.double d39), .second, .val (.double d47), .second, .val (.ref b_1), .val (.int (0 : Int32))] [(.int (0 : Int32)), (.int r0)]))
        refine Go.step (fun t k => XS.icmpNo X_11.here hx rfl (hb hby at_182) rfl (icN (cd := .ne) (by omega : ¬ (¬ r0.toInt = (0 : Int)))) k) ?_
        show Go p.tables e below P (T_11.setTop (mkF m 185 #[.val (.int p1), .val (.int p2), .val (.int p3), .val (.int p4), .val (.int i5), .val (.double d11), .second, .val (.double d19), .second, .val (.double d25), .second, .val (.double d33), .second, .val (.double d39), .second, .val (.double d47), .second, .val (.ref b_1), .val (.int (0 : Int32))] []))
        refine Go.step (fun t k => XS.iconst X_11.here hx rfl (hb hby at_185) k) ?_
        show Go p.tables e below P (T_11.setTop (mkF m 186 #[.val (.int p1), .val (.int p2), .val (.int p3), .val (.int p4), .val (.int i5), .val (.double d11), .second, .val (.double d19), .second, .val (.double d25), .second, .val (.double d33), .second, .val (.double d39), .second, .val (.double d47), .second, .val (.ref b_1), .val (.int (0 : Int32))] [(.int (1 : Int32))]))
        refine Go.step (fun t k => XS.goto X_11.here hx rfl (pc0 := 186) (pc' := 190) rfl (hb hby at_186) (by decide) (by decide) k) ?_
        show Go p.tables e below P (T_11.setTop (mkF m 190 #[.val (.int p1), .val (.int p2), .val (.int p3), .val (.int p4), .val (.int i5), .val (.double d11), .second, .val (.double d19), .second, .val (.double d25), .second, .val (.double d33), .second, .val (.double d39), .second, .val (.double d47), .second, .val (.ref b_1), .val (.int (0 : Int32))] [(.int (1 : Int32))]))
        exact retGo X_11 hx hP Bd.returns hlk rfl (Or.inl ⟨rfl, Or.inr (Or.inl rfl), _, rfl⟩) (hb hby at_190) (by decide) (by decide) (by rw [eh_11]; exact ⟨rfl, N_11⟩)
      · refine Go.step (fun t k => XS.ifNo X_10.here hx rfl (hb hby at_153) rfl (dcN (cd := .ne) (DE.cmp q19 q39) hc153) k) ?_
        show Go p.tables e below P (T_10.setTop (mkF m 156 #[.val (.int p1), .val (.int p2), .val (.int p3), .val (.int p4), .val (.int i5), .val (.double d11), .second, .val (.double d19), .second, .val (.double d25), .second, .val (.double d33), .second, .val (.double d39), .second, .val (.double d47), .second, .val (.ref b_1), .unset] []))
        refine Go.step (fun t k => XS.dload X_10.here hx rfl (hb hby at_156) rfl  k) ?_
        show Go p.tables e below P (T_10.setTop (mkF m 158 #[.val (.int p1), .val (.int p2), .val (.int p3), .val (.int p4), .val (.int i5), .val (.double d11), .second, .val (.double d19), .second, .val (.double d25), .second, .val (.double d33), .second, .val (.double d39), .second, .val (.double d47), .second, .val (.ref b_1), .unset] [(.double d33)]))
        refine Go.step (fun t k => XS.dload X_10.here hx rfl (hb hby at_158) rfl  k) ?_
        show Go p.tables e below P (T_10.setTop (mkF m 160 #[.val (.int p1), .val (.int p2), .val (.int p3), .val (.int p4), .val (.int i5), .val (.double d11), .second, .val (.double d19), .second, .val (.double d25), .second, .val (.double d33), .second, .val (.double d39), .second, .val (.double d47), .second, .val (.ref b_1), .unset] [(.double d47), (.double d33)]))
        refine Go.step (fun t k => XS.dcmpS X_10.here hx rfl (hb hby at_160) rfl rfl k) ?_
        show Go p.tables e below P (T_10.setTop (mkF m 161 #[.val (.int p1), .val (.int p2), .val (.int p3), .val (.int p4), .val (.int i5), .val (.double d11), .second, .val (.double d19), .second, .val (.double d25), .second, .val (.double d33), .second, .val (.double d39), .second, .val (.double d47), .second, .val (.ref b_1), .unset] [(.int (cmpValue (FP.dcmp d33 d47) .l))]))
        by_cases hc161 : ¬ i32.toInt = i46.toInt
        · refine Go.step (fun t k => XS.ifYes X_10.here hx rfl (pc0 := 161) (pc' := 168) rfl (hb hby at_161) rfl (dcY (cd := .ne) (DE.cmp q33 q47) hc161) (by decide) (by decide) k) ?_
          show Go p.tables e below P (T_10.setTop (mkF m 168 #[.val (.int p1), .val (.int p2), .val (.int p3), .val (.int p4), .val (.int i5), .val (.double d11), .second, .val (.double d19), .second, .val (.double d25), .second, .val (.double d33), .second, .val (.double d39), .second, .val (.double d47), .second, .val (.ref b_1), .unset] []))
          refine Go.step (fun t k => XS.iconst X_10.here hx rfl (hb hby at_168) k) ?_
          show Go p.tables e below P (T_10.setTop (mkF m 169 #[.val (.int p1), .val (.int p2), .val (.int p3), .val (.int p4), .val (.int i5), .val (.double d11), .second, .val (.double d19), .second, .val (.double d25), .second, .val (.double d33), .second, .val (.double d39), .second, .val (.double d47), .second, .val (.ref b_1), .unset] [(.int (0 : Int32))]))
          refine Go.step (fun t k => XS.istore X_10.here hx rfl (hb hby at_169) rfl (l' := #[.val (.int p1), .val (.int p2), .val (.int p3), .val (.int p4), .val (.int i5), .val (.double d11), .second, .val (.double d19), .second, .val (.double d25), .second, .val (.double d33), .second, .val (.double d39), .second, .val (.double d47), .second, .val (.ref b_1), .val (.int (0 : Int32))]) rfl k) ?_
          show Go p.tables e below P (T_10.setTop (mkF m 171 #[.val (.int p1), .val (.int p2), .val (.int p3), .val (.int p4), .val (.int i5), .val (.double d11), .second, .val (.double d19), .second, .val (.double d25), .second, .val (.double d33), .second, .val (.double d39), .second, .val (.double d47), .second, .val (.ref b_1), .val (.int (0 : Int32))] []))
          refine Go.step (fun t k => XS.aload X_10.here hx rfl (hb hby at_171) rfl rfl k) ?_
          show Go p.tables e below P (T_10.setTop (mkF m 173 #[.val (.int p1), .val (.int p2), .val (.int p3), .val (.int p4), .val (.int i5), .val (.double d11), .second, .val (.double d19), .second, .val (.double d25), .second, .val (.double d33), .second, .val (.double d39), .second, .val (.double d47), .second, .val (.ref b_1), .val (.int (0 : Int32))] [(.ref b_1)]))
          refine Go.step (fun t k => XS.dload X_10.here hx rfl (hb hby at_173) rfl  k) ?_
          show Go p.tables e below P (T_10.setTop (mkF m 175 #[.val (.int p1), .val (.int p2), .val (.int p3), .val (.int p4), .val (.int i5), .val (.double d11), .second, .val (.double d19), .second, .val (.double d25), .second, .val (.double d33), .second, .val (.double d39), .second, .val (.double d47), .second, .val (.ref b_1), .val (.int (0 : Int32))] [(.double d39), (.ref b_1)]))
          refine Go.step (fun t k => XS.dload X_10.here hx rfl (hb hby at_175) rfl  k) ?_
          show Go p.tables e below P (T_10.setTop (mkF m 177 #[.val (.int p1), .val (.int p2), .val (.int p3), .val (.int p4), .val (.int i5), .val (.double d11), .second, .val (.double d19), .second, .val (.double d25), .second, .val (.double d33), .second, .val (.double d39), .second, .val (.double d47), .second, .val (.ref b_1), .val (.int (0 : Int32))] [(.double d47), (.double d39), (.ref b_1)]))
          obtain ⟨cq_12, kq_12, q_12a, q_12b, q_12c⟩ := isOf hZ rfl (((A_1.keep Kc_2).keep Kc_5).keep Kc_10)
          obtain ⟨_, _, ⟨T_12, L_12, k_12, n_12⟩, -, X_12, ⟨Lc_12, hQ_12, l_12, y_12, z_12⟩, st_12⟩ := X_10.virtualBack hx (y := (⟨"com/example/gleitfahrt/gleitfahrt/engine/Course$Builder", "endsAt", "(DD)Z"⟩ : MethodName)) (z := (⟨"com/example/gleitfahrt/gleitfahrt/engine/Course$Builder", "endsAt", "(DD)Z"⟩ : MethodName)) hown (mvT hZ (hw _ (List.mem_of_getElem? (i := 29) rfl))) (mvT hZ (hw _ (List.mem_of_getElem? (i := 30) rfl))) (notFace_of_selects (args := #[]) (mvT hZ (hw _ (List.mem_of_getElem? (i := 32) rfl)))) (mvT hZ (hw _ (List.mem_of_getElem? (i := 32) rfl))) (mvT hZ (hw _ (List.mem_of_getElem? (i := 31) rfl))) (by decide) (backOf (W := 0) (rm6 l Z a0 hw [] b_1 d39 d47 d19 d33 d11 d25 x0 x1 k0 k1 (i38.toInt) (i46.toInt) (i18.toInt) (i32.toInt) T_10.heap n0 Z_10 Fx0_1 Fx1_1 Fsz_1 Va0_1 Va1_1 q39 q47 q19 q33) hZ (hw _ (List.mem_of_getElem? (i := 33) rfl)) (hw _ (List.mem_of_getElem? (i := 3) rfl)) (by decide) (by decide)) q_12a q_12c (g := (mkF m 177 #[.val (.int p1), .val (.int p2), .val (.int p3), .val (.int p4), .val (.int i5), .val (.double d11), .second, .val (.double d19), .second, .val (.double d25), .second, .val (.double d33), .second, .val (.double d39), .second, .val (.double d47), .second, .val (.ref b_1), .val (.int (0 : Int32))] [(.double d47), (.double d39), (.ref b_1)])) rfl (by rw [hml]; rfl) (Steps.refl _) (argsL := [(.double d39), (.double d47)]) (rest := []) (lenOf pd_1 rfl) rfl (by show 2 * 0 + _ ≤ _; exact Nat.le_of_eq rfl) (hb hby at_177) (fun _ _ => ⟨rfl, rfl, (by decide : 9 + 0 ≤ _), (by decide : 521 + 0 ≤ _)⟩)
          dsimp only [Pt.U, Pt.locs, Pt.cells, Pt.slots] at X_12 l_12 y_12 z_12 st_12 hQ_12
          subst l_12 y_12 z_12
          obtain ⟨r0, rfl, hr0, N_12q, eh_12⟩ := hQ_12
          have N_12 := Fr.app N_10 N_12q
          refine Go.tr st_12 ?_
          show Go p.tables e below P (T_12.setTop (mkF m 180 #[.val (.int p1), .val (.int p2), .val (.int p3), .val (.int p4), .val (.int i5), .val (.double d11), .second, .val (.double d19), .second, .val (.double d25), .second, .val (.double d33), .second, .val (.double d39), .second, .val (.double d47), .second, .val (.ref b_1), .val (.int (0 : Int32))] [(.int r0)]))
          refine Go.step (fun t k => XS.iload X_12.here hx rfl (hb hby at_180) rfl  k) ?_
          show Go p.tables e below P (T_12.setTop (mkF m 182 #[.val (.int p1), .val (.int p2), .val (.int p3), .val (.int p4), .val (.int i5), .val (.double d11), .second, .val (.double d19), .second, .val (.double d25), .second, .val (.double d33), .second, .val (.double d39), .second, .val (.double d47), .second, .val (.ref b_1), .val (.int (0 : Int32))] [(.int (0 : Int32)), (.int r0)]))
          refine Go.step (fun t k => XS.icmpNo X_12.here hx rfl (hb hby at_182) rfl (icN (cd := .ne) (by omega : ¬ (¬ r0.toInt = (0 : Int)))) k) ?_
          show Go p.tables e below P (T_12.setTop (mkF m 185 #[.val (.int p1), .val (.int p2), .val (.int p3), .val (.int p4), .val (.int i5), .val (.double d11), .second, .val (.double d19), .second, .val (.double d25), .second, .val (.double d33), .second, .val (.double d39), .second, .val (.double d47), .second, .val (.ref b_1), .val (.int (0 : Int32))] []))
          refine Go.step (fun t k => XS.iconst X_12.here hx rfl (hb hby at_185) k) ?_
          show Go p.tables e below P (T_12.setTop (mkF m 186 #[.val (.int p1), .val (.int p2), .val (.int p3), .val (.int p4), .val (.int i5), .val (.double d11), .second, .val (.double d19), .second, .val (.double d25), .second, .val (.double d33), .second, .val (.double d39), .second, .val (.double d47), .second, .val (.ref b_1), .val (.int (0 : Int32))] [(.int (1 : Int32))]))
          refine Go.step (fun t k => XS.goto X_12.here hx rfl (pc0 := 186) (pc' := 190) rfl (hb hby at_186) (by decide) (by decide) k) ?_
          show Go p.tables e below P (T_12.setTop (mkF m 190 #[.val (.int p1), .val (.int p2), .val (.int p3), .val (.int p4), .val (.int i5), .val (.double d11), .second, .val (.double d19), .second, .val (.double d25), .second, .val (.double d33), .second, .val (.double d39), .second, .val (.double d47), .second, .val (.ref b_1), .val (.int (0 : Int32))] [(.int (1 : Int32))]))
          exact retGo X_12 hx hP Bd.returns hlk rfl (Or.inl ⟨rfl, Or.inr (Or.inl rfl), _, rfl⟩) (hb hby at_190) (by decide) (by decide) (by rw [eh_12]; exact ⟨rfl, N_12⟩)
        · refine Go.step (fun t k => XS.ifNo X_10.here hx rfl (hb hby at_161) rfl (dcN (cd := .ne) (DE.cmp q33 q47) hc161) k) ?_
          show Go p.tables e below P (T_10.setTop (mkF m 164 #[.val (.int p1), .val (.int p2), .val (.int p3), .val (.int p4), .val (.int i5), .val (.double d11), .second, .val (.double d19), .second, .val (.double d25), .second, .val (.double d33), .second, .val (.double d39), .second, .val (.double d47), .second, .val (.ref b_1), .unset] []))
          refine Go.step (fun t k => XS.iconst X_10.here hx rfl (hb hby at_164) k) ?_
          show Go p.tables e below P (T_10.setTop (mkF m 165 #[.val (.int p1), .val (.int p2), .val (.int p3), .val (.int p4), .val (.int i5), .val (.double d11), .second, .val (.double d19), .second, .val (.double d25), .second, .val (.double d33), .second, .val (.double d39), .second, .val (.double d47), .second, .val (.ref b_1), .unset] [(.int (1 : Int32))]))
          refine Go.step (fun t k => XS.goto X_10.here hx rfl (pc0 := 165) (pc' := 169) rfl (hb hby at_165) (by decide) (by decide) k) ?_
          show Go p.tables e below P (T_10.setTop (mkF m 169 #[.val (.int p1), .val (.int p2), .val (.int p3), .val (.int p4), .val (.int i5), .val (.double d11), .second, .val (.double d19), .second, .val (.double d25), .second, .val (.double d33), .second, .val (.double d39), .second, .val (.double d47), .second, .val (.ref b_1), .unset] [(.int (1 : Int32))]))
          refine Go.step (fun t k => XS.istore X_10.here hx rfl (hb hby at_169) rfl (l' := #[.val (.int p1), .val (.int p2), .val (.int p3), .val (.int p4), .val (.int i5), .val (.double d11), .second, .val (.double d19), .second, .val (.double d25), .second, .val (.double d33), .second, .val (.double d39), .second, .val (.double d47), .second, .val (.ref b_1), .val (.int (1 : Int32))]) rfl k) ?_
          show Go p.tables e below P (T_10.setTop (mkF m 171 #[.val (.int p1), .val (.int p2), .val (.int p3), .val (.int p4), .val (.int i5), .val (.double d11), .second, .val (.double d19), .second, .val (.double d25), .second, .val (.double d33), .second, .val (.double d39), .second, .val (.double d47), .second, .val (.ref b_1), .val (.int (1 : Int32))] []))
          refine Go.step (fun t k => XS.aload X_10.here hx rfl (hb hby at_171) rfl rfl k) ?_
          show Go p.tables e below P (T_10.setTop (mkF m 173 #[.val (.int p1), .val (.int p2), .val (.int p3), .val (.int p4), .val (.int i5), .val (.double d11), .second, .val (.double d19), .second, .val (.double d25), .second, .val (.double d33), .second, .val (.double d39), .second, .val (.double d47), .second, .val (.ref b_1), .val (.int (1 : Int32))] [(.ref b_1)]))
          refine Go.step (fun t k => XS.dload X_10.here hx rfl (hb hby at_173) rfl  k) ?_
          show Go p.tables e below P (T_10.setTop (mkF m 175 #[.val (.int p1), .val (.int p2), .val (.int p3), .val (.int p4), .val (.int i5), .val (.double d11), .second, .val (.double d19), .second, .val (.double d25), .second, .val (.double d33), .second, .val (.double d39), .second, .val (.double d47), .second, .val (.ref b_1), .val (.int (1 : Int32))] [(.double d39), (.ref b_1)]))
          refine Go.step (fun t k => XS.dload X_10.here hx rfl (hb hby at_175) rfl  k) ?_
          show Go p.tables e below P (T_10.setTop (mkF m 177 #[.val (.int p1), .val (.int p2), .val (.int p3), .val (.int p4), .val (.int i5), .val (.double d11), .second, .val (.double d19), .second, .val (.double d25), .second, .val (.double d33), .second, .val (.double d39), .second, .val (.double d47), .second, .val (.ref b_1), .val (.int (1 : Int32))] [(.double d47), (.double d39), (.ref b_1)]))
          obtain ⟨cq_13, kq_13, q_13a, q_13b, q_13c⟩ := isOf hZ rfl (((A_1.keep Kc_2).keep Kc_5).keep Kc_10)
          obtain ⟨_, _, ⟨T_13, L_13, k_13, n_13⟩, -, X_13, ⟨Lc_13, hQ_13, l_13, y_13, z_13⟩, st_13⟩ := X_10.virtualBack hx (y := (⟨"com/example/gleitfahrt/gleitfahrt/engine/Course$Builder", "endsAt", "(DD)Z"⟩ : MethodName)) (z := (⟨"com/example/gleitfahrt/gleitfahrt/engine/Course$Builder", "endsAt", "(DD)Z"⟩ : MethodName)) hown (mvT hZ (hw _ (List.mem_of_getElem? (i := 29) rfl))) (mvT hZ (hw _ (List.mem_of_getElem? (i := 30) rfl))) (notFace_of_selects (args := #[]) (mvT hZ (hw _ (List.mem_of_getElem? (i := 32) rfl)))) (mvT hZ (hw _ (List.mem_of_getElem? (i := 32) rfl))) (mvT hZ (hw _ (List.mem_of_getElem? (i := 31) rfl))) (by decide) (backOf (W := 0) (rm6 l Z a0 hw [] b_1 d39 d47 d19 d33 d11 d25 x0 x1 k0 k1 (i38.toInt) (i46.toInt) (i18.toInt) (i32.toInt) T_10.heap n0 Z_10 Fx0_1 Fx1_1 Fsz_1 Va0_1 Va1_1 q39 q47 q19 q33) hZ (hw _ (List.mem_of_getElem? (i := 33) rfl)) (hw _ (List.mem_of_getElem? (i := 3) rfl)) (by decide) (by decide)) q_13a q_13c (g := (mkF m 177 #[.val (.int p1), .val (.int p2), .val (.int p3), .val (.int p4), .val (.int i5), .val (.double d11), .second, .val (.double d19), .second, .val (.double d25), .second, .val (.double d33), .second, .val (.double d39), .second, .val (.double d47), .second, .val (.ref b_1), .val (.int (1 : Int32))] [(.double d47), (.double d39), (.ref b_1)])) rfl (by rw [hml]; rfl) (Steps.refl _) (argsL := [(.double d39), (.double d47)]) (rest := []) (lenOf pd_1 rfl) rfl (by show 2 * 0 + _ ≤ _; exact Nat.le_of_eq rfl) (hb hby at_177) (fun _ _ => ⟨rfl, rfl, (by decide : 9 + 0 ≤ _), (by decide : 521 + 0 ≤ _)⟩)
          dsimp only [Pt.U, Pt.locs, Pt.cells, Pt.slots] at X_13 l_13 y_13 z_13 st_13 hQ_13
          subst l_13 y_13 z_13
          obtain ⟨r0, rfl, hr0, N_13q, eh_13⟩ := hQ_13
          have N_13 := Fr.app N_10 N_13q
          refine Go.tr st_13 ?_
          show Go p.tables e below P (T_13.setTop (mkF m 180 #[.val (.int p1), .val (.int p2), .val (.int p3), .val (.int p4), .val (.int i5), .val (.double d11), .second, .val (.double d19), .second, .val (.double d25), .second, .val (.double d33), .second, .val (.double d39), .second, .val (.double d47), .second, .val (.ref b_1), .val (.int (1 : Int32))] [(.int r0)]))
          refine Go.step (fun t k => XS.iload X_13.here hx rfl (hb hby at_180) rfl  k) ?_
          show Go p.tables e below P (T_13.setTop (mkF m 182 #[.val (.int p1), .val (.int p2), .val (.int p3), .val (.int p4), .val (.int i5), .val (.double d11), .second, .val (.double d19), .second, .val (.double d25), .second, .val (.double d33), .second, .val (.double d39), .second, .val (.double d47), .second, .val (.ref b_1), .val (.int (1 : Int32))] [(.int (1 : Int32)), (.int r0)]))
          refine Go.step (fun t k => XS.icmpNo X_13.here hx rfl (hb hby at_182) rfl (icN (cd := .ne) (by omega : ¬ (¬ r0.toInt = (1 : Int)))) k) ?_
          show Go p.tables e below P (T_13.setTop (mkF m 185 #[.val (.int p1), .val (.int p2), .val (.int p3), .val (.int p4), .val (.int i5), .val (.double d11), .second, .val (.double d19), .second, .val (.double d25), .second, .val (.double d33), .second, .val (.double d39), .second, .val (.double d47), .second, .val (.ref b_1), .val (.int (1 : Int32))] []))
          refine Go.step (fun t k => XS.iconst X_13.here hx rfl (hb hby at_185) k) ?_
          show Go p.tables e below P (T_13.setTop (mkF m 186 #[.val (.int p1), .val (.int p2), .val (.int p3), .val (.int p4), .val (.int i5), .val (.double d11), .second, .val (.double d19), .second, .val (.double d25), .second, .val (.double d33), .second, .val (.double d39), .second, .val (.double d47), .second, .val (.ref b_1), .val (.int (1 : Int32))] [(.int (1 : Int32))]))
          refine Go.step (fun t k => XS.goto X_13.here hx rfl (pc0 := 186) (pc' := 190) rfl (hb hby at_186) (by decide) (by decide) k) ?_
          show Go p.tables e below P (T_13.setTop (mkF m 190 #[.val (.int p1), .val (.int p2), .val (.int p3), .val (.int p4), .val (.int i5), .val (.double d11), .second, .val (.double d19), .second, .val (.double d25), .second, .val (.double d33), .second, .val (.double d39), .second, .val (.double d47), .second, .val (.ref b_1), .val (.int (1 : Int32))] [(.int (1 : Int32))]))
          exact retGo X_13 hx hP Bd.returns hlk rfl (Or.inl ⟨rfl, Or.inr (Or.inl rfl), _, rfl⟩) (hb hby at_190) (by decide) (by decide) (by rw [eh_13]; exact ⟨rfl, N_13⟩)
set_option maxRecDepth 65536 in
set_option maxHeartbeats 40000000 in
theorem comes_1 {Post : Tables → Env → Array Value → State → Outcome → State → Prop} (hpost : ∀ tb e args s v u, (limb_1_1.after args s (.returned v) u = true ∧ limb_1_2.after args s (.returned v) u = true ∧ True) → FrameEnd s (.returned v) u (Jvm.fieldLocs frame_1_writes args s ++ Jvm.arrayLocs frame_1_arrays args s ++ Jvm.staticLocs frame_1_statics s) 32 1152 → Post tb e args s (.returned v) u) :
    ArmFor flags0 classFile x code maxLocals ret World_1 tables_1 room_1 Calls_1 rest_1 Pre_1 Post := by
  intro l hfl _ _ p e ha hc hk s m args below hf hA hF happ hP
  obtain ⟨hcalls, hrest, hpre⟩ := hP
  obtain ⟨-, -, -, hnamed, -, -, -, hat⟩ := (Spec.applies_iff hf).mp happ
  obtain ⟨hg, hn⟩ := and_e (Cond.before_iff.mp (show (Jvm.Cond.and given_1 narrow_1).before args s = true from hpre))
  obtain ⟨gc, hg0⟩ := and_e hg
  obtain ⟨ga0, hg1⟩ := and_e hg0
  obtain ⟨ga1, hg2⟩ := and_e hg1
  obtain ⟨ga2, hg3⟩ := and_e hg2
  have ga3 := hg3
  obtain ⟨w0, w1, w2, w3, rfl⟩ : ∃ w0 w1 w2 w3 : Value, args = #[w0, w1, w2, w3] := by
    have hs : args.size = 4 := by simpa [Cond.value, given_1] using gc
    obtain ⟨L⟩ := args
    match L, hs with
    | [w0, w1, w2, w3], _ => exact ⟨w0, w1, w2, w3, rfl⟩
  have hw := fun d (hd : d ∈ tables_1) => atoms_spec (ws := Jvm.Cond.code x code maxLocals ret :: tables_1) hat d (List.mem_cons_of_mem _ hd)
  obtain ⟨i0, ei0⟩ := is_v ga0
  obtain rfl : w0 = (.int i0) := Option.some.inj ei0
  obtain ⟨i1, ei1⟩ := is_v ga1
  obtain rfl : w1 = (.int i1) := Option.some.inj ei1
  obtain ⟨i2, ei2⟩ := is_v ga2
  obtain rfl : w2 = (.int i2) := Option.some.inj ei2
  obtain ⟨i3, ei3⟩ := is_v ga3
  obtain rfl : w3 = (.int i3) := Option.some.inj ei3
  obtain ⟨hn1, hn2⟩ := and_e hn
  obtain ⟨pw, epw⟩ := exa_v hn1
  obtain ⟨co, eco⟩ := exa_v hn2
  have Epw := Exa.start epw hn1
  have Eco := Exa.start eco hn2
  have Spw := Sta.start epw (Or.inr ⟨(hw _ (List.mem_of_getElem? (i := 37) rfl)), (hw _ (List.mem_of_getElem? (i := 38) rfl))⟩)
  have Sco := Sta.start eco (Or.inr ⟨(hw _ (List.mem_of_getElem? (i := 37) rfl)), (hw _ (List.mem_of_getElem? (i := 46) rfl))⟩)
  obtain ⟨n, o, h1, h2, h3, _, L, rfl, ⟨rfl, N⟩, hq⟩ := rm0 l s _ hw tables_1 i0 i1 i2 i3 pw co s.heap s.heap.size (Nat.le_refl _) Epw Eco Spw Sco p e ha hc hk s m _ below hf ((Spec.applies_iff_loose hf).mp happ).1 ⟨rfl, State.Warmed39.refl s, rfl⟩ trivial
  refine ⟨n, _, h1, h2, h3, hpost _ _ _ _ _ _ ⟨Cond.after_iff.mpr rfl, Cond.after_iff.mpr (eq_i res_at (Term.int_eval (1)) rfl), trivial⟩ ⟨hq.1, hq.2.1, (hq.2.2.sift fun y hy => Or.inr (N y hy)).mono (by decide) (by decide)⟩⟩
theorem main_1_1 : Claimed_1_1 := comes_1 fun _ _ _ _ _ _ h hF => ⟨h.1, hF⟩
theorem main_1_2 : Claimed_1_2 := comes_1 fun _ _ _ _ _ _ h hF => ⟨h.2.1, hF⟩
end Jvm.Pilot.@@N@@
namespace Jvm.Pilot.@@N@@
open Jvm Jvm.ClassFile Sem Op Lib Jvm.Free Jvm.Stand Jvm.Pilot.@@N@@.Jvm.D
/-! MADE BY PROGRAM (witnessworld.py) out of the Statement's table words and the real class files: 16 classes; the members and pool entries that the words name. The judged class is class 1, her method 1. -/
namespace start1
open Jvm.ClassFile
def u (s : String) : CpInfo := .utf8 (stringToUtf16 s)
/-- a pool by its gaps: so many unusable entries, then the entry; so many at the end -/
def gap : Nat → List CpInfo → List CpInfo
  | 0, r => r
  | n + 1, r => .unusable :: gap n r
def poolList (es : List (Nat × CpInfo)) (last : Nat) : List CpInfo := es.foldr (fun e r => gap e.1 (e.2 :: r)) (gap last [])
def pool (es : List (Nat × CpInfo)) (last : Nat) : Array CpInfo := ⟨poolList es last⟩
def fileOf (pool : Array CpInfo) (this : Nat) (attrs : Array Attribute := #[]) (ms : Array MethodInfo := #[]) (fl : Nat := 33) (sup : Nat := 0) (ifs : Array Nat := #[]) (fds : Array FieldInfo := #[]) : ClassFile where
  minorVersion := 0
  majorVersion := 65
  constantPool := pool
  accessFlags := fl
  thisClass := this
  superClass := sup
  interfaces := ifs
  fields := fds
  methods := ms
  attributes := attrs
def plain (name : String) (sup : Option ClassId) : Class where
  name := name
  kind := .ordinary
  loader := none
  accessFlags := 33
  super := sup
  interfaces := #[]
  cf := none
  fields := #[]
  methods := #[]
  instanceTypes := #[]
  staticTypes := #[]
  resolved := #[]
  callSites := []
  init := .initialized
  statics := none
  mirror := none

def pool0 : Array CpInfo := pool [(5, u "<init>"), (0, u "()V"), (1, .class_ 10), (1, u "java/lang/Object")] 113

def k0c0 : Code := { maxStack := 0, maxLocals := 1, code := object_method_1_code, exceptionTable := #[], attributes := #[] }
def k0m0 : Method := { name := "<init>", desc := "()V", sig := { parameters := [], returnType := none }, accessFlags := 1, code := some k0c0 }
/-- java/lang/Object -/
def k0 : Class := { plain "java/lang/Object" none with
  accessFlags := 33
  interfaces := #[]
  cf := some (fileOf pool0 8 #[] #[{ accessFlags := 1, nameIndex := 5, descriptorIndex := 6, attributes := #[] }] 33 0 #[] #[])
  fields := #[]
  methods := #[k0m0]
  instanceTypes := #[]
  staticTypes := #[]
  resolved := Array.replicate 124 none
  statics := none }

def pool1 : Array CpInfo := pool [(2, .class_ 4), (0, .nameAndType 5 6), (0, u "java/lang/Object"), (0, u "<init>"), (0, u "()V"), (0, .integer 2147483647), (0, .class_ 9), (0, u "com/example/gleitfahrt/gleitfahrt/engine/Course$Builder"), (0, .methodref 8 3), (0, .fieldref 12 13), (0, .class_ 14), (0, .nameAndType 15 16), (0, u "com/example/gleitfahrt/gleitfahrt/engine/Regime"), (0, u "POWER"), (0, u "Lcom/example/gleitfahrt/gleitfahrt/engine/Regime;"), (0, .methodref 8 18), (0, .nameAndType 19 20), (0, u "add"), (0, u "(DDDDDLcom/example/gleitfahrt/gleitfahrt/engine/Regime;DD)V"), (0, .fieldref 12 22), (0, .nameAndType 23 16), (0, u "COAST"), (0, .methodref 8 25), (0, .nameAndType 26 27), (0, u "endsAt"), (0, u "(DD)Z"), (0, .class_ 29), (0, u "com/example/gleitfahrt/gleitfahrt/engine/BuilderEndsAtPinLaw"), (2, u "law"), (0, u "(IIII)Z")] 7

def k1m0 : Method := { name := "<init>", desc := "()V", sig := { parameters := [], returnType := none }, accessFlags := 2, code := none }
def k1c1 : Code := { maxStack := 16, maxLocals := 19, code := code, exceptionTable := #[], attributes := #[] }
def k1m1 : Method := { name := "law", desc := "(IIII)Z", sig := { parameters := [.int, .int, .int, .int], returnType := some .boolean }, accessFlags := 9, code := some k1c1 }
/-- com/example/gleitfahrt/gleitfahrt/engine/BuilderEndsAtPinLaw -/
def k1 : Class := { plain "com/example/gleitfahrt/gleitfahrt/engine/BuilderEndsAtPinLaw" (some 0) with
  accessFlags := 49
  interfaces := #[]
  cf := some (fileOf pool1 28 #[] #[{ accessFlags := 2, nameIndex := 5, descriptorIndex := 6, attributes := #[] }, { accessFlags := 9, nameIndex := 32, descriptorIndex := 33, attributes := #[] }] 49 2 #[] #[])
  fields := #[]
  methods := #[k1m0, k1m1]
  instanceTypes := #[]
  staticTypes := #[]
  resolved := Array.replicate 41 none
  statics := none }

def pool2 : Array CpInfo := pool [(1, .methodref 2 3), (0, .class_ 4), (0, .nameAndType 5 6), (0, u "java/lang/Object"), (0, u "<init>"), (0, u "()V"), (0, .fieldref 8 9), (0, .class_ 10), (0, .nameAndType 11 12), (0, u "com/example/gleitfahrt/gleitfahrt/engine/Course$Builder"), (0, u "positions"), (0, u "[D"), (0, .fieldref 8 14), (0, .nameAndType 15 12), (0, u "times"), (0, .fieldref 8 17), (0, .nameAndType 18 12), (0, u "speeds"), (0, .fieldref 8 20), (0, .nameAndType 21 12), (0, u "drawn"), (0, .fieldref 8 23), (0, .nameAndType 24 12), (0, u "recovered"), (0, .class_ 26), (0, u "com/example/gleitfahrt/gleitfahrt/engine/Regime"), (0, .fieldref 8 28), (0, .nameAndType 29 30), (0, u "regimes"), (0, u "[Lcom/example/gleitfahrt/gleitfahrt/engine/Regime;"), (0, .fieldref 8 32), (0, .nameAndType 33 12), (0, u "targets"), (0, .fieldref 8 35), (0, .nameAndType 36 12), (0, u "peaks"), (0, .fieldref 8 38), (0, .nameAndType 39 40), (0, u "size"), (0, u "I"), (12, u "add"), (0, u "(DDDDDLcom/example/gleitfahrt/gleitfahrt/engine/Regime;DD)V"), (0, .class_ 56), (0, u "com/example/gleitfahrt/gleitfahrt/engine/Course"), (8, u "endsAt"), (0, u "(DD)Z")] 7

def k2c0 : Code := { maxStack := 2, maxLocals := 1, code := prog_5_method_1_code, exceptionTable := #[], attributes := #[] }
def k2m0 : Method := { name := "<init>", desc := "()V", sig := { parameters := [], returnType := none }, accessFlags := 0, code := some k2c0 }
def k2c1 : Code := { maxStack := 4, maxLocals := 17, code := prog_5_method_2_code, exceptionTable := #[], attributes := #[] }
def k2m1 : Method := { name := "add", desc := "(DDDDDLcom/example/gleitfahrt/gleitfahrt/engine/Regime;DD)V", sig := { parameters := [.double, .double, .double, .double, .double, (.object "com/example/gleitfahrt/gleitfahrt/engine/Regime"), .double, .double], returnType := none }, accessFlags := 0, code := some k2c1 }
def k2c2 : Code := { maxStack := 4, maxLocals := 5, code := prog_5_method_4_code, exceptionTable := #[], attributes := #[] }
def k2m2 : Method := { name := "endsAt", desc := "(DD)Z", sig := { parameters := [.double, .double], returnType := some .boolean }, accessFlags := 0, code := some k2c2 }
/-- com/example/gleitfahrt/gleitfahrt/engine/Course$Builder -/
def k2 : Class := { plain "com/example/gleitfahrt/gleitfahrt/engine/Course$Builder" (some 0) with
  accessFlags := 48
  interfaces := #[]
  cf := some (fileOf pool2 8 #[.nestHost 55] #[{ accessFlags := 0, nameIndex := 5, descriptorIndex := 6, attributes := #[] }, { accessFlags := 0, nameIndex := 53, descriptorIndex := 54, attributes := #[] }, { accessFlags := 0, nameIndex := 65, descriptorIndex := 66, attributes := #[] }] 48 2 #[] #[{ accessFlags := 2, nameIndex := 39, descriptorIndex := 40, attributes := #[] }, { accessFlags := 2, nameIndex := 11, descriptorIndex := 12, attributes := #[] }, { accessFlags := 2, nameIndex := 15, descriptorIndex := 12, attributes := #[] }, { accessFlags := 2, nameIndex := 18, descriptorIndex := 12, attributes := #[] }, { accessFlags := 2, nameIndex := 21, descriptorIndex := 12, attributes := #[] }, { accessFlags := 2, nameIndex := 24, descriptorIndex := 12, attributes := #[] }, { accessFlags := 2, nameIndex := 29, descriptorIndex := 30, attributes := #[] }, { accessFlags := 2, nameIndex := 33, descriptorIndex := 12, attributes := #[] }, { accessFlags := 2, nameIndex := 36, descriptorIndex := 12, attributes := #[] }])
  fields := #[{ name := "size", type := .int, accessFlags := 2, slot := 0, constantValue := 0 }, { name := "positions", type := (.array .double), accessFlags := 2, slot := 1, constantValue := 0 }, { name := "times", type := (.array .double), accessFlags := 2, slot := 2, constantValue := 0 }, { name := "speeds", type := (.array .double), accessFlags := 2, slot := 3, constantValue := 0 }, { name := "drawn", type := (.array .double), accessFlags := 2, slot := 4, constantValue := 0 }, { name := "recovered", type := (.array .double), accessFlags := 2, slot := 5, constantValue := 0 }, { name := "regimes", type := (.array (.object "com/example/gleitfahrt/gleitfahrt/engine/Regime")), accessFlags := 2, slot := 6, constantValue := 0 }, { name := "targets", type := (.array .double), accessFlags := 2, slot := 7, constantValue := 0 }, { name := "peaks", type := (.array .double), accessFlags := 2, slot := 8, constantValue := 0 }]
  methods := #[k2m0, k2m1, k2m2]
  instanceTypes := #[.int, (.array .double), (.array .double), (.array .double), (.array .double), (.array .double), (.array (.object "com/example/gleitfahrt/gleitfahrt/engine/Regime")), (.array .double), (.array .double)]
  staticTypes := #[]
  resolved := Array.replicate 74 none
  statics := none }

def pool3 : Array CpInfo := pool [(1, .class_ 2), (0, u "java/lang/constant/Constable"), (0, .class_ 4), (0, u "java/lang/Object")] 6

/-- java/lang/constant/Constable -/
def k3 : Class := { plain "java/lang/constant/Constable" (some 0) with
  accessFlags := 1537
  interfaces := #[]
  cf := some (fileOf pool3 1 #[] #[] 1537 3 #[] #[])
  fields := #[]
  methods := #[]
  instanceTypes := #[]
  staticTypes := #[]
  resolved := Array.replicate 11 none
  statics := none }

def pool4 : Array CpInfo := pool [(1, .class_ 2), (0, u "java/lang/Comparable"), (0, .class_ 4), (0, u "java/lang/Object")] 7

/-- java/lang/Comparable -/
def k4 : Class := { plain "java/lang/Comparable" (some 0) with
  accessFlags := 1537
  interfaces := #[]
  cf := some (fileOf pool4 1 #[] #[] 1537 3 #[] #[])
  fields := #[]
  methods := #[]
  instanceTypes := #[]
  staticTypes := #[]
  resolved := Array.replicate 12 none
  statics := none }

def pool5 : Array CpInfo := pool [(1, .class_ 2), (0, u "java/io/Serializable"), (0, .class_ 4), (0, u "java/lang/Object")] 2

/-- java/io/Serializable -/
def k5 : Class := { plain "java/io/Serializable" (some 0) with
  accessFlags := 1537
  interfaces := #[]
  cf := some (fileOf pool5 1 #[] #[] 1537 3 #[] #[])
  fields := #[]
  methods := #[]
  instanceTypes := #[]
  staticTypes := #[]
  resolved := Array.replicate 7 none
  statics := none }

def pool6 : Array CpInfo := pool [(2, .class_ 4), (1, u "java/lang/Enum"), (0, u "name"), (0, u "Ljava/lang/String;"), (2, u "ordinal"), (0, u "I"), (1, .class_ 14), (1, u "java/lang/Object"), (4, u "hash"), (86, .class_ 108), (1, u "java/lang/Enum$EnumDesc"), (2, .class_ 112), (0, u "java/lang/constant/Constable"), (0, .class_ 114), (0, u "java/lang/Comparable"), (0, .class_ 116), (0, u "java/io/Serializable")] 87

/-- java/lang/Enum -/
def k6 : Class := { plain "java/lang/Enum" (some 0) with
  accessFlags := 1057
  interfaces := #[3, 4, 5]
  cf := some (fileOf pool6 2 #[.nestMembers #[106]] #[] 1057 12 #[111, 113, 115] #[{ accessFlags := 18, nameIndex := 5, descriptorIndex := 6, attributes := #[] }, { accessFlags := 18, nameIndex := 9, descriptorIndex := 10, attributes := #[] }, { accessFlags := 2, nameIndex := 19, descriptorIndex := 10, attributes := #[] }])
  fields := #[{ name := "name", type := (.object "java/lang/String"), accessFlags := 18, slot := 0, constantValue := 0 }, { name := "ordinal", type := .int, accessFlags := 18, slot := 1, constantValue := 0 }, { name := "hash", type := .int, accessFlags := 2, slot := 2, constantValue := 0 }]
  methods := #[]
  instanceTypes := #[(.object "java/lang/String"), .int, .int]
  staticTypes := #[]
  resolved := Array.replicate 204 none
  statics := none }

def pool7 : Array CpInfo := pool [(1, .class_ 2), (0, u "com/example/gleitfahrt/gleitfahrt/engine/Regime"), (2, u "POWER"), (0, u "Lcom/example/gleitfahrt/gleitfahrt/engine/Regime;"), (2, u "HOLD"), (2, u "COAST"), (2, u "BRAKE"), (2, u "$VALUES"), (0, u "[Lcom/example/gleitfahrt/gleitfahrt/engine/Regime;"), (6, .class_ 28), (1, u "java/lang/Enum")] 26

/-- com/example/gleitfahrt/gleitfahrt/engine/Regime -/
def k7 : Class := { plain "com/example/gleitfahrt/gleitfahrt/engine/Regime" (some 6) with
  accessFlags := 16433
  interfaces := #[]
  cf := some (fileOf pool7 1 #[] #[] 16433 26 #[] #[{ accessFlags := 16409, nameIndex := 5, descriptorIndex := 6, attributes := #[] }, { accessFlags := 16409, nameIndex := 9, descriptorIndex := 6, attributes := #[] }, { accessFlags := 16409, nameIndex := 12, descriptorIndex := 6, attributes := #[] }, { accessFlags := 16409, nameIndex := 15, descriptorIndex := 6, attributes := #[] }, { accessFlags := 4122, nameIndex := 18, descriptorIndex := 19, attributes := #[] }])
  fields := #[{ name := "POWER", type := (.object "com/example/gleitfahrt/gleitfahrt/engine/Regime"), accessFlags := 16409, slot := 0, constantValue := 0 }, { name := "HOLD", type := (.object "com/example/gleitfahrt/gleitfahrt/engine/Regime"), accessFlags := 16409, slot := 1, constantValue := 0 }, { name := "COAST", type := (.object "com/example/gleitfahrt/gleitfahrt/engine/Regime"), accessFlags := 16409, slot := 2, constantValue := 0 }, { name := "BRAKE", type := (.object "com/example/gleitfahrt/gleitfahrt/engine/Regime"), accessFlags := 16409, slot := 3, constantValue := 0 }, { name := "$VALUES", type := (.array (.object "com/example/gleitfahrt/gleitfahrt/engine/Regime")), accessFlags := 4122, slot := 4, constantValue := 0 }]
  methods := #[]
  instanceTypes := #[(.object "java/lang/String"), .int, .int]
  staticTypes := #[(.object "com/example/gleitfahrt/gleitfahrt/engine/Regime"), (.object "com/example/gleitfahrt/gleitfahrt/engine/Regime"), (.object "com/example/gleitfahrt/gleitfahrt/engine/Regime"), (.object "com/example/gleitfahrt/gleitfahrt/engine/Regime"), (.array (.object "com/example/gleitfahrt/gleitfahrt/engine/Regime"))]
  resolved := Array.replicate 55 none
  statics := some 0 }

def pool8 : Array CpInfo := pool [(1, u "java/lang/Cloneable"), (0, .class_ 1), (0, u "java/lang/Object"), (0, .class_ 3)] 3

/-- java/lang/Cloneable -/
def k8 : Class := { plain "java/lang/Cloneable" (some 0) with
  accessFlags := 1537
  interfaces := #[]
  cf := some (fileOf pool8 2 #[] #[] 1537 4 #[] #[])
  fields := #[]
  methods := #[]
  instanceTypes := #[]
  staticTypes := #[]
  resolved := Array.replicate 8 none
  statics := none }

/-- the primitive byte -/
def k9 : Class := { plain "byte" none with kind := .primitive 'B', accessFlags := 0x411 }
/-- [B -/
def k10 : Class := { plain "[B" (some 0) with kind := .array 9 .byte, interfaces := #[8, 5], accessFlags := 1041 }

/-- the primitive double -/
def k11 : Class := { plain "double" none with kind := .primitive 'D', accessFlags := 0x411 }
/-- [D -/
def k12 : Class := { plain "[D" (some 0) with kind := .array 11 .double, interfaces := #[8, 5], accessFlags := 1041 }

/-- the primitive int -/
def k13 : Class := { plain "int" none with kind := .primitive 'I', accessFlags := 0x411 }
/-- [I -/
def k14 : Class := { plain "[I" (some 0) with kind := .array 13 .int, interfaces := #[8, 5], accessFlags := 1041 }

/-- [Lcom/example/gleitfahrt/gleitfahrt/engine/Regime; -/
def k15 : Class := { plain "[Lcom/example/gleitfahrt/gleitfahrt/engine/Regime;" (some 0) with kind := .array 7 (.object "com/example/gleitfahrt/gleitfahrt/engine/Regime"), interfaces := #[8, 5], accessFlags := 1041 }

def heap : Heap := #[{ cls := 7, slots := #[.ref 1, .null, .ref 1, .null, .null], vm := .statics 7 },
  { cls := 7, slots := #[.null, .int 0, .int 0], vm := .none }]
def classes : Array Class := #[k0, k1, k2, k3, k4, k5, k6, k7, k8, k9, k10, k11, k12, k13, k14, k15]
def interned : List (Array UInt16 × Addr) := []
def slotsUsed : Nat := 8
def theMethod : MethodId := ⟨1, 1⟩
def args0 : Array Value := #[.int 4, .int 8, .int 5, .int 7]
def aboutOver (below : List Frame) : State where
  vm := { classes := classes, interned := interned.toArray }
  heap := heap
  slotsUsed := slotsUsed
  threads := #[{ frames := .invoking theMethod args0 :: below }]
def below0 : List Frame := [.native { method := ⟨0, 0⟩, args := #[] }]
def about1 : State := aboutOver below0
def p0 : Program := .bare "" "" ""
def e0 : Env := launch0.env 0 0 0
theorem w_frames : about1.frames = Frame.invoking theMethod args0 :: below0 := rfl
set_option maxRecDepth 65536 in
theorem w_args : argsFit about1.vm theMethod args0 = true := by decide +kernel
set_option maxRecDepth 65536 in
theorem w_heap : heapFits about1 = true := by decide +kernel
set_option maxRecDepth 65536 in
theorem w_runnable : about1.curStatus? = some .runnable := by decide +kernel
set_option maxRecDepth 65536 in
theorem w_alone : about1.alone = true := by decide +kernel
set_option maxRecDepth 65536 in
theorem w_named : about1.methodNamed? x = some theMethod := by decide +kernel
set_option maxRecDepth 65536 in
theorem w_hears : about1.hears theMethod below0 = true := by decide +kernel
set_option maxRecDepth 65536 in
theorem w_ripe : about1.ripe theMethod args0 below0 = true := by decide +kernel
theorem w_running : about1.status = .running := rfl
set_option maxRecDepth 65536 in
theorem w_room : about1.hasRoom e0.platform room_1 = true :=
  launch0.hasRoom_least _ room_1 (by decide +kernel) (by decide +kernel) (by decide +kernel) (by decide +kernel) (by decide +kernel) (by decide +kernel)
theorem allAtoms_all (ts : List Jvm.Cond) (a : Array Jvm.Value) (st : Jvm.State) : (allAtoms ts).before a st = ts.all (fun c => c.before a st) := by
  induction ts with
  | nil => rfl
  | cons c t ih =>
    show (Jvm.Cond.and c (allAtoms t)).before a st = _
    rw [Jvm.Cond.before_and, ih, List.all_cons]
def words1 : List Jvm.Cond := Jvm.Cond.code x code maxLocals ret :: tables_1
/-- a 'code' word, met by the world's own term for the bytes: nothing is compared byte by byte -/
theorem code_word {y : MethodName} {bytes : ByteArray} {mx : Nat} {rt : Option FieldType} {a : Array Value} {s : State} {m : MethodId} {meth : Method} {c : Code} (h1 : s.methodNamed? y = some m) (h2 : s.vm.method? m = some meth) (h3 : meth.code = some c) (h4 : c.code = bytes)
    (h5 : (c.maxLocals == mx && c.exceptionTable.isEmpty && decide (c.maxStack ≤ mostOperands) && decide (meth.sig.returnType = rt) && !meth.locks && decide (parseMethodDescriptor y.desc = some meth.sig)) = true) : (Jvm.Cond.code y bytes mx rt).before a s = true := by
  simp only [Bool.and_eq_true, beq_iff_eq, Bool.not_eq_true', decide_eq_true_eq] at h5
  obtain ⟨⟨⟨⟨⟨g1, g2⟩, g3⟩, g4⟩, g5⟩, g6⟩ := h5
  simp [Cond.before, Cond.holds, Cond.value, h1, h2, h3, h4, g1, g2, g3, g4, g5, g6]
def isCode : Jvm.Cond → Bool
  | .code _ _ _ _ => true
  | _ => false
theorem all_split {L : List Jvm.Cond} {P : Jvm.Cond → Bool} (h1 : L.all (fun c => isCode c || P c) = true) (h2 : ∀ c ∈ L.filter isCode, P c = true) : L.all P = true := by
  refine List.all_eq_true.mpr fun c hc => ?_
  have h := List.all_eq_true.mp h1 c hc
  rcases Bool.eq_false_or_eq_true (isCode c) with hi | hi
  · exact h2 c (List.mem_filter.mpr ⟨hc, hi⟩)
  · simpa [hi] using h
set_option maxRecDepth 65536 in
theorem w_c0 : (Jvm.Cond.code x code maxLocals ret).before args0 about1 = true := code_word (m := ⟨1, 1⟩) (meth := k1m1) (c := k1c1) (by decide +kernel) rfl rfl rfl (by decide +kernel)
set_option maxRecDepth 65536 in
theorem w_c1 : (Jvm.Cond.code ({ cls := "com/example/gleitfahrt/gleitfahrt/engine/Course$Builder", name := "<init>", desc := "()V" } : Jvm.MethodName) prog_5_method_1_code (1 : Nat) (Option.none : Option Jvm.ClassFile.FieldType)).before args0 about1 = true := code_word (m := ⟨2, 0⟩) (meth := k2m0) (c := k2c0) (by decide +kernel) rfl rfl rfl (by decide +kernel)
set_option maxRecDepth 65536 in
theorem w_c2 : (Jvm.Cond.code ({ cls := "java/lang/Object", name := "<init>", desc := "()V" } : Jvm.MethodName) object_method_1_code (1 : Nat) (Option.none : Option Jvm.ClassFile.FieldType)).before args0 about1 = true := code_word (m := ⟨0, 0⟩) (meth := k0m0) (c := k0c0) (by decide +kernel) rfl rfl rfl (by decide +kernel)
set_option maxRecDepth 65536 in
theorem w_c3 : (Jvm.Cond.code ({ cls := "com/example/gleitfahrt/gleitfahrt/engine/Course$Builder", name := "endsAt", desc := "(DD)Z" } : Jvm.MethodName) prog_5_method_4_code (5 : Nat) (Option.some Jvm.ClassFile.FieldType.boolean)).before args0 about1 = true := code_word (m := ⟨2, 2⟩) (meth := k2m2) (c := k2c2) (by decide +kernel) rfl rfl rfl (by decide +kernel)
set_option maxRecDepth 65536 in
theorem w_c4 : (Jvm.Cond.code ({ cls := "com/example/gleitfahrt/gleitfahrt/engine/Course$Builder", name := "add", desc := "(DDDDDLcom/example/gleitfahrt/gleitfahrt/engine/Regime;DD)V" } : Jvm.MethodName) prog_5_method_2_code (17 : Nat) (Option.none : Option Jvm.ClassFile.FieldType)).before args0 about1 = true := code_word (m := ⟨2, 1⟩) (meth := k2m1) (c := k2c1) (by decide +kernel) rfl rfl rfl (by decide +kernel)
def codes1 : List Jvm.Cond := [Jvm.Cond.code x code maxLocals ret, Jvm.Cond.code ({ cls := "com/example/gleitfahrt/gleitfahrt/engine/Course$Builder", name := "<init>", desc := "()V" } : Jvm.MethodName) prog_5_method_1_code (1 : Nat) (Option.none : Option Jvm.ClassFile.FieldType), Jvm.Cond.code ({ cls := "java/lang/Object", name := "<init>", desc := "()V" } : Jvm.MethodName) object_method_1_code (1 : Nat) (Option.none : Option Jvm.ClassFile.FieldType), Jvm.Cond.code ({ cls := "com/example/gleitfahrt/gleitfahrt/engine/Course$Builder", name := "endsAt", desc := "(DD)Z" } : Jvm.MethodName) prog_5_method_4_code (5 : Nat) (Option.some Jvm.ClassFile.FieldType.boolean), Jvm.Cond.code ({ cls := "com/example/gleitfahrt/gleitfahrt/engine/Course$Builder", name := "add", desc := "(DDDDDLcom/example/gleitfahrt/gleitfahrt/engine/Regime;DD)V" } : Jvm.MethodName) prog_5_method_2_code (17 : Nat) (Option.none : Option Jvm.ClassFile.FieldType)]
set_option maxRecDepth 65536 in
theorem codes_eq : words1.filter isCode = codes1 := rfl
theorem w_codes : ∀ c ∈ words1.filter isCode, c.before args0 about1 = true := by
  rw [codes_eq]
  intro c hc
  simp only [codes1, List.mem_cons, List.not_mem_nil, or_false] at hc
  rcases hc with rfl | rfl | rfl | rfl | rfl
  · exact w_c0
  · exact w_c1
  · exact w_c2
  · exact w_c3
  · exact w_c4
set_option maxRecDepth 65536 in
theorem w_t1 : (words1.take 24).all (fun c => isCode c || c.before args0 about1) = true := by decide +kernel
set_option maxRecDepth 65536 in
theorem w_t2 : (words1.drop 24).all (fun c => isCode c || c.before args0 about1) = true := by decide +kernel
theorem w_tables : (allAtoms (Jvm.Cond.code x code maxLocals ret :: tables_1)).before args0 about1 = true := by
  rw [allAtoms_all]
  show words1.all (fun c => c.before args0 about1) = true
  refine all_split ?_ w_codes
  rw [← List.take_append_drop 24 words1, List.all_append, w_t1, w_t2]
  rfl
set_option maxRecDepth 65536 in
theorem w_case : (Jvm.Cond.and given_1 narrow_1).before args0 about1 = true := by decide +kernel
theorem w_applies : (headSpec (Jvm.Cond.code x code maxLocals ret :: tables_1) room_1).applies x e0.platform about1 = true :=
  (Spec.applies_iff w_frames).mpr ⟨w_running, w_runnable, w_alone, w_named, w_hears, w_ripe, w_room, w_tables⟩
theorem atStart : AtStart classFile x code maxLocals ret World_1 tables_1 room_1 Calls_1 rest_1 Pre_1 launch0 p0 e0 about1 theMethod args0 below0 :=
  ⟨lists_1, trivial, launch0.admits_env _ _ _, launch0.least_env, fairChoices_fair.cas, fairChoices_fair.clock, w_frames, w_args, w_heap, w_applies, trivial, trivial, w_case⟩
end start1
theorem witness_1 : WitnessClaimed_1 := ⟨start1.p0, start1.e0, start1.about1, start1.theMethod, start1.args0, start1.below0, start1.atStart⟩
end Jvm.Pilot.@@N@@
