import JvmDerived
import JvmDerived.Pilot.@@N@@Statement
import JvmDerived.Pilot.@@N@@Code
set_option linter.unusedVariables false
set_option linter.unusedSimpArgs false
namespace Jvm.Pilot.@@N@@.Own
open Jvm Jvm.ClassFile Sem Op Lib Jvm.Free Jvm.Stand Jvm.LawKit Jvm.RoadKit
/-- from S the run comes to an end of which P holds -/
def Go (tb : Tables) (e : Env) (below : List Frame) (P : State → Outcome → Prop) (S : State) : Prop :=
  ∃ s₂ o, Steps tb e below S s₂ ∧ s₂.status = .running ∧ Ended s₂ below o ∧ P s₂ o
theorem Go.step {tb : Tables} {e : Env} {below : List Frame} {P : State → Outcome → Prop} {S S' : State}
    (h : ∀ t, Steps tb e below S' t → Steps tb e below S t) (g : Go tb e below P S') : Go tb e below P S := by
  obtain ⟨t, o, h1, h2⟩ := g; exact ⟨t, o, h t h1, h2⟩
theorem Go.tr {tb : Tables} {e : Env} {below : List Frame} {P : State → Outcome → Prop} {S S' : State}
    (h : Steps tb e below S S') (g : Go tb e below P S') : Go tb e below P S := by
  obtain ⟨t, o, h1, h2⟩ := g; exact ⟨t, o, h.trans h1, h2⟩
theorem Go.start {tb : Tables} {e : Env} {below : List Frame} {P₀ : State → Outcome → Prop} {S S' : State} (q : S = S')
    (h : ∀ P : State → Outcome → Prop, (∀ s₂ o, P₀ s₂ o → P s₂ o) → Go tb e below P S') : Go tb e below P₀ S := by
  subst q; exact h P₀ fun _ _ h => h
/-- a value gets a name -/
theorem nm {α : Type} (F : α → Prop) (x : α) (H : ∀ z, z = x → F z) : F x := H x rfl
section Ends
variable {p : Program} {l : Launch} {e : Env} {R : Room} {s : State} {m : MethodId} {args : Array Value} {below : List Frame} {meth : Method} {c : Code} {T : State} {locs : List Loc} {cells slots : Nat}
theorem retGo (X : Stand p l e R s m args below meth c T locs cells slots) (hx : p.tables.exec = Jvm.exec) {P : State → Outcome → Prop} {Q : Option Value → Heap → List Loc → Prop} {kc ks : Nat}
    (hP : ∀ s₂ o, (∃ v L, o = .returned v ∧ Q v s₂.heap L ∧ FrameEnd s o s₂ L kc ks) → P s₂ o) {pc : Nat} {Ls : Array Slot} {w : Value} {t : FieldType} {i : Instr} {rest : List Value} (hret : meth.sig.returnType = some t) (hlk : meth.locks = false) (hn : narrow t w = w)
    (hi : (i = .ireturn ∧ (t = .int ∨ t = .boolean ∨ t = .byte ∨ t = .char ∨ t = .short) ∧ ∃ z, w = .int z) ∨ (i = .lreturn ∧ t = .long ∧ ∃ z, w = .long z) ∨ (i = .dreturn ∧ t = .double ∧ ∃ z, w = .double z) ∨ (i = .freturn ∧ t = .float ∧ ∃ z, w = .float z) ∨ (i = .areturn ∧ t.isReference = true ∧ w.isRef = true))
    (hd : decode c.code pc = .ok (i, 1)) (hc : cells ≤ kc) (hs : slots ≤ ks) (hQ : Q (some w) T.heap locs) : Go p.tables e below P (T.setTop (mkF m pc Ls (w :: rest))) := by
  obtain ⟨fs, hr, hrun, hended, hW, hsame⟩ := X.leave (v := some w) (fun h => by rw [hret] at h; cases h) hlk
  exact ⟨_, _, retOut X hx hret hn hi hd hr, hrun, hended, hP _ _ ⟨_, _, rfl, hQ, ⟨_, rfl⟩, hW, hsame.mono hc hs⟩⟩
theorem retGoW {vm1 : Vm} (X : Stand p l e R (s.setVm vm1) m args below meth c T locs cells slots) (hx : p.tables.exec = Jvm.exec) {n1 : Nat} (hS : s.Since vm1 n1) (hn1 : n1 ≤ T.heap.size) {P : State → Outcome → Prop} {Q : Option Value → Heap → List Loc → Prop} {kc ks : Nat}
    (hP : ∀ s₂ o, (∃ v L, o = .returned v ∧ Q v s₂.heap L ∧ ReturnedEndW s o s₂ L kc ks) → P s₂ o) {pc : Nat} {Ls : Array Slot} {w : Value} {t : FieldType} {i : Instr} {rest : List Value} (hret : meth.sig.returnType = some t) (hlk : meth.locks = false) (hn : narrow t w = w)
    (hi : (i = .ireturn ∧ (t = .int ∨ t = .boolean ∨ t = .byte ∨ t = .char ∨ t = .short) ∧ ∃ z, w = .int z) ∨ (i = .lreturn ∧ t = .long ∧ ∃ z, w = .long z) ∨ (i = .dreturn ∧ t = .double ∧ ∃ z, w = .double z) ∨ (i = .freturn ∧ t = .float ∧ ∃ z, w = .float z) ∨ (i = .areturn ∧ t.isReference = true ∧ w.isRef = true))
    (hd : decode c.code pc = .ok (i, 1)) (hc : cells ≤ kc) (hs : slots ≤ ks) (hQ : Q (some w) T.heap locs) : Go p.tables e below P (T.setTop (mkF m pc Ls (w :: rest))) := by
  obtain ⟨fs, hr, hrun, hended, _, hW, hI, hsame⟩ := X.leaveW hS hn1 (v := some w) (fun h => by rw [hret] at h; cases h) hlk
  exact ⟨_, _, retOut X hx hret hn hi hd hr, hrun, hended, hP _ _ ⟨_, _, rfl, hQ, ⟨_, rfl⟩, hW, hI, hsame.mono hc hs⟩⟩
theorem voidGo (X : Stand p l e R s m args below meth c T locs cells slots) (hx : p.tables.exec = Jvm.exec) {P : State → Outcome → Prop} {Q : Option Value → Heap → List Loc → Prop} {kc ks : Nat}
    (hP : ∀ s₂ o, (∃ v L, o = .returned v ∧ Q v s₂.heap L ∧ FrameEnd s o s₂ L kc ks) → P s₂ o) {pc : Nat} {Ls : Array Slot} (hret : meth.sig.returnType = none) (hlk : meth.locks = false)
    (hd : decode c.code pc = .ok (.return_, 1)) (hc : cells ≤ kc) (hs : slots ≤ ks) (hQ : Q none T.heap locs) : Go p.tables e below P (T.setTop (mkF m pc Ls [])) := by
  obtain ⟨fs, hr, hrun, hended, hW, hsame⟩ := X.leave (v := none) (fun _ => rfl) hlk
  exact ⟨_, _, X.returnOut hx hret hd hr, hrun, hended, hP _ _ ⟨_, _, rfl, hQ, ⟨_, rfl⟩, hW, hsame.mono hc hs⟩⟩
end Ends
/-! branches: what is compared, as whole numbers -/
def rel : ClassFile.Cond → Int → Int → Prop
  | .eq, a, b => a = b
  | .ne, a, b => ¬ a = b
  | .lt, a, b => a < b
  | .ge, a, b => b ≤ a
  | .gt, a, b => b < a
  | .le, a, b => a ≤ b
theorem icY {cd : ClassFile.Cond} {x y : Int32} (h : rel cd x.toInt y.toInt) : if_icmp.holds cd x y = true := by
  cases cd <;> simp only [rel] at h <;> simp [if_icmp.holds, Int32.lt_iff_toInt_lt, Int32.le_iff_toInt_le, ← Int32.toInt_inj] <;> omega
theorem icN {cd : ClassFile.Cond} {x y : Int32} (h : ¬ rel cd x.toInt y.toInt) : if_icmp.holds cd x y = false := by
  cases cd <;> simp only [rel] at h <;> simp [if_icmp.holds, Int32.lt_iff_toInt_lt, Int32.le_iff_toInt_le, ← Int32.toInt_inj] <;> omega
theorem ifY {cd : ClassFile.Cond} {x : Int32} (h : rel cd x.toInt 0) : ifCond.holds cd x = true := (if0 cd x).trans (icY h)
theorem ifN {cd : ClassFile.Cond} {x : Int32} (h : ¬ rel cd x.toInt 0) : ifCond.holds cd x = false := (if0 cd x).trans (icN h)
theorem lcmp_rel {cd : ClassFile.Cond} {x y : Int64} : rel cd (lcmpW x y).toInt 0 ↔ rel cd x.toInt y.toInt := by
  have h1 : x < y ↔ x.toInt < y.toInt := Int64.lt_iff_toInt_lt
  have h2 : y < x ↔ y.toInt < x.toInt := Int64.lt_iff_toInt_lt
  have h3 : x = y ↔ x.toInt = y.toInt := Int64.toInt_inj.symm
  have e1 : (1 : Int32).toInt = 1 := rfl
  have e2 : (-1 : Int32).toInt = -1 := rfl
  have e3 : (0 : Int32).toInt = 0 := rfl
  unfold lcmpW
  by_cases c1 : x > y
  · rw [if_pos c1, e1]; have := h2.mp c1; cases cd <;> simp only [rel] <;> omega
  · rw [if_neg c1]
    have n1 : ¬ y.toInt < x.toInt := fun q => c1 (h2.mpr q)
    by_cases c2 : x = y
    · rw [if_pos c2, e3]; have q := h3.mp c2; cases cd <;> simp only [rel] <;> first | omega | simp [q]
    · rw [if_neg c2, e2]
      have n2 : ¬ x.toInt = y.toInt := fun q => c2 (h3.mpr q)
      cases cd <;> simp only [rel] <;> omega
theorem lcY {cd : ClassFile.Cond} {x y : Int64} (h : rel cd x.toInt y.toInt) : ifCond.holds cd (lcmpW x y) = true := ifY (lcmp_rel.mpr h)
theorem lcN {cd : ClassFile.Cond} {x y : Int64} (h : ¬ rel cd x.toInt y.toInt) : ifCond.holds cd (lcmpW x y) = false := ifN fun q => h (lcmp_rel.mp q)
theorem cmpV_rel {cd : ClassFile.Cond} {op : CmpOp} {i j : Int} : rel cd (cmpValue (some (compare i j)) op).toInt 0 ↔ rel cd i j := by
  have e1 : (1 : Int32).toInt = 1 := rfl
  have e2 : (-1 : Int32).toInt = -1 := rfl
  have e3 : (0 : Int32).toInt = 0 := rfl
  cases h : compare i j with
  | lt => have := (FP.Core.compare_lt_iff i j).mp h; show rel cd (-1 : Int32).toInt 0 ↔ _; rw [e2]; cases cd <;> simp only [rel] <;> omega
  | eq => have := (FP.Core.compare_eq_iff i j).mp h; show rel cd (0 : Int32).toInt 0 ↔ _; rw [e3]; cases cd <;> simp only [rel] <;> first | omega | simp [this]
  | gt => have := (FP.Core.compare_gt_iff i j).mp h; show rel cd (1 : Int32).toInt 0 ↔ _; rw [e1]; cases cd <;> simp only [rel] <;> omega
theorem dcY {cd : ClassFile.Cond} {op : CmpOp} {r : Option Ordering} {i j : Int} (q : r = some (compare i j)) (h : rel cd i j) : ifCond.holds cd (cmpValue r op) = true := by subst q; exact ifY (cmpV_rel.mpr h)
theorem dcN {cd : ClassFile.Cond} {op : CmpOp} {r : Option Ordering} {i j : Int} (q : r = some (compare i j)) (h : ¬ rel cd i j) : ifCond.holds cd (cmpValue r op) = false := by subst q; exact ifN fun z => h (cmpV_rel.mp z)
end Jvm.Pilot.@@N@@.Own
namespace Jvm.Pilot.@@N@@.Own
open Jvm Jvm.FP Jvm.FP.Core
/-! ## doubles as whole numbers of 2^-1074: what rounding leaves -/
/-- a double's value in units of 2^-1074 -/
def zv (a : UInt64) : Int := zval b64 (val64 a)
/-- a is finite and lies between lo * 2^k and hi * 2^k units -/
def DB (k : Nat) (lo hi : Int) (a : UInt64) : Prop := DFin a ∧ lo * ((2 ^ k : Nat) : Int) ≤ zv a ∧ zv a ≤ hi * ((2 ^ k : Nat) : Int)
/-- a is finite and is i * 2^k units -/
abbrev DE (k : Nat) (i : Int) (a : UInt64) : Prop := DB k i i a
theorem DE.eq {k : Nat} {i : Int} {a : UInt64} (h : DE k i a) : zv a = i * ((2 ^ k : Nat) : Int) := Int.le_antisymm h.2.2 h.2.1
theorem DE.of {k : Nat} {i : Int} {a : UInt64} (hf : DFin a) (h : zv a = i * ((2 ^ k : Nat) : Int)) : DE k i a := ⟨hf, Int.le_of_eq h.symm, Int.le_of_eq h⟩
theorem tn32 {q : Int32} (h0 : 0 ≤ q.toInt) : (q.toBitVec.toNat : Int) = q.toInt := by
  have l := q.toBitVec.isLt
  have e : q.toInt = q.toBitVec.toInt := rfl
  rw [e] at h0 ⊢
  rw [BitVec.toInt_eq_toNat_cond] at h0 ⊢
  split at h0 <;> split <;> omega
theorem nmul {a b : Int} {A B : Nat} (ha : a.natAbs ≤ A) (hb : b.natAbs ≤ B) : (a * b).natAbs ≤ A * B := by rw [Int.natAbs_mul]; exact Nat.mul_le_mul ha hb
theorem nab {a : Int} {A : Nat} (h : -(A : Int) ≤ a ∧ a ≤ A) : a.natAbs ≤ A := by omega
theorem bmul {a b : Int} {A B : Nat} (ha : -(A : Int) ≤ a ∧ a ≤ A) (hb : -(B : Int) ≤ b ∧ b ≤ B) : -((A * B : Nat) : Int) ≤ a * b ∧ a * b ≤ ((A * B : Nat) : Int) := by
  have := nmul (nab ha) (nab hb)
  omega
theorem le_mul1 {a b : Int} (ha : 0 ≤ a) (hb : 1 ≤ b) : a ≤ a * b := by have := Int.mul_le_mul_of_nonneg_left hb ha; rwa [Int.mul_one] at this
theorem pw_pos (k : Nat) : (0 : Int) < ((2 ^ k : Nat) : Int) := Int.natCast_pos.mpr (Nat.two_pow_pos k)
theorem DB.nn {k : Nat} {lo hi : Int} {a : UInt64} (h : DB k lo hi a) : Jvm.Free.Fl.NoNaN64 a := Jvm.Free.Fl.noNaN64_no.mpr h.1.notNaN
theorem DB.ne {k : Nat} {lo hi : Int} {a : UInt64} (h : DB k lo hi a) : val64 a ≠ .nan := h.1.ne_nan
/-- a number of 53 digits is a double -/
theorem rep {n : Int} {k : Nat} (hn : n.natAbs ≤ 2 ^ 53) (hk : k ≤ 2044) : ∃ s c q, FP.Core.fits b64 (.fin s c q) ∧ zval b64 (.fin s c q) = n * ((2 ^ k : Nat) : Int) := by
  have key : ∀ (n : Int) (k : Nat), n.natAbs < 2 ^ 53 → k ≤ 2045 → ∃ s c q, FP.Core.fits b64 (.fin s c q) ∧ zval b64 (.fin s c q) = n * ((2 ^ k : Nat) : Int) := by
    intro n k hn hk
    have q1 : b64.qmin = -1074 := by decide
    have q2 : b64.qmax = 971 := by decide
    obtain ⟨c', q', h1, h2⟩ := round_exact good_b64 (decide (n < 0)) (c := n.natAbs) (q := b64.qmin + (k : Int)) (show n.natAbs < 2 ^ b64.p from hn) (by omega) (by omega)
    refine ⟨_, c', q', h1 ▸ round_fits good_b64 _, ?_⟩
    show signed (decide (n < 0)) (inUnits c' q' b64.qmin) = _
    rw [h2]
    unfold inUnits
    rw [signed_mul, show (b64.qmin + (k : Int) - b64.qmin).toNat = k by omega]
    congr 1
    unfold signed
    by_cases h : n < 0 <;> simp [h] <;> omega
  by_cases h : n.natAbs < 2 ^ 53
  · exact key n k h (by omega)
  · have e : n.natAbs = 2 ^ 53 := by omega
    have : ∃ m : Int, n = m * 2 ∧ m.natAbs < 2 ^ 53 := by
      rcases Int.natAbs_eq n with q | q
      · exact ⟨2 ^ 52, by rw [q, e]; decide, by decide⟩
      · exact ⟨-2 ^ 52, by rw [q, e]; decide, by decide⟩
    obtain ⟨m, rfl, hm⟩ := this
    obtain ⟨s, c, q, h1, h2⟩ := key m (k + 1) hm (by omega)
    refine ⟨s, c, q, h1, ?_⟩
    rw [h2, Nat.pow_succ, Int.natCast_mul, Int.mul_assoc]
    congr 1
    rw [Int.mul_comm]; rfl
/-- a number between two finite ones is finite -/
theorem fin_between {a : UInt64} {lo hi : Int} {k : Nat} (hl : lo.natAbs ≤ 2 ^ 53) (hh : hi.natAbs ≤ 2 ^ 53) (hk : k ≤ 2044) (hn : val64 a ≠ .nan) (h1 : lo * ((2 ^ k : Nat) : Int) ≤ zv a) (h2 : zv a ≤ hi * ((2 ^ k : Nat) : Int)) : DB k lo hi a := by
  refine ⟨?_, h1, h2⟩
  obtain ⟨s1, c1, q1, f1, e1⟩ := rep hl hk
  obtain ⟨s2, c2, q2, f2, e2⟩ := rep hh hk
  have t1 : zmag b64 (.fin s1 c1 q1) < b64.tails * 2 ^ (b64.exps - 2) := zmag_lt_top good_b64 f1
  have t2 : zmag b64 (.fin s2 c2 q2) < b64.tails * 2 ^ (b64.exps - 2) := zmag_lt_top good_b64 f2
  rw [← e1] at h1
  rw [← e2] at h2
  unfold zv at h1 h2
  cases hv : val64 a with
  | nan => exact absurd hv hn
  | fin s c q => exact ⟨s, c, q, hv⟩
  | inf s =>
    exfalso
    rw [hv] at h1 h2
    have z : zmag b64 (.inf s) = b64.tails * 2 ^ (b64.exps - 2) := rfl
    unfold zval at h1 h2
    rw [z] at h1 h2
    generalize b64.tails * 2 ^ (b64.exps - 2) = top at *
    generalize zmag b64 (.fin s1 c1 q1) = m1 at *
    generalize zmag b64 (.fin s2 c2 q2) = m2 at *
    simp only [sgn] at h1 h2
    cases s <;> cases s1 <;> cases s2 <;> simp only [signed, if_true, Bool.false_eq_true, if_false] at h1 h2 <;> omega
theorem qmin_sub : ((2 ^ (b64.qmin - b64.qmin).toNat : Nat) : Int) = 1 := by rw [Int.sub_self]; rfl
/-- what lies between two numbers of 53 digits is rounded to something between them -/
theorem round_between {s : Bool} {c : Nat} {q : Int} {lo hi : Int} {k : Nat} {a : UInt64} (ha : val64 a = round b64 (.fin s c q)) (hl : lo.natAbs ≤ 2 ^ 53) (hh : hi.natAbs ≤ 2 ^ 53) (hk : k ≤ 2044) {e0 : Int} (h0 : e0 ≤ b64.qmin) (h0e : e0 ≤ q)
    (h1 : lo * ((2 ^ k : Nat) : Int) * ((2 ^ (b64.qmin - e0).toNat : Nat) : Int) ≤ signed s (inUnits c q e0)) (h2 : signed s (inUnits c q e0) ≤ hi * ((2 ^ k : Nat) : Int) * ((2 ^ (b64.qmin - e0).toNat : Nat) : Int)) : DB k lo hi a := by
  obtain ⟨s1, c1, q1, f1, e1⟩ := rep hl hk
  obtain ⟨s2, c2, q2, f2, e2⟩ := rep hh hk
  have hn : val64 a ≠ .nan := by rw [ha]; exact roundRatio_ne_nan _ _ _ _ _
  refine fin_between hl hh hk hn ?_ ?_
  · unfold zv; rw [ha, ← e1]; exact zval_round_ge good_b64 f1 (by simp) h0 h0e (by rw [e1]; exact h1)
  · unfold zv; rw [ha, ← e2]; exact zval_round_le good_b64 f2 (by simp) h0 h0e (by rw [e2]; exact h2)
theorem add_b {a b : UInt64} {k : Nat} {l1 h1 l2 h2 lo hi : Int} (ha : DB k l1 h1 a) (hb : DB k l2 h2 b) (hlo : lo ≤ l1 + l2) (hhi : h1 + h2 ≤ hi) (hl : lo.natAbs ≤ 2 ^ 53) (hh : hi.natAbs ≤ 2 ^ 53) (hk : k ≤ 2044) : DB k lo hi (FP.dadd a b) := by
  obtain ⟨⟨s, c, q, va⟩, a1, a2⟩ := ha
  obtain ⟨⟨t, d, r, vb⟩, b1, b2⟩ := hb
  have hv := val64_dadd a b
  have fa := val64_fits a
  have fb := val64_fits b
  unfold zv at a1 a2 b1 b2
  rw [va] at hv fa a1 a2
  rw [vb] at hv fb b1 b2
  obtain ⟨sg, n, e, h3, h4, h5⟩ := sum_units fa fb
  rw [h3] at hv
  have hp := pw_pos k
  refine round_between hv hl hh hk (e0 := b64.qmin) (Int.le_refl _) h4 ?_ ?_
  · rw [h5, qmin_sub, Int.mul_one]
    have := Int.mul_le_mul_of_nonneg_right hlo (Int.le_of_lt hp)
    rw [Int.add_mul] at this
    omega
  · rw [h5, qmin_sub, Int.mul_one]
    have := Int.mul_le_mul_of_nonneg_right hhi (Int.le_of_lt hp)
    rw [Int.add_mul] at this
    omega
theorem zv_dneg {a : UInt64} : zv (FP.dneg a) = -zv a := by unfold zv; rw [FP.val64_dneg, zval_negate]
theorem neg_b {a : UInt64} {k : Nat} {lo hi : Int} (ha : DB k lo hi a) : DB k (-hi) (-lo) (FP.dneg a) := by
  refine ⟨?_, ?_, ?_⟩
  · obtain ⟨s, c, q, va⟩ := ha.1
    exact ⟨!s, c, q, by rw [FP.val64_dneg, va]; rfl⟩
  · rw [zv_dneg, Int.neg_mul]; have := ha.2.2; omega
  · rw [zv_dneg, Int.neg_mul]; have := ha.2.1; omega
theorem sub_b {a b : UInt64} {k : Nat} {l1 h1 l2 h2 lo hi : Int} (ha : DB k l1 h1 a) (hb : DB k l2 h2 b) (hlo : lo ≤ l1 - h2) (hhi : h1 - l2 ≤ hi) (hl : lo.natAbs ≤ 2 ^ 53) (hh : hi.natAbs ≤ 2 ^ 53) (hk : k ≤ 2044) : DB k lo hi (FP.dsub a b) := by
  have e : FP.dsub a b = FP.dadd a (FP.dneg b) := by
    rw [FP.dneg_core hb.1.notNaN]; exact dsub_eq a b
  rw [e]
  exact add_b ha (neg_b hb) (by omega) (by omega) hl hh hk
theorem pw_1074 : ((2 ^ (b64.qmin - 2 * b64.qmin).toNat : Nat) : Int) = ((2 ^ 1074 : Nat) : Int) := by
  rw [show (b64.qmin - 2 * b64.qmin).toNat = 1074 by decide]
/-- the exact product of the two lies between -/
theorem mul_z {a b : UInt64} {k : Nat} {lo hi : Int} (fa : DFin a) (fb : DFin b) (h1 : lo * ((2 ^ k : Nat) : Int) * ((2 ^ 1074 : Nat) : Int) ≤ zv a * zv b) (h2 : zv a * zv b ≤ hi * ((2 ^ k : Nat) : Int) * ((2 ^ 1074 : Nat) : Int)) (hl : lo.natAbs ≤ 2 ^ 53) (hh : hi.natAbs ≤ 2 ^ 53) (hk : k ≤ 2044) : DB k lo hi (FP.dmul a b) := by
  obtain ⟨s, c, q, va⟩ := fa
  obtain ⟨t, d, r, vb⟩ := fb
  have hv := val64_dmul a b
  have fa := val64_fits a
  have fb := val64_fits b
  unfold zv at h1 h2
  rw [va] at hv fa h1 h2
  rw [vb] at hv fb h1 h2
  obtain ⟨g1, g2, g3⟩ := product_units fa fb
  rw [g1] at hv
  have e : signed (s != t) (inUnits (c * d) (q + r) (2 * b64.qmin)) = zval b64 (.fin s c q) * zval b64 (.fin t d r) := by
    rw [g3, signed_xor]; rfl
  refine round_between hv hl hh hk (e0 := 2 * b64.qmin) (by decide) g2 ?_ ?_
  · rw [e, pw_1074]; exact h1
  · rw [e, pw_1074]; exact h2
theorem pw_add (a b : Nat) : ((2 ^ (a + b) : Nat) : Int) = ((2 ^ a : Nat) : Int) * ((2 ^ b : Nat) : Int) := by rw [Nat.pow_add, Int.natCast_mul]
theorem mul_e {a b : UInt64} {k k1 k2 : Nat} {i j n : Int} (ha : DE k1 i a) (hb : DE k2 j b) (hk : k1 + k2 = k + 1074) (hn : i * j = n) (hh : n.natAbs ≤ 2 ^ 53) (hk' : k ≤ 2044) : DE k n (FP.dmul a b) := by
  have e : zv a * zv b = n * ((2 ^ k : Nat) : Int) * ((2 ^ 1074 : Nat) : Int) := by
    rw [ha.eq, hb.eq, ← hn, Int.mul_assoc (i * j), ← pw_add, ← hk, pw_add]
    simp only [Int.mul_assoc, Int.mul_left_comm]
  exact mul_z ha.1 hb.1 (Int.le_of_eq e.symm) (Int.le_of_eq e) hh hh hk'
/-- a bounded one times a known one that isn't negative -/
theorem mul_b {a b : UInt64} {k k1 k2 : Nat} {l1 h1 j lo hi : Int} (ha : DB k1 l1 h1 a) (hb : DE k2 j b) (hj : 0 ≤ j) (hk : k1 + k2 = k + 1074) (hlo : lo ≤ l1 * j) (hhi : h1 * j ≤ hi) (hl : lo.natAbs ≤ 2 ^ 53) (hh : hi.natAbs ≤ 2 ^ 53) (hk' : k ≤ 2044) : DB k lo hi (FP.dmul a b) := by
  have p1 := pw_pos k1
  have p2 := pw_pos k2
  have hz : 0 ≤ zv b := by rw [hb.eq]; exact Int.mul_nonneg hj (Int.le_of_lt p2)
  have e : ∀ x : Int, x * j * ((2 ^ k : Nat) : Int) * ((2 ^ 1074 : Nat) : Int) = x * ((2 ^ k1 : Nat) : Int) * zv b := fun x => by
    rw [hb.eq, Int.mul_assoc (x * j), ← pw_add, ← hk, pw_add]
    simp only [Int.mul_assoc, Int.mul_left_comm]
  have up : ∀ {x y : Int}, x ≤ y → x * ((2 ^ k : Nat) : Int) * ((2 ^ 1074 : Nat) : Int) ≤ y * ((2 ^ k : Nat) : Int) * ((2 ^ 1074 : Nat) : Int) := fun h =>
    Int.mul_le_mul_of_nonneg_right (Int.mul_le_mul_of_nonneg_right h (Int.le_of_lt (pw_pos _))) (Int.le_of_lt (pw_pos _))
  refine mul_z ha.1 hb.1 ?_ ?_ hl hh hk'
  · refine Int.le_trans (up hlo) ?_
    rw [e]; exact Int.mul_le_mul_of_nonneg_right ha.2.1 hz
  · refine Int.le_trans ?_ (up hhi)
    rw [e]; exact Int.mul_le_mul_of_nonneg_right ha.2.2 hz
theorem pw3 {A B C D E : Nat} (c : Nat) (h : A + B = C + D + E) : c * 2 ^ A * 2 ^ B = c * 2 ^ C * 2 ^ D * 2 ^ E := by
  rw [Nat.mul_assoc, ← Nat.pow_add, h, Nat.pow_add, Nat.pow_add, ← Nat.mul_assoc, ← Nat.mul_assoc]
theorem ev_aux (V : Int) (n d y : Nat) : V * ((2 ^ n * d : Nat) : Int) * ((2 ^ y : Nat) : Int) = V * ((d * 2 ^ y : Nat) : Int) * ((2 ^ n : Nat) : Int) := by
  rw [Int.natCast_mul, Int.natCast_mul]
  generalize ((2 ^ n : Nat) : Int) = x
  generalize ((2 ^ y : Nat) : Int) = z
  simp only [Int.mul_assoc, Int.mul_comm, Int.mul_left_comm]
/-- the quotient, with signs -/
theorem ratio_le {s : Bool} {A B : Nat} {e e0 : Int} {V : Datum} (hB : 0 < B) (hV : FP.Core.fits b64 V) (hn : V ≠ .nan) (h0 : e0 ≤ b64.qmin) (h0e : e0 ≤ e)
    (h : signed s (inUnits A e e0) ≤ zval b64 V * ((2 ^ (b64.qmin - e0).toNat * B : Nat) : Int)) : zval b64 (roundRatio b64 s A B e) ≤ zval b64 V := by
  have hle := zmag_roundRatio_le good_b64 (s := s) (A := A) hB hV hn h0 h0e
  have hge := zmag_roundRatio_ge good_b64 (s := s) (A := A) hB hV h0 h0e
  rw [Nat.mul_assoc] at hle hge
  have hP : 0 < 2 ^ (b64.qmin - e0).toNat * B := Nat.mul_pos (Nat.two_pow_pos _) hB
  unfold zval at h ⊢
  rw [sgn_roundRatio]
  rw [← signed_mul] at h
  have hz : zmag b64 V * (2 ^ (b64.qmin - e0).toNat * B) = 0 → zmag b64 V = 0 := by
    intro h
    rcases Nat.mul_eq_zero.mp h with h | h <;> omega
  generalize zmag b64 V * (2 ^ (b64.qmin - e0).toNat * B) = vP at *
  generalize sgn V = t at *
  cases s <;> cases t <;> simp only [signed, if_true, Bool.false_eq_true, if_false] at h ⊢
  · have := hle (by omega); omega
  · have := hle (by omega); have := hz (by omega); omega
  · omega
  · have := hge (by omega); omega
theorem ratio_ge {s : Bool} {A B : Nat} {e e0 : Int} {V : Datum} (hB : 0 < B) (hV : FP.Core.fits b64 V) (hn : V ≠ .nan) (h0 : e0 ≤ b64.qmin) (h0e : e0 ≤ e)
    (h : zval b64 V * ((2 ^ (b64.qmin - e0).toNat * B : Nat) : Int) ≤ signed s (inUnits A e e0)) : zval b64 V ≤ zval b64 (roundRatio b64 s A B e) := by
  have h1 := ratio_le (s := !s) (A := A) (B := B) (e := e) (V := negate V) hB (negate_fits hV) (negate_ne_nan hn) h0 h0e (by
    rw [zval_negate, Int.neg_mul]
    have : signed (!s) (inUnits A e e0) = -signed s (inUnits A e e0) := by cases s <;> simp [signed]
    rw [this]; omega)
  rw [zval_negate, ← negate_roundRatio, zval_negate] at h1
  omega
/-- the quotient by a positive number: no NaN, and at the least, at the most, what is so when multiplied back -/
theorem div_zz {a b : UInt64} (fa : DFin a) (fb : DFin b) (hb : 0 < zv b) : val64 (FP.ddiv a b) ≠ .nan ∧
    (∀ {k : Nat} {lo : Int}, lo.natAbs ≤ 2 ^ 53 → k ≤ 2044 → lo * ((2 ^ k : Nat) : Int) * zv b ≤ zv a * ((2 ^ 1074 : Nat) : Int) → lo * ((2 ^ k : Nat) : Int) ≤ zv (FP.ddiv a b)) ∧
    (∀ {k : Nat} {hi : Int}, hi.natAbs ≤ 2 ^ 53 → k ≤ 2044 → zv a * ((2 ^ 1074 : Nat) : Int) ≤ hi * ((2 ^ k : Nat) : Int) * zv b → zv (FP.ddiv a b) ≤ hi * ((2 ^ k : Nat) : Int)) := by
  obtain ⟨s, c, q, va⟩ := fa
  obtain ⟨t, d, r, vb⟩ := fb
  have hv := val64_ddiv a b
  have fa := val64_fits a
  have fb := val64_fits b
  have zea : zv a = zval b64 (.fin s c q) := by unfold zv; rw [va]
  have zeb : zv b = zval b64 (.fin t d r) := by unfold zv; rw [vb]
  rw [zea, zeb]
  rw [zeb] at hb
  rw [va] at hv fa
  rw [vb] at hv fb
  have qn : b64.qmin = -1074 := by decide
  have qx : b64.qmax = 971 := by decide
  have fa2 := fa.2.1
  have fb2 := fb.2.1
  have fb3 := fb.2.2.1
  have zb : zval b64 (.fin t d r) = signed t (d * 2 ^ (r - b64.qmin).toNat) := rfl
  have za : zval b64 (.fin s c q) = signed s (c * 2 ^ (q - b64.qmin).toNat) := rfl
  have hd : 0 < d := by
    refine Nat.pos_of_ne_zero fun e => ?_
    rw [zb, e, Nat.zero_mul, signed_zero] at hb
    omega
  have ht : t = false := by
    cases t with
    | false => rfl
    | true => rw [zb] at hb; simp only [signed, if_true] at hb; omega
  subst ht
  have hq : quotient b64 (.fin s c q) (.fin false d r) = roundRatio b64 s c d (q - r) := by
    show (if d = 0 then _ else roundRatio b64 (s != false) c d (q - r)) = _
    rw [if_neg (by omega)]; cases s <;> rfl
  rw [hq] at hv
  have hn : val64 (Core.ddiv a b) ≠ .nan := by rw [hv]; exact roundRatio_ne_nan _ _ _ _ _
  -- both sides times 2^(r - qmin)
  have hP := pw_pos (r - b64.qmin).toNat
  have ex : signed s (inUnits c (q - r) (2 * b64.qmin)) * ((2 ^ (r - b64.qmin).toNat : Nat) : Int) = zval b64 (.fin s c q) * ((2 ^ 1074 : Nat) : Int) * ((2 ^ 1074 : Nat) : Int) := by
    rw [za, ← signed_mul, ← signed_mul, ← signed_mul]
    exact congrArg (signed s) (pw3 (A := (q - r - 2 * b64.qmin).toNat) (D := 1074) (E := 1074) c (by omega))
  have ev : ∀ V : Int, V * ((2 ^ (b64.qmin - 2 * b64.qmin).toNat * d : Nat) : Int) * ((2 ^ (r - b64.qmin).toNat : Nat) : Int) = V * zval b64 (.fin false d r) * ((2 ^ 1074 : Nat) : Int) := fun V => by
    rw [zb, show (b64.qmin - 2 * b64.qmin).toNat = 1074 by decide]
    exact ev_aux V 1074 d _
  have p1074 := pw_pos 1074
  refine ⟨hn, fun {k lo} hl hk h1 => ?_, fun {k hi} hh hk h2 => ?_⟩
  · obtain ⟨s1, c1, q1, f1, e1⟩ := rep hl hk
    unfold zv; rw [hv, ← e1]
    refine ratio_ge hd f1 (by simp) (e0 := 2 * b64.qmin) (by decide) (by omega) ?_
    refine Int.le_of_mul_le_mul_right ?_ hP
    rw [ev, ex, e1]
    exact Int.mul_le_mul_of_nonneg_right h1 (Int.le_of_lt p1074)
  · obtain ⟨s2, c2, q2, f2, e2⟩ := rep hh hk
    unfold zv; rw [hv, ← e2]
    refine ratio_le hd f2 (by simp) (e0 := 2 * b64.qmin) (by decide) (by omega) ?_
    refine Int.le_of_mul_le_mul_right ?_ hP
    rw [ev, ex, e2]
    exact Int.mul_le_mul_of_nonneg_right h2 (Int.le_of_lt p1074)
/-- between lo and hi -/
theorem div_z {a b : UInt64} {k : Nat} {lo hi : Int} (fa : DFin a) (fb : DFin b) (hb : 0 < zv b) (h1 : lo * ((2 ^ k : Nat) : Int) * zv b ≤ zv a * ((2 ^ 1074 : Nat) : Int)) (h2 : zv a * ((2 ^ 1074 : Nat) : Int) ≤ hi * ((2 ^ k : Nat) : Int) * zv b) (hl : lo.natAbs ≤ 2 ^ 53) (hh : hi.natAbs ≤ 2 ^ 53) (hk : k ≤ 2044) : DB k lo hi (FP.ddiv a b) := by
  obtain ⟨n, ge, le⟩ := div_zz fa fb hb
  exact fin_between hl hh hk n (ge hl hk h1) (le hh hk h2)
/-- the quotient of two known numbers, the second one positive -/
theorem div_b {a b : UInt64} {k k1 k2 : Nat} {i j lo hi : Int} (ha : DE k1 i a) (hb : DE k2 j b) (hj : 0 < j) (hk : k1 + 1074 = k + k2) (hlo : lo * j ≤ i) (hhi : i ≤ hi * j) (hl : lo.natAbs ≤ 2 ^ 53) (hh : hi.natAbs ≤ 2 ^ 53) (hk' : k ≤ 2044) : DB k lo hi (FP.ddiv a b) := by
  have p2 := pw_pos k2
  have e : ∀ x : Int, x * ((2 ^ k : Nat) : Int) * zv b = x * j * ((2 ^ (k1 + 1074) : Nat) : Int) := fun x => by
    rw [hb.eq, hk, pw_add]
    simp only [Int.mul_assoc, Int.mul_left_comm]
  have e2 : zv a * ((2 ^ 1074 : Nat) : Int) = i * ((2 ^ (k1 + 1074) : Nat) : Int) := by rw [ha.eq, pw_add, Int.mul_assoc]
  refine div_z ha.1 hb.1 (by rw [hb.eq]; exact Int.mul_pos hj p2) ?_ ?_ hl hh hk'
  · rw [e, e2]; exact Int.mul_le_mul_of_nonneg_right hlo (Int.le_of_lt (pw_pos _))
  · rw [e, e2]; exact Int.mul_le_mul_of_nonneg_right hhi (Int.le_of_lt (pw_pos _))
theorem div_e {a b : UInt64} {k k1 k2 : Nat} {i j n : Int} (ha : DE k1 i a) (hb : DE k2 j b) (hj : 0 < j) (hk : k1 + 1074 = k + k2) (hn : n * j = i) (hh : n.natAbs ≤ 2 ^ 53) (hk' : k ≤ 2044) : DE k n (FP.ddiv a b) :=
  div_b ha hb hj hk (Int.le_of_eq hn) (Int.le_of_eq hn.symm) hh hh hk'
theorem add_e {a b : UInt64} {k : Nat} {i j n : Int} (ha : DE k i a) (hb : DE k j b) (hn : i + j = n) (hh : n.natAbs ≤ 2 ^ 53) (hk : k ≤ 2044) : DE k n (FP.dadd a b) := add_b ha hb (Int.le_of_eq hn.symm) (Int.le_of_eq hn) hh hh hk
theorem sub_e {a b : UInt64} {k : Nat} {i j n : Int} (ha : DE k i a) (hb : DE k j b) (hn : i - j = n) (hh : n.natAbs ≤ 2 ^ 53) (hk : k ≤ 2044) : DE k n (FP.dsub a b) := sub_b ha hb (Int.le_of_eq hn.symm) (Int.le_of_eq hn) hh hh hk
theorem i2d_e (x : Int32) : DE 1074 x.toInt (FP.i2d x) := DE.of (Core.i2d_fin x) (DInt_zval (i2d_int x))
theorem l2d_e {x : Int64} (h : x.toInt.natAbs ≤ 2 ^ 53) : DE 1074 x.toInt (FP.l2d x) := DE.of (Core.l2d_fin x) (DInt_zval (l2d_int h))
theorem zero_e (k : Nat) : DE k 0 FP.dconst0 := DE.of ⟨_, _, _, rfl⟩ (by rw [Int.zero_mul]; exact zval64_zero)
/-- in smaller units -/
theorem DB.down {a : UInt64} {k : Nat} {lo hi : Int} (h : DB k lo hi a) {k' n : Nat} (hk : k = k' + n) : DB k' (lo * ((2 ^ n : Nat) : Int)) (hi * ((2 ^ n : Nat) : Int)) a := by
  subst hk
  refine ⟨h.1, ?_, ?_⟩
  · have := h.2.1; rw [Nat.add_comm, pw_add, ← Int.mul_assoc] at this; exact this
  · have := h.2.2; rw [Nat.add_comm, pw_add, ← Int.mul_assoc] at this; exact this
/-- the quotient from below alone -/
theorem div_ge {a b : UInt64} {k k1 k2 : Nat} {i j lo : Int} (ha : DE k1 i a) (hb : DE k2 j b) (hj : 0 < j) (hk : k1 + 1074 = k + k2) (hlo : lo * j ≤ i) (hl : lo.natAbs ≤ 2 ^ 53) (hk' : k ≤ 2044) : lo * ((2 ^ k : Nat) : Int) ≤ zv (FP.ddiv a b) := by
  have p2 := pw_pos k2
  have e : ∀ x : Int, x * ((2 ^ k : Nat) : Int) * zv b = x * j * ((2 ^ (k1 + 1074) : Nat) : Int) := fun x => by
    rw [hb.eq, hk, pw_add]
    simp only [Int.mul_assoc, Int.mul_left_comm]
  have e2 : zv a * ((2 ^ 1074 : Nat) : Int) = i * ((2 ^ (k1 + 1074) : Nat) : Int) := by rw [ha.eq, pw_add, Int.mul_assoc]
  refine (div_zz ha.1 hb.1 (by rw [hb.eq]; exact Int.mul_pos hj p2)).2.1 hl hk' ?_
  rw [e, e2]; exact Int.mul_le_mul_of_nonneg_right hlo (Int.le_of_lt (pw_pos _))
/-- in greater units -/
theorem DB.up {a : UInt64} {k : Nat} {lo hi : Int} {n : Nat} (h : DB k (lo * ((2 ^ n : Nat) : Int)) (hi * ((2 ^ n : Nat) : Int)) a) : DB (k + n) lo hi a := by
  refine ⟨h.1, ?_, ?_⟩
  · have := h.2.1; rw [Int.mul_assoc, ← pw_add, Nat.add_comm] at this; exact this
  · have := h.2.2; rw [Int.mul_assoc, ← pw_add, Nat.add_comm] at this; exact this
/-- the product of two known numbers, between two that lie on a grid 2^g times as coarse -/
theorem mul_g {a b : UInt64} {k k1 k2 g : Nat} {i j lo hi : Int} (ha : DE k1 i a) (hb : DE k2 j b) (hk : k1 + k2 + g = k + 1074) (hlo : lo * ((2 ^ g : Nat) : Int) ≤ i * j) (hhi : i * j ≤ hi * ((2 ^ g : Nat) : Int)) (hl : lo.natAbs ≤ 2 ^ 53) (hh : hi.natAbs ≤ 2 ^ 53) (hk' : k ≤ 2044) : DB k lo hi (FP.dmul a b) := by
  have e : zv a * zv b = i * j * ((2 ^ (k1 + k2) : Nat) : Int) := by
    rw [ha.eq, hb.eq, pw_add]
    simp only [Int.mul_assoc, Int.mul_left_comm]
  have e2 : ∀ x : Int, x * ((2 ^ k : Nat) : Int) * ((2 ^ 1074 : Nat) : Int) = x * ((2 ^ g : Nat) : Int) * ((2 ^ (k1 + k2) : Nat) : Int) := fun x => by
    rw [Int.mul_assoc, ← pw_add, ← hk, Nat.add_comm, pw_add, ← Int.mul_assoc]
  refine mul_z ha.1 hb.1 ?_ ?_ hl hh hk'
  · rw [e, e2]; exact Int.mul_le_mul_of_nonneg_right hlo (Int.le_of_lt (pw_pos _))
  · rw [e, e2]; exact Int.mul_le_mul_of_nonneg_right hhi (Int.le_of_lt (pw_pos _))
theorem DB.wide {a : UInt64} {k : Nat} {lo hi lo' hi' : Int} (h : DB k lo hi a) (h1 : lo' ≤ lo) (h2 : hi ≤ hi') : DB k lo' hi' a :=
  ⟨h.1, Int.le_trans (Int.mul_le_mul_of_nonneg_right h1 (Int.le_of_lt (pw_pos k))) h.2.1, Int.le_trans h.2.2 (Int.mul_le_mul_of_nonneg_right h2 (Int.le_of_lt (pw_pos k)))⟩
theorem DE.cmp {a b : UInt64} {k : Nat} {i j : Int} (ha : DE k i a) (hb : DE k j b) : FP.dcmp a b = some (compare i j) := by
  rw [show FP.dcmp a b = some (compare (zv a) (zv b)) from dcmp_zval ha.ne hb.ne, ha.eq, hb.eq, compare_mul_pos _ _ _ (pw_pos k)]
theorem DB.lt {a b : UInt64} {k : Nat} {l1 h1 l2 h2 : Int} (ha : DB k l1 h1 a) (hb : DB k l2 h2 b) (h : h1 < l2) : FP.dcmp a b = some .lt := by
  rw [show FP.dcmp a b = some (compare (zv a) (zv b)) from dcmp_zval ha.ne hb.ne]
  congr 1
  rw [compare_lt_iff]
  have := Int.mul_lt_mul_of_pos_right h (pw_pos k)
  have := ha.2.2; have := hb.2.1
  omega
theorem DB.gt {a b : UInt64} {k : Nat} {l1 h1 l2 h2 : Int} (ha : DB k l1 h1 a) (hb : DB k l2 h2 b) (h : h2 < l1) : FP.dcmp a b = some .gt := by
  rw [show FP.dcmp a b = some (compare (zv a) (zv b)) from dcmp_zval ha.ne hb.ne]
  congr 1
  rw [compare_gt_iff]
  have := Int.mul_lt_mul_of_pos_right h (pw_pos k)
  have := ha.2.1; have := hb.2.2
  omega
/-- two doubles of one value that isn't nought are one -/
theorem DE.uniq {a b : UInt64} {k : Nat} {i : Int} (ha : DE k i a) (hb : DE k i b) (hi : i ≠ 0) : a = b := by
  have h1 := dcmp_key ha.ne hb.ne
  rw [dcmp_zval ha.ne hb.ne] at h1
  have e : zval b64 (val64 a) = zval b64 (val64 b) := (ha.eq).trans hb.eq.symm
  have h2 := Option.some.inj h1
  rw [(compare_eq_iff _ _).mpr e] at h2
  have h3 := (compare_eq_iff _ _).mp h2.symm
  have nz : ∀ {c : UInt64}, DE k i c → dkey c ≠ 0 := fun {c} hc h0 => by
    have q := dcmp_key hc.ne (b := 0) (by rw [val64_zero]; simp)
    rw [dcmp_zval hc.ne (by rw [val64_zero]; simp), zval64_zero] at q
    have q2 := Option.some.inj q
    have z : dkey 0 = 0 := by decide
    rw [h0, z, (compare_eq_iff (0 : Int) 0).mpr rfl] at q2
    have q3 := (compare_eq_iff _ _).mp q2
    have q4 : zv c = 0 := q3
    rw [hc.eq] at q4
    rcases Int.mul_eq_zero.mp q4 with q5 | q5
    · exact hi q5
    · have := pw_pos k; omega
  have n1 := nz ha
  have n2 := nz hb
  unfold dkey at h3 n1 n2
  apply UInt64.toNat_inj.mp
  have l1 := a.toNat_lt; have l2 := b.toNat_lt
  split at h3 <;> split at h3 <;> simp_all <;> omega
end Jvm.Pilot.@@N@@.Own
namespace Jvm.Pilot.@@N@@.Own
open Jvm Jvm.ClassFile Sem Op Lib Jvm.Free Jvm.Stand Jvm.LawKit Jvm.RoadKit
theorem iadd_v {tb : Tables} [Ours tb] {e : Env} {below : List Frame} {T target : State} {m : MethodId} {c : Code} {g : JFrame} (h : At T m c below) (hx : tb.exec = Jvm.exec) (hg : g.method = m) {x : Int32} {y : Int32} {v : Int32} {rest : List Value} (hd : decode c.code g.pc = .ok (.iadd, 1)) (hs : g.stack = .int y :: .int x :: rest) (hv : x + y = v)
    (hr : Steps tb e below (T.setTop { g with pc := g.pc + 1, stack := .int v :: rest }) target) : Steps tb e below (T.setTop g) target := by subst hv; exact XS.iadd h hx hg hd hs hr
theorem isub_v {tb : Tables} [Ours tb] {e : Env} {below : List Frame} {T target : State} {m : MethodId} {c : Code} {g : JFrame} (h : At T m c below) (hx : tb.exec = Jvm.exec) (hg : g.method = m) {x : Int32} {y : Int32} {v : Int32} {rest : List Value} (hd : decode c.code g.pc = .ok (.isub, 1)) (hs : g.stack = .int y :: .int x :: rest) (hv : x - y = v)
    (hr : Steps tb e below (T.setTop { g with pc := g.pc + 1, stack := .int v :: rest }) target) : Steps tb e below (T.setTop g) target := by subst hv; exact XS.isub h hx hg hd hs hr
theorem iand_v {tb : Tables} [Ours tb] {e : Env} {below : List Frame} {T target : State} {m : MethodId} {c : Code} {g : JFrame} (h : At T m c below) (hx : tb.exec = Jvm.exec) (hg : g.method = m) {x : Int32} {y : Int32} {v : Int32} {rest : List Value} (hd : decode c.code g.pc = .ok (.iand, 1)) (hs : g.stack = .int y :: .int x :: rest) (hv : x &&& y = v)
    (hr : Steps tb e below (T.setTop { g with pc := g.pc + 1, stack := .int v :: rest }) target) : Steps tb e below (T.setTop g) target := by subst hv; exact XS.iand h hx hg hd hs hr
theorem irem_v {tb : Tables} [Ours tb] {e : Env} {below : List Frame} {T target : State} {m : MethodId} {c : Code} {g : JFrame} (h : At T m c below) (hx : tb.exec = Jvm.exec) (hg : g.method = m) {x : Int32} {y : Int32} {v : Int32} {rest : List Value} (hd : decode c.code g.pc = .ok (.irem, 1)) (hs : g.stack = .int y :: .int x :: rest) (hy : ¬ y = 0) (hv : x % y = v)
    (hr : Steps tb e below (T.setTop { g with pc := g.pc + 1, stack := .int v :: rest }) target) : Steps tb e below (T.setTop g) target := by subst hv; exact XS.irem h hx hg hd hs hy (by rw [irem_eq_mod]; exact hr)
theorem i2l_v {tb : Tables} [Ours tb] {e : Env} {below : List Frame} {T target : State} {m : MethodId} {c : Code} {g : JFrame} (h : At T m c below) (hx : tb.exec = Jvm.exec) (hg : g.method = m) {x : Int32} {v : Int64} {rest : List Value} (hd : decode c.code g.pc = .ok (.i2l, 1)) (hs : g.stack = .int x :: rest) (hv : x.toInt64 = v)
    (hr : Steps tb e below (T.setTop { g with pc := g.pc + 1, stack := .long v :: rest }) target) : Steps tb e below (T.setTop g) target := by subst hv; exact XS.i2l h hx hg hd hs hr
theorem land_v {tb : Tables} [Ours tb] {e : Env} {below : List Frame} {T target : State} {m : MethodId} {c : Code} {g : JFrame} (h : At T m c below) (hx : tb.exec = Jvm.exec) (hg : g.method = m) {x : Int64} {y : Int64} {v : Int64} {rest : List Value} (hd : decode c.code g.pc = .ok (.land, 1)) (hs : g.stack = .long y :: .long x :: rest) (hv : x &&& y = v)
    (hr : Steps tb e below (T.setTop { g with pc := g.pc + 1, stack := .long v :: rest }) target) : Steps tb e below (T.setTop g) target := by subst hv; exact XS.land h hx hg hd hs hr
theorem ladd_v {tb : Tables} [Ours tb] {e : Env} {below : List Frame} {T target : State} {m : MethodId} {c : Code} {g : JFrame} (h : At T m c below) (hx : tb.exec = Jvm.exec) (hg : g.method = m) {x : Int64} {y : Int64} {v : Int64} {rest : List Value} (hd : decode c.code g.pc = .ok (.ladd, 1)) (hs : g.stack = .long y :: .long x :: rest) (hv : x + y = v)
    (hr : Steps tb e below (T.setTop { g with pc := g.pc + 1, stack := .long v :: rest }) target) : Steps tb e below (T.setTop g) target := by subst hv; exact XS.ladd h hx hg hd hs hr
theorem iushr_v {tb : Tables} [Ours tb] {e : Env} {below : List Frame} {T target : State} {m : MethodId} {c : Code} {g : JFrame} (h : At T m c below) (hx : tb.exec = Jvm.exec) (hg : g.method = m) {x : Int32} {y : Int32} {v : Int32} {rest : List Value} (hd : decode c.code g.pc = .ok (.iushr, 1)) (hs : g.stack = .int y :: .int x :: rest) (hv : ((x.toUInt32 >>> (y &&& 31).toUInt32).toInt32) = v)
    (hr : Steps tb e below (T.setTop { g with pc := g.pc + 1, stack := .int v :: rest }) target) : Steps tb e below (T.setTop g) target := by subst hv; exact XS.iushr h hx hg hd hs hr
end Jvm.Pilot.@@N@@.Own
namespace Jvm.Pilot.@@N@@.Own
open Jvm Jvm.FP Jvm.FP.Core
theorem abs_max {a : UInt64} (h : DFin a) : FP.dcmp (a &&& 0x7fffffffffffffff) 9218868437227405311 = some (compare ((a.toNat % 2 ^ 63 : Nat) : Int) 9218868437227405311) ∧ ((a.toNat % 2 ^ 63 : Nat) : Int) ≤ 9218868437227405311 := by
  have h1 := (fin_bits a).mp h
  have e := mask_toNat a
  have n1 : val64 (a &&& 0x7fffffffffffffff) ≠ .nan := by rw [ne_nan, e]; omega
  have n2 : val64 9218868437227405311 ≠ .nan := by decide +kernel
  have k1 : dkey (a &&& 0x7fffffffffffffff) = ((a.toNat % 2 ^ 63 : Nat) : Int) := by unfold dkey; rw [e, if_neg (by omega)]
  have k2 : dkey 9218868437227405311 = 9218868437227405311 := by decide +kernel
  refine ⟨?_, by omega⟩
  rw [show FP.dcmp (a &&& 0x7fffffffffffffff) 9218868437227405311 = _ from dcmp_key n1 n2, k1, k2]
end Jvm.Pilot.@@N@@.Own
namespace Jvm.Pilot.@@N@@.Own
open Jvm Jvm.FP Jvm.FP.Core
theorem same_cmp {a : UInt64} (h : val64 a ≠ .nan) : FP.dcmp a a = some (compare (dkey a) (dkey a)) := dcmp_key h h
theorem inf_ok : val64 9218868437227405312 ≠ .nan := by decide +kernel
end Jvm.Pilot.@@N@@.Own
namespace Jvm.Pilot.@@N@@
open Jvm Jvm.ClassFile Sem Op Lib Jvm.Free Jvm.Stand Jvm.LawKit Jvm.RoadKit Bundle Jvm.Pilot.@@N@@.Jvm.D Jvm.Pilot.@@N@@.Own
theorem pd_0 : parseMethodDescriptor "(D)D" = some ⟨[.double], some .double⟩ := by decide +kernel
theorem pd_1 : parseMethodDescriptor "(D)Z" = some ⟨[.double], some .boolean⟩ := by decide +kernel
theorem pd_2 : parseMethodDescriptor "([D[D)V" = some ⟨[(.array .double), (.array .double)], none⟩ := by decide +kernel
theorem pd_3 : parseMethodDescriptor "(I)D" = some ⟨[.int], some .double⟩ := by decide +kernel
theorem d1_0 : decode jdk_117_method_8_code 0 = .ok (.dload_n 0, 1) := by decide +kernel
theorem d1_1 : decode jdk_117_method_8_code 1 = .ok (.invokestatic 38, 3) := by decide +kernel
theorem d1_4 : decode jdk_117_method_8_code 4 = .ok (.ldc2_w 111, 3) := by decide +kernel
theorem d1_7 : decode jdk_117_method_8_code 7 = .ok (.dcmp .g, 1) := by decide +kernel
theorem d1_8 : decode jdk_117_method_8_code 8 = .ok (.ifCond .gt 7, 3) := by decide +kernel
theorem d1_11 : decode jdk_117_method_8_code 11 = .ok (.iconst 1, 1) := by decide +kernel
theorem d1_12 : decode jdk_117_method_8_code 12 = .ok (.goto 4, 3) := by decide +kernel
theorem d1_16 : decode jdk_117_method_8_code 16 = .ok (.ireturn, 1) := by decide +kernel
theorem pn_1 : plainName "java/lang/Double" = true := by first | (simp [plainName, overriddenIn]; done) | decide +kernel
theorem ef_1 (m : MethodId) (x0 : UInt64) : entryFrame m #[(.double x0)] 2 = mkF m 0 #[.val (.double x0), .second] [] := by first | (simp [entryFrame, mkF, argsToLocals, Value.category]; done) | rfl
def Q1 (Z : State) (u1 : UInt64) (h0 : Heap) (n0 : Nat) (v : Option Value) (h : Heap) (L : List Loc) : Prop := v = some (.int 1) ∧ Fr n0 L ∧ h = h0
set_option maxRecDepth 65536 in
set_option maxHeartbeats 40000000 in
theorem rm1 (l : Launch) (Z : State) (a0 : Array Value) (hw : ∀ d ∈ tables_1, d.before a0 Z = true) (ws : List Jvm.Cond) (u1 : UInt64) (h0 : Heap) (n0 : Nat) (Z0 : n0 ≤ h0.size) (hf : FP.Core.DFin u1) :
    MetFree l (⟨"java/lang/Double", "isFinite", "(D)Z"⟩ : MethodName) (head1 (Jvm.Cond.code (⟨"java/lang/Double", "isFinite", "(D)Z"⟩ : MethodName) jdk_117_method_8_code 2 (some .boolean) :: ws) ({ frames := 1, cells := 0, slots := 0, locals := 13 } : Room)) (fun a_ U => a_ = #[(.double u1)] ∧ Z.Warmed39 U.vm ∧ U.heap = h0) (fun _ _ _ _ _ => True) (fun _ U o U' => ∃ v L, o = .returned v ∧ Q1 Z u1 h0 n0 v U'.heap L ∧ FrameEnd U o U' L (({ frames := 1, cells := 0, slots := 0, locals := 13 } : Room)).cells (({ frames := 1, cells := 0, slots := 0, locals := 13 } : Room)).slots) := by
  refine MetFree.of_bodySF (plainFor_of_name pn_1) hisR ?_
  intro p e s m args below meth c s₁ Bd hml0 hP0 hK
  obtain ⟨rfl, hZ, hh⟩ := hP0
  have hx := Bd.exec
  have hby := Bd.bytes
  have hml : c.maxLocals = 2 := hml0
  have hown : s.vm.findClass "java/lang/Double" = some m.cls := findClass_of_methodNamed Bd.named
  have hnm := (name_of_methodNamed Bd.named Bd.method).1
  have X0 : Stand p l e ({ frames := 1, cells := 0, slots := 0, locals := 13 } : Room) s m #[(.double u1)] below meth c s₁ [] 0 0 := Stand.of_body Bd
  have e0 : s₁.heap = h0 := by rw [← hh, Bd.state]; rfl
  have N0 := Fr.nil n0
  have hlk : meth.locks = false := BodyLoose.notSynchronized Bd
  refine Go.start (P₀ := fun s₂ o => ∃ v L, o = .returned v ∧ Q1 Z u1 h0 n0 v s₂.heap L ∧ FrameEnd s o s₂ L (({ frames := 1, cells := 0, slots := 0, locals := 13 } : Room)).cells (({ frames := 1, cells := 0, slots := 0, locals := 13 } : Room)).slots) (congrArg s₁.setTop (ef_1 m u1)) ?_
  intro P hP
  show Go p.tables e below P (s₁.setTop (mkF m 0 #[.val (.double u1), .second] []))
  refine Go.step (fun t k => XS.dloadN X0.here hx rfl (hb hby d1_0) rfl  k) ?_
  show Go p.tables e below P (s₁.setTop (mkF m 1 #[.val (.double u1), .second] [(.double u1)]))
  have hnn := Jvm.Free.Fl.noNaN64_no.mpr hf.notNaN
  obtain ⟨T_1, X_1, e_1, st_1⟩ := natS X0 hx hZ hown (y := (⟨"java/lang/Math", "abs", "(D)D"⟩ : MethodName)) (hw _ (List.mem_of_getElem? (i := 17) rfl)) (hw _ (List.mem_of_getElem? (i := 18) rfl)) (hw _ (List.mem_of_getElem? (i := 19) rfl)) (hw _ (List.mem_of_getElem? (i := 20) rfl)) (by decide) e0 (W := 0) (F := fun a' => a' = #[.double u1] ∧ Jvm.Free.Fl.NoNaN64 u1) (val := .double (u1 &&& 0x7fffffffffffffff)) (fun hc => Jvm.Free.Fl.Abs.absD_pays u1 hc (by decide) (by decide)) (g := (mkF m 1 #[.val (.double u1), .second] [(.double u1)])) rfl (by rw [hml]; rfl) (argsL := [(.double u1)]) (rest := []) (lenOf pd_0 rfl) rfl (by show 2 * 0 + _ ≤ _; exact Nat.le_of_eq rfl) (hb hby d1_1) (by decide) (by decide) ⟨rfl, hnn⟩ rfl
  refine Go.step (fun t k => st_1 t k) ?_
  show Go p.tables e below P (T_1.setTop (mkF m 4 #[.val (.double u1), .second] [(.double (u1 &&& 0x7fffffffffffffff))]))
  refine Go.step (fun t k => X_1.ldc2DoubleC hx hown (mvT hZ (hw _ (List.mem_of_getElem? (i := 21) rfl))) (g := (mkF m 4 #[.val (.double u1), .second] [(.double (u1 &&& 0x7fffffffffffffff))])) rfl (hb hby d1_4) t k) ?_
  show Go p.tables e below P (T_1.setTop (mkF m 7 #[.val (.double u1), .second] [(.double (9218868437227405311 : UInt64)), (.double (u1 &&& 0x7fffffffffffffff))]))
  refine Go.step (fun t k => XS.dcmpS X_1.here hx rfl (hb hby d1_7) rfl rfl k) ?_
  show Go p.tables e below P (T_1.setTop (mkF m 8 #[.val (.double u1), .second] [(.int (cmpValue (FP.dcmp (u1 &&& 0x7fffffffffffffff) (9218868437227405311 : UInt64)) .g))]))
  refine Go.step (fun t k => XS.ifNo X_1.here hx rfl (hb hby d1_8) rfl (dcN (cd := .gt) (abs_max hf).1 (Int.not_lt.mpr (abs_max hf).2)) k) ?_
  show Go p.tables e below P (T_1.setTop (mkF m 11 #[.val (.double u1), .second] []))
  refine Go.step (fun t k => XS.iconst X_1.here hx rfl (hb hby d1_11) k) ?_
  show Go p.tables e below P (T_1.setTop (mkF m 12 #[.val (.double u1), .second] [(.int (1 : Int32))]))
  refine Go.step (fun t k => XS.goto X_1.here hx rfl (pc0 := 12) (pc' := 16) rfl (hb hby d1_12) (by decide) (by decide) k) ?_
  show Go p.tables e below P (T_1.setTop (mkF m 16 #[.val (.double u1), .second] [(.int (1 : Int32))]))
  exact retGo X_1 hx hP Bd.returns hlk rfl (Or.inl ⟨rfl, Or.inr (Or.inl rfl), _, rfl⟩) (hb hby d1_16) (by decide) (by decide) (by rw [e_1]; exact ⟨rfl, N0, rfl⟩)
theorem d11_0 : decode prog_11_method_1_code 0 = .ok (.aload_n 0, 1) := by decide +kernel
theorem d11_1 : decode prog_11_method_1_code 1 = .ok (.invokespecial 1, 3) := by decide +kernel
theorem d11_4 : decode prog_11_method_1_code 4 = .ok (.aload_n 1, 1) := by decide +kernel
theorem d11_5 : decode prog_11_method_1_code 5 = .ok (.arraylength, 1) := by decide +kernel
theorem d11_6 : decode prog_11_method_1_code 6 = .ok (.ifCond .eq 10, 3) := by decide +kernel
theorem d11_9 : decode prog_11_method_1_code 9 = .ok (.aload_n 1, 1) := by decide +kernel
theorem d11_10 : decode prog_11_method_1_code 10 = .ok (.arraylength, 1) := by decide +kernel
theorem d11_11 : decode prog_11_method_1_code 11 = .ok (.aload_n 2, 1) := by decide +kernel
theorem d11_12 : decode prog_11_method_1_code 12 = .ok (.arraylength, 1) := by decide +kernel
theorem d11_13 : decode prog_11_method_1_code 13 = .ok (.if_icmp .eq 13, 3) := by decide +kernel
theorem d11_26 : decode prog_11_method_1_code 26 = .ok (.iconst 0, 1) := by decide +kernel
theorem d11_27 : decode prog_11_method_1_code 27 = .ok (.istore_n 3, 1) := by decide +kernel
theorem d11_28 : decode prog_11_method_1_code 28 = .ok (.iload_n 3, 1) := by decide +kernel
theorem d11_29 : decode prog_11_method_1_code 29 = .ok (.aload_n 1, 1) := by decide +kernel
theorem d11_30 : decode prog_11_method_1_code 30 = .ok (.arraylength, 1) := by decide +kernel
theorem d11_31 : decode prog_11_method_1_code 31 = .ok (.if_icmp .ge 99, 3) := by decide +kernel
theorem d11_34 : decode prog_11_method_1_code 34 = .ok (.iload_n 3, 1) := by decide +kernel
theorem d11_35 : decode prog_11_method_1_code 35 = .ok (.ifCond .ne 19, 3) := by decide +kernel
theorem d11_38 : decode prog_11_method_1_code 38 = .ok (.aload_n 1, 1) := by decide +kernel
theorem d11_39 : decode prog_11_method_1_code 39 = .ok (.iload_n 3, 1) := by decide +kernel
theorem d11_40 : decode prog_11_method_1_code 40 = .ok (.daload, 1) := by decide +kernel
theorem d11_41 : decode prog_11_method_1_code 41 = .ok (.dconst 0, 1) := by decide +kernel
theorem d11_42 : decode prog_11_method_1_code 42 = .ok (.dcmp .l, 1) := by decide +kernel
theorem d11_43 : decode prog_11_method_1_code 43 = .ok (.ifCond .lt 7, 3) := by decide +kernel
theorem d11_46 : decode prog_11_method_1_code 46 = .ok (.iconst 1, 1) := by decide +kernel
theorem d11_47 : decode prog_11_method_1_code 47 = .ok (.goto 24, 3) := by decide +kernel
theorem d11_71 : decode prog_11_method_1_code 71 = .ok (.istore 4, 2) := by decide +kernel
theorem d11_73 : decode prog_11_method_1_code 73 = .ok (.iload 4, 2) := by decide +kernel
theorem d11_75 : decode prog_11_method_1_code 75 = .ok (.ifCond .eq 12, 3) := by decide +kernel
theorem d11_78 : decode prog_11_method_1_code 78 = .ok (.aload_n 1, 1) := by decide +kernel
theorem d11_79 : decode prog_11_method_1_code 79 = .ok (.iload_n 3, 1) := by decide +kernel
theorem d11_80 : decode prog_11_method_1_code 80 = .ok (.daload, 1) := by decide +kernel
theorem d11_81 : decode prog_11_method_1_code 81 = .ok (.invokestatic 14, 3) := by decide +kernel
theorem d11_84 : decode prog_11_method_1_code 84 = .ok (.ifCond .ne 13, 3) := by decide +kernel
theorem d11_97 : decode prog_11_method_1_code 97 = .ok (.aload_n 2, 1) := by decide +kernel
theorem d11_98 : decode prog_11_method_1_code 98 = .ok (.iload_n 3, 1) := by decide +kernel
theorem d11_99 : decode prog_11_method_1_code 99 = .ok (.daload, 1) := by decide +kernel
theorem d11_100 : decode prog_11_method_1_code 100 = .ok (.dconst 0, 1) := by decide +kernel
theorem d11_101 : decode prog_11_method_1_code 101 = .ok (.dcmp .l, 1) := by decide +kernel
theorem d11_102 : decode prog_11_method_1_code 102 = .ok (.ifCond .lt 12, 3) := by decide +kernel
theorem d11_105 : decode prog_11_method_1_code 105 = .ok (.aload_n 2, 1) := by decide +kernel
theorem d11_106 : decode prog_11_method_1_code 106 = .ok (.iload_n 3, 1) := by decide +kernel
theorem d11_107 : decode prog_11_method_1_code 107 = .ok (.daload, 1) := by decide +kernel
theorem d11_108 : decode prog_11_method_1_code 108 = .ok (.invokestatic 14, 3) := by decide +kernel
theorem d11_111 : decode prog_11_method_1_code 111 = .ok (.ifCond .ne 13, 3) := by decide +kernel
theorem d11_124 : decode prog_11_method_1_code 124 = .ok (.iinc 3 1, 3) := by decide +kernel
theorem d11_127 : decode prog_11_method_1_code 127 = .ok (.goto (-99), 3) := by decide +kernel
theorem d11_130 : decode prog_11_method_1_code 130 = .ok (.aload_n 0, 1) := by decide +kernel
theorem d11_131 : decode prog_11_method_1_code 131 = .ok (.aload_n 1, 1) := by decide +kernel
theorem d11_132 : decode prog_11_method_1_code 132 = .ok (.invokevirtual 24, 3) := by decide +kernel
theorem d11_135 : decode prog_11_method_1_code 135 = .ok (.checkcast 25, 3) := by decide +kernel
theorem d11_138 : decode prog_11_method_1_code 138 = .ok (.putfield 30, 3) := by decide +kernel
theorem d11_141 : decode prog_11_method_1_code 141 = .ok (.aload_n 0, 1) := by decide +kernel
theorem d11_142 : decode prog_11_method_1_code 142 = .ok (.aload_n 2, 1) := by decide +kernel
theorem d11_143 : decode prog_11_method_1_code 143 = .ok (.invokevirtual 24, 3) := by decide +kernel
theorem d11_146 : decode prog_11_method_1_code 146 = .ok (.checkcast 25, 3) := by decide +kernel
theorem d11_149 : decode prog_11_method_1_code 149 = .ok (.putfield 35, 3) := by decide +kernel
theorem d11_152 : decode prog_11_method_1_code 152 = .ok (.return_, 1) := by decide +kernel
theorem pn_11 : plainName "com/example/gleitfahrt/gleitfahrt/engine/ForceCurve$Table" = true := by first | (simp [plainName, overriddenIn]; done) | decide +kernel
theorem ef_11 (m : MethodId) (x0 : Addr) (x1 : Addr) (x2 : Addr) : entryFrame m #[(.ref x0), (.ref x1), (.ref x2)] 5 = mkF m 0 #[.val (.ref x0), .val (.ref x1), .val (.ref x2), .unset, .unset] [] := by first | (simp [entryFrame, mkF, argsToLocals, Value.category]; done) | rfl
def Q11 (Z : State) (a : Addr) (y1 : Addr) (y2 : Addr) (k1 : ClassId) (k2 : ClassId) (v0 : UInt64) (fv : UInt64) (z0 : Int) (zf : Int) (h0 : Heap) (n0 : Nat) (v : Option Value) (h : Heap) (L : List Loc) : Prop := v = none ∧ Fr n0 L ∧ Keep h0 h [a] ∧ Exa Z h a "com/example/gleitfahrt/gleitfahrt/engine/ForceCurve$Table" ∧ ∃ (x1 : Addr), Fld Z h a "com/example/gleitfahrt/gleitfahrt/engine/ForceCurve$Table" "speedsMs" "[D" (.ref x1) ∧ Arv Z h x1 k1 .double (1 : Int32) [(.double v0)] (.double (0 : UInt64))
set_option maxRecDepth 65536 in
set_option maxHeartbeats 40000000 in
theorem rm11 (l : Launch) (Z : State) (a0 : Array Value) (hw : ∀ d ∈ tables_1, d.before a0 Z = true) (ws : List Jvm.Cond) (a : Addr) (y1 : Addr) (y2 : Addr) (k1 : ClassId) (k2 : ClassId) (v0 : UInt64) (fv : UInt64) (z0 : Int) (zf : Int) (h0 : Heap) (n0 : Nat) (Z0 : n0 ≤ h0.size) (E_a : Exa Z h0 a "com/example/gleitfahrt/gleitfahrt/engine/ForceCurve$Table") (F0 : Fld Z h0 a "com/example/gleitfahrt/gleitfahrt/engine/ForceCurve$Table" "speedsMs" "[D" .null) (F1 : Fld Z h0 a "com/example/gleitfahrt/gleitfahrt/engine/ForceCurve$Table" "forcesN" "[D" .null) (g_a : n0 ≤ a) (Ey1 : Exa Z h0 y1 "[D") (Ey2 : Exa Z h0 y2 "[D") (Vy1 : Arv Z h0 y1 k1 .double (1 : Int32) [(.double v0)] (.double (0 : UInt64))) (Vy2 : Arv Z h0 y2 k2 .double (1 : Int32) [(.double fv)] (.double (0 : UInt64))) (na1 : a ≠ y1) (na2 : a ≠ y2) (q0 : DE 1074 z0 v0) (qf : DE 1074 zf fv) (bf : 0 ≤ zf) (b0 : 0 ≤ z0) :
    MetFree l (⟨"com/example/gleitfahrt/gleitfahrt/engine/ForceCurve$Table", "<init>", "([D[D)V"⟩ : MethodName) (head1 (Jvm.Cond.code (⟨"com/example/gleitfahrt/gleitfahrt/engine/ForceCurve$Table", "<init>", "([D[D)V"⟩ : MethodName) prog_11_method_1_code 5 none :: ws) ({ frames := 2, cells := 2, slots := 2, locals := 26 } : Room)) (fun a_ U => a_ = #[(.ref a), (.ref y1), (.ref y2)] ∧ Z.Warmed39 U.vm ∧ U.heap = h0) (fun _ _ _ _ _ => True) (fun _ U o U' => ∃ v L, o = .returned v ∧ Q11 Z a y1 y2 k1 k2 v0 fv z0 zf h0 n0 v U'.heap L ∧ FrameEnd U o U' L (({ frames := 2, cells := 2, slots := 2, locals := 26 } : Room)).cells (({ frames := 2, cells := 2, slots := 2, locals := 26 } : Room)).slots) := by
  refine MetFree.of_bodySF (plainFor_of_name pn_11) hisR ?_
  intro p e s m args below meth c s₁ Bd hml0 hP0 hK
  obtain ⟨rfl, hZ, hh⟩ := hP0
  have hx := Bd.exec
  have hby := Bd.bytes
  have hml : c.maxLocals = 5 := hml0
  have hown : s.vm.findClass "com/example/gleitfahrt/gleitfahrt/engine/ForceCurve$Table" = some m.cls := findClass_of_methodNamed Bd.named
  have hnm := (name_of_methodNamed Bd.named Bd.method).1
  have X0 : Stand p l e ({ frames := 2, cells := 2, slots := 2, locals := 26 } : Room) s m #[(.ref a), (.ref y1), (.ref y2)] below meth c s₁ [] 0 0 := Stand.of_body Bd
  have e0 : s₁.heap = h0 := by rw [← hh, Bd.state]; rfl
  have N0 := Fr.nil n0
  have hlk : meth.locks = false := BodyLoose.notSynchronized Bd
  refine Go.start (P₀ := fun s₂ o => ∃ v L, o = .returned v ∧ Q11 Z a y1 y2 k1 k2 v0 fv z0 zf h0 n0 v s₂.heap L ∧ FrameEnd s o s₂ L (({ frames := 2, cells := 2, slots := 2, locals := 26 } : Room)).cells (({ frames := 2, cells := 2, slots := 2, locals := 26 } : Room)).slots) (congrArg s₁.setTop (ef_11 m a y1 y2)) ?_
  intro P hP
  show Go p.tables e below P (s₁.setTop (mkF m 0 #[.val (.ref a), .val (.ref y1), .val (.ref y2), .unset, .unset] []))
  refine Go.step (fun t k => XS.aloadN X0.here hx rfl (hb hby d11_0) rfl rfl k) ?_
  show Go p.tables e below P (s₁.setTop (mkF m 1 #[.val (.ref a), .val (.ref y1), .val (.ref y2), .unset, .unset] [(.ref a)]))
  obtain ⟨T_1, X_1, e_1, st_1⟩ := initO X0 hx hZ hown (hw _ (List.mem_of_getElem? (i := 10) rfl)) (hw _ (List.mem_of_getElem? (i := 11) rfl)) (hw _ (List.mem_of_getElem? (i := 12) rfl)) e0 (g := (mkF m 1 #[.val (.ref a), .val (.ref y1), .val (.ref y2), .unset, .unset] [(.ref a)])) rfl (by rw [hml]; rfl) rfl (hb hby d11_1) (by decide) (W := 0) (by show 2 * 0 + _ ≤ _; exact Nat.le_of_eq rfl) (by decide)
  refine Go.step (fun t k => st_1 t k) ?_
  show Go p.tables e below P (T_1.setTop (mkF m 4 #[.val (.ref a), .val (.ref y1), .val (.ref y2), .unset, .unset] []))
  refine Go.step (fun t k => XS.aloadN X_1.here hx rfl (hb hby d11_4) rfl rfl k) ?_
  show Go p.tables e below P (T_1.setTop (mkF m 5 #[.val (.ref a), .val (.ref y1), .val (.ref y2), .unset, .unset] [(.ref y1)]))
  have vq_2 := Vy1
  obtain ⟨cl_2, Ar_2, q_2, S_2, Nn_2, H_2, G_2⟩ := vq_2
  refine Go.step (fun t k => X_1.arraylength hx (by rw [e_1]; exact Ar_2.1) (State.isArrayOf_alike hZ.alike Ar_2.2.1) (g := (mkF m 5 #[.val (.ref a), .val (.ref y1), .val (.ref y2), .unset, .unset] [(.ref y1)])) rfl rfl (hb hby d11_5) t k) ?_
  rw [len_of S_2 Nn_2]
  show Go p.tables e below P (T_1.setTop (mkF m 6 #[.val (.ref a), .val (.ref y1), .val (.ref y2), .unset, .unset] [(.int (1 : Int32))]))
  refine Go.step (fun t k => XS.ifNo X_1.here hx rfl (hb hby d11_6) rfl (ifN (cd := .eq) (by decide : ¬ ((1 : Int) = 0))) k) ?_
  show Go p.tables e below P (T_1.setTop (mkF m 9 #[.val (.ref a), .val (.ref y1), .val (.ref y2), .unset, .unset] []))
  refine Go.step (fun t k => XS.aloadN X_1.here hx rfl (hb hby d11_9) rfl rfl k) ?_
  show Go p.tables e below P (T_1.setTop (mkF m 10 #[.val (.ref a), .val (.ref y1), .val (.ref y2), .unset, .unset] [(.ref y1)]))
  have vq_3 := Vy1
  obtain ⟨cl_3, Ar_3, q_3, S_3, Nn_3, H_3, G_3⟩ := vq_3
  refine Go.step (fun t k => X_1.arraylength hx (by rw [e_1]; exact Ar_3.1) (State.isArrayOf_alike hZ.alike Ar_3.2.1) (g := (mkF m 10 #[.val (.ref a), .val (.ref y1), .val (.ref y2), .unset, .unset] [(.ref y1)])) rfl rfl (hb hby d11_10) t k) ?_
  rw [len_of S_3 Nn_3]
  show Go p.tables e below P (T_1.setTop (mkF m 11 #[.val (.ref a), .val (.ref y1), .val (.ref y2), .unset, .unset] [(.int (1 : Int32))]))
  refine Go.step (fun t k => XS.aloadN X_1.here hx rfl (hb hby d11_11) rfl rfl k) ?_
  show Go p.tables e below P (T_1.setTop (mkF m 12 #[.val (.ref a), .val (.ref y1), .val (.ref y2), .unset, .unset] [(.ref y2), (.int (1 : Int32))]))
  have vq_4 := Vy2
  obtain ⟨cl_4, Ar_4, q_4, S_4, Nn_4, H_4, G_4⟩ := vq_4
  refine Go.step (fun t k => X_1.arraylength hx (by rw [e_1]; exact Ar_4.1) (State.isArrayOf_alike hZ.alike Ar_4.2.1) (g := (mkF m 12 #[.val (.ref a), .val (.ref y1), .val (.ref y2), .unset, .unset] [(.ref y2), (.int (1 : Int32))])) rfl rfl (hb hby d11_12) t k) ?_
  rw [len_of S_4 Nn_4]
  show Go p.tables e below P (T_1.setTop (mkF m 13 #[.val (.ref a), .val (.ref y1), .val (.ref y2), .unset, .unset] [(.int (1 : Int32)), (.int (1 : Int32))]))
  refine Go.step (fun t k => XS.icmpYes X_1.here hx rfl (pc0 := 13) (pc' := 26) rfl (hb hby d11_13) rfl (icY (cd := .eq) (by decide : (1 : Int) = (1 : Int))) (by decide) (by decide) k) ?_
  show Go p.tables e below P (T_1.setTop (mkF m 26 #[.val (.ref a), .val (.ref y1), .val (.ref y2), .unset, .unset] []))
  refine Go.step (fun t k => XS.iconst X_1.here hx rfl (hb hby d11_26) k) ?_
  show Go p.tables e below P (T_1.setTop (mkF m 27 #[.val (.ref a), .val (.ref y1), .val (.ref y2), .unset, .unset] [(.int (0 : Int32))]))
  refine Go.step (fun t k => XS.istoreN X_1.here hx rfl (hb hby d11_27) rfl (l' := #[.val (.ref a), .val (.ref y1), .val (.ref y2), .val (.int (0 : Int32)), .unset]) rfl k) ?_
  show Go p.tables e below P (T_1.setTop (mkF m 28 #[.val (.ref a), .val (.ref y1), .val (.ref y2), .val (.int (0 : Int32)), .unset] []))
  refine Go.step (fun t k => XS.iloadN X_1.here hx rfl (hb hby d11_28) rfl  k) ?_
  show Go p.tables e below P (T_1.setTop (mkF m 29 #[.val (.ref a), .val (.ref y1), .val (.ref y2), .val (.int (0 : Int32)), .unset] [(.int (0 : Int32))]))
  refine Go.step (fun t k => XS.aloadN X_1.here hx rfl (hb hby d11_29) rfl rfl k) ?_
  show Go p.tables e below P (T_1.setTop (mkF m 30 #[.val (.ref a), .val (.ref y1), .val (.ref y2), .val (.int (0 : Int32)), .unset] [(.ref y1), (.int (0 : Int32))]))
  have vq_5 := Vy1
  obtain ⟨cl_5, Ar_5, q_5, S_5, Nn_5, H_5, G_5⟩ := vq_5
  refine Go.step (fun t k => X_1.arraylength hx (by rw [e_1]; exact Ar_5.1) (State.isArrayOf_alike hZ.alike Ar_5.2.1) (g := (mkF m 30 #[.val (.ref a), .val (.ref y1), .val (.ref y2), .val (.int (0 : Int32)), .unset] [(.ref y1), (.int (0 : Int32))])) rfl rfl (hb hby d11_30) t k) ?_
  rw [len_of S_5 Nn_5]
  show Go p.tables e below P (T_1.setTop (mkF m 31 #[.val (.ref a), .val (.ref y1), .val (.ref y2), .val (.int (0 : Int32)), .unset] [(.int (1 : Int32)), (.int (0 : Int32))]))
  refine Go.step (fun t k => XS.icmpNo X_1.here hx rfl (hb hby d11_31) rfl (icN (cd := .ge) (by decide : ¬ ((1 : Int) ≤ (0 : Int)))) k) ?_
  show Go p.tables e below P (T_1.setTop (mkF m 34 #[.val (.ref a), .val (.ref y1), .val (.ref y2), .val (.int (0 : Int32)), .unset] []))
  refine Go.step (fun t k => XS.iloadN X_1.here hx rfl (hb hby d11_34) rfl  k) ?_
  show Go p.tables e below P (T_1.setTop (mkF m 35 #[.val (.ref a), .val (.ref y1), .val (.ref y2), .val (.int (0 : Int32)), .unset] [(.int (0 : Int32))]))
  refine Go.step (fun t k => XS.ifNo X_1.here hx rfl (hb hby d11_35) rfl (ifN (cd := .ne) (by decide : ¬ (¬ (0 : Int) = 0))) k) ?_
  show Go p.tables e below P (T_1.setTop (mkF m 38 #[.val (.ref a), .val (.ref y1), .val (.ref y2), .val (.int (0 : Int32)), .unset] []))
  refine Go.step (fun t k => XS.aloadN X_1.here hx rfl (hb hby d11_38) rfl rfl k) ?_
  show Go p.tables e below P (T_1.setTop (mkF m 39 #[.val (.ref a), .val (.ref y1), .val (.ref y2), .val (.int (0 : Int32)), .unset] [(.ref y1)]))
  refine Go.step (fun t k => XS.iloadN X_1.here hx rfl (hb hby d11_39) rfl  k) ?_
  show Go p.tables e below P (T_1.setTop (mkF m 40 #[.val (.ref a), .val (.ref y1), .val (.ref y2), .val (.int (0 : Int32)), .unset] [(.int (0 : Int32)), (.ref y1)]))
  have vq_6 := Vy1
  obtain ⟨cl_6, Ar_6, q_6, S_6, Nn_6, H_6, G_6⟩ := vq_6
  have hin_6 : ¬ ((0 : Int32) < 0 ∨ cl_6.slots.size ≤ ((0 : Int32)).toNatClampNeg) := inb_of S_6 ⟨by decide, by decide⟩
  have hat_6 : cl_6.slots[((0 : Int32)).toNatClampNeg]? = some (.double v0) := Has.at H_6 hin_6 rfl
  refine Go.step (fun t k => X_1.daload hx (j := (0 : Int32)) (v := (.double v0)) (by rw [e_1]; exact Ar_6.1) (State.isArrayOf_alike hZ.alike Ar_6.2.1) Ar_6.2.2 hin_6 hat_6 (g := (mkF m 40 #[.val (.ref a), .val (.ref y1), .val (.ref y2), .val (.int (0 : Int32)), .unset] [(.int (0 : Int32)), (.ref y1)])) rfl rfl (hb hby d11_40) t k) ?_
  show Go p.tables e below P (T_1.setTop (mkF m 41 #[.val (.ref a), .val (.ref y1), .val (.ref y2), .val (.int (0 : Int32)), .unset] [(.double v0)]))
  refine Go.step (fun t k => XS.dconst0 X_1.here hx rfl (hb hby d11_41) rfl k) ?_
  show Go p.tables e below P (T_1.setTop (mkF m 42 #[.val (.ref a), .val (.ref y1), .val (.ref y2), .val (.int (0 : Int32)), .unset] [(.double FP.dconst0), (.double v0)]))
  refine Go.step (fun t k => XS.dcmpS X_1.here hx rfl (hb hby d11_42) rfl rfl k) ?_
  show Go p.tables e below P (T_1.setTop (mkF m 43 #[.val (.ref a), .val (.ref y1), .val (.ref y2), .val (.int (0 : Int32)), .unset] [(.int (cmpValue (FP.dcmp v0 FP.dconst0) .l))]))
  refine Go.step (fun t k => XS.ifNo X_1.here hx rfl (hb hby d11_43) rfl (dcN (cd := .lt) (DE.cmp q0 (zero_e 1074)) (by omega : ¬ (z0 < 0))) k) ?_
  show Go p.tables e below P (T_1.setTop (mkF m 46 #[.val (.ref a), .val (.ref y1), .val (.ref y2), .val (.int (0 : Int32)), .unset] []))
  refine Go.step (fun t k => XS.iconst X_1.here hx rfl (hb hby d11_46) k) ?_
  show Go p.tables e below P (T_1.setTop (mkF m 47 #[.val (.ref a), .val (.ref y1), .val (.ref y2), .val (.int (0 : Int32)), .unset] [(.int (1 : Int32))]))
  refine Go.step (fun t k => XS.goto X_1.here hx rfl (pc0 := 47) (pc' := 71) rfl (hb hby d11_47) (by decide) (by decide) k) ?_
  show Go p.tables e below P (T_1.setTop (mkF m 71 #[.val (.ref a), .val (.ref y1), .val (.ref y2), .val (.int (0 : Int32)), .unset] [(.int (1 : Int32))]))
  refine Go.step (fun t k => XS.istore X_1.here hx rfl (hb hby d11_71) rfl (l' := #[.val (.ref a), .val (.ref y1), .val (.ref y2), .val (.int (0 : Int32)), .val (.int (1 : Int32))]) rfl k) ?_
  show Go p.tables e below P (T_1.setTop (mkF m 73 #[.val (.ref a), .val (.ref y1), .val (.ref y2), .val (.int (0 : Int32)), .val (.int (1 : Int32))] []))
  refine Go.step (fun t k => XS.iload X_1.here hx rfl (hb hby d11_73) rfl  k) ?_
  show Go p.tables e below P (T_1.setTop (mkF m 75 #[.val (.ref a), .val (.ref y1), .val (.ref y2), .val (.int (0 : Int32)), .val (.int (1 : Int32))] [(.int (1 : Int32))]))
  refine Go.step (fun t k => XS.ifNo X_1.here hx rfl (hb hby d11_75) rfl (ifN (cd := .eq) (by decide : ¬ ((1 : Int) = 0))) k) ?_
  show Go p.tables e below P (T_1.setTop (mkF m 78 #[.val (.ref a), .val (.ref y1), .val (.ref y2), .val (.int (0 : Int32)), .val (.int (1 : Int32))] []))
  refine Go.step (fun t k => XS.aloadN X_1.here hx rfl (hb hby d11_78) rfl rfl k) ?_
  show Go p.tables e below P (T_1.setTop (mkF m 79 #[.val (.ref a), .val (.ref y1), .val (.ref y2), .val (.int (0 : Int32)), .val (.int (1 : Int32))] [(.ref y1)]))
  refine Go.step (fun t k => XS.iloadN X_1.here hx rfl (hb hby d11_79) rfl  k) ?_
  show Go p.tables e below P (T_1.setTop (mkF m 80 #[.val (.ref a), .val (.ref y1), .val (.ref y2), .val (.int (0 : Int32)), .val (.int (1 : Int32))] [(.int (0 : Int32)), (.ref y1)]))
  have vq_7 := Vy1
  obtain ⟨cl_7, Ar_7, q_7, S_7, Nn_7, H_7, G_7⟩ := vq_7
  have hin_7 : ¬ ((0 : Int32) < 0 ∨ cl_7.slots.size ≤ ((0 : Int32)).toNatClampNeg) := inb_of S_7 ⟨by decide, by decide⟩
  have hat_7 : cl_7.slots[((0 : Int32)).toNatClampNeg]? = some (.double v0) := Has.at H_7 hin_7 rfl
  refine Go.step (fun t k => X_1.daload hx (j := (0 : Int32)) (v := (.double v0)) (by rw [e_1]; exact Ar_7.1) (State.isArrayOf_alike hZ.alike Ar_7.2.1) Ar_7.2.2 hin_7 hat_7 (g := (mkF m 80 #[.val (.ref a), .val (.ref y1), .val (.ref y2), .val (.int (0 : Int32)), .val (.int (1 : Int32))] [(.int (0 : Int32)), (.ref y1)])) rfl rfl (hb hby d11_80) t k) ?_
  show Go p.tables e below P (T_1.setTop (mkF m 81 #[.val (.ref a), .val (.ref y1), .val (.ref y2), .val (.int (0 : Int32)), .val (.int (1 : Int32))] [(.double v0)]))
  obtain ⟨_, _, ⟨T_8, L_8, k_8, n_8⟩, -, X_8, ⟨Lc_8, hQ_8, l_8, y_8, z_8⟩, st_8⟩ := Jvm.LawKit.callS X_1 hx (y := (⟨"java/lang/Double", "isFinite", "(D)Z"⟩ : MethodName)) hown (mvT hZ (hw _ (List.mem_of_getElem? (i := 13) rfl))) (mvT hZ (hw _ (List.mem_of_getElem? (i := 14) rfl))) (mvT hZ (hw _ (List.mem_of_getElem? (i := 15) rfl))) (mvT hZ (hw _ (List.mem_of_getElem? (i := 16) rfl))) (by decide) (backOf (W := 0) (rm1 l Z a0 hw [] v0 h0 n0 Z0 q0.1) hZ (hw _ (List.mem_of_getElem? (i := 16) rfl)) (hw _ (List.mem_of_getElem? (i := 15) rfl)) (by decide) (by decide)) (g := (mkF m 81 #[.val (.ref a), .val (.ref y1), .val (.ref y2), .val (.int (0 : Int32)), .val (.int (1 : Int32))] [(.double v0)])) rfl (by rw [hml]; rfl) (argsL := [(.double v0)]) (rest := []) (lenOf pd_1 rfl) rfl (by show 2 * 0 + _ ≤ _; exact Nat.le_of_eq rfl) (hb hby d11_81) (fun _ _ => ⟨rfl, e_1, (by decide : 0 + 0 ≤ _), (by decide : 0 + 0 ≤ _)⟩)
  dsimp only [Pt.U, Pt.locs, Pt.cells, Pt.slots] at X_8 l_8 y_8 z_8 st_8 hQ_8
  subst l_8 y_8 z_8
  obtain ⟨rfl, N_8q, eh_8⟩ := hQ_8
  have N_8 := Fr.app N0 N_8q
  refine Go.step (fun t k => st_8 t k) ?_
  show Go p.tables e below P (T_8.setTop (mkF m 84 #[.val (.ref a), .val (.ref y1), .val (.ref y2), .val (.int (0 : Int32)), .val (.int (1 : Int32))] [(.int (1 : Int32))]))
  refine Go.step (fun t k => XS.ifYes X_8.here hx rfl (pc0 := 84) (pc' := 97) rfl (hb hby d11_84) rfl (ifY (cd := .ne) (by decide : ¬ (1 : Int) = 0)) (by decide) (by decide) k) ?_
  show Go p.tables e below P (T_8.setTop (mkF m 97 #[.val (.ref a), .val (.ref y1), .val (.ref y2), .val (.int (0 : Int32)), .val (.int (1 : Int32))] []))
  refine Go.step (fun t k => XS.aloadN X_8.here hx rfl (hb hby d11_97) rfl rfl k) ?_
  show Go p.tables e below P (T_8.setTop (mkF m 98 #[.val (.ref a), .val (.ref y1), .val (.ref y2), .val (.int (0 : Int32)), .val (.int (1 : Int32))] [(.ref y2)]))
  refine Go.step (fun t k => XS.iloadN X_8.here hx rfl (hb hby d11_98) rfl  k) ?_
  show Go p.tables e below P (T_8.setTop (mkF m 99 #[.val (.ref a), .val (.ref y1), .val (.ref y2), .val (.int (0 : Int32)), .val (.int (1 : Int32))] [(.int (0 : Int32)), (.ref y2)]))
  have vq_9 := Vy2
  obtain ⟨cl_9, Ar_9, q_9, S_9, Nn_9, H_9, G_9⟩ := vq_9
  have hin_9 : ¬ ((0 : Int32) < 0 ∨ cl_9.slots.size ≤ ((0 : Int32)).toNatClampNeg) := inb_of S_9 ⟨by decide, by decide⟩
  have hat_9 : cl_9.slots[((0 : Int32)).toNatClampNeg]? = some (.double fv) := Has.at H_9 hin_9 rfl
  refine Go.step (fun t k => X_8.daload hx (j := (0 : Int32)) (v := (.double fv)) (by rw [eh_8]; exact Ar_9.1) (State.isArrayOf_alike hZ.alike Ar_9.2.1) Ar_9.2.2 hin_9 hat_9 (g := (mkF m 99 #[.val (.ref a), .val (.ref y1), .val (.ref y2), .val (.int (0 : Int32)), .val (.int (1 : Int32))] [(.int (0 : Int32)), (.ref y2)])) rfl rfl (hb hby d11_99) t k) ?_
  show Go p.tables e below P (T_8.setTop (mkF m 100 #[.val (.ref a), .val (.ref y1), .val (.ref y2), .val (.int (0 : Int32)), .val (.int (1 : Int32))] [(.double fv)]))
  refine Go.step (fun t k => XS.dconst0 X_8.here hx rfl (hb hby d11_100) rfl k) ?_
  show Go p.tables e below P (T_8.setTop (mkF m 101 #[.val (.ref a), .val (.ref y1), .val (.ref y2), .val (.int (0 : Int32)), .val (.int (1 : Int32))] [(.double FP.dconst0), (.double fv)]))
  refine Go.step (fun t k => XS.dcmpS X_8.here hx rfl (hb hby d11_101) rfl rfl k) ?_
  show Go p.tables e below P (T_8.setTop (mkF m 102 #[.val (.ref a), .val (.ref y1), .val (.ref y2), .val (.int (0 : Int32)), .val (.int (1 : Int32))] [(.int (cmpValue (FP.dcmp fv FP.dconst0) .l))]))
  refine Go.step (fun t k => XS.ifNo X_8.here hx rfl (hb hby d11_102) rfl (dcN (cd := .lt) (DE.cmp qf (zero_e 1074)) (by omega : ¬ (zf < 0))) k) ?_
  show Go p.tables e below P (T_8.setTop (mkF m 105 #[.val (.ref a), .val (.ref y1), .val (.ref y2), .val (.int (0 : Int32)), .val (.int (1 : Int32))] []))
  refine Go.step (fun t k => XS.aloadN X_8.here hx rfl (hb hby d11_105) rfl rfl k) ?_
  show Go p.tables e below P (T_8.setTop (mkF m 106 #[.val (.ref a), .val (.ref y1), .val (.ref y2), .val (.int (0 : Int32)), .val (.int (1 : Int32))] [(.ref y2)]))
  refine Go.step (fun t k => XS.iloadN X_8.here hx rfl (hb hby d11_106) rfl  k) ?_
  show Go p.tables e below P (T_8.setTop (mkF m 107 #[.val (.ref a), .val (.ref y1), .val (.ref y2), .val (.int (0 : Int32)), .val (.int (1 : Int32))] [(.int (0 : Int32)), (.ref y2)]))
  have vq_10 := Vy2
  obtain ⟨cl_10, Ar_10, q_10, S_10, Nn_10, H_10, G_10⟩ := vq_10
  have hin_10 : ¬ ((0 : Int32) < 0 ∨ cl_10.slots.size ≤ ((0 : Int32)).toNatClampNeg) := inb_of S_10 ⟨by decide, by decide⟩
  have hat_10 : cl_10.slots[((0 : Int32)).toNatClampNeg]? = some (.double fv) := Has.at H_10 hin_10 rfl
  refine Go.step (fun t k => X_8.daload hx (j := (0 : Int32)) (v := (.double fv)) (by rw [eh_8]; exact Ar_10.1) (State.isArrayOf_alike hZ.alike Ar_10.2.1) Ar_10.2.2 hin_10 hat_10 (g := (mkF m 107 #[.val (.ref a), .val (.ref y1), .val (.ref y2), .val (.int (0 : Int32)), .val (.int (1 : Int32))] [(.int (0 : Int32)), (.ref y2)])) rfl rfl (hb hby d11_107) t k) ?_
  show Go p.tables e below P (T_8.setTop (mkF m 108 #[.val (.ref a), .val (.ref y1), .val (.ref y2), .val (.int (0 : Int32)), .val (.int (1 : Int32))] [(.double fv)]))
  obtain ⟨_, _, ⟨T_11, L_11, k_11, n_11⟩, -, X_11, ⟨Lc_11, hQ_11, l_11, y_11, z_11⟩, st_11⟩ := Jvm.LawKit.callS X_8 hx (y := (⟨"java/lang/Double", "isFinite", "(D)Z"⟩ : MethodName)) hown (mvT hZ (hw _ (List.mem_of_getElem? (i := 13) rfl))) (mvT hZ (hw _ (List.mem_of_getElem? (i := 14) rfl))) (mvT hZ (hw _ (List.mem_of_getElem? (i := 15) rfl))) (mvT hZ (hw _ (List.mem_of_getElem? (i := 16) rfl))) (by decide) (backOf (W := 0) (rm1 l Z a0 hw [] fv h0 n0 Z0 qf.1) hZ (hw _ (List.mem_of_getElem? (i := 16) rfl)) (hw _ (List.mem_of_getElem? (i := 15) rfl)) (by decide) (by decide)) (g := (mkF m 108 #[.val (.ref a), .val (.ref y1), .val (.ref y2), .val (.int (0 : Int32)), .val (.int (1 : Int32))] [(.double fv)])) rfl (by rw [hml]; rfl) (argsL := [(.double fv)]) (rest := []) (lenOf pd_1 rfl) rfl (by show 2 * 0 + _ ≤ _; exact Nat.le_of_eq rfl) (hb hby d11_108) (fun _ _ => ⟨rfl, eh_8, (by decide : 0 + 0 ≤ _), (by decide : 0 + 0 ≤ _)⟩)
  dsimp only [Pt.U, Pt.locs, Pt.cells, Pt.slots] at X_11 l_11 y_11 z_11 st_11 hQ_11
  subst l_11 y_11 z_11
  obtain ⟨rfl, N_11q, eh_11⟩ := hQ_11
  have N_11 := Fr.app N_8 N_11q
  refine Go.step (fun t k => st_11 t k) ?_
  show Go p.tables e below P (T_11.setTop (mkF m 111 #[.val (.ref a), .val (.ref y1), .val (.ref y2), .val (.int (0 : Int32)), .val (.int (1 : Int32))] [(.int (1 : Int32))]))
  refine Go.step (fun t k => XS.ifYes X_11.here hx rfl (pc0 := 111) (pc' := 124) rfl (hb hby d11_111) rfl (ifY (cd := .ne) (by decide : ¬ (1 : Int) = 0)) (by decide) (by decide) k) ?_
  show Go p.tables e below P (T_11.setTop (mkF m 124 #[.val (.ref a), .val (.ref y1), .val (.ref y2), .val (.int (0 : Int32)), .val (.int (1 : Int32))] []))
  obtain ⟨ni, hni⟩ : ∃ z : Int32, (0 : Int32) + (1 : Int32) = z := ⟨_, rfl⟩
  refine Go.step (fun t k => XS.iinc X_11.here hx rfl (hb hby d11_124) rfl (l' := #[.val (.ref a), .val (.ref y1), .val (.ref y2), .val (.int ((0 : Int32) + (1 : Int32))), .val (.int (1 : Int32))]) rfl k) ?_
  show Go p.tables e below P (T_11.setTop (mkF m 127 #[.val (.ref a), .val (.ref y1), .val (.ref y2), .val (.int ((0 : Int32) + (1 : Int32))), .val (.int (1 : Int32))] []))
  rw [hni]
  show Go p.tables e below P (T_11.setTop (mkF m 127 #[.val (.ref a), .val (.ref y1), .val (.ref y2), .val (.int ni), .val (.int (1 : Int32))] []))
  have ez_ni : ni = (1 : Int32) := by rw [← hni]; rfl
  subst ez_ni
  show Go p.tables e below P (T_11.setTop (mkF m 127 #[.val (.ref a), .val (.ref y1), .val (.ref y2), .val (.int (1 : Int32)), .val (.int (1 : Int32))] []))
  refine Go.step (fun t k => XS.goto X_11.here hx rfl (pc0 := 127) (pc' := 28) rfl (hb hby d11_127) (by decide) (by decide) k) ?_
  show Go p.tables e below P (T_11.setTop (mkF m 28 #[.val (.ref a), .val (.ref y1), .val (.ref y2), .val (.int (1 : Int32)), .val (.int (1 : Int32))] []))
  refine Go.step (fun t k => XS.iloadN X_11.here hx rfl (hb hby d11_28) rfl  k) ?_
  show Go p.tables e below P (T_11.setTop (mkF m 29 #[.val (.ref a), .val (.ref y1), .val (.ref y2), .val (.int (1 : Int32)), .val (.int (1 : Int32))] [(.int (1 : Int32))]))
  refine Go.step (fun t k => XS.aloadN X_11.here hx rfl (hb hby d11_29) rfl rfl k) ?_
  show Go p.tables e below P (T_11.setTop (mkF m 30 #[.val (.ref a), .val (.ref y1), .val (.ref y2), .val (.int (1 : Int32)), .val (.int (1 : Int32))] [(.ref y1), (.int (1 : Int32))]))
  have vq_12 := Vy1
  obtain ⟨cl_12, Ar_12, q_12, S_12, Nn_12, H_12, G_12⟩ := vq_12
  refine Go.step (fun t k => X_11.arraylength hx (by rw [eh_11]; exact Ar_12.1) (State.isArrayOf_alike hZ.alike Ar_12.2.1) (g := (mkF m 30 #[.val (.ref a), .val (.ref y1), .val (.ref y2), .val (.int (1 : Int32)), .val (.int (1 : Int32))] [(.ref y1), (.int (1 : Int32))])) rfl rfl (hb hby d11_30) t k) ?_
  rw [len_of S_12 Nn_12]
  show Go p.tables e below P (T_11.setTop (mkF m 31 #[.val (.ref a), .val (.ref y1), .val (.ref y2), .val (.int (1 : Int32)), .val (.int (1 : Int32))] [(.int (1 : Int32)), (.int (1 : Int32))]))
  refine Go.step (fun t k => XS.icmpYes X_11.here hx rfl (pc0 := 31) (pc' := 130) rfl (hb hby d11_31) rfl (icY (cd := .ge) (by decide : (1 : Int) ≤ (1 : Int))) (by decide) (by decide) k) ?_
  show Go p.tables e below P (T_11.setTop (mkF m 130 #[.val (.ref a), .val (.ref y1), .val (.ref y2), .val (.int (1 : Int32)), .val (.int (1 : Int32))] []))
  refine Go.step (fun t k => XS.aloadN X_11.here hx rfl (hb hby d11_130) rfl rfl k) ?_
  show Go p.tables e below P (T_11.setTop (mkF m 131 #[.val (.ref a), .val (.ref y1), .val (.ref y2), .val (.int (1 : Int32)), .val (.int (1 : Int32))] [(.ref a)]))
  refine Go.step (fun t k => XS.aloadN X_11.here hx rfl (hb hby d11_131) rfl rfl k) ?_
  show Go p.tables e below P (T_11.setTop (mkF m 132 #[.val (.ref a), .val (.ref y1), .val (.ref y2), .val (.int (1 : Int32)), .val (.int (1 : Int32))] [(.ref y1), (.ref a)]))
  obtain ⟨T_13, h_13, X_13, e_13, E_13, A_13, Ex_13, st_13⟩ := cloneH X_11 hx hZ hown (hw _ (List.mem_of_getElem? (i := 22) rfl)) (hw _ (List.mem_of_getElem? (i := 23) rfl)) (hw _ (List.mem_of_getElem? (i := 27) rfl)) (hw _ (List.mem_of_getElem? (i := 25) rfl)) (hw _ (List.mem_of_getElem? (i := 26) rfl)) (hw _ (List.mem_of_getElem? (i := 28) rfl)) eh_11 Vy1.arh Ey1 (g := (mkF m 132 #[.val (.ref a), .val (.ref y1), .val (.ref y2), .val (.int (1 : Int32)), .val (.int (1 : Int32))] [(.ref y1), (.ref a)])) rfl (by rw [hml]; rfl) rfl (hb hby d11_132) (by decide) (W := 1) (by show 2 * 0 + _ ≤ _; exact Nat.le_of_eq rfl) (by decide) (cap := 1) (by decide) (by decide) (by decide)
  obtain ⟨c1, g_13⟩ : ∃ z, z = h0.size := ⟨_, rfl⟩
  rw [← g_13] at A_13 Ex_13 st_13
  have g_c1 : n0 ≤ c1 := Nat.le_trans Z0 (Nat.le_of_eq g_13.symm)
  have sz_c1 : h0.size ≤ c1 := Nat.le_trans (Keep.refl h0 [a]).1 (Nat.le_of_eq g_13.symm)
  have lt_a_c1 : a < c1 := Nat.lt_of_lt_of_le E_a.lt (Nat.le_of_eq g_13.symm)
  have ne_a_c1 : a ≠ c1 := Nat.ne_of_lt lt_a_c1
  have lt_y1_c1 : y1 < c1 := Nat.lt_of_lt_of_le Vy1.lt (Nat.le_of_eq g_13.symm)
  have ne_y1_c1 : y1 ≠ c1 := Nat.ne_of_lt lt_y1_c1
  have lt_y2_c1 : y2 < c1 := Nat.lt_of_lt_of_le Vy2.lt (Nat.le_of_eq g_13.symm)
  have ne_y2_c1 : y2 ≠ c1 := Nat.ne_of_lt lt_y2_c1
  have V_13 : Arv Z h_13 c1 k1 .double (1 : Int32) [(.double v0)] (.double (0 : UInt64)) := A_13
  have K_13 : Keep h0 h_13 [a] := (Keep.refl h0 [a]).ext E_13
  have Z_13 : n0 ≤ h_13.size := Nat.le_trans Z0 E_13.1
  refine Go.step (fun t k => st_13 t k) ?_
  show Go p.tables e below P (T_13.setTop (mkF m 135 #[.val (.ref a), .val (.ref y1), .val (.ref y2), .val (.int (1 : Int32)), .val (.int (1 : Int32))] [(.ref c1), (.ref a)]))
  obtain ⟨T_14, X_14, e_14, st_14⟩ := castY X_13 hx hZ hown (hw _ (List.mem_of_getElem? (i := 29) rfl)) e_13 (Ins.self Ex_13) (g := (mkF m 135 #[.val (.ref a), .val (.ref y1), .val (.ref y2), .val (.int (1 : Int32)), .val (.int (1 : Int32))] [(.ref c1), (.ref a)])) rfl rfl (hb hby d11_135)
  refine Go.step (fun t k => st_14 t k) ?_
  show Go p.tables e below P (T_14.setTop (mkF m 138 #[.val (.ref a), .val (.ref y1), .val (.ref y2), .val (.int (1 : Int32)), .val (.int (1 : Int32))] [(.ref c1), (.ref a)]))
  obtain ⟨T_15, h_15, X_15, e_15, W_15, st_15⟩ := putF X_14 hx hZ hown (host := "") (Or.inl (hw _ (List.mem_of_getElem? (i := 31) rfl))) Via.refl e_14 (F0.ext E_13) (E_a.ext E_13) (Or.inr ⟨(hw _ (List.mem_of_getElem? (i := 32) rfl)), rfl, hnm⟩) (hw _ (List.mem_of_getElem? (i := 5) rfl)) (ty := (.array .double)) (by decide) rfl rfl (g := (mkF m 138 #[.val (.ref a), .val (.ref y1), .val (.ref y2), .val (.int (1 : Int32)), .val (.int (1 : Int32))] [(.ref c1), (.ref a)])) rfl rfl (hb hby d11_138)
  have Fw_15 := (F0.ext E_13).same W_15
  have N_15 := Fr.snoc X_15 N_11 g_a
  have K_15 : Keep h0 h_15 [a] := K_13.wr W_15 (Or.inl (List.mem_of_getElem? (i := 0) rfl))
  have Z_15 : n0 ≤ h_15.size := Nat.le_trans Z_13 (Keep.of_wr W_15).1
  refine Go.step (fun t k => st_15 t k) ?_
  show Go p.tables e below P (T_15.setTop (mkF m 141 #[.val (.ref a), .val (.ref y1), .val (.ref y2), .val (.int (1 : Int32)), .val (.int (1 : Int32))] []))
  refine Go.step (fun t k => XS.aloadN X_15.here hx rfl (hb hby d11_141) rfl rfl k) ?_
  show Go p.tables e below P (T_15.setTop (mkF m 142 #[.val (.ref a), .val (.ref y1), .val (.ref y2), .val (.int (1 : Int32)), .val (.int (1 : Int32))] [(.ref a)]))
  refine Go.step (fun t k => XS.aloadN X_15.here hx rfl (hb hby d11_142) rfl rfl k) ?_
  show Go p.tables e below P (T_15.setTop (mkF m 143 #[.val (.ref a), .val (.ref y1), .val (.ref y2), .val (.int (1 : Int32)), .val (.int (1 : Int32))] [(.ref y2), (.ref a)]))
  obtain ⟨T_16, h_16, X_16, e_16, E_16, A_16, Ex_16, st_16⟩ := cloneH X_15 hx hZ hown (hw _ (List.mem_of_getElem? (i := 22) rfl)) (hw _ (List.mem_of_getElem? (i := 23) rfl)) (hw _ (List.mem_of_getElem? (i := 27) rfl)) (hw _ (List.mem_of_getElem? (i := 25) rfl)) (hw _ (List.mem_of_getElem? (i := 26) rfl)) (hw _ (List.mem_of_getElem? (i := 28) rfl)) e_15 ((Vy2.ext E_13).other W_15 (Ne.symm na2)).arh ((Ey2.ext E_13).wr W_15) (g := (mkF m 143 #[.val (.ref a), .val (.ref y1), .val (.ref y2), .val (.int (1 : Int32)), .val (.int (1 : Int32))] [(.ref y2), (.ref a)])) rfl (by rw [hml]; rfl) rfl (hb hby d11_143) (by decide) (W := 1) (by show 2 * 0 + _ ≤ _; exact Nat.le_of_eq rfl) (by decide) (cap := 1) (by decide) (by decide) (by decide)
  obtain ⟨c2, g_16⟩ : ∃ z, z = h_15.size := ⟨_, rfl⟩
  rw [← g_16] at A_16 Ex_16 st_16
  have g_c2 : n0 ≤ c2 := Nat.le_trans Z_15 (Nat.le_of_eq g_16.symm)
  have sz_c2 : h0.size ≤ c2 := Nat.le_trans K_15.1 (Nat.le_of_eq g_16.symm)
  have lt_a_c2 : a < c2 := Nat.lt_of_lt_of_le ((E_a.ext E_13).wr W_15).lt (Nat.le_of_eq g_16.symm)
  have ne_a_c2 : a ≠ c2 := Nat.ne_of_lt lt_a_c2
  have lt_y1_c2 : y1 < c2 := Nat.lt_of_lt_of_le ((Vy1.ext E_13).other W_15 (Ne.symm na1)).lt (Nat.le_of_eq g_16.symm)
  have ne_y1_c2 : y1 ≠ c2 := Nat.ne_of_lt lt_y1_c2
  have lt_y2_c2 : y2 < c2 := Nat.lt_of_lt_of_le ((Vy2.ext E_13).other W_15 (Ne.symm na2)).lt (Nat.le_of_eq g_16.symm)
  have ne_y2_c2 : y2 ≠ c2 := Nat.ne_of_lt lt_y2_c2
  have lt_c1_c2 : c1 < c2 := Nat.lt_of_lt_of_le (V_13.other W_15 (Ne.symm ne_a_c1)).lt (Nat.le_of_eq g_16.symm)
  have ne_c1_c2 : c1 ≠ c2 := Nat.ne_of_lt lt_c1_c2
  have V_16 : Arv Z h_16 c2 k2 .double (1 : Int32) [(.double fv)] (.double (0 : UInt64)) := A_16
  have K_16 : Keep h0 h_16 [a] := K_15.ext E_16
  have Z_16 : n0 ≤ h_16.size := Nat.le_trans Z_15 E_16.1
  refine Go.step (fun t k => st_16 t k) ?_
  show Go p.tables e below P (T_16.setTop (mkF m 146 #[.val (.ref a), .val (.ref y1), .val (.ref y2), .val (.int (1 : Int32)), .val (.int (1 : Int32))] [(.ref c2), (.ref a)]))
  obtain ⟨T_17, X_17, e_17, st_17⟩ := castY X_16 hx hZ hown (hw _ (List.mem_of_getElem? (i := 29) rfl)) e_16 (Ins.self Ex_16) (g := (mkF m 146 #[.val (.ref a), .val (.ref y1), .val (.ref y2), .val (.int (1 : Int32)), .val (.int (1 : Int32))] [(.ref c2), (.ref a)])) rfl rfl (hb hby d11_146)
  refine Go.step (fun t k => st_17 t k) ?_
  show Go p.tables e below P (T_17.setTop (mkF m 149 #[.val (.ref a), .val (.ref y1), .val (.ref y2), .val (.int (1 : Int32)), .val (.int (1 : Int32))] [(.ref c2), (.ref a)]))
  obtain ⟨T_18, h_18, X_18, e_18, W_18, st_18⟩ := putF X_17 hx hZ hown (host := "") (Or.inl (hw _ (List.mem_of_getElem? (i := 33) rfl))) Via.refl e_17 (((F1.ext E_13).other W_15 (Or.inr (slot_ne (Or.inr (hw _ (List.mem_of_getElem? (i := 34) rfl))) (Or.inr (hw _ (List.mem_of_getElem? (i := 32) rfl))) (by decide) (t := (.array .double)) (t' := (.array .double)) (by decide) (by decide)))).ext E_16) (((E_a.ext E_13).wr W_15).ext E_16) (Or.inr ⟨(hw _ (List.mem_of_getElem? (i := 34) rfl)), rfl, hnm⟩) (hw _ (List.mem_of_getElem? (i := 5) rfl)) (ty := (.array .double)) (by decide) rfl rfl (g := (mkF m 149 #[.val (.ref a), .val (.ref y1), .val (.ref y2), .val (.int (1 : Int32)), .val (.int (1 : Int32))] [(.ref c2), (.ref a)])) rfl rfl (hb hby d11_149)
  have Fw_18 := (((F1.ext E_13).other W_15 (Or.inr (slot_ne (Or.inr (hw _ (List.mem_of_getElem? (i := 34) rfl))) (Or.inr (hw _ (List.mem_of_getElem? (i := 32) rfl))) (by decide) (t := (.array .double)) (t' := (.array .double)) (by decide) (by decide)))).ext E_16).same W_18
  have N_18 := Fr.snoc X_18 N_15 g_a
  have K_18 : Keep h0 h_18 [a] := K_16.wr W_18 (Or.inl (List.mem_of_getElem? (i := 0) rfl))
  have Z_18 : n0 ≤ h_18.size := Nat.le_trans Z_16 (Keep.of_wr W_18).1
  refine Go.step (fun t k => st_18 t k) ?_
  show Go p.tables e below P (T_18.setTop (mkF m 152 #[.val (.ref a), .val (.ref y1), .val (.ref y2), .val (.int (1 : Int32)), .val (.int (1 : Int32))] []))
  exact voidGo X_18 hx hP Bd.returns hlk (hb hby d11_152) (by decide) (by decide) (by rw [e_18]; exact ⟨rfl, N_18, K_18, ((((E_a.ext E_13).wr W_15).ext E_16).wr W_18), c1, ((Fw_15.ext E_16).other W_18 (Or.inr (slot_ne (Or.inr (hw _ (List.mem_of_getElem? (i := 32) rfl))) (Or.inr (hw _ (List.mem_of_getElem? (i := 34) rfl))) (by decide) (t := (.array .double)) (t' := (.array .double)) (by decide) (by decide)))), (((V_13.other W_15 (Ne.symm ne_a_c1)).ext E_16).other W_18 (Ne.symm ne_a_c1))⟩)
theorem d25_0 : decode prog_11_method_4_code 0 = .ok (.iload_n 1, 1) := by decide +kernel
theorem d25_1 : decode prog_11_method_4_code 1 = .ok (.iconst 1, 1) := by decide +kernel
theorem d25_2 : decode prog_11_method_4_code 2 = .ok (.iadd, 1) := by decide +kernel
theorem d25_3 : decode prog_11_method_4_code 3 = .ok (.aload_n 0, 1) := by decide +kernel
theorem d25_4 : decode prog_11_method_4_code 4 = .ok (.getfield 30, 3) := by decide +kernel
theorem d25_7 : decode prog_11_method_4_code 7 = .ok (.arraylength, 1) := by decide +kernel
theorem d25_8 : decode prog_11_method_4_code 8 = .ok (.if_icmp .ge 14, 3) := by decide +kernel
theorem d25_22 : decode prog_11_method_4_code 22 = .ok (.ldc2_w 38, 3) := by decide +kernel
theorem d25_25 : decode prog_11_method_4_code 25 = .ok (.dreturn, 1) := by decide +kernel
theorem pn_25 : plainName "com/example/gleitfahrt/gleitfahrt/engine/ForceCurve$Table" = true := by first | (simp [plainName, overriddenIn]; done) | decide +kernel
theorem ef_25 (m : MethodId) (x0 : Addr) (x1 : Int32) : entryFrame m #[(.ref x0), (.int x1)] 2 = mkF m 0 #[.val (.ref x0), .val (.int x1)] [] := by first | (simp [entryFrame, mkF, argsToLocals, Value.category]; done) | rfl
def Q25 (Z : State) (a : Addr) (x1 : Addr) (k1 : ClassId) (v0 : UInt64) (h0 : Heap) (n0 : Nat) (v : Option Value) (h : Heap) (L : List Loc) : Prop := v = some (.double (9218868437227405312 : UInt64)) ∧ Fr n0 L ∧ h = h0
set_option maxRecDepth 65536 in
set_option maxHeartbeats 40000000 in
theorem up1_0 (l : Launch) (Z : State) (a0 : Array Value) (hw : ∀ d ∈ tables_1, d.before a0 Z = true) (ws : List Jvm.Cond) (a : Addr) (x1 : Addr) (k1 : ClassId) (v0 : UInt64) (h0 : Heap) (n0 : Nat) (Z0 : n0 ≤ h0.size) (F0 : Fld Z h0 a "com/example/gleitfahrt/gleitfahrt/engine/ForceCurve$Table" "speedsMs" "[D" (.ref x1)) (Vx1 : Arv Z h0 x1 k1 .double (1 : Int32) [(.double v0)] (.double (0 : UInt64))) :
    MetFree l (⟨"com/example/gleitfahrt/gleitfahrt/engine/ForceCurve$Table", "upperMs", "(I)D"⟩ : MethodName) (head1 (Jvm.Cond.code (⟨"com/example/gleitfahrt/gleitfahrt/engine/ForceCurve$Table", "upperMs", "(I)D"⟩ : MethodName) prog_11_method_4_code 2 (some .double) :: ws) ({ frames := 0, cells := 0, slots := 0, locals := 0 } : Room)) (fun a_ U => a_ = #[(.ref a), (.int (0 : Int32))] ∧ Z.Warmed39 U.vm ∧ U.heap = h0) (fun _ _ _ _ _ => True) (fun _ U o U' => ∃ v L, o = .returned v ∧ Q25 Z a x1 k1 v0 h0 n0 v U'.heap L ∧ FrameEnd U o U' L (({ frames := 0, cells := 0, slots := 0, locals := 0 } : Room)).cells (({ frames := 0, cells := 0, slots := 0, locals := 0 } : Room)).slots) := by
  refine MetFree.of_bodySF (plainFor_of_name pn_25) hisR ?_
  intro p e s m args below meth c s₁ Bd hml0 hP0 hK
  obtain ⟨rfl, hZ, hh⟩ := hP0
  have hx := Bd.exec
  have hby := Bd.bytes
  have hml : c.maxLocals = 2 := hml0
  have hown : s.vm.findClass "com/example/gleitfahrt/gleitfahrt/engine/ForceCurve$Table" = some m.cls := findClass_of_methodNamed Bd.named
  have hnm := (name_of_methodNamed Bd.named Bd.method).1
  have X0 : Stand p l e ({ frames := 0, cells := 0, slots := 0, locals := 0 } : Room) s m #[(.ref a), (.int (0 : Int32))] below meth c s₁ [] 0 0 := Stand.of_body Bd
  have e0 : s₁.heap = h0 := by rw [← hh, Bd.state]; rfl
  have N0 := Fr.nil n0
  have hlk : meth.locks = false := BodyLoose.notSynchronized Bd
  refine Go.start (P₀ := fun s₂ o => ∃ v L, o = .returned v ∧ Q25 Z a x1 k1 v0 h0 n0 v s₂.heap L ∧ FrameEnd s o s₂ L (({ frames := 0, cells := 0, slots := 0, locals := 0 } : Room)).cells (({ frames := 0, cells := 0, slots := 0, locals := 0 } : Room)).slots) (congrArg s₁.setTop (ef_25 m a (0 : Int32))) ?_
  intro P hP
  show Go p.tables e below P (s₁.setTop (mkF m 0 #[.val (.ref a), .val (.int (0 : Int32))] []))
  refine Go.step (fun t k => XS.iloadN X0.here hx rfl (hb hby d25_0) rfl  k) ?_
  show Go p.tables e below P (s₁.setTop (mkF m 1 #[.val (.ref a), .val (.int (0 : Int32))] [(.int (0 : Int32))]))
  refine Go.step (fun t k => XS.iconst X0.here hx rfl (hb hby d25_1) k) ?_
  show Go p.tables e below P (s₁.setTop (mkF m 2 #[.val (.ref a), .val (.int (0 : Int32))] [(.int (1 : Int32)), (.int (0 : Int32))]))
  obtain ⟨ja, hja⟩ : ∃ z : Int32, (0 : Int32) + (1 : Int32) = z := ⟨_, rfl⟩
  refine Go.step (fun t k => iadd_v X0.here hx rfl (hb hby d25_2) rfl  hja k) ?_
  show Go p.tables e below P (s₁.setTop (mkF m 3 #[.val (.ref a), .val (.int (0 : Int32))] [(.int ja)]))
  have ez_ja : ja = (1 : Int32) := by rw [← hja]; rfl
  subst ez_ja
  show Go p.tables e below P (s₁.setTop (mkF m 3 #[.val (.ref a), .val (.int (0 : Int32))] [(.int (1 : Int32))]))
  refine Go.step (fun t k => XS.aloadN X0.here hx rfl (hb hby d25_3) rfl rfl k) ?_
  show Go p.tables e below P (s₁.setTop (mkF m 4 #[.val (.ref a), .val (.int (0 : Int32))] [(.ref a), (.int (1 : Int32))]))
  obtain ⟨T_1, X_1, e_1, st_1⟩ := getF X0 hx hZ hown (host := "") (Or.inl (hw _ (List.mem_of_getElem? (i := 31) rfl))) Via.refl e0 F0 (g := (mkF m 4 #[.val (.ref a), .val (.int (0 : Int32))] [(.ref a), (.int (1 : Int32))])) rfl rfl (hb hby d25_4)
  refine Go.step (fun t k => st_1 t k) ?_
  show Go p.tables e below P (T_1.setTop (mkF m 7 #[.val (.ref a), .val (.int (0 : Int32))] [(.ref x1), (.int (1 : Int32))]))
  have vq_2 := Vx1
  obtain ⟨cl_2, Ar_2, q_2, S_2, Nn_2, H_2, G_2⟩ := vq_2
  refine Go.step (fun t k => X_1.arraylength hx (by rw [e_1]; exact Ar_2.1) (State.isArrayOf_alike hZ.alike Ar_2.2.1) (g := (mkF m 7 #[.val (.ref a), .val (.int (0 : Int32))] [(.ref x1), (.int (1 : Int32))])) rfl rfl (hb hby d25_7) t k) ?_
  rw [len_of S_2 Nn_2]
  show Go p.tables e below P (T_1.setTop (mkF m 8 #[.val (.ref a), .val (.int (0 : Int32))] [(.int (1 : Int32)), (.int (1 : Int32))]))
  refine Go.step (fun t k => XS.icmpYes X_1.here hx rfl (pc0 := 8) (pc' := 22) rfl (hb hby d25_8) rfl (icY (cd := .ge) (by decide : (1 : Int) ≤ (1 : Int))) (by decide) (by decide) k) ?_
  show Go p.tables e below P (T_1.setTop (mkF m 22 #[.val (.ref a), .val (.int (0 : Int32))] []))
  refine Go.step (fun t k => X_1.ldc2DoubleC hx hown (mvT hZ (hw _ (List.mem_of_getElem? (i := 41) rfl))) (g := (mkF m 22 #[.val (.ref a), .val (.int (0 : Int32))] [])) rfl (hb hby d25_22) t k) ?_
  show Go p.tables e below P (T_1.setTop (mkF m 25 #[.val (.ref a), .val (.int (0 : Int32))] [(.double (9218868437227405312 : UInt64))]))
  exact retGo X_1 hx hP Bd.returns hlk rfl (Or.inr (Or.inr (Or.inl ⟨rfl, rfl, _, rfl⟩))) (hb hby d25_25) (by decide) (by decide) (by rw [e_1]; exact ⟨rfl, N0, rfl⟩)
theorem d12_0 : decode prog_11_method_1_code 0 = .ok (.aload_n 0, 1) := by decide +kernel
theorem d12_1 : decode prog_11_method_1_code 1 = .ok (.invokespecial 1, 3) := by decide +kernel
theorem d12_4 : decode prog_11_method_1_code 4 = .ok (.aload_n 1, 1) := by decide +kernel
theorem d12_5 : decode prog_11_method_1_code 5 = .ok (.arraylength, 1) := by decide +kernel
theorem d12_6 : decode prog_11_method_1_code 6 = .ok (.ifCond .eq 10, 3) := by decide +kernel
theorem d12_9 : decode prog_11_method_1_code 9 = .ok (.aload_n 1, 1) := by decide +kernel
theorem d12_10 : decode prog_11_method_1_code 10 = .ok (.arraylength, 1) := by decide +kernel
theorem d12_11 : decode prog_11_method_1_code 11 = .ok (.aload_n 2, 1) := by decide +kernel
theorem d12_12 : decode prog_11_method_1_code 12 = .ok (.arraylength, 1) := by decide +kernel
theorem d12_13 : decode prog_11_method_1_code 13 = .ok (.if_icmp .eq 13, 3) := by decide +kernel
theorem d12_26 : decode prog_11_method_1_code 26 = .ok (.iconst 0, 1) := by decide +kernel
theorem d12_27 : decode prog_11_method_1_code 27 = .ok (.istore_n 3, 1) := by decide +kernel
theorem d12_28 : decode prog_11_method_1_code 28 = .ok (.iload_n 3, 1) := by decide +kernel
theorem d12_29 : decode prog_11_method_1_code 29 = .ok (.aload_n 1, 1) := by decide +kernel
theorem d12_30 : decode prog_11_method_1_code 30 = .ok (.arraylength, 1) := by decide +kernel
theorem d12_31 : decode prog_11_method_1_code 31 = .ok (.if_icmp .ge 99, 3) := by decide +kernel
theorem d12_34 : decode prog_11_method_1_code 34 = .ok (.iload_n 3, 1) := by decide +kernel
theorem d12_35 : decode prog_11_method_1_code 35 = .ok (.ifCond .ne 19, 3) := by decide +kernel
theorem d12_38 : decode prog_11_method_1_code 38 = .ok (.aload_n 1, 1) := by decide +kernel
theorem d12_39 : decode prog_11_method_1_code 39 = .ok (.iload_n 3, 1) := by decide +kernel
theorem d12_40 : decode prog_11_method_1_code 40 = .ok (.daload, 1) := by decide +kernel
theorem d12_41 : decode prog_11_method_1_code 41 = .ok (.dconst 0, 1) := by decide +kernel
theorem d12_42 : decode prog_11_method_1_code 42 = .ok (.dcmp .l, 1) := by decide +kernel
theorem d12_43 : decode prog_11_method_1_code 43 = .ok (.ifCond .lt 7, 3) := by decide +kernel
theorem d12_46 : decode prog_11_method_1_code 46 = .ok (.iconst 1, 1) := by decide +kernel
theorem d12_47 : decode prog_11_method_1_code 47 = .ok (.goto 24, 3) := by decide +kernel
theorem d12_54 : decode prog_11_method_1_code 54 = .ok (.aload_n 1, 1) := by decide +kernel
theorem d12_55 : decode prog_11_method_1_code 55 = .ok (.iload_n 3, 1) := by decide +kernel
theorem d12_56 : decode prog_11_method_1_code 56 = .ok (.daload, 1) := by decide +kernel
theorem d12_57 : decode prog_11_method_1_code 57 = .ok (.aload_n 1, 1) := by decide +kernel
theorem d12_58 : decode prog_11_method_1_code 58 = .ok (.iload_n 3, 1) := by decide +kernel
theorem d12_59 : decode prog_11_method_1_code 59 = .ok (.iconst 1, 1) := by decide +kernel
theorem d12_60 : decode prog_11_method_1_code 60 = .ok (.isub, 1) := by decide +kernel
theorem d12_61 : decode prog_11_method_1_code 61 = .ok (.daload, 1) := by decide +kernel
theorem d12_62 : decode prog_11_method_1_code 62 = .ok (.dcmp .l, 1) := by decide +kernel
theorem d12_63 : decode prog_11_method_1_code 63 = .ok (.ifCond .le 7, 3) := by decide +kernel
theorem d12_66 : decode prog_11_method_1_code 66 = .ok (.iconst 1, 1) := by decide +kernel
theorem d12_67 : decode prog_11_method_1_code 67 = .ok (.goto 4, 3) := by decide +kernel
theorem d12_71 : decode prog_11_method_1_code 71 = .ok (.istore 4, 2) := by decide +kernel
theorem d12_73 : decode prog_11_method_1_code 73 = .ok (.iload 4, 2) := by decide +kernel
theorem d12_75 : decode prog_11_method_1_code 75 = .ok (.ifCond .eq 12, 3) := by decide +kernel
theorem d12_78 : decode prog_11_method_1_code 78 = .ok (.aload_n 1, 1) := by decide +kernel
theorem d12_79 : decode prog_11_method_1_code 79 = .ok (.iload_n 3, 1) := by decide +kernel
theorem d12_80 : decode prog_11_method_1_code 80 = .ok (.daload, 1) := by decide +kernel
theorem d12_81 : decode prog_11_method_1_code 81 = .ok (.invokestatic 14, 3) := by decide +kernel
theorem d12_84 : decode prog_11_method_1_code 84 = .ok (.ifCond .ne 13, 3) := by decide +kernel
theorem d12_97 : decode prog_11_method_1_code 97 = .ok (.aload_n 2, 1) := by decide +kernel
theorem d12_98 : decode prog_11_method_1_code 98 = .ok (.iload_n 3, 1) := by decide +kernel
theorem d12_99 : decode prog_11_method_1_code 99 = .ok (.daload, 1) := by decide +kernel
theorem d12_100 : decode prog_11_method_1_code 100 = .ok (.dconst 0, 1) := by decide +kernel
theorem d12_101 : decode prog_11_method_1_code 101 = .ok (.dcmp .l, 1) := by decide +kernel
theorem d12_102 : decode prog_11_method_1_code 102 = .ok (.ifCond .lt 12, 3) := by decide +kernel
theorem d12_105 : decode prog_11_method_1_code 105 = .ok (.aload_n 2, 1) := by decide +kernel
theorem d12_106 : decode prog_11_method_1_code 106 = .ok (.iload_n 3, 1) := by decide +kernel
theorem d12_107 : decode prog_11_method_1_code 107 = .ok (.daload, 1) := by decide +kernel
theorem d12_108 : decode prog_11_method_1_code 108 = .ok (.invokestatic 14, 3) := by decide +kernel
theorem d12_111 : decode prog_11_method_1_code 111 = .ok (.ifCond .ne 13, 3) := by decide +kernel
theorem d12_124 : decode prog_11_method_1_code 124 = .ok (.iinc 3 1, 3) := by decide +kernel
theorem d12_127 : decode prog_11_method_1_code 127 = .ok (.goto (-99), 3) := by decide +kernel
theorem d12_130 : decode prog_11_method_1_code 130 = .ok (.aload_n 0, 1) := by decide +kernel
theorem d12_131 : decode prog_11_method_1_code 131 = .ok (.aload_n 1, 1) := by decide +kernel
theorem d12_132 : decode prog_11_method_1_code 132 = .ok (.invokevirtual 24, 3) := by decide +kernel
theorem d12_135 : decode prog_11_method_1_code 135 = .ok (.checkcast 25, 3) := by decide +kernel
theorem d12_138 : decode prog_11_method_1_code 138 = .ok (.putfield 30, 3) := by decide +kernel
theorem d12_141 : decode prog_11_method_1_code 141 = .ok (.aload_n 0, 1) := by decide +kernel
theorem d12_142 : decode prog_11_method_1_code 142 = .ok (.aload_n 2, 1) := by decide +kernel
theorem d12_143 : decode prog_11_method_1_code 143 = .ok (.invokevirtual 24, 3) := by decide +kernel
theorem d12_146 : decode prog_11_method_1_code 146 = .ok (.checkcast 25, 3) := by decide +kernel
theorem d12_149 : decode prog_11_method_1_code 149 = .ok (.putfield 35, 3) := by decide +kernel
theorem d12_152 : decode prog_11_method_1_code 152 = .ok (.return_, 1) := by decide +kernel
theorem pn_12 : plainName "com/example/gleitfahrt/gleitfahrt/engine/ForceCurve$Table" = true := by first | (simp [plainName, overriddenIn]; done) | decide +kernel
theorem ef_12 (m : MethodId) (x0 : Addr) (x1 : Addr) (x2 : Addr) : entryFrame m #[(.ref x0), (.ref x1), (.ref x2)] 5 = mkF m 0 #[.val (.ref x0), .val (.ref x1), .val (.ref x2), .unset, .unset] [] := by first | (simp [entryFrame, mkF, argsToLocals, Value.category]; done) | rfl
def Q12 (Z : State) (a : Addr) (y1 : Addr) (y2 : Addr) (k1 : ClassId) (k2 : ClassId) (v0 : UInt64) (v1 : UInt64) (fv : UInt64) (z0 : Int) (z1 : Int) (zf : Int) (h0 : Heap) (n0 : Nat) (v : Option Value) (h : Heap) (L : List Loc) : Prop := v = none ∧ Fr n0 L ∧ Keep h0 h [a] ∧ Exa Z h a "com/example/gleitfahrt/gleitfahrt/engine/ForceCurve$Table" ∧ ∃ (x1 : Addr), Fld Z h a "com/example/gleitfahrt/gleitfahrt/engine/ForceCurve$Table" "speedsMs" "[D" (.ref x1) ∧ Arv Z h x1 k1 .double (2 : Int32) [(.double v0), (.double v1)] (.double (0 : UInt64))
set_option maxRecDepth 65536 in
set_option maxHeartbeats 40000000 in
theorem rm12 (l : Launch) (Z : State) (a0 : Array Value) (hw : ∀ d ∈ tables_1, d.before a0 Z = true) (ws : List Jvm.Cond) (a : Addr) (y1 : Addr) (y2 : Addr) (k1 : ClassId) (k2 : ClassId) (v0 : UInt64) (v1 : UInt64) (fv : UInt64) (z0 : Int) (z1 : Int) (zf : Int) (h0 : Heap) (n0 : Nat) (Z0 : n0 ≤ h0.size) (E_a : Exa Z h0 a "com/example/gleitfahrt/gleitfahrt/engine/ForceCurve$Table") (F0 : Fld Z h0 a "com/example/gleitfahrt/gleitfahrt/engine/ForceCurve$Table" "speedsMs" "[D" .null) (F1 : Fld Z h0 a "com/example/gleitfahrt/gleitfahrt/engine/ForceCurve$Table" "forcesN" "[D" .null) (g_a : n0 ≤ a) (Ey1 : Exa Z h0 y1 "[D") (Ey2 : Exa Z h0 y2 "[D") (Vy1 : Arv Z h0 y1 k1 .double (2 : Int32) [(.double v0), (.double v1)] (.double (0 : UInt64))) (Vy2 : Arv Z h0 y2 k2 .double (2 : Int32) [(.double fv), (.double fv)] (.double (0 : UInt64))) (na1 : a ≠ y1) (na2 : a ≠ y2) (q0 : DE 1074 z0 v0) (q1 : DE 1074 z1 v1) (qf : DE 1074 zf fv) (bf : 0 ≤ zf) (b0 : 0 ≤ z0) (b1 : z0 < z1) :
    MetFree l (⟨"com/example/gleitfahrt/gleitfahrt/engine/ForceCurve$Table", "<init>", "([D[D)V"⟩ : MethodName) (head1 (Jvm.Cond.code (⟨"com/example/gleitfahrt/gleitfahrt/engine/ForceCurve$Table", "<init>", "([D[D)V"⟩ : MethodName) prog_11_method_1_code 5 none :: ws) ({ frames := 2, cells := 2, slots := 4, locals := 26 } : Room)) (fun a_ U => a_ = #[(.ref a), (.ref y1), (.ref y2)] ∧ Z.Warmed39 U.vm ∧ U.heap = h0) (fun _ _ _ _ _ => True) (fun _ U o U' => ∃ v L, o = .returned v ∧ Q12 Z a y1 y2 k1 k2 v0 v1 fv z0 z1 zf h0 n0 v U'.heap L ∧ FrameEnd U o U' L (({ frames := 2, cells := 2, slots := 4, locals := 26 } : Room)).cells (({ frames := 2, cells := 2, slots := 4, locals := 26 } : Room)).slots) := by
  refine MetFree.of_bodySF (plainFor_of_name pn_12) hisR ?_
  intro p e s m args below meth c s₁ Bd hml0 hP0 hK
  obtain ⟨rfl, hZ, hh⟩ := hP0
  have hx := Bd.exec
  have hby := Bd.bytes
  have hml : c.maxLocals = 5 := hml0
  have hown : s.vm.findClass "com/example/gleitfahrt/gleitfahrt/engine/ForceCurve$Table" = some m.cls := findClass_of_methodNamed Bd.named
  have hnm := (name_of_methodNamed Bd.named Bd.method).1
  have X0 : Stand p l e ({ frames := 2, cells := 2, slots := 4, locals := 26 } : Room) s m #[(.ref a), (.ref y1), (.ref y2)] below meth c s₁ [] 0 0 := Stand.of_body Bd
  have e0 : s₁.heap = h0 := by rw [← hh, Bd.state]; rfl
  have N0 := Fr.nil n0
  have hlk : meth.locks = false := BodyLoose.notSynchronized Bd
  refine Go.start (P₀ := fun s₂ o => ∃ v L, o = .returned v ∧ Q12 Z a y1 y2 k1 k2 v0 v1 fv z0 z1 zf h0 n0 v s₂.heap L ∧ FrameEnd s o s₂ L (({ frames := 2, cells := 2, slots := 4, locals := 26 } : Room)).cells (({ frames := 2, cells := 2, slots := 4, locals := 26 } : Room)).slots) (congrArg s₁.setTop (ef_12 m a y1 y2)) ?_
  intro P hP
  show Go p.tables e below P (s₁.setTop (mkF m 0 #[.val (.ref a), .val (.ref y1), .val (.ref y2), .unset, .unset] []))
  refine Go.step (fun t k => XS.aloadN X0.here hx rfl (hb hby d12_0) rfl rfl k) ?_
  show Go p.tables e below P (s₁.setTop (mkF m 1 #[.val (.ref a), .val (.ref y1), .val (.ref y2), .unset, .unset] [(.ref a)]))
  obtain ⟨T_1, X_1, e_1, st_1⟩ := initO X0 hx hZ hown (hw _ (List.mem_of_getElem? (i := 10) rfl)) (hw _ (List.mem_of_getElem? (i := 11) rfl)) (hw _ (List.mem_of_getElem? (i := 12) rfl)) e0 (g := (mkF m 1 #[.val (.ref a), .val (.ref y1), .val (.ref y2), .unset, .unset] [(.ref a)])) rfl (by rw [hml]; rfl) rfl (hb hby d12_1) (by decide) (W := 0) (by show 2 * 0 + _ ≤ _; exact Nat.le_of_eq rfl) (by decide)
  refine Go.step (fun t k => st_1 t k) ?_
  show Go p.tables e below P (T_1.setTop (mkF m 4 #[.val (.ref a), .val (.ref y1), .val (.ref y2), .unset, .unset] []))
  refine Go.step (fun t k => XS.aloadN X_1.here hx rfl (hb hby d12_4) rfl rfl k) ?_
  show Go p.tables e below P (T_1.setTop (mkF m 5 #[.val (.ref a), .val (.ref y1), .val (.ref y2), .unset, .unset] [(.ref y1)]))
  have vq_2 := Vy1
  obtain ⟨cl_2, Ar_2, q_2, S_2, Nn_2, H_2, G_2⟩ := vq_2
  refine Go.step (fun t k => X_1.arraylength hx (by rw [e_1]; exact Ar_2.1) (State.isArrayOf_alike hZ.alike Ar_2.2.1) (g := (mkF m 5 #[.val (.ref a), .val (.ref y1), .val (.ref y2), .unset, .unset] [(.ref y1)])) rfl rfl (hb hby d12_5) t k) ?_
  rw [len_of S_2 Nn_2]
  show Go p.tables e below P (T_1.setTop (mkF m 6 #[.val (.ref a), .val (.ref y1), .val (.ref y2), .unset, .unset] [(.int (2 : Int32))]))
  refine Go.step (fun t k => XS.ifNo X_1.here hx rfl (hb hby d12_6) rfl (ifN (cd := .eq) (by decide : ¬ ((2 : Int) = 0))) k) ?_
  show Go p.tables e below P (T_1.setTop (mkF m 9 #[.val (.ref a), .val (.ref y1), .val (.ref y2), .unset, .unset] []))
  refine Go.step (fun t k => XS.aloadN X_1.here hx rfl (hb hby d12_9) rfl rfl k) ?_
  show Go p.tables e below P (T_1.setTop (mkF m 10 #[.val (.ref a), .val (.ref y1), .val (.ref y2), .unset, .unset] [(.ref y1)]))
  have vq_3 := Vy1
  obtain ⟨cl_3, Ar_3, q_3, S_3, Nn_3, H_3, G_3⟩ := vq_3
  refine Go.step (fun t k => X_1.arraylength hx (by rw [e_1]; exact Ar_3.1) (State.isArrayOf_alike hZ.alike Ar_3.2.1) (g := (mkF m 10 #[.val (.ref a), .val (.ref y1), .val (.ref y2), .unset, .unset] [(.ref y1)])) rfl rfl (hb hby d12_10) t k) ?_
  rw [len_of S_3 Nn_3]
  show Go p.tables e below P (T_1.setTop (mkF m 11 #[.val (.ref a), .val (.ref y1), .val (.ref y2), .unset, .unset] [(.int (2 : Int32))]))
  refine Go.step (fun t k => XS.aloadN X_1.here hx rfl (hb hby d12_11) rfl rfl k) ?_
  show Go p.tables e below P (T_1.setTop (mkF m 12 #[.val (.ref a), .val (.ref y1), .val (.ref y2), .unset, .unset] [(.ref y2), (.int (2 : Int32))]))
  have vq_4 := Vy2
  obtain ⟨cl_4, Ar_4, q_4, S_4, Nn_4, H_4, G_4⟩ := vq_4
  refine Go.step (fun t k => X_1.arraylength hx (by rw [e_1]; exact Ar_4.1) (State.isArrayOf_alike hZ.alike Ar_4.2.1) (g := (mkF m 12 #[.val (.ref a), .val (.ref y1), .val (.ref y2), .unset, .unset] [(.ref y2), (.int (2 : Int32))])) rfl rfl (hb hby d12_12) t k) ?_
  rw [len_of S_4 Nn_4]
  show Go p.tables e below P (T_1.setTop (mkF m 13 #[.val (.ref a), .val (.ref y1), .val (.ref y2), .unset, .unset] [(.int (2 : Int32)), (.int (2 : Int32))]))
  refine Go.step (fun t k => XS.icmpYes X_1.here hx rfl (pc0 := 13) (pc' := 26) rfl (hb hby d12_13) rfl (icY (cd := .eq) (by decide : (2 : Int) = (2 : Int))) (by decide) (by decide) k) ?_
  show Go p.tables e below P (T_1.setTop (mkF m 26 #[.val (.ref a), .val (.ref y1), .val (.ref y2), .unset, .unset] []))
  refine Go.step (fun t k => XS.iconst X_1.here hx rfl (hb hby d12_26) k) ?_
  show Go p.tables e below P (T_1.setTop (mkF m 27 #[.val (.ref a), .val (.ref y1), .val (.ref y2), .unset, .unset] [(.int (0 : Int32))]))
  refine Go.step (fun t k => XS.istoreN X_1.here hx rfl (hb hby d12_27) rfl (l' := #[.val (.ref a), .val (.ref y1), .val (.ref y2), .val (.int (0 : Int32)), .unset]) rfl k) ?_
  show Go p.tables e below P (T_1.setTop (mkF m 28 #[.val (.ref a), .val (.ref y1), .val (.ref y2), .val (.int (0 : Int32)), .unset] []))
  refine Go.step (fun t k => XS.iloadN X_1.here hx rfl (hb hby d12_28) rfl  k) ?_
  show Go p.tables e below P (T_1.setTop (mkF m 29 #[.val (.ref a), .val (.ref y1), .val (.ref y2), .val (.int (0 : Int32)), .unset] [(.int (0 : Int32))]))
  refine Go.step (fun t k => XS.aloadN X_1.here hx rfl (hb hby d12_29) rfl rfl k) ?_
  show Go p.tables e below P (T_1.setTop (mkF m 30 #[.val (.ref a), .val (.ref y1), .val (.ref y2), .val (.int (0 : Int32)), .unset] [(.ref y1), (.int (0 : Int32))]))
  have vq_5 := Vy1
  obtain ⟨cl_5, Ar_5, q_5, S_5, Nn_5, H_5, G_5⟩ := vq_5
  refine Go.step (fun t k => X_1.arraylength hx (by rw [e_1]; exact Ar_5.1) (State.isArrayOf_alike hZ.alike Ar_5.2.1) (g := (mkF m 30 #[.val (.ref a), .val (.ref y1), .val (.ref y2), .val (.int (0 : Int32)), .unset] [(.ref y1), (.int (0 : Int32))])) rfl rfl (hb hby d12_30) t k) ?_
  rw [len_of S_5 Nn_5]
  show Go p.tables e below P (T_1.setTop (mkF m 31 #[.val (.ref a), .val (.ref y1), .val (.ref y2), .val (.int (0 : Int32)), .unset] [(.int (2 : Int32)), (.int (0 : Int32))]))
  refine Go.step (fun t k => XS.icmpNo X_1.here hx rfl (hb hby d12_31) rfl (icN (cd := .ge) (by decide : ¬ ((2 : Int) ≤ (0 : Int)))) k) ?_
  show Go p.tables e below P (T_1.setTop (mkF m 34 #[.val (.ref a), .val (.ref y1), .val (.ref y2), .val (.int (0 : Int32)), .unset] []))
  refine Go.step (fun t k => XS.iloadN X_1.here hx rfl (hb hby d12_34) rfl  k) ?_
  show Go p.tables e below P (T_1.setTop (mkF m 35 #[.val (.ref a), .val (.ref y1), .val (.ref y2), .val (.int (0 : Int32)), .unset] [(.int (0 : Int32))]))
  refine Go.step (fun t k => XS.ifNo X_1.here hx rfl (hb hby d12_35) rfl (ifN (cd := .ne) (by decide : ¬ (¬ (0 : Int) = 0))) k) ?_
  show Go p.tables e below P (T_1.setTop (mkF m 38 #[.val (.ref a), .val (.ref y1), .val (.ref y2), .val (.int (0 : Int32)), .unset] []))
  refine Go.step (fun t k => XS.aloadN X_1.here hx rfl (hb hby d12_38) rfl rfl k) ?_
  show Go p.tables e below P (T_1.setTop (mkF m 39 #[.val (.ref a), .val (.ref y1), .val (.ref y2), .val (.int (0 : Int32)), .unset] [(.ref y1)]))
  refine Go.step (fun t k => XS.iloadN X_1.here hx rfl (hb hby d12_39) rfl  k) ?_
  show Go p.tables e below P (T_1.setTop (mkF m 40 #[.val (.ref a), .val (.ref y1), .val (.ref y2), .val (.int (0 : Int32)), .unset] [(.int (0 : Int32)), (.ref y1)]))
  have vq_6 := Vy1
  obtain ⟨cl_6, Ar_6, q_6, S_6, Nn_6, H_6, G_6⟩ := vq_6
  have hin_6 : ¬ ((0 : Int32) < 0 ∨ cl_6.slots.size ≤ ((0 : Int32)).toNatClampNeg) := inb_of S_6 ⟨by decide, by decide⟩
  have hat_6 : cl_6.slots[((0 : Int32)).toNatClampNeg]? = some (.double v0) := Has.at H_6 hin_6 rfl
  refine Go.step (fun t k => X_1.daload hx (j := (0 : Int32)) (v := (.double v0)) (by rw [e_1]; exact Ar_6.1) (State.isArrayOf_alike hZ.alike Ar_6.2.1) Ar_6.2.2 hin_6 hat_6 (g := (mkF m 40 #[.val (.ref a), .val (.ref y1), .val (.ref y2), .val (.int (0 : Int32)), .unset] [(.int (0 : Int32)), (.ref y1)])) rfl rfl (hb hby d12_40) t k) ?_
  show Go p.tables e below P (T_1.setTop (mkF m 41 #[.val (.ref a), .val (.ref y1), .val (.ref y2), .val (.int (0 : Int32)), .unset] [(.double v0)]))
  refine Go.step (fun t k => XS.dconst0 X_1.here hx rfl (hb hby d12_41) rfl k) ?_
  show Go p.tables e below P (T_1.setTop (mkF m 42 #[.val (.ref a), .val (.ref y1), .val (.ref y2), .val (.int (0 : Int32)), .unset] [(.double FP.dconst0), (.double v0)]))
  refine Go.step (fun t k => XS.dcmpS X_1.here hx rfl (hb hby d12_42) rfl rfl k) ?_
  show Go p.tables e below P (T_1.setTop (mkF m 43 #[.val (.ref a), .val (.ref y1), .val (.ref y2), .val (.int (0 : Int32)), .unset] [(.int (cmpValue (FP.dcmp v0 FP.dconst0) .l))]))
  refine Go.step (fun t k => XS.ifNo X_1.here hx rfl (hb hby d12_43) rfl (dcN (cd := .lt) (DE.cmp q0 (zero_e 1074)) (by omega : ¬ (z0 < 0))) k) ?_
  show Go p.tables e below P (T_1.setTop (mkF m 46 #[.val (.ref a), .val (.ref y1), .val (.ref y2), .val (.int (0 : Int32)), .unset] []))
  refine Go.step (fun t k => XS.iconst X_1.here hx rfl (hb hby d12_46) k) ?_
  show Go p.tables e below P (T_1.setTop (mkF m 47 #[.val (.ref a), .val (.ref y1), .val (.ref y2), .val (.int (0 : Int32)), .unset] [(.int (1 : Int32))]))
  refine Go.step (fun t k => XS.goto X_1.here hx rfl (pc0 := 47) (pc' := 71) rfl (hb hby d12_47) (by decide) (by decide) k) ?_
  show Go p.tables e below P (T_1.setTop (mkF m 71 #[.val (.ref a), .val (.ref y1), .val (.ref y2), .val (.int (0 : Int32)), .unset] [(.int (1 : Int32))]))
  refine Go.step (fun t k => XS.istore X_1.here hx rfl (hb hby d12_71) rfl (l' := #[.val (.ref a), .val (.ref y1), .val (.ref y2), .val (.int (0 : Int32)), .val (.int (1 : Int32))]) rfl k) ?_
  show Go p.tables e below P (T_1.setTop (mkF m 73 #[.val (.ref a), .val (.ref y1), .val (.ref y2), .val (.int (0 : Int32)), .val (.int (1 : Int32))] []))
  refine Go.step (fun t k => XS.iload X_1.here hx rfl (hb hby d12_73) rfl  k) ?_
  show Go p.tables e below P (T_1.setTop (mkF m 75 #[.val (.ref a), .val (.ref y1), .val (.ref y2), .val (.int (0 : Int32)), .val (.int (1 : Int32))] [(.int (1 : Int32))]))
  refine Go.step (fun t k => XS.ifNo X_1.here hx rfl (hb hby d12_75) rfl (ifN (cd := .eq) (by decide : ¬ ((1 : Int) = 0))) k) ?_
  show Go p.tables e below P (T_1.setTop (mkF m 78 #[.val (.ref a), .val (.ref y1), .val (.ref y2), .val (.int (0 : Int32)), .val (.int (1 : Int32))] []))
  refine Go.step (fun t k => XS.aloadN X_1.here hx rfl (hb hby d12_78) rfl rfl k) ?_
  show Go p.tables e below P (T_1.setTop (mkF m 79 #[.val (.ref a), .val (.ref y1), .val (.ref y2), .val (.int (0 : Int32)), .val (.int (1 : Int32))] [(.ref y1)]))
  refine Go.step (fun t k => XS.iloadN X_1.here hx rfl (hb hby d12_79) rfl  k) ?_
  show Go p.tables e below P (T_1.setTop (mkF m 80 #[.val (.ref a), .val (.ref y1), .val (.ref y2), .val (.int (0 : Int32)), .val (.int (1 : Int32))] [(.int (0 : Int32)), (.ref y1)]))
  have vq_7 := Vy1
  obtain ⟨cl_7, Ar_7, q_7, S_7, Nn_7, H_7, G_7⟩ := vq_7
  have hin_7 : ¬ ((0 : Int32) < 0 ∨ cl_7.slots.size ≤ ((0 : Int32)).toNatClampNeg) := inb_of S_7 ⟨by decide, by decide⟩
  have hat_7 : cl_7.slots[((0 : Int32)).toNatClampNeg]? = some (.double v0) := Has.at H_7 hin_7 rfl
  refine Go.step (fun t k => X_1.daload hx (j := (0 : Int32)) (v := (.double v0)) (by rw [e_1]; exact Ar_7.1) (State.isArrayOf_alike hZ.alike Ar_7.2.1) Ar_7.2.2 hin_7 hat_7 (g := (mkF m 80 #[.val (.ref a), .val (.ref y1), .val (.ref y2), .val (.int (0 : Int32)), .val (.int (1 : Int32))] [(.int (0 : Int32)), (.ref y1)])) rfl rfl (hb hby d12_80) t k) ?_
  show Go p.tables e below P (T_1.setTop (mkF m 81 #[.val (.ref a), .val (.ref y1), .val (.ref y2), .val (.int (0 : Int32)), .val (.int (1 : Int32))] [(.double v0)]))
  obtain ⟨_, _, ⟨T_8, L_8, k_8, n_8⟩, -, X_8, ⟨Lc_8, hQ_8, l_8, y_8, z_8⟩, st_8⟩ := Jvm.LawKit.callS X_1 hx (y := (⟨"java/lang/Double", "isFinite", "(D)Z"⟩ : MethodName)) hown (mvT hZ (hw _ (List.mem_of_getElem? (i := 13) rfl))) (mvT hZ (hw _ (List.mem_of_getElem? (i := 14) rfl))) (mvT hZ (hw _ (List.mem_of_getElem? (i := 15) rfl))) (mvT hZ (hw _ (List.mem_of_getElem? (i := 16) rfl))) (by decide) (backOf (W := 0) (rm1 l Z a0 hw [] v0 h0 n0 Z0 q0.1) hZ (hw _ (List.mem_of_getElem? (i := 16) rfl)) (hw _ (List.mem_of_getElem? (i := 15) rfl)) (by decide) (by decide)) (g := (mkF m 81 #[.val (.ref a), .val (.ref y1), .val (.ref y2), .val (.int (0 : Int32)), .val (.int (1 : Int32))] [(.double v0)])) rfl (by rw [hml]; rfl) (argsL := [(.double v0)]) (rest := []) (lenOf pd_1 rfl) rfl (by show 2 * 0 + _ ≤ _; exact Nat.le_of_eq rfl) (hb hby d12_81) (fun _ _ => ⟨rfl, e_1, (by decide : 0 + 0 ≤ _), (by decide : 0 + 0 ≤ _)⟩)
  dsimp only [Pt.U, Pt.locs, Pt.cells, Pt.slots] at X_8 l_8 y_8 z_8 st_8 hQ_8
  subst l_8 y_8 z_8
  obtain ⟨rfl, N_8q, eh_8⟩ := hQ_8
  have N_8 := Fr.app N0 N_8q
  refine Go.step (fun t k => st_8 t k) ?_
  show Go p.tables e below P (T_8.setTop (mkF m 84 #[.val (.ref a), .val (.ref y1), .val (.ref y2), .val (.int (0 : Int32)), .val (.int (1 : Int32))] [(.int (1 : Int32))]))
  refine Go.step (fun t k => XS.ifYes X_8.here hx rfl (pc0 := 84) (pc' := 97) rfl (hb hby d12_84) rfl (ifY (cd := .ne) (by decide : ¬ (1 : Int) = 0)) (by decide) (by decide) k) ?_
  show Go p.tables e below P (T_8.setTop (mkF m 97 #[.val (.ref a), .val (.ref y1), .val (.ref y2), .val (.int (0 : Int32)), .val (.int (1 : Int32))] []))
  refine Go.step (fun t k => XS.aloadN X_8.here hx rfl (hb hby d12_97) rfl rfl k) ?_
  show Go p.tables e below P (T_8.setTop (mkF m 98 #[.val (.ref a), .val (.ref y1), .val (.ref y2), .val (.int (0 : Int32)), .val (.int (1 : Int32))] [(.ref y2)]))
  refine Go.step (fun t k => XS.iloadN X_8.here hx rfl (hb hby d12_98) rfl  k) ?_
  show Go p.tables e below P (T_8.setTop (mkF m 99 #[.val (.ref a), .val (.ref y1), .val (.ref y2), .val (.int (0 : Int32)), .val (.int (1 : Int32))] [(.int (0 : Int32)), (.ref y2)]))
  have vq_9 := Vy2
  obtain ⟨cl_9, Ar_9, q_9, S_9, Nn_9, H_9, G_9⟩ := vq_9
  have hin_9 : ¬ ((0 : Int32) < 0 ∨ cl_9.slots.size ≤ ((0 : Int32)).toNatClampNeg) := inb_of S_9 ⟨by decide, by decide⟩
  have hat_9 : cl_9.slots[((0 : Int32)).toNatClampNeg]? = some (.double fv) := Has.at H_9 hin_9 rfl
  refine Go.step (fun t k => X_8.daload hx (j := (0 : Int32)) (v := (.double fv)) (by rw [eh_8]; exact Ar_9.1) (State.isArrayOf_alike hZ.alike Ar_9.2.1) Ar_9.2.2 hin_9 hat_9 (g := (mkF m 99 #[.val (.ref a), .val (.ref y1), .val (.ref y2), .val (.int (0 : Int32)), .val (.int (1 : Int32))] [(.int (0 : Int32)), (.ref y2)])) rfl rfl (hb hby d12_99) t k) ?_
  show Go p.tables e below P (T_8.setTop (mkF m 100 #[.val (.ref a), .val (.ref y1), .val (.ref y2), .val (.int (0 : Int32)), .val (.int (1 : Int32))] [(.double fv)]))
  refine Go.step (fun t k => XS.dconst0 X_8.here hx rfl (hb hby d12_100) rfl k) ?_
  show Go p.tables e below P (T_8.setTop (mkF m 101 #[.val (.ref a), .val (.ref y1), .val (.ref y2), .val (.int (0 : Int32)), .val (.int (1 : Int32))] [(.double FP.dconst0), (.double fv)]))
  refine Go.step (fun t k => XS.dcmpS X_8.here hx rfl (hb hby d12_101) rfl rfl k) ?_
  show Go p.tables e below P (T_8.setTop (mkF m 102 #[.val (.ref a), .val (.ref y1), .val (.ref y2), .val (.int (0 : Int32)), .val (.int (1 : Int32))] [(.int (cmpValue (FP.dcmp fv FP.dconst0) .l))]))
  refine Go.step (fun t k => XS.ifNo X_8.here hx rfl (hb hby d12_102) rfl (dcN (cd := .lt) (DE.cmp qf (zero_e 1074)) (by omega : ¬ (zf < 0))) k) ?_
  show Go p.tables e below P (T_8.setTop (mkF m 105 #[.val (.ref a), .val (.ref y1), .val (.ref y2), .val (.int (0 : Int32)), .val (.int (1 : Int32))] []))
  refine Go.step (fun t k => XS.aloadN X_8.here hx rfl (hb hby d12_105) rfl rfl k) ?_
  show Go p.tables e below P (T_8.setTop (mkF m 106 #[.val (.ref a), .val (.ref y1), .val (.ref y2), .val (.int (0 : Int32)), .val (.int (1 : Int32))] [(.ref y2)]))
  refine Go.step (fun t k => XS.iloadN X_8.here hx rfl (hb hby d12_106) rfl  k) ?_
  show Go p.tables e below P (T_8.setTop (mkF m 107 #[.val (.ref a), .val (.ref y1), .val (.ref y2), .val (.int (0 : Int32)), .val (.int (1 : Int32))] [(.int (0 : Int32)), (.ref y2)]))
  have vq_10 := Vy2
  obtain ⟨cl_10, Ar_10, q_10, S_10, Nn_10, H_10, G_10⟩ := vq_10
  have hin_10 : ¬ ((0 : Int32) < 0 ∨ cl_10.slots.size ≤ ((0 : Int32)).toNatClampNeg) := inb_of S_10 ⟨by decide, by decide⟩
  have hat_10 : cl_10.slots[((0 : Int32)).toNatClampNeg]? = some (.double fv) := Has.at H_10 hin_10 rfl
  refine Go.step (fun t k => X_8.daload hx (j := (0 : Int32)) (v := (.double fv)) (by rw [eh_8]; exact Ar_10.1) (State.isArrayOf_alike hZ.alike Ar_10.2.1) Ar_10.2.2 hin_10 hat_10 (g := (mkF m 107 #[.val (.ref a), .val (.ref y1), .val (.ref y2), .val (.int (0 : Int32)), .val (.int (1 : Int32))] [(.int (0 : Int32)), (.ref y2)])) rfl rfl (hb hby d12_107) t k) ?_
  show Go p.tables e below P (T_8.setTop (mkF m 108 #[.val (.ref a), .val (.ref y1), .val (.ref y2), .val (.int (0 : Int32)), .val (.int (1 : Int32))] [(.double fv)]))
  obtain ⟨_, _, ⟨T_11, L_11, k_11, n_11⟩, -, X_11, ⟨Lc_11, hQ_11, l_11, y_11, z_11⟩, st_11⟩ := Jvm.LawKit.callS X_8 hx (y := (⟨"java/lang/Double", "isFinite", "(D)Z"⟩ : MethodName)) hown (mvT hZ (hw _ (List.mem_of_getElem? (i := 13) rfl))) (mvT hZ (hw _ (List.mem_of_getElem? (i := 14) rfl))) (mvT hZ (hw _ (List.mem_of_getElem? (i := 15) rfl))) (mvT hZ (hw _ (List.mem_of_getElem? (i := 16) rfl))) (by decide) (backOf (W := 0) (rm1 l Z a0 hw [] fv h0 n0 Z0 qf.1) hZ (hw _ (List.mem_of_getElem? (i := 16) rfl)) (hw _ (List.mem_of_getElem? (i := 15) rfl)) (by decide) (by decide)) (g := (mkF m 108 #[.val (.ref a), .val (.ref y1), .val (.ref y2), .val (.int (0 : Int32)), .val (.int (1 : Int32))] [(.double fv)])) rfl (by rw [hml]; rfl) (argsL := [(.double fv)]) (rest := []) (lenOf pd_1 rfl) rfl (by show 2 * 0 + _ ≤ _; exact Nat.le_of_eq rfl) (hb hby d12_108) (fun _ _ => ⟨rfl, eh_8, (by decide : 0 + 0 ≤ _), (by decide : 0 + 0 ≤ _)⟩)
  dsimp only [Pt.U, Pt.locs, Pt.cells, Pt.slots] at X_11 l_11 y_11 z_11 st_11 hQ_11
  subst l_11 y_11 z_11
  obtain ⟨rfl, N_11q, eh_11⟩ := hQ_11
  have N_11 := Fr.app N_8 N_11q
  refine Go.step (fun t k => st_11 t k) ?_
  show Go p.tables e below P (T_11.setTop (mkF m 111 #[.val (.ref a), .val (.ref y1), .val (.ref y2), .val (.int (0 : Int32)), .val (.int (1 : Int32))] [(.int (1 : Int32))]))
  refine Go.step (fun t k => XS.ifYes X_11.here hx rfl (pc0 := 111) (pc' := 124) rfl (hb hby d12_111) rfl (ifY (cd := .ne) (by decide : ¬ (1 : Int) = 0)) (by decide) (by decide) k) ?_
  show Go p.tables e below P (T_11.setTop (mkF m 124 #[.val (.ref a), .val (.ref y1), .val (.ref y2), .val (.int (0 : Int32)), .val (.int (1 : Int32))] []))
  obtain ⟨ni, hni⟩ : ∃ z : Int32, (0 : Int32) + (1 : Int32) = z := ⟨_, rfl⟩
  refine Go.step (fun t k => XS.iinc X_11.here hx rfl (hb hby d12_124) rfl (l' := #[.val (.ref a), .val (.ref y1), .val (.ref y2), .val (.int ((0 : Int32) + (1 : Int32))), .val (.int (1 : Int32))]) rfl k) ?_
  show Go p.tables e below P (T_11.setTop (mkF m 127 #[.val (.ref a), .val (.ref y1), .val (.ref y2), .val (.int ((0 : Int32) + (1 : Int32))), .val (.int (1 : Int32))] []))
  rw [hni]
  show Go p.tables e below P (T_11.setTop (mkF m 127 #[.val (.ref a), .val (.ref y1), .val (.ref y2), .val (.int ni), .val (.int (1 : Int32))] []))
  have ez_ni : ni = (1 : Int32) := by rw [← hni]; rfl
  subst ez_ni
  show Go p.tables e below P (T_11.setTop (mkF m 127 #[.val (.ref a), .val (.ref y1), .val (.ref y2), .val (.int (1 : Int32)), .val (.int (1 : Int32))] []))
  refine Go.step (fun t k => XS.goto X_11.here hx rfl (pc0 := 127) (pc' := 28) rfl (hb hby d12_127) (by decide) (by decide) k) ?_
  show Go p.tables e below P (T_11.setTop (mkF m 28 #[.val (.ref a), .val (.ref y1), .val (.ref y2), .val (.int (1 : Int32)), .val (.int (1 : Int32))] []))
  refine Go.step (fun t k => XS.iloadN X_11.here hx rfl (hb hby d12_28) rfl  k) ?_
  show Go p.tables e below P (T_11.setTop (mkF m 29 #[.val (.ref a), .val (.ref y1), .val (.ref y2), .val (.int (1 : Int32)), .val (.int (1 : Int32))] [(.int (1 : Int32))]))
  refine Go.step (fun t k => XS.aloadN X_11.here hx rfl (hb hby d12_29) rfl rfl k) ?_
  show Go p.tables e below P (T_11.setTop (mkF m 30 #[.val (.ref a), .val (.ref y1), .val (.ref y2), .val (.int (1 : Int32)), .val (.int (1 : Int32))] [(.ref y1), (.int (1 : Int32))]))
  have vq_12 := Vy1
  obtain ⟨cl_12, Ar_12, q_12, S_12, Nn_12, H_12, G_12⟩ := vq_12
  refine Go.step (fun t k => X_11.arraylength hx (by rw [eh_11]; exact Ar_12.1) (State.isArrayOf_alike hZ.alike Ar_12.2.1) (g := (mkF m 30 #[.val (.ref a), .val (.ref y1), .val (.ref y2), .val (.int (1 : Int32)), .val (.int (1 : Int32))] [(.ref y1), (.int (1 : Int32))])) rfl rfl (hb hby d12_30) t k) ?_
  rw [len_of S_12 Nn_12]
  show Go p.tables e below P (T_11.setTop (mkF m 31 #[.val (.ref a), .val (.ref y1), .val (.ref y2), .val (.int (1 : Int32)), .val (.int (1 : Int32))] [(.int (2 : Int32)), (.int (1 : Int32))]))
  refine Go.step (fun t k => XS.icmpNo X_11.here hx rfl (hb hby d12_31) rfl (icN (cd := .ge) (by decide : ¬ ((2 : Int) ≤ (1 : Int)))) k) ?_
  show Go p.tables e below P (T_11.setTop (mkF m 34 #[.val (.ref a), .val (.ref y1), .val (.ref y2), .val (.int (1 : Int32)), .val (.int (1 : Int32))] []))
  refine Go.step (fun t k => XS.iloadN X_11.here hx rfl (hb hby d12_34) rfl  k) ?_
  show Go p.tables e below P (T_11.setTop (mkF m 35 #[.val (.ref a), .val (.ref y1), .val (.ref y2), .val (.int (1 : Int32)), .val (.int (1 : Int32))] [(.int (1 : Int32))]))
  refine Go.step (fun t k => XS.ifYes X_11.here hx rfl (pc0 := 35) (pc' := 54) rfl (hb hby d12_35) rfl (ifY (cd := .ne) (by decide : ¬ (1 : Int) = 0)) (by decide) (by decide) k) ?_
  show Go p.tables e below P (T_11.setTop (mkF m 54 #[.val (.ref a), .val (.ref y1), .val (.ref y2), .val (.int (1 : Int32)), .val (.int (1 : Int32))] []))
  refine Go.step (fun t k => XS.aloadN X_11.here hx rfl (hb hby d12_54) rfl rfl k) ?_
  show Go p.tables e below P (T_11.setTop (mkF m 55 #[.val (.ref a), .val (.ref y1), .val (.ref y2), .val (.int (1 : Int32)), .val (.int (1 : Int32))] [(.ref y1)]))
  refine Go.step (fun t k => XS.iloadN X_11.here hx rfl (hb hby d12_55) rfl  k) ?_
  show Go p.tables e below P (T_11.setTop (mkF m 56 #[.val (.ref a), .val (.ref y1), .val (.ref y2), .val (.int (1 : Int32)), .val (.int (1 : Int32))] [(.int (1 : Int32)), (.ref y1)]))
  have vq_13 := Vy1
  obtain ⟨cl_13, Ar_13, q_13, S_13, Nn_13, H_13, G_13⟩ := vq_13
  have hin_13 : ¬ ((1 : Int32) < 0 ∨ cl_13.slots.size ≤ ((1 : Int32)).toNatClampNeg) := inb_of S_13 ⟨by decide, by decide⟩
  have hat_13 : cl_13.slots[((1 : Int32)).toNatClampNeg]? = some (.double v1) := Has.at H_13 hin_13 rfl
  refine Go.step (fun t k => X_11.daload hx (j := (1 : Int32)) (v := (.double v1)) (by rw [eh_11]; exact Ar_13.1) (State.isArrayOf_alike hZ.alike Ar_13.2.1) Ar_13.2.2 hin_13 hat_13 (g := (mkF m 56 #[.val (.ref a), .val (.ref y1), .val (.ref y2), .val (.int (1 : Int32)), .val (.int (1 : Int32))] [(.int (1 : Int32)), (.ref y1)])) rfl rfl (hb hby d12_56) t k) ?_
  show Go p.tables e below P (T_11.setTop (mkF m 57 #[.val (.ref a), .val (.ref y1), .val (.ref y2), .val (.int (1 : Int32)), .val (.int (1 : Int32))] [(.double v1)]))
  refine Go.step (fun t k => XS.aloadN X_11.here hx rfl (hb hby d12_57) rfl rfl k) ?_
  show Go p.tables e below P (T_11.setTop (mkF m 58 #[.val (.ref a), .val (.ref y1), .val (.ref y2), .val (.int (1 : Int32)), .val (.int (1 : Int32))] [(.ref y1), (.double v1)]))
  refine Go.step (fun t k => XS.iloadN X_11.here hx rfl (hb hby d12_58) rfl  k) ?_
  show Go p.tables e below P (T_11.setTop (mkF m 59 #[.val (.ref a), .val (.ref y1), .val (.ref y2), .val (.int (1 : Int32)), .val (.int (1 : Int32))] [(.int (1 : Int32)), (.ref y1), (.double v1)]))
  refine Go.step (fun t k => XS.iconst X_11.here hx rfl (hb hby d12_59) k) ?_
  show Go p.tables e below P (T_11.setTop (mkF m 60 #[.val (.ref a), .val (.ref y1), .val (.ref y2), .val (.int (1 : Int32)), .val (.int (1 : Int32))] [(.int (1 : Int32)), (.int (1 : Int32)), (.ref y1), (.double v1)]))
  obtain ⟨pm, hpm⟩ : ∃ z : Int32, (1 : Int32) - (1 : Int32) = z := ⟨_, rfl⟩
  refine Go.step (fun t k => isub_v X_11.here hx rfl (hb hby d12_60) rfl  hpm k) ?_
  show Go p.tables e below P (T_11.setTop (mkF m 61 #[.val (.ref a), .val (.ref y1), .val (.ref y2), .val (.int (1 : Int32)), .val (.int (1 : Int32))] [(.int pm), (.ref y1), (.double v1)]))
  have ez_pm : pm = (0 : Int32) := by rw [← hpm]; rfl
  subst ez_pm
  show Go p.tables e below P (T_11.setTop (mkF m 61 #[.val (.ref a), .val (.ref y1), .val (.ref y2), .val (.int (1 : Int32)), .val (.int (1 : Int32))] [(.int (0 : Int32)), (.ref y1), (.double v1)]))
  have vq_14 := Vy1
  obtain ⟨cl_14, Ar_14, q_14, S_14, Nn_14, H_14, G_14⟩ := vq_14
  have hin_14 : ¬ ((0 : Int32) < 0 ∨ cl_14.slots.size ≤ ((0 : Int32)).toNatClampNeg) := inb_of S_14 ⟨by decide, by decide⟩
  have hat_14 : cl_14.slots[((0 : Int32)).toNatClampNeg]? = some (.double v0) := Has.at H_14 hin_14 rfl
  refine Go.step (fun t k => X_11.daload hx (j := (0 : Int32)) (v := (.double v0)) (by rw [eh_11]; exact Ar_14.1) (State.isArrayOf_alike hZ.alike Ar_14.2.1) Ar_14.2.2 hin_14 hat_14 (g := (mkF m 61 #[.val (.ref a), .val (.ref y1), .val (.ref y2), .val (.int (1 : Int32)), .val (.int (1 : Int32))] [(.int (0 : Int32)), (.ref y1), (.double v1)])) rfl rfl (hb hby d12_61) t k) ?_
  show Go p.tables e below P (T_11.setTop (mkF m 62 #[.val (.ref a), .val (.ref y1), .val (.ref y2), .val (.int (1 : Int32)), .val (.int (1 : Int32))] [(.double v0), (.double v1)]))
  refine Go.step (fun t k => XS.dcmpS X_11.here hx rfl (hb hby d12_62) rfl rfl k) ?_
  show Go p.tables e below P (T_11.setTop (mkF m 63 #[.val (.ref a), .val (.ref y1), .val (.ref y2), .val (.int (1 : Int32)), .val (.int (1 : Int32))] [(.int (cmpValue (FP.dcmp v1 v0) .l))]))
  refine Go.step (fun t k => XS.ifNo X_11.here hx rfl (hb hby d12_63) rfl (dcN (cd := .le) (DE.cmp q1 q0) (by omega : ¬ (z1 ≤ z0))) k) ?_
  show Go p.tables e below P (T_11.setTop (mkF m 66 #[.val (.ref a), .val (.ref y1), .val (.ref y2), .val (.int (1 : Int32)), .val (.int (1 : Int32))] []))
  refine Go.step (fun t k => XS.iconst X_11.here hx rfl (hb hby d12_66) k) ?_
  show Go p.tables e below P (T_11.setTop (mkF m 67 #[.val (.ref a), .val (.ref y1), .val (.ref y2), .val (.int (1 : Int32)), .val (.int (1 : Int32))] [(.int (1 : Int32))]))
  refine Go.step (fun t k => XS.goto X_11.here hx rfl (pc0 := 67) (pc' := 71) rfl (hb hby d12_67) (by decide) (by decide) k) ?_
  show Go p.tables e below P (T_11.setTop (mkF m 71 #[.val (.ref a), .val (.ref y1), .val (.ref y2), .val (.int (1 : Int32)), .val (.int (1 : Int32))] [(.int (1 : Int32))]))
  refine Go.step (fun t k => XS.istore X_11.here hx rfl (hb hby d12_71) rfl (l' := #[.val (.ref a), .val (.ref y1), .val (.ref y2), .val (.int (1 : Int32)), .val (.int (1 : Int32))]) rfl k) ?_
  show Go p.tables e below P (T_11.setTop (mkF m 73 #[.val (.ref a), .val (.ref y1), .val (.ref y2), .val (.int (1 : Int32)), .val (.int (1 : Int32))] []))
  refine Go.step (fun t k => XS.iload X_11.here hx rfl (hb hby d12_73) rfl  k) ?_
  show Go p.tables e below P (T_11.setTop (mkF m 75 #[.val (.ref a), .val (.ref y1), .val (.ref y2), .val (.int (1 : Int32)), .val (.int (1 : Int32))] [(.int (1 : Int32))]))
  refine Go.step (fun t k => XS.ifNo X_11.here hx rfl (hb hby d12_75) rfl (ifN (cd := .eq) (by decide : ¬ ((1 : Int) = 0))) k) ?_
  show Go p.tables e below P (T_11.setTop (mkF m 78 #[.val (.ref a), .val (.ref y1), .val (.ref y2), .val (.int (1 : Int32)), .val (.int (1 : Int32))] []))
  refine Go.step (fun t k => XS.aloadN X_11.here hx rfl (hb hby d12_78) rfl rfl k) ?_
  show Go p.tables e below P (T_11.setTop (mkF m 79 #[.val (.ref a), .val (.ref y1), .val (.ref y2), .val (.int (1 : Int32)), .val (.int (1 : Int32))] [(.ref y1)]))
  refine Go.step (fun t k => XS.iloadN X_11.here hx rfl (hb hby d12_79) rfl  k) ?_
  show Go p.tables e below P (T_11.setTop (mkF m 80 #[.val (.ref a), .val (.ref y1), .val (.ref y2), .val (.int (1 : Int32)), .val (.int (1 : Int32))] [(.int (1 : Int32)), (.ref y1)]))
  have vq_15 := Vy1
  obtain ⟨cl_15, Ar_15, q_15, S_15, Nn_15, H_15, G_15⟩ := vq_15
  have hin_15 : ¬ ((1 : Int32) < 0 ∨ cl_15.slots.size ≤ ((1 : Int32)).toNatClampNeg) := inb_of S_15 ⟨by decide, by decide⟩
  have hat_15 : cl_15.slots[((1 : Int32)).toNatClampNeg]? = some (.double v1) := Has.at H_15 hin_15 rfl
  refine Go.step (fun t k => X_11.daload hx (j := (1 : Int32)) (v := (.double v1)) (by rw [eh_11]; exact Ar_15.1) (State.isArrayOf_alike hZ.alike Ar_15.2.1) Ar_15.2.2 hin_15 hat_15 (g := (mkF m 80 #[.val (.ref a), .val (.ref y1), .val (.ref y2), .val (.int (1 : Int32)), .val (.int (1 : Int32))] [(.int (1 : Int32)), (.ref y1)])) rfl rfl (hb hby d12_80) t k) ?_
  show Go p.tables e below P (T_11.setTop (mkF m 81 #[.val (.ref a), .val (.ref y1), .val (.ref y2), .val (.int (1 : Int32)), .val (.int (1 : Int32))] [(.double v1)]))
  obtain ⟨_, _, ⟨T_16, L_16, k_16, n_16⟩, -, X_16, ⟨Lc_16, hQ_16, l_16, y_16, z_16⟩, st_16⟩ := Jvm.LawKit.callS X_11 hx (y := (⟨"java/lang/Double", "isFinite", "(D)Z"⟩ : MethodName)) hown (mvT hZ (hw _ (List.mem_of_getElem? (i := 13) rfl))) (mvT hZ (hw _ (List.mem_of_getElem? (i := 14) rfl))) (mvT hZ (hw _ (List.mem_of_getElem? (i := 15) rfl))) (mvT hZ (hw _ (List.mem_of_getElem? (i := 16) rfl))) (by decide) (backOf (W := 0) (rm1 l Z a0 hw [] v1 h0 n0 Z0 q1.1) hZ (hw _ (List.mem_of_getElem? (i := 16) rfl)) (hw _ (List.mem_of_getElem? (i := 15) rfl)) (by decide) (by decide)) (g := (mkF m 81 #[.val (.ref a), .val (.ref y1), .val (.ref y2), .val (.int (1 : Int32)), .val (.int (1 : Int32))] [(.double v1)])) rfl (by rw [hml]; rfl) (argsL := [(.double v1)]) (rest := []) (lenOf pd_1 rfl) rfl (by show 2 * 0 + _ ≤ _; exact Nat.le_of_eq rfl) (hb hby d12_81) (fun _ _ => ⟨rfl, eh_11, (by decide : 0 + 0 ≤ _), (by decide : 0 + 0 ≤ _)⟩)
  dsimp only [Pt.U, Pt.locs, Pt.cells, Pt.slots] at X_16 l_16 y_16 z_16 st_16 hQ_16
  subst l_16 y_16 z_16
  obtain ⟨rfl, N_16q, eh_16⟩ := hQ_16
  have N_16 := Fr.app N_11 N_16q
  refine Go.step (fun t k => st_16 t k) ?_
  show Go p.tables e below P (T_16.setTop (mkF m 84 #[.val (.ref a), .val (.ref y1), .val (.ref y2), .val (.int (1 : Int32)), .val (.int (1 : Int32))] [(.int (1 : Int32))]))
  refine Go.step (fun t k => XS.ifYes X_16.here hx rfl (pc0 := 84) (pc' := 97) rfl (hb hby d12_84) rfl (ifY (cd := .ne) (by decide : ¬ (1 : Int) = 0)) (by decide) (by decide) k) ?_
  show Go p.tables e below P (T_16.setTop (mkF m 97 #[.val (.ref a), .val (.ref y1), .val (.ref y2), .val (.int (1 : Int32)), .val (.int (1 : Int32))] []))
  refine Go.step (fun t k => XS.aloadN X_16.here hx rfl (hb hby d12_97) rfl rfl k) ?_
  show Go p.tables e below P (T_16.setTop (mkF m 98 #[.val (.ref a), .val (.ref y1), .val (.ref y2), .val (.int (1 : Int32)), .val (.int (1 : Int32))] [(.ref y2)]))
  refine Go.step (fun t k => XS.iloadN X_16.here hx rfl (hb hby d12_98) rfl  k) ?_
  show Go p.tables e below P (T_16.setTop (mkF m 99 #[.val (.ref a), .val (.ref y1), .val (.ref y2), .val (.int (1 : Int32)), .val (.int (1 : Int32))] [(.int (1 : Int32)), (.ref y2)]))
  have vq_17 := Vy2
  obtain ⟨cl_17, Ar_17, q_17, S_17, Nn_17, H_17, G_17⟩ := vq_17
  have hin_17 : ¬ ((1 : Int32) < 0 ∨ cl_17.slots.size ≤ ((1 : Int32)).toNatClampNeg) := inb_of S_17 ⟨by decide, by decide⟩
  have hat_17 : cl_17.slots[((1 : Int32)).toNatClampNeg]? = some (.double fv) := Has.at H_17 hin_17 rfl
  refine Go.step (fun t k => X_16.daload hx (j := (1 : Int32)) (v := (.double fv)) (by rw [eh_16]; exact Ar_17.1) (State.isArrayOf_alike hZ.alike Ar_17.2.1) Ar_17.2.2 hin_17 hat_17 (g := (mkF m 99 #[.val (.ref a), .val (.ref y1), .val (.ref y2), .val (.int (1 : Int32)), .val (.int (1 : Int32))] [(.int (1 : Int32)), (.ref y2)])) rfl rfl (hb hby d12_99) t k) ?_
  show Go p.tables e below P (T_16.setTop (mkF m 100 #[.val (.ref a), .val (.ref y1), .val (.ref y2), .val (.int (1 : Int32)), .val (.int (1 : Int32))] [(.double fv)]))
  refine Go.step (fun t k => XS.dconst0 X_16.here hx rfl (hb hby d12_100) rfl k) ?_
  show Go p.tables e below P (T_16.setTop (mkF m 101 #[.val (.ref a), .val (.ref y1), .val (.ref y2), .val (.int (1 : Int32)), .val (.int (1 : Int32))] [(.double FP.dconst0), (.double fv)]))
  refine Go.step (fun t k => XS.dcmpS X_16.here hx rfl (hb hby d12_101) rfl rfl k) ?_
  show Go p.tables e below P (T_16.setTop (mkF m 102 #[.val (.ref a), .val (.ref y1), .val (.ref y2), .val (.int (1 : Int32)), .val (.int (1 : Int32))] [(.int (cmpValue (FP.dcmp fv FP.dconst0) .l))]))
  refine Go.step (fun t k => XS.ifNo X_16.here hx rfl (hb hby d12_102) rfl (dcN (cd := .lt) (DE.cmp qf (zero_e 1074)) (by omega : ¬ (zf < 0))) k) ?_
  show Go p.tables e below P (T_16.setTop (mkF m 105 #[.val (.ref a), .val (.ref y1), .val (.ref y2), .val (.int (1 : Int32)), .val (.int (1 : Int32))] []))
  refine Go.step (fun t k => XS.aloadN X_16.here hx rfl (hb hby d12_105) rfl rfl k) ?_
  show Go p.tables e below P (T_16.setTop (mkF m 106 #[.val (.ref a), .val (.ref y1), .val (.ref y2), .val (.int (1 : Int32)), .val (.int (1 : Int32))] [(.ref y2)]))
  refine Go.step (fun t k => XS.iloadN X_16.here hx rfl (hb hby d12_106) rfl  k) ?_
  show Go p.tables e below P (T_16.setTop (mkF m 107 #[.val (.ref a), .val (.ref y1), .val (.ref y2), .val (.int (1 : Int32)), .val (.int (1 : Int32))] [(.int (1 : Int32)), (.ref y2)]))
  have vq_18 := Vy2
  obtain ⟨cl_18, Ar_18, q_18, S_18, Nn_18, H_18, G_18⟩ := vq_18
  have hin_18 : ¬ ((1 : Int32) < 0 ∨ cl_18.slots.size ≤ ((1 : Int32)).toNatClampNeg) := inb_of S_18 ⟨by decide, by decide⟩
  have hat_18 : cl_18.slots[((1 : Int32)).toNatClampNeg]? = some (.double fv) := Has.at H_18 hin_18 rfl
  refine Go.step (fun t k => X_16.daload hx (j := (1 : Int32)) (v := (.double fv)) (by rw [eh_16]; exact Ar_18.1) (State.isArrayOf_alike hZ.alike Ar_18.2.1) Ar_18.2.2 hin_18 hat_18 (g := (mkF m 107 #[.val (.ref a), .val (.ref y1), .val (.ref y2), .val (.int (1 : Int32)), .val (.int (1 : Int32))] [(.int (1 : Int32)), (.ref y2)])) rfl rfl (hb hby d12_107) t k) ?_
  show Go p.tables e below P (T_16.setTop (mkF m 108 #[.val (.ref a), .val (.ref y1), .val (.ref y2), .val (.int (1 : Int32)), .val (.int (1 : Int32))] [(.double fv)]))
  obtain ⟨_, _, ⟨T_19, L_19, k_19, n_19⟩, -, X_19, ⟨Lc_19, hQ_19, l_19, y_19, z_19⟩, st_19⟩ := Jvm.LawKit.callS X_16 hx (y := (⟨"java/lang/Double", "isFinite", "(D)Z"⟩ : MethodName)) hown (mvT hZ (hw _ (List.mem_of_getElem? (i := 13) rfl))) (mvT hZ (hw _ (List.mem_of_getElem? (i := 14) rfl))) (mvT hZ (hw _ (List.mem_of_getElem? (i := 15) rfl))) (mvT hZ (hw _ (List.mem_of_getElem? (i := 16) rfl))) (by decide) (backOf (W := 0) (rm1 l Z a0 hw [] fv h0 n0 Z0 qf.1) hZ (hw _ (List.mem_of_getElem? (i := 16) rfl)) (hw _ (List.mem_of_getElem? (i := 15) rfl)) (by decide) (by decide)) (g := (mkF m 108 #[.val (.ref a), .val (.ref y1), .val (.ref y2), .val (.int (1 : Int32)), .val (.int (1 : Int32))] [(.double fv)])) rfl (by rw [hml]; rfl) (argsL := [(.double fv)]) (rest := []) (lenOf pd_1 rfl) rfl (by show 2 * 0 + _ ≤ _; exact Nat.le_of_eq rfl) (hb hby d12_108) (fun _ _ => ⟨rfl, eh_16, (by decide : 0 + 0 ≤ _), (by decide : 0 + 0 ≤ _)⟩)
  dsimp only [Pt.U, Pt.locs, Pt.cells, Pt.slots] at X_19 l_19 y_19 z_19 st_19 hQ_19
  subst l_19 y_19 z_19
  obtain ⟨rfl, N_19q, eh_19⟩ := hQ_19
  have N_19 := Fr.app N_16 N_19q
  refine Go.step (fun t k => st_19 t k) ?_
  show Go p.tables e below P (T_19.setTop (mkF m 111 #[.val (.ref a), .val (.ref y1), .val (.ref y2), .val (.int (1 : Int32)), .val (.int (1 : Int32))] [(.int (1 : Int32))]))
  refine Go.step (fun t k => XS.ifYes X_19.here hx rfl (pc0 := 111) (pc' := 124) rfl (hb hby d12_111) rfl (ifY (cd := .ne) (by decide : ¬ (1 : Int) = 0)) (by decide) (by decide) k) ?_
  show Go p.tables e below P (T_19.setTop (mkF m 124 #[.val (.ref a), .val (.ref y1), .val (.ref y2), .val (.int (1 : Int32)), .val (.int (1 : Int32))] []))
  obtain ⟨ni, hni⟩ : ∃ z : Int32, (1 : Int32) + (1 : Int32) = z := ⟨_, rfl⟩
  refine Go.step (fun t k => XS.iinc X_19.here hx rfl (hb hby d12_124) rfl (l' := #[.val (.ref a), .val (.ref y1), .val (.ref y2), .val (.int ((1 : Int32) + (1 : Int32))), .val (.int (1 : Int32))]) rfl k) ?_
  show Go p.tables e below P (T_19.setTop (mkF m 127 #[.val (.ref a), .val (.ref y1), .val (.ref y2), .val (.int ((1 : Int32) + (1 : Int32))), .val (.int (1 : Int32))] []))
  rw [hni]
  show Go p.tables e below P (T_19.setTop (mkF m 127 #[.val (.ref a), .val (.ref y1), .val (.ref y2), .val (.int ni), .val (.int (1 : Int32))] []))
  have ez_ni : ni = (2 : Int32) := by rw [← hni]; rfl
  subst ez_ni
  show Go p.tables e below P (T_19.setTop (mkF m 127 #[.val (.ref a), .val (.ref y1), .val (.ref y2), .val (.int (2 : Int32)), .val (.int (1 : Int32))] []))
  refine Go.step (fun t k => XS.goto X_19.here hx rfl (pc0 := 127) (pc' := 28) rfl (hb hby d12_127) (by decide) (by decide) k) ?_
  show Go p.tables e below P (T_19.setTop (mkF m 28 #[.val (.ref a), .val (.ref y1), .val (.ref y2), .val (.int (2 : Int32)), .val (.int (1 : Int32))] []))
  refine Go.step (fun t k => XS.iloadN X_19.here hx rfl (hb hby d12_28) rfl  k) ?_
  show Go p.tables e below P (T_19.setTop (mkF m 29 #[.val (.ref a), .val (.ref y1), .val (.ref y2), .val (.int (2 : Int32)), .val (.int (1 : Int32))] [(.int (2 : Int32))]))
  refine Go.step (fun t k => XS.aloadN X_19.here hx rfl (hb hby d12_29) rfl rfl k) ?_
  show Go p.tables e below P (T_19.setTop (mkF m 30 #[.val (.ref a), .val (.ref y1), .val (.ref y2), .val (.int (2 : Int32)), .val (.int (1 : Int32))] [(.ref y1), (.int (2 : Int32))]))
  have vq_20 := Vy1
  obtain ⟨cl_20, Ar_20, q_20, S_20, Nn_20, H_20, G_20⟩ := vq_20
  refine Go.step (fun t k => X_19.arraylength hx (by rw [eh_19]; exact Ar_20.1) (State.isArrayOf_alike hZ.alike Ar_20.2.1) (g := (mkF m 30 #[.val (.ref a), .val (.ref y1), .val (.ref y2), .val (.int (2 : Int32)), .val (.int (1 : Int32))] [(.ref y1), (.int (2 : Int32))])) rfl rfl (hb hby d12_30) t k) ?_
  rw [len_of S_20 Nn_20]
  show Go p.tables e below P (T_19.setTop (mkF m 31 #[.val (.ref a), .val (.ref y1), .val (.ref y2), .val (.int (2 : Int32)), .val (.int (1 : Int32))] [(.int (2 : Int32)), (.int (2 : Int32))]))
  refine Go.step (fun t k => XS.icmpYes X_19.here hx rfl (pc0 := 31) (pc' := 130) rfl (hb hby d12_31) rfl (icY (cd := .ge) (by decide : (2 : Int) ≤ (2 : Int))) (by decide) (by decide) k) ?_
  show Go p.tables e below P (T_19.setTop (mkF m 130 #[.val (.ref a), .val (.ref y1), .val (.ref y2), .val (.int (2 : Int32)), .val (.int (1 : Int32))] []))
  refine Go.step (fun t k => XS.aloadN X_19.here hx rfl (hb hby d12_130) rfl rfl k) ?_
  show Go p.tables e below P (T_19.setTop (mkF m 131 #[.val (.ref a), .val (.ref y1), .val (.ref y2), .val (.int (2 : Int32)), .val (.int (1 : Int32))] [(.ref a)]))
  refine Go.step (fun t k => XS.aloadN X_19.here hx rfl (hb hby d12_131) rfl rfl k) ?_
  show Go p.tables e below P (T_19.setTop (mkF m 132 #[.val (.ref a), .val (.ref y1), .val (.ref y2), .val (.int (2 : Int32)), .val (.int (1 : Int32))] [(.ref y1), (.ref a)]))
  obtain ⟨T_21, h_21, X_21, e_21, E_21, A_21, Ex_21, st_21⟩ := cloneH X_19 hx hZ hown (hw _ (List.mem_of_getElem? (i := 22) rfl)) (hw _ (List.mem_of_getElem? (i := 23) rfl)) (hw _ (List.mem_of_getElem? (i := 27) rfl)) (hw _ (List.mem_of_getElem? (i := 25) rfl)) (hw _ (List.mem_of_getElem? (i := 26) rfl)) (hw _ (List.mem_of_getElem? (i := 28) rfl)) eh_19 Vy1.arh Ey1 (g := (mkF m 132 #[.val (.ref a), .val (.ref y1), .val (.ref y2), .val (.int (2 : Int32)), .val (.int (1 : Int32))] [(.ref y1), (.ref a)])) rfl (by rw [hml]; rfl) rfl (hb hby d12_132) (by decide) (W := 1) (by show 2 * 0 + _ ≤ _; exact Nat.le_of_eq rfl) (by decide) (cap := 2) (by decide) (by decide) (by decide)
  obtain ⟨c1, g_21⟩ : ∃ z, z = h0.size := ⟨_, rfl⟩
  rw [← g_21] at A_21 Ex_21 st_21
  have g_c1 : n0 ≤ c1 := Nat.le_trans Z0 (Nat.le_of_eq g_21.symm)
  have sz_c1 : h0.size ≤ c1 := Nat.le_trans (Keep.refl h0 [a]).1 (Nat.le_of_eq g_21.symm)
  have lt_a_c1 : a < c1 := Nat.lt_of_lt_of_le E_a.lt (Nat.le_of_eq g_21.symm)
  have ne_a_c1 : a ≠ c1 := Nat.ne_of_lt lt_a_c1
  have lt_y1_c1 : y1 < c1 := Nat.lt_of_lt_of_le Vy1.lt (Nat.le_of_eq g_21.symm)
  have ne_y1_c1 : y1 ≠ c1 := Nat.ne_of_lt lt_y1_c1
  have lt_y2_c1 : y2 < c1 := Nat.lt_of_lt_of_le Vy2.lt (Nat.le_of_eq g_21.symm)
  have ne_y2_c1 : y2 ≠ c1 := Nat.ne_of_lt lt_y2_c1
  have V_21 : Arv Z h_21 c1 k1 .double (2 : Int32) [(.double v0), (.double v1)] (.double (0 : UInt64)) := A_21
  have K_21 : Keep h0 h_21 [a] := (Keep.refl h0 [a]).ext E_21
  have Z_21 : n0 ≤ h_21.size := Nat.le_trans Z0 E_21.1
  refine Go.step (fun t k => st_21 t k) ?_
  show Go p.tables e below P (T_21.setTop (mkF m 135 #[.val (.ref a), .val (.ref y1), .val (.ref y2), .val (.int (2 : Int32)), .val (.int (1 : Int32))] [(.ref c1), (.ref a)]))
  obtain ⟨T_22, X_22, e_22, st_22⟩ := castY X_21 hx hZ hown (hw _ (List.mem_of_getElem? (i := 29) rfl)) e_21 (Ins.self Ex_21) (g := (mkF m 135 #[.val (.ref a), .val (.ref y1), .val (.ref y2), .val (.int (2 : Int32)), .val (.int (1 : Int32))] [(.ref c1), (.ref a)])) rfl rfl (hb hby d12_135)
  refine Go.step (fun t k => st_22 t k) ?_
  show Go p.tables e below P (T_22.setTop (mkF m 138 #[.val (.ref a), .val (.ref y1), .val (.ref y2), .val (.int (2 : Int32)), .val (.int (1 : Int32))] [(.ref c1), (.ref a)]))
  obtain ⟨T_23, h_23, X_23, e_23, W_23, st_23⟩ := putF X_22 hx hZ hown (host := "") (Or.inl (hw _ (List.mem_of_getElem? (i := 31) rfl))) Via.refl e_22 (F0.ext E_21) (E_a.ext E_21) (Or.inr ⟨(hw _ (List.mem_of_getElem? (i := 32) rfl)), rfl, hnm⟩) (hw _ (List.mem_of_getElem? (i := 5) rfl)) (ty := (.array .double)) (by decide) rfl rfl (g := (mkF m 138 #[.val (.ref a), .val (.ref y1), .val (.ref y2), .val (.int (2 : Int32)), .val (.int (1 : Int32))] [(.ref c1), (.ref a)])) rfl rfl (hb hby d12_138)
  have Fw_23 := (F0.ext E_21).same W_23
  have N_23 := Fr.snoc X_23 N_19 g_a
  have K_23 : Keep h0 h_23 [a] := K_21.wr W_23 (Or.inl (List.mem_of_getElem? (i := 0) rfl))
  have Z_23 : n0 ≤ h_23.size := Nat.le_trans Z_21 (Keep.of_wr W_23).1
  refine Go.step (fun t k => st_23 t k) ?_
  show Go p.tables e below P (T_23.setTop (mkF m 141 #[.val (.ref a), .val (.ref y1), .val (.ref y2), .val (.int (2 : Int32)), .val (.int (1 : Int32))] []))
  refine Go.step (fun t k => XS.aloadN X_23.here hx rfl (hb hby d12_141) rfl rfl k) ?_
  show Go p.tables e below P (T_23.setTop (mkF m 142 #[.val (.ref a), .val (.ref y1), .val (.ref y2), .val (.int (2 : Int32)), .val (.int (1 : Int32))] [(.ref a)]))
  refine Go.step (fun t k => XS.aloadN X_23.here hx rfl (hb hby d12_142) rfl rfl k) ?_
  show Go p.tables e below P (T_23.setTop (mkF m 143 #[.val (.ref a), .val (.ref y1), .val (.ref y2), .val (.int (2 : Int32)), .val (.int (1 : Int32))] [(.ref y2), (.ref a)]))
  obtain ⟨T_24, h_24, X_24, e_24, E_24, A_24, Ex_24, st_24⟩ := cloneH X_23 hx hZ hown (hw _ (List.mem_of_getElem? (i := 22) rfl)) (hw _ (List.mem_of_getElem? (i := 23) rfl)) (hw _ (List.mem_of_getElem? (i := 27) rfl)) (hw _ (List.mem_of_getElem? (i := 25) rfl)) (hw _ (List.mem_of_getElem? (i := 26) rfl)) (hw _ (List.mem_of_getElem? (i := 28) rfl)) e_23 ((Vy2.ext E_21).other W_23 (Ne.symm na2)).arh ((Ey2.ext E_21).wr W_23) (g := (mkF m 143 #[.val (.ref a), .val (.ref y1), .val (.ref y2), .val (.int (2 : Int32)), .val (.int (1 : Int32))] [(.ref y2), (.ref a)])) rfl (by rw [hml]; rfl) rfl (hb hby d12_143) (by decide) (W := 1) (by show 2 * 0 + _ ≤ _; exact Nat.le_of_eq rfl) (by decide) (cap := 2) (by decide) (by decide) (by decide)
  obtain ⟨c2, g_24⟩ : ∃ z, z = h_23.size := ⟨_, rfl⟩
  rw [← g_24] at A_24 Ex_24 st_24
  have g_c2 : n0 ≤ c2 := Nat.le_trans Z_23 (Nat.le_of_eq g_24.symm)
  have sz_c2 : h0.size ≤ c2 := Nat.le_trans K_23.1 (Nat.le_of_eq g_24.symm)
  have lt_a_c2 : a < c2 := Nat.lt_of_lt_of_le ((E_a.ext E_21).wr W_23).lt (Nat.le_of_eq g_24.symm)
  have ne_a_c2 : a ≠ c2 := Nat.ne_of_lt lt_a_c2
  have lt_y1_c2 : y1 < c2 := Nat.lt_of_lt_of_le ((Vy1.ext E_21).other W_23 (Ne.symm na1)).lt (Nat.le_of_eq g_24.symm)
  have ne_y1_c2 : y1 ≠ c2 := Nat.ne_of_lt lt_y1_c2
  have lt_y2_c2 : y2 < c2 := Nat.lt_of_lt_of_le ((Vy2.ext E_21).other W_23 (Ne.symm na2)).lt (Nat.le_of_eq g_24.symm)
  have ne_y2_c2 : y2 ≠ c2 := Nat.ne_of_lt lt_y2_c2
  have lt_c1_c2 : c1 < c2 := Nat.lt_of_lt_of_le (V_21.other W_23 (Ne.symm ne_a_c1)).lt (Nat.le_of_eq g_24.symm)
  have ne_c1_c2 : c1 ≠ c2 := Nat.ne_of_lt lt_c1_c2
  have V_24 : Arv Z h_24 c2 k2 .double (2 : Int32) [(.double fv), (.double fv)] (.double (0 : UInt64)) := A_24
  have K_24 : Keep h0 h_24 [a] := K_23.ext E_24
  have Z_24 : n0 ≤ h_24.size := Nat.le_trans Z_23 E_24.1
  refine Go.step (fun t k => st_24 t k) ?_
  show Go p.tables e below P (T_24.setTop (mkF m 146 #[.val (.ref a), .val (.ref y1), .val (.ref y2), .val (.int (2 : Int32)), .val (.int (1 : Int32))] [(.ref c2), (.ref a)]))
  obtain ⟨T_25, X_25, e_25, st_25⟩ := castY X_24 hx hZ hown (hw _ (List.mem_of_getElem? (i := 29) rfl)) e_24 (Ins.self Ex_24) (g := (mkF m 146 #[.val (.ref a), .val (.ref y1), .val (.ref y2), .val (.int (2 : Int32)), .val (.int (1 : Int32))] [(.ref c2), (.ref a)])) rfl rfl (hb hby d12_146)
  refine Go.step (fun t k => st_25 t k) ?_
  show Go p.tables e below P (T_25.setTop (mkF m 149 #[.val (.ref a), .val (.ref y1), .val (.ref y2), .val (.int (2 : Int32)), .val (.int (1 : Int32))] [(.ref c2), (.ref a)]))
  obtain ⟨T_26, h_26, X_26, e_26, W_26, st_26⟩ := putF X_25 hx hZ hown (host := "") (Or.inl (hw _ (List.mem_of_getElem? (i := 33) rfl))) Via.refl e_25 (((F1.ext E_21).other W_23 (Or.inr (slot_ne (Or.inr (hw _ (List.mem_of_getElem? (i := 34) rfl))) (Or.inr (hw _ (List.mem_of_getElem? (i := 32) rfl))) (by decide) (t := (.array .double)) (t' := (.array .double)) (by decide) (by decide)))).ext E_24) (((E_a.ext E_21).wr W_23).ext E_24) (Or.inr ⟨(hw _ (List.mem_of_getElem? (i := 34) rfl)), rfl, hnm⟩) (hw _ (List.mem_of_getElem? (i := 5) rfl)) (ty := (.array .double)) (by decide) rfl rfl (g := (mkF m 149 #[.val (.ref a), .val (.ref y1), .val (.ref y2), .val (.int (2 : Int32)), .val (.int (1 : Int32))] [(.ref c2), (.ref a)])) rfl rfl (hb hby d12_149)
  have Fw_26 := (((F1.ext E_21).other W_23 (Or.inr (slot_ne (Or.inr (hw _ (List.mem_of_getElem? (i := 34) rfl))) (Or.inr (hw _ (List.mem_of_getElem? (i := 32) rfl))) (by decide) (t := (.array .double)) (t' := (.array .double)) (by decide) (by decide)))).ext E_24).same W_26
  have N_26 := Fr.snoc X_26 N_23 g_a
  have K_26 : Keep h0 h_26 [a] := K_24.wr W_26 (Or.inl (List.mem_of_getElem? (i := 0) rfl))
  have Z_26 : n0 ≤ h_26.size := Nat.le_trans Z_24 (Keep.of_wr W_26).1
  refine Go.step (fun t k => st_26 t k) ?_
  show Go p.tables e below P (T_26.setTop (mkF m 152 #[.val (.ref a), .val (.ref y1), .val (.ref y2), .val (.int (2 : Int32)), .val (.int (1 : Int32))] []))
  exact voidGo X_26 hx hP Bd.returns hlk (hb hby d12_152) (by decide) (by decide) (by rw [e_26]; exact ⟨rfl, N_26, K_26, ((((E_a.ext E_21).wr W_23).ext E_24).wr W_26), c1, ((Fw_23.ext E_24).other W_26 (Or.inr (slot_ne (Or.inr (hw _ (List.mem_of_getElem? (i := 32) rfl))) (Or.inr (hw _ (List.mem_of_getElem? (i := 34) rfl))) (by decide) (t := (.array .double)) (t' := (.array .double)) (by decide) (by decide)))), (((V_21.other W_23 (Ne.symm ne_a_c1)).ext E_24).other W_26 (Ne.symm ne_a_c1))⟩)
theorem d30_0 : decode prog_11_method_4_code 0 = .ok (.iload_n 1, 1) := by decide +kernel
theorem d30_1 : decode prog_11_method_4_code 1 = .ok (.iconst 1, 1) := by decide +kernel
theorem d30_2 : decode prog_11_method_4_code 2 = .ok (.iadd, 1) := by decide +kernel
theorem d30_3 : decode prog_11_method_4_code 3 = .ok (.aload_n 0, 1) := by decide +kernel
theorem d30_4 : decode prog_11_method_4_code 4 = .ok (.getfield 30, 3) := by decide +kernel
theorem d30_7 : decode prog_11_method_4_code 7 = .ok (.arraylength, 1) := by decide +kernel
theorem d30_8 : decode prog_11_method_4_code 8 = .ok (.if_icmp .ge 14, 3) := by decide +kernel
theorem d30_11 : decode prog_11_method_4_code 11 = .ok (.aload_n 0, 1) := by decide +kernel
theorem d30_12 : decode prog_11_method_4_code 12 = .ok (.getfield 30, 3) := by decide +kernel
theorem d30_15 : decode prog_11_method_4_code 15 = .ok (.iload_n 1, 1) := by decide +kernel
theorem d30_16 : decode prog_11_method_4_code 16 = .ok (.iconst 1, 1) := by decide +kernel
theorem d30_17 : decode prog_11_method_4_code 17 = .ok (.iadd, 1) := by decide +kernel
theorem d30_18 : decode prog_11_method_4_code 18 = .ok (.daload, 1) := by decide +kernel
theorem d30_19 : decode prog_11_method_4_code 19 = .ok (.goto 6, 3) := by decide +kernel
theorem d30_25 : decode prog_11_method_4_code 25 = .ok (.dreturn, 1) := by decide +kernel
theorem pn_30 : plainName "com/example/gleitfahrt/gleitfahrt/engine/ForceCurve$Table" = true := by first | (simp [plainName, overriddenIn]; done) | decide +kernel
theorem ef_30 (m : MethodId) (x0 : Addr) (x1 : Int32) : entryFrame m #[(.ref x0), (.int x1)] 2 = mkF m 0 #[.val (.ref x0), .val (.int x1)] [] := by first | (simp [entryFrame, mkF, argsToLocals, Value.category]; done) | rfl
def Q30 (Z : State) (a : Addr) (x1 : Addr) (k1 : ClassId) (v0 : UInt64) (v1 : UInt64) (h0 : Heap) (n0 : Nat) (v : Option Value) (h : Heap) (L : List Loc) : Prop := v = some (.double v1) ∧ Fr n0 L ∧ h = h0
set_option maxRecDepth 65536 in
set_option maxHeartbeats 40000000 in
theorem up2_0 (l : Launch) (Z : State) (a0 : Array Value) (hw : ∀ d ∈ tables_1, d.before a0 Z = true) (ws : List Jvm.Cond) (a : Addr) (x1 : Addr) (k1 : ClassId) (v0 : UInt64) (v1 : UInt64) (h0 : Heap) (n0 : Nat) (Z0 : n0 ≤ h0.size) (F0 : Fld Z h0 a "com/example/gleitfahrt/gleitfahrt/engine/ForceCurve$Table" "speedsMs" "[D" (.ref x1)) (Vx1 : Arv Z h0 x1 k1 .double (2 : Int32) [(.double v0), (.double v1)] (.double (0 : UInt64))) :
    MetFree l (⟨"com/example/gleitfahrt/gleitfahrt/engine/ForceCurve$Table", "upperMs", "(I)D"⟩ : MethodName) (head1 (Jvm.Cond.code (⟨"com/example/gleitfahrt/gleitfahrt/engine/ForceCurve$Table", "upperMs", "(I)D"⟩ : MethodName) prog_11_method_4_code 2 (some .double) :: ws) ({ frames := 0, cells := 0, slots := 0, locals := 0 } : Room)) (fun a_ U => a_ = #[(.ref a), (.int (0 : Int32))] ∧ Z.Warmed39 U.vm ∧ U.heap = h0) (fun _ _ _ _ _ => True) (fun _ U o U' => ∃ v L, o = .returned v ∧ Q30 Z a x1 k1 v0 v1 h0 n0 v U'.heap L ∧ FrameEnd U o U' L (({ frames := 0, cells := 0, slots := 0, locals := 0 } : Room)).cells (({ frames := 0, cells := 0, slots := 0, locals := 0 } : Room)).slots) := by
  refine MetFree.of_bodySF (plainFor_of_name pn_30) hisR ?_
  intro p e s m args below meth c s₁ Bd hml0 hP0 hK
  obtain ⟨rfl, hZ, hh⟩ := hP0
  have hx := Bd.exec
  have hby := Bd.bytes
  have hml : c.maxLocals = 2 := hml0
  have hown : s.vm.findClass "com/example/gleitfahrt/gleitfahrt/engine/ForceCurve$Table" = some m.cls := findClass_of_methodNamed Bd.named
  have hnm := (name_of_methodNamed Bd.named Bd.method).1
  have X0 : Stand p l e ({ frames := 0, cells := 0, slots := 0, locals := 0 } : Room) s m #[(.ref a), (.int (0 : Int32))] below meth c s₁ [] 0 0 := Stand.of_body Bd
  have e0 : s₁.heap = h0 := by rw [← hh, Bd.state]; rfl
  have N0 := Fr.nil n0
  have hlk : meth.locks = false := BodyLoose.notSynchronized Bd
  refine Go.start (P₀ := fun s₂ o => ∃ v L, o = .returned v ∧ Q30 Z a x1 k1 v0 v1 h0 n0 v s₂.heap L ∧ FrameEnd s o s₂ L (({ frames := 0, cells := 0, slots := 0, locals := 0 } : Room)).cells (({ frames := 0, cells := 0, slots := 0, locals := 0 } : Room)).slots) (congrArg s₁.setTop (ef_30 m a (0 : Int32))) ?_
  intro P hP
  show Go p.tables e below P (s₁.setTop (mkF m 0 #[.val (.ref a), .val (.int (0 : Int32))] []))
  refine Go.step (fun t k => XS.iloadN X0.here hx rfl (hb hby d30_0) rfl  k) ?_
  show Go p.tables e below P (s₁.setTop (mkF m 1 #[.val (.ref a), .val (.int (0 : Int32))] [(.int (0 : Int32))]))
  refine Go.step (fun t k => XS.iconst X0.here hx rfl (hb hby d30_1) k) ?_
  show Go p.tables e below P (s₁.setTop (mkF m 2 #[.val (.ref a), .val (.int (0 : Int32))] [(.int (1 : Int32)), (.int (0 : Int32))]))
  obtain ⟨ja, hja⟩ : ∃ z : Int32, (0 : Int32) + (1 : Int32) = z := ⟨_, rfl⟩
  refine Go.step (fun t k => iadd_v X0.here hx rfl (hb hby d30_2) rfl  hja k) ?_
  show Go p.tables e below P (s₁.setTop (mkF m 3 #[.val (.ref a), .val (.int (0 : Int32))] [(.int ja)]))
  have ez_ja : ja = (1 : Int32) := by rw [← hja]; rfl
  subst ez_ja
  show Go p.tables e below P (s₁.setTop (mkF m 3 #[.val (.ref a), .val (.int (0 : Int32))] [(.int (1 : Int32))]))
  refine Go.step (fun t k => XS.aloadN X0.here hx rfl (hb hby d30_3) rfl rfl k) ?_
  show Go p.tables e below P (s₁.setTop (mkF m 4 #[.val (.ref a), .val (.int (0 : Int32))] [(.ref a), (.int (1 : Int32))]))
  obtain ⟨T_1, X_1, e_1, st_1⟩ := getF X0 hx hZ hown (host := "") (Or.inl (hw _ (List.mem_of_getElem? (i := 31) rfl))) Via.refl e0 F0 (g := (mkF m 4 #[.val (.ref a), .val (.int (0 : Int32))] [(.ref a), (.int (1 : Int32))])) rfl rfl (hb hby d30_4)
  refine Go.step (fun t k => st_1 t k) ?_
  show Go p.tables e below P (T_1.setTop (mkF m 7 #[.val (.ref a), .val (.int (0 : Int32))] [(.ref x1), (.int (1 : Int32))]))
  have vq_2 := Vx1
  obtain ⟨cl_2, Ar_2, q_2, S_2, Nn_2, H_2, G_2⟩ := vq_2
  refine Go.step (fun t k => X_1.arraylength hx (by rw [e_1]; exact Ar_2.1) (State.isArrayOf_alike hZ.alike Ar_2.2.1) (g := (mkF m 7 #[.val (.ref a), .val (.int (0 : Int32))] [(.ref x1), (.int (1 : Int32))])) rfl rfl (hb hby d30_7) t k) ?_
  rw [len_of S_2 Nn_2]
  show Go p.tables e below P (T_1.setTop (mkF m 8 #[.val (.ref a), .val (.int (0 : Int32))] [(.int (2 : Int32)), (.int (1 : Int32))]))
  refine Go.step (fun t k => XS.icmpNo X_1.here hx rfl (hb hby d30_8) rfl (icN (cd := .ge) (by decide : ¬ ((2 : Int) ≤ (1 : Int)))) k) ?_
  show Go p.tables e below P (T_1.setTop (mkF m 11 #[.val (.ref a), .val (.int (0 : Int32))] []))
  refine Go.step (fun t k => XS.aloadN X_1.here hx rfl (hb hby d30_11) rfl rfl k) ?_
  show Go p.tables e below P (T_1.setTop (mkF m 12 #[.val (.ref a), .val (.int (0 : Int32))] [(.ref a)]))
  obtain ⟨T_3, X_3, e_3, st_3⟩ := getF X_1 hx hZ hown (host := "") (Or.inl (hw _ (List.mem_of_getElem? (i := 31) rfl))) Via.refl e_1 F0 (g := (mkF m 12 #[.val (.ref a), .val (.int (0 : Int32))] [(.ref a)])) rfl rfl (hb hby d30_12)
  refine Go.step (fun t k => st_3 t k) ?_
  show Go p.tables e below P (T_3.setTop (mkF m 15 #[.val (.ref a), .val (.int (0 : Int32))] [(.ref x1)]))
  refine Go.step (fun t k => XS.iloadN X_3.here hx rfl (hb hby d30_15) rfl  k) ?_
  show Go p.tables e below P (T_3.setTop (mkF m 16 #[.val (.ref a), .val (.int (0 : Int32))] [(.int (0 : Int32)), (.ref x1)]))
  refine Go.step (fun t k => XS.iconst X_3.here hx rfl (hb hby d30_16) k) ?_
  show Go p.tables e below P (T_3.setTop (mkF m 17 #[.val (.ref a), .val (.int (0 : Int32))] [(.int (1 : Int32)), (.int (0 : Int32)), (.ref x1)]))
  obtain ⟨jc, hjc⟩ : ∃ z : Int32, (0 : Int32) + (1 : Int32) = z := ⟨_, rfl⟩
  refine Go.step (fun t k => iadd_v X_3.here hx rfl (hb hby d30_17) rfl  hjc k) ?_
  show Go p.tables e below P (T_3.setTop (mkF m 18 #[.val (.ref a), .val (.int (0 : Int32))] [(.int jc), (.ref x1)]))
  have ez_jc : jc = (1 : Int32) := by rw [← hjc]; rfl
  subst ez_jc
  show Go p.tables e below P (T_3.setTop (mkF m 18 #[.val (.ref a), .val (.int (0 : Int32))] [(.int (1 : Int32)), (.ref x1)]))
  have vq_4 := Vx1
  obtain ⟨cl_4, Ar_4, q_4, S_4, Nn_4, H_4, G_4⟩ := vq_4
  have hin_4 : ¬ ((1 : Int32) < 0 ∨ cl_4.slots.size ≤ ((1 : Int32)).toNatClampNeg) := inb_of S_4 ⟨by decide, by decide⟩
  have hat_4 : cl_4.slots[((1 : Int32)).toNatClampNeg]? = some (.double v1) := Has.at H_4 hin_4 rfl
  refine Go.step (fun t k => X_3.daload hx (j := (1 : Int32)) (v := (.double v1)) (by rw [e_3]; exact Ar_4.1) (State.isArrayOf_alike hZ.alike Ar_4.2.1) Ar_4.2.2 hin_4 hat_4 (g := (mkF m 18 #[.val (.ref a), .val (.int (0 : Int32))] [(.int (1 : Int32)), (.ref x1)])) rfl rfl (hb hby d30_18) t k) ?_
  show Go p.tables e below P (T_3.setTop (mkF m 19 #[.val (.ref a), .val (.int (0 : Int32))] [(.double v1)]))
  refine Go.step (fun t k => XS.goto X_3.here hx rfl (pc0 := 19) (pc' := 25) rfl (hb hby d30_19) (by decide) (by decide) k) ?_
  show Go p.tables e below P (T_3.setTop (mkF m 25 #[.val (.ref a), .val (.int (0 : Int32))] [(.double v1)]))
  exact retGo X_3 hx hP Bd.returns hlk rfl (Or.inr (Or.inr (Or.inl ⟨rfl, rfl, _, rfl⟩))) (hb hby d30_25) (by decide) (by decide) (by rw [e_3]; exact ⟨rfl, N0, rfl⟩)
theorem d31_0 : decode prog_11_method_4_code 0 = .ok (.iload_n 1, 1) := by decide +kernel
theorem d31_1 : decode prog_11_method_4_code 1 = .ok (.iconst 1, 1) := by decide +kernel
theorem d31_2 : decode prog_11_method_4_code 2 = .ok (.iadd, 1) := by decide +kernel
theorem d31_3 : decode prog_11_method_4_code 3 = .ok (.aload_n 0, 1) := by decide +kernel
theorem d31_4 : decode prog_11_method_4_code 4 = .ok (.getfield 30, 3) := by decide +kernel
theorem d31_7 : decode prog_11_method_4_code 7 = .ok (.arraylength, 1) := by decide +kernel
theorem d31_8 : decode prog_11_method_4_code 8 = .ok (.if_icmp .ge 14, 3) := by decide +kernel
theorem d31_22 : decode prog_11_method_4_code 22 = .ok (.ldc2_w 38, 3) := by decide +kernel
theorem d31_25 : decode prog_11_method_4_code 25 = .ok (.dreturn, 1) := by decide +kernel
theorem pn_31 : plainName "com/example/gleitfahrt/gleitfahrt/engine/ForceCurve$Table" = true := by first | (simp [plainName, overriddenIn]; done) | decide +kernel
theorem ef_31 (m : MethodId) (x0 : Addr) (x1 : Int32) : entryFrame m #[(.ref x0), (.int x1)] 2 = mkF m 0 #[.val (.ref x0), .val (.int x1)] [] := by first | (simp [entryFrame, mkF, argsToLocals, Value.category]; done) | rfl
def Q31 (Z : State) (a : Addr) (x1 : Addr) (k1 : ClassId) (v0 : UInt64) (v1 : UInt64) (h0 : Heap) (n0 : Nat) (v : Option Value) (h : Heap) (L : List Loc) : Prop := v = some (.double (9218868437227405312 : UInt64)) ∧ Fr n0 L ∧ h = h0
set_option maxRecDepth 65536 in
set_option maxHeartbeats 40000000 in
theorem up2_1 (l : Launch) (Z : State) (a0 : Array Value) (hw : ∀ d ∈ tables_1, d.before a0 Z = true) (ws : List Jvm.Cond) (a : Addr) (x1 : Addr) (k1 : ClassId) (v0 : UInt64) (v1 : UInt64) (h0 : Heap) (n0 : Nat) (Z0 : n0 ≤ h0.size) (F0 : Fld Z h0 a "com/example/gleitfahrt/gleitfahrt/engine/ForceCurve$Table" "speedsMs" "[D" (.ref x1)) (Vx1 : Arv Z h0 x1 k1 .double (2 : Int32) [(.double v0), (.double v1)] (.double (0 : UInt64))) :
    MetFree l (⟨"com/example/gleitfahrt/gleitfahrt/engine/ForceCurve$Table", "upperMs", "(I)D"⟩ : MethodName) (head1 (Jvm.Cond.code (⟨"com/example/gleitfahrt/gleitfahrt/engine/ForceCurve$Table", "upperMs", "(I)D"⟩ : MethodName) prog_11_method_4_code 2 (some .double) :: ws) ({ frames := 0, cells := 0, slots := 0, locals := 0 } : Room)) (fun a_ U => a_ = #[(.ref a), (.int (1 : Int32))] ∧ Z.Warmed39 U.vm ∧ U.heap = h0) (fun _ _ _ _ _ => True) (fun _ U o U' => ∃ v L, o = .returned v ∧ Q31 Z a x1 k1 v0 v1 h0 n0 v U'.heap L ∧ FrameEnd U o U' L (({ frames := 0, cells := 0, slots := 0, locals := 0 } : Room)).cells (({ frames := 0, cells := 0, slots := 0, locals := 0 } : Room)).slots) := by
  refine MetFree.of_bodySF (plainFor_of_name pn_31) hisR ?_
  intro p e s m args below meth c s₁ Bd hml0 hP0 hK
  obtain ⟨rfl, hZ, hh⟩ := hP0
  have hx := Bd.exec
  have hby := Bd.bytes
  have hml : c.maxLocals = 2 := hml0
  have hown : s.vm.findClass "com/example/gleitfahrt/gleitfahrt/engine/ForceCurve$Table" = some m.cls := findClass_of_methodNamed Bd.named
  have hnm := (name_of_methodNamed Bd.named Bd.method).1
  have X0 : Stand p l e ({ frames := 0, cells := 0, slots := 0, locals := 0 } : Room) s m #[(.ref a), (.int (1 : Int32))] below meth c s₁ [] 0 0 := Stand.of_body Bd
  have e0 : s₁.heap = h0 := by rw [← hh, Bd.state]; rfl
  have N0 := Fr.nil n0
  have hlk : meth.locks = false := BodyLoose.notSynchronized Bd
  refine Go.start (P₀ := fun s₂ o => ∃ v L, o = .returned v ∧ Q31 Z a x1 k1 v0 v1 h0 n0 v s₂.heap L ∧ FrameEnd s o s₂ L (({ frames := 0, cells := 0, slots := 0, locals := 0 } : Room)).cells (({ frames := 0, cells := 0, slots := 0, locals := 0 } : Room)).slots) (congrArg s₁.setTop (ef_31 m a (1 : Int32))) ?_
  intro P hP
  show Go p.tables e below P (s₁.setTop (mkF m 0 #[.val (.ref a), .val (.int (1 : Int32))] []))
  refine Go.step (fun t k => XS.iloadN X0.here hx rfl (hb hby d31_0) rfl  k) ?_
  show Go p.tables e below P (s₁.setTop (mkF m 1 #[.val (.ref a), .val (.int (1 : Int32))] [(.int (1 : Int32))]))
  refine Go.step (fun t k => XS.iconst X0.here hx rfl (hb hby d31_1) k) ?_
  show Go p.tables e below P (s₁.setTop (mkF m 2 #[.val (.ref a), .val (.int (1 : Int32))] [(.int (1 : Int32)), (.int (1 : Int32))]))
  obtain ⟨ja, hja⟩ : ∃ z : Int32, (1 : Int32) + (1 : Int32) = z := ⟨_, rfl⟩
  refine Go.step (fun t k => iadd_v X0.here hx rfl (hb hby d31_2) rfl  hja k) ?_
  show Go p.tables e below P (s₁.setTop (mkF m 3 #[.val (.ref a), .val (.int (1 : Int32))] [(.int ja)]))
  have ez_ja : ja = (2 : Int32) := by rw [← hja]; rfl
  subst ez_ja
  show Go p.tables e below P (s₁.setTop (mkF m 3 #[.val (.ref a), .val (.int (1 : Int32))] [(.int (2 : Int32))]))
  refine Go.step (fun t k => XS.aloadN X0.here hx rfl (hb hby d31_3) rfl rfl k) ?_
  show Go p.tables e below P (s₁.setTop (mkF m 4 #[.val (.ref a), .val (.int (1 : Int32))] [(.ref a), (.int (2 : Int32))]))
  obtain ⟨T_1, X_1, e_1, st_1⟩ := getF X0 hx hZ hown (host := "") (Or.inl (hw _ (List.mem_of_getElem? (i := 31) rfl))) Via.refl e0 F0 (g := (mkF m 4 #[.val (.ref a), .val (.int (1 : Int32))] [(.ref a), (.int (2 : Int32))])) rfl rfl (hb hby d31_4)
  refine Go.step (fun t k => st_1 t k) ?_
  show Go p.tables e below P (T_1.setTop (mkF m 7 #[.val (.ref a), .val (.int (1 : Int32))] [(.ref x1), (.int (2 : Int32))]))
  have vq_2 := Vx1
  obtain ⟨cl_2, Ar_2, q_2, S_2, Nn_2, H_2, G_2⟩ := vq_2
  refine Go.step (fun t k => X_1.arraylength hx (by rw [e_1]; exact Ar_2.1) (State.isArrayOf_alike hZ.alike Ar_2.2.1) (g := (mkF m 7 #[.val (.ref a), .val (.int (1 : Int32))] [(.ref x1), (.int (2 : Int32))])) rfl rfl (hb hby d31_7) t k) ?_
  rw [len_of S_2 Nn_2]
  show Go p.tables e below P (T_1.setTop (mkF m 8 #[.val (.ref a), .val (.int (1 : Int32))] [(.int (2 : Int32)), (.int (2 : Int32))]))
  refine Go.step (fun t k => XS.icmpYes X_1.here hx rfl (pc0 := 8) (pc' := 22) rfl (hb hby d31_8) rfl (icY (cd := .ge) (by decide : (2 : Int) ≤ (2 : Int))) (by decide) (by decide) k) ?_
  show Go p.tables e below P (T_1.setTop (mkF m 22 #[.val (.ref a), .val (.int (1 : Int32))] []))
  refine Go.step (fun t k => X_1.ldc2DoubleC hx hown (mvT hZ (hw _ (List.mem_of_getElem? (i := 41) rfl))) (g := (mkF m 22 #[.val (.ref a), .val (.int (1 : Int32))] [])) rfl (hb hby d31_22) t k) ?_
  show Go p.tables e below P (T_1.setTop (mkF m 25 #[.val (.ref a), .val (.int (1 : Int32))] [(.double (9218868437227405312 : UInt64))]))
  exact retGo X_1 hx hP Bd.returns hlk rfl (Or.inr (Or.inr (Or.inl ⟨rfl, rfl, _, rfl⟩))) (hb hby d31_25) (by decide) (by decide) (by rw [e_1]; exact ⟨rfl, N0, rfl⟩)
theorem d13_0 : decode prog_11_method_1_code 0 = .ok (.aload_n 0, 1) := by decide +kernel
theorem d13_1 : decode prog_11_method_1_code 1 = .ok (.invokespecial 1, 3) := by decide +kernel
theorem d13_4 : decode prog_11_method_1_code 4 = .ok (.aload_n 1, 1) := by decide +kernel
theorem d13_5 : decode prog_11_method_1_code 5 = .ok (.arraylength, 1) := by decide +kernel
theorem d13_6 : decode prog_11_method_1_code 6 = .ok (.ifCond .eq 10, 3) := by decide +kernel
theorem d13_9 : decode prog_11_method_1_code 9 = .ok (.aload_n 1, 1) := by decide +kernel
theorem d13_10 : decode prog_11_method_1_code 10 = .ok (.arraylength, 1) := by decide +kernel
theorem d13_11 : decode prog_11_method_1_code 11 = .ok (.aload_n 2, 1) := by decide +kernel
theorem d13_12 : decode prog_11_method_1_code 12 = .ok (.arraylength, 1) := by decide +kernel
theorem d13_13 : decode prog_11_method_1_code 13 = .ok (.if_icmp .eq 13, 3) := by decide +kernel
theorem d13_26 : decode prog_11_method_1_code 26 = .ok (.iconst 0, 1) := by decide +kernel
theorem d13_27 : decode prog_11_method_1_code 27 = .ok (.istore_n 3, 1) := by decide +kernel
theorem d13_28 : decode prog_11_method_1_code 28 = .ok (.iload_n 3, 1) := by decide +kernel
theorem d13_29 : decode prog_11_method_1_code 29 = .ok (.aload_n 1, 1) := by decide +kernel
theorem d13_30 : decode prog_11_method_1_code 30 = .ok (.arraylength, 1) := by decide +kernel
theorem d13_31 : decode prog_11_method_1_code 31 = .ok (.if_icmp .ge 99, 3) := by decide +kernel
theorem d13_34 : decode prog_11_method_1_code 34 = .ok (.iload_n 3, 1) := by decide +kernel
theorem d13_35 : decode prog_11_method_1_code 35 = .ok (.ifCond .ne 19, 3) := by decide +kernel
theorem d13_38 : decode prog_11_method_1_code 38 = .ok (.aload_n 1, 1) := by decide +kernel
theorem d13_39 : decode prog_11_method_1_code 39 = .ok (.iload_n 3, 1) := by decide +kernel
theorem d13_40 : decode prog_11_method_1_code 40 = .ok (.daload, 1) := by decide +kernel
theorem d13_41 : decode prog_11_method_1_code 41 = .ok (.dconst 0, 1) := by decide +kernel
theorem d13_42 : decode prog_11_method_1_code 42 = .ok (.dcmp .l, 1) := by decide +kernel
theorem d13_43 : decode prog_11_method_1_code 43 = .ok (.ifCond .lt 7, 3) := by decide +kernel
theorem d13_46 : decode prog_11_method_1_code 46 = .ok (.iconst 1, 1) := by decide +kernel
theorem d13_47 : decode prog_11_method_1_code 47 = .ok (.goto 24, 3) := by decide +kernel
theorem d13_54 : decode prog_11_method_1_code 54 = .ok (.aload_n 1, 1) := by decide +kernel
theorem d13_55 : decode prog_11_method_1_code 55 = .ok (.iload_n 3, 1) := by decide +kernel
theorem d13_56 : decode prog_11_method_1_code 56 = .ok (.daload, 1) := by decide +kernel
theorem d13_57 : decode prog_11_method_1_code 57 = .ok (.aload_n 1, 1) := by decide +kernel
theorem d13_58 : decode prog_11_method_1_code 58 = .ok (.iload_n 3, 1) := by decide +kernel
theorem d13_59 : decode prog_11_method_1_code 59 = .ok (.iconst 1, 1) := by decide +kernel
theorem d13_60 : decode prog_11_method_1_code 60 = .ok (.isub, 1) := by decide +kernel
theorem d13_61 : decode prog_11_method_1_code 61 = .ok (.daload, 1) := by decide +kernel
theorem d13_62 : decode prog_11_method_1_code 62 = .ok (.dcmp .l, 1) := by decide +kernel
theorem d13_63 : decode prog_11_method_1_code 63 = .ok (.ifCond .le 7, 3) := by decide +kernel
theorem d13_66 : decode prog_11_method_1_code 66 = .ok (.iconst 1, 1) := by decide +kernel
theorem d13_67 : decode prog_11_method_1_code 67 = .ok (.goto 4, 3) := by decide +kernel
theorem d13_71 : decode prog_11_method_1_code 71 = .ok (.istore 4, 2) := by decide +kernel
theorem d13_73 : decode prog_11_method_1_code 73 = .ok (.iload 4, 2) := by decide +kernel
theorem d13_75 : decode prog_11_method_1_code 75 = .ok (.ifCond .eq 12, 3) := by decide +kernel
theorem d13_78 : decode prog_11_method_1_code 78 = .ok (.aload_n 1, 1) := by decide +kernel
theorem d13_79 : decode prog_11_method_1_code 79 = .ok (.iload_n 3, 1) := by decide +kernel
theorem d13_80 : decode prog_11_method_1_code 80 = .ok (.daload, 1) := by decide +kernel
theorem d13_81 : decode prog_11_method_1_code 81 = .ok (.invokestatic 14, 3) := by decide +kernel
theorem d13_84 : decode prog_11_method_1_code 84 = .ok (.ifCond .ne 13, 3) := by decide +kernel
theorem d13_97 : decode prog_11_method_1_code 97 = .ok (.aload_n 2, 1) := by decide +kernel
theorem d13_98 : decode prog_11_method_1_code 98 = .ok (.iload_n 3, 1) := by decide +kernel
theorem d13_99 : decode prog_11_method_1_code 99 = .ok (.daload, 1) := by decide +kernel
theorem d13_100 : decode prog_11_method_1_code 100 = .ok (.dconst 0, 1) := by decide +kernel
theorem d13_101 : decode prog_11_method_1_code 101 = .ok (.dcmp .l, 1) := by decide +kernel
theorem d13_102 : decode prog_11_method_1_code 102 = .ok (.ifCond .lt 12, 3) := by decide +kernel
theorem d13_105 : decode prog_11_method_1_code 105 = .ok (.aload_n 2, 1) := by decide +kernel
theorem d13_106 : decode prog_11_method_1_code 106 = .ok (.iload_n 3, 1) := by decide +kernel
theorem d13_107 : decode prog_11_method_1_code 107 = .ok (.daload, 1) := by decide +kernel
theorem d13_108 : decode prog_11_method_1_code 108 = .ok (.invokestatic 14, 3) := by decide +kernel
theorem d13_111 : decode prog_11_method_1_code 111 = .ok (.ifCond .ne 13, 3) := by decide +kernel
theorem d13_124 : decode prog_11_method_1_code 124 = .ok (.iinc 3 1, 3) := by decide +kernel
theorem d13_127 : decode prog_11_method_1_code 127 = .ok (.goto (-99), 3) := by decide +kernel
theorem d13_130 : decode prog_11_method_1_code 130 = .ok (.aload_n 0, 1) := by decide +kernel
theorem d13_131 : decode prog_11_method_1_code 131 = .ok (.aload_n 1, 1) := by decide +kernel
theorem d13_132 : decode prog_11_method_1_code 132 = .ok (.invokevirtual 24, 3) := by decide +kernel
theorem d13_135 : decode prog_11_method_1_code 135 = .ok (.checkcast 25, 3) := by decide +kernel
theorem d13_138 : decode prog_11_method_1_code 138 = .ok (.putfield 30, 3) := by decide +kernel
theorem d13_141 : decode prog_11_method_1_code 141 = .ok (.aload_n 0, 1) := by decide +kernel
theorem d13_142 : decode prog_11_method_1_code 142 = .ok (.aload_n 2, 1) := by decide +kernel
theorem d13_143 : decode prog_11_method_1_code 143 = .ok (.invokevirtual 24, 3) := by decide +kernel
theorem d13_146 : decode prog_11_method_1_code 146 = .ok (.checkcast 25, 3) := by decide +kernel
theorem d13_149 : decode prog_11_method_1_code 149 = .ok (.putfield 35, 3) := by decide +kernel
theorem d13_152 : decode prog_11_method_1_code 152 = .ok (.return_, 1) := by decide +kernel
theorem pn_13 : plainName "com/example/gleitfahrt/gleitfahrt/engine/ForceCurve$Table" = true := by first | (simp [plainName, overriddenIn]; done) | decide +kernel
theorem ef_13 (m : MethodId) (x0 : Addr) (x1 : Addr) (x2 : Addr) : entryFrame m #[(.ref x0), (.ref x1), (.ref x2)] 5 = mkF m 0 #[.val (.ref x0), .val (.ref x1), .val (.ref x2), .unset, .unset] [] := by first | (simp [entryFrame, mkF, argsToLocals, Value.category]; done) | rfl
def Q13 (Z : State) (a : Addr) (y1 : Addr) (y2 : Addr) (k1 : ClassId) (k2 : ClassId) (v0 : UInt64) (v1 : UInt64) (v2 : UInt64) (fv : UInt64) (z0 : Int) (z1 : Int) (z2 : Int) (zf : Int) (h0 : Heap) (n0 : Nat) (v : Option Value) (h : Heap) (L : List Loc) : Prop := v = none ∧ Fr n0 L ∧ Keep h0 h [a] ∧ Exa Z h a "com/example/gleitfahrt/gleitfahrt/engine/ForceCurve$Table" ∧ ∃ (x1 : Addr), Fld Z h a "com/example/gleitfahrt/gleitfahrt/engine/ForceCurve$Table" "speedsMs" "[D" (.ref x1) ∧ Arv Z h x1 k1 .double (3 : Int32) [(.double v0), (.double v1), (.double v2)] (.double (0 : UInt64))
set_option maxRecDepth 65536 in
set_option maxHeartbeats 40000000 in
theorem rm13 (l : Launch) (Z : State) (a0 : Array Value) (hw : ∀ d ∈ tables_1, d.before a0 Z = true) (ws : List Jvm.Cond) (a : Addr) (y1 : Addr) (y2 : Addr) (k1 : ClassId) (k2 : ClassId) (v0 : UInt64) (v1 : UInt64) (v2 : UInt64) (fv : UInt64) (z0 : Int) (z1 : Int) (z2 : Int) (zf : Int) (h0 : Heap) (n0 : Nat) (Z0 : n0 ≤ h0.size) (E_a : Exa Z h0 a "com/example/gleitfahrt/gleitfahrt/engine/ForceCurve$Table") (F0 : Fld Z h0 a "com/example/gleitfahrt/gleitfahrt/engine/ForceCurve$Table" "speedsMs" "[D" .null) (F1 : Fld Z h0 a "com/example/gleitfahrt/gleitfahrt/engine/ForceCurve$Table" "forcesN" "[D" .null) (g_a : n0 ≤ a) (Ey1 : Exa Z h0 y1 "[D") (Ey2 : Exa Z h0 y2 "[D") (Vy1 : Arv Z h0 y1 k1 .double (3 : Int32) [(.double v0), (.double v1), (.double v2)] (.double (0 : UInt64))) (Vy2 : Arv Z h0 y2 k2 .double (3 : Int32) [(.double fv), (.double fv), (.double fv)] (.double (0 : UInt64))) (na1 : a ≠ y1) (na2 : a ≠ y2) (q0 : DE 1074 z0 v0) (q1 : DE 1074 z1 v1) (q2 : DE 1074 z2 v2) (qf : DE 1074 zf fv) (bf : 0 ≤ zf) (b0 : 0 ≤ z0) (b1 : z0 < z1) (b2 : z1 < z2) :
    MetFree l (⟨"com/example/gleitfahrt/gleitfahrt/engine/ForceCurve$Table", "<init>", "([D[D)V"⟩ : MethodName) (head1 (Jvm.Cond.code (⟨"com/example/gleitfahrt/gleitfahrt/engine/ForceCurve$Table", "<init>", "([D[D)V"⟩ : MethodName) prog_11_method_1_code 5 none :: ws) ({ frames := 2, cells := 2, slots := 6, locals := 26 } : Room)) (fun a_ U => a_ = #[(.ref a), (.ref y1), (.ref y2)] ∧ Z.Warmed39 U.vm ∧ U.heap = h0) (fun _ _ _ _ _ => True) (fun _ U o U' => ∃ v L, o = .returned v ∧ Q13 Z a y1 y2 k1 k2 v0 v1 v2 fv z0 z1 z2 zf h0 n0 v U'.heap L ∧ FrameEnd U o U' L (({ frames := 2, cells := 2, slots := 6, locals := 26 } : Room)).cells (({ frames := 2, cells := 2, slots := 6, locals := 26 } : Room)).slots) := by
  refine MetFree.of_bodySF (plainFor_of_name pn_13) hisR ?_
  intro p e s m args below meth c s₁ Bd hml0 hP0 hK
  obtain ⟨rfl, hZ, hh⟩ := hP0
  have hx := Bd.exec
  have hby := Bd.bytes
  have hml : c.maxLocals = 5 := hml0
  have hown : s.vm.findClass "com/example/gleitfahrt/gleitfahrt/engine/ForceCurve$Table" = some m.cls := findClass_of_methodNamed Bd.named
  have hnm := (name_of_methodNamed Bd.named Bd.method).1
  have X0 : Stand p l e ({ frames := 2, cells := 2, slots := 6, locals := 26 } : Room) s m #[(.ref a), (.ref y1), (.ref y2)] below meth c s₁ [] 0 0 := Stand.of_body Bd
  have e0 : s₁.heap = h0 := by rw [← hh, Bd.state]; rfl
  have N0 := Fr.nil n0
  have hlk : meth.locks = false := BodyLoose.notSynchronized Bd
  refine Go.start (P₀ := fun s₂ o => ∃ v L, o = .returned v ∧ Q13 Z a y1 y2 k1 k2 v0 v1 v2 fv z0 z1 z2 zf h0 n0 v s₂.heap L ∧ FrameEnd s o s₂ L (({ frames := 2, cells := 2, slots := 6, locals := 26 } : Room)).cells (({ frames := 2, cells := 2, slots := 6, locals := 26 } : Room)).slots) (congrArg s₁.setTop (ef_13 m a y1 y2)) ?_
  intro P hP
  show Go p.tables e below P (s₁.setTop (mkF m 0 #[.val (.ref a), .val (.ref y1), .val (.ref y2), .unset, .unset] []))
  refine Go.step (fun t k => XS.aloadN X0.here hx rfl (hb hby d13_0) rfl rfl k) ?_
  show Go p.tables e below P (s₁.setTop (mkF m 1 #[.val (.ref a), .val (.ref y1), .val (.ref y2), .unset, .unset] [(.ref a)]))
  obtain ⟨T_1, X_1, e_1, st_1⟩ := initO X0 hx hZ hown (hw _ (List.mem_of_getElem? (i := 10) rfl)) (hw _ (List.mem_of_getElem? (i := 11) rfl)) (hw _ (List.mem_of_getElem? (i := 12) rfl)) e0 (g := (mkF m 1 #[.val (.ref a), .val (.ref y1), .val (.ref y2), .unset, .unset] [(.ref a)])) rfl (by rw [hml]; rfl) rfl (hb hby d13_1) (by decide) (W := 0) (by show 2 * 0 + _ ≤ _; exact Nat.le_of_eq rfl) (by decide)
  refine Go.step (fun t k => st_1 t k) ?_
  show Go p.tables e below P (T_1.setTop (mkF m 4 #[.val (.ref a), .val (.ref y1), .val (.ref y2), .unset, .unset] []))
  refine Go.step (fun t k => XS.aloadN X_1.here hx rfl (hb hby d13_4) rfl rfl k) ?_
  show Go p.tables e below P (T_1.setTop (mkF m 5 #[.val (.ref a), .val (.ref y1), .val (.ref y2), .unset, .unset] [(.ref y1)]))
  have vq_2 := Vy1
  obtain ⟨cl_2, Ar_2, q_2, S_2, Nn_2, H_2, G_2⟩ := vq_2
  refine Go.step (fun t k => X_1.arraylength hx (by rw [e_1]; exact Ar_2.1) (State.isArrayOf_alike hZ.alike Ar_2.2.1) (g := (mkF m 5 #[.val (.ref a), .val (.ref y1), .val (.ref y2), .unset, .unset] [(.ref y1)])) rfl rfl (hb hby d13_5) t k) ?_
  rw [len_of S_2 Nn_2]
  show Go p.tables e below P (T_1.setTop (mkF m 6 #[.val (.ref a), .val (.ref y1), .val (.ref y2), .unset, .unset] [(.int (3 : Int32))]))
  refine Go.step (fun t k => XS.ifNo X_1.here hx rfl (hb hby d13_6) rfl (ifN (cd := .eq) (by decide : ¬ ((3 : Int) = 0))) k) ?_
  show Go p.tables e below P (T_1.setTop (mkF m 9 #[.val (.ref a), .val (.ref y1), .val (.ref y2), .unset, .unset] []))
  refine Go.step (fun t k => XS.aloadN X_1.here hx rfl (hb hby d13_9) rfl rfl k) ?_
  show Go p.tables e below P (T_1.setTop (mkF m 10 #[.val (.ref a), .val (.ref y1), .val (.ref y2), .unset, .unset] [(.ref y1)]))
  have vq_3 := Vy1
  obtain ⟨cl_3, Ar_3, q_3, S_3, Nn_3, H_3, G_3⟩ := vq_3
  refine Go.step (fun t k => X_1.arraylength hx (by rw [e_1]; exact Ar_3.1) (State.isArrayOf_alike hZ.alike Ar_3.2.1) (g := (mkF m 10 #[.val (.ref a), .val (.ref y1), .val (.ref y2), .unset, .unset] [(.ref y1)])) rfl rfl (hb hby d13_10) t k) ?_
  rw [len_of S_3 Nn_3]
  show Go p.tables e below P (T_1.setTop (mkF m 11 #[.val (.ref a), .val (.ref y1), .val (.ref y2), .unset, .unset] [(.int (3 : Int32))]))
  refine Go.step (fun t k => XS.aloadN X_1.here hx rfl (hb hby d13_11) rfl rfl k) ?_
  show Go p.tables e below P (T_1.setTop (mkF m 12 #[.val (.ref a), .val (.ref y1), .val (.ref y2), .unset, .unset] [(.ref y2), (.int (3 : Int32))]))
  have vq_4 := Vy2
  obtain ⟨cl_4, Ar_4, q_4, S_4, Nn_4, H_4, G_4⟩ := vq_4
  refine Go.step (fun t k => X_1.arraylength hx (by rw [e_1]; exact Ar_4.1) (State.isArrayOf_alike hZ.alike Ar_4.2.1) (g := (mkF m 12 #[.val (.ref a), .val (.ref y1), .val (.ref y2), .unset, .unset] [(.ref y2), (.int (3 : Int32))])) rfl rfl (hb hby d13_12) t k) ?_
  rw [len_of S_4 Nn_4]
  show Go p.tables e below P (T_1.setTop (mkF m 13 #[.val (.ref a), .val (.ref y1), .val (.ref y2), .unset, .unset] [(.int (3 : Int32)), (.int (3 : Int32))]))
  refine Go.step (fun t k => XS.icmpYes X_1.here hx rfl (pc0 := 13) (pc' := 26) rfl (hb hby d13_13) rfl (icY (cd := .eq) (by decide : (3 : Int) = (3 : Int))) (by decide) (by decide) k) ?_
  show Go p.tables e below P (T_1.setTop (mkF m 26 #[.val (.ref a), .val (.ref y1), .val (.ref y2), .unset, .unset] []))
  refine Go.step (fun t k => XS.iconst X_1.here hx rfl (hb hby d13_26) k) ?_
  show Go p.tables e below P (T_1.setTop (mkF m 27 #[.val (.ref a), .val (.ref y1), .val (.ref y2), .unset, .unset] [(.int (0 : Int32))]))
  refine Go.step (fun t k => XS.istoreN X_1.here hx rfl (hb hby d13_27) rfl (l' := #[.val (.ref a), .val (.ref y1), .val (.ref y2), .val (.int (0 : Int32)), .unset]) rfl k) ?_
  show Go p.tables e below P (T_1.setTop (mkF m 28 #[.val (.ref a), .val (.ref y1), .val (.ref y2), .val (.int (0 : Int32)), .unset] []))
  refine Go.step (fun t k => XS.iloadN X_1.here hx rfl (hb hby d13_28) rfl  k) ?_
  show Go p.tables e below P (T_1.setTop (mkF m 29 #[.val (.ref a), .val (.ref y1), .val (.ref y2), .val (.int (0 : Int32)), .unset] [(.int (0 : Int32))]))
  refine Go.step (fun t k => XS.aloadN X_1.here hx rfl (hb hby d13_29) rfl rfl k) ?_
  show Go p.tables e below P (T_1.setTop (mkF m 30 #[.val (.ref a), .val (.ref y1), .val (.ref y2), .val (.int (0 : Int32)), .unset] [(.ref y1), (.int (0 : Int32))]))
  have vq_5 := Vy1
  obtain ⟨cl_5, Ar_5, q_5, S_5, Nn_5, H_5, G_5⟩ := vq_5
  refine Go.step (fun t k => X_1.arraylength hx (by rw [e_1]; exact Ar_5.1) (State.isArrayOf_alike hZ.alike Ar_5.2.1) (g := (mkF m 30 #[.val (.ref a), .val (.ref y1), .val (.ref y2), .val (.int (0 : Int32)), .unset] [(.ref y1), (.int (0 : Int32))])) rfl rfl (hb hby d13_30) t k) ?_
  rw [len_of S_5 Nn_5]
  show Go p.tables e below P (T_1.setTop (mkF m 31 #[.val (.ref a), .val (.ref y1), .val (.ref y2), .val (.int (0 : Int32)), .unset] [(.int (3 : Int32)), (.int (0 : Int32))]))
  refine Go.step (fun t k => XS.icmpNo X_1.here hx rfl (hb hby d13_31) rfl (icN (cd := .ge) (by decide : ¬ ((3 : Int) ≤ (0 : Int)))) k) ?_
  show Go p.tables e below P (T_1.setTop (mkF m 34 #[.val (.ref a), .val (.ref y1), .val (.ref y2), .val (.int (0 : Int32)), .unset] []))
  refine Go.step (fun t k => XS.iloadN X_1.here hx rfl (hb hby d13_34) rfl  k) ?_
  show Go p.tables e below P (T_1.setTop (mkF m 35 #[.val (.ref a), .val (.ref y1), .val (.ref y2), .val (.int (0 : Int32)), .unset] [(.int (0 : Int32))]))
  refine Go.step (fun t k => XS.ifNo X_1.here hx rfl (hb hby d13_35) rfl (ifN (cd := .ne) (by decide : ¬ (¬ (0 : Int) = 0))) k) ?_
  show Go p.tables e below P (T_1.setTop (mkF m 38 #[.val (.ref a), .val (.ref y1), .val (.ref y2), .val (.int (0 : Int32)), .unset] []))
  refine Go.step (fun t k => XS.aloadN X_1.here hx rfl (hb hby d13_38) rfl rfl k) ?_
  show Go p.tables e below P (T_1.setTop (mkF m 39 #[.val (.ref a), .val (.ref y1), .val (.ref y2), .val (.int (0 : Int32)), .unset] [(.ref y1)]))
  refine Go.step (fun t k => XS.iloadN X_1.here hx rfl (hb hby d13_39) rfl  k) ?_
  show Go p.tables e below P (T_1.setTop (mkF m 40 #[.val (.ref a), .val (.ref y1), .val (.ref y2), .val (.int (0 : Int32)), .unset] [(.int (0 : Int32)), (.ref y1)]))
  have vq_6 := Vy1
  obtain ⟨cl_6, Ar_6, q_6, S_6, Nn_6, H_6, G_6⟩ := vq_6
  have hin_6 : ¬ ((0 : Int32) < 0 ∨ cl_6.slots.size ≤ ((0 : Int32)).toNatClampNeg) := inb_of S_6 ⟨by decide, by decide⟩
  have hat_6 : cl_6.slots[((0 : Int32)).toNatClampNeg]? = some (.double v0) := Has.at H_6 hin_6 rfl
  refine Go.step (fun t k => X_1.daload hx (j := (0 : Int32)) (v := (.double v0)) (by rw [e_1]; exact Ar_6.1) (State.isArrayOf_alike hZ.alike Ar_6.2.1) Ar_6.2.2 hin_6 hat_6 (g := (mkF m 40 #[.val (.ref a), .val (.ref y1), .val (.ref y2), .val (.int (0 : Int32)), .unset] [(.int (0 : Int32)), (.ref y1)])) rfl rfl (hb hby d13_40) t k) ?_
  show Go p.tables e below P (T_1.setTop (mkF m 41 #[.val (.ref a), .val (.ref y1), .val (.ref y2), .val (.int (0 : Int32)), .unset] [(.double v0)]))
  refine Go.step (fun t k => XS.dconst0 X_1.here hx rfl (hb hby d13_41) rfl k) ?_
  show Go p.tables e below P (T_1.setTop (mkF m 42 #[.val (.ref a), .val (.ref y1), .val (.ref y2), .val (.int (0 : Int32)), .unset] [(.double FP.dconst0), (.double v0)]))
  refine Go.step (fun t k => XS.dcmpS X_1.here hx rfl (hb hby d13_42) rfl rfl k) ?_
  show Go p.tables e below P (T_1.setTop (mkF m 43 #[.val (.ref a), .val (.ref y1), .val (.ref y2), .val (.int (0 : Int32)), .unset] [(.int (cmpValue (FP.dcmp v0 FP.dconst0) .l))]))
  refine Go.step (fun t k => XS.ifNo X_1.here hx rfl (hb hby d13_43) rfl (dcN (cd := .lt) (DE.cmp q0 (zero_e 1074)) (by omega : ¬ (z0 < 0))) k) ?_
  show Go p.tables e below P (T_1.setTop (mkF m 46 #[.val (.ref a), .val (.ref y1), .val (.ref y2), .val (.int (0 : Int32)), .unset] []))
  refine Go.step (fun t k => XS.iconst X_1.here hx rfl (hb hby d13_46) k) ?_
  show Go p.tables e below P (T_1.setTop (mkF m 47 #[.val (.ref a), .val (.ref y1), .val (.ref y2), .val (.int (0 : Int32)), .unset] [(.int (1 : Int32))]))
  refine Go.step (fun t k => XS.goto X_1.here hx rfl (pc0 := 47) (pc' := 71) rfl (hb hby d13_47) (by decide) (by decide) k) ?_
  show Go p.tables e below P (T_1.setTop (mkF m 71 #[.val (.ref a), .val (.ref y1), .val (.ref y2), .val (.int (0 : Int32)), .unset] [(.int (1 : Int32))]))
  refine Go.step (fun t k => XS.istore X_1.here hx rfl (hb hby d13_71) rfl (l' := #[.val (.ref a), .val (.ref y1), .val (.ref y2), .val (.int (0 : Int32)), .val (.int (1 : Int32))]) rfl k) ?_
  show Go p.tables e below P (T_1.setTop (mkF m 73 #[.val (.ref a), .val (.ref y1), .val (.ref y2), .val (.int (0 : Int32)), .val (.int (1 : Int32))] []))
  refine Go.step (fun t k => XS.iload X_1.here hx rfl (hb hby d13_73) rfl  k) ?_
  show Go p.tables e below P (T_1.setTop (mkF m 75 #[.val (.ref a), .val (.ref y1), .val (.ref y2), .val (.int (0 : Int32)), .val (.int (1 : Int32))] [(.int (1 : Int32))]))
  refine Go.step (fun t k => XS.ifNo X_1.here hx rfl (hb hby d13_75) rfl (ifN (cd := .eq) (by decide : ¬ ((1 : Int) = 0))) k) ?_
  show Go p.tables e below P (T_1.setTop (mkF m 78 #[.val (.ref a), .val (.ref y1), .val (.ref y2), .val (.int (0 : Int32)), .val (.int (1 : Int32))] []))
  refine Go.step (fun t k => XS.aloadN X_1.here hx rfl (hb hby d13_78) rfl rfl k) ?_
  show Go p.tables e below P (T_1.setTop (mkF m 79 #[.val (.ref a), .val (.ref y1), .val (.ref y2), .val (.int (0 : Int32)), .val (.int (1 : Int32))] [(.ref y1)]))
  refine Go.step (fun t k => XS.iloadN X_1.here hx rfl (hb hby d13_79) rfl  k) ?_
  show Go p.tables e below P (T_1.setTop (mkF m 80 #[.val (.ref a), .val (.ref y1), .val (.ref y2), .val (.int (0 : Int32)), .val (.int (1 : Int32))] [(.int (0 : Int32)), (.ref y1)]))
  have vq_7 := Vy1
  obtain ⟨cl_7, Ar_7, q_7, S_7, Nn_7, H_7, G_7⟩ := vq_7
  have hin_7 : ¬ ((0 : Int32) < 0 ∨ cl_7.slots.size ≤ ((0 : Int32)).toNatClampNeg) := inb_of S_7 ⟨by decide, by decide⟩
  have hat_7 : cl_7.slots[((0 : Int32)).toNatClampNeg]? = some (.double v0) := Has.at H_7 hin_7 rfl
  refine Go.step (fun t k => X_1.daload hx (j := (0 : Int32)) (v := (.double v0)) (by rw [e_1]; exact Ar_7.1) (State.isArrayOf_alike hZ.alike Ar_7.2.1) Ar_7.2.2 hin_7 hat_7 (g := (mkF m 80 #[.val (.ref a), .val (.ref y1), .val (.ref y2), .val (.int (0 : Int32)), .val (.int (1 : Int32))] [(.int (0 : Int32)), (.ref y1)])) rfl rfl (hb hby d13_80) t k) ?_
  show Go p.tables e below P (T_1.setTop (mkF m 81 #[.val (.ref a), .val (.ref y1), .val (.ref y2), .val (.int (0 : Int32)), .val (.int (1 : Int32))] [(.double v0)]))
  obtain ⟨_, _, ⟨T_8, L_8, k_8, n_8⟩, -, X_8, ⟨Lc_8, hQ_8, l_8, y_8, z_8⟩, st_8⟩ := Jvm.LawKit.callS X_1 hx (y := (⟨"java/lang/Double", "isFinite", "(D)Z"⟩ : MethodName)) hown (mvT hZ (hw _ (List.mem_of_getElem? (i := 13) rfl))) (mvT hZ (hw _ (List.mem_of_getElem? (i := 14) rfl))) (mvT hZ (hw _ (List.mem_of_getElem? (i := 15) rfl))) (mvT hZ (hw _ (List.mem_of_getElem? (i := 16) rfl))) (by decide) (backOf (W := 0) (rm1 l Z a0 hw [] v0 h0 n0 Z0 q0.1) hZ (hw _ (List.mem_of_getElem? (i := 16) rfl)) (hw _ (List.mem_of_getElem? (i := 15) rfl)) (by decide) (by decide)) (g := (mkF m 81 #[.val (.ref a), .val (.ref y1), .val (.ref y2), .val (.int (0 : Int32)), .val (.int (1 : Int32))] [(.double v0)])) rfl (by rw [hml]; rfl) (argsL := [(.double v0)]) (rest := []) (lenOf pd_1 rfl) rfl (by show 2 * 0 + _ ≤ _; exact Nat.le_of_eq rfl) (hb hby d13_81) (fun _ _ => ⟨rfl, e_1, (by decide : 0 + 0 ≤ _), (by decide : 0 + 0 ≤ _)⟩)
  dsimp only [Pt.U, Pt.locs, Pt.cells, Pt.slots] at X_8 l_8 y_8 z_8 st_8 hQ_8
  subst l_8 y_8 z_8
  obtain ⟨rfl, N_8q, eh_8⟩ := hQ_8
  have N_8 := Fr.app N0 N_8q
  refine Go.step (fun t k => st_8 t k) ?_
  show Go p.tables e below P (T_8.setTop (mkF m 84 #[.val (.ref a), .val (.ref y1), .val (.ref y2), .val (.int (0 : Int32)), .val (.int (1 : Int32))] [(.int (1 : Int32))]))
  refine Go.step (fun t k => XS.ifYes X_8.here hx rfl (pc0 := 84) (pc' := 97) rfl (hb hby d13_84) rfl (ifY (cd := .ne) (by decide : ¬ (1 : Int) = 0)) (by decide) (by decide) k) ?_
  show Go p.tables e below P (T_8.setTop (mkF m 97 #[.val (.ref a), .val (.ref y1), .val (.ref y2), .val (.int (0 : Int32)), .val (.int (1 : Int32))] []))
  refine Go.step (fun t k => XS.aloadN X_8.here hx rfl (hb hby d13_97) rfl rfl k) ?_
  show Go p.tables e below P (T_8.setTop (mkF m 98 #[.val (.ref a), .val (.ref y1), .val (.ref y2), .val (.int (0 : Int32)), .val (.int (1 : Int32))] [(.ref y2)]))
  refine Go.step (fun t k => XS.iloadN X_8.here hx rfl (hb hby d13_98) rfl  k) ?_
  show Go p.tables e below P (T_8.setTop (mkF m 99 #[.val (.ref a), .val (.ref y1), .val (.ref y2), .val (.int (0 : Int32)), .val (.int (1 : Int32))] [(.int (0 : Int32)), (.ref y2)]))
  have vq_9 := Vy2
  obtain ⟨cl_9, Ar_9, q_9, S_9, Nn_9, H_9, G_9⟩ := vq_9
  have hin_9 : ¬ ((0 : Int32) < 0 ∨ cl_9.slots.size ≤ ((0 : Int32)).toNatClampNeg) := inb_of S_9 ⟨by decide, by decide⟩
  have hat_9 : cl_9.slots[((0 : Int32)).toNatClampNeg]? = some (.double fv) := Has.at H_9 hin_9 rfl
  refine Go.step (fun t k => X_8.daload hx (j := (0 : Int32)) (v := (.double fv)) (by rw [eh_8]; exact Ar_9.1) (State.isArrayOf_alike hZ.alike Ar_9.2.1) Ar_9.2.2 hin_9 hat_9 (g := (mkF m 99 #[.val (.ref a), .val (.ref y1), .val (.ref y2), .val (.int (0 : Int32)), .val (.int (1 : Int32))] [(.int (0 : Int32)), (.ref y2)])) rfl rfl (hb hby d13_99) t k) ?_
  show Go p.tables e below P (T_8.setTop (mkF m 100 #[.val (.ref a), .val (.ref y1), .val (.ref y2), .val (.int (0 : Int32)), .val (.int (1 : Int32))] [(.double fv)]))
  refine Go.step (fun t k => XS.dconst0 X_8.here hx rfl (hb hby d13_100) rfl k) ?_
  show Go p.tables e below P (T_8.setTop (mkF m 101 #[.val (.ref a), .val (.ref y1), .val (.ref y2), .val (.int (0 : Int32)), .val (.int (1 : Int32))] [(.double FP.dconst0), (.double fv)]))
  refine Go.step (fun t k => XS.dcmpS X_8.here hx rfl (hb hby d13_101) rfl rfl k) ?_
  show Go p.tables e below P (T_8.setTop (mkF m 102 #[.val (.ref a), .val (.ref y1), .val (.ref y2), .val (.int (0 : Int32)), .val (.int (1 : Int32))] [(.int (cmpValue (FP.dcmp fv FP.dconst0) .l))]))
  refine Go.step (fun t k => XS.ifNo X_8.here hx rfl (hb hby d13_102) rfl (dcN (cd := .lt) (DE.cmp qf (zero_e 1074)) (by omega : ¬ (zf < 0))) k) ?_
  show Go p.tables e below P (T_8.setTop (mkF m 105 #[.val (.ref a), .val (.ref y1), .val (.ref y2), .val (.int (0 : Int32)), .val (.int (1 : Int32))] []))
  refine Go.step (fun t k => XS.aloadN X_8.here hx rfl (hb hby d13_105) rfl rfl k) ?_
  show Go p.tables e below P (T_8.setTop (mkF m 106 #[.val (.ref a), .val (.ref y1), .val (.ref y2), .val (.int (0 : Int32)), .val (.int (1 : Int32))] [(.ref y2)]))
  refine Go.step (fun t k => XS.iloadN X_8.here hx rfl (hb hby d13_106) rfl  k) ?_
  show Go p.tables e below P (T_8.setTop (mkF m 107 #[.val (.ref a), .val (.ref y1), .val (.ref y2), .val (.int (0 : Int32)), .val (.int (1 : Int32))] [(.int (0 : Int32)), (.ref y2)]))
  have vq_10 := Vy2
  obtain ⟨cl_10, Ar_10, q_10, S_10, Nn_10, H_10, G_10⟩ := vq_10
  have hin_10 : ¬ ((0 : Int32) < 0 ∨ cl_10.slots.size ≤ ((0 : Int32)).toNatClampNeg) := inb_of S_10 ⟨by decide, by decide⟩
  have hat_10 : cl_10.slots[((0 : Int32)).toNatClampNeg]? = some (.double fv) := Has.at H_10 hin_10 rfl
  refine Go.step (fun t k => X_8.daload hx (j := (0 : Int32)) (v := (.double fv)) (by rw [eh_8]; exact Ar_10.1) (State.isArrayOf_alike hZ.alike Ar_10.2.1) Ar_10.2.2 hin_10 hat_10 (g := (mkF m 107 #[.val (.ref a), .val (.ref y1), .val (.ref y2), .val (.int (0 : Int32)), .val (.int (1 : Int32))] [(.int (0 : Int32)), (.ref y2)])) rfl rfl (hb hby d13_107) t k) ?_
  show Go p.tables e below P (T_8.setTop (mkF m 108 #[.val (.ref a), .val (.ref y1), .val (.ref y2), .val (.int (0 : Int32)), .val (.int (1 : Int32))] [(.double fv)]))
  obtain ⟨_, _, ⟨T_11, L_11, k_11, n_11⟩, -, X_11, ⟨Lc_11, hQ_11, l_11, y_11, z_11⟩, st_11⟩ := Jvm.LawKit.callS X_8 hx (y := (⟨"java/lang/Double", "isFinite", "(D)Z"⟩ : MethodName)) hown (mvT hZ (hw _ (List.mem_of_getElem? (i := 13) rfl))) (mvT hZ (hw _ (List.mem_of_getElem? (i := 14) rfl))) (mvT hZ (hw _ (List.mem_of_getElem? (i := 15) rfl))) (mvT hZ (hw _ (List.mem_of_getElem? (i := 16) rfl))) (by decide) (backOf (W := 0) (rm1 l Z a0 hw [] fv h0 n0 Z0 qf.1) hZ (hw _ (List.mem_of_getElem? (i := 16) rfl)) (hw _ (List.mem_of_getElem? (i := 15) rfl)) (by decide) (by decide)) (g := (mkF m 108 #[.val (.ref a), .val (.ref y1), .val (.ref y2), .val (.int (0 : Int32)), .val (.int (1 : Int32))] [(.double fv)])) rfl (by rw [hml]; rfl) (argsL := [(.double fv)]) (rest := []) (lenOf pd_1 rfl) rfl (by show 2 * 0 + _ ≤ _; exact Nat.le_of_eq rfl) (hb hby d13_108) (fun _ _ => ⟨rfl, eh_8, (by decide : 0 + 0 ≤ _), (by decide : 0 + 0 ≤ _)⟩)
  dsimp only [Pt.U, Pt.locs, Pt.cells, Pt.slots] at X_11 l_11 y_11 z_11 st_11 hQ_11
  subst l_11 y_11 z_11
  obtain ⟨rfl, N_11q, eh_11⟩ := hQ_11
  have N_11 := Fr.app N_8 N_11q
  refine Go.step (fun t k => st_11 t k) ?_
  show Go p.tables e below P (T_11.setTop (mkF m 111 #[.val (.ref a), .val (.ref y1), .val (.ref y2), .val (.int (0 : Int32)), .val (.int (1 : Int32))] [(.int (1 : Int32))]))
  refine Go.step (fun t k => XS.ifYes X_11.here hx rfl (pc0 := 111) (pc' := 124) rfl (hb hby d13_111) rfl (ifY (cd := .ne) (by decide : ¬ (1 : Int) = 0)) (by decide) (by decide) k) ?_
  show Go p.tables e below P (T_11.setTop (mkF m 124 #[.val (.ref a), .val (.ref y1), .val (.ref y2), .val (.int (0 : Int32)), .val (.int (1 : Int32))] []))
  obtain ⟨ni, hni⟩ : ∃ z : Int32, (0 : Int32) + (1 : Int32) = z := ⟨_, rfl⟩
  refine Go.step (fun t k => XS.iinc X_11.here hx rfl (hb hby d13_124) rfl (l' := #[.val (.ref a), .val (.ref y1), .val (.ref y2), .val (.int ((0 : Int32) + (1 : Int32))), .val (.int (1 : Int32))]) rfl k) ?_
  show Go p.tables e below P (T_11.setTop (mkF m 127 #[.val (.ref a), .val (.ref y1), .val (.ref y2), .val (.int ((0 : Int32) + (1 : Int32))), .val (.int (1 : Int32))] []))
  rw [hni]
  show Go p.tables e below P (T_11.setTop (mkF m 127 #[.val (.ref a), .val (.ref y1), .val (.ref y2), .val (.int ni), .val (.int (1 : Int32))] []))
  have ez_ni : ni = (1 : Int32) := by rw [← hni]; rfl
  subst ez_ni
  show Go p.tables e below P (T_11.setTop (mkF m 127 #[.val (.ref a), .val (.ref y1), .val (.ref y2), .val (.int (1 : Int32)), .val (.int (1 : Int32))] []))
  refine Go.step (fun t k => XS.goto X_11.here hx rfl (pc0 := 127) (pc' := 28) rfl (hb hby d13_127) (by decide) (by decide) k) ?_
  show Go p.tables e below P (T_11.setTop (mkF m 28 #[.val (.ref a), .val (.ref y1), .val (.ref y2), .val (.int (1 : Int32)), .val (.int (1 : Int32))] []))
  refine Go.step (fun t k => XS.iloadN X_11.here hx rfl (hb hby d13_28) rfl  k) ?_
  show Go p.tables e below P (T_11.setTop (mkF m 29 #[.val (.ref a), .val (.ref y1), .val (.ref y2), .val (.int (1 : Int32)), .val (.int (1 : Int32))] [(.int (1 : Int32))]))
  refine Go.step (fun t k => XS.aloadN X_11.here hx rfl (hb hby d13_29) rfl rfl k) ?_
  show Go p.tables e below P (T_11.setTop (mkF m 30 #[.val (.ref a), .val (.ref y1), .val (.ref y2), .val (.int (1 : Int32)), .val (.int (1 : Int32))] [(.ref y1), (.int (1 : Int32))]))
  have vq_12 := Vy1
  obtain ⟨cl_12, Ar_12, q_12, S_12, Nn_12, H_12, G_12⟩ := vq_12
  refine Go.step (fun t k => X_11.arraylength hx (by rw [eh_11]; exact Ar_12.1) (State.isArrayOf_alike hZ.alike Ar_12.2.1) (g := (mkF m 30 #[.val (.ref a), .val (.ref y1), .val (.ref y2), .val (.int (1 : Int32)), .val (.int (1 : Int32))] [(.ref y1), (.int (1 : Int32))])) rfl rfl (hb hby d13_30) t k) ?_
  rw [len_of S_12 Nn_12]
  show Go p.tables e below P (T_11.setTop (mkF m 31 #[.val (.ref a), .val (.ref y1), .val (.ref y2), .val (.int (1 : Int32)), .val (.int (1 : Int32))] [(.int (3 : Int32)), (.int (1 : Int32))]))
  refine Go.step (fun t k => XS.icmpNo X_11.here hx rfl (hb hby d13_31) rfl (icN (cd := .ge) (by decide : ¬ ((3 : Int) ≤ (1 : Int)))) k) ?_
  show Go p.tables e below P (T_11.setTop (mkF m 34 #[.val (.ref a), .val (.ref y1), .val (.ref y2), .val (.int (1 : Int32)), .val (.int (1 : Int32))] []))
  refine Go.step (fun t k => XS.iloadN X_11.here hx rfl (hb hby d13_34) rfl  k) ?_
  show Go p.tables e below P (T_11.setTop (mkF m 35 #[.val (.ref a), .val (.ref y1), .val (.ref y2), .val (.int (1 : Int32)), .val (.int (1 : Int32))] [(.int (1 : Int32))]))
  refine Go.step (fun t k => XS.ifYes X_11.here hx rfl (pc0 := 35) (pc' := 54) rfl (hb hby d13_35) rfl (ifY (cd := .ne) (by decide : ¬ (1 : Int) = 0)) (by decide) (by decide) k) ?_
  show Go p.tables e below P (T_11.setTop (mkF m 54 #[.val (.ref a), .val (.ref y1), .val (.ref y2), .val (.int (1 : Int32)), .val (.int (1 : Int32))] []))
  refine Go.step (fun t k => XS.aloadN X_11.here hx rfl (hb hby d13_54) rfl rfl k) ?_
  show Go p.tables e below P (T_11.setTop (mkF m 55 #[.val (.ref a), .val (.ref y1), .val (.ref y2), .val (.int (1 : Int32)), .val (.int (1 : Int32))] [(.ref y1)]))
  refine Go.step (fun t k => XS.iloadN X_11.here hx rfl (hb hby d13_55) rfl  k) ?_
  show Go p.tables e below P (T_11.setTop (mkF m 56 #[.val (.ref a), .val (.ref y1), .val (.ref y2), .val (.int (1 : Int32)), .val (.int (1 : Int32))] [(.int (1 : Int32)), (.ref y1)]))
  have vq_13 := Vy1
  obtain ⟨cl_13, Ar_13, q_13, S_13, Nn_13, H_13, G_13⟩ := vq_13
  have hin_13 : ¬ ((1 : Int32) < 0 ∨ cl_13.slots.size ≤ ((1 : Int32)).toNatClampNeg) := inb_of S_13 ⟨by decide, by decide⟩
  have hat_13 : cl_13.slots[((1 : Int32)).toNatClampNeg]? = some (.double v1) := Has.at H_13 hin_13 rfl
  refine Go.step (fun t k => X_11.daload hx (j := (1 : Int32)) (v := (.double v1)) (by rw [eh_11]; exact Ar_13.1) (State.isArrayOf_alike hZ.alike Ar_13.2.1) Ar_13.2.2 hin_13 hat_13 (g := (mkF m 56 #[.val (.ref a), .val (.ref y1), .val (.ref y2), .val (.int (1 : Int32)), .val (.int (1 : Int32))] [(.int (1 : Int32)), (.ref y1)])) rfl rfl (hb hby d13_56) t k) ?_
  show Go p.tables e below P (T_11.setTop (mkF m 57 #[.val (.ref a), .val (.ref y1), .val (.ref y2), .val (.int (1 : Int32)), .val (.int (1 : Int32))] [(.double v1)]))
  refine Go.step (fun t k => XS.aloadN X_11.here hx rfl (hb hby d13_57) rfl rfl k) ?_
  show Go p.tables e below P (T_11.setTop (mkF m 58 #[.val (.ref a), .val (.ref y1), .val (.ref y2), .val (.int (1 : Int32)), .val (.int (1 : Int32))] [(.ref y1), (.double v1)]))
  refine Go.step (fun t k => XS.iloadN X_11.here hx rfl (hb hby d13_58) rfl  k) ?_
  show Go p.tables e below P (T_11.setTop (mkF m 59 #[.val (.ref a), .val (.ref y1), .val (.ref y2), .val (.int (1 : Int32)), .val (.int (1 : Int32))] [(.int (1 : Int32)), (.ref y1), (.double v1)]))
  refine Go.step (fun t k => XS.iconst X_11.here hx rfl (hb hby d13_59) k) ?_
  show Go p.tables e below P (T_11.setTop (mkF m 60 #[.val (.ref a), .val (.ref y1), .val (.ref y2), .val (.int (1 : Int32)), .val (.int (1 : Int32))] [(.int (1 : Int32)), (.int (1 : Int32)), (.ref y1), (.double v1)]))
  obtain ⟨pm, hpm⟩ : ∃ z : Int32, (1 : Int32) - (1 : Int32) = z := ⟨_, rfl⟩
  refine Go.step (fun t k => isub_v X_11.here hx rfl (hb hby d13_60) rfl  hpm k) ?_
  show Go p.tables e below P (T_11.setTop (mkF m 61 #[.val (.ref a), .val (.ref y1), .val (.ref y2), .val (.int (1 : Int32)), .val (.int (1 : Int32))] [(.int pm), (.ref y1), (.double v1)]))
  have ez_pm : pm = (0 : Int32) := by rw [← hpm]; rfl
  subst ez_pm
  show Go p.tables e below P (T_11.setTop (mkF m 61 #[.val (.ref a), .val (.ref y1), .val (.ref y2), .val (.int (1 : Int32)), .val (.int (1 : Int32))] [(.int (0 : Int32)), (.ref y1), (.double v1)]))
  have vq_14 := Vy1
  obtain ⟨cl_14, Ar_14, q_14, S_14, Nn_14, H_14, G_14⟩ := vq_14
  have hin_14 : ¬ ((0 : Int32) < 0 ∨ cl_14.slots.size ≤ ((0 : Int32)).toNatClampNeg) := inb_of S_14 ⟨by decide, by decide⟩
  have hat_14 : cl_14.slots[((0 : Int32)).toNatClampNeg]? = some (.double v0) := Has.at H_14 hin_14 rfl
  refine Go.step (fun t k => X_11.daload hx (j := (0 : Int32)) (v := (.double v0)) (by rw [eh_11]; exact Ar_14.1) (State.isArrayOf_alike hZ.alike Ar_14.2.1) Ar_14.2.2 hin_14 hat_14 (g := (mkF m 61 #[.val (.ref a), .val (.ref y1), .val (.ref y2), .val (.int (1 : Int32)), .val (.int (1 : Int32))] [(.int (0 : Int32)), (.ref y1), (.double v1)])) rfl rfl (hb hby d13_61) t k) ?_
  show Go p.tables e below P (T_11.setTop (mkF m 62 #[.val (.ref a), .val (.ref y1), .val (.ref y2), .val (.int (1 : Int32)), .val (.int (1 : Int32))] [(.double v0), (.double v1)]))
  refine Go.step (fun t k => XS.dcmpS X_11.here hx rfl (hb hby d13_62) rfl rfl k) ?_
  show Go p.tables e below P (T_11.setTop (mkF m 63 #[.val (.ref a), .val (.ref y1), .val (.ref y2), .val (.int (1 : Int32)), .val (.int (1 : Int32))] [(.int (cmpValue (FP.dcmp v1 v0) .l))]))
  refine Go.step (fun t k => XS.ifNo X_11.here hx rfl (hb hby d13_63) rfl (dcN (cd := .le) (DE.cmp q1 q0) (by omega : ¬ (z1 ≤ z0))) k) ?_
  show Go p.tables e below P (T_11.setTop (mkF m 66 #[.val (.ref a), .val (.ref y1), .val (.ref y2), .val (.int (1 : Int32)), .val (.int (1 : Int32))] []))
  refine Go.step (fun t k => XS.iconst X_11.here hx rfl (hb hby d13_66) k) ?_
  show Go p.tables e below P (T_11.setTop (mkF m 67 #[.val (.ref a), .val (.ref y1), .val (.ref y2), .val (.int (1 : Int32)), .val (.int (1 : Int32))] [(.int (1 : Int32))]))
  refine Go.step (fun t k => XS.goto X_11.here hx rfl (pc0 := 67) (pc' := 71) rfl (hb hby d13_67) (by decide) (by decide) k) ?_
  show Go p.tables e below P (T_11.setTop (mkF m 71 #[.val (.ref a), .val (.ref y1), .val (.ref y2), .val (.int (1 : Int32)), .val (.int (1 : Int32))] [(.int (1 : Int32))]))
  refine Go.step (fun t k => XS.istore X_11.here hx rfl (hb hby d13_71) rfl (l' := #[.val (.ref a), .val (.ref y1), .val (.ref y2), .val (.int (1 : Int32)), .val (.int (1 : Int32))]) rfl k) ?_
  show Go p.tables e below P (T_11.setTop (mkF m 73 #[.val (.ref a), .val (.ref y1), .val (.ref y2), .val (.int (1 : Int32)), .val (.int (1 : Int32))] []))
  refine Go.step (fun t k => XS.iload X_11.here hx rfl (hb hby d13_73) rfl  k) ?_
  show Go p.tables e below P (T_11.setTop (mkF m 75 #[.val (.ref a), .val (.ref y1), .val (.ref y2), .val (.int (1 : Int32)), .val (.int (1 : Int32))] [(.int (1 : Int32))]))
  refine Go.step (fun t k => XS.ifNo X_11.here hx rfl (hb hby d13_75) rfl (ifN (cd := .eq) (by decide : ¬ ((1 : Int) = 0))) k) ?_
  show Go p.tables e below P (T_11.setTop (mkF m 78 #[.val (.ref a), .val (.ref y1), .val (.ref y2), .val (.int (1 : Int32)), .val (.int (1 : Int32))] []))
  refine Go.step (fun t k => XS.aloadN X_11.here hx rfl (hb hby d13_78) rfl rfl k) ?_
  show Go p.tables e below P (T_11.setTop (mkF m 79 #[.val (.ref a), .val (.ref y1), .val (.ref y2), .val (.int (1 : Int32)), .val (.int (1 : Int32))] [(.ref y1)]))
  refine Go.step (fun t k => XS.iloadN X_11.here hx rfl (hb hby d13_79) rfl  k) ?_
  show Go p.tables e below P (T_11.setTop (mkF m 80 #[.val (.ref a), .val (.ref y1), .val (.ref y2), .val (.int (1 : Int32)), .val (.int (1 : Int32))] [(.int (1 : Int32)), (.ref y1)]))
  have vq_15 := Vy1
  obtain ⟨cl_15, Ar_15, q_15, S_15, Nn_15, H_15, G_15⟩ := vq_15
  have hin_15 : ¬ ((1 : Int32) < 0 ∨ cl_15.slots.size ≤ ((1 : Int32)).toNatClampNeg) := inb_of S_15 ⟨by decide, by decide⟩
  have hat_15 : cl_15.slots[((1 : Int32)).toNatClampNeg]? = some (.double v1) := Has.at H_15 hin_15 rfl
  refine Go.step (fun t k => X_11.daload hx (j := (1 : Int32)) (v := (.double v1)) (by rw [eh_11]; exact Ar_15.1) (State.isArrayOf_alike hZ.alike Ar_15.2.1) Ar_15.2.2 hin_15 hat_15 (g := (mkF m 80 #[.val (.ref a), .val (.ref y1), .val (.ref y2), .val (.int (1 : Int32)), .val (.int (1 : Int32))] [(.int (1 : Int32)), (.ref y1)])) rfl rfl (hb hby d13_80) t k) ?_
  show Go p.tables e below P (T_11.setTop (mkF m 81 #[.val (.ref a), .val (.ref y1), .val (.ref y2), .val (.int (1 : Int32)), .val (.int (1 : Int32))] [(.double v1)]))
  obtain ⟨_, _, ⟨T_16, L_16, k_16, n_16⟩, -, X_16, ⟨Lc_16, hQ_16, l_16, y_16, z_16⟩, st_16⟩ := Jvm.LawKit.callS X_11 hx (y := (⟨"java/lang/Double", "isFinite", "(D)Z"⟩ : MethodName)) hown (mvT hZ (hw _ (List.mem_of_getElem? (i := 13) rfl))) (mvT hZ (hw _ (List.mem_of_getElem? (i := 14) rfl))) (mvT hZ (hw _ (List.mem_of_getElem? (i := 15) rfl))) (mvT hZ (hw _ (List.mem_of_getElem? (i := 16) rfl))) (by decide) (backOf (W := 0) (rm1 l Z a0 hw [] v1 h0 n0 Z0 q1.1) hZ (hw _ (List.mem_of_getElem? (i := 16) rfl)) (hw _ (List.mem_of_getElem? (i := 15) rfl)) (by decide) (by decide)) (g := (mkF m 81 #[.val (.ref a), .val (.ref y1), .val (.ref y2), .val (.int (1 : Int32)), .val (.int (1 : Int32))] [(.double v1)])) rfl (by rw [hml]; rfl) (argsL := [(.double v1)]) (rest := []) (lenOf pd_1 rfl) rfl (by show 2 * 0 + _ ≤ _; exact Nat.le_of_eq rfl) (hb hby d13_81) (fun _ _ => ⟨rfl, eh_11, (by decide : 0 + 0 ≤ _), (by decide : 0 + 0 ≤ _)⟩)
  dsimp only [Pt.U, Pt.locs, Pt.cells, Pt.slots] at X_16 l_16 y_16 z_16 st_16 hQ_16
  subst l_16 y_16 z_16
  obtain ⟨rfl, N_16q, eh_16⟩ := hQ_16
  have N_16 := Fr.app N_11 N_16q
  refine Go.step (fun t k => st_16 t k) ?_
  show Go p.tables e below P (T_16.setTop (mkF m 84 #[.val (.ref a), .val (.ref y1), .val (.ref y2), .val (.int (1 : Int32)), .val (.int (1 : Int32))] [(.int (1 : Int32))]))
  refine Go.step (fun t k => XS.ifYes X_16.here hx rfl (pc0 := 84) (pc' := 97) rfl (hb hby d13_84) rfl (ifY (cd := .ne) (by decide : ¬ (1 : Int) = 0)) (by decide) (by decide) k) ?_
  show Go p.tables e below P (T_16.setTop (mkF m 97 #[.val (.ref a), .val (.ref y1), .val (.ref y2), .val (.int (1 : Int32)), .val (.int (1 : Int32))] []))
  refine Go.step (fun t k => XS.aloadN X_16.here hx rfl (hb hby d13_97) rfl rfl k) ?_
  show Go p.tables e below P (T_16.setTop (mkF m 98 #[.val (.ref a), .val (.ref y1), .val (.ref y2), .val (.int (1 : Int32)), .val (.int (1 : Int32))] [(.ref y2)]))
  refine Go.step (fun t k => XS.iloadN X_16.here hx rfl (hb hby d13_98) rfl  k) ?_
  show Go p.tables e below P (T_16.setTop (mkF m 99 #[.val (.ref a), .val (.ref y1), .val (.ref y2), .val (.int (1 : Int32)), .val (.int (1 : Int32))] [(.int (1 : Int32)), (.ref y2)]))
  have vq_17 := Vy2
  obtain ⟨cl_17, Ar_17, q_17, S_17, Nn_17, H_17, G_17⟩ := vq_17
  have hin_17 : ¬ ((1 : Int32) < 0 ∨ cl_17.slots.size ≤ ((1 : Int32)).toNatClampNeg) := inb_of S_17 ⟨by decide, by decide⟩
  have hat_17 : cl_17.slots[((1 : Int32)).toNatClampNeg]? = some (.double fv) := Has.at H_17 hin_17 rfl
  refine Go.step (fun t k => X_16.daload hx (j := (1 : Int32)) (v := (.double fv)) (by rw [eh_16]; exact Ar_17.1) (State.isArrayOf_alike hZ.alike Ar_17.2.1) Ar_17.2.2 hin_17 hat_17 (g := (mkF m 99 #[.val (.ref a), .val (.ref y1), .val (.ref y2), .val (.int (1 : Int32)), .val (.int (1 : Int32))] [(.int (1 : Int32)), (.ref y2)])) rfl rfl (hb hby d13_99) t k) ?_
  show Go p.tables e below P (T_16.setTop (mkF m 100 #[.val (.ref a), .val (.ref y1), .val (.ref y2), .val (.int (1 : Int32)), .val (.int (1 : Int32))] [(.double fv)]))
  refine Go.step (fun t k => XS.dconst0 X_16.here hx rfl (hb hby d13_100) rfl k) ?_
  show Go p.tables e below P (T_16.setTop (mkF m 101 #[.val (.ref a), .val (.ref y1), .val (.ref y2), .val (.int (1 : Int32)), .val (.int (1 : Int32))] [(.double FP.dconst0), (.double fv)]))
  refine Go.step (fun t k => XS.dcmpS X_16.here hx rfl (hb hby d13_101) rfl rfl k) ?_
  show Go p.tables e below P (T_16.setTop (mkF m 102 #[.val (.ref a), .val (.ref y1), .val (.ref y2), .val (.int (1 : Int32)), .val (.int (1 : Int32))] [(.int (cmpValue (FP.dcmp fv FP.dconst0) .l))]))
  refine Go.step (fun t k => XS.ifNo X_16.here hx rfl (hb hby d13_102) rfl (dcN (cd := .lt) (DE.cmp qf (zero_e 1074)) (by omega : ¬ (zf < 0))) k) ?_
  show Go p.tables e below P (T_16.setTop (mkF m 105 #[.val (.ref a), .val (.ref y1), .val (.ref y2), .val (.int (1 : Int32)), .val (.int (1 : Int32))] []))
  refine Go.step (fun t k => XS.aloadN X_16.here hx rfl (hb hby d13_105) rfl rfl k) ?_
  show Go p.tables e below P (T_16.setTop (mkF m 106 #[.val (.ref a), .val (.ref y1), .val (.ref y2), .val (.int (1 : Int32)), .val (.int (1 : Int32))] [(.ref y2)]))
  refine Go.step (fun t k => XS.iloadN X_16.here hx rfl (hb hby d13_106) rfl  k) ?_
  show Go p.tables e below P (T_16.setTop (mkF m 107 #[.val (.ref a), .val (.ref y1), .val (.ref y2), .val (.int (1 : Int32)), .val (.int (1 : Int32))] [(.int (1 : Int32)), (.ref y2)]))
  have vq_18 := Vy2
  obtain ⟨cl_18, Ar_18, q_18, S_18, Nn_18, H_18, G_18⟩ := vq_18
  have hin_18 : ¬ ((1 : Int32) < 0 ∨ cl_18.slots.size ≤ ((1 : Int32)).toNatClampNeg) := inb_of S_18 ⟨by decide, by decide⟩
  have hat_18 : cl_18.slots[((1 : Int32)).toNatClampNeg]? = some (.double fv) := Has.at H_18 hin_18 rfl
  refine Go.step (fun t k => X_16.daload hx (j := (1 : Int32)) (v := (.double fv)) (by rw [eh_16]; exact Ar_18.1) (State.isArrayOf_alike hZ.alike Ar_18.2.1) Ar_18.2.2 hin_18 hat_18 (g := (mkF m 107 #[.val (.ref a), .val (.ref y1), .val (.ref y2), .val (.int (1 : Int32)), .val (.int (1 : Int32))] [(.int (1 : Int32)), (.ref y2)])) rfl rfl (hb hby d13_107) t k) ?_
  show Go p.tables e below P (T_16.setTop (mkF m 108 #[.val (.ref a), .val (.ref y1), .val (.ref y2), .val (.int (1 : Int32)), .val (.int (1 : Int32))] [(.double fv)]))
  obtain ⟨_, _, ⟨T_19, L_19, k_19, n_19⟩, -, X_19, ⟨Lc_19, hQ_19, l_19, y_19, z_19⟩, st_19⟩ := Jvm.LawKit.callS X_16 hx (y := (⟨"java/lang/Double", "isFinite", "(D)Z"⟩ : MethodName)) hown (mvT hZ (hw _ (List.mem_of_getElem? (i := 13) rfl))) (mvT hZ (hw _ (List.mem_of_getElem? (i := 14) rfl))) (mvT hZ (hw _ (List.mem_of_getElem? (i := 15) rfl))) (mvT hZ (hw _ (List.mem_of_getElem? (i := 16) rfl))) (by decide) (backOf (W := 0) (rm1 l Z a0 hw [] fv h0 n0 Z0 qf.1) hZ (hw _ (List.mem_of_getElem? (i := 16) rfl)) (hw _ (List.mem_of_getElem? (i := 15) rfl)) (by decide) (by decide)) (g := (mkF m 108 #[.val (.ref a), .val (.ref y1), .val (.ref y2), .val (.int (1 : Int32)), .val (.int (1 : Int32))] [(.double fv)])) rfl (by rw [hml]; rfl) (argsL := [(.double fv)]) (rest := []) (lenOf pd_1 rfl) rfl (by show 2 * 0 + _ ≤ _; exact Nat.le_of_eq rfl) (hb hby d13_108) (fun _ _ => ⟨rfl, eh_16, (by decide : 0 + 0 ≤ _), (by decide : 0 + 0 ≤ _)⟩)
  dsimp only [Pt.U, Pt.locs, Pt.cells, Pt.slots] at X_19 l_19 y_19 z_19 st_19 hQ_19
  subst l_19 y_19 z_19
  obtain ⟨rfl, N_19q, eh_19⟩ := hQ_19
  have N_19 := Fr.app N_16 N_19q
  refine Go.step (fun t k => st_19 t k) ?_
  show Go p.tables e below P (T_19.setTop (mkF m 111 #[.val (.ref a), .val (.ref y1), .val (.ref y2), .val (.int (1 : Int32)), .val (.int (1 : Int32))] [(.int (1 : Int32))]))
  refine Go.step (fun t k => XS.ifYes X_19.here hx rfl (pc0 := 111) (pc' := 124) rfl (hb hby d13_111) rfl (ifY (cd := .ne) (by decide : ¬ (1 : Int) = 0)) (by decide) (by decide) k) ?_
  show Go p.tables e below P (T_19.setTop (mkF m 124 #[.val (.ref a), .val (.ref y1), .val (.ref y2), .val (.int (1 : Int32)), .val (.int (1 : Int32))] []))
  obtain ⟨ni, hni⟩ : ∃ z : Int32, (1 : Int32) + (1 : Int32) = z := ⟨_, rfl⟩
  refine Go.step (fun t k => XS.iinc X_19.here hx rfl (hb hby d13_124) rfl (l' := #[.val (.ref a), .val (.ref y1), .val (.ref y2), .val (.int ((1 : Int32) + (1 : Int32))), .val (.int (1 : Int32))]) rfl k) ?_
  show Go p.tables e below P (T_19.setTop (mkF m 127 #[.val (.ref a), .val (.ref y1), .val (.ref y2), .val (.int ((1 : Int32) + (1 : Int32))), .val (.int (1 : Int32))] []))
  rw [hni]
  show Go p.tables e below P (T_19.setTop (mkF m 127 #[.val (.ref a), .val (.ref y1), .val (.ref y2), .val (.int ni), .val (.int (1 : Int32))] []))
  have ez_ni : ni = (2 : Int32) := by rw [← hni]; rfl
  subst ez_ni
  show Go p.tables e below P (T_19.setTop (mkF m 127 #[.val (.ref a), .val (.ref y1), .val (.ref y2), .val (.int (2 : Int32)), .val (.int (1 : Int32))] []))
  refine Go.step (fun t k => XS.goto X_19.here hx rfl (pc0 := 127) (pc' := 28) rfl (hb hby d13_127) (by decide) (by decide) k) ?_
  show Go p.tables e below P (T_19.setTop (mkF m 28 #[.val (.ref a), .val (.ref y1), .val (.ref y2), .val (.int (2 : Int32)), .val (.int (1 : Int32))] []))
  refine Go.step (fun t k => XS.iloadN X_19.here hx rfl (hb hby d13_28) rfl  k) ?_
  show Go p.tables e below P (T_19.setTop (mkF m 29 #[.val (.ref a), .val (.ref y1), .val (.ref y2), .val (.int (2 : Int32)), .val (.int (1 : Int32))] [(.int (2 : Int32))]))
  refine Go.step (fun t k => XS.aloadN X_19.here hx rfl (hb hby d13_29) rfl rfl k) ?_
  show Go p.tables e below P (T_19.setTop (mkF m 30 #[.val (.ref a), .val (.ref y1), .val (.ref y2), .val (.int (2 : Int32)), .val (.int (1 : Int32))] [(.ref y1), (.int (2 : Int32))]))
  have vq_20 := Vy1
  obtain ⟨cl_20, Ar_20, q_20, S_20, Nn_20, H_20, G_20⟩ := vq_20
  refine Go.step (fun t k => X_19.arraylength hx (by rw [eh_19]; exact Ar_20.1) (State.isArrayOf_alike hZ.alike Ar_20.2.1) (g := (mkF m 30 #[.val (.ref a), .val (.ref y1), .val (.ref y2), .val (.int (2 : Int32)), .val (.int (1 : Int32))] [(.ref y1), (.int (2 : Int32))])) rfl rfl (hb hby d13_30) t k) ?_
  rw [len_of S_20 Nn_20]
  show Go p.tables e below P (T_19.setTop (mkF m 31 #[.val (.ref a), .val (.ref y1), .val (.ref y2), .val (.int (2 : Int32)), .val (.int (1 : Int32))] [(.int (3 : Int32)), (.int (2 : Int32))]))
  refine Go.step (fun t k => XS.icmpNo X_19.here hx rfl (hb hby d13_31) rfl (icN (cd := .ge) (by decide : ¬ ((3 : Int) ≤ (2 : Int)))) k) ?_
  show Go p.tables e below P (T_19.setTop (mkF m 34 #[.val (.ref a), .val (.ref y1), .val (.ref y2), .val (.int (2 : Int32)), .val (.int (1 : Int32))] []))
  refine Go.step (fun t k => XS.iloadN X_19.here hx rfl (hb hby d13_34) rfl  k) ?_
  show Go p.tables e below P (T_19.setTop (mkF m 35 #[.val (.ref a), .val (.ref y1), .val (.ref y2), .val (.int (2 : Int32)), .val (.int (1 : Int32))] [(.int (2 : Int32))]))
  refine Go.step (fun t k => XS.ifYes X_19.here hx rfl (pc0 := 35) (pc' := 54) rfl (hb hby d13_35) rfl (ifY (cd := .ne) (by decide : ¬ (2 : Int) = 0)) (by decide) (by decide) k) ?_
  show Go p.tables e below P (T_19.setTop (mkF m 54 #[.val (.ref a), .val (.ref y1), .val (.ref y2), .val (.int (2 : Int32)), .val (.int (1 : Int32))] []))
  refine Go.step (fun t k => XS.aloadN X_19.here hx rfl (hb hby d13_54) rfl rfl k) ?_
  show Go p.tables e below P (T_19.setTop (mkF m 55 #[.val (.ref a), .val (.ref y1), .val (.ref y2), .val (.int (2 : Int32)), .val (.int (1 : Int32))] [(.ref y1)]))
  refine Go.step (fun t k => XS.iloadN X_19.here hx rfl (hb hby d13_55) rfl  k) ?_
  show Go p.tables e below P (T_19.setTop (mkF m 56 #[.val (.ref a), .val (.ref y1), .val (.ref y2), .val (.int (2 : Int32)), .val (.int (1 : Int32))] [(.int (2 : Int32)), (.ref y1)]))
  have vq_21 := Vy1
  obtain ⟨cl_21, Ar_21, q_21, S_21, Nn_21, H_21, G_21⟩ := vq_21
  have hin_21 : ¬ ((2 : Int32) < 0 ∨ cl_21.slots.size ≤ ((2 : Int32)).toNatClampNeg) := inb_of S_21 ⟨by decide, by decide⟩
  have hat_21 : cl_21.slots[((2 : Int32)).toNatClampNeg]? = some (.double v2) := Has.at H_21 hin_21 rfl
  refine Go.step (fun t k => X_19.daload hx (j := (2 : Int32)) (v := (.double v2)) (by rw [eh_19]; exact Ar_21.1) (State.isArrayOf_alike hZ.alike Ar_21.2.1) Ar_21.2.2 hin_21 hat_21 (g := (mkF m 56 #[.val (.ref a), .val (.ref y1), .val (.ref y2), .val (.int (2 : Int32)), .val (.int (1 : Int32))] [(.int (2 : Int32)), (.ref y1)])) rfl rfl (hb hby d13_56) t k) ?_
  show Go p.tables e below P (T_19.setTop (mkF m 57 #[.val (.ref a), .val (.ref y1), .val (.ref y2), .val (.int (2 : Int32)), .val (.int (1 : Int32))] [(.double v2)]))
  refine Go.step (fun t k => XS.aloadN X_19.here hx rfl (hb hby d13_57) rfl rfl k) ?_
  show Go p.tables e below P (T_19.setTop (mkF m 58 #[.val (.ref a), .val (.ref y1), .val (.ref y2), .val (.int (2 : Int32)), .val (.int (1 : Int32))] [(.ref y1), (.double v2)]))
  refine Go.step (fun t k => XS.iloadN X_19.here hx rfl (hb hby d13_58) rfl  k) ?_
  show Go p.tables e below P (T_19.setTop (mkF m 59 #[.val (.ref a), .val (.ref y1), .val (.ref y2), .val (.int (2 : Int32)), .val (.int (1 : Int32))] [(.int (2 : Int32)), (.ref y1), (.double v2)]))
  refine Go.step (fun t k => XS.iconst X_19.here hx rfl (hb hby d13_59) k) ?_
  show Go p.tables e below P (T_19.setTop (mkF m 60 #[.val (.ref a), .val (.ref y1), .val (.ref y2), .val (.int (2 : Int32)), .val (.int (1 : Int32))] [(.int (1 : Int32)), (.int (2 : Int32)), (.ref y1), (.double v2)]))
  obtain ⟨pm, hpm⟩ : ∃ z : Int32, (2 : Int32) - (1 : Int32) = z := ⟨_, rfl⟩
  refine Go.step (fun t k => isub_v X_19.here hx rfl (hb hby d13_60) rfl  hpm k) ?_
  show Go p.tables e below P (T_19.setTop (mkF m 61 #[.val (.ref a), .val (.ref y1), .val (.ref y2), .val (.int (2 : Int32)), .val (.int (1 : Int32))] [(.int pm), (.ref y1), (.double v2)]))
  have ez_pm : pm = (1 : Int32) := by rw [← hpm]; rfl
  subst ez_pm
  show Go p.tables e below P (T_19.setTop (mkF m 61 #[.val (.ref a), .val (.ref y1), .val (.ref y2), .val (.int (2 : Int32)), .val (.int (1 : Int32))] [(.int (1 : Int32)), (.ref y1), (.double v2)]))
  have vq_22 := Vy1
  obtain ⟨cl_22, Ar_22, q_22, S_22, Nn_22, H_22, G_22⟩ := vq_22
  have hin_22 : ¬ ((1 : Int32) < 0 ∨ cl_22.slots.size ≤ ((1 : Int32)).toNatClampNeg) := inb_of S_22 ⟨by decide, by decide⟩
  have hat_22 : cl_22.slots[((1 : Int32)).toNatClampNeg]? = some (.double v1) := Has.at H_22 hin_22 rfl
  refine Go.step (fun t k => X_19.daload hx (j := (1 : Int32)) (v := (.double v1)) (by rw [eh_19]; exact Ar_22.1) (State.isArrayOf_alike hZ.alike Ar_22.2.1) Ar_22.2.2 hin_22 hat_22 (g := (mkF m 61 #[.val (.ref a), .val (.ref y1), .val (.ref y2), .val (.int (2 : Int32)), .val (.int (1 : Int32))] [(.int (1 : Int32)), (.ref y1), (.double v2)])) rfl rfl (hb hby d13_61) t k) ?_
  show Go p.tables e below P (T_19.setTop (mkF m 62 #[.val (.ref a), .val (.ref y1), .val (.ref y2), .val (.int (2 : Int32)), .val (.int (1 : Int32))] [(.double v1), (.double v2)]))
  refine Go.step (fun t k => XS.dcmpS X_19.here hx rfl (hb hby d13_62) rfl rfl k) ?_
  show Go p.tables e below P (T_19.setTop (mkF m 63 #[.val (.ref a), .val (.ref y1), .val (.ref y2), .val (.int (2 : Int32)), .val (.int (1 : Int32))] [(.int (cmpValue (FP.dcmp v2 v1) .l))]))
  refine Go.step (fun t k => XS.ifNo X_19.here hx rfl (hb hby d13_63) rfl (dcN (cd := .le) (DE.cmp q2 q1) (by omega : ¬ (z2 ≤ z1))) k) ?_
  show Go p.tables e below P (T_19.setTop (mkF m 66 #[.val (.ref a), .val (.ref y1), .val (.ref y2), .val (.int (2 : Int32)), .val (.int (1 : Int32))] []))
  refine Go.step (fun t k => XS.iconst X_19.here hx rfl (hb hby d13_66) k) ?_
  show Go p.tables e below P (T_19.setTop (mkF m 67 #[.val (.ref a), .val (.ref y1), .val (.ref y2), .val (.int (2 : Int32)), .val (.int (1 : Int32))] [(.int (1 : Int32))]))
  refine Go.step (fun t k => XS.goto X_19.here hx rfl (pc0 := 67) (pc' := 71) rfl (hb hby d13_67) (by decide) (by decide) k) ?_
  show Go p.tables e below P (T_19.setTop (mkF m 71 #[.val (.ref a), .val (.ref y1), .val (.ref y2), .val (.int (2 : Int32)), .val (.int (1 : Int32))] [(.int (1 : Int32))]))
  refine Go.step (fun t k => XS.istore X_19.here hx rfl (hb hby d13_71) rfl (l' := #[.val (.ref a), .val (.ref y1), .val (.ref y2), .val (.int (2 : Int32)), .val (.int (1 : Int32))]) rfl k) ?_
  show Go p.tables e below P (T_19.setTop (mkF m 73 #[.val (.ref a), .val (.ref y1), .val (.ref y2), .val (.int (2 : Int32)), .val (.int (1 : Int32))] []))
  refine Go.step (fun t k => XS.iload X_19.here hx rfl (hb hby d13_73) rfl  k) ?_
  show Go p.tables e below P (T_19.setTop (mkF m 75 #[.val (.ref a), .val (.ref y1), .val (.ref y2), .val (.int (2 : Int32)), .val (.int (1 : Int32))] [(.int (1 : Int32))]))
  refine Go.step (fun t k => XS.ifNo X_19.here hx rfl (hb hby d13_75) rfl (ifN (cd := .eq) (by decide : ¬ ((1 : Int) = 0))) k) ?_
  show Go p.tables e below P (T_19.setTop (mkF m 78 #[.val (.ref a), .val (.ref y1), .val (.ref y2), .val (.int (2 : Int32)), .val (.int (1 : Int32))] []))
  refine Go.step (fun t k => XS.aloadN X_19.here hx rfl (hb hby d13_78) rfl rfl k) ?_
  show Go p.tables e below P (T_19.setTop (mkF m 79 #[.val (.ref a), .val (.ref y1), .val (.ref y2), .val (.int (2 : Int32)), .val (.int (1 : Int32))] [(.ref y1)]))
  refine Go.step (fun t k => XS.iloadN X_19.here hx rfl (hb hby d13_79) rfl  k) ?_
  show Go p.tables e below P (T_19.setTop (mkF m 80 #[.val (.ref a), .val (.ref y1), .val (.ref y2), .val (.int (2 : Int32)), .val (.int (1 : Int32))] [(.int (2 : Int32)), (.ref y1)]))
  have vq_23 := Vy1
  obtain ⟨cl_23, Ar_23, q_23, S_23, Nn_23, H_23, G_23⟩ := vq_23
  have hin_23 : ¬ ((2 : Int32) < 0 ∨ cl_23.slots.size ≤ ((2 : Int32)).toNatClampNeg) := inb_of S_23 ⟨by decide, by decide⟩
  have hat_23 : cl_23.slots[((2 : Int32)).toNatClampNeg]? = some (.double v2) := Has.at H_23 hin_23 rfl
  refine Go.step (fun t k => X_19.daload hx (j := (2 : Int32)) (v := (.double v2)) (by rw [eh_19]; exact Ar_23.1) (State.isArrayOf_alike hZ.alike Ar_23.2.1) Ar_23.2.2 hin_23 hat_23 (g := (mkF m 80 #[.val (.ref a), .val (.ref y1), .val (.ref y2), .val (.int (2 : Int32)), .val (.int (1 : Int32))] [(.int (2 : Int32)), (.ref y1)])) rfl rfl (hb hby d13_80) t k) ?_
  show Go p.tables e below P (T_19.setTop (mkF m 81 #[.val (.ref a), .val (.ref y1), .val (.ref y2), .val (.int (2 : Int32)), .val (.int (1 : Int32))] [(.double v2)]))
  obtain ⟨_, _, ⟨T_24, L_24, k_24, n_24⟩, -, X_24, ⟨Lc_24, hQ_24, l_24, y_24, z_24⟩, st_24⟩ := Jvm.LawKit.callS X_19 hx (y := (⟨"java/lang/Double", "isFinite", "(D)Z"⟩ : MethodName)) hown (mvT hZ (hw _ (List.mem_of_getElem? (i := 13) rfl))) (mvT hZ (hw _ (List.mem_of_getElem? (i := 14) rfl))) (mvT hZ (hw _ (List.mem_of_getElem? (i := 15) rfl))) (mvT hZ (hw _ (List.mem_of_getElem? (i := 16) rfl))) (by decide) (backOf (W := 0) (rm1 l Z a0 hw [] v2 h0 n0 Z0 q2.1) hZ (hw _ (List.mem_of_getElem? (i := 16) rfl)) (hw _ (List.mem_of_getElem? (i := 15) rfl)) (by decide) (by decide)) (g := (mkF m 81 #[.val (.ref a), .val (.ref y1), .val (.ref y2), .val (.int (2 : Int32)), .val (.int (1 : Int32))] [(.double v2)])) rfl (by rw [hml]; rfl) (argsL := [(.double v2)]) (rest := []) (lenOf pd_1 rfl) rfl (by show 2 * 0 + _ ≤ _; exact Nat.le_of_eq rfl) (hb hby d13_81) (fun _ _ => ⟨rfl, eh_19, (by decide : 0 + 0 ≤ _), (by decide : 0 + 0 ≤ _)⟩)
  dsimp only [Pt.U, Pt.locs, Pt.cells, Pt.slots] at X_24 l_24 y_24 z_24 st_24 hQ_24
  subst l_24 y_24 z_24
  obtain ⟨rfl, N_24q, eh_24⟩ := hQ_24
  have N_24 := Fr.app N_19 N_24q
  refine Go.step (fun t k => st_24 t k) ?_
  show Go p.tables e below P (T_24.setTop (mkF m 84 #[.val (.ref a), .val (.ref y1), .val (.ref y2), .val (.int (2 : Int32)), .val (.int (1 : Int32))] [(.int (1 : Int32))]))
  refine Go.step (fun t k => XS.ifYes X_24.here hx rfl (pc0 := 84) (pc' := 97) rfl (hb hby d13_84) rfl (ifY (cd := .ne) (by decide : ¬ (1 : Int) = 0)) (by decide) (by decide) k) ?_
  show Go p.tables e below P (T_24.setTop (mkF m 97 #[.val (.ref a), .val (.ref y1), .val (.ref y2), .val (.int (2 : Int32)), .val (.int (1 : Int32))] []))
  refine Go.step (fun t k => XS.aloadN X_24.here hx rfl (hb hby d13_97) rfl rfl k) ?_
  show Go p.tables e below P (T_24.setTop (mkF m 98 #[.val (.ref a), .val (.ref y1), .val (.ref y2), .val (.int (2 : Int32)), .val (.int (1 : Int32))] [(.ref y2)]))
  refine Go.step (fun t k => XS.iloadN X_24.here hx rfl (hb hby d13_98) rfl  k) ?_
  show Go p.tables e below P (T_24.setTop (mkF m 99 #[.val (.ref a), .val (.ref y1), .val (.ref y2), .val (.int (2 : Int32)), .val (.int (1 : Int32))] [(.int (2 : Int32)), (.ref y2)]))
  have vq_25 := Vy2
  obtain ⟨cl_25, Ar_25, q_25, S_25, Nn_25, H_25, G_25⟩ := vq_25
  have hin_25 : ¬ ((2 : Int32) < 0 ∨ cl_25.slots.size ≤ ((2 : Int32)).toNatClampNeg) := inb_of S_25 ⟨by decide, by decide⟩
  have hat_25 : cl_25.slots[((2 : Int32)).toNatClampNeg]? = some (.double fv) := Has.at H_25 hin_25 rfl
  refine Go.step (fun t k => X_24.daload hx (j := (2 : Int32)) (v := (.double fv)) (by rw [eh_24]; exact Ar_25.1) (State.isArrayOf_alike hZ.alike Ar_25.2.1) Ar_25.2.2 hin_25 hat_25 (g := (mkF m 99 #[.val (.ref a), .val (.ref y1), .val (.ref y2), .val (.int (2 : Int32)), .val (.int (1 : Int32))] [(.int (2 : Int32)), (.ref y2)])) rfl rfl (hb hby d13_99) t k) ?_
  show Go p.tables e below P (T_24.setTop (mkF m 100 #[.val (.ref a), .val (.ref y1), .val (.ref y2), .val (.int (2 : Int32)), .val (.int (1 : Int32))] [(.double fv)]))
  refine Go.step (fun t k => XS.dconst0 X_24.here hx rfl (hb hby d13_100) rfl k) ?_
  show Go p.tables e below P (T_24.setTop (mkF m 101 #[.val (.ref a), .val (.ref y1), .val (.ref y2), .val (.int (2 : Int32)), .val (.int (1 : Int32))] [(.double FP.dconst0), (.double fv)]))
  refine Go.step (fun t k => XS.dcmpS X_24.here hx rfl (hb hby d13_101) rfl rfl k) ?_
  show Go p.tables e below P (T_24.setTop (mkF m 102 #[.val (.ref a), .val (.ref y1), .val (.ref y2), .val (.int (2 : Int32)), .val (.int (1 : Int32))] [(.int (cmpValue (FP.dcmp fv FP.dconst0) .l))]))
  refine Go.step (fun t k => XS.ifNo X_24.here hx rfl (hb hby d13_102) rfl (dcN (cd := .lt) (DE.cmp qf (zero_e 1074)) (by omega : ¬ (zf < 0))) k) ?_
  show Go p.tables e below P (T_24.setTop (mkF m 105 #[.val (.ref a), .val (.ref y1), .val (.ref y2), .val (.int (2 : Int32)), .val (.int (1 : Int32))] []))
  refine Go.step (fun t k => XS.aloadN X_24.here hx rfl (hb hby d13_105) rfl rfl k) ?_
  show Go p.tables e below P (T_24.setTop (mkF m 106 #[.val (.ref a), .val (.ref y1), .val (.ref y2), .val (.int (2 : Int32)), .val (.int (1 : Int32))] [(.ref y2)]))
  refine Go.step (fun t k => XS.iloadN X_24.here hx rfl (hb hby d13_106) rfl  k) ?_
  show Go p.tables e below P (T_24.setTop (mkF m 107 #[.val (.ref a), .val (.ref y1), .val (.ref y2), .val (.int (2 : Int32)), .val (.int (1 : Int32))] [(.int (2 : Int32)), (.ref y2)]))
  have vq_26 := Vy2
  obtain ⟨cl_26, Ar_26, q_26, S_26, Nn_26, H_26, G_26⟩ := vq_26
  have hin_26 : ¬ ((2 : Int32) < 0 ∨ cl_26.slots.size ≤ ((2 : Int32)).toNatClampNeg) := inb_of S_26 ⟨by decide, by decide⟩
  have hat_26 : cl_26.slots[((2 : Int32)).toNatClampNeg]? = some (.double fv) := Has.at H_26 hin_26 rfl
  refine Go.step (fun t k => X_24.daload hx (j := (2 : Int32)) (v := (.double fv)) (by rw [eh_24]; exact Ar_26.1) (State.isArrayOf_alike hZ.alike Ar_26.2.1) Ar_26.2.2 hin_26 hat_26 (g := (mkF m 107 #[.val (.ref a), .val (.ref y1), .val (.ref y2), .val (.int (2 : Int32)), .val (.int (1 : Int32))] [(.int (2 : Int32)), (.ref y2)])) rfl rfl (hb hby d13_107) t k) ?_
  show Go p.tables e below P (T_24.setTop (mkF m 108 #[.val (.ref a), .val (.ref y1), .val (.ref y2), .val (.int (2 : Int32)), .val (.int (1 : Int32))] [(.double fv)]))
  obtain ⟨_, _, ⟨T_27, L_27, k_27, n_27⟩, -, X_27, ⟨Lc_27, hQ_27, l_27, y_27, z_27⟩, st_27⟩ := Jvm.LawKit.callS X_24 hx (y := (⟨"java/lang/Double", "isFinite", "(D)Z"⟩ : MethodName)) hown (mvT hZ (hw _ (List.mem_of_getElem? (i := 13) rfl))) (mvT hZ (hw _ (List.mem_of_getElem? (i := 14) rfl))) (mvT hZ (hw _ (List.mem_of_getElem? (i := 15) rfl))) (mvT hZ (hw _ (List.mem_of_getElem? (i := 16) rfl))) (by decide) (backOf (W := 0) (rm1 l Z a0 hw [] fv h0 n0 Z0 qf.1) hZ (hw _ (List.mem_of_getElem? (i := 16) rfl)) (hw _ (List.mem_of_getElem? (i := 15) rfl)) (by decide) (by decide)) (g := (mkF m 108 #[.val (.ref a), .val (.ref y1), .val (.ref y2), .val (.int (2 : Int32)), .val (.int (1 : Int32))] [(.double fv)])) rfl (by rw [hml]; rfl) (argsL := [(.double fv)]) (rest := []) (lenOf pd_1 rfl) rfl (by show 2 * 0 + _ ≤ _; exact Nat.le_of_eq rfl) (hb hby d13_108) (fun _ _ => ⟨rfl, eh_24, (by decide : 0 + 0 ≤ _), (by decide : 0 + 0 ≤ _)⟩)
  dsimp only [Pt.U, Pt.locs, Pt.cells, Pt.slots] at X_27 l_27 y_27 z_27 st_27 hQ_27
  subst l_27 y_27 z_27
  obtain ⟨rfl, N_27q, eh_27⟩ := hQ_27
  have N_27 := Fr.app N_24 N_27q
  refine Go.step (fun t k => st_27 t k) ?_
  show Go p.tables e below P (T_27.setTop (mkF m 111 #[.val (.ref a), .val (.ref y1), .val (.ref y2), .val (.int (2 : Int32)), .val (.int (1 : Int32))] [(.int (1 : Int32))]))
  refine Go.step (fun t k => XS.ifYes X_27.here hx rfl (pc0 := 111) (pc' := 124) rfl (hb hby d13_111) rfl (ifY (cd := .ne) (by decide : ¬ (1 : Int) = 0)) (by decide) (by decide) k) ?_
  show Go p.tables e below P (T_27.setTop (mkF m 124 #[.val (.ref a), .val (.ref y1), .val (.ref y2), .val (.int (2 : Int32)), .val (.int (1 : Int32))] []))
  obtain ⟨ni, hni⟩ : ∃ z : Int32, (2 : Int32) + (1 : Int32) = z := ⟨_, rfl⟩
  refine Go.step (fun t k => XS.iinc X_27.here hx rfl (hb hby d13_124) rfl (l' := #[.val (.ref a), .val (.ref y1), .val (.ref y2), .val (.int ((2 : Int32) + (1 : Int32))), .val (.int (1 : Int32))]) rfl k) ?_
  show Go p.tables e below P (T_27.setTop (mkF m 127 #[.val (.ref a), .val (.ref y1), .val (.ref y2), .val (.int ((2 : Int32) + (1 : Int32))), .val (.int (1 : Int32))] []))
  rw [hni]
  show Go p.tables e below P (T_27.setTop (mkF m 127 #[.val (.ref a), .val (.ref y1), .val (.ref y2), .val (.int ni), .val (.int (1 : Int32))] []))
  have ez_ni : ni = (3 : Int32) := by rw [← hni]; rfl
  subst ez_ni
  show Go p.tables e below P (T_27.setTop (mkF m 127 #[.val (.ref a), .val (.ref y1), .val (.ref y2), .val (.int (3 : Int32)), .val (.int (1 : Int32))] []))
  refine Go.step (fun t k => XS.goto X_27.here hx rfl (pc0 := 127) (pc' := 28) rfl (hb hby d13_127) (by decide) (by decide) k) ?_
  show Go p.tables e below P (T_27.setTop (mkF m 28 #[.val (.ref a), .val (.ref y1), .val (.ref y2), .val (.int (3 : Int32)), .val (.int (1 : Int32))] []))
  refine Go.step (fun t k => XS.iloadN X_27.here hx rfl (hb hby d13_28) rfl  k) ?_
  show Go p.tables e below P (T_27.setTop (mkF m 29 #[.val (.ref a), .val (.ref y1), .val (.ref y2), .val (.int (3 : Int32)), .val (.int (1 : Int32))] [(.int (3 : Int32))]))
  refine Go.step (fun t k => XS.aloadN X_27.here hx rfl (hb hby d13_29) rfl rfl k) ?_
  show Go p.tables e below P (T_27.setTop (mkF m 30 #[.val (.ref a), .val (.ref y1), .val (.ref y2), .val (.int (3 : Int32)), .val (.int (1 : Int32))] [(.ref y1), (.int (3 : Int32))]))
  have vq_28 := Vy1
  obtain ⟨cl_28, Ar_28, q_28, S_28, Nn_28, H_28, G_28⟩ := vq_28
  refine Go.step (fun t k => X_27.arraylength hx (by rw [eh_27]; exact Ar_28.1) (State.isArrayOf_alike hZ.alike Ar_28.2.1) (g := (mkF m 30 #[.val (.ref a), .val (.ref y1), .val (.ref y2), .val (.int (3 : Int32)), .val (.int (1 : Int32))] [(.ref y1), (.int (3 : Int32))])) rfl rfl (hb hby d13_30) t k) ?_
  rw [len_of S_28 Nn_28]
  show Go p.tables e below P (T_27.setTop (mkF m 31 #[.val (.ref a), .val (.ref y1), .val (.ref y2), .val (.int (3 : Int32)), .val (.int (1 : Int32))] [(.int (3 : Int32)), (.int (3 : Int32))]))
  refine Go.step (fun t k => XS.icmpYes X_27.here hx rfl (pc0 := 31) (pc' := 130) rfl (hb hby d13_31) rfl (icY (cd := .ge) (by decide : (3 : Int) ≤ (3 : Int))) (by decide) (by decide) k) ?_
  show Go p.tables e below P (T_27.setTop (mkF m 130 #[.val (.ref a), .val (.ref y1), .val (.ref y2), .val (.int (3 : Int32)), .val (.int (1 : Int32))] []))
  refine Go.step (fun t k => XS.aloadN X_27.here hx rfl (hb hby d13_130) rfl rfl k) ?_
  show Go p.tables e below P (T_27.setTop (mkF m 131 #[.val (.ref a), .val (.ref y1), .val (.ref y2), .val (.int (3 : Int32)), .val (.int (1 : Int32))] [(.ref a)]))
  refine Go.step (fun t k => XS.aloadN X_27.here hx rfl (hb hby d13_131) rfl rfl k) ?_
  show Go p.tables e below P (T_27.setTop (mkF m 132 #[.val (.ref a), .val (.ref y1), .val (.ref y2), .val (.int (3 : Int32)), .val (.int (1 : Int32))] [(.ref y1), (.ref a)]))
  obtain ⟨T_29, h_29, X_29, e_29, E_29, A_29, Ex_29, st_29⟩ := cloneH X_27 hx hZ hown (hw _ (List.mem_of_getElem? (i := 22) rfl)) (hw _ (List.mem_of_getElem? (i := 23) rfl)) (hw _ (List.mem_of_getElem? (i := 27) rfl)) (hw _ (List.mem_of_getElem? (i := 25) rfl)) (hw _ (List.mem_of_getElem? (i := 26) rfl)) (hw _ (List.mem_of_getElem? (i := 28) rfl)) eh_27 Vy1.arh Ey1 (g := (mkF m 132 #[.val (.ref a), .val (.ref y1), .val (.ref y2), .val (.int (3 : Int32)), .val (.int (1 : Int32))] [(.ref y1), (.ref a)])) rfl (by rw [hml]; rfl) rfl (hb hby d13_132) (by decide) (W := 1) (by show 2 * 0 + _ ≤ _; exact Nat.le_of_eq rfl) (by decide) (cap := 3) (by decide) (by decide) (by decide)
  obtain ⟨c1, g_29⟩ : ∃ z, z = h0.size := ⟨_, rfl⟩
  rw [← g_29] at A_29 Ex_29 st_29
  have g_c1 : n0 ≤ c1 := Nat.le_trans Z0 (Nat.le_of_eq g_29.symm)
  have sz_c1 : h0.size ≤ c1 := Nat.le_trans (Keep.refl h0 [a]).1 (Nat.le_of_eq g_29.symm)
  have lt_a_c1 : a < c1 := Nat.lt_of_lt_of_le E_a.lt (Nat.le_of_eq g_29.symm)
  have ne_a_c1 : a ≠ c1 := Nat.ne_of_lt lt_a_c1
  have lt_y1_c1 : y1 < c1 := Nat.lt_of_lt_of_le Vy1.lt (Nat.le_of_eq g_29.symm)
  have ne_y1_c1 : y1 ≠ c1 := Nat.ne_of_lt lt_y1_c1
  have lt_y2_c1 : y2 < c1 := Nat.lt_of_lt_of_le Vy2.lt (Nat.le_of_eq g_29.symm)
  have ne_y2_c1 : y2 ≠ c1 := Nat.ne_of_lt lt_y2_c1
  have V_29 : Arv Z h_29 c1 k1 .double (3 : Int32) [(.double v0), (.double v1), (.double v2)] (.double (0 : UInt64)) := A_29
  have K_29 : Keep h0 h_29 [a] := (Keep.refl h0 [a]).ext E_29
  have Z_29 : n0 ≤ h_29.size := Nat.le_trans Z0 E_29.1
  refine Go.step (fun t k => st_29 t k) ?_
  show Go p.tables e below P (T_29.setTop (mkF m 135 #[.val (.ref a), .val (.ref y1), .val (.ref y2), .val (.int (3 : Int32)), .val (.int (1 : Int32))] [(.ref c1), (.ref a)]))
  obtain ⟨T_30, X_30, e_30, st_30⟩ := castY X_29 hx hZ hown (hw _ (List.mem_of_getElem? (i := 29) rfl)) e_29 (Ins.self Ex_29) (g := (mkF m 135 #[.val (.ref a), .val (.ref y1), .val (.ref y2), .val (.int (3 : Int32)), .val (.int (1 : Int32))] [(.ref c1), (.ref a)])) rfl rfl (hb hby d13_135)
  refine Go.step (fun t k => st_30 t k) ?_
  show Go p.tables e below P (T_30.setTop (mkF m 138 #[.val (.ref a), .val (.ref y1), .val (.ref y2), .val (.int (3 : Int32)), .val (.int (1 : Int32))] [(.ref c1), (.ref a)]))
  obtain ⟨T_31, h_31, X_31, e_31, W_31, st_31⟩ := putF X_30 hx hZ hown (host := "") (Or.inl (hw _ (List.mem_of_getElem? (i := 31) rfl))) Via.refl e_30 (F0.ext E_29) (E_a.ext E_29) (Or.inr ⟨(hw _ (List.mem_of_getElem? (i := 32) rfl)), rfl, hnm⟩) (hw _ (List.mem_of_getElem? (i := 5) rfl)) (ty := (.array .double)) (by decide) rfl rfl (g := (mkF m 138 #[.val (.ref a), .val (.ref y1), .val (.ref y2), .val (.int (3 : Int32)), .val (.int (1 : Int32))] [(.ref c1), (.ref a)])) rfl rfl (hb hby d13_138)
  have Fw_31 := (F0.ext E_29).same W_31
  have N_31 := Fr.snoc X_31 N_27 g_a
  have K_31 : Keep h0 h_31 [a] := K_29.wr W_31 (Or.inl (List.mem_of_getElem? (i := 0) rfl))
  have Z_31 : n0 ≤ h_31.size := Nat.le_trans Z_29 (Keep.of_wr W_31).1
  refine Go.step (fun t k => st_31 t k) ?_
  show Go p.tables e below P (T_31.setTop (mkF m 141 #[.val (.ref a), .val (.ref y1), .val (.ref y2), .val (.int (3 : Int32)), .val (.int (1 : Int32))] []))
  refine Go.step (fun t k => XS.aloadN X_31.here hx rfl (hb hby d13_141) rfl rfl k) ?_
  show Go p.tables e below P (T_31.setTop (mkF m 142 #[.val (.ref a), .val (.ref y1), .val (.ref y2), .val (.int (3 : Int32)), .val (.int (1 : Int32))] [(.ref a)]))
  refine Go.step (fun t k => XS.aloadN X_31.here hx rfl (hb hby d13_142) rfl rfl k) ?_
  show Go p.tables e below P (T_31.setTop (mkF m 143 #[.val (.ref a), .val (.ref y1), .val (.ref y2), .val (.int (3 : Int32)), .val (.int (1 : Int32))] [(.ref y2), (.ref a)]))
  obtain ⟨T_32, h_32, X_32, e_32, E_32, A_32, Ex_32, st_32⟩ := cloneH X_31 hx hZ hown (hw _ (List.mem_of_getElem? (i := 22) rfl)) (hw _ (List.mem_of_getElem? (i := 23) rfl)) (hw _ (List.mem_of_getElem? (i := 27) rfl)) (hw _ (List.mem_of_getElem? (i := 25) rfl)) (hw _ (List.mem_of_getElem? (i := 26) rfl)) (hw _ (List.mem_of_getElem? (i := 28) rfl)) e_31 ((Vy2.ext E_29).other W_31 (Ne.symm na2)).arh ((Ey2.ext E_29).wr W_31) (g := (mkF m 143 #[.val (.ref a), .val (.ref y1), .val (.ref y2), .val (.int (3 : Int32)), .val (.int (1 : Int32))] [(.ref y2), (.ref a)])) rfl (by rw [hml]; rfl) rfl (hb hby d13_143) (by decide) (W := 1) (by show 2 * 0 + _ ≤ _; exact Nat.le_of_eq rfl) (by decide) (cap := 3) (by decide) (by decide) (by decide)
  obtain ⟨c2, g_32⟩ : ∃ z, z = h_31.size := ⟨_, rfl⟩
  rw [← g_32] at A_32 Ex_32 st_32
  have g_c2 : n0 ≤ c2 := Nat.le_trans Z_31 (Nat.le_of_eq g_32.symm)
  have sz_c2 : h0.size ≤ c2 := Nat.le_trans K_31.1 (Nat.le_of_eq g_32.symm)
  have lt_a_c2 : a < c2 := Nat.lt_of_lt_of_le ((E_a.ext E_29).wr W_31).lt (Nat.le_of_eq g_32.symm)
  have ne_a_c2 : a ≠ c2 := Nat.ne_of_lt lt_a_c2
  have lt_y1_c2 : y1 < c2 := Nat.lt_of_lt_of_le ((Vy1.ext E_29).other W_31 (Ne.symm na1)).lt (Nat.le_of_eq g_32.symm)
  have ne_y1_c2 : y1 ≠ c2 := Nat.ne_of_lt lt_y1_c2
  have lt_y2_c2 : y2 < c2 := Nat.lt_of_lt_of_le ((Vy2.ext E_29).other W_31 (Ne.symm na2)).lt (Nat.le_of_eq g_32.symm)
  have ne_y2_c2 : y2 ≠ c2 := Nat.ne_of_lt lt_y2_c2
  have lt_c1_c2 : c1 < c2 := Nat.lt_of_lt_of_le (V_29.other W_31 (Ne.symm ne_a_c1)).lt (Nat.le_of_eq g_32.symm)
  have ne_c1_c2 : c1 ≠ c2 := Nat.ne_of_lt lt_c1_c2
  have V_32 : Arv Z h_32 c2 k2 .double (3 : Int32) [(.double fv), (.double fv), (.double fv)] (.double (0 : UInt64)) := A_32
  have K_32 : Keep h0 h_32 [a] := K_31.ext E_32
  have Z_32 : n0 ≤ h_32.size := Nat.le_trans Z_31 E_32.1
  refine Go.step (fun t k => st_32 t k) ?_
  show Go p.tables e below P (T_32.setTop (mkF m 146 #[.val (.ref a), .val (.ref y1), .val (.ref y2), .val (.int (3 : Int32)), .val (.int (1 : Int32))] [(.ref c2), (.ref a)]))
  obtain ⟨T_33, X_33, e_33, st_33⟩ := castY X_32 hx hZ hown (hw _ (List.mem_of_getElem? (i := 29) rfl)) e_32 (Ins.self Ex_32) (g := (mkF m 146 #[.val (.ref a), .val (.ref y1), .val (.ref y2), .val (.int (3 : Int32)), .val (.int (1 : Int32))] [(.ref c2), (.ref a)])) rfl rfl (hb hby d13_146)
  refine Go.step (fun t k => st_33 t k) ?_
  show Go p.tables e below P (T_33.setTop (mkF m 149 #[.val (.ref a), .val (.ref y1), .val (.ref y2), .val (.int (3 : Int32)), .val (.int (1 : Int32))] [(.ref c2), (.ref a)]))
  obtain ⟨T_34, h_34, X_34, e_34, W_34, st_34⟩ := putF X_33 hx hZ hown (host := "") (Or.inl (hw _ (List.mem_of_getElem? (i := 33) rfl))) Via.refl e_33 (((F1.ext E_29).other W_31 (Or.inr (slot_ne (Or.inr (hw _ (List.mem_of_getElem? (i := 34) rfl))) (Or.inr (hw _ (List.mem_of_getElem? (i := 32) rfl))) (by decide) (t := (.array .double)) (t' := (.array .double)) (by decide) (by decide)))).ext E_32) (((E_a.ext E_29).wr W_31).ext E_32) (Or.inr ⟨(hw _ (List.mem_of_getElem? (i := 34) rfl)), rfl, hnm⟩) (hw _ (List.mem_of_getElem? (i := 5) rfl)) (ty := (.array .double)) (by decide) rfl rfl (g := (mkF m 149 #[.val (.ref a), .val (.ref y1), .val (.ref y2), .val (.int (3 : Int32)), .val (.int (1 : Int32))] [(.ref c2), (.ref a)])) rfl rfl (hb hby d13_149)
  have Fw_34 := (((F1.ext E_29).other W_31 (Or.inr (slot_ne (Or.inr (hw _ (List.mem_of_getElem? (i := 34) rfl))) (Or.inr (hw _ (List.mem_of_getElem? (i := 32) rfl))) (by decide) (t := (.array .double)) (t' := (.array .double)) (by decide) (by decide)))).ext E_32).same W_34
  have N_34 := Fr.snoc X_34 N_31 g_a
  have K_34 : Keep h0 h_34 [a] := K_32.wr W_34 (Or.inl (List.mem_of_getElem? (i := 0) rfl))
  have Z_34 : n0 ≤ h_34.size := Nat.le_trans Z_32 (Keep.of_wr W_34).1
  refine Go.step (fun t k => st_34 t k) ?_
  show Go p.tables e below P (T_34.setTop (mkF m 152 #[.val (.ref a), .val (.ref y1), .val (.ref y2), .val (.int (3 : Int32)), .val (.int (1 : Int32))] []))
  exact voidGo X_34 hx hP Bd.returns hlk (hb hby d13_152) (by decide) (by decide) (by rw [e_34]; exact ⟨rfl, N_34, K_34, ((((E_a.ext E_29).wr W_31).ext E_32).wr W_34), c1, ((Fw_31.ext E_32).other W_34 (Or.inr (slot_ne (Or.inr (hw _ (List.mem_of_getElem? (i := 32) rfl))) (Or.inr (hw _ (List.mem_of_getElem? (i := 34) rfl))) (by decide) (t := (.array .double)) (t' := (.array .double)) (by decide) (by decide)))), (((V_29.other W_31 (Ne.symm ne_a_c1)).ext E_32).other W_34 (Ne.symm ne_a_c1))⟩)
theorem d35_0 : decode prog_11_method_4_code 0 = .ok (.iload_n 1, 1) := by decide +kernel
theorem d35_1 : decode prog_11_method_4_code 1 = .ok (.iconst 1, 1) := by decide +kernel
theorem d35_2 : decode prog_11_method_4_code 2 = .ok (.iadd, 1) := by decide +kernel
theorem d35_3 : decode prog_11_method_4_code 3 = .ok (.aload_n 0, 1) := by decide +kernel
theorem d35_4 : decode prog_11_method_4_code 4 = .ok (.getfield 30, 3) := by decide +kernel
theorem d35_7 : decode prog_11_method_4_code 7 = .ok (.arraylength, 1) := by decide +kernel
theorem d35_8 : decode prog_11_method_4_code 8 = .ok (.if_icmp .ge 14, 3) := by decide +kernel
theorem d35_11 : decode prog_11_method_4_code 11 = .ok (.aload_n 0, 1) := by decide +kernel
theorem d35_12 : decode prog_11_method_4_code 12 = .ok (.getfield 30, 3) := by decide +kernel
theorem d35_15 : decode prog_11_method_4_code 15 = .ok (.iload_n 1, 1) := by decide +kernel
theorem d35_16 : decode prog_11_method_4_code 16 = .ok (.iconst 1, 1) := by decide +kernel
theorem d35_17 : decode prog_11_method_4_code 17 = .ok (.iadd, 1) := by decide +kernel
theorem d35_18 : decode prog_11_method_4_code 18 = .ok (.daload, 1) := by decide +kernel
theorem d35_19 : decode prog_11_method_4_code 19 = .ok (.goto 6, 3) := by decide +kernel
theorem d35_25 : decode prog_11_method_4_code 25 = .ok (.dreturn, 1) := by decide +kernel
theorem pn_35 : plainName "com/example/gleitfahrt/gleitfahrt/engine/ForceCurve$Table" = true := by first | (simp [plainName, overriddenIn]; done) | decide +kernel
theorem ef_35 (m : MethodId) (x0 : Addr) (x1 : Int32) : entryFrame m #[(.ref x0), (.int x1)] 2 = mkF m 0 #[.val (.ref x0), .val (.int x1)] [] := by first | (simp [entryFrame, mkF, argsToLocals, Value.category]; done) | rfl
def Q35 (Z : State) (a : Addr) (x1 : Addr) (k1 : ClassId) (v0 : UInt64) (v1 : UInt64) (v2 : UInt64) (h0 : Heap) (n0 : Nat) (v : Option Value) (h : Heap) (L : List Loc) : Prop := v = some (.double v1) ∧ Fr n0 L ∧ h = h0
set_option maxRecDepth 65536 in
set_option maxHeartbeats 40000000 in
theorem up3_0 (l : Launch) (Z : State) (a0 : Array Value) (hw : ∀ d ∈ tables_1, d.before a0 Z = true) (ws : List Jvm.Cond) (a : Addr) (x1 : Addr) (k1 : ClassId) (v0 : UInt64) (v1 : UInt64) (v2 : UInt64) (h0 : Heap) (n0 : Nat) (Z0 : n0 ≤ h0.size) (F0 : Fld Z h0 a "com/example/gleitfahrt/gleitfahrt/engine/ForceCurve$Table" "speedsMs" "[D" (.ref x1)) (Vx1 : Arv Z h0 x1 k1 .double (3 : Int32) [(.double v0), (.double v1), (.double v2)] (.double (0 : UInt64))) :
    MetFree l (⟨"com/example/gleitfahrt/gleitfahrt/engine/ForceCurve$Table", "upperMs", "(I)D"⟩ : MethodName) (head1 (Jvm.Cond.code (⟨"com/example/gleitfahrt/gleitfahrt/engine/ForceCurve$Table", "upperMs", "(I)D"⟩ : MethodName) prog_11_method_4_code 2 (some .double) :: ws) ({ frames := 0, cells := 0, slots := 0, locals := 0 } : Room)) (fun a_ U => a_ = #[(.ref a), (.int (0 : Int32))] ∧ Z.Warmed39 U.vm ∧ U.heap = h0) (fun _ _ _ _ _ => True) (fun _ U o U' => ∃ v L, o = .returned v ∧ Q35 Z a x1 k1 v0 v1 v2 h0 n0 v U'.heap L ∧ FrameEnd U o U' L (({ frames := 0, cells := 0, slots := 0, locals := 0 } : Room)).cells (({ frames := 0, cells := 0, slots := 0, locals := 0 } : Room)).slots) := by
  refine MetFree.of_bodySF (plainFor_of_name pn_35) hisR ?_
  intro p e s m args below meth c s₁ Bd hml0 hP0 hK
  obtain ⟨rfl, hZ, hh⟩ := hP0
  have hx := Bd.exec
  have hby := Bd.bytes
  have hml : c.maxLocals = 2 := hml0
  have hown : s.vm.findClass "com/example/gleitfahrt/gleitfahrt/engine/ForceCurve$Table" = some m.cls := findClass_of_methodNamed Bd.named
  have hnm := (name_of_methodNamed Bd.named Bd.method).1
  have X0 : Stand p l e ({ frames := 0, cells := 0, slots := 0, locals := 0 } : Room) s m #[(.ref a), (.int (0 : Int32))] below meth c s₁ [] 0 0 := Stand.of_body Bd
  have e0 : s₁.heap = h0 := by rw [← hh, Bd.state]; rfl
  have N0 := Fr.nil n0
  have hlk : meth.locks = false := BodyLoose.notSynchronized Bd
  refine Go.start (P₀ := fun s₂ o => ∃ v L, o = .returned v ∧ Q35 Z a x1 k1 v0 v1 v2 h0 n0 v s₂.heap L ∧ FrameEnd s o s₂ L (({ frames := 0, cells := 0, slots := 0, locals := 0 } : Room)).cells (({ frames := 0, cells := 0, slots := 0, locals := 0 } : Room)).slots) (congrArg s₁.setTop (ef_35 m a (0 : Int32))) ?_
  intro P hP
  show Go p.tables e below P (s₁.setTop (mkF m 0 #[.val (.ref a), .val (.int (0 : Int32))] []))
  refine Go.step (fun t k => XS.iloadN X0.here hx rfl (hb hby d35_0) rfl  k) ?_
  show Go p.tables e below P (s₁.setTop (mkF m 1 #[.val (.ref a), .val (.int (0 : Int32))] [(.int (0 : Int32))]))
  refine Go.step (fun t k => XS.iconst X0.here hx rfl (hb hby d35_1) k) ?_
  show Go p.tables e below P (s₁.setTop (mkF m 2 #[.val (.ref a), .val (.int (0 : Int32))] [(.int (1 : Int32)), (.int (0 : Int32))]))
  obtain ⟨ja, hja⟩ : ∃ z : Int32, (0 : Int32) + (1 : Int32) = z := ⟨_, rfl⟩
  refine Go.step (fun t k => iadd_v X0.here hx rfl (hb hby d35_2) rfl  hja k) ?_
  show Go p.tables e below P (s₁.setTop (mkF m 3 #[.val (.ref a), .val (.int (0 : Int32))] [(.int ja)]))
  have ez_ja : ja = (1 : Int32) := by rw [← hja]; rfl
  subst ez_ja
  show Go p.tables e below P (s₁.setTop (mkF m 3 #[.val (.ref a), .val (.int (0 : Int32))] [(.int (1 : Int32))]))
  refine Go.step (fun t k => XS.aloadN X0.here hx rfl (hb hby d35_3) rfl rfl k) ?_
  show Go p.tables e below P (s₁.setTop (mkF m 4 #[.val (.ref a), .val (.int (0 : Int32))] [(.ref a), (.int (1 : Int32))]))
  obtain ⟨T_1, X_1, e_1, st_1⟩ := getF X0 hx hZ hown (host := "") (Or.inl (hw _ (List.mem_of_getElem? (i := 31) rfl))) Via.refl e0 F0 (g := (mkF m 4 #[.val (.ref a), .val (.int (0 : Int32))] [(.ref a), (.int (1 : Int32))])) rfl rfl (hb hby d35_4)
  refine Go.step (fun t k => st_1 t k) ?_
  show Go p.tables e below P (T_1.setTop (mkF m 7 #[.val (.ref a), .val (.int (0 : Int32))] [(.ref x1), (.int (1 : Int32))]))
  have vq_2 := Vx1
  obtain ⟨cl_2, Ar_2, q_2, S_2, Nn_2, H_2, G_2⟩ := vq_2
  refine Go.step (fun t k => X_1.arraylength hx (by rw [e_1]; exact Ar_2.1) (State.isArrayOf_alike hZ.alike Ar_2.2.1) (g := (mkF m 7 #[.val (.ref a), .val (.int (0 : Int32))] [(.ref x1), (.int (1 : Int32))])) rfl rfl (hb hby d35_7) t k) ?_
  rw [len_of S_2 Nn_2]
  show Go p.tables e below P (T_1.setTop (mkF m 8 #[.val (.ref a), .val (.int (0 : Int32))] [(.int (3 : Int32)), (.int (1 : Int32))]))
  refine Go.step (fun t k => XS.icmpNo X_1.here hx rfl (hb hby d35_8) rfl (icN (cd := .ge) (by decide : ¬ ((3 : Int) ≤ (1 : Int)))) k) ?_
  show Go p.tables e below P (T_1.setTop (mkF m 11 #[.val (.ref a), .val (.int (0 : Int32))] []))
  refine Go.step (fun t k => XS.aloadN X_1.here hx rfl (hb hby d35_11) rfl rfl k) ?_
  show Go p.tables e below P (T_1.setTop (mkF m 12 #[.val (.ref a), .val (.int (0 : Int32))] [(.ref a)]))
  obtain ⟨T_3, X_3, e_3, st_3⟩ := getF X_1 hx hZ hown (host := "") (Or.inl (hw _ (List.mem_of_getElem? (i := 31) rfl))) Via.refl e_1 F0 (g := (mkF m 12 #[.val (.ref a), .val (.int (0 : Int32))] [(.ref a)])) rfl rfl (hb hby d35_12)
  refine Go.step (fun t k => st_3 t k) ?_
  show Go p.tables e below P (T_3.setTop (mkF m 15 #[.val (.ref a), .val (.int (0 : Int32))] [(.ref x1)]))
  refine Go.step (fun t k => XS.iloadN X_3.here hx rfl (hb hby d35_15) rfl  k) ?_
  show Go p.tables e below P (T_3.setTop (mkF m 16 #[.val (.ref a), .val (.int (0 : Int32))] [(.int (0 : Int32)), (.ref x1)]))
  refine Go.step (fun t k => XS.iconst X_3.here hx rfl (hb hby d35_16) k) ?_
  show Go p.tables e below P (T_3.setTop (mkF m 17 #[.val (.ref a), .val (.int (0 : Int32))] [(.int (1 : Int32)), (.int (0 : Int32)), (.ref x1)]))
  obtain ⟨jc, hjc⟩ : ∃ z : Int32, (0 : Int32) + (1 : Int32) = z := ⟨_, rfl⟩
  refine Go.step (fun t k => iadd_v X_3.here hx rfl (hb hby d35_17) rfl  hjc k) ?_
  show Go p.tables e below P (T_3.setTop (mkF m 18 #[.val (.ref a), .val (.int (0 : Int32))] [(.int jc), (.ref x1)]))
  have ez_jc : jc = (1 : Int32) := by rw [← hjc]; rfl
  subst ez_jc
  show Go p.tables e below P (T_3.setTop (mkF m 18 #[.val (.ref a), .val (.int (0 : Int32))] [(.int (1 : Int32)), (.ref x1)]))
  have vq_4 := Vx1
  obtain ⟨cl_4, Ar_4, q_4, S_4, Nn_4, H_4, G_4⟩ := vq_4
  have hin_4 : ¬ ((1 : Int32) < 0 ∨ cl_4.slots.size ≤ ((1 : Int32)).toNatClampNeg) := inb_of S_4 ⟨by decide, by decide⟩
  have hat_4 : cl_4.slots[((1 : Int32)).toNatClampNeg]? = some (.double v1) := Has.at H_4 hin_4 rfl
  refine Go.step (fun t k => X_3.daload hx (j := (1 : Int32)) (v := (.double v1)) (by rw [e_3]; exact Ar_4.1) (State.isArrayOf_alike hZ.alike Ar_4.2.1) Ar_4.2.2 hin_4 hat_4 (g := (mkF m 18 #[.val (.ref a), .val (.int (0 : Int32))] [(.int (1 : Int32)), (.ref x1)])) rfl rfl (hb hby d35_18) t k) ?_
  show Go p.tables e below P (T_3.setTop (mkF m 19 #[.val (.ref a), .val (.int (0 : Int32))] [(.double v1)]))
  refine Go.step (fun t k => XS.goto X_3.here hx rfl (pc0 := 19) (pc' := 25) rfl (hb hby d35_19) (by decide) (by decide) k) ?_
  show Go p.tables e below P (T_3.setTop (mkF m 25 #[.val (.ref a), .val (.int (0 : Int32))] [(.double v1)]))
  exact retGo X_3 hx hP Bd.returns hlk rfl (Or.inr (Or.inr (Or.inl ⟨rfl, rfl, _, rfl⟩))) (hb hby d35_25) (by decide) (by decide) (by rw [e_3]; exact ⟨rfl, N0, rfl⟩)
theorem d36_0 : decode prog_11_method_4_code 0 = .ok (.iload_n 1, 1) := by decide +kernel
theorem d36_1 : decode prog_11_method_4_code 1 = .ok (.iconst 1, 1) := by decide +kernel
theorem d36_2 : decode prog_11_method_4_code 2 = .ok (.iadd, 1) := by decide +kernel
theorem d36_3 : decode prog_11_method_4_code 3 = .ok (.aload_n 0, 1) := by decide +kernel
theorem d36_4 : decode prog_11_method_4_code 4 = .ok (.getfield 30, 3) := by decide +kernel
theorem d36_7 : decode prog_11_method_4_code 7 = .ok (.arraylength, 1) := by decide +kernel
theorem d36_8 : decode prog_11_method_4_code 8 = .ok (.if_icmp .ge 14, 3) := by decide +kernel
theorem d36_11 : decode prog_11_method_4_code 11 = .ok (.aload_n 0, 1) := by decide +kernel
theorem d36_12 : decode prog_11_method_4_code 12 = .ok (.getfield 30, 3) := by decide +kernel
theorem d36_15 : decode prog_11_method_4_code 15 = .ok (.iload_n 1, 1) := by decide +kernel
theorem d36_16 : decode prog_11_method_4_code 16 = .ok (.iconst 1, 1) := by decide +kernel
theorem d36_17 : decode prog_11_method_4_code 17 = .ok (.iadd, 1) := by decide +kernel
theorem d36_18 : decode prog_11_method_4_code 18 = .ok (.daload, 1) := by decide +kernel
theorem d36_19 : decode prog_11_method_4_code 19 = .ok (.goto 6, 3) := by decide +kernel
theorem d36_25 : decode prog_11_method_4_code 25 = .ok (.dreturn, 1) := by decide +kernel
theorem pn_36 : plainName "com/example/gleitfahrt/gleitfahrt/engine/ForceCurve$Table" = true := by first | (simp [plainName, overriddenIn]; done) | decide +kernel
theorem ef_36 (m : MethodId) (x0 : Addr) (x1 : Int32) : entryFrame m #[(.ref x0), (.int x1)] 2 = mkF m 0 #[.val (.ref x0), .val (.int x1)] [] := by first | (simp [entryFrame, mkF, argsToLocals, Value.category]; done) | rfl
def Q36 (Z : State) (a : Addr) (x1 : Addr) (k1 : ClassId) (v0 : UInt64) (v1 : UInt64) (v2 : UInt64) (h0 : Heap) (n0 : Nat) (v : Option Value) (h : Heap) (L : List Loc) : Prop := v = some (.double v2) ∧ Fr n0 L ∧ h = h0
set_option maxRecDepth 65536 in
set_option maxHeartbeats 40000000 in
theorem up3_1 (l : Launch) (Z : State) (a0 : Array Value) (hw : ∀ d ∈ tables_1, d.before a0 Z = true) (ws : List Jvm.Cond) (a : Addr) (x1 : Addr) (k1 : ClassId) (v0 : UInt64) (v1 : UInt64) (v2 : UInt64) (h0 : Heap) (n0 : Nat) (Z0 : n0 ≤ h0.size) (F0 : Fld Z h0 a "com/example/gleitfahrt/gleitfahrt/engine/ForceCurve$Table" "speedsMs" "[D" (.ref x1)) (Vx1 : Arv Z h0 x1 k1 .double (3 : Int32) [(.double v0), (.double v1), (.double v2)] (.double (0 : UInt64))) :
    MetFree l (⟨"com/example/gleitfahrt/gleitfahrt/engine/ForceCurve$Table", "upperMs", "(I)D"⟩ : MethodName) (head1 (Jvm.Cond.code (⟨"com/example/gleitfahrt/gleitfahrt/engine/ForceCurve$Table", "upperMs", "(I)D"⟩ : MethodName) prog_11_method_4_code 2 (some .double) :: ws) ({ frames := 0, cells := 0, slots := 0, locals := 0 } : Room)) (fun a_ U => a_ = #[(.ref a), (.int (1 : Int32))] ∧ Z.Warmed39 U.vm ∧ U.heap = h0) (fun _ _ _ _ _ => True) (fun _ U o U' => ∃ v L, o = .returned v ∧ Q36 Z a x1 k1 v0 v1 v2 h0 n0 v U'.heap L ∧ FrameEnd U o U' L (({ frames := 0, cells := 0, slots := 0, locals := 0 } : Room)).cells (({ frames := 0, cells := 0, slots := 0, locals := 0 } : Room)).slots) := by
  refine MetFree.of_bodySF (plainFor_of_name pn_36) hisR ?_
  intro p e s m args below meth c s₁ Bd hml0 hP0 hK
  obtain ⟨rfl, hZ, hh⟩ := hP0
  have hx := Bd.exec
  have hby := Bd.bytes
  have hml : c.maxLocals = 2 := hml0
  have hown : s.vm.findClass "com/example/gleitfahrt/gleitfahrt/engine/ForceCurve$Table" = some m.cls := findClass_of_methodNamed Bd.named
  have hnm := (name_of_methodNamed Bd.named Bd.method).1
  have X0 : Stand p l e ({ frames := 0, cells := 0, slots := 0, locals := 0 } : Room) s m #[(.ref a), (.int (1 : Int32))] below meth c s₁ [] 0 0 := Stand.of_body Bd
  have e0 : s₁.heap = h0 := by rw [← hh, Bd.state]; rfl
  have N0 := Fr.nil n0
  have hlk : meth.locks = false := BodyLoose.notSynchronized Bd
  refine Go.start (P₀ := fun s₂ o => ∃ v L, o = .returned v ∧ Q36 Z a x1 k1 v0 v1 v2 h0 n0 v s₂.heap L ∧ FrameEnd s o s₂ L (({ frames := 0, cells := 0, slots := 0, locals := 0 } : Room)).cells (({ frames := 0, cells := 0, slots := 0, locals := 0 } : Room)).slots) (congrArg s₁.setTop (ef_36 m a (1 : Int32))) ?_
  intro P hP
  show Go p.tables e below P (s₁.setTop (mkF m 0 #[.val (.ref a), .val (.int (1 : Int32))] []))
  refine Go.step (fun t k => XS.iloadN X0.here hx rfl (hb hby d36_0) rfl  k) ?_
  show Go p.tables e below P (s₁.setTop (mkF m 1 #[.val (.ref a), .val (.int (1 : Int32))] [(.int (1 : Int32))]))
  refine Go.step (fun t k => XS.iconst X0.here hx rfl (hb hby d36_1) k) ?_
  show Go p.tables e below P (s₁.setTop (mkF m 2 #[.val (.ref a), .val (.int (1 : Int32))] [(.int (1 : Int32)), (.int (1 : Int32))]))
  obtain ⟨ja, hja⟩ : ∃ z : Int32, (1 : Int32) + (1 : Int32) = z := ⟨_, rfl⟩
  refine Go.step (fun t k => iadd_v X0.here hx rfl (hb hby d36_2) rfl  hja k) ?_
  show Go p.tables e below P (s₁.setTop (mkF m 3 #[.val (.ref a), .val (.int (1 : Int32))] [(.int ja)]))
  have ez_ja : ja = (2 : Int32) := by rw [← hja]; rfl
  subst ez_ja
  show Go p.tables e below P (s₁.setTop (mkF m 3 #[.val (.ref a), .val (.int (1 : Int32))] [(.int (2 : Int32))]))
  refine Go.step (fun t k => XS.aloadN X0.here hx rfl (hb hby d36_3) rfl rfl k) ?_
  show Go p.tables e below P (s₁.setTop (mkF m 4 #[.val (.ref a), .val (.int (1 : Int32))] [(.ref a), (.int (2 : Int32))]))
  obtain ⟨T_1, X_1, e_1, st_1⟩ := getF X0 hx hZ hown (host := "") (Or.inl (hw _ (List.mem_of_getElem? (i := 31) rfl))) Via.refl e0 F0 (g := (mkF m 4 #[.val (.ref a), .val (.int (1 : Int32))] [(.ref a), (.int (2 : Int32))])) rfl rfl (hb hby d36_4)
  refine Go.step (fun t k => st_1 t k) ?_
  show Go p.tables e below P (T_1.setTop (mkF m 7 #[.val (.ref a), .val (.int (1 : Int32))] [(.ref x1), (.int (2 : Int32))]))
  have vq_2 := Vx1
  obtain ⟨cl_2, Ar_2, q_2, S_2, Nn_2, H_2, G_2⟩ := vq_2
  refine Go.step (fun t k => X_1.arraylength hx (by rw [e_1]; exact Ar_2.1) (State.isArrayOf_alike hZ.alike Ar_2.2.1) (g := (mkF m 7 #[.val (.ref a), .val (.int (1 : Int32))] [(.ref x1), (.int (2 : Int32))])) rfl rfl (hb hby d36_7) t k) ?_
  rw [len_of S_2 Nn_2]
  show Go p.tables e below P (T_1.setTop (mkF m 8 #[.val (.ref a), .val (.int (1 : Int32))] [(.int (3 : Int32)), (.int (2 : Int32))]))
  refine Go.step (fun t k => XS.icmpNo X_1.here hx rfl (hb hby d36_8) rfl (icN (cd := .ge) (by decide : ¬ ((3 : Int) ≤ (2 : Int)))) k) ?_
  show Go p.tables e below P (T_1.setTop (mkF m 11 #[.val (.ref a), .val (.int (1 : Int32))] []))
  refine Go.step (fun t k => XS.aloadN X_1.here hx rfl (hb hby d36_11) rfl rfl k) ?_
  show Go p.tables e below P (T_1.setTop (mkF m 12 #[.val (.ref a), .val (.int (1 : Int32))] [(.ref a)]))
  obtain ⟨T_3, X_3, e_3, st_3⟩ := getF X_1 hx hZ hown (host := "") (Or.inl (hw _ (List.mem_of_getElem? (i := 31) rfl))) Via.refl e_1 F0 (g := (mkF m 12 #[.val (.ref a), .val (.int (1 : Int32))] [(.ref a)])) rfl rfl (hb hby d36_12)
  refine Go.step (fun t k => st_3 t k) ?_
  show Go p.tables e below P (T_3.setTop (mkF m 15 #[.val (.ref a), .val (.int (1 : Int32))] [(.ref x1)]))
  refine Go.step (fun t k => XS.iloadN X_3.here hx rfl (hb hby d36_15) rfl  k) ?_
  show Go p.tables e below P (T_3.setTop (mkF m 16 #[.val (.ref a), .val (.int (1 : Int32))] [(.int (1 : Int32)), (.ref x1)]))
  refine Go.step (fun t k => XS.iconst X_3.here hx rfl (hb hby d36_16) k) ?_
  show Go p.tables e below P (T_3.setTop (mkF m 17 #[.val (.ref a), .val (.int (1 : Int32))] [(.int (1 : Int32)), (.int (1 : Int32)), (.ref x1)]))
  obtain ⟨jc, hjc⟩ : ∃ z : Int32, (1 : Int32) + (1 : Int32) = z := ⟨_, rfl⟩
  refine Go.step (fun t k => iadd_v X_3.here hx rfl (hb hby d36_17) rfl  hjc k) ?_
  show Go p.tables e below P (T_3.setTop (mkF m 18 #[.val (.ref a), .val (.int (1 : Int32))] [(.int jc), (.ref x1)]))
  have ez_jc : jc = (2 : Int32) := by rw [← hjc]; rfl
  subst ez_jc
  show Go p.tables e below P (T_3.setTop (mkF m 18 #[.val (.ref a), .val (.int (1 : Int32))] [(.int (2 : Int32)), (.ref x1)]))
  have vq_4 := Vx1
  obtain ⟨cl_4, Ar_4, q_4, S_4, Nn_4, H_4, G_4⟩ := vq_4
  have hin_4 : ¬ ((2 : Int32) < 0 ∨ cl_4.slots.size ≤ ((2 : Int32)).toNatClampNeg) := inb_of S_4 ⟨by decide, by decide⟩
  have hat_4 : cl_4.slots[((2 : Int32)).toNatClampNeg]? = some (.double v2) := Has.at H_4 hin_4 rfl
  refine Go.step (fun t k => X_3.daload hx (j := (2 : Int32)) (v := (.double v2)) (by rw [e_3]; exact Ar_4.1) (State.isArrayOf_alike hZ.alike Ar_4.2.1) Ar_4.2.2 hin_4 hat_4 (g := (mkF m 18 #[.val (.ref a), .val (.int (1 : Int32))] [(.int (2 : Int32)), (.ref x1)])) rfl rfl (hb hby d36_18) t k) ?_
  show Go p.tables e below P (T_3.setTop (mkF m 19 #[.val (.ref a), .val (.int (1 : Int32))] [(.double v2)]))
  refine Go.step (fun t k => XS.goto X_3.here hx rfl (pc0 := 19) (pc' := 25) rfl (hb hby d36_19) (by decide) (by decide) k) ?_
  show Go p.tables e below P (T_3.setTop (mkF m 25 #[.val (.ref a), .val (.int (1 : Int32))] [(.double v2)]))
  exact retGo X_3 hx hP Bd.returns hlk rfl (Or.inr (Or.inr (Or.inl ⟨rfl, rfl, _, rfl⟩))) (hb hby d36_25) (by decide) (by decide) (by rw [e_3]; exact ⟨rfl, N0, rfl⟩)
theorem d37_0 : decode prog_11_method_4_code 0 = .ok (.iload_n 1, 1) := by decide +kernel
theorem d37_1 : decode prog_11_method_4_code 1 = .ok (.iconst 1, 1) := by decide +kernel
theorem d37_2 : decode prog_11_method_4_code 2 = .ok (.iadd, 1) := by decide +kernel
theorem d37_3 : decode prog_11_method_4_code 3 = .ok (.aload_n 0, 1) := by decide +kernel
theorem d37_4 : decode prog_11_method_4_code 4 = .ok (.getfield 30, 3) := by decide +kernel
theorem d37_7 : decode prog_11_method_4_code 7 = .ok (.arraylength, 1) := by decide +kernel
theorem d37_8 : decode prog_11_method_4_code 8 = .ok (.if_icmp .ge 14, 3) := by decide +kernel
theorem d37_22 : decode prog_11_method_4_code 22 = .ok (.ldc2_w 38, 3) := by decide +kernel
theorem d37_25 : decode prog_11_method_4_code 25 = .ok (.dreturn, 1) := by decide +kernel
theorem pn_37 : plainName "com/example/gleitfahrt/gleitfahrt/engine/ForceCurve$Table" = true := by first | (simp [plainName, overriddenIn]; done) | decide +kernel
theorem ef_37 (m : MethodId) (x0 : Addr) (x1 : Int32) : entryFrame m #[(.ref x0), (.int x1)] 2 = mkF m 0 #[.val (.ref x0), .val (.int x1)] [] := by first | (simp [entryFrame, mkF, argsToLocals, Value.category]; done) | rfl
def Q37 (Z : State) (a : Addr) (x1 : Addr) (k1 : ClassId) (v0 : UInt64) (v1 : UInt64) (v2 : UInt64) (h0 : Heap) (n0 : Nat) (v : Option Value) (h : Heap) (L : List Loc) : Prop := v = some (.double (9218868437227405312 : UInt64)) ∧ Fr n0 L ∧ h = h0
set_option maxRecDepth 65536 in
set_option maxHeartbeats 40000000 in
theorem up3_2 (l : Launch) (Z : State) (a0 : Array Value) (hw : ∀ d ∈ tables_1, d.before a0 Z = true) (ws : List Jvm.Cond) (a : Addr) (x1 : Addr) (k1 : ClassId) (v0 : UInt64) (v1 : UInt64) (v2 : UInt64) (h0 : Heap) (n0 : Nat) (Z0 : n0 ≤ h0.size) (F0 : Fld Z h0 a "com/example/gleitfahrt/gleitfahrt/engine/ForceCurve$Table" "speedsMs" "[D" (.ref x1)) (Vx1 : Arv Z h0 x1 k1 .double (3 : Int32) [(.double v0), (.double v1), (.double v2)] (.double (0 : UInt64))) :
    MetFree l (⟨"com/example/gleitfahrt/gleitfahrt/engine/ForceCurve$Table", "upperMs", "(I)D"⟩ : MethodName) (head1 (Jvm.Cond.code (⟨"com/example/gleitfahrt/gleitfahrt/engine/ForceCurve$Table", "upperMs", "(I)D"⟩ : MethodName) prog_11_method_4_code 2 (some .double) :: ws) ({ frames := 0, cells := 0, slots := 0, locals := 0 } : Room)) (fun a_ U => a_ = #[(.ref a), (.int (2 : Int32))] ∧ Z.Warmed39 U.vm ∧ U.heap = h0) (fun _ _ _ _ _ => True) (fun _ U o U' => ∃ v L, o = .returned v ∧ Q37 Z a x1 k1 v0 v1 v2 h0 n0 v U'.heap L ∧ FrameEnd U o U' L (({ frames := 0, cells := 0, slots := 0, locals := 0 } : Room)).cells (({ frames := 0, cells := 0, slots := 0, locals := 0 } : Room)).slots) := by
  refine MetFree.of_bodySF (plainFor_of_name pn_37) hisR ?_
  intro p e s m args below meth c s₁ Bd hml0 hP0 hK
  obtain ⟨rfl, hZ, hh⟩ := hP0
  have hx := Bd.exec
  have hby := Bd.bytes
  have hml : c.maxLocals = 2 := hml0
  have hown : s.vm.findClass "com/example/gleitfahrt/gleitfahrt/engine/ForceCurve$Table" = some m.cls := findClass_of_methodNamed Bd.named
  have hnm := (name_of_methodNamed Bd.named Bd.method).1
  have X0 : Stand p l e ({ frames := 0, cells := 0, slots := 0, locals := 0 } : Room) s m #[(.ref a), (.int (2 : Int32))] below meth c s₁ [] 0 0 := Stand.of_body Bd
  have e0 : s₁.heap = h0 := by rw [← hh, Bd.state]; rfl
  have N0 := Fr.nil n0
  have hlk : meth.locks = false := BodyLoose.notSynchronized Bd
  refine Go.start (P₀ := fun s₂ o => ∃ v L, o = .returned v ∧ Q37 Z a x1 k1 v0 v1 v2 h0 n0 v s₂.heap L ∧ FrameEnd s o s₂ L (({ frames := 0, cells := 0, slots := 0, locals := 0 } : Room)).cells (({ frames := 0, cells := 0, slots := 0, locals := 0 } : Room)).slots) (congrArg s₁.setTop (ef_37 m a (2 : Int32))) ?_
  intro P hP
  show Go p.tables e below P (s₁.setTop (mkF m 0 #[.val (.ref a), .val (.int (2 : Int32))] []))
  refine Go.step (fun t k => XS.iloadN X0.here hx rfl (hb hby d37_0) rfl  k) ?_
  show Go p.tables e below P (s₁.setTop (mkF m 1 #[.val (.ref a), .val (.int (2 : Int32))] [(.int (2 : Int32))]))
  refine Go.step (fun t k => XS.iconst X0.here hx rfl (hb hby d37_1) k) ?_
  show Go p.tables e below P (s₁.setTop (mkF m 2 #[.val (.ref a), .val (.int (2 : Int32))] [(.int (1 : Int32)), (.int (2 : Int32))]))
  obtain ⟨ja, hja⟩ : ∃ z : Int32, (2 : Int32) + (1 : Int32) = z := ⟨_, rfl⟩
  refine Go.step (fun t k => iadd_v X0.here hx rfl (hb hby d37_2) rfl  hja k) ?_
  show Go p.tables e below P (s₁.setTop (mkF m 3 #[.val (.ref a), .val (.int (2 : Int32))] [(.int ja)]))
  have ez_ja : ja = (3 : Int32) := by rw [← hja]; rfl
  subst ez_ja
  show Go p.tables e below P (s₁.setTop (mkF m 3 #[.val (.ref a), .val (.int (2 : Int32))] [(.int (3 : Int32))]))
  refine Go.step (fun t k => XS.aloadN X0.here hx rfl (hb hby d37_3) rfl rfl k) ?_
  show Go p.tables e below P (s₁.setTop (mkF m 4 #[.val (.ref a), .val (.int (2 : Int32))] [(.ref a), (.int (3 : Int32))]))
  obtain ⟨T_1, X_1, e_1, st_1⟩ := getF X0 hx hZ hown (host := "") (Or.inl (hw _ (List.mem_of_getElem? (i := 31) rfl))) Via.refl e0 F0 (g := (mkF m 4 #[.val (.ref a), .val (.int (2 : Int32))] [(.ref a), (.int (3 : Int32))])) rfl rfl (hb hby d37_4)
  refine Go.step (fun t k => st_1 t k) ?_
  show Go p.tables e below P (T_1.setTop (mkF m 7 #[.val (.ref a), .val (.int (2 : Int32))] [(.ref x1), (.int (3 : Int32))]))
  have vq_2 := Vx1
  obtain ⟨cl_2, Ar_2, q_2, S_2, Nn_2, H_2, G_2⟩ := vq_2
  refine Go.step (fun t k => X_1.arraylength hx (by rw [e_1]; exact Ar_2.1) (State.isArrayOf_alike hZ.alike Ar_2.2.1) (g := (mkF m 7 #[.val (.ref a), .val (.int (2 : Int32))] [(.ref x1), (.int (3 : Int32))])) rfl rfl (hb hby d37_7) t k) ?_
  rw [len_of S_2 Nn_2]
  show Go p.tables e below P (T_1.setTop (mkF m 8 #[.val (.ref a), .val (.int (2 : Int32))] [(.int (3 : Int32)), (.int (3 : Int32))]))
  refine Go.step (fun t k => XS.icmpYes X_1.here hx rfl (pc0 := 8) (pc' := 22) rfl (hb hby d37_8) rfl (icY (cd := .ge) (by decide : (3 : Int) ≤ (3 : Int))) (by decide) (by decide) k) ?_
  show Go p.tables e below P (T_1.setTop (mkF m 22 #[.val (.ref a), .val (.int (2 : Int32))] []))
  refine Go.step (fun t k => X_1.ldc2DoubleC hx hown (mvT hZ (hw _ (List.mem_of_getElem? (i := 41) rfl))) (g := (mkF m 22 #[.val (.ref a), .val (.int (2 : Int32))] [])) rfl (hb hby d37_22) t k) ?_
  show Go p.tables e below P (T_1.setTop (mkF m 25 #[.val (.ref a), .val (.int (2 : Int32))] [(.double (9218868437227405312 : UInt64))]))
  exact retGo X_1 hx hP Bd.returns hlk rfl (Or.inr (Or.inr (Or.inl ⟨rfl, rfl, _, rfl⟩))) (hb hby d37_25) (by decide) (by decide) (by rw [e_1]; exact ⟨rfl, N0, rfl⟩)
theorem d14_0 : decode prog_11_method_1_code 0 = .ok (.aload_n 0, 1) := by decide +kernel
theorem d14_1 : decode prog_11_method_1_code 1 = .ok (.invokespecial 1, 3) := by decide +kernel
theorem d14_4 : decode prog_11_method_1_code 4 = .ok (.aload_n 1, 1) := by decide +kernel
theorem d14_5 : decode prog_11_method_1_code 5 = .ok (.arraylength, 1) := by decide +kernel
theorem d14_6 : decode prog_11_method_1_code 6 = .ok (.ifCond .eq 10, 3) := by decide +kernel
theorem d14_9 : decode prog_11_method_1_code 9 = .ok (.aload_n 1, 1) := by decide +kernel
theorem d14_10 : decode prog_11_method_1_code 10 = .ok (.arraylength, 1) := by decide +kernel
theorem d14_11 : decode prog_11_method_1_code 11 = .ok (.aload_n 2, 1) := by decide +kernel
theorem d14_12 : decode prog_11_method_1_code 12 = .ok (.arraylength, 1) := by decide +kernel
theorem d14_13 : decode prog_11_method_1_code 13 = .ok (.if_icmp .eq 13, 3) := by decide +kernel
theorem d14_26 : decode prog_11_method_1_code 26 = .ok (.iconst 0, 1) := by decide +kernel
theorem d14_27 : decode prog_11_method_1_code 27 = .ok (.istore_n 3, 1) := by decide +kernel
theorem d14_28 : decode prog_11_method_1_code 28 = .ok (.iload_n 3, 1) := by decide +kernel
theorem d14_29 : decode prog_11_method_1_code 29 = .ok (.aload_n 1, 1) := by decide +kernel
theorem d14_30 : decode prog_11_method_1_code 30 = .ok (.arraylength, 1) := by decide +kernel
theorem d14_31 : decode prog_11_method_1_code 31 = .ok (.if_icmp .ge 99, 3) := by decide +kernel
theorem d14_34 : decode prog_11_method_1_code 34 = .ok (.iload_n 3, 1) := by decide +kernel
theorem d14_35 : decode prog_11_method_1_code 35 = .ok (.ifCond .ne 19, 3) := by decide +kernel
theorem d14_38 : decode prog_11_method_1_code 38 = .ok (.aload_n 1, 1) := by decide +kernel
theorem d14_39 : decode prog_11_method_1_code 39 = .ok (.iload_n 3, 1) := by decide +kernel
theorem d14_40 : decode prog_11_method_1_code 40 = .ok (.daload, 1) := by decide +kernel
theorem d14_41 : decode prog_11_method_1_code 41 = .ok (.dconst 0, 1) := by decide +kernel
theorem d14_42 : decode prog_11_method_1_code 42 = .ok (.dcmp .l, 1) := by decide +kernel
theorem d14_43 : decode prog_11_method_1_code 43 = .ok (.ifCond .lt 7, 3) := by decide +kernel
theorem d14_46 : decode prog_11_method_1_code 46 = .ok (.iconst 1, 1) := by decide +kernel
theorem d14_47 : decode prog_11_method_1_code 47 = .ok (.goto 24, 3) := by decide +kernel
theorem d14_54 : decode prog_11_method_1_code 54 = .ok (.aload_n 1, 1) := by decide +kernel
theorem d14_55 : decode prog_11_method_1_code 55 = .ok (.iload_n 3, 1) := by decide +kernel
theorem d14_56 : decode prog_11_method_1_code 56 = .ok (.daload, 1) := by decide +kernel
theorem d14_57 : decode prog_11_method_1_code 57 = .ok (.aload_n 1, 1) := by decide +kernel
theorem d14_58 : decode prog_11_method_1_code 58 = .ok (.iload_n 3, 1) := by decide +kernel
theorem d14_59 : decode prog_11_method_1_code 59 = .ok (.iconst 1, 1) := by decide +kernel
theorem d14_60 : decode prog_11_method_1_code 60 = .ok (.isub, 1) := by decide +kernel
theorem d14_61 : decode prog_11_method_1_code 61 = .ok (.daload, 1) := by decide +kernel
theorem d14_62 : decode prog_11_method_1_code 62 = .ok (.dcmp .l, 1) := by decide +kernel
theorem d14_63 : decode prog_11_method_1_code 63 = .ok (.ifCond .le 7, 3) := by decide +kernel
theorem d14_66 : decode prog_11_method_1_code 66 = .ok (.iconst 1, 1) := by decide +kernel
theorem d14_67 : decode prog_11_method_1_code 67 = .ok (.goto 4, 3) := by decide +kernel
theorem d14_71 : decode prog_11_method_1_code 71 = .ok (.istore 4, 2) := by decide +kernel
theorem d14_73 : decode prog_11_method_1_code 73 = .ok (.iload 4, 2) := by decide +kernel
theorem d14_75 : decode prog_11_method_1_code 75 = .ok (.ifCond .eq 12, 3) := by decide +kernel
theorem d14_78 : decode prog_11_method_1_code 78 = .ok (.aload_n 1, 1) := by decide +kernel
theorem d14_79 : decode prog_11_method_1_code 79 = .ok (.iload_n 3, 1) := by decide +kernel
theorem d14_80 : decode prog_11_method_1_code 80 = .ok (.daload, 1) := by decide +kernel
theorem d14_81 : decode prog_11_method_1_code 81 = .ok (.invokestatic 14, 3) := by decide +kernel
theorem d14_84 : decode prog_11_method_1_code 84 = .ok (.ifCond .ne 13, 3) := by decide +kernel
theorem d14_97 : decode prog_11_method_1_code 97 = .ok (.aload_n 2, 1) := by decide +kernel
theorem d14_98 : decode prog_11_method_1_code 98 = .ok (.iload_n 3, 1) := by decide +kernel
theorem d14_99 : decode prog_11_method_1_code 99 = .ok (.daload, 1) := by decide +kernel
theorem d14_100 : decode prog_11_method_1_code 100 = .ok (.dconst 0, 1) := by decide +kernel
theorem d14_101 : decode prog_11_method_1_code 101 = .ok (.dcmp .l, 1) := by decide +kernel
theorem d14_102 : decode prog_11_method_1_code 102 = .ok (.ifCond .lt 12, 3) := by decide +kernel
theorem d14_105 : decode prog_11_method_1_code 105 = .ok (.aload_n 2, 1) := by decide +kernel
theorem d14_106 : decode prog_11_method_1_code 106 = .ok (.iload_n 3, 1) := by decide +kernel
theorem d14_107 : decode prog_11_method_1_code 107 = .ok (.daload, 1) := by decide +kernel
theorem d14_108 : decode prog_11_method_1_code 108 = .ok (.invokestatic 14, 3) := by decide +kernel
theorem d14_111 : decode prog_11_method_1_code 111 = .ok (.ifCond .ne 13, 3) := by decide +kernel
theorem d14_124 : decode prog_11_method_1_code 124 = .ok (.iinc 3 1, 3) := by decide +kernel
theorem d14_127 : decode prog_11_method_1_code 127 = .ok (.goto (-99), 3) := by decide +kernel
theorem d14_130 : decode prog_11_method_1_code 130 = .ok (.aload_n 0, 1) := by decide +kernel
theorem d14_131 : decode prog_11_method_1_code 131 = .ok (.aload_n 1, 1) := by decide +kernel
theorem d14_132 : decode prog_11_method_1_code 132 = .ok (.invokevirtual 24, 3) := by decide +kernel
theorem d14_135 : decode prog_11_method_1_code 135 = .ok (.checkcast 25, 3) := by decide +kernel
theorem d14_138 : decode prog_11_method_1_code 138 = .ok (.putfield 30, 3) := by decide +kernel
theorem d14_141 : decode prog_11_method_1_code 141 = .ok (.aload_n 0, 1) := by decide +kernel
theorem d14_142 : decode prog_11_method_1_code 142 = .ok (.aload_n 2, 1) := by decide +kernel
theorem d14_143 : decode prog_11_method_1_code 143 = .ok (.invokevirtual 24, 3) := by decide +kernel
theorem d14_146 : decode prog_11_method_1_code 146 = .ok (.checkcast 25, 3) := by decide +kernel
theorem d14_149 : decode prog_11_method_1_code 149 = .ok (.putfield 35, 3) := by decide +kernel
theorem d14_152 : decode prog_11_method_1_code 152 = .ok (.return_, 1) := by decide +kernel
theorem pn_14 : plainName "com/example/gleitfahrt/gleitfahrt/engine/ForceCurve$Table" = true := by first | (simp [plainName, overriddenIn]; done) | decide +kernel
theorem ef_14 (m : MethodId) (x0 : Addr) (x1 : Addr) (x2 : Addr) : entryFrame m #[(.ref x0), (.ref x1), (.ref x2)] 5 = mkF m 0 #[.val (.ref x0), .val (.ref x1), .val (.ref x2), .unset, .unset] [] := by first | (simp [entryFrame, mkF, argsToLocals, Value.category]; done) | rfl
def Q14 (Z : State) (a : Addr) (y1 : Addr) (y2 : Addr) (k1 : ClassId) (k2 : ClassId) (v0 : UInt64) (v1 : UInt64) (v2 : UInt64) (v3 : UInt64) (fv : UInt64) (z0 : Int) (z1 : Int) (z2 : Int) (z3 : Int) (zf : Int) (h0 : Heap) (n0 : Nat) (v : Option Value) (h : Heap) (L : List Loc) : Prop := v = none ∧ Fr n0 L ∧ Keep h0 h [a] ∧ Exa Z h a "com/example/gleitfahrt/gleitfahrt/engine/ForceCurve$Table" ∧ ∃ (x1 : Addr), Fld Z h a "com/example/gleitfahrt/gleitfahrt/engine/ForceCurve$Table" "speedsMs" "[D" (.ref x1) ∧ Arv Z h x1 k1 .double (4 : Int32) [(.double v0), (.double v1), (.double v2), (.double v3)] (.double (0 : UInt64))
set_option maxRecDepth 65536 in
set_option maxHeartbeats 40000000 in
theorem rm14 (l : Launch) (Z : State) (a0 : Array Value) (hw : ∀ d ∈ tables_1, d.before a0 Z = true) (ws : List Jvm.Cond) (a : Addr) (y1 : Addr) (y2 : Addr) (k1 : ClassId) (k2 : ClassId) (v0 : UInt64) (v1 : UInt64) (v2 : UInt64) (v3 : UInt64) (fv : UInt64) (z0 : Int) (z1 : Int) (z2 : Int) (z3 : Int) (zf : Int) (h0 : Heap) (n0 : Nat) (Z0 : n0 ≤ h0.size) (E_a : Exa Z h0 a "com/example/gleitfahrt/gleitfahrt/engine/ForceCurve$Table") (F0 : Fld Z h0 a "com/example/gleitfahrt/gleitfahrt/engine/ForceCurve$Table" "speedsMs" "[D" .null) (F1 : Fld Z h0 a "com/example/gleitfahrt/gleitfahrt/engine/ForceCurve$Table" "forcesN" "[D" .null) (g_a : n0 ≤ a) (Ey1 : Exa Z h0 y1 "[D") (Ey2 : Exa Z h0 y2 "[D") (Vy1 : Arv Z h0 y1 k1 .double (4 : Int32) [(.double v0), (.double v1), (.double v2), (.double v3)] (.double (0 : UInt64))) (Vy2 : Arv Z h0 y2 k2 .double (4 : Int32) [(.double fv), (.double fv), (.double fv), (.double fv)] (.double (0 : UInt64))) (na1 : a ≠ y1) (na2 : a ≠ y2) (q0 : DE 1074 z0 v0) (q1 : DE 1074 z1 v1) (q2 : DE 1074 z2 v2) (q3 : DE 1074 z3 v3) (qf : DE 1074 zf fv) (bf : 0 ≤ zf) (b0 : 0 ≤ z0) (b1 : z0 < z1) (b2 : z1 < z2) (b3 : z2 < z3) :
    MetFree l (⟨"com/example/gleitfahrt/gleitfahrt/engine/ForceCurve$Table", "<init>", "([D[D)V"⟩ : MethodName) (head1 (Jvm.Cond.code (⟨"com/example/gleitfahrt/gleitfahrt/engine/ForceCurve$Table", "<init>", "([D[D)V"⟩ : MethodName) prog_11_method_1_code 5 none :: ws) ({ frames := 2, cells := 2, slots := 8, locals := 26 } : Room)) (fun a_ U => a_ = #[(.ref a), (.ref y1), (.ref y2)] ∧ Z.Warmed39 U.vm ∧ U.heap = h0) (fun _ _ _ _ _ => True) (fun _ U o U' => ∃ v L, o = .returned v ∧ Q14 Z a y1 y2 k1 k2 v0 v1 v2 v3 fv z0 z1 z2 z3 zf h0 n0 v U'.heap L ∧ FrameEnd U o U' L (({ frames := 2, cells := 2, slots := 8, locals := 26 } : Room)).cells (({ frames := 2, cells := 2, slots := 8, locals := 26 } : Room)).slots) := by
  refine MetFree.of_bodySF (plainFor_of_name pn_14) hisR ?_
  intro p e s m args below meth c s₁ Bd hml0 hP0 hK
  obtain ⟨rfl, hZ, hh⟩ := hP0
  have hx := Bd.exec
  have hby := Bd.bytes
  have hml : c.maxLocals = 5 := hml0
  have hown : s.vm.findClass "com/example/gleitfahrt/gleitfahrt/engine/ForceCurve$Table" = some m.cls := findClass_of_methodNamed Bd.named
  have hnm := (name_of_methodNamed Bd.named Bd.method).1
  have X0 : Stand p l e ({ frames := 2, cells := 2, slots := 8, locals := 26 } : Room) s m #[(.ref a), (.ref y1), (.ref y2)] below meth c s₁ [] 0 0 := Stand.of_body Bd
  have e0 : s₁.heap = h0 := by rw [← hh, Bd.state]; rfl
  have N0 := Fr.nil n0
  have hlk : meth.locks = false := BodyLoose.notSynchronized Bd
  refine Go.start (P₀ := fun s₂ o => ∃ v L, o = .returned v ∧ Q14 Z a y1 y2 k1 k2 v0 v1 v2 v3 fv z0 z1 z2 z3 zf h0 n0 v s₂.heap L ∧ FrameEnd s o s₂ L (({ frames := 2, cells := 2, slots := 8, locals := 26 } : Room)).cells (({ frames := 2, cells := 2, slots := 8, locals := 26 } : Room)).slots) (congrArg s₁.setTop (ef_14 m a y1 y2)) ?_
  intro P hP
  show Go p.tables e below P (s₁.setTop (mkF m 0 #[.val (.ref a), .val (.ref y1), .val (.ref y2), .unset, .unset] []))
  refine Go.step (fun t k => XS.aloadN X0.here hx rfl (hb hby d14_0) rfl rfl k) ?_
  show Go p.tables e below P (s₁.setTop (mkF m 1 #[.val (.ref a), .val (.ref y1), .val (.ref y2), .unset, .unset] [(.ref a)]))
  obtain ⟨T_1, X_1, e_1, st_1⟩ := initO X0 hx hZ hown (hw _ (List.mem_of_getElem? (i := 10) rfl)) (hw _ (List.mem_of_getElem? (i := 11) rfl)) (hw _ (List.mem_of_getElem? (i := 12) rfl)) e0 (g := (mkF m 1 #[.val (.ref a), .val (.ref y1), .val (.ref y2), .unset, .unset] [(.ref a)])) rfl (by rw [hml]; rfl) rfl (hb hby d14_1) (by decide) (W := 0) (by show 2 * 0 + _ ≤ _; exact Nat.le_of_eq rfl) (by decide)
  refine Go.step (fun t k => st_1 t k) ?_
  show Go p.tables e below P (T_1.setTop (mkF m 4 #[.val (.ref a), .val (.ref y1), .val (.ref y2), .unset, .unset] []))
  refine Go.step (fun t k => XS.aloadN X_1.here hx rfl (hb hby d14_4) rfl rfl k) ?_
  show Go p.tables e below P (T_1.setTop (mkF m 5 #[.val (.ref a), .val (.ref y1), .val (.ref y2), .unset, .unset] [(.ref y1)]))
  have vq_2 := Vy1
  obtain ⟨cl_2, Ar_2, q_2, S_2, Nn_2, H_2, G_2⟩ := vq_2
  refine Go.step (fun t k => X_1.arraylength hx (by rw [e_1]; exact Ar_2.1) (State.isArrayOf_alike hZ.alike Ar_2.2.1) (g := (mkF m 5 #[.val (.ref a), .val (.ref y1), .val (.ref y2), .unset, .unset] [(.ref y1)])) rfl rfl (hb hby d14_5) t k) ?_
  rw [len_of S_2 Nn_2]
  show Go p.tables e below P (T_1.setTop (mkF m 6 #[.val (.ref a), .val (.ref y1), .val (.ref y2), .unset, .unset] [(.int (4 : Int32))]))
  refine Go.step (fun t k => XS.ifNo X_1.here hx rfl (hb hby d14_6) rfl (ifN (cd := .eq) (by decide : ¬ ((4 : Int) = 0))) k) ?_
  show Go p.tables e below P (T_1.setTop (mkF m 9 #[.val (.ref a), .val (.ref y1), .val (.ref y2), .unset, .unset] []))
  refine Go.step (fun t k => XS.aloadN X_1.here hx rfl (hb hby d14_9) rfl rfl k) ?_
  show Go p.tables e below P (T_1.setTop (mkF m 10 #[.val (.ref a), .val (.ref y1), .val (.ref y2), .unset, .unset] [(.ref y1)]))
  have vq_3 := Vy1
  obtain ⟨cl_3, Ar_3, q_3, S_3, Nn_3, H_3, G_3⟩ := vq_3
  refine Go.step (fun t k => X_1.arraylength hx (by rw [e_1]; exact Ar_3.1) (State.isArrayOf_alike hZ.alike Ar_3.2.1) (g := (mkF m 10 #[.val (.ref a), .val (.ref y1), .val (.ref y2), .unset, .unset] [(.ref y1)])) rfl rfl (hb hby d14_10) t k) ?_
  rw [len_of S_3 Nn_3]
  show Go p.tables e below P (T_1.setTop (mkF m 11 #[.val (.ref a), .val (.ref y1), .val (.ref y2), .unset, .unset] [(.int (4 : Int32))]))
  refine Go.step (fun t k => XS.aloadN X_1.here hx rfl (hb hby d14_11) rfl rfl k) ?_
  show Go p.tables e below P (T_1.setTop (mkF m 12 #[.val (.ref a), .val (.ref y1), .val (.ref y2), .unset, .unset] [(.ref y2), (.int (4 : Int32))]))
  have vq_4 := Vy2
  obtain ⟨cl_4, Ar_4, q_4, S_4, Nn_4, H_4, G_4⟩ := vq_4
  refine Go.step (fun t k => X_1.arraylength hx (by rw [e_1]; exact Ar_4.1) (State.isArrayOf_alike hZ.alike Ar_4.2.1) (g := (mkF m 12 #[.val (.ref a), .val (.ref y1), .val (.ref y2), .unset, .unset] [(.ref y2), (.int (4 : Int32))])) rfl rfl (hb hby d14_12) t k) ?_
  rw [len_of S_4 Nn_4]
  show Go p.tables e below P (T_1.setTop (mkF m 13 #[.val (.ref a), .val (.ref y1), .val (.ref y2), .unset, .unset] [(.int (4 : Int32)), (.int (4 : Int32))]))
  refine Go.step (fun t k => XS.icmpYes X_1.here hx rfl (pc0 := 13) (pc' := 26) rfl (hb hby d14_13) rfl (icY (cd := .eq) (by decide : (4 : Int) = (4 : Int))) (by decide) (by decide) k) ?_
  show Go p.tables e below P (T_1.setTop (mkF m 26 #[.val (.ref a), .val (.ref y1), .val (.ref y2), .unset, .unset] []))
  refine Go.step (fun t k => XS.iconst X_1.here hx rfl (hb hby d14_26) k) ?_
  show Go p.tables e below P (T_1.setTop (mkF m 27 #[.val (.ref a), .val (.ref y1), .val (.ref y2), .unset, .unset] [(.int (0 : Int32))]))
  refine Go.step (fun t k => XS.istoreN X_1.here hx rfl (hb hby d14_27) rfl (l' := #[.val (.ref a), .val (.ref y1), .val (.ref y2), .val (.int (0 : Int32)), .unset]) rfl k) ?_
  show Go p.tables e below P (T_1.setTop (mkF m 28 #[.val (.ref a), .val (.ref y1), .val (.ref y2), .val (.int (0 : Int32)), .unset] []))
  refine Go.step (fun t k => XS.iloadN X_1.here hx rfl (hb hby d14_28) rfl  k) ?_
  show Go p.tables e below P (T_1.setTop (mkF m 29 #[.val (.ref a), .val (.ref y1), .val (.ref y2), .val (.int (0 : Int32)), .unset] [(.int (0 : Int32))]))
  refine Go.step (fun t k => XS.aloadN X_1.here hx rfl (hb hby d14_29) rfl rfl k) ?_
  show Go p.tables e below P (T_1.setTop (mkF m 30 #[.val (.ref a), .val (.ref y1), .val (.ref y2), .val (.int (0 : Int32)), .unset] [(.ref y1), (.int (0 : Int32))]))
  have vq_5 := Vy1
  obtain ⟨cl_5, Ar_5, q_5, S_5, Nn_5, H_5, G_5⟩ := vq_5
  refine Go.step (fun t k => X_1.arraylength hx (by rw [e_1]; exact Ar_5.1) (State.isArrayOf_alike hZ.alike Ar_5.2.1) (g := (mkF m 30 #[.val (.ref a), .val (.ref y1), .val (.ref y2), .val (.int (0 : Int32)), .unset] [(.ref y1), (.int (0 : Int32))])) rfl rfl (hb hby d14_30) t k) ?_
  rw [len_of S_5 Nn_5]
  show Go p.tables e below P (T_1.setTop (mkF m 31 #[.val (.ref a), .val (.ref y1), .val (.ref y2), .val (.int (0 : Int32)), .unset] [(.int (4 : Int32)), (.int (0 : Int32))]))
  refine Go.step (fun t k => XS.icmpNo X_1.here hx rfl (hb hby d14_31) rfl (icN (cd := .ge) (by decide : ¬ ((4 : Int) ≤ (0 : Int)))) k) ?_
  show Go p.tables e below P (T_1.setTop (mkF m 34 #[.val (.ref a), .val (.ref y1), .val (.ref y2), .val (.int (0 : Int32)), .unset] []))
  refine Go.step (fun t k => XS.iloadN X_1.here hx rfl (hb hby d14_34) rfl  k) ?_
  show Go p.tables e below P (T_1.setTop (mkF m 35 #[.val (.ref a), .val (.ref y1), .val (.ref y2), .val (.int (0 : Int32)), .unset] [(.int (0 : Int32))]))
  refine Go.step (fun t k => XS.ifNo X_1.here hx rfl (hb hby d14_35) rfl (ifN (cd := .ne) (by decide : ¬ (¬ (0 : Int) = 0))) k) ?_
  show Go p.tables e below P (T_1.setTop (mkF m 38 #[.val (.ref a), .val (.ref y1), .val (.ref y2), .val (.int (0 : Int32)), .unset] []))
  refine Go.step (fun t k => XS.aloadN X_1.here hx rfl (hb hby d14_38) rfl rfl k) ?_
  show Go p.tables e below P (T_1.setTop (mkF m 39 #[.val (.ref a), .val (.ref y1), .val (.ref y2), .val (.int (0 : Int32)), .unset] [(.ref y1)]))
  refine Go.step (fun t k => XS.iloadN X_1.here hx rfl (hb hby d14_39) rfl  k) ?_
  show Go p.tables e below P (T_1.setTop (mkF m 40 #[.val (.ref a), .val (.ref y1), .val (.ref y2), .val (.int (0 : Int32)), .unset] [(.int (0 : Int32)), (.ref y1)]))
  have vq_6 := Vy1
  obtain ⟨cl_6, Ar_6, q_6, S_6, Nn_6, H_6, G_6⟩ := vq_6
  have hin_6 : ¬ ((0 : Int32) < 0 ∨ cl_6.slots.size ≤ ((0 : Int32)).toNatClampNeg) := inb_of S_6 ⟨by decide, by decide⟩
  have hat_6 : cl_6.slots[((0 : Int32)).toNatClampNeg]? = some (.double v0) := Has.at H_6 hin_6 rfl
  refine Go.step (fun t k => X_1.daload hx (j := (0 : Int32)) (v := (.double v0)) (by rw [e_1]; exact Ar_6.1) (State.isArrayOf_alike hZ.alike Ar_6.2.1) Ar_6.2.2 hin_6 hat_6 (g := (mkF m 40 #[.val (.ref a), .val (.ref y1), .val (.ref y2), .val (.int (0 : Int32)), .unset] [(.int (0 : Int32)), (.ref y1)])) rfl rfl (hb hby d14_40) t k) ?_
  show Go p.tables e below P (T_1.setTop (mkF m 41 #[.val (.ref a), .val (.ref y1), .val (.ref y2), .val (.int (0 : Int32)), .unset] [(.double v0)]))
  refine Go.step (fun t k => XS.dconst0 X_1.here hx rfl (hb hby d14_41) rfl k) ?_
  show Go p.tables e below P (T_1.setTop (mkF m 42 #[.val (.ref a), .val (.ref y1), .val (.ref y2), .val (.int (0 : Int32)), .unset] [(.double FP.dconst0), (.double v0)]))
  refine Go.step (fun t k => XS.dcmpS X_1.here hx rfl (hb hby d14_42) rfl rfl k) ?_
  show Go p.tables e below P (T_1.setTop (mkF m 43 #[.val (.ref a), .val (.ref y1), .val (.ref y2), .val (.int (0 : Int32)), .unset] [(.int (cmpValue (FP.dcmp v0 FP.dconst0) .l))]))
  refine Go.step (fun t k => XS.ifNo X_1.here hx rfl (hb hby d14_43) rfl (dcN (cd := .lt) (DE.cmp q0 (zero_e 1074)) (by omega : ¬ (z0 < 0))) k) ?_
  show Go p.tables e below P (T_1.setTop (mkF m 46 #[.val (.ref a), .val (.ref y1), .val (.ref y2), .val (.int (0 : Int32)), .unset] []))
  refine Go.step (fun t k => XS.iconst X_1.here hx rfl (hb hby d14_46) k) ?_
  show Go p.tables e below P (T_1.setTop (mkF m 47 #[.val (.ref a), .val (.ref y1), .val (.ref y2), .val (.int (0 : Int32)), .unset] [(.int (1 : Int32))]))
  refine Go.step (fun t k => XS.goto X_1.here hx rfl (pc0 := 47) (pc' := 71) rfl (hb hby d14_47) (by decide) (by decide) k) ?_
  show Go p.tables e below P (T_1.setTop (mkF m 71 #[.val (.ref a), .val (.ref y1), .val (.ref y2), .val (.int (0 : Int32)), .unset] [(.int (1 : Int32))]))
  refine Go.step (fun t k => XS.istore X_1.here hx rfl (hb hby d14_71) rfl (l' := #[.val (.ref a), .val (.ref y1), .val (.ref y2), .val (.int (0 : Int32)), .val (.int (1 : Int32))]) rfl k) ?_
  show Go p.tables e below P (T_1.setTop (mkF m 73 #[.val (.ref a), .val (.ref y1), .val (.ref y2), .val (.int (0 : Int32)), .val (.int (1 : Int32))] []))
  refine Go.step (fun t k => XS.iload X_1.here hx rfl (hb hby d14_73) rfl  k) ?_
  show Go p.tables e below P (T_1.setTop (mkF m 75 #[.val (.ref a), .val (.ref y1), .val (.ref y2), .val (.int (0 : Int32)), .val (.int (1 : Int32))] [(.int (1 : Int32))]))
  refine Go.step (fun t k => XS.ifNo X_1.here hx rfl (hb hby d14_75) rfl (ifN (cd := .eq) (by decide : ¬ ((1 : Int) = 0))) k) ?_
  show Go p.tables e below P (T_1.setTop (mkF m 78 #[.val (.ref a), .val (.ref y1), .val (.ref y2), .val (.int (0 : Int32)), .val (.int (1 : Int32))] []))
  refine Go.step (fun t k => XS.aloadN X_1.here hx rfl (hb hby d14_78) rfl rfl k) ?_
  show Go p.tables e below P (T_1.setTop (mkF m 79 #[.val (.ref a), .val (.ref y1), .val (.ref y2), .val (.int (0 : Int32)), .val (.int (1 : Int32))] [(.ref y1)]))
  refine Go.step (fun t k => XS.iloadN X_1.here hx rfl (hb hby d14_79) rfl  k) ?_
  show Go p.tables e below P (T_1.setTop (mkF m 80 #[.val (.ref a), .val (.ref y1), .val (.ref y2), .val (.int (0 : Int32)), .val (.int (1 : Int32))] [(.int (0 : Int32)), (.ref y1)]))
  have vq_7 := Vy1
  obtain ⟨cl_7, Ar_7, q_7, S_7, Nn_7, H_7, G_7⟩ := vq_7
  have hin_7 : ¬ ((0 : Int32) < 0 ∨ cl_7.slots.size ≤ ((0 : Int32)).toNatClampNeg) := inb_of S_7 ⟨by decide, by decide⟩
  have hat_7 : cl_7.slots[((0 : Int32)).toNatClampNeg]? = some (.double v0) := Has.at H_7 hin_7 rfl
  refine Go.step (fun t k => X_1.daload hx (j := (0 : Int32)) (v := (.double v0)) (by rw [e_1]; exact Ar_7.1) (State.isArrayOf_alike hZ.alike Ar_7.2.1) Ar_7.2.2 hin_7 hat_7 (g := (mkF m 80 #[.val (.ref a), .val (.ref y1), .val (.ref y2), .val (.int (0 : Int32)), .val (.int (1 : Int32))] [(.int (0 : Int32)), (.ref y1)])) rfl rfl (hb hby d14_80) t k) ?_
  show Go p.tables e below P (T_1.setTop (mkF m 81 #[.val (.ref a), .val (.ref y1), .val (.ref y2), .val (.int (0 : Int32)), .val (.int (1 : Int32))] [(.double v0)]))
  obtain ⟨_, _, ⟨T_8, L_8, k_8, n_8⟩, -, X_8, ⟨Lc_8, hQ_8, l_8, y_8, z_8⟩, st_8⟩ := Jvm.LawKit.callS X_1 hx (y := (⟨"java/lang/Double", "isFinite", "(D)Z"⟩ : MethodName)) hown (mvT hZ (hw _ (List.mem_of_getElem? (i := 13) rfl))) (mvT hZ (hw _ (List.mem_of_getElem? (i := 14) rfl))) (mvT hZ (hw _ (List.mem_of_getElem? (i := 15) rfl))) (mvT hZ (hw _ (List.mem_of_getElem? (i := 16) rfl))) (by decide) (backOf (W := 0) (rm1 l Z a0 hw [] v0 h0 n0 Z0 q0.1) hZ (hw _ (List.mem_of_getElem? (i := 16) rfl)) (hw _ (List.mem_of_getElem? (i := 15) rfl)) (by decide) (by decide)) (g := (mkF m 81 #[.val (.ref a), .val (.ref y1), .val (.ref y2), .val (.int (0 : Int32)), .val (.int (1 : Int32))] [(.double v0)])) rfl (by rw [hml]; rfl) (argsL := [(.double v0)]) (rest := []) (lenOf pd_1 rfl) rfl (by show 2 * 0 + _ ≤ _; exact Nat.le_of_eq rfl) (hb hby d14_81) (fun _ _ => ⟨rfl, e_1, (by decide : 0 + 0 ≤ _), (by decide : 0 + 0 ≤ _)⟩)
  dsimp only [Pt.U, Pt.locs, Pt.cells, Pt.slots] at X_8 l_8 y_8 z_8 st_8 hQ_8
  subst l_8 y_8 z_8
  obtain ⟨rfl, N_8q, eh_8⟩ := hQ_8
  have N_8 := Fr.app N0 N_8q
  refine Go.step (fun t k => st_8 t k) ?_
  show Go p.tables e below P (T_8.setTop (mkF m 84 #[.val (.ref a), .val (.ref y1), .val (.ref y2), .val (.int (0 : Int32)), .val (.int (1 : Int32))] [(.int (1 : Int32))]))
  refine Go.step (fun t k => XS.ifYes X_8.here hx rfl (pc0 := 84) (pc' := 97) rfl (hb hby d14_84) rfl (ifY (cd := .ne) (by decide : ¬ (1 : Int) = 0)) (by decide) (by decide) k) ?_
  show Go p.tables e below P (T_8.setTop (mkF m 97 #[.val (.ref a), .val (.ref y1), .val (.ref y2), .val (.int (0 : Int32)), .val (.int (1 : Int32))] []))
  refine Go.step (fun t k => XS.aloadN X_8.here hx rfl (hb hby d14_97) rfl rfl k) ?_
  show Go p.tables e below P (T_8.setTop (mkF m 98 #[.val (.ref a), .val (.ref y1), .val (.ref y2), .val (.int (0 : Int32)), .val (.int (1 : Int32))] [(.ref y2)]))
  refine Go.step (fun t k => XS.iloadN X_8.here hx rfl (hb hby d14_98) rfl  k) ?_
  show Go p.tables e below P (T_8.setTop (mkF m 99 #[.val (.ref a), .val (.ref y1), .val (.ref y2), .val (.int (0 : Int32)), .val (.int (1 : Int32))] [(.int (0 : Int32)), (.ref y2)]))
  have vq_9 := Vy2
  obtain ⟨cl_9, Ar_9, q_9, S_9, Nn_9, H_9, G_9⟩ := vq_9
  have hin_9 : ¬ ((0 : Int32) < 0 ∨ cl_9.slots.size ≤ ((0 : Int32)).toNatClampNeg) := inb_of S_9 ⟨by decide, by decide⟩
  have hat_9 : cl_9.slots[((0 : Int32)).toNatClampNeg]? = some (.double fv) := Has.at H_9 hin_9 rfl
  refine Go.step (fun t k => X_8.daload hx (j := (0 : Int32)) (v := (.double fv)) (by rw [eh_8]; exact Ar_9.1) (State.isArrayOf_alike hZ.alike Ar_9.2.1) Ar_9.2.2 hin_9 hat_9 (g := (mkF m 99 #[.val (.ref a), .val (.ref y1), .val (.ref y2), .val (.int (0 : Int32)), .val (.int (1 : Int32))] [(.int (0 : Int32)), (.ref y2)])) rfl rfl (hb hby d14_99) t k) ?_
  show Go p.tables e below P (T_8.setTop (mkF m 100 #[.val (.ref a), .val (.ref y1), .val (.ref y2), .val (.int (0 : Int32)), .val (.int (1 : Int32))] [(.double fv)]))
  refine Go.step (fun t k => XS.dconst0 X_8.here hx rfl (hb hby d14_100) rfl k) ?_
  show Go p.tables e below P (T_8.setTop (mkF m 101 #[.val (.ref a), .val (.ref y1), .val (.ref y2), .val (.int (0 : Int32)), .val (.int (1 : Int32))] [(.double FP.dconst0), (.double fv)]))
  refine Go.step (fun t k => XS.dcmpS X_8.here hx rfl (hb hby d14_101) rfl rfl k) ?_
  show Go p.tables e below P (T_8.setTop (mkF m 102 #[.val (.ref a), .val (.ref y1), .val (.ref y2), .val (.int (0 : Int32)), .val (.int (1 : Int32))] [(.int (cmpValue (FP.dcmp fv FP.dconst0) .l))]))
  refine Go.step (fun t k => XS.ifNo X_8.here hx rfl (hb hby d14_102) rfl (dcN (cd := .lt) (DE.cmp qf (zero_e 1074)) (by omega : ¬ (zf < 0))) k) ?_
  show Go p.tables e below P (T_8.setTop (mkF m 105 #[.val (.ref a), .val (.ref y1), .val (.ref y2), .val (.int (0 : Int32)), .val (.int (1 : Int32))] []))
  refine Go.step (fun t k => XS.aloadN X_8.here hx rfl (hb hby d14_105) rfl rfl k) ?_
  show Go p.tables e below P (T_8.setTop (mkF m 106 #[.val (.ref a), .val (.ref y1), .val (.ref y2), .val (.int (0 : Int32)), .val (.int (1 : Int32))] [(.ref y2)]))
  refine Go.step (fun t k => XS.iloadN X_8.here hx rfl (hb hby d14_106) rfl  k) ?_
  show Go p.tables e below P (T_8.setTop (mkF m 107 #[.val (.ref a), .val (.ref y1), .val (.ref y2), .val (.int (0 : Int32)), .val (.int (1 : Int32))] [(.int (0 : Int32)), (.ref y2)]))
  have vq_10 := Vy2
  obtain ⟨cl_10, Ar_10, q_10, S_10, Nn_10, H_10, G_10⟩ := vq_10
  have hin_10 : ¬ ((0 : Int32) < 0 ∨ cl_10.slots.size ≤ ((0 : Int32)).toNatClampNeg) := inb_of S_10 ⟨by decide, by decide⟩
  have hat_10 : cl_10.slots[((0 : Int32)).toNatClampNeg]? = some (.double fv) := Has.at H_10 hin_10 rfl
  refine Go.step (fun t k => X_8.daload hx (j := (0 : Int32)) (v := (.double fv)) (by rw [eh_8]; exact Ar_10.1) (State.isArrayOf_alike hZ.alike Ar_10.2.1) Ar_10.2.2 hin_10 hat_10 (g := (mkF m 107 #[.val (.ref a), .val (.ref y1), .val (.ref y2), .val (.int (0 : Int32)), .val (.int (1 : Int32))] [(.int (0 : Int32)), (.ref y2)])) rfl rfl (hb hby d14_107) t k) ?_
  show Go p.tables e below P (T_8.setTop (mkF m 108 #[.val (.ref a), .val (.ref y1), .val (.ref y2), .val (.int (0 : Int32)), .val (.int (1 : Int32))] [(.double fv)]))
  obtain ⟨_, _, ⟨T_11, L_11, k_11, n_11⟩, -, X_11, ⟨Lc_11, hQ_11, l_11, y_11, z_11⟩, st_11⟩ := Jvm.LawKit.callS X_8 hx (y := (⟨"java/lang/Double", "isFinite", "(D)Z"⟩ : MethodName)) hown (mvT hZ (hw _ (List.mem_of_getElem? (i := 13) rfl))) (mvT hZ (hw _ (List.mem_of_getElem? (i := 14) rfl))) (mvT hZ (hw _ (List.mem_of_getElem? (i := 15) rfl))) (mvT hZ (hw _ (List.mem_of_getElem? (i := 16) rfl))) (by decide) (backOf (W := 0) (rm1 l Z a0 hw [] fv h0 n0 Z0 qf.1) hZ (hw _ (List.mem_of_getElem? (i := 16) rfl)) (hw _ (List.mem_of_getElem? (i := 15) rfl)) (by decide) (by decide)) (g := (mkF m 108 #[.val (.ref a), .val (.ref y1), .val (.ref y2), .val (.int (0 : Int32)), .val (.int (1 : Int32))] [(.double fv)])) rfl (by rw [hml]; rfl) (argsL := [(.double fv)]) (rest := []) (lenOf pd_1 rfl) rfl (by show 2 * 0 + _ ≤ _; exact Nat.le_of_eq rfl) (hb hby d14_108) (fun _ _ => ⟨rfl, eh_8, (by decide : 0 + 0 ≤ _), (by decide : 0 + 0 ≤ _)⟩)
  dsimp only [Pt.U, Pt.locs, Pt.cells, Pt.slots] at X_11 l_11 y_11 z_11 st_11 hQ_11
  subst l_11 y_11 z_11
  obtain ⟨rfl, N_11q, eh_11⟩ := hQ_11
  have N_11 := Fr.app N_8 N_11q
  refine Go.step (fun t k => st_11 t k) ?_
  show Go p.tables e below P (T_11.setTop (mkF m 111 #[.val (.ref a), .val (.ref y1), .val (.ref y2), .val (.int (0 : Int32)), .val (.int (1 : Int32))] [(.int (1 : Int32))]))
  refine Go.step (fun t k => XS.ifYes X_11.here hx rfl (pc0 := 111) (pc' := 124) rfl (hb hby d14_111) rfl (ifY (cd := .ne) (by decide : ¬ (1 : Int) = 0)) (by decide) (by decide) k) ?_
  show Go p.tables e below P (T_11.setTop (mkF m 124 #[.val (.ref a), .val (.ref y1), .val (.ref y2), .val (.int (0 : Int32)), .val (.int (1 : Int32))] []))
  obtain ⟨ni, hni⟩ : ∃ z : Int32, (0 : Int32) + (1 : Int32) = z := ⟨_, rfl⟩
  refine Go.step (fun t k => XS.iinc X_11.here hx rfl (hb hby d14_124) rfl (l' := #[.val (.ref a), .val (.ref y1), .val (.ref y2), .val (.int ((0 : Int32) + (1 : Int32))), .val (.int (1 : Int32))]) rfl k) ?_
  show Go p.tables e below P (T_11.setTop (mkF m 127 #[.val (.ref a), .val (.ref y1), .val (.ref y2), .val (.int ((0 : Int32) + (1 : Int32))), .val (.int (1 : Int32))] []))
  rw [hni]
  show Go p.tables e below P (T_11.setTop (mkF m 127 #[.val (.ref a), .val (.ref y1), .val (.ref y2), .val (.int ni), .val (.int (1 : Int32))] []))
  have ez_ni : ni = (1 : Int32) := by rw [← hni]; rfl
  subst ez_ni
  show Go p.tables e below P (T_11.setTop (mkF m 127 #[.val (.ref a), .val (.ref y1), .val (.ref y2), .val (.int (1 : Int32)), .val (.int (1 : Int32))] []))
  refine Go.step (fun t k => XS.goto X_11.here hx rfl (pc0 := 127) (pc' := 28) rfl (hb hby d14_127) (by decide) (by decide) k) ?_
  show Go p.tables e below P (T_11.setTop (mkF m 28 #[.val (.ref a), .val (.ref y1), .val (.ref y2), .val (.int (1 : Int32)), .val (.int (1 : Int32))] []))
  refine Go.step (fun t k => XS.iloadN X_11.here hx rfl (hb hby d14_28) rfl  k) ?_
  show Go p.tables e below P (T_11.setTop (mkF m 29 #[.val (.ref a), .val (.ref y1), .val (.ref y2), .val (.int (1 : Int32)), .val (.int (1 : Int32))] [(.int (1 : Int32))]))
  refine Go.step (fun t k => XS.aloadN X_11.here hx rfl (hb hby d14_29) rfl rfl k) ?_
  show Go p.tables e below P (T_11.setTop (mkF m 30 #[.val (.ref a), .val (.ref y1), .val (.ref y2), .val (.int (1 : Int32)), .val (.int (1 : Int32))] [(.ref y1), (.int (1 : Int32))]))
  have vq_12 := Vy1
  obtain ⟨cl_12, Ar_12, q_12, S_12, Nn_12, H_12, G_12⟩ := vq_12
  refine Go.step (fun t k => X_11.arraylength hx (by rw [eh_11]; exact Ar_12.1) (State.isArrayOf_alike hZ.alike Ar_12.2.1) (g := (mkF m 30 #[.val (.ref a), .val (.ref y1), .val (.ref y2), .val (.int (1 : Int32)), .val (.int (1 : Int32))] [(.ref y1), (.int (1 : Int32))])) rfl rfl (hb hby d14_30) t k) ?_
  rw [len_of S_12 Nn_12]
  show Go p.tables e below P (T_11.setTop (mkF m 31 #[.val (.ref a), .val (.ref y1), .val (.ref y2), .val (.int (1 : Int32)), .val (.int (1 : Int32))] [(.int (4 : Int32)), (.int (1 : Int32))]))
  refine Go.step (fun t k => XS.icmpNo X_11.here hx rfl (hb hby d14_31) rfl (icN (cd := .ge) (by decide : ¬ ((4 : Int) ≤ (1 : Int)))) k) ?_
  show Go p.tables e below P (T_11.setTop (mkF m 34 #[.val (.ref a), .val (.ref y1), .val (.ref y2), .val (.int (1 : Int32)), .val (.int (1 : Int32))] []))
  refine Go.step (fun t k => XS.iloadN X_11.here hx rfl (hb hby d14_34) rfl  k) ?_
  show Go p.tables e below P (T_11.setTop (mkF m 35 #[.val (.ref a), .val (.ref y1), .val (.ref y2), .val (.int (1 : Int32)), .val (.int (1 : Int32))] [(.int (1 : Int32))]))
  refine Go.step (fun t k => XS.ifYes X_11.here hx rfl (pc0 := 35) (pc' := 54) rfl (hb hby d14_35) rfl (ifY (cd := .ne) (by decide : ¬ (1 : Int) = 0)) (by decide) (by decide) k) ?_
  show Go p.tables e below P (T_11.setTop (mkF m 54 #[.val (.ref a), .val (.ref y1), .val (.ref y2), .val (.int (1 : Int32)), .val (.int (1 : Int32))] []))
  refine Go.step (fun t k => XS.aloadN X_11.here hx rfl (hb hby d14_54) rfl rfl k) ?_
  show Go p.tables e below P (T_11.setTop (mkF m 55 #[.val (.ref a), .val (.ref y1), .val (.ref y2), .val (.int (1 : Int32)), .val (.int (1 : Int32))] [(.ref y1)]))
  refine Go.step (fun t k => XS.iloadN X_11.here hx rfl (hb hby d14_55) rfl  k) ?_
  show Go p.tables e below P (T_11.setTop (mkF m 56 #[.val (.ref a), .val (.ref y1), .val (.ref y2), .val (.int (1 : Int32)), .val (.int (1 : Int32))] [(.int (1 : Int32)), (.ref y1)]))
  have vq_13 := Vy1
  obtain ⟨cl_13, Ar_13, q_13, S_13, Nn_13, H_13, G_13⟩ := vq_13
  have hin_13 : ¬ ((1 : Int32) < 0 ∨ cl_13.slots.size ≤ ((1 : Int32)).toNatClampNeg) := inb_of S_13 ⟨by decide, by decide⟩
  have hat_13 : cl_13.slots[((1 : Int32)).toNatClampNeg]? = some (.double v1) := Has.at H_13 hin_13 rfl
  refine Go.step (fun t k => X_11.daload hx (j := (1 : Int32)) (v := (.double v1)) (by rw [eh_11]; exact Ar_13.1) (State.isArrayOf_alike hZ.alike Ar_13.2.1) Ar_13.2.2 hin_13 hat_13 (g := (mkF m 56 #[.val (.ref a), .val (.ref y1), .val (.ref y2), .val (.int (1 : Int32)), .val (.int (1 : Int32))] [(.int (1 : Int32)), (.ref y1)])) rfl rfl (hb hby d14_56) t k) ?_
  show Go p.tables e below P (T_11.setTop (mkF m 57 #[.val (.ref a), .val (.ref y1), .val (.ref y2), .val (.int (1 : Int32)), .val (.int (1 : Int32))] [(.double v1)]))
  refine Go.step (fun t k => XS.aloadN X_11.here hx rfl (hb hby d14_57) rfl rfl k) ?_
  show Go p.tables e below P (T_11.setTop (mkF m 58 #[.val (.ref a), .val (.ref y1), .val (.ref y2), .val (.int (1 : Int32)), .val (.int (1 : Int32))] [(.ref y1), (.double v1)]))
  refine Go.step (fun t k => XS.iloadN X_11.here hx rfl (hb hby d14_58) rfl  k) ?_
  show Go p.tables e below P (T_11.setTop (mkF m 59 #[.val (.ref a), .val (.ref y1), .val (.ref y2), .val (.int (1 : Int32)), .val (.int (1 : Int32))] [(.int (1 : Int32)), (.ref y1), (.double v1)]))
  refine Go.step (fun t k => XS.iconst X_11.here hx rfl (hb hby d14_59) k) ?_
  show Go p.tables e below P (T_11.setTop (mkF m 60 #[.val (.ref a), .val (.ref y1), .val (.ref y2), .val (.int (1 : Int32)), .val (.int (1 : Int32))] [(.int (1 : Int32)), (.int (1 : Int32)), (.ref y1), (.double v1)]))
  obtain ⟨pm, hpm⟩ : ∃ z : Int32, (1 : Int32) - (1 : Int32) = z := ⟨_, rfl⟩
  refine Go.step (fun t k => isub_v X_11.here hx rfl (hb hby d14_60) rfl  hpm k) ?_
  show Go p.tables e below P (T_11.setTop (mkF m 61 #[.val (.ref a), .val (.ref y1), .val (.ref y2), .val (.int (1 : Int32)), .val (.int (1 : Int32))] [(.int pm), (.ref y1), (.double v1)]))
  have ez_pm : pm = (0 : Int32) := by rw [← hpm]; rfl
  subst ez_pm
  show Go p.tables e below P (T_11.setTop (mkF m 61 #[.val (.ref a), .val (.ref y1), .val (.ref y2), .val (.int (1 : Int32)), .val (.int (1 : Int32))] [(.int (0 : Int32)), (.ref y1), (.double v1)]))
  have vq_14 := Vy1
  obtain ⟨cl_14, Ar_14, q_14, S_14, Nn_14, H_14, G_14⟩ := vq_14
  have hin_14 : ¬ ((0 : Int32) < 0 ∨ cl_14.slots.size ≤ ((0 : Int32)).toNatClampNeg) := inb_of S_14 ⟨by decide, by decide⟩
  have hat_14 : cl_14.slots[((0 : Int32)).toNatClampNeg]? = some (.double v0) := Has.at H_14 hin_14 rfl
  refine Go.step (fun t k => X_11.daload hx (j := (0 : Int32)) (v := (.double v0)) (by rw [eh_11]; exact Ar_14.1) (State.isArrayOf_alike hZ.alike Ar_14.2.1) Ar_14.2.2 hin_14 hat_14 (g := (mkF m 61 #[.val (.ref a), .val (.ref y1), .val (.ref y2), .val (.int (1 : Int32)), .val (.int (1 : Int32))] [(.int (0 : Int32)), (.ref y1), (.double v1)])) rfl rfl (hb hby d14_61) t k) ?_
  show Go p.tables e below P (T_11.setTop (mkF m 62 #[.val (.ref a), .val (.ref y1), .val (.ref y2), .val (.int (1 : Int32)), .val (.int (1 : Int32))] [(.double v0), (.double v1)]))
  refine Go.step (fun t k => XS.dcmpS X_11.here hx rfl (hb hby d14_62) rfl rfl k) ?_
  show Go p.tables e below P (T_11.setTop (mkF m 63 #[.val (.ref a), .val (.ref y1), .val (.ref y2), .val (.int (1 : Int32)), .val (.int (1 : Int32))] [(.int (cmpValue (FP.dcmp v1 v0) .l))]))
  refine Go.step (fun t k => XS.ifNo X_11.here hx rfl (hb hby d14_63) rfl (dcN (cd := .le) (DE.cmp q1 q0) (by omega : ¬ (z1 ≤ z0))) k) ?_
  show Go p.tables e below P (T_11.setTop (mkF m 66 #[.val (.ref a), .val (.ref y1), .val (.ref y2), .val (.int (1 : Int32)), .val (.int (1 : Int32))] []))
  refine Go.step (fun t k => XS.iconst X_11.here hx rfl (hb hby d14_66) k) ?_
  show Go p.tables e below P (T_11.setTop (mkF m 67 #[.val (.ref a), .val (.ref y1), .val (.ref y2), .val (.int (1 : Int32)), .val (.int (1 : Int32))] [(.int (1 : Int32))]))
  refine Go.step (fun t k => XS.goto X_11.here hx rfl (pc0 := 67) (pc' := 71) rfl (hb hby d14_67) (by decide) (by decide) k) ?_
  show Go p.tables e below P (T_11.setTop (mkF m 71 #[.val (.ref a), .val (.ref y1), .val (.ref y2), .val (.int (1 : Int32)), .val (.int (1 : Int32))] [(.int (1 : Int32))]))
  refine Go.step (fun t k => XS.istore X_11.here hx rfl (hb hby d14_71) rfl (l' := #[.val (.ref a), .val (.ref y1), .val (.ref y2), .val (.int (1 : Int32)), .val (.int (1 : Int32))]) rfl k) ?_
  show Go p.tables e below P (T_11.setTop (mkF m 73 #[.val (.ref a), .val (.ref y1), .val (.ref y2), .val (.int (1 : Int32)), .val (.int (1 : Int32))] []))
  refine Go.step (fun t k => XS.iload X_11.here hx rfl (hb hby d14_73) rfl  k) ?_
  show Go p.tables e below P (T_11.setTop (mkF m 75 #[.val (.ref a), .val (.ref y1), .val (.ref y2), .val (.int (1 : Int32)), .val (.int (1 : Int32))] [(.int (1 : Int32))]))
  refine Go.step (fun t k => XS.ifNo X_11.here hx rfl (hb hby d14_75) rfl (ifN (cd := .eq) (by decide : ¬ ((1 : Int) = 0))) k) ?_
  show Go p.tables e below P (T_11.setTop (mkF m 78 #[.val (.ref a), .val (.ref y1), .val (.ref y2), .val (.int (1 : Int32)), .val (.int (1 : Int32))] []))
  refine Go.step (fun t k => XS.aloadN X_11.here hx rfl (hb hby d14_78) rfl rfl k) ?_
  show Go p.tables e below P (T_11.setTop (mkF m 79 #[.val (.ref a), .val (.ref y1), .val (.ref y2), .val (.int (1 : Int32)), .val (.int (1 : Int32))] [(.ref y1)]))
  refine Go.step (fun t k => XS.iloadN X_11.here hx rfl (hb hby d14_79) rfl  k) ?_
  show Go p.tables e below P (T_11.setTop (mkF m 80 #[.val (.ref a), .val (.ref y1), .val (.ref y2), .val (.int (1 : Int32)), .val (.int (1 : Int32))] [(.int (1 : Int32)), (.ref y1)]))
  have vq_15 := Vy1
  obtain ⟨cl_15, Ar_15, q_15, S_15, Nn_15, H_15, G_15⟩ := vq_15
  have hin_15 : ¬ ((1 : Int32) < 0 ∨ cl_15.slots.size ≤ ((1 : Int32)).toNatClampNeg) := inb_of S_15 ⟨by decide, by decide⟩
  have hat_15 : cl_15.slots[((1 : Int32)).toNatClampNeg]? = some (.double v1) := Has.at H_15 hin_15 rfl
  refine Go.step (fun t k => X_11.daload hx (j := (1 : Int32)) (v := (.double v1)) (by rw [eh_11]; exact Ar_15.1) (State.isArrayOf_alike hZ.alike Ar_15.2.1) Ar_15.2.2 hin_15 hat_15 (g := (mkF m 80 #[.val (.ref a), .val (.ref y1), .val (.ref y2), .val (.int (1 : Int32)), .val (.int (1 : Int32))] [(.int (1 : Int32)), (.ref y1)])) rfl rfl (hb hby d14_80) t k) ?_
  show Go p.tables e below P (T_11.setTop (mkF m 81 #[.val (.ref a), .val (.ref y1), .val (.ref y2), .val (.int (1 : Int32)), .val (.int (1 : Int32))] [(.double v1)]))
  obtain ⟨_, _, ⟨T_16, L_16, k_16, n_16⟩, -, X_16, ⟨Lc_16, hQ_16, l_16, y_16, z_16⟩, st_16⟩ := Jvm.LawKit.callS X_11 hx (y := (⟨"java/lang/Double", "isFinite", "(D)Z"⟩ : MethodName)) hown (mvT hZ (hw _ (List.mem_of_getElem? (i := 13) rfl))) (mvT hZ (hw _ (List.mem_of_getElem? (i := 14) rfl))) (mvT hZ (hw _ (List.mem_of_getElem? (i := 15) rfl))) (mvT hZ (hw _ (List.mem_of_getElem? (i := 16) rfl))) (by decide) (backOf (W := 0) (rm1 l Z a0 hw [] v1 h0 n0 Z0 q1.1) hZ (hw _ (List.mem_of_getElem? (i := 16) rfl)) (hw _ (List.mem_of_getElem? (i := 15) rfl)) (by decide) (by decide)) (g := (mkF m 81 #[.val (.ref a), .val (.ref y1), .val (.ref y2), .val (.int (1 : Int32)), .val (.int (1 : Int32))] [(.double v1)])) rfl (by rw [hml]; rfl) (argsL := [(.double v1)]) (rest := []) (lenOf pd_1 rfl) rfl (by show 2 * 0 + _ ≤ _; exact Nat.le_of_eq rfl) (hb hby d14_81) (fun _ _ => ⟨rfl, eh_11, (by decide : 0 + 0 ≤ _), (by decide : 0 + 0 ≤ _)⟩)
  dsimp only [Pt.U, Pt.locs, Pt.cells, Pt.slots] at X_16 l_16 y_16 z_16 st_16 hQ_16
  subst l_16 y_16 z_16
  obtain ⟨rfl, N_16q, eh_16⟩ := hQ_16
  have N_16 := Fr.app N_11 N_16q
  refine Go.step (fun t k => st_16 t k) ?_
  show Go p.tables e below P (T_16.setTop (mkF m 84 #[.val (.ref a), .val (.ref y1), .val (.ref y2), .val (.int (1 : Int32)), .val (.int (1 : Int32))] [(.int (1 : Int32))]))
  refine Go.step (fun t k => XS.ifYes X_16.here hx rfl (pc0 := 84) (pc' := 97) rfl (hb hby d14_84) rfl (ifY (cd := .ne) (by decide : ¬ (1 : Int) = 0)) (by decide) (by decide) k) ?_
  show Go p.tables e below P (T_16.setTop (mkF m 97 #[.val (.ref a), .val (.ref y1), .val (.ref y2), .val (.int (1 : Int32)), .val (.int (1 : Int32))] []))
  refine Go.step (fun t k => XS.aloadN X_16.here hx rfl (hb hby d14_97) rfl rfl k) ?_
  show Go p.tables e below P (T_16.setTop (mkF m 98 #[.val (.ref a), .val (.ref y1), .val (.ref y2), .val (.int (1 : Int32)), .val (.int (1 : Int32))] [(.ref y2)]))
  refine Go.step (fun t k => XS.iloadN X_16.here hx rfl (hb hby d14_98) rfl  k) ?_
  show Go p.tables e below P (T_16.setTop (mkF m 99 #[.val (.ref a), .val (.ref y1), .val (.ref y2), .val (.int (1 : Int32)), .val (.int (1 : Int32))] [(.int (1 : Int32)), (.ref y2)]))
  have vq_17 := Vy2
  obtain ⟨cl_17, Ar_17, q_17, S_17, Nn_17, H_17, G_17⟩ := vq_17
  have hin_17 : ¬ ((1 : Int32) < 0 ∨ cl_17.slots.size ≤ ((1 : Int32)).toNatClampNeg) := inb_of S_17 ⟨by decide, by decide⟩
  have hat_17 : cl_17.slots[((1 : Int32)).toNatClampNeg]? = some (.double fv) := Has.at H_17 hin_17 rfl
  refine Go.step (fun t k => X_16.daload hx (j := (1 : Int32)) (v := (.double fv)) (by rw [eh_16]; exact Ar_17.1) (State.isArrayOf_alike hZ.alike Ar_17.2.1) Ar_17.2.2 hin_17 hat_17 (g := (mkF m 99 #[.val (.ref a), .val (.ref y1), .val (.ref y2), .val (.int (1 : Int32)), .val (.int (1 : Int32))] [(.int (1 : Int32)), (.ref y2)])) rfl rfl (hb hby d14_99) t k) ?_
  show Go p.tables e below P (T_16.setTop (mkF m 100 #[.val (.ref a), .val (.ref y1), .val (.ref y2), .val (.int (1 : Int32)), .val (.int (1 : Int32))] [(.double fv)]))
  refine Go.step (fun t k => XS.dconst0 X_16.here hx rfl (hb hby d14_100) rfl k) ?_
  show Go p.tables e below P (T_16.setTop (mkF m 101 #[.val (.ref a), .val (.ref y1), .val (.ref y2), .val (.int (1 : Int32)), .val (.int (1 : Int32))] [(.double FP.dconst0), (.double fv)]))
  refine Go.step (fun t k => XS.dcmpS X_16.here hx rfl (hb hby d14_101) rfl rfl k) ?_
  show Go p.tables e below P (T_16.setTop (mkF m 102 #[.val (.ref a), .val (.ref y1), .val (.ref y2), .val (.int (1 : Int32)), .val (.int (1 : Int32))] [(.int (cmpValue (FP.dcmp fv FP.dconst0) .l))]))
  refine Go.step (fun t k => XS.ifNo X_16.here hx rfl (hb hby d14_102) rfl (dcN (cd := .lt) (DE.cmp qf (zero_e 1074)) (by omega : ¬ (zf < 0))) k) ?_
  show Go p.tables e below P (T_16.setTop (mkF m 105 #[.val (.ref a), .val (.ref y1), .val (.ref y2), .val (.int (1 : Int32)), .val (.int (1 : Int32))] []))
  refine Go.step (fun t k => XS.aloadN X_16.here hx rfl (hb hby d14_105) rfl rfl k) ?_
  show Go p.tables e below P (T_16.setTop (mkF m 106 #[.val (.ref a), .val (.ref y1), .val (.ref y2), .val (.int (1 : Int32)), .val (.int (1 : Int32))] [(.ref y2)]))
  refine Go.step (fun t k => XS.iloadN X_16.here hx rfl (hb hby d14_106) rfl  k) ?_
  show Go p.tables e below P (T_16.setTop (mkF m 107 #[.val (.ref a), .val (.ref y1), .val (.ref y2), .val (.int (1 : Int32)), .val (.int (1 : Int32))] [(.int (1 : Int32)), (.ref y2)]))
  have vq_18 := Vy2
  obtain ⟨cl_18, Ar_18, q_18, S_18, Nn_18, H_18, G_18⟩ := vq_18
  have hin_18 : ¬ ((1 : Int32) < 0 ∨ cl_18.slots.size ≤ ((1 : Int32)).toNatClampNeg) := inb_of S_18 ⟨by decide, by decide⟩
  have hat_18 : cl_18.slots[((1 : Int32)).toNatClampNeg]? = some (.double fv) := Has.at H_18 hin_18 rfl
  refine Go.step (fun t k => X_16.daload hx (j := (1 : Int32)) (v := (.double fv)) (by rw [eh_16]; exact Ar_18.1) (State.isArrayOf_alike hZ.alike Ar_18.2.1) Ar_18.2.2 hin_18 hat_18 (g := (mkF m 107 #[.val (.ref a), .val (.ref y1), .val (.ref y2), .val (.int (1 : Int32)), .val (.int (1 : Int32))] [(.int (1 : Int32)), (.ref y2)])) rfl rfl (hb hby d14_107) t k) ?_
  show Go p.tables e below P (T_16.setTop (mkF m 108 #[.val (.ref a), .val (.ref y1), .val (.ref y2), .val (.int (1 : Int32)), .val (.int (1 : Int32))] [(.double fv)]))
  obtain ⟨_, _, ⟨T_19, L_19, k_19, n_19⟩, -, X_19, ⟨Lc_19, hQ_19, l_19, y_19, z_19⟩, st_19⟩ := Jvm.LawKit.callS X_16 hx (y := (⟨"java/lang/Double", "isFinite", "(D)Z"⟩ : MethodName)) hown (mvT hZ (hw _ (List.mem_of_getElem? (i := 13) rfl))) (mvT hZ (hw _ (List.mem_of_getElem? (i := 14) rfl))) (mvT hZ (hw _ (List.mem_of_getElem? (i := 15) rfl))) (mvT hZ (hw _ (List.mem_of_getElem? (i := 16) rfl))) (by decide) (backOf (W := 0) (rm1 l Z a0 hw [] fv h0 n0 Z0 qf.1) hZ (hw _ (List.mem_of_getElem? (i := 16) rfl)) (hw _ (List.mem_of_getElem? (i := 15) rfl)) (by decide) (by decide)) (g := (mkF m 108 #[.val (.ref a), .val (.ref y1), .val (.ref y2), .val (.int (1 : Int32)), .val (.int (1 : Int32))] [(.double fv)])) rfl (by rw [hml]; rfl) (argsL := [(.double fv)]) (rest := []) (lenOf pd_1 rfl) rfl (by show 2 * 0 + _ ≤ _; exact Nat.le_of_eq rfl) (hb hby d14_108) (fun _ _ => ⟨rfl, eh_16, (by decide : 0 + 0 ≤ _), (by decide : 0 + 0 ≤ _)⟩)
  dsimp only [Pt.U, Pt.locs, Pt.cells, Pt.slots] at X_19 l_19 y_19 z_19 st_19 hQ_19
  subst l_19 y_19 z_19
  obtain ⟨rfl, N_19q, eh_19⟩ := hQ_19
  have N_19 := Fr.app N_16 N_19q
  refine Go.step (fun t k => st_19 t k) ?_
  show Go p.tables e below P (T_19.setTop (mkF m 111 #[.val (.ref a), .val (.ref y1), .val (.ref y2), .val (.int (1 : Int32)), .val (.int (1 : Int32))] [(.int (1 : Int32))]))
  refine Go.step (fun t k => XS.ifYes X_19.here hx rfl (pc0 := 111) (pc' := 124) rfl (hb hby d14_111) rfl (ifY (cd := .ne) (by decide : ¬ (1 : Int) = 0)) (by decide) (by decide) k) ?_
  show Go p.tables e below P (T_19.setTop (mkF m 124 #[.val (.ref a), .val (.ref y1), .val (.ref y2), .val (.int (1 : Int32)), .val (.int (1 : Int32))] []))
  obtain ⟨ni, hni⟩ : ∃ z : Int32, (1 : Int32) + (1 : Int32) = z := ⟨_, rfl⟩
  refine Go.step (fun t k => XS.iinc X_19.here hx rfl (hb hby d14_124) rfl (l' := #[.val (.ref a), .val (.ref y1), .val (.ref y2), .val (.int ((1 : Int32) + (1 : Int32))), .val (.int (1 : Int32))]) rfl k) ?_
  show Go p.tables e below P (T_19.setTop (mkF m 127 #[.val (.ref a), .val (.ref y1), .val (.ref y2), .val (.int ((1 : Int32) + (1 : Int32))), .val (.int (1 : Int32))] []))
  rw [hni]
  show Go p.tables e below P (T_19.setTop (mkF m 127 #[.val (.ref a), .val (.ref y1), .val (.ref y2), .val (.int ni), .val (.int (1 : Int32))] []))
  have ez_ni : ni = (2 : Int32) := by rw [← hni]; rfl
  subst ez_ni
  show Go p.tables e below P (T_19.setTop (mkF m 127 #[.val (.ref a), .val (.ref y1), .val (.ref y2), .val (.int (2 : Int32)), .val (.int (1 : Int32))] []))
  refine Go.step (fun t k => XS.goto X_19.here hx rfl (pc0 := 127) (pc' := 28) rfl (hb hby d14_127) (by decide) (by decide) k) ?_
  show Go p.tables e below P (T_19.setTop (mkF m 28 #[.val (.ref a), .val (.ref y1), .val (.ref y2), .val (.int (2 : Int32)), .val (.int (1 : Int32))] []))
  refine Go.step (fun t k => XS.iloadN X_19.here hx rfl (hb hby d14_28) rfl  k) ?_
  show Go p.tables e below P (T_19.setTop (mkF m 29 #[.val (.ref a), .val (.ref y1), .val (.ref y2), .val (.int (2 : Int32)), .val (.int (1 : Int32))] [(.int (2 : Int32))]))
  refine Go.step (fun t k => XS.aloadN X_19.here hx rfl (hb hby d14_29) rfl rfl k) ?_
  show Go p.tables e below P (T_19.setTop (mkF m 30 #[.val (.ref a), .val (.ref y1), .val (.ref y2), .val (.int (2 : Int32)), .val (.int (1 : Int32))] [(.ref y1), (.int (2 : Int32))]))
  have vq_20 := Vy1
  obtain ⟨cl_20, Ar_20, q_20, S_20, Nn_20, H_20, G_20⟩ := vq_20
  refine Go.step (fun t k => X_19.arraylength hx (by rw [eh_19]; exact Ar_20.1) (State.isArrayOf_alike hZ.alike Ar_20.2.1) (g := (mkF m 30 #[.val (.ref a), .val (.ref y1), .val (.ref y2), .val (.int (2 : Int32)), .val (.int (1 : Int32))] [(.ref y1), (.int (2 : Int32))])) rfl rfl (hb hby d14_30) t k) ?_
  rw [len_of S_20 Nn_20]
  show Go p.tables e below P (T_19.setTop (mkF m 31 #[.val (.ref a), .val (.ref y1), .val (.ref y2), .val (.int (2 : Int32)), .val (.int (1 : Int32))] [(.int (4 : Int32)), (.int (2 : Int32))]))
  refine Go.step (fun t k => XS.icmpNo X_19.here hx rfl (hb hby d14_31) rfl (icN (cd := .ge) (by decide : ¬ ((4 : Int) ≤ (2 : Int)))) k) ?_
  show Go p.tables e below P (T_19.setTop (mkF m 34 #[.val (.ref a), .val (.ref y1), .val (.ref y2), .val (.int (2 : Int32)), .val (.int (1 : Int32))] []))
  refine Go.step (fun t k => XS.iloadN X_19.here hx rfl (hb hby d14_34) rfl  k) ?_
  show Go p.tables e below P (T_19.setTop (mkF m 35 #[.val (.ref a), .val (.ref y1), .val (.ref y2), .val (.int (2 : Int32)), .val (.int (1 : Int32))] [(.int (2 : Int32))]))
  refine Go.step (fun t k => XS.ifYes X_19.here hx rfl (pc0 := 35) (pc' := 54) rfl (hb hby d14_35) rfl (ifY (cd := .ne) (by decide : ¬ (2 : Int) = 0)) (by decide) (by decide) k) ?_
  show Go p.tables e below P (T_19.setTop (mkF m 54 #[.val (.ref a), .val (.ref y1), .val (.ref y2), .val (.int (2 : Int32)), .val (.int (1 : Int32))] []))
  refine Go.step (fun t k => XS.aloadN X_19.here hx rfl (hb hby d14_54) rfl rfl k) ?_
  show Go p.tables e below P (T_19.setTop (mkF m 55 #[.val (.ref a), .val (.ref y1), .val (.ref y2), .val (.int (2 : Int32)), .val (.int (1 : Int32))] [(.ref y1)]))
  refine Go.step (fun t k => XS.iloadN X_19.here hx rfl (hb hby d14_55) rfl  k) ?_
  show Go p.tables e below P (T_19.setTop (mkF m 56 #[.val (.ref a), .val (.ref y1), .val (.ref y2), .val (.int (2 : Int32)), .val (.int (1 : Int32))] [(.int (2 : Int32)), (.ref y1)]))
  have vq_21 := Vy1
  obtain ⟨cl_21, Ar_21, q_21, S_21, Nn_21, H_21, G_21⟩ := vq_21
  have hin_21 : ¬ ((2 : Int32) < 0 ∨ cl_21.slots.size ≤ ((2 : Int32)).toNatClampNeg) := inb_of S_21 ⟨by decide, by decide⟩
  have hat_21 : cl_21.slots[((2 : Int32)).toNatClampNeg]? = some (.double v2) := Has.at H_21 hin_21 rfl
  refine Go.step (fun t k => X_19.daload hx (j := (2 : Int32)) (v := (.double v2)) (by rw [eh_19]; exact Ar_21.1) (State.isArrayOf_alike hZ.alike Ar_21.2.1) Ar_21.2.2 hin_21 hat_21 (g := (mkF m 56 #[.val (.ref a), .val (.ref y1), .val (.ref y2), .val (.int (2 : Int32)), .val (.int (1 : Int32))] [(.int (2 : Int32)), (.ref y1)])) rfl rfl (hb hby d14_56) t k) ?_
  show Go p.tables e below P (T_19.setTop (mkF m 57 #[.val (.ref a), .val (.ref y1), .val (.ref y2), .val (.int (2 : Int32)), .val (.int (1 : Int32))] [(.double v2)]))
  refine Go.step (fun t k => XS.aloadN X_19.here hx rfl (hb hby d14_57) rfl rfl k) ?_
  show Go p.tables e below P (T_19.setTop (mkF m 58 #[.val (.ref a), .val (.ref y1), .val (.ref y2), .val (.int (2 : Int32)), .val (.int (1 : Int32))] [(.ref y1), (.double v2)]))
  refine Go.step (fun t k => XS.iloadN X_19.here hx rfl (hb hby d14_58) rfl  k) ?_
  show Go p.tables e below P (T_19.setTop (mkF m 59 #[.val (.ref a), .val (.ref y1), .val (.ref y2), .val (.int (2 : Int32)), .val (.int (1 : Int32))] [(.int (2 : Int32)), (.ref y1), (.double v2)]))
  refine Go.step (fun t k => XS.iconst X_19.here hx rfl (hb hby d14_59) k) ?_
  show Go p.tables e below P (T_19.setTop (mkF m 60 #[.val (.ref a), .val (.ref y1), .val (.ref y2), .val (.int (2 : Int32)), .val (.int (1 : Int32))] [(.int (1 : Int32)), (.int (2 : Int32)), (.ref y1), (.double v2)]))
  obtain ⟨pm, hpm⟩ : ∃ z : Int32, (2 : Int32) - (1 : Int32) = z := ⟨_, rfl⟩
  refine Go.step (fun t k => isub_v X_19.here hx rfl (hb hby d14_60) rfl  hpm k) ?_
  show Go p.tables e below P (T_19.setTop (mkF m 61 #[.val (.ref a), .val (.ref y1), .val (.ref y2), .val (.int (2 : Int32)), .val (.int (1 : Int32))] [(.int pm), (.ref y1), (.double v2)]))
  have ez_pm : pm = (1 : Int32) := by rw [← hpm]; rfl
  subst ez_pm
  show Go p.tables e below P (T_19.setTop (mkF m 61 #[.val (.ref a), .val (.ref y1), .val (.ref y2), .val (.int (2 : Int32)), .val (.int (1 : Int32))] [(.int (1 : Int32)), (.ref y1), (.double v2)]))
  have vq_22 := Vy1
  obtain ⟨cl_22, Ar_22, q_22, S_22, Nn_22, H_22, G_22⟩ := vq_22
  have hin_22 : ¬ ((1 : Int32) < 0 ∨ cl_22.slots.size ≤ ((1 : Int32)).toNatClampNeg) := inb_of S_22 ⟨by decide, by decide⟩
  have hat_22 : cl_22.slots[((1 : Int32)).toNatClampNeg]? = some (.double v1) := Has.at H_22 hin_22 rfl
  refine Go.step (fun t k => X_19.daload hx (j := (1 : Int32)) (v := (.double v1)) (by rw [eh_19]; exact Ar_22.1) (State.isArrayOf_alike hZ.alike Ar_22.2.1) Ar_22.2.2 hin_22 hat_22 (g := (mkF m 61 #[.val (.ref a), .val (.ref y1), .val (.ref y2), .val (.int (2 : Int32)), .val (.int (1 : Int32))] [(.int (1 : Int32)), (.ref y1), (.double v2)])) rfl rfl (hb hby d14_61) t k) ?_
  show Go p.tables e below P (T_19.setTop (mkF m 62 #[.val (.ref a), .val (.ref y1), .val (.ref y2), .val (.int (2 : Int32)), .val (.int (1 : Int32))] [(.double v1), (.double v2)]))
  refine Go.step (fun t k => XS.dcmpS X_19.here hx rfl (hb hby d14_62) rfl rfl k) ?_
  show Go p.tables e below P (T_19.setTop (mkF m 63 #[.val (.ref a), .val (.ref y1), .val (.ref y2), .val (.int (2 : Int32)), .val (.int (1 : Int32))] [(.int (cmpValue (FP.dcmp v2 v1) .l))]))
  refine Go.step (fun t k => XS.ifNo X_19.here hx rfl (hb hby d14_63) rfl (dcN (cd := .le) (DE.cmp q2 q1) (by omega : ¬ (z2 ≤ z1))) k) ?_
  show Go p.tables e below P (T_19.setTop (mkF m 66 #[.val (.ref a), .val (.ref y1), .val (.ref y2), .val (.int (2 : Int32)), .val (.int (1 : Int32))] []))
  refine Go.step (fun t k => XS.iconst X_19.here hx rfl (hb hby d14_66) k) ?_
  show Go p.tables e below P (T_19.setTop (mkF m 67 #[.val (.ref a), .val (.ref y1), .val (.ref y2), .val (.int (2 : Int32)), .val (.int (1 : Int32))] [(.int (1 : Int32))]))
  refine Go.step (fun t k => XS.goto X_19.here hx rfl (pc0 := 67) (pc' := 71) rfl (hb hby d14_67) (by decide) (by decide) k) ?_
  show Go p.tables e below P (T_19.setTop (mkF m 71 #[.val (.ref a), .val (.ref y1), .val (.ref y2), .val (.int (2 : Int32)), .val (.int (1 : Int32))] [(.int (1 : Int32))]))
  refine Go.step (fun t k => XS.istore X_19.here hx rfl (hb hby d14_71) rfl (l' := #[.val (.ref a), .val (.ref y1), .val (.ref y2), .val (.int (2 : Int32)), .val (.int (1 : Int32))]) rfl k) ?_
  show Go p.tables e below P (T_19.setTop (mkF m 73 #[.val (.ref a), .val (.ref y1), .val (.ref y2), .val (.int (2 : Int32)), .val (.int (1 : Int32))] []))
  refine Go.step (fun t k => XS.iload X_19.here hx rfl (hb hby d14_73) rfl  k) ?_
  show Go p.tables e below P (T_19.setTop (mkF m 75 #[.val (.ref a), .val (.ref y1), .val (.ref y2), .val (.int (2 : Int32)), .val (.int (1 : Int32))] [(.int (1 : Int32))]))
  refine Go.step (fun t k => XS.ifNo X_19.here hx rfl (hb hby d14_75) rfl (ifN (cd := .eq) (by decide : ¬ ((1 : Int) = 0))) k) ?_
  show Go p.tables e below P (T_19.setTop (mkF m 78 #[.val (.ref a), .val (.ref y1), .val (.ref y2), .val (.int (2 : Int32)), .val (.int (1 : Int32))] []))
  refine Go.step (fun t k => XS.aloadN X_19.here hx rfl (hb hby d14_78) rfl rfl k) ?_
  show Go p.tables e below P (T_19.setTop (mkF m 79 #[.val (.ref a), .val (.ref y1), .val (.ref y2), .val (.int (2 : Int32)), .val (.int (1 : Int32))] [(.ref y1)]))
  refine Go.step (fun t k => XS.iloadN X_19.here hx rfl (hb hby d14_79) rfl  k) ?_
  show Go p.tables e below P (T_19.setTop (mkF m 80 #[.val (.ref a), .val (.ref y1), .val (.ref y2), .val (.int (2 : Int32)), .val (.int (1 : Int32))] [(.int (2 : Int32)), (.ref y1)]))
  have vq_23 := Vy1
  obtain ⟨cl_23, Ar_23, q_23, S_23, Nn_23, H_23, G_23⟩ := vq_23
  have hin_23 : ¬ ((2 : Int32) < 0 ∨ cl_23.slots.size ≤ ((2 : Int32)).toNatClampNeg) := inb_of S_23 ⟨by decide, by decide⟩
  have hat_23 : cl_23.slots[((2 : Int32)).toNatClampNeg]? = some (.double v2) := Has.at H_23 hin_23 rfl
  refine Go.step (fun t k => X_19.daload hx (j := (2 : Int32)) (v := (.double v2)) (by rw [eh_19]; exact Ar_23.1) (State.isArrayOf_alike hZ.alike Ar_23.2.1) Ar_23.2.2 hin_23 hat_23 (g := (mkF m 80 #[.val (.ref a), .val (.ref y1), .val (.ref y2), .val (.int (2 : Int32)), .val (.int (1 : Int32))] [(.int (2 : Int32)), (.ref y1)])) rfl rfl (hb hby d14_80) t k) ?_
  show Go p.tables e below P (T_19.setTop (mkF m 81 #[.val (.ref a), .val (.ref y1), .val (.ref y2), .val (.int (2 : Int32)), .val (.int (1 : Int32))] [(.double v2)]))
  obtain ⟨_, _, ⟨T_24, L_24, k_24, n_24⟩, -, X_24, ⟨Lc_24, hQ_24, l_24, y_24, z_24⟩, st_24⟩ := Jvm.LawKit.callS X_19 hx (y := (⟨"java/lang/Double", "isFinite", "(D)Z"⟩ : MethodName)) hown (mvT hZ (hw _ (List.mem_of_getElem? (i := 13) rfl))) (mvT hZ (hw _ (List.mem_of_getElem? (i := 14) rfl))) (mvT hZ (hw _ (List.mem_of_getElem? (i := 15) rfl))) (mvT hZ (hw _ (List.mem_of_getElem? (i := 16) rfl))) (by decide) (backOf (W := 0) (rm1 l Z a0 hw [] v2 h0 n0 Z0 q2.1) hZ (hw _ (List.mem_of_getElem? (i := 16) rfl)) (hw _ (List.mem_of_getElem? (i := 15) rfl)) (by decide) (by decide)) (g := (mkF m 81 #[.val (.ref a), .val (.ref y1), .val (.ref y2), .val (.int (2 : Int32)), .val (.int (1 : Int32))] [(.double v2)])) rfl (by rw [hml]; rfl) (argsL := [(.double v2)]) (rest := []) (lenOf pd_1 rfl) rfl (by show 2 * 0 + _ ≤ _; exact Nat.le_of_eq rfl) (hb hby d14_81) (fun _ _ => ⟨rfl, eh_19, (by decide : 0 + 0 ≤ _), (by decide : 0 + 0 ≤ _)⟩)
  dsimp only [Pt.U, Pt.locs, Pt.cells, Pt.slots] at X_24 l_24 y_24 z_24 st_24 hQ_24
  subst l_24 y_24 z_24
  obtain ⟨rfl, N_24q, eh_24⟩ := hQ_24
  have N_24 := Fr.app N_19 N_24q
  refine Go.step (fun t k => st_24 t k) ?_
  show Go p.tables e below P (T_24.setTop (mkF m 84 #[.val (.ref a), .val (.ref y1), .val (.ref y2), .val (.int (2 : Int32)), .val (.int (1 : Int32))] [(.int (1 : Int32))]))
  refine Go.step (fun t k => XS.ifYes X_24.here hx rfl (pc0 := 84) (pc' := 97) rfl (hb hby d14_84) rfl (ifY (cd := .ne) (by decide : ¬ (1 : Int) = 0)) (by decide) (by decide) k) ?_
  show Go p.tables e below P (T_24.setTop (mkF m 97 #[.val (.ref a), .val (.ref y1), .val (.ref y2), .val (.int (2 : Int32)), .val (.int (1 : Int32))] []))
  refine Go.step (fun t k => XS.aloadN X_24.here hx rfl (hb hby d14_97) rfl rfl k) ?_
  show Go p.tables e below P (T_24.setTop (mkF m 98 #[.val (.ref a), .val (.ref y1), .val (.ref y2), .val (.int (2 : Int32)), .val (.int (1 : Int32))] [(.ref y2)]))
  refine Go.step (fun t k => XS.iloadN X_24.here hx rfl (hb hby d14_98) rfl  k) ?_
  show Go p.tables e below P (T_24.setTop (mkF m 99 #[.val (.ref a), .val (.ref y1), .val (.ref y2), .val (.int (2 : Int32)), .val (.int (1 : Int32))] [(.int (2 : Int32)), (.ref y2)]))
  have vq_25 := Vy2
  obtain ⟨cl_25, Ar_25, q_25, S_25, Nn_25, H_25, G_25⟩ := vq_25
  have hin_25 : ¬ ((2 : Int32) < 0 ∨ cl_25.slots.size ≤ ((2 : Int32)).toNatClampNeg) := inb_of S_25 ⟨by decide, by decide⟩
  have hat_25 : cl_25.slots[((2 : Int32)).toNatClampNeg]? = some (.double fv) := Has.at H_25 hin_25 rfl
  refine Go.step (fun t k => X_24.daload hx (j := (2 : Int32)) (v := (.double fv)) (by rw [eh_24]; exact Ar_25.1) (State.isArrayOf_alike hZ.alike Ar_25.2.1) Ar_25.2.2 hin_25 hat_25 (g := (mkF m 99 #[.val (.ref a), .val (.ref y1), .val (.ref y2), .val (.int (2 : Int32)), .val (.int (1 : Int32))] [(.int (2 : Int32)), (.ref y2)])) rfl rfl (hb hby d14_99) t k) ?_
  show Go p.tables e below P (T_24.setTop (mkF m 100 #[.val (.ref a), .val (.ref y1), .val (.ref y2), .val (.int (2 : Int32)), .val (.int (1 : Int32))] [(.double fv)]))
  refine Go.step (fun t k => XS.dconst0 X_24.here hx rfl (hb hby d14_100) rfl k) ?_
  show Go p.tables e below P (T_24.setTop (mkF m 101 #[.val (.ref a), .val (.ref y1), .val (.ref y2), .val (.int (2 : Int32)), .val (.int (1 : Int32))] [(.double FP.dconst0), (.double fv)]))
  refine Go.step (fun t k => XS.dcmpS X_24.here hx rfl (hb hby d14_101) rfl rfl k) ?_
  show Go p.tables e below P (T_24.setTop (mkF m 102 #[.val (.ref a), .val (.ref y1), .val (.ref y2), .val (.int (2 : Int32)), .val (.int (1 : Int32))] [(.int (cmpValue (FP.dcmp fv FP.dconst0) .l))]))
  refine Go.step (fun t k => XS.ifNo X_24.here hx rfl (hb hby d14_102) rfl (dcN (cd := .lt) (DE.cmp qf (zero_e 1074)) (by omega : ¬ (zf < 0))) k) ?_
  show Go p.tables e below P (T_24.setTop (mkF m 105 #[.val (.ref a), .val (.ref y1), .val (.ref y2), .val (.int (2 : Int32)), .val (.int (1 : Int32))] []))
  refine Go.step (fun t k => XS.aloadN X_24.here hx rfl (hb hby d14_105) rfl rfl k) ?_
  show Go p.tables e below P (T_24.setTop (mkF m 106 #[.val (.ref a), .val (.ref y1), .val (.ref y2), .val (.int (2 : Int32)), .val (.int (1 : Int32))] [(.ref y2)]))
  refine Go.step (fun t k => XS.iloadN X_24.here hx rfl (hb hby d14_106) rfl  k) ?_
  show Go p.tables e below P (T_24.setTop (mkF m 107 #[.val (.ref a), .val (.ref y1), .val (.ref y2), .val (.int (2 : Int32)), .val (.int (1 : Int32))] [(.int (2 : Int32)), (.ref y2)]))
  have vq_26 := Vy2
  obtain ⟨cl_26, Ar_26, q_26, S_26, Nn_26, H_26, G_26⟩ := vq_26
  have hin_26 : ¬ ((2 : Int32) < 0 ∨ cl_26.slots.size ≤ ((2 : Int32)).toNatClampNeg) := inb_of S_26 ⟨by decide, by decide⟩
  have hat_26 : cl_26.slots[((2 : Int32)).toNatClampNeg]? = some (.double fv) := Has.at H_26 hin_26 rfl
  refine Go.step (fun t k => X_24.daload hx (j := (2 : Int32)) (v := (.double fv)) (by rw [eh_24]; exact Ar_26.1) (State.isArrayOf_alike hZ.alike Ar_26.2.1) Ar_26.2.2 hin_26 hat_26 (g := (mkF m 107 #[.val (.ref a), .val (.ref y1), .val (.ref y2), .val (.int (2 : Int32)), .val (.int (1 : Int32))] [(.int (2 : Int32)), (.ref y2)])) rfl rfl (hb hby d14_107) t k) ?_
  show Go p.tables e below P (T_24.setTop (mkF m 108 #[.val (.ref a), .val (.ref y1), .val (.ref y2), .val (.int (2 : Int32)), .val (.int (1 : Int32))] [(.double fv)]))
  obtain ⟨_, _, ⟨T_27, L_27, k_27, n_27⟩, -, X_27, ⟨Lc_27, hQ_27, l_27, y_27, z_27⟩, st_27⟩ := Jvm.LawKit.callS X_24 hx (y := (⟨"java/lang/Double", "isFinite", "(D)Z"⟩ : MethodName)) hown (mvT hZ (hw _ (List.mem_of_getElem? (i := 13) rfl))) (mvT hZ (hw _ (List.mem_of_getElem? (i := 14) rfl))) (mvT hZ (hw _ (List.mem_of_getElem? (i := 15) rfl))) (mvT hZ (hw _ (List.mem_of_getElem? (i := 16) rfl))) (by decide) (backOf (W := 0) (rm1 l Z a0 hw [] fv h0 n0 Z0 qf.1) hZ (hw _ (List.mem_of_getElem? (i := 16) rfl)) (hw _ (List.mem_of_getElem? (i := 15) rfl)) (by decide) (by decide)) (g := (mkF m 108 #[.val (.ref a), .val (.ref y1), .val (.ref y2), .val (.int (2 : Int32)), .val (.int (1 : Int32))] [(.double fv)])) rfl (by rw [hml]; rfl) (argsL := [(.double fv)]) (rest := []) (lenOf pd_1 rfl) rfl (by show 2 * 0 + _ ≤ _; exact Nat.le_of_eq rfl) (hb hby d14_108) (fun _ _ => ⟨rfl, eh_24, (by decide : 0 + 0 ≤ _), (by decide : 0 + 0 ≤ _)⟩)
  dsimp only [Pt.U, Pt.locs, Pt.cells, Pt.slots] at X_27 l_27 y_27 z_27 st_27 hQ_27
  subst l_27 y_27 z_27
  obtain ⟨rfl, N_27q, eh_27⟩ := hQ_27
  have N_27 := Fr.app N_24 N_27q
  refine Go.step (fun t k => st_27 t k) ?_
  show Go p.tables e below P (T_27.setTop (mkF m 111 #[.val (.ref a), .val (.ref y1), .val (.ref y2), .val (.int (2 : Int32)), .val (.int (1 : Int32))] [(.int (1 : Int32))]))
  refine Go.step (fun t k => XS.ifYes X_27.here hx rfl (pc0 := 111) (pc' := 124) rfl (hb hby d14_111) rfl (ifY (cd := .ne) (by decide : ¬ (1 : Int) = 0)) (by decide) (by decide) k) ?_
  show Go p.tables e below P (T_27.setTop (mkF m 124 #[.val (.ref a), .val (.ref y1), .val (.ref y2), .val (.int (2 : Int32)), .val (.int (1 : Int32))] []))
  obtain ⟨ni, hni⟩ : ∃ z : Int32, (2 : Int32) + (1 : Int32) = z := ⟨_, rfl⟩
  refine Go.step (fun t k => XS.iinc X_27.here hx rfl (hb hby d14_124) rfl (l' := #[.val (.ref a), .val (.ref y1), .val (.ref y2), .val (.int ((2 : Int32) + (1 : Int32))), .val (.int (1 : Int32))]) rfl k) ?_
  show Go p.tables e below P (T_27.setTop (mkF m 127 #[.val (.ref a), .val (.ref y1), .val (.ref y2), .val (.int ((2 : Int32) + (1 : Int32))), .val (.int (1 : Int32))] []))
  rw [hni]
  show Go p.tables e below P (T_27.setTop (mkF m 127 #[.val (.ref a), .val (.ref y1), .val (.ref y2), .val (.int ni), .val (.int (1 : Int32))] []))
  have ez_ni : ni = (3 : Int32) := by rw [← hni]; rfl
  subst ez_ni
  show Go p.tables e below P (T_27.setTop (mkF m 127 #[.val (.ref a), .val (.ref y1), .val (.ref y2), .val (.int (3 : Int32)), .val (.int (1 : Int32))] []))
  refine Go.step (fun t k => XS.goto X_27.here hx rfl (pc0 := 127) (pc' := 28) rfl (hb hby d14_127) (by decide) (by decide) k) ?_
  show Go p.tables e below P (T_27.setTop (mkF m 28 #[.val (.ref a), .val (.ref y1), .val (.ref y2), .val (.int (3 : Int32)), .val (.int (1 : Int32))] []))
  refine Go.step (fun t k => XS.iloadN X_27.here hx rfl (hb hby d14_28) rfl  k) ?_
  show Go p.tables e below P (T_27.setTop (mkF m 29 #[.val (.ref a), .val (.ref y1), .val (.ref y2), .val (.int (3 : Int32)), .val (.int (1 : Int32))] [(.int (3 : Int32))]))
  refine Go.step (fun t k => XS.aloadN X_27.here hx rfl (hb hby d14_29) rfl rfl k) ?_
  show Go p.tables e below P (T_27.setTop (mkF m 30 #[.val (.ref a), .val (.ref y1), .val (.ref y2), .val (.int (3 : Int32)), .val (.int (1 : Int32))] [(.ref y1), (.int (3 : Int32))]))
  have vq_28 := Vy1
  obtain ⟨cl_28, Ar_28, q_28, S_28, Nn_28, H_28, G_28⟩ := vq_28
  refine Go.step (fun t k => X_27.arraylength hx (by rw [eh_27]; exact Ar_28.1) (State.isArrayOf_alike hZ.alike Ar_28.2.1) (g := (mkF m 30 #[.val (.ref a), .val (.ref y1), .val (.ref y2), .val (.int (3 : Int32)), .val (.int (1 : Int32))] [(.ref y1), (.int (3 : Int32))])) rfl rfl (hb hby d14_30) t k) ?_
  rw [len_of S_28 Nn_28]
  show Go p.tables e below P (T_27.setTop (mkF m 31 #[.val (.ref a), .val (.ref y1), .val (.ref y2), .val (.int (3 : Int32)), .val (.int (1 : Int32))] [(.int (4 : Int32)), (.int (3 : Int32))]))
  refine Go.step (fun t k => XS.icmpNo X_27.here hx rfl (hb hby d14_31) rfl (icN (cd := .ge) (by decide : ¬ ((4 : Int) ≤ (3 : Int)))) k) ?_
  show Go p.tables e below P (T_27.setTop (mkF m 34 #[.val (.ref a), .val (.ref y1), .val (.ref y2), .val (.int (3 : Int32)), .val (.int (1 : Int32))] []))
  refine Go.step (fun t k => XS.iloadN X_27.here hx rfl (hb hby d14_34) rfl  k) ?_
  show Go p.tables e below P (T_27.setTop (mkF m 35 #[.val (.ref a), .val (.ref y1), .val (.ref y2), .val (.int (3 : Int32)), .val (.int (1 : Int32))] [(.int (3 : Int32))]))
  refine Go.step (fun t k => XS.ifYes X_27.here hx rfl (pc0 := 35) (pc' := 54) rfl (hb hby d14_35) rfl (ifY (cd := .ne) (by decide : ¬ (3 : Int) = 0)) (by decide) (by decide) k) ?_
  show Go p.tables e below P (T_27.setTop (mkF m 54 #[.val (.ref a), .val (.ref y1), .val (.ref y2), .val (.int (3 : Int32)), .val (.int (1 : Int32))] []))
  refine Go.step (fun t k => XS.aloadN X_27.here hx rfl (hb hby d14_54) rfl rfl k) ?_
  show Go p.tables e below P (T_27.setTop (mkF m 55 #[.val (.ref a), .val (.ref y1), .val (.ref y2), .val (.int (3 : Int32)), .val (.int (1 : Int32))] [(.ref y1)]))
  refine Go.step (fun t k => XS.iloadN X_27.here hx rfl (hb hby d14_55) rfl  k) ?_
  show Go p.tables e below P (T_27.setTop (mkF m 56 #[.val (.ref a), .val (.ref y1), .val (.ref y2), .val (.int (3 : Int32)), .val (.int (1 : Int32))] [(.int (3 : Int32)), (.ref y1)]))
  have vq_29 := Vy1
  obtain ⟨cl_29, Ar_29, q_29, S_29, Nn_29, H_29, G_29⟩ := vq_29
  have hin_29 : ¬ ((3 : Int32) < 0 ∨ cl_29.slots.size ≤ ((3 : Int32)).toNatClampNeg) := inb_of S_29 ⟨by decide, by decide⟩
  have hat_29 : cl_29.slots[((3 : Int32)).toNatClampNeg]? = some (.double v3) := Has.at H_29 hin_29 rfl
  refine Go.step (fun t k => X_27.daload hx (j := (3 : Int32)) (v := (.double v3)) (by rw [eh_27]; exact Ar_29.1) (State.isArrayOf_alike hZ.alike Ar_29.2.1) Ar_29.2.2 hin_29 hat_29 (g := (mkF m 56 #[.val (.ref a), .val (.ref y1), .val (.ref y2), .val (.int (3 : Int32)), .val (.int (1 : Int32))] [(.int (3 : Int32)), (.ref y1)])) rfl rfl (hb hby d14_56) t k) ?_
  show Go p.tables e below P (T_27.setTop (mkF m 57 #[.val (.ref a), .val (.ref y1), .val (.ref y2), .val (.int (3 : Int32)), .val (.int (1 : Int32))] [(.double v3)]))
  refine Go.step (fun t k => XS.aloadN X_27.here hx rfl (hb hby d14_57) rfl rfl k) ?_
  show Go p.tables e below P (T_27.setTop (mkF m 58 #[.val (.ref a), .val (.ref y1), .val (.ref y2), .val (.int (3 : Int32)), .val (.int (1 : Int32))] [(.ref y1), (.double v3)]))
  refine Go.step (fun t k => XS.iloadN X_27.here hx rfl (hb hby d14_58) rfl  k) ?_
  show Go p.tables e below P (T_27.setTop (mkF m 59 #[.val (.ref a), .val (.ref y1), .val (.ref y2), .val (.int (3 : Int32)), .val (.int (1 : Int32))] [(.int (3 : Int32)), (.ref y1), (.double v3)]))
  refine Go.step (fun t k => XS.iconst X_27.here hx rfl (hb hby d14_59) k) ?_
  show Go p.tables e below P (T_27.setTop (mkF m 60 #[.val (.ref a), .val (.ref y1), .val (.ref y2), .val (.int (3 : Int32)), .val (.int (1 : Int32))] [(.int (1 : Int32)), (.int (3 : Int32)), (.ref y1), (.double v3)]))
  obtain ⟨pm, hpm⟩ : ∃ z : Int32, (3 : Int32) - (1 : Int32) = z := ⟨_, rfl⟩
  refine Go.step (fun t k => isub_v X_27.here hx rfl (hb hby d14_60) rfl  hpm k) ?_
  show Go p.tables e below P (T_27.setTop (mkF m 61 #[.val (.ref a), .val (.ref y1), .val (.ref y2), .val (.int (3 : Int32)), .val (.int (1 : Int32))] [(.int pm), (.ref y1), (.double v3)]))
  have ez_pm : pm = (2 : Int32) := by rw [← hpm]; rfl
  subst ez_pm
  show Go p.tables e below P (T_27.setTop (mkF m 61 #[.val (.ref a), .val (.ref y1), .val (.ref y2), .val (.int (3 : Int32)), .val (.int (1 : Int32))] [(.int (2 : Int32)), (.ref y1), (.double v3)]))
  have vq_30 := Vy1
  obtain ⟨cl_30, Ar_30, q_30, S_30, Nn_30, H_30, G_30⟩ := vq_30
  have hin_30 : ¬ ((2 : Int32) < 0 ∨ cl_30.slots.size ≤ ((2 : Int32)).toNatClampNeg) := inb_of S_30 ⟨by decide, by decide⟩
  have hat_30 : cl_30.slots[((2 : Int32)).toNatClampNeg]? = some (.double v2) := Has.at H_30 hin_30 rfl
  refine Go.step (fun t k => X_27.daload hx (j := (2 : Int32)) (v := (.double v2)) (by rw [eh_27]; exact Ar_30.1) (State.isArrayOf_alike hZ.alike Ar_30.2.1) Ar_30.2.2 hin_30 hat_30 (g := (mkF m 61 #[.val (.ref a), .val (.ref y1), .val (.ref y2), .val (.int (3 : Int32)), .val (.int (1 : Int32))] [(.int (2 : Int32)), (.ref y1), (.double v3)])) rfl rfl (hb hby d14_61) t k) ?_
  show Go p.tables e below P (T_27.setTop (mkF m 62 #[.val (.ref a), .val (.ref y1), .val (.ref y2), .val (.int (3 : Int32)), .val (.int (1 : Int32))] [(.double v2), (.double v3)]))
  refine Go.step (fun t k => XS.dcmpS X_27.here hx rfl (hb hby d14_62) rfl rfl k) ?_
  show Go p.tables e below P (T_27.setTop (mkF m 63 #[.val (.ref a), .val (.ref y1), .val (.ref y2), .val (.int (3 : Int32)), .val (.int (1 : Int32))] [(.int (cmpValue (FP.dcmp v3 v2) .l))]))
  refine Go.step (fun t k => XS.ifNo X_27.here hx rfl (hb hby d14_63) rfl (dcN (cd := .le) (DE.cmp q3 q2) (by omega : ¬ (z3 ≤ z2))) k) ?_
  show Go p.tables e below P (T_27.setTop (mkF m 66 #[.val (.ref a), .val (.ref y1), .val (.ref y2), .val (.int (3 : Int32)), .val (.int (1 : Int32))] []))
  refine Go.step (fun t k => XS.iconst X_27.here hx rfl (hb hby d14_66) k) ?_
  show Go p.tables e below P (T_27.setTop (mkF m 67 #[.val (.ref a), .val (.ref y1), .val (.ref y2), .val (.int (3 : Int32)), .val (.int (1 : Int32))] [(.int (1 : Int32))]))
  refine Go.step (fun t k => XS.goto X_27.here hx rfl (pc0 := 67) (pc' := 71) rfl (hb hby d14_67) (by decide) (by decide) k) ?_
  show Go p.tables e below P (T_27.setTop (mkF m 71 #[.val (.ref a), .val (.ref y1), .val (.ref y2), .val (.int (3 : Int32)), .val (.int (1 : Int32))] [(.int (1 : Int32))]))
  refine Go.step (fun t k => XS.istore X_27.here hx rfl (hb hby d14_71) rfl (l' := #[.val (.ref a), .val (.ref y1), .val (.ref y2), .val (.int (3 : Int32)), .val (.int (1 : Int32))]) rfl k) ?_
  show Go p.tables e below P (T_27.setTop (mkF m 73 #[.val (.ref a), .val (.ref y1), .val (.ref y2), .val (.int (3 : Int32)), .val (.int (1 : Int32))] []))
  refine Go.step (fun t k => XS.iload X_27.here hx rfl (hb hby d14_73) rfl  k) ?_
  show Go p.tables e below P (T_27.setTop (mkF m 75 #[.val (.ref a), .val (.ref y1), .val (.ref y2), .val (.int (3 : Int32)), .val (.int (1 : Int32))] [(.int (1 : Int32))]))
  refine Go.step (fun t k => XS.ifNo X_27.here hx rfl (hb hby d14_75) rfl (ifN (cd := .eq) (by decide : ¬ ((1 : Int) = 0))) k) ?_
  show Go p.tables e below P (T_27.setTop (mkF m 78 #[.val (.ref a), .val (.ref y1), .val (.ref y2), .val (.int (3 : Int32)), .val (.int (1 : Int32))] []))
  refine Go.step (fun t k => XS.aloadN X_27.here hx rfl (hb hby d14_78) rfl rfl k) ?_
  show Go p.tables e below P (T_27.setTop (mkF m 79 #[.val (.ref a), .val (.ref y1), .val (.ref y2), .val (.int (3 : Int32)), .val (.int (1 : Int32))] [(.ref y1)]))
  refine Go.step (fun t k => XS.iloadN X_27.here hx rfl (hb hby d14_79) rfl  k) ?_
  show Go p.tables e below P (T_27.setTop (mkF m 80 #[.val (.ref a), .val (.ref y1), .val (.ref y2), .val (.int (3 : Int32)), .val (.int (1 : Int32))] [(.int (3 : Int32)), (.ref y1)]))
  have vq_31 := Vy1
  obtain ⟨cl_31, Ar_31, q_31, S_31, Nn_31, H_31, G_31⟩ := vq_31
  have hin_31 : ¬ ((3 : Int32) < 0 ∨ cl_31.slots.size ≤ ((3 : Int32)).toNatClampNeg) := inb_of S_31 ⟨by decide, by decide⟩
  have hat_31 : cl_31.slots[((3 : Int32)).toNatClampNeg]? = some (.double v3) := Has.at H_31 hin_31 rfl
  refine Go.step (fun t k => X_27.daload hx (j := (3 : Int32)) (v := (.double v3)) (by rw [eh_27]; exact Ar_31.1) (State.isArrayOf_alike hZ.alike Ar_31.2.1) Ar_31.2.2 hin_31 hat_31 (g := (mkF m 80 #[.val (.ref a), .val (.ref y1), .val (.ref y2), .val (.int (3 : Int32)), .val (.int (1 : Int32))] [(.int (3 : Int32)), (.ref y1)])) rfl rfl (hb hby d14_80) t k) ?_
  show Go p.tables e below P (T_27.setTop (mkF m 81 #[.val (.ref a), .val (.ref y1), .val (.ref y2), .val (.int (3 : Int32)), .val (.int (1 : Int32))] [(.double v3)]))
  obtain ⟨_, _, ⟨T_32, L_32, k_32, n_32⟩, -, X_32, ⟨Lc_32, hQ_32, l_32, y_32, z_32⟩, st_32⟩ := Jvm.LawKit.callS X_27 hx (y := (⟨"java/lang/Double", "isFinite", "(D)Z"⟩ : MethodName)) hown (mvT hZ (hw _ (List.mem_of_getElem? (i := 13) rfl))) (mvT hZ (hw _ (List.mem_of_getElem? (i := 14) rfl))) (mvT hZ (hw _ (List.mem_of_getElem? (i := 15) rfl))) (mvT hZ (hw _ (List.mem_of_getElem? (i := 16) rfl))) (by decide) (backOf (W := 0) (rm1 l Z a0 hw [] v3 h0 n0 Z0 q3.1) hZ (hw _ (List.mem_of_getElem? (i := 16) rfl)) (hw _ (List.mem_of_getElem? (i := 15) rfl)) (by decide) (by decide)) (g := (mkF m 81 #[.val (.ref a), .val (.ref y1), .val (.ref y2), .val (.int (3 : Int32)), .val (.int (1 : Int32))] [(.double v3)])) rfl (by rw [hml]; rfl) (argsL := [(.double v3)]) (rest := []) (lenOf pd_1 rfl) rfl (by show 2 * 0 + _ ≤ _; exact Nat.le_of_eq rfl) (hb hby d14_81) (fun _ _ => ⟨rfl, eh_27, (by decide : 0 + 0 ≤ _), (by decide : 0 + 0 ≤ _)⟩)
  dsimp only [Pt.U, Pt.locs, Pt.cells, Pt.slots] at X_32 l_32 y_32 z_32 st_32 hQ_32
  subst l_32 y_32 z_32
  obtain ⟨rfl, N_32q, eh_32⟩ := hQ_32
  have N_32 := Fr.app N_27 N_32q
  refine Go.step (fun t k => st_32 t k) ?_
  show Go p.tables e below P (T_32.setTop (mkF m 84 #[.val (.ref a), .val (.ref y1), .val (.ref y2), .val (.int (3 : Int32)), .val (.int (1 : Int32))] [(.int (1 : Int32))]))
  refine Go.step (fun t k => XS.ifYes X_32.here hx rfl (pc0 := 84) (pc' := 97) rfl (hb hby d14_84) rfl (ifY (cd := .ne) (by decide : ¬ (1 : Int) = 0)) (by decide) (by decide) k) ?_
  show Go p.tables e below P (T_32.setTop (mkF m 97 #[.val (.ref a), .val (.ref y1), .val (.ref y2), .val (.int (3 : Int32)), .val (.int (1 : Int32))] []))
  refine Go.step (fun t k => XS.aloadN X_32.here hx rfl (hb hby d14_97) rfl rfl k) ?_
  show Go p.tables e below P (T_32.setTop (mkF m 98 #[.val (.ref a), .val (.ref y1), .val (.ref y2), .val (.int (3 : Int32)), .val (.int (1 : Int32))] [(.ref y2)]))
  refine Go.step (fun t k => XS.iloadN X_32.here hx rfl (hb hby d14_98) rfl  k) ?_
  show Go p.tables e below P (T_32.setTop (mkF m 99 #[.val (.ref a), .val (.ref y1), .val (.ref y2), .val (.int (3 : Int32)), .val (.int (1 : Int32))] [(.int (3 : Int32)), (.ref y2)]))
  have vq_33 := Vy2
  obtain ⟨cl_33, Ar_33, q_33, S_33, Nn_33, H_33, G_33⟩ := vq_33
  have hin_33 : ¬ ((3 : Int32) < 0 ∨ cl_33.slots.size ≤ ((3 : Int32)).toNatClampNeg) := inb_of S_33 ⟨by decide, by decide⟩
  have hat_33 : cl_33.slots[((3 : Int32)).toNatClampNeg]? = some (.double fv) := Has.at H_33 hin_33 rfl
  refine Go.step (fun t k => X_32.daload hx (j := (3 : Int32)) (v := (.double fv)) (by rw [eh_32]; exact Ar_33.1) (State.isArrayOf_alike hZ.alike Ar_33.2.1) Ar_33.2.2 hin_33 hat_33 (g := (mkF m 99 #[.val (.ref a), .val (.ref y1), .val (.ref y2), .val (.int (3 : Int32)), .val (.int (1 : Int32))] [(.int (3 : Int32)), (.ref y2)])) rfl rfl (hb hby d14_99) t k) ?_
  show Go p.tables e below P (T_32.setTop (mkF m 100 #[.val (.ref a), .val (.ref y1), .val (.ref y2), .val (.int (3 : Int32)), .val (.int (1 : Int32))] [(.double fv)]))
  refine Go.step (fun t k => XS.dconst0 X_32.here hx rfl (hb hby d14_100) rfl k) ?_
  show Go p.tables e below P (T_32.setTop (mkF m 101 #[.val (.ref a), .val (.ref y1), .val (.ref y2), .val (.int (3 : Int32)), .val (.int (1 : Int32))] [(.double FP.dconst0), (.double fv)]))
  refine Go.step (fun t k => XS.dcmpS X_32.here hx rfl (hb hby d14_101) rfl rfl k) ?_
  show Go p.tables e below P (T_32.setTop (mkF m 102 #[.val (.ref a), .val (.ref y1), .val (.ref y2), .val (.int (3 : Int32)), .val (.int (1 : Int32))] [(.int (cmpValue (FP.dcmp fv FP.dconst0) .l))]))
  refine Go.step (fun t k => XS.ifNo X_32.here hx rfl (hb hby d14_102) rfl (dcN (cd := .lt) (DE.cmp qf (zero_e 1074)) (by omega : ¬ (zf < 0))) k) ?_
  show Go p.tables e below P (T_32.setTop (mkF m 105 #[.val (.ref a), .val (.ref y1), .val (.ref y2), .val (.int (3 : Int32)), .val (.int (1 : Int32))] []))
  refine Go.step (fun t k => XS.aloadN X_32.here hx rfl (hb hby d14_105) rfl rfl k) ?_
  show Go p.tables e below P (T_32.setTop (mkF m 106 #[.val (.ref a), .val (.ref y1), .val (.ref y2), .val (.int (3 : Int32)), .val (.int (1 : Int32))] [(.ref y2)]))
  refine Go.step (fun t k => XS.iloadN X_32.here hx rfl (hb hby d14_106) rfl  k) ?_
  show Go p.tables e below P (T_32.setTop (mkF m 107 #[.val (.ref a), .val (.ref y1), .val (.ref y2), .val (.int (3 : Int32)), .val (.int (1 : Int32))] [(.int (3 : Int32)), (.ref y2)]))
  have vq_34 := Vy2
  obtain ⟨cl_34, Ar_34, q_34, S_34, Nn_34, H_34, G_34⟩ := vq_34
  have hin_34 : ¬ ((3 : Int32) < 0 ∨ cl_34.slots.size ≤ ((3 : Int32)).toNatClampNeg) := inb_of S_34 ⟨by decide, by decide⟩
  have hat_34 : cl_34.slots[((3 : Int32)).toNatClampNeg]? = some (.double fv) := Has.at H_34 hin_34 rfl
  refine Go.step (fun t k => X_32.daload hx (j := (3 : Int32)) (v := (.double fv)) (by rw [eh_32]; exact Ar_34.1) (State.isArrayOf_alike hZ.alike Ar_34.2.1) Ar_34.2.2 hin_34 hat_34 (g := (mkF m 107 #[.val (.ref a), .val (.ref y1), .val (.ref y2), .val (.int (3 : Int32)), .val (.int (1 : Int32))] [(.int (3 : Int32)), (.ref y2)])) rfl rfl (hb hby d14_107) t k) ?_
  show Go p.tables e below P (T_32.setTop (mkF m 108 #[.val (.ref a), .val (.ref y1), .val (.ref y2), .val (.int (3 : Int32)), .val (.int (1 : Int32))] [(.double fv)]))
  obtain ⟨_, _, ⟨T_35, L_35, k_35, n_35⟩, -, X_35, ⟨Lc_35, hQ_35, l_35, y_35, z_35⟩, st_35⟩ := Jvm.LawKit.callS X_32 hx (y := (⟨"java/lang/Double", "isFinite", "(D)Z"⟩ : MethodName)) hown (mvT hZ (hw _ (List.mem_of_getElem? (i := 13) rfl))) (mvT hZ (hw _ (List.mem_of_getElem? (i := 14) rfl))) (mvT hZ (hw _ (List.mem_of_getElem? (i := 15) rfl))) (mvT hZ (hw _ (List.mem_of_getElem? (i := 16) rfl))) (by decide) (backOf (W := 0) (rm1 l Z a0 hw [] fv h0 n0 Z0 qf.1) hZ (hw _ (List.mem_of_getElem? (i := 16) rfl)) (hw _ (List.mem_of_getElem? (i := 15) rfl)) (by decide) (by decide)) (g := (mkF m 108 #[.val (.ref a), .val (.ref y1), .val (.ref y2), .val (.int (3 : Int32)), .val (.int (1 : Int32))] [(.double fv)])) rfl (by rw [hml]; rfl) (argsL := [(.double fv)]) (rest := []) (lenOf pd_1 rfl) rfl (by show 2 * 0 + _ ≤ _; exact Nat.le_of_eq rfl) (hb hby d14_108) (fun _ _ => ⟨rfl, eh_32, (by decide : 0 + 0 ≤ _), (by decide : 0 + 0 ≤ _)⟩)
  dsimp only [Pt.U, Pt.locs, Pt.cells, Pt.slots] at X_35 l_35 y_35 z_35 st_35 hQ_35
  subst l_35 y_35 z_35
  obtain ⟨rfl, N_35q, eh_35⟩ := hQ_35
  have N_35 := Fr.app N_32 N_35q
  refine Go.step (fun t k => st_35 t k) ?_
  show Go p.tables e below P (T_35.setTop (mkF m 111 #[.val (.ref a), .val (.ref y1), .val (.ref y2), .val (.int (3 : Int32)), .val (.int (1 : Int32))] [(.int (1 : Int32))]))
  refine Go.step (fun t k => XS.ifYes X_35.here hx rfl (pc0 := 111) (pc' := 124) rfl (hb hby d14_111) rfl (ifY (cd := .ne) (by decide : ¬ (1 : Int) = 0)) (by decide) (by decide) k) ?_
  show Go p.tables e below P (T_35.setTop (mkF m 124 #[.val (.ref a), .val (.ref y1), .val (.ref y2), .val (.int (3 : Int32)), .val (.int (1 : Int32))] []))
  obtain ⟨ni, hni⟩ : ∃ z : Int32, (3 : Int32) + (1 : Int32) = z := ⟨_, rfl⟩
  refine Go.step (fun t k => XS.iinc X_35.here hx rfl (hb hby d14_124) rfl (l' := #[.val (.ref a), .val (.ref y1), .val (.ref y2), .val (.int ((3 : Int32) + (1 : Int32))), .val (.int (1 : Int32))]) rfl k) ?_
  show Go p.tables e below P (T_35.setTop (mkF m 127 #[.val (.ref a), .val (.ref y1), .val (.ref y2), .val (.int ((3 : Int32) + (1 : Int32))), .val (.int (1 : Int32))] []))
  rw [hni]
  show Go p.tables e below P (T_35.setTop (mkF m 127 #[.val (.ref a), .val (.ref y1), .val (.ref y2), .val (.int ni), .val (.int (1 : Int32))] []))
  have ez_ni : ni = (4 : Int32) := by rw [← hni]; rfl
  subst ez_ni
  show Go p.tables e below P (T_35.setTop (mkF m 127 #[.val (.ref a), .val (.ref y1), .val (.ref y2), .val (.int (4 : Int32)), .val (.int (1 : Int32))] []))
  refine Go.step (fun t k => XS.goto X_35.here hx rfl (pc0 := 127) (pc' := 28) rfl (hb hby d14_127) (by decide) (by decide) k) ?_
  show Go p.tables e below P (T_35.setTop (mkF m 28 #[.val (.ref a), .val (.ref y1), .val (.ref y2), .val (.int (4 : Int32)), .val (.int (1 : Int32))] []))
  refine Go.step (fun t k => XS.iloadN X_35.here hx rfl (hb hby d14_28) rfl  k) ?_
  show Go p.tables e below P (T_35.setTop (mkF m 29 #[.val (.ref a), .val (.ref y1), .val (.ref y2), .val (.int (4 : Int32)), .val (.int (1 : Int32))] [(.int (4 : Int32))]))
  refine Go.step (fun t k => XS.aloadN X_35.here hx rfl (hb hby d14_29) rfl rfl k) ?_
  show Go p.tables e below P (T_35.setTop (mkF m 30 #[.val (.ref a), .val (.ref y1), .val (.ref y2), .val (.int (4 : Int32)), .val (.int (1 : Int32))] [(.ref y1), (.int (4 : Int32))]))
  have vq_36 := Vy1
  obtain ⟨cl_36, Ar_36, q_36, S_36, Nn_36, H_36, G_36⟩ := vq_36
  refine Go.step (fun t k => X_35.arraylength hx (by rw [eh_35]; exact Ar_36.1) (State.isArrayOf_alike hZ.alike Ar_36.2.1) (g := (mkF m 30 #[.val (.ref a), .val (.ref y1), .val (.ref y2), .val (.int (4 : Int32)), .val (.int (1 : Int32))] [(.ref y1), (.int (4 : Int32))])) rfl rfl (hb hby d14_30) t k) ?_
  rw [len_of S_36 Nn_36]
  show Go p.tables e below P (T_35.setTop (mkF m 31 #[.val (.ref a), .val (.ref y1), .val (.ref y2), .val (.int (4 : Int32)), .val (.int (1 : Int32))] [(.int (4 : Int32)), (.int (4 : Int32))]))
  refine Go.step (fun t k => XS.icmpYes X_35.here hx rfl (pc0 := 31) (pc' := 130) rfl (hb hby d14_31) rfl (icY (cd := .ge) (by decide : (4 : Int) ≤ (4 : Int))) (by decide) (by decide) k) ?_
  show Go p.tables e below P (T_35.setTop (mkF m 130 #[.val (.ref a), .val (.ref y1), .val (.ref y2), .val (.int (4 : Int32)), .val (.int (1 : Int32))] []))
  refine Go.step (fun t k => XS.aloadN X_35.here hx rfl (hb hby d14_130) rfl rfl k) ?_
  show Go p.tables e below P (T_35.setTop (mkF m 131 #[.val (.ref a), .val (.ref y1), .val (.ref y2), .val (.int (4 : Int32)), .val (.int (1 : Int32))] [(.ref a)]))
  refine Go.step (fun t k => XS.aloadN X_35.here hx rfl (hb hby d14_131) rfl rfl k) ?_
  show Go p.tables e below P (T_35.setTop (mkF m 132 #[.val (.ref a), .val (.ref y1), .val (.ref y2), .val (.int (4 : Int32)), .val (.int (1 : Int32))] [(.ref y1), (.ref a)]))
  obtain ⟨T_37, h_37, X_37, e_37, E_37, A_37, Ex_37, st_37⟩ := cloneH X_35 hx hZ hown (hw _ (List.mem_of_getElem? (i := 22) rfl)) (hw _ (List.mem_of_getElem? (i := 23) rfl)) (hw _ (List.mem_of_getElem? (i := 27) rfl)) (hw _ (List.mem_of_getElem? (i := 25) rfl)) (hw _ (List.mem_of_getElem? (i := 26) rfl)) (hw _ (List.mem_of_getElem? (i := 28) rfl)) eh_35 Vy1.arh Ey1 (g := (mkF m 132 #[.val (.ref a), .val (.ref y1), .val (.ref y2), .val (.int (4 : Int32)), .val (.int (1 : Int32))] [(.ref y1), (.ref a)])) rfl (by rw [hml]; rfl) rfl (hb hby d14_132) (by decide) (W := 1) (by show 2 * 0 + _ ≤ _; exact Nat.le_of_eq rfl) (by decide) (cap := 4) (by decide) (by decide) (by decide)
  obtain ⟨c1, g_37⟩ : ∃ z, z = h0.size := ⟨_, rfl⟩
  rw [← g_37] at A_37 Ex_37 st_37
  have g_c1 : n0 ≤ c1 := Nat.le_trans Z0 (Nat.le_of_eq g_37.symm)
  have sz_c1 : h0.size ≤ c1 := Nat.le_trans (Keep.refl h0 [a]).1 (Nat.le_of_eq g_37.symm)
  have lt_a_c1 : a < c1 := Nat.lt_of_lt_of_le E_a.lt (Nat.le_of_eq g_37.symm)
  have ne_a_c1 : a ≠ c1 := Nat.ne_of_lt lt_a_c1
  have lt_y1_c1 : y1 < c1 := Nat.lt_of_lt_of_le Vy1.lt (Nat.le_of_eq g_37.symm)
  have ne_y1_c1 : y1 ≠ c1 := Nat.ne_of_lt lt_y1_c1
  have lt_y2_c1 : y2 < c1 := Nat.lt_of_lt_of_le Vy2.lt (Nat.le_of_eq g_37.symm)
  have ne_y2_c1 : y2 ≠ c1 := Nat.ne_of_lt lt_y2_c1
  have V_37 : Arv Z h_37 c1 k1 .double (4 : Int32) [(.double v0), (.double v1), (.double v2), (.double v3)] (.double (0 : UInt64)) := A_37
  have K_37 : Keep h0 h_37 [a] := (Keep.refl h0 [a]).ext E_37
  have Z_37 : n0 ≤ h_37.size := Nat.le_trans Z0 E_37.1
  refine Go.step (fun t k => st_37 t k) ?_
  show Go p.tables e below P (T_37.setTop (mkF m 135 #[.val (.ref a), .val (.ref y1), .val (.ref y2), .val (.int (4 : Int32)), .val (.int (1 : Int32))] [(.ref c1), (.ref a)]))
  obtain ⟨T_38, X_38, e_38, st_38⟩ := castY X_37 hx hZ hown (hw _ (List.mem_of_getElem? (i := 29) rfl)) e_37 (Ins.self Ex_37) (g := (mkF m 135 #[.val (.ref a), .val (.ref y1), .val (.ref y2), .val (.int (4 : Int32)), .val (.int (1 : Int32))] [(.ref c1), (.ref a)])) rfl rfl (hb hby d14_135)
  refine Go.step (fun t k => st_38 t k) ?_
  show Go p.tables e below P (T_38.setTop (mkF m 138 #[.val (.ref a), .val (.ref y1), .val (.ref y2), .val (.int (4 : Int32)), .val (.int (1 : Int32))] [(.ref c1), (.ref a)]))
  obtain ⟨T_39, h_39, X_39, e_39, W_39, st_39⟩ := putF X_38 hx hZ hown (host := "") (Or.inl (hw _ (List.mem_of_getElem? (i := 31) rfl))) Via.refl e_38 (F0.ext E_37) (E_a.ext E_37) (Or.inr ⟨(hw _ (List.mem_of_getElem? (i := 32) rfl)), rfl, hnm⟩) (hw _ (List.mem_of_getElem? (i := 5) rfl)) (ty := (.array .double)) (by decide) rfl rfl (g := (mkF m 138 #[.val (.ref a), .val (.ref y1), .val (.ref y2), .val (.int (4 : Int32)), .val (.int (1 : Int32))] [(.ref c1), (.ref a)])) rfl rfl (hb hby d14_138)
  have Fw_39 := (F0.ext E_37).same W_39
  have N_39 := Fr.snoc X_39 N_35 g_a
  have K_39 : Keep h0 h_39 [a] := K_37.wr W_39 (Or.inl (List.mem_of_getElem? (i := 0) rfl))
  have Z_39 : n0 ≤ h_39.size := Nat.le_trans Z_37 (Keep.of_wr W_39).1
  refine Go.step (fun t k => st_39 t k) ?_
  show Go p.tables e below P (T_39.setTop (mkF m 141 #[.val (.ref a), .val (.ref y1), .val (.ref y2), .val (.int (4 : Int32)), .val (.int (1 : Int32))] []))
  refine Go.step (fun t k => XS.aloadN X_39.here hx rfl (hb hby d14_141) rfl rfl k) ?_
  show Go p.tables e below P (T_39.setTop (mkF m 142 #[.val (.ref a), .val (.ref y1), .val (.ref y2), .val (.int (4 : Int32)), .val (.int (1 : Int32))] [(.ref a)]))
  refine Go.step (fun t k => XS.aloadN X_39.here hx rfl (hb hby d14_142) rfl rfl k) ?_
  show Go p.tables e below P (T_39.setTop (mkF m 143 #[.val (.ref a), .val (.ref y1), .val (.ref y2), .val (.int (4 : Int32)), .val (.int (1 : Int32))] [(.ref y2), (.ref a)]))
  obtain ⟨T_40, h_40, X_40, e_40, E_40, A_40, Ex_40, st_40⟩ := cloneH X_39 hx hZ hown (hw _ (List.mem_of_getElem? (i := 22) rfl)) (hw _ (List.mem_of_getElem? (i := 23) rfl)) (hw _ (List.mem_of_getElem? (i := 27) rfl)) (hw _ (List.mem_of_getElem? (i := 25) rfl)) (hw _ (List.mem_of_getElem? (i := 26) rfl)) (hw _ (List.mem_of_getElem? (i := 28) rfl)) e_39 ((Vy2.ext E_37).other W_39 (Ne.symm na2)).arh ((Ey2.ext E_37).wr W_39) (g := (mkF m 143 #[.val (.ref a), .val (.ref y1), .val (.ref y2), .val (.int (4 : Int32)), .val (.int (1 : Int32))] [(.ref y2), (.ref a)])) rfl (by rw [hml]; rfl) rfl (hb hby d14_143) (by decide) (W := 1) (by show 2 * 0 + _ ≤ _; exact Nat.le_of_eq rfl) (by decide) (cap := 4) (by decide) (by decide) (by decide)
  obtain ⟨c2, g_40⟩ : ∃ z, z = h_39.size := ⟨_, rfl⟩
  rw [← g_40] at A_40 Ex_40 st_40
  have g_c2 : n0 ≤ c2 := Nat.le_trans Z_39 (Nat.le_of_eq g_40.symm)
  have sz_c2 : h0.size ≤ c2 := Nat.le_trans K_39.1 (Nat.le_of_eq g_40.symm)
  have lt_a_c2 : a < c2 := Nat.lt_of_lt_of_le ((E_a.ext E_37).wr W_39).lt (Nat.le_of_eq g_40.symm)
  have ne_a_c2 : a ≠ c2 := Nat.ne_of_lt lt_a_c2
  have lt_y1_c2 : y1 < c2 := Nat.lt_of_lt_of_le ((Vy1.ext E_37).other W_39 (Ne.symm na1)).lt (Nat.le_of_eq g_40.symm)
  have ne_y1_c2 : y1 ≠ c2 := Nat.ne_of_lt lt_y1_c2
  have lt_y2_c2 : y2 < c2 := Nat.lt_of_lt_of_le ((Vy2.ext E_37).other W_39 (Ne.symm na2)).lt (Nat.le_of_eq g_40.symm)
  have ne_y2_c2 : y2 ≠ c2 := Nat.ne_of_lt lt_y2_c2
  have lt_c1_c2 : c1 < c2 := Nat.lt_of_lt_of_le (V_37.other W_39 (Ne.symm ne_a_c1)).lt (Nat.le_of_eq g_40.symm)
  have ne_c1_c2 : c1 ≠ c2 := Nat.ne_of_lt lt_c1_c2
  have V_40 : Arv Z h_40 c2 k2 .double (4 : Int32) [(.double fv), (.double fv), (.double fv), (.double fv)] (.double (0 : UInt64)) := A_40
  have K_40 : Keep h0 h_40 [a] := K_39.ext E_40
  have Z_40 : n0 ≤ h_40.size := Nat.le_trans Z_39 E_40.1
  refine Go.step (fun t k => st_40 t k) ?_
  show Go p.tables e below P (T_40.setTop (mkF m 146 #[.val (.ref a), .val (.ref y1), .val (.ref y2), .val (.int (4 : Int32)), .val (.int (1 : Int32))] [(.ref c2), (.ref a)]))
  obtain ⟨T_41, X_41, e_41, st_41⟩ := castY X_40 hx hZ hown (hw _ (List.mem_of_getElem? (i := 29) rfl)) e_40 (Ins.self Ex_40) (g := (mkF m 146 #[.val (.ref a), .val (.ref y1), .val (.ref y2), .val (.int (4 : Int32)), .val (.int (1 : Int32))] [(.ref c2), (.ref a)])) rfl rfl (hb hby d14_146)
  refine Go.step (fun t k => st_41 t k) ?_
  show Go p.tables e below P (T_41.setTop (mkF m 149 #[.val (.ref a), .val (.ref y1), .val (.ref y2), .val (.int (4 : Int32)), .val (.int (1 : Int32))] [(.ref c2), (.ref a)]))
  obtain ⟨T_42, h_42, X_42, e_42, W_42, st_42⟩ := putF X_41 hx hZ hown (host := "") (Or.inl (hw _ (List.mem_of_getElem? (i := 33) rfl))) Via.refl e_41 (((F1.ext E_37).other W_39 (Or.inr (slot_ne (Or.inr (hw _ (List.mem_of_getElem? (i := 34) rfl))) (Or.inr (hw _ (List.mem_of_getElem? (i := 32) rfl))) (by decide) (t := (.array .double)) (t' := (.array .double)) (by decide) (by decide)))).ext E_40) (((E_a.ext E_37).wr W_39).ext E_40) (Or.inr ⟨(hw _ (List.mem_of_getElem? (i := 34) rfl)), rfl, hnm⟩) (hw _ (List.mem_of_getElem? (i := 5) rfl)) (ty := (.array .double)) (by decide) rfl rfl (g := (mkF m 149 #[.val (.ref a), .val (.ref y1), .val (.ref y2), .val (.int (4 : Int32)), .val (.int (1 : Int32))] [(.ref c2), (.ref a)])) rfl rfl (hb hby d14_149)
  have Fw_42 := (((F1.ext E_37).other W_39 (Or.inr (slot_ne (Or.inr (hw _ (List.mem_of_getElem? (i := 34) rfl))) (Or.inr (hw _ (List.mem_of_getElem? (i := 32) rfl))) (by decide) (t := (.array .double)) (t' := (.array .double)) (by decide) (by decide)))).ext E_40).same W_42
  have N_42 := Fr.snoc X_42 N_39 g_a
  have K_42 : Keep h0 h_42 [a] := K_40.wr W_42 (Or.inl (List.mem_of_getElem? (i := 0) rfl))
  have Z_42 : n0 ≤ h_42.size := Nat.le_trans Z_40 (Keep.of_wr W_42).1
  refine Go.step (fun t k => st_42 t k) ?_
  show Go p.tables e below P (T_42.setTop (mkF m 152 #[.val (.ref a), .val (.ref y1), .val (.ref y2), .val (.int (4 : Int32)), .val (.int (1 : Int32))] []))
  exact voidGo X_42 hx hP Bd.returns hlk (hb hby d14_152) (by decide) (by decide) (by rw [e_42]; exact ⟨rfl, N_42, K_42, ((((E_a.ext E_37).wr W_39).ext E_40).wr W_42), c1, ((Fw_39.ext E_40).other W_42 (Or.inr (slot_ne (Or.inr (hw _ (List.mem_of_getElem? (i := 32) rfl))) (Or.inr (hw _ (List.mem_of_getElem? (i := 34) rfl))) (by decide) (t := (.array .double)) (t' := (.array .double)) (by decide) (by decide)))), (((V_37.other W_39 (Ne.symm ne_a_c1)).ext E_40).other W_42 (Ne.symm ne_a_c1))⟩)
theorem d40_0 : decode prog_11_method_4_code 0 = .ok (.iload_n 1, 1) := by decide +kernel
theorem d40_1 : decode prog_11_method_4_code 1 = .ok (.iconst 1, 1) := by decide +kernel
theorem d40_2 : decode prog_11_method_4_code 2 = .ok (.iadd, 1) := by decide +kernel
theorem d40_3 : decode prog_11_method_4_code 3 = .ok (.aload_n 0, 1) := by decide +kernel
theorem d40_4 : decode prog_11_method_4_code 4 = .ok (.getfield 30, 3) := by decide +kernel
theorem d40_7 : decode prog_11_method_4_code 7 = .ok (.arraylength, 1) := by decide +kernel
theorem d40_8 : decode prog_11_method_4_code 8 = .ok (.if_icmp .ge 14, 3) := by decide +kernel
theorem d40_11 : decode prog_11_method_4_code 11 = .ok (.aload_n 0, 1) := by decide +kernel
theorem d40_12 : decode prog_11_method_4_code 12 = .ok (.getfield 30, 3) := by decide +kernel
theorem d40_15 : decode prog_11_method_4_code 15 = .ok (.iload_n 1, 1) := by decide +kernel
theorem d40_16 : decode prog_11_method_4_code 16 = .ok (.iconst 1, 1) := by decide +kernel
theorem d40_17 : decode prog_11_method_4_code 17 = .ok (.iadd, 1) := by decide +kernel
theorem d40_18 : decode prog_11_method_4_code 18 = .ok (.daload, 1) := by decide +kernel
theorem d40_19 : decode prog_11_method_4_code 19 = .ok (.goto 6, 3) := by decide +kernel
theorem d40_25 : decode prog_11_method_4_code 25 = .ok (.dreturn, 1) := by decide +kernel
theorem pn_40 : plainName "com/example/gleitfahrt/gleitfahrt/engine/ForceCurve$Table" = true := by first | (simp [plainName, overriddenIn]; done) | decide +kernel
theorem ef_40 (m : MethodId) (x0 : Addr) (x1 : Int32) : entryFrame m #[(.ref x0), (.int x1)] 2 = mkF m 0 #[.val (.ref x0), .val (.int x1)] [] := by first | (simp [entryFrame, mkF, argsToLocals, Value.category]; done) | rfl
def Q40 (Z : State) (a : Addr) (x1 : Addr) (k1 : ClassId) (v0 : UInt64) (v1 : UInt64) (v2 : UInt64) (v3 : UInt64) (h0 : Heap) (n0 : Nat) (v : Option Value) (h : Heap) (L : List Loc) : Prop := v = some (.double v1) ∧ Fr n0 L ∧ h = h0
set_option maxRecDepth 65536 in
set_option maxHeartbeats 40000000 in
theorem up4_0 (l : Launch) (Z : State) (a0 : Array Value) (hw : ∀ d ∈ tables_1, d.before a0 Z = true) (ws : List Jvm.Cond) (a : Addr) (x1 : Addr) (k1 : ClassId) (v0 : UInt64) (v1 : UInt64) (v2 : UInt64) (v3 : UInt64) (h0 : Heap) (n0 : Nat) (Z0 : n0 ≤ h0.size) (F0 : Fld Z h0 a "com/example/gleitfahrt/gleitfahrt/engine/ForceCurve$Table" "speedsMs" "[D" (.ref x1)) (Vx1 : Arv Z h0 x1 k1 .double (4 : Int32) [(.double v0), (.double v1), (.double v2), (.double v3)] (.double (0 : UInt64))) :
    MetFree l (⟨"com/example/gleitfahrt/gleitfahrt/engine/ForceCurve$Table", "upperMs", "(I)D"⟩ : MethodName) (head1 (Jvm.Cond.code (⟨"com/example/gleitfahrt/gleitfahrt/engine/ForceCurve$Table", "upperMs", "(I)D"⟩ : MethodName) prog_11_method_4_code 2 (some .double) :: ws) ({ frames := 0, cells := 0, slots := 0, locals := 0 } : Room)) (fun a_ U => a_ = #[(.ref a), (.int (0 : Int32))] ∧ Z.Warmed39 U.vm ∧ U.heap = h0) (fun _ _ _ _ _ => True) (fun _ U o U' => ∃ v L, o = .returned v ∧ Q40 Z a x1 k1 v0 v1 v2 v3 h0 n0 v U'.heap L ∧ FrameEnd U o U' L (({ frames := 0, cells := 0, slots := 0, locals := 0 } : Room)).cells (({ frames := 0, cells := 0, slots := 0, locals := 0 } : Room)).slots) := by
  refine MetFree.of_bodySF (plainFor_of_name pn_40) hisR ?_
  intro p e s m args below meth c s₁ Bd hml0 hP0 hK
  obtain ⟨rfl, hZ, hh⟩ := hP0
  have hx := Bd.exec
  have hby := Bd.bytes
  have hml : c.maxLocals = 2 := hml0
  have hown : s.vm.findClass "com/example/gleitfahrt/gleitfahrt/engine/ForceCurve$Table" = some m.cls := findClass_of_methodNamed Bd.named
  have hnm := (name_of_methodNamed Bd.named Bd.method).1
  have X0 : Stand p l e ({ frames := 0, cells := 0, slots := 0, locals := 0 } : Room) s m #[(.ref a), (.int (0 : Int32))] below meth c s₁ [] 0 0 := Stand.of_body Bd
  have e0 : s₁.heap = h0 := by rw [← hh, Bd.state]; rfl
  have N0 := Fr.nil n0
  have hlk : meth.locks = false := BodyLoose.notSynchronized Bd
  refine Go.start (P₀ := fun s₂ o => ∃ v L, o = .returned v ∧ Q40 Z a x1 k1 v0 v1 v2 v3 h0 n0 v s₂.heap L ∧ FrameEnd s o s₂ L (({ frames := 0, cells := 0, slots := 0, locals := 0 } : Room)).cells (({ frames := 0, cells := 0, slots := 0, locals := 0 } : Room)).slots) (congrArg s₁.setTop (ef_40 m a (0 : Int32))) ?_
  intro P hP
  show Go p.tables e below P (s₁.setTop (mkF m 0 #[.val (.ref a), .val (.int (0 : Int32))] []))
  refine Go.step (fun t k => XS.iloadN X0.here hx rfl (hb hby d40_0) rfl  k) ?_
  show Go p.tables e below P (s₁.setTop (mkF m 1 #[.val (.ref a), .val (.int (0 : Int32))] [(.int (0 : Int32))]))
  refine Go.step (fun t k => XS.iconst X0.here hx rfl (hb hby d40_1) k) ?_
  show Go p.tables e below P (s₁.setTop (mkF m 2 #[.val (.ref a), .val (.int (0 : Int32))] [(.int (1 : Int32)), (.int (0 : Int32))]))
  obtain ⟨ja, hja⟩ : ∃ z : Int32, (0 : Int32) + (1 : Int32) = z := ⟨_, rfl⟩
  refine Go.step (fun t k => iadd_v X0.here hx rfl (hb hby d40_2) rfl  hja k) ?_
  show Go p.tables e below P (s₁.setTop (mkF m 3 #[.val (.ref a), .val (.int (0 : Int32))] [(.int ja)]))
  have ez_ja : ja = (1 : Int32) := by rw [← hja]; rfl
  subst ez_ja
  show Go p.tables e below P (s₁.setTop (mkF m 3 #[.val (.ref a), .val (.int (0 : Int32))] [(.int (1 : Int32))]))
  refine Go.step (fun t k => XS.aloadN X0.here hx rfl (hb hby d40_3) rfl rfl k) ?_
  show Go p.tables e below P (s₁.setTop (mkF m 4 #[.val (.ref a), .val (.int (0 : Int32))] [(.ref a), (.int (1 : Int32))]))
  obtain ⟨T_1, X_1, e_1, st_1⟩ := getF X0 hx hZ hown (host := "") (Or.inl (hw _ (List.mem_of_getElem? (i := 31) rfl))) Via.refl e0 F0 (g := (mkF m 4 #[.val (.ref a), .val (.int (0 : Int32))] [(.ref a), (.int (1 : Int32))])) rfl rfl (hb hby d40_4)
  refine Go.step (fun t k => st_1 t k) ?_
  show Go p.tables e below P (T_1.setTop (mkF m 7 #[.val (.ref a), .val (.int (0 : Int32))] [(.ref x1), (.int (1 : Int32))]))
  have vq_2 := Vx1
  obtain ⟨cl_2, Ar_2, q_2, S_2, Nn_2, H_2, G_2⟩ := vq_2
  refine Go.step (fun t k => X_1.arraylength hx (by rw [e_1]; exact Ar_2.1) (State.isArrayOf_alike hZ.alike Ar_2.2.1) (g := (mkF m 7 #[.val (.ref a), .val (.int (0 : Int32))] [(.ref x1), (.int (1 : Int32))])) rfl rfl (hb hby d40_7) t k) ?_
  rw [len_of S_2 Nn_2]
  show Go p.tables e below P (T_1.setTop (mkF m 8 #[.val (.ref a), .val (.int (0 : Int32))] [(.int (4 : Int32)), (.int (1 : Int32))]))
  refine Go.step (fun t k => XS.icmpNo X_1.here hx rfl (hb hby d40_8) rfl (icN (cd := .ge) (by decide : ¬ ((4 : Int) ≤ (1 : Int)))) k) ?_
  show Go p.tables e below P (T_1.setTop (mkF m 11 #[.val (.ref a), .val (.int (0 : Int32))] []))
  refine Go.step (fun t k => XS.aloadN X_1.here hx rfl (hb hby d40_11) rfl rfl k) ?_
  show Go p.tables e below P (T_1.setTop (mkF m 12 #[.val (.ref a), .val (.int (0 : Int32))] [(.ref a)]))
  obtain ⟨T_3, X_3, e_3, st_3⟩ := getF X_1 hx hZ hown (host := "") (Or.inl (hw _ (List.mem_of_getElem? (i := 31) rfl))) Via.refl e_1 F0 (g := (mkF m 12 #[.val (.ref a), .val (.int (0 : Int32))] [(.ref a)])) rfl rfl (hb hby d40_12)
  refine Go.step (fun t k => st_3 t k) ?_
  show Go p.tables e below P (T_3.setTop (mkF m 15 #[.val (.ref a), .val (.int (0 : Int32))] [(.ref x1)]))
  refine Go.step (fun t k => XS.iloadN X_3.here hx rfl (hb hby d40_15) rfl  k) ?_
  show Go p.tables e below P (T_3.setTop (mkF m 16 #[.val (.ref a), .val (.int (0 : Int32))] [(.int (0 : Int32)), (.ref x1)]))
  refine Go.step (fun t k => XS.iconst X_3.here hx rfl (hb hby d40_16) k) ?_
  show Go p.tables e below P (T_3.setTop (mkF m 17 #[.val (.ref a), .val (.int (0 : Int32))] [(.int (1 : Int32)), (.int (0 : Int32)), (.ref x1)]))
  obtain ⟨jc, hjc⟩ : ∃ z : Int32, (0 : Int32) + (1 : Int32) = z := ⟨_, rfl⟩
  refine Go.step (fun t k => iadd_v X_3.here hx rfl (hb hby d40_17) rfl  hjc k) ?_
  show Go p.tables e below P (T_3.setTop (mkF m 18 #[.val (.ref a), .val (.int (0 : Int32))] [(.int jc), (.ref x1)]))
  have ez_jc : jc = (1 : Int32) := by rw [← hjc]; rfl
  subst ez_jc
  show Go p.tables e below P (T_3.setTop (mkF m 18 #[.val (.ref a), .val (.int (0 : Int32))] [(.int (1 : Int32)), (.ref x1)]))
  have vq_4 := Vx1
  obtain ⟨cl_4, Ar_4, q_4, S_4, Nn_4, H_4, G_4⟩ := vq_4
  have hin_4 : ¬ ((1 : Int32) < 0 ∨ cl_4.slots.size ≤ ((1 : Int32)).toNatClampNeg) := inb_of S_4 ⟨by decide, by decide⟩
  have hat_4 : cl_4.slots[((1 : Int32)).toNatClampNeg]? = some (.double v1) := Has.at H_4 hin_4 rfl
  refine Go.step (fun t k => X_3.daload hx (j := (1 : Int32)) (v := (.double v1)) (by rw [e_3]; exact Ar_4.1) (State.isArrayOf_alike hZ.alike Ar_4.2.1) Ar_4.2.2 hin_4 hat_4 (g := (mkF m 18 #[.val (.ref a), .val (.int (0 : Int32))] [(.int (1 : Int32)), (.ref x1)])) rfl rfl (hb hby d40_18) t k) ?_
  show Go p.tables e below P (T_3.setTop (mkF m 19 #[.val (.ref a), .val (.int (0 : Int32))] [(.double v1)]))
  refine Go.step (fun t k => XS.goto X_3.here hx rfl (pc0 := 19) (pc' := 25) rfl (hb hby d40_19) (by decide) (by decide) k) ?_
  show Go p.tables e below P (T_3.setTop (mkF m 25 #[.val (.ref a), .val (.int (0 : Int32))] [(.double v1)]))
  exact retGo X_3 hx hP Bd.returns hlk rfl (Or.inr (Or.inr (Or.inl ⟨rfl, rfl, _, rfl⟩))) (hb hby d40_25) (by decide) (by decide) (by rw [e_3]; exact ⟨rfl, N0, rfl⟩)
theorem d41_0 : decode prog_11_method_4_code 0 = .ok (.iload_n 1, 1) := by decide +kernel
theorem d41_1 : decode prog_11_method_4_code 1 = .ok (.iconst 1, 1) := by decide +kernel
theorem d41_2 : decode prog_11_method_4_code 2 = .ok (.iadd, 1) := by decide +kernel
theorem d41_3 : decode prog_11_method_4_code 3 = .ok (.aload_n 0, 1) := by decide +kernel
theorem d41_4 : decode prog_11_method_4_code 4 = .ok (.getfield 30, 3) := by decide +kernel
theorem d41_7 : decode prog_11_method_4_code 7 = .ok (.arraylength, 1) := by decide +kernel
theorem d41_8 : decode prog_11_method_4_code 8 = .ok (.if_icmp .ge 14, 3) := by decide +kernel
theorem d41_11 : decode prog_11_method_4_code 11 = .ok (.aload_n 0, 1) := by decide +kernel
theorem d41_12 : decode prog_11_method_4_code 12 = .ok (.getfield 30, 3) := by decide +kernel
theorem d41_15 : decode prog_11_method_4_code 15 = .ok (.iload_n 1, 1) := by decide +kernel
theorem d41_16 : decode prog_11_method_4_code 16 = .ok (.iconst 1, 1) := by decide +kernel
theorem d41_17 : decode prog_11_method_4_code 17 = .ok (.iadd, 1) := by decide +kernel
theorem d41_18 : decode prog_11_method_4_code 18 = .ok (.daload, 1) := by decide +kernel
theorem d41_19 : decode prog_11_method_4_code 19 = .ok (.goto 6, 3) := by decide +kernel
theorem d41_25 : decode prog_11_method_4_code 25 = .ok (.dreturn, 1) := by decide +kernel
theorem pn_41 : plainName "com/example/gleitfahrt/gleitfahrt/engine/ForceCurve$Table" = true := by first | (simp [plainName, overriddenIn]; done) | decide +kernel
theorem ef_41 (m : MethodId) (x0 : Addr) (x1 : Int32) : entryFrame m #[(.ref x0), (.int x1)] 2 = mkF m 0 #[.val (.ref x0), .val (.int x1)] [] := by first | (simp [entryFrame, mkF, argsToLocals, Value.category]; done) | rfl
def Q41 (Z : State) (a : Addr) (x1 : Addr) (k1 : ClassId) (v0 : UInt64) (v1 : UInt64) (v2 : UInt64) (v3 : UInt64) (h0 : Heap) (n0 : Nat) (v : Option Value) (h : Heap) (L : List Loc) : Prop := v = some (.double v2) ∧ Fr n0 L ∧ h = h0
set_option maxRecDepth 65536 in
set_option maxHeartbeats 40000000 in
theorem up4_1 (l : Launch) (Z : State) (a0 : Array Value) (hw : ∀ d ∈ tables_1, d.before a0 Z = true) (ws : List Jvm.Cond) (a : Addr) (x1 : Addr) (k1 : ClassId) (v0 : UInt64) (v1 : UInt64) (v2 : UInt64) (v3 : UInt64) (h0 : Heap) (n0 : Nat) (Z0 : n0 ≤ h0.size) (F0 : Fld Z h0 a "com/example/gleitfahrt/gleitfahrt/engine/ForceCurve$Table" "speedsMs" "[D" (.ref x1)) (Vx1 : Arv Z h0 x1 k1 .double (4 : Int32) [(.double v0), (.double v1), (.double v2), (.double v3)] (.double (0 : UInt64))) :
    MetFree l (⟨"com/example/gleitfahrt/gleitfahrt/engine/ForceCurve$Table", "upperMs", "(I)D"⟩ : MethodName) (head1 (Jvm.Cond.code (⟨"com/example/gleitfahrt/gleitfahrt/engine/ForceCurve$Table", "upperMs", "(I)D"⟩ : MethodName) prog_11_method_4_code 2 (some .double) :: ws) ({ frames := 0, cells := 0, slots := 0, locals := 0 } : Room)) (fun a_ U => a_ = #[(.ref a), (.int (1 : Int32))] ∧ Z.Warmed39 U.vm ∧ U.heap = h0) (fun _ _ _ _ _ => True) (fun _ U o U' => ∃ v L, o = .returned v ∧ Q41 Z a x1 k1 v0 v1 v2 v3 h0 n0 v U'.heap L ∧ FrameEnd U o U' L (({ frames := 0, cells := 0, slots := 0, locals := 0 } : Room)).cells (({ frames := 0, cells := 0, slots := 0, locals := 0 } : Room)).slots) := by
  refine MetFree.of_bodySF (plainFor_of_name pn_41) hisR ?_
  intro p e s m args below meth c s₁ Bd hml0 hP0 hK
  obtain ⟨rfl, hZ, hh⟩ := hP0
  have hx := Bd.exec
  have hby := Bd.bytes
  have hml : c.maxLocals = 2 := hml0
  have hown : s.vm.findClass "com/example/gleitfahrt/gleitfahrt/engine/ForceCurve$Table" = some m.cls := findClass_of_methodNamed Bd.named
  have hnm := (name_of_methodNamed Bd.named Bd.method).1
  have X0 : Stand p l e ({ frames := 0, cells := 0, slots := 0, locals := 0 } : Room) s m #[(.ref a), (.int (1 : Int32))] below meth c s₁ [] 0 0 := Stand.of_body Bd
  have e0 : s₁.heap = h0 := by rw [← hh, Bd.state]; rfl
  have N0 := Fr.nil n0
  have hlk : meth.locks = false := BodyLoose.notSynchronized Bd
  refine Go.start (P₀ := fun s₂ o => ∃ v L, o = .returned v ∧ Q41 Z a x1 k1 v0 v1 v2 v3 h0 n0 v s₂.heap L ∧ FrameEnd s o s₂ L (({ frames := 0, cells := 0, slots := 0, locals := 0 } : Room)).cells (({ frames := 0, cells := 0, slots := 0, locals := 0 } : Room)).slots) (congrArg s₁.setTop (ef_41 m a (1 : Int32))) ?_
  intro P hP
  show Go p.tables e below P (s₁.setTop (mkF m 0 #[.val (.ref a), .val (.int (1 : Int32))] []))
  refine Go.step (fun t k => XS.iloadN X0.here hx rfl (hb hby d41_0) rfl  k) ?_
  show Go p.tables e below P (s₁.setTop (mkF m 1 #[.val (.ref a), .val (.int (1 : Int32))] [(.int (1 : Int32))]))
  refine Go.step (fun t k => XS.iconst X0.here hx rfl (hb hby d41_1) k) ?_
  show Go p.tables e below P (s₁.setTop (mkF m 2 #[.val (.ref a), .val (.int (1 : Int32))] [(.int (1 : Int32)), (.int (1 : Int32))]))
  obtain ⟨ja, hja⟩ : ∃ z : Int32, (1 : Int32) + (1 : Int32) = z := ⟨_, rfl⟩
  refine Go.step (fun t k => iadd_v X0.here hx rfl (hb hby d41_2) rfl  hja k) ?_
  show Go p.tables e below P (s₁.setTop (mkF m 3 #[.val (.ref a), .val (.int (1 : Int32))] [(.int ja)]))
  have ez_ja : ja = (2 : Int32) := by rw [← hja]; rfl
  subst ez_ja
  show Go p.tables e below P (s₁.setTop (mkF m 3 #[.val (.ref a), .val (.int (1 : Int32))] [(.int (2 : Int32))]))
  refine Go.step (fun t k => XS.aloadN X0.here hx rfl (hb hby d41_3) rfl rfl k) ?_
  show Go p.tables e below P (s₁.setTop (mkF m 4 #[.val (.ref a), .val (.int (1 : Int32))] [(.ref a), (.int (2 : Int32))]))
  obtain ⟨T_1, X_1, e_1, st_1⟩ := getF X0 hx hZ hown (host := "") (Or.inl (hw _ (List.mem_of_getElem? (i := 31) rfl))) Via.refl e0 F0 (g := (mkF m 4 #[.val (.ref a), .val (.int (1 : Int32))] [(.ref a), (.int (2 : Int32))])) rfl rfl (hb hby d41_4)
  refine Go.step (fun t k => st_1 t k) ?_
  show Go p.tables e below P (T_1.setTop (mkF m 7 #[.val (.ref a), .val (.int (1 : Int32))] [(.ref x1), (.int (2 : Int32))]))
  have vq_2 := Vx1
  obtain ⟨cl_2, Ar_2, q_2, S_2, Nn_2, H_2, G_2⟩ := vq_2
  refine Go.step (fun t k => X_1.arraylength hx (by rw [e_1]; exact Ar_2.1) (State.isArrayOf_alike hZ.alike Ar_2.2.1) (g := (mkF m 7 #[.val (.ref a), .val (.int (1 : Int32))] [(.ref x1), (.int (2 : Int32))])) rfl rfl (hb hby d41_7) t k) ?_
  rw [len_of S_2 Nn_2]
  show Go p.tables e below P (T_1.setTop (mkF m 8 #[.val (.ref a), .val (.int (1 : Int32))] [(.int (4 : Int32)), (.int (2 : Int32))]))
  refine Go.step (fun t k => XS.icmpNo X_1.here hx rfl (hb hby d41_8) rfl (icN (cd := .ge) (by decide : ¬ ((4 : Int) ≤ (2 : Int)))) k) ?_
  show Go p.tables e below P (T_1.setTop (mkF m 11 #[.val (.ref a), .val (.int (1 : Int32))] []))
  refine Go.step (fun t k => XS.aloadN X_1.here hx rfl (hb hby d41_11) rfl rfl k) ?_
  show Go p.tables e below P (T_1.setTop (mkF m 12 #[.val (.ref a), .val (.int (1 : Int32))] [(.ref a)]))
  obtain ⟨T_3, X_3, e_3, st_3⟩ := getF X_1 hx hZ hown (host := "") (Or.inl (hw _ (List.mem_of_getElem? (i := 31) rfl))) Via.refl e_1 F0 (g := (mkF m 12 #[.val (.ref a), .val (.int (1 : Int32))] [(.ref a)])) rfl rfl (hb hby d41_12)
  refine Go.step (fun t k => st_3 t k) ?_
  show Go p.tables e below P (T_3.setTop (mkF m 15 #[.val (.ref a), .val (.int (1 : Int32))] [(.ref x1)]))
  refine Go.step (fun t k => XS.iloadN X_3.here hx rfl (hb hby d41_15) rfl  k) ?_
  show Go p.tables e below P (T_3.setTop (mkF m 16 #[.val (.ref a), .val (.int (1 : Int32))] [(.int (1 : Int32)), (.ref x1)]))
  refine Go.step (fun t k => XS.iconst X_3.here hx rfl (hb hby d41_16) k) ?_
  show Go p.tables e below P (T_3.setTop (mkF m 17 #[.val (.ref a), .val (.int (1 : Int32))] [(.int (1 : Int32)), (.int (1 : Int32)), (.ref x1)]))
  obtain ⟨jc, hjc⟩ : ∃ z : Int32, (1 : Int32) + (1 : Int32) = z := ⟨_, rfl⟩
  refine Go.step (fun t k => iadd_v X_3.here hx rfl (hb hby d41_17) rfl  hjc k) ?_
  show Go p.tables e below P (T_3.setTop (mkF m 18 #[.val (.ref a), .val (.int (1 : Int32))] [(.int jc), (.ref x1)]))
  have ez_jc : jc = (2 : Int32) := by rw [← hjc]; rfl
  subst ez_jc
  show Go p.tables e below P (T_3.setTop (mkF m 18 #[.val (.ref a), .val (.int (1 : Int32))] [(.int (2 : Int32)), (.ref x1)]))
  have vq_4 := Vx1
  obtain ⟨cl_4, Ar_4, q_4, S_4, Nn_4, H_4, G_4⟩ := vq_4
  have hin_4 : ¬ ((2 : Int32) < 0 ∨ cl_4.slots.size ≤ ((2 : Int32)).toNatClampNeg) := inb_of S_4 ⟨by decide, by decide⟩
  have hat_4 : cl_4.slots[((2 : Int32)).toNatClampNeg]? = some (.double v2) := Has.at H_4 hin_4 rfl
  refine Go.step (fun t k => X_3.daload hx (j := (2 : Int32)) (v := (.double v2)) (by rw [e_3]; exact Ar_4.1) (State.isArrayOf_alike hZ.alike Ar_4.2.1) Ar_4.2.2 hin_4 hat_4 (g := (mkF m 18 #[.val (.ref a), .val (.int (1 : Int32))] [(.int (2 : Int32)), (.ref x1)])) rfl rfl (hb hby d41_18) t k) ?_
  show Go p.tables e below P (T_3.setTop (mkF m 19 #[.val (.ref a), .val (.int (1 : Int32))] [(.double v2)]))
  refine Go.step (fun t k => XS.goto X_3.here hx rfl (pc0 := 19) (pc' := 25) rfl (hb hby d41_19) (by decide) (by decide) k) ?_
  show Go p.tables e below P (T_3.setTop (mkF m 25 #[.val (.ref a), .val (.int (1 : Int32))] [(.double v2)]))
  exact retGo X_3 hx hP Bd.returns hlk rfl (Or.inr (Or.inr (Or.inl ⟨rfl, rfl, _, rfl⟩))) (hb hby d41_25) (by decide) (by decide) (by rw [e_3]; exact ⟨rfl, N0, rfl⟩)
theorem d42_0 : decode prog_11_method_4_code 0 = .ok (.iload_n 1, 1) := by decide +kernel
theorem d42_1 : decode prog_11_method_4_code 1 = .ok (.iconst 1, 1) := by decide +kernel
theorem d42_2 : decode prog_11_method_4_code 2 = .ok (.iadd, 1) := by decide +kernel
theorem d42_3 : decode prog_11_method_4_code 3 = .ok (.aload_n 0, 1) := by decide +kernel
theorem d42_4 : decode prog_11_method_4_code 4 = .ok (.getfield 30, 3) := by decide +kernel
theorem d42_7 : decode prog_11_method_4_code 7 = .ok (.arraylength, 1) := by decide +kernel
theorem d42_8 : decode prog_11_method_4_code 8 = .ok (.if_icmp .ge 14, 3) := by decide +kernel
theorem d42_11 : decode prog_11_method_4_code 11 = .ok (.aload_n 0, 1) := by decide +kernel
theorem d42_12 : decode prog_11_method_4_code 12 = .ok (.getfield 30, 3) := by decide +kernel
theorem d42_15 : decode prog_11_method_4_code 15 = .ok (.iload_n 1, 1) := by decide +kernel
theorem d42_16 : decode prog_11_method_4_code 16 = .ok (.iconst 1, 1) := by decide +kernel
theorem d42_17 : decode prog_11_method_4_code 17 = .ok (.iadd, 1) := by decide +kernel
theorem d42_18 : decode prog_11_method_4_code 18 = .ok (.daload, 1) := by decide +kernel
theorem d42_19 : decode prog_11_method_4_code 19 = .ok (.goto 6, 3) := by decide +kernel
theorem d42_25 : decode prog_11_method_4_code 25 = .ok (.dreturn, 1) := by decide +kernel
theorem pn_42 : plainName "com/example/gleitfahrt/gleitfahrt/engine/ForceCurve$Table" = true := by first | (simp [plainName, overriddenIn]; done) | decide +kernel
theorem ef_42 (m : MethodId) (x0 : Addr) (x1 : Int32) : entryFrame m #[(.ref x0), (.int x1)] 2 = mkF m 0 #[.val (.ref x0), .val (.int x1)] [] := by first | (simp [entryFrame, mkF, argsToLocals, Value.category]; done) | rfl
def Q42 (Z : State) (a : Addr) (x1 : Addr) (k1 : ClassId) (v0 : UInt64) (v1 : UInt64) (v2 : UInt64) (v3 : UInt64) (h0 : Heap) (n0 : Nat) (v : Option Value) (h : Heap) (L : List Loc) : Prop := v = some (.double v3) ∧ Fr n0 L ∧ h = h0
set_option maxRecDepth 65536 in
set_option maxHeartbeats 40000000 in
theorem up4_2 (l : Launch) (Z : State) (a0 : Array Value) (hw : ∀ d ∈ tables_1, d.before a0 Z = true) (ws : List Jvm.Cond) (a : Addr) (x1 : Addr) (k1 : ClassId) (v0 : UInt64) (v1 : UInt64) (v2 : UInt64) (v3 : UInt64) (h0 : Heap) (n0 : Nat) (Z0 : n0 ≤ h0.size) (F0 : Fld Z h0 a "com/example/gleitfahrt/gleitfahrt/engine/ForceCurve$Table" "speedsMs" "[D" (.ref x1)) (Vx1 : Arv Z h0 x1 k1 .double (4 : Int32) [(.double v0), (.double v1), (.double v2), (.double v3)] (.double (0 : UInt64))) :
    MetFree l (⟨"com/example/gleitfahrt/gleitfahrt/engine/ForceCurve$Table", "upperMs", "(I)D"⟩ : MethodName) (head1 (Jvm.Cond.code (⟨"com/example/gleitfahrt/gleitfahrt/engine/ForceCurve$Table", "upperMs", "(I)D"⟩ : MethodName) prog_11_method_4_code 2 (some .double) :: ws) ({ frames := 0, cells := 0, slots := 0, locals := 0 } : Room)) (fun a_ U => a_ = #[(.ref a), (.int (2 : Int32))] ∧ Z.Warmed39 U.vm ∧ U.heap = h0) (fun _ _ _ _ _ => True) (fun _ U o U' => ∃ v L, o = .returned v ∧ Q42 Z a x1 k1 v0 v1 v2 v3 h0 n0 v U'.heap L ∧ FrameEnd U o U' L (({ frames := 0, cells := 0, slots := 0, locals := 0 } : Room)).cells (({ frames := 0, cells := 0, slots := 0, locals := 0 } : Room)).slots) := by
  refine MetFree.of_bodySF (plainFor_of_name pn_42) hisR ?_
  intro p e s m args below meth c s₁ Bd hml0 hP0 hK
  obtain ⟨rfl, hZ, hh⟩ := hP0
  have hx := Bd.exec
  have hby := Bd.bytes
  have hml : c.maxLocals = 2 := hml0
  have hown : s.vm.findClass "com/example/gleitfahrt/gleitfahrt/engine/ForceCurve$Table" = some m.cls := findClass_of_methodNamed Bd.named
  have hnm := (name_of_methodNamed Bd.named Bd.method).1
  have X0 : Stand p l e ({ frames := 0, cells := 0, slots := 0, locals := 0 } : Room) s m #[(.ref a), (.int (2 : Int32))] below meth c s₁ [] 0 0 := Stand.of_body Bd
  have e0 : s₁.heap = h0 := by rw [← hh, Bd.state]; rfl
  have N0 := Fr.nil n0
  have hlk : meth.locks = false := BodyLoose.notSynchronized Bd
  refine Go.start (P₀ := fun s₂ o => ∃ v L, o = .returned v ∧ Q42 Z a x1 k1 v0 v1 v2 v3 h0 n0 v s₂.heap L ∧ FrameEnd s o s₂ L (({ frames := 0, cells := 0, slots := 0, locals := 0 } : Room)).cells (({ frames := 0, cells := 0, slots := 0, locals := 0 } : Room)).slots) (congrArg s₁.setTop (ef_42 m a (2 : Int32))) ?_
  intro P hP
  show Go p.tables e below P (s₁.setTop (mkF m 0 #[.val (.ref a), .val (.int (2 : Int32))] []))
  refine Go.step (fun t k => XS.iloadN X0.here hx rfl (hb hby d42_0) rfl  k) ?_
  show Go p.tables e below P (s₁.setTop (mkF m 1 #[.val (.ref a), .val (.int (2 : Int32))] [(.int (2 : Int32))]))
  refine Go.step (fun t k => XS.iconst X0.here hx rfl (hb hby d42_1) k) ?_
  show Go p.tables e below P (s₁.setTop (mkF m 2 #[.val (.ref a), .val (.int (2 : Int32))] [(.int (1 : Int32)), (.int (2 : Int32))]))
  obtain ⟨ja, hja⟩ : ∃ z : Int32, (2 : Int32) + (1 : Int32) = z := ⟨_, rfl⟩
  refine Go.step (fun t k => iadd_v X0.here hx rfl (hb hby d42_2) rfl  hja k) ?_
  show Go p.tables e below P (s₁.setTop (mkF m 3 #[.val (.ref a), .val (.int (2 : Int32))] [(.int ja)]))
  have ez_ja : ja = (3 : Int32) := by rw [← hja]; rfl
  subst ez_ja
  show Go p.tables e below P (s₁.setTop (mkF m 3 #[.val (.ref a), .val (.int (2 : Int32))] [(.int (3 : Int32))]))
  refine Go.step (fun t k => XS.aloadN X0.here hx rfl (hb hby d42_3) rfl rfl k) ?_
  show Go p.tables e below P (s₁.setTop (mkF m 4 #[.val (.ref a), .val (.int (2 : Int32))] [(.ref a), (.int (3 : Int32))]))
  obtain ⟨T_1, X_1, e_1, st_1⟩ := getF X0 hx hZ hown (host := "") (Or.inl (hw _ (List.mem_of_getElem? (i := 31) rfl))) Via.refl e0 F0 (g := (mkF m 4 #[.val (.ref a), .val (.int (2 : Int32))] [(.ref a), (.int (3 : Int32))])) rfl rfl (hb hby d42_4)
  refine Go.step (fun t k => st_1 t k) ?_
  show Go p.tables e below P (T_1.setTop (mkF m 7 #[.val (.ref a), .val (.int (2 : Int32))] [(.ref x1), (.int (3 : Int32))]))
  have vq_2 := Vx1
  obtain ⟨cl_2, Ar_2, q_2, S_2, Nn_2, H_2, G_2⟩ := vq_2
  refine Go.step (fun t k => X_1.arraylength hx (by rw [e_1]; exact Ar_2.1) (State.isArrayOf_alike hZ.alike Ar_2.2.1) (g := (mkF m 7 #[.val (.ref a), .val (.int (2 : Int32))] [(.ref x1), (.int (3 : Int32))])) rfl rfl (hb hby d42_7) t k) ?_
  rw [len_of S_2 Nn_2]
  show Go p.tables e below P (T_1.setTop (mkF m 8 #[.val (.ref a), .val (.int (2 : Int32))] [(.int (4 : Int32)), (.int (3 : Int32))]))
  refine Go.step (fun t k => XS.icmpNo X_1.here hx rfl (hb hby d42_8) rfl (icN (cd := .ge) (by decide : ¬ ((4 : Int) ≤ (3 : Int)))) k) ?_
  show Go p.tables e below P (T_1.setTop (mkF m 11 #[.val (.ref a), .val (.int (2 : Int32))] []))
  refine Go.step (fun t k => XS.aloadN X_1.here hx rfl (hb hby d42_11) rfl rfl k) ?_
  show Go p.tables e below P (T_1.setTop (mkF m 12 #[.val (.ref a), .val (.int (2 : Int32))] [(.ref a)]))
  obtain ⟨T_3, X_3, e_3, st_3⟩ := getF X_1 hx hZ hown (host := "") (Or.inl (hw _ (List.mem_of_getElem? (i := 31) rfl))) Via.refl e_1 F0 (g := (mkF m 12 #[.val (.ref a), .val (.int (2 : Int32))] [(.ref a)])) rfl rfl (hb hby d42_12)
  refine Go.step (fun t k => st_3 t k) ?_
  show Go p.tables e below P (T_3.setTop (mkF m 15 #[.val (.ref a), .val (.int (2 : Int32))] [(.ref x1)]))
  refine Go.step (fun t k => XS.iloadN X_3.here hx rfl (hb hby d42_15) rfl  k) ?_
  show Go p.tables e below P (T_3.setTop (mkF m 16 #[.val (.ref a), .val (.int (2 : Int32))] [(.int (2 : Int32)), (.ref x1)]))
  refine Go.step (fun t k => XS.iconst X_3.here hx rfl (hb hby d42_16) k) ?_
  show Go p.tables e below P (T_3.setTop (mkF m 17 #[.val (.ref a), .val (.int (2 : Int32))] [(.int (1 : Int32)), (.int (2 : Int32)), (.ref x1)]))
  obtain ⟨jc, hjc⟩ : ∃ z : Int32, (2 : Int32) + (1 : Int32) = z := ⟨_, rfl⟩
  refine Go.step (fun t k => iadd_v X_3.here hx rfl (hb hby d42_17) rfl  hjc k) ?_
  show Go p.tables e below P (T_3.setTop (mkF m 18 #[.val (.ref a), .val (.int (2 : Int32))] [(.int jc), (.ref x1)]))
  have ez_jc : jc = (3 : Int32) := by rw [← hjc]; rfl
  subst ez_jc
  show Go p.tables e below P (T_3.setTop (mkF m 18 #[.val (.ref a), .val (.int (2 : Int32))] [(.int (3 : Int32)), (.ref x1)]))
  have vq_4 := Vx1
  obtain ⟨cl_4, Ar_4, q_4, S_4, Nn_4, H_4, G_4⟩ := vq_4
  have hin_4 : ¬ ((3 : Int32) < 0 ∨ cl_4.slots.size ≤ ((3 : Int32)).toNatClampNeg) := inb_of S_4 ⟨by decide, by decide⟩
  have hat_4 : cl_4.slots[((3 : Int32)).toNatClampNeg]? = some (.double v3) := Has.at H_4 hin_4 rfl
  refine Go.step (fun t k => X_3.daload hx (j := (3 : Int32)) (v := (.double v3)) (by rw [e_3]; exact Ar_4.1) (State.isArrayOf_alike hZ.alike Ar_4.2.1) Ar_4.2.2 hin_4 hat_4 (g := (mkF m 18 #[.val (.ref a), .val (.int (2 : Int32))] [(.int (3 : Int32)), (.ref x1)])) rfl rfl (hb hby d42_18) t k) ?_
  show Go p.tables e below P (T_3.setTop (mkF m 19 #[.val (.ref a), .val (.int (2 : Int32))] [(.double v3)]))
  refine Go.step (fun t k => XS.goto X_3.here hx rfl (pc0 := 19) (pc' := 25) rfl (hb hby d42_19) (by decide) (by decide) k) ?_
  show Go p.tables e below P (T_3.setTop (mkF m 25 #[.val (.ref a), .val (.int (2 : Int32))] [(.double v3)]))
  exact retGo X_3 hx hP Bd.returns hlk rfl (Or.inr (Or.inr (Or.inl ⟨rfl, rfl, _, rfl⟩))) (hb hby d42_25) (by decide) (by decide) (by rw [e_3]; exact ⟨rfl, N0, rfl⟩)
theorem d43_0 : decode prog_11_method_4_code 0 = .ok (.iload_n 1, 1) := by decide +kernel
theorem d43_1 : decode prog_11_method_4_code 1 = .ok (.iconst 1, 1) := by decide +kernel
theorem d43_2 : decode prog_11_method_4_code 2 = .ok (.iadd, 1) := by decide +kernel
theorem d43_3 : decode prog_11_method_4_code 3 = .ok (.aload_n 0, 1) := by decide +kernel
theorem d43_4 : decode prog_11_method_4_code 4 = .ok (.getfield 30, 3) := by decide +kernel
theorem d43_7 : decode prog_11_method_4_code 7 = .ok (.arraylength, 1) := by decide +kernel
theorem d43_8 : decode prog_11_method_4_code 8 = .ok (.if_icmp .ge 14, 3) := by decide +kernel
theorem d43_22 : decode prog_11_method_4_code 22 = .ok (.ldc2_w 38, 3) := by decide +kernel
theorem d43_25 : decode prog_11_method_4_code 25 = .ok (.dreturn, 1) := by decide +kernel
theorem pn_43 : plainName "com/example/gleitfahrt/gleitfahrt/engine/ForceCurve$Table" = true := by first | (simp [plainName, overriddenIn]; done) | decide +kernel
theorem ef_43 (m : MethodId) (x0 : Addr) (x1 : Int32) : entryFrame m #[(.ref x0), (.int x1)] 2 = mkF m 0 #[.val (.ref x0), .val (.int x1)] [] := by first | (simp [entryFrame, mkF, argsToLocals, Value.category]; done) | rfl
def Q43 (Z : State) (a : Addr) (x1 : Addr) (k1 : ClassId) (v0 : UInt64) (v1 : UInt64) (v2 : UInt64) (v3 : UInt64) (h0 : Heap) (n0 : Nat) (v : Option Value) (h : Heap) (L : List Loc) : Prop := v = some (.double (9218868437227405312 : UInt64)) ∧ Fr n0 L ∧ h = h0
set_option maxRecDepth 65536 in
set_option maxHeartbeats 40000000 in
theorem up4_3 (l : Launch) (Z : State) (a0 : Array Value) (hw : ∀ d ∈ tables_1, d.before a0 Z = true) (ws : List Jvm.Cond) (a : Addr) (x1 : Addr) (k1 : ClassId) (v0 : UInt64) (v1 : UInt64) (v2 : UInt64) (v3 : UInt64) (h0 : Heap) (n0 : Nat) (Z0 : n0 ≤ h0.size) (F0 : Fld Z h0 a "com/example/gleitfahrt/gleitfahrt/engine/ForceCurve$Table" "speedsMs" "[D" (.ref x1)) (Vx1 : Arv Z h0 x1 k1 .double (4 : Int32) [(.double v0), (.double v1), (.double v2), (.double v3)] (.double (0 : UInt64))) :
    MetFree l (⟨"com/example/gleitfahrt/gleitfahrt/engine/ForceCurve$Table", "upperMs", "(I)D"⟩ : MethodName) (head1 (Jvm.Cond.code (⟨"com/example/gleitfahrt/gleitfahrt/engine/ForceCurve$Table", "upperMs", "(I)D"⟩ : MethodName) prog_11_method_4_code 2 (some .double) :: ws) ({ frames := 0, cells := 0, slots := 0, locals := 0 } : Room)) (fun a_ U => a_ = #[(.ref a), (.int (3 : Int32))] ∧ Z.Warmed39 U.vm ∧ U.heap = h0) (fun _ _ _ _ _ => True) (fun _ U o U' => ∃ v L, o = .returned v ∧ Q43 Z a x1 k1 v0 v1 v2 v3 h0 n0 v U'.heap L ∧ FrameEnd U o U' L (({ frames := 0, cells := 0, slots := 0, locals := 0 } : Room)).cells (({ frames := 0, cells := 0, slots := 0, locals := 0 } : Room)).slots) := by
  refine MetFree.of_bodySF (plainFor_of_name pn_43) hisR ?_
  intro p e s m args below meth c s₁ Bd hml0 hP0 hK
  obtain ⟨rfl, hZ, hh⟩ := hP0
  have hx := Bd.exec
  have hby := Bd.bytes
  have hml : c.maxLocals = 2 := hml0
  have hown : s.vm.findClass "com/example/gleitfahrt/gleitfahrt/engine/ForceCurve$Table" = some m.cls := findClass_of_methodNamed Bd.named
  have hnm := (name_of_methodNamed Bd.named Bd.method).1
  have X0 : Stand p l e ({ frames := 0, cells := 0, slots := 0, locals := 0 } : Room) s m #[(.ref a), (.int (3 : Int32))] below meth c s₁ [] 0 0 := Stand.of_body Bd
  have e0 : s₁.heap = h0 := by rw [← hh, Bd.state]; rfl
  have N0 := Fr.nil n0
  have hlk : meth.locks = false := BodyLoose.notSynchronized Bd
  refine Go.start (P₀ := fun s₂ o => ∃ v L, o = .returned v ∧ Q43 Z a x1 k1 v0 v1 v2 v3 h0 n0 v s₂.heap L ∧ FrameEnd s o s₂ L (({ frames := 0, cells := 0, slots := 0, locals := 0 } : Room)).cells (({ frames := 0, cells := 0, slots := 0, locals := 0 } : Room)).slots) (congrArg s₁.setTop (ef_43 m a (3 : Int32))) ?_
  intro P hP
  show Go p.tables e below P (s₁.setTop (mkF m 0 #[.val (.ref a), .val (.int (3 : Int32))] []))
  refine Go.step (fun t k => XS.iloadN X0.here hx rfl (hb hby d43_0) rfl  k) ?_
  show Go p.tables e below P (s₁.setTop (mkF m 1 #[.val (.ref a), .val (.int (3 : Int32))] [(.int (3 : Int32))]))
  refine Go.step (fun t k => XS.iconst X0.here hx rfl (hb hby d43_1) k) ?_
  show Go p.tables e below P (s₁.setTop (mkF m 2 #[.val (.ref a), .val (.int (3 : Int32))] [(.int (1 : Int32)), (.int (3 : Int32))]))
  obtain ⟨ja, hja⟩ : ∃ z : Int32, (3 : Int32) + (1 : Int32) = z := ⟨_, rfl⟩
  refine Go.step (fun t k => iadd_v X0.here hx rfl (hb hby d43_2) rfl  hja k) ?_
  show Go p.tables e below P (s₁.setTop (mkF m 3 #[.val (.ref a), .val (.int (3 : Int32))] [(.int ja)]))
  have ez_ja : ja = (4 : Int32) := by rw [← hja]; rfl
  subst ez_ja
  show Go p.tables e below P (s₁.setTop (mkF m 3 #[.val (.ref a), .val (.int (3 : Int32))] [(.int (4 : Int32))]))
  refine Go.step (fun t k => XS.aloadN X0.here hx rfl (hb hby d43_3) rfl rfl k) ?_
  show Go p.tables e below P (s₁.setTop (mkF m 4 #[.val (.ref a), .val (.int (3 : Int32))] [(.ref a), (.int (4 : Int32))]))
  obtain ⟨T_1, X_1, e_1, st_1⟩ := getF X0 hx hZ hown (host := "") (Or.inl (hw _ (List.mem_of_getElem? (i := 31) rfl))) Via.refl e0 F0 (g := (mkF m 4 #[.val (.ref a), .val (.int (3 : Int32))] [(.ref a), (.int (4 : Int32))])) rfl rfl (hb hby d43_4)
  refine Go.step (fun t k => st_1 t k) ?_
  show Go p.tables e below P (T_1.setTop (mkF m 7 #[.val (.ref a), .val (.int (3 : Int32))] [(.ref x1), (.int (4 : Int32))]))
  have vq_2 := Vx1
  obtain ⟨cl_2, Ar_2, q_2, S_2, Nn_2, H_2, G_2⟩ := vq_2
  refine Go.step (fun t k => X_1.arraylength hx (by rw [e_1]; exact Ar_2.1) (State.isArrayOf_alike hZ.alike Ar_2.2.1) (g := (mkF m 7 #[.val (.ref a), .val (.int (3 : Int32))] [(.ref x1), (.int (4 : Int32))])) rfl rfl (hb hby d43_7) t k) ?_
  rw [len_of S_2 Nn_2]
  show Go p.tables e below P (T_1.setTop (mkF m 8 #[.val (.ref a), .val (.int (3 : Int32))] [(.int (4 : Int32)), (.int (4 : Int32))]))
  refine Go.step (fun t k => XS.icmpYes X_1.here hx rfl (pc0 := 8) (pc' := 22) rfl (hb hby d43_8) rfl (icY (cd := .ge) (by decide : (4 : Int) ≤ (4 : Int))) (by decide) (by decide) k) ?_
  show Go p.tables e below P (T_1.setTop (mkF m 22 #[.val (.ref a), .val (.int (3 : Int32))] []))
  refine Go.step (fun t k => X_1.ldc2DoubleC hx hown (mvT hZ (hw _ (List.mem_of_getElem? (i := 41) rfl))) (g := (mkF m 22 #[.val (.ref a), .val (.int (3 : Int32))] [])) rfl (hb hby d43_22) t k) ?_
  show Go p.tables e below P (T_1.setTop (mkF m 25 #[.val (.ref a), .val (.int (3 : Int32))] [(.double (9218868437227405312 : UInt64))]))
  exact retGo X_1 hx hP Bd.returns hlk rfl (Or.inr (Or.inr (Or.inl ⟨rfl, rfl, _, rfl⟩))) (hb hby d43_25) (by decide) (by decide) (by rw [e_1]; exact ⟨rfl, N0, rfl⟩)
theorem pn_0 : plainName "com/example/gleitfahrt/gleitfahrt/engine/TableUpperMsPinLaw" = true := by first | (simp [plainName, overriddenIn]; done) | decide +kernel
theorem ef_0 (m : MethodId) (x0 : Int32) (x1 : Int32) (x2 : Int32) (x3 : Int32) (x4 : Int32) (x5 : Int32) : entryFrame m #[(.int x0), (.int x1), (.int x2), (.int x3), (.int x4), (.int x5)] maxLocals = mkF m 0 #[.val (.int x0), .val (.int x1), .val (.int x2), .val (.int x3), .val (.int x4), .val (.int x5), .unset, .unset, .unset, .unset, .unset, .unset, .unset, .unset, .unset, .unset, .unset, .unset, .unset, .unset, .unset, .unset, .unset] [] := by first | (simp [entryFrame, mkF, argsToLocals, Value.category, maxLocals]; done) | rfl
def Q0 (Z : State) (p1 : Int32) (p2 : Int32) (p3 : Int32) (p4 : Int32) (p5 : Int32) (p6 : Int32) (h0 : Heap) (n0 : Nat) (v : Option Value) (h : Heap) (L : List Loc) : Prop := v = some (.int 1) ∧ Fr n0 L
set_option maxRecDepth 65536 in
set_option maxHeartbeats 40000000 in
theorem rm0 (l : Launch) (Z : State) (a0 : Array Value) (hw : ∀ d ∈ tables_1, d.before a0 Z = true) (ws : List Jvm.Cond) (p1 : Int32) (p2 : Int32) (p3 : Int32) (p4 : Int32) (p5 : Int32) (p6 : Int32) (h0 : Heap) (n0 : Nat) (Z0 : n0 ≤ h0.size) :
    MetFree l x (head1 (Jvm.Cond.code x code maxLocals ret :: ws) room_1) (fun a_ U => a_ = #[(.int p1), (.int p2), (.int p3), (.int p4), (.int p5), (.int p6)] ∧ Z.Warmed39 U.vm ∧ U.heap = h0) (fun _ _ _ _ _ => True) (fun _ U o U' => ∃ v L, o = .returned v ∧ Q0 Z p1 p2 p3 p4 p5 p6 h0 n0 v U'.heap L ∧ FrameEnd U o U' L 24 128) := by
  refine MetFree.of_bodySF (plainFor_of_name pn_0) hisR ?_
  intro p e s m args below meth c s₁ Bd hml0 hP0 hK
  obtain ⟨rfl, hZ, hh⟩ := hP0
  have hx := Bd.exec
  have hby := Bd.bytes
  have hml : c.maxLocals = 23 := hml0
  have hown : s.vm.findClass "com/example/gleitfahrt/gleitfahrt/engine/TableUpperMsPinLaw" = some m.cls := findClass_of_methodNamed Bd.named
  have hnm := (name_of_methodNamed Bd.named Bd.method).1
  have X0 : Stand p l e room_1 s m #[(.int p1), (.int p2), (.int p3), (.int p4), (.int p5), (.int p6)] below meth c s₁ [] 0 0 := Stand.of_body Bd
  have e0 : s₁.heap = h0 := by rw [← hh, Bd.state]; rfl
  have N0 := Fr.nil n0
  have hlk : meth.locks = false := BodyLoose.notSynchronized Bd
  refine Go.start (P₀ := fun s₂ o => ∃ v L, o = .returned v ∧ Q0 Z p1 p2 p3 p4 p5 p6 h0 n0 v s₂.heap L ∧ FrameEnd s o s₂ L 24 128) (congrArg s₁.setTop (ef_0 m p1 p2 p3 p4 p5 p6)) ?_
  intro P hP
  show Go p.tables e below P (s₁.setTop (mkF m 0 #[.val (.int p1), .val (.int p2), .val (.int p3), .val (.int p4), .val (.int p5), .val (.int p6), .unset, .unset, .unset, .unset, .unset, .unset, .unset, .unset, .unset, .unset, .unset, .unset, .unset, .unset, .unset, .unset, .unset] []))
  refine Go.step (fun t k => XS.iconst X0.here hx rfl (hb hby at_0) k) ?_
  show Go p.tables e below P (s₁.setTop (mkF m 1 #[.val (.int p1), .val (.int p2), .val (.int p3), .val (.int p4), .val (.int p5), .val (.int p6), .unset, .unset, .unset, .unset, .unset, .unset, .unset, .unset, .unset, .unset, .unset, .unset, .unset, .unset, .unset, .unset, .unset] [(.int (1 : Int32))]))
  refine Go.step (fun t k => XS.iloadN X0.here hx rfl (hb hby at_1) rfl  k) ?_
  show Go p.tables e below P (s₁.setTop (mkF m 2 #[.val (.int p1), .val (.int p2), .val (.int p3), .val (.int p4), .val (.int p5), .val (.int p6), .unset, .unset, .unset, .unset, .unset, .unset, .unset, .unset, .unset, .unset, .unset, .unset, .unset, .unset, .unset, .unset, .unset] [(.int p1), (.int (1 : Int32))]))
  refine Go.step (fun t k => XS.iconst X0.here hx rfl (hb hby at_2) k) ?_
  show Go p.tables e below P (s₁.setTop (mkF m 3 #[.val (.int p1), .val (.int p2), .val (.int p3), .val (.int p4), .val (.int p5), .val (.int p6), .unset, .unset, .unset, .unset, .unset, .unset, .unset, .unset, .unset, .unset, .unset, .unset, .unset, .unset, .unset, .unset, .unset] [(.int (3 : Int32)), (.int p1), (.int (1 : Int32))]))
  obtain ⟨i3, hi3⟩ : ∃ z : Int32, p1 &&& (3 : Int32) = z := ⟨_, rfl⟩
  refine Go.step (fun t k => iand_v X0.here hx rfl (hb hby at_3) rfl  hi3 k) ?_
  show Go p.tables e below P (s₁.setTop (mkF m 4 #[.val (.int p1), .val (.int p2), .val (.int p3), .val (.int p4), .val (.int p5), .val (.int p6), .unset, .unset, .unset, .unset, .unset, .unset, .unset, .unset, .unset, .unset, .unset, .unset, .unset, .unset, .unset, .unset, .unset] [(.int i3), (.int (1 : Int32))]))
  obtain ⟨i4, hi4⟩ : ∃ z : Int32, (1 : Int32) + i3 = z := ⟨_, rfl⟩
  refine Go.step (fun t k => iadd_v X0.here hx rfl (hb hby at_4) rfl  hi4 k) ?_
  show Go p.tables e below P (s₁.setTop (mkF m 5 #[.val (.int p1), .val (.int p2), .val (.int p3), .val (.int p4), .val (.int p5), .val (.int p6), .unset, .unset, .unset, .unset, .unset, .unset, .unset, .unset, .unset, .unset, .unset, .unset, .unset, .unset, .unset, .unset, .unset] [(.int i4)]))
  refine Go.step (fun t k => XS.istore X0.here hx rfl (hb hby at_5) rfl (l' := #[.val (.int p1), .val (.int p2), .val (.int p3), .val (.int p4), .val (.int p5), .val (.int p6), .val (.int i4), .unset, .unset, .unset, .unset, .unset, .unset, .unset, .unset, .unset, .unset, .unset, .unset, .unset, .unset, .unset, .unset]) rfl k) ?_
  show Go p.tables e below P (s₁.setTop (mkF m 7 #[.val (.int p1), .val (.int p2), .val (.int p3), .val (.int p4), .val (.int p5), .val (.int p6), .val (.int i4), .unset, .unset, .unset, .unset, .unset, .unset, .unset, .unset, .unset, .unset, .unset, .unset, .unset, .unset, .unset, .unset] []))
  refine Go.step (fun t k => XS.iloadN X0.here hx rfl (hb hby at_7) rfl  k) ?_
  show Go p.tables e below P (s₁.setTop (mkF m 8 #[.val (.int p1), .val (.int p2), .val (.int p3), .val (.int p4), .val (.int p5), .val (.int p6), .val (.int i4), .unset, .unset, .unset, .unset, .unset, .unset, .unset, .unset, .unset, .unset, .unset, .unset, .unset, .unset, .unset, .unset] [(.int p2)]))
  refine Go.step (fun t k => X0.ldcInt hx hown (mvT hZ (hw _ (List.mem_of_getElem? (i := 0) rfl))) (g := (mkF m 8 #[.val (.int p1), .val (.int p2), .val (.int p3), .val (.int p4), .val (.int p5), .val (.int p6), .val (.int i4), .unset, .unset, .unset, .unset, .unset, .unset, .unset, .unset, .unset, .unset, .unset, .unset, .unset, .unset, .unset, .unset] [(.int p2)])) rfl (hb hby at_8) t k) ?_
  show Go p.tables e below P (s₁.setTop (mkF m 10 #[.val (.int p1), .val (.int p2), .val (.int p3), .val (.int p4), .val (.int p5), .val (.int p6), .val (.int i4), .unset, .unset, .unset, .unset, .unset, .unset, .unset, .unset, .unset, .unset, .unset, .unset, .unset, .unset, .unset, .unset] [(.int (2147483647 : Int32)), (.int p2)]))
  obtain ⟨i10, hi10⟩ : ∃ z : Int32, p2 &&& (2147483647 : Int32) = z := ⟨_, rfl⟩
  refine Go.step (fun t k => iand_v X0.here hx rfl (hb hby at_10) rfl  hi10 k) ?_
  show Go p.tables e below P (s₁.setTop (mkF m 11 #[.val (.int p1), .val (.int p2), .val (.int p3), .val (.int p4), .val (.int p5), .val (.int p6), .val (.int i4), .unset, .unset, .unset, .unset, .unset, .unset, .unset, .unset, .unset, .unset, .unset, .unset, .unset, .unset, .unset, .unset] [(.int i10)]))
  refine Go.step (fun t k => XS.iload X0.here hx rfl (hb hby at_11) rfl  k) ?_
  show Go p.tables e below P (s₁.setTop (mkF m 13 #[.val (.int p1), .val (.int p2), .val (.int p3), .val (.int p4), .val (.int p5), .val (.int p6), .val (.int i4), .unset, .unset, .unset, .unset, .unset, .unset, .unset, .unset, .unset, .unset, .unset, .unset, .unset, .unset, .unset, .unset] [(.int i4), (.int i10)]))
  have e1 : (1 : Int32).toInt = 1 := rfl
  have E1 : (1 : Int64).toInt = 1 := rfl
  have f3 := c_mask p1 (3 : Int32) 2 (by decide) rfl; rw [hi3] at f3
  have f4 := c_iadd (1 : Int32) i3; rw [hi4, e1] at f4
  have g4 := rng32 i4
  have v4 : i4.toInt = 1 + i3.toInt := by omega
  have b4 : 1 ≤ i4.toInt ∧ i4.toInt ≤ 4 := by omega
  have f10 := c_mask p2 (2147483647 : Int32) 31 (by decide) rfl; rw [hi10] at f10
  obtain ⟨i13, hi13⟩ : ∃ z : Int32, i10 % i4 = z := ⟨_, rfl⟩
  refine Go.step (fun t k => irem_v X0.here hx rfl (hb hby at_13) rfl (fun q => by rw [q] at b4; have e0 : (0 : Int32).toInt = 0 := rfl; omega) hi13 k) ?_
  show Go p.tables e below P (s₁.setTop (mkF m 14 #[.val (.int p1), .val (.int p2), .val (.int p3), .val (.int p4), .val (.int p5), .val (.int p6), .val (.int i4), .unset, .unset, .unset, .unset, .unset, .unset, .unset, .unset, .unset, .unset, .unset, .unset, .unset, .unset, .unset, .unset] [(.int i13)]))
  have f13 := (c_iremV i10 i4).1 (by omega) (by omega); rw [hi13] at f13
  have b13 : 0 ≤ i13.toInt ∧ i13.toInt < i4.toInt := ⟨f13.1, f13.2.1⟩
  clear f13 f3 f4 f10 v4 hi13
  refine Go.step (fun t k => XS.istore X0.here hx rfl (hb hby at_14) rfl (l' := #[.val (.int p1), .val (.int p2), .val (.int p3), .val (.int p4), .val (.int p5), .val (.int p6), .val (.int i4), .val (.int i13), .unset, .unset, .unset, .unset, .unset, .unset, .unset, .unset, .unset, .unset, .unset, .unset, .unset, .unset, .unset]) rfl k) ?_
  show Go p.tables e below P (s₁.setTop (mkF m 16 #[.val (.int p1), .val (.int p2), .val (.int p3), .val (.int p4), .val (.int p5), .val (.int p6), .val (.int i4), .val (.int i13), .unset, .unset, .unset, .unset, .unset, .unset, .unset, .unset, .unset, .unset, .unset, .unset, .unset, .unset, .unset] []))
  refine Go.step (fun t k => XS.iloadN X0.here hx rfl (hb hby at_16) rfl  k) ?_
  show Go p.tables e below P (s₁.setTop (mkF m 17 #[.val (.int p1), .val (.int p2), .val (.int p3), .val (.int p4), .val (.int p5), .val (.int p6), .val (.int i4), .val (.int i13), .unset, .unset, .unset, .unset, .unset, .unset, .unset, .unset, .unset, .unset, .unset, .unset, .unset, .unset, .unset] [(.int p3)]))
  obtain ⟨j17, hj17⟩ : ∃ z : Int64, p3.toInt64 = z := ⟨_, rfl⟩
  refine Go.step (fun t k => i2l_v X0.here hx rfl (hb hby at_17) rfl hj17 k) ?_
  show Go p.tables e below P (s₁.setTop (mkF m 18 #[.val (.int p1), .val (.int p2), .val (.int p3), .val (.int p4), .val (.int p5), .val (.int p6), .val (.int i4), .val (.int i13), .unset, .unset, .unset, .unset, .unset, .unset, .unset, .unset, .unset, .unset, .unset, .unset, .unset, .unset, .unset] [(.long j17)]))
  refine Go.step (fun t k => X0.ldc2Long hx hown (mvT hZ (hw _ (List.mem_of_getElem? (i := 1) rfl))) (g := (mkF m 18 #[.val (.int p1), .val (.int p2), .val (.int p3), .val (.int p4), .val (.int p5), .val (.int p6), .val (.int i4), .val (.int i13), .unset, .unset, .unset, .unset, .unset, .unset, .unset, .unset, .unset, .unset, .unset, .unset, .unset, .unset, .unset] [(.long j17)])) rfl (hb hby at_18) t k) ?_
  show Go p.tables e below P (s₁.setTop (mkF m 21 #[.val (.int p1), .val (.int p2), .val (.int p3), .val (.int p4), .val (.int p5), .val (.int p6), .val (.int i4), .val (.int i13), .unset, .unset, .unset, .unset, .unset, .unset, .unset, .unset, .unset, .unset, .unset, .unset, .unset, .unset, .unset] [(.long (1073741823 : Int64)), (.long j17)]))
  obtain ⟨j21, hj21⟩ : ∃ z : Int64, j17 &&& (1073741823 : Int64) = z := ⟨_, rfl⟩
  refine Go.step (fun t k => land_v X0.here hx rfl (hb hby at_21) rfl  hj21 k) ?_
  show Go p.tables e below P (s₁.setTop (mkF m 22 #[.val (.int p1), .val (.int p2), .val (.int p3), .val (.int p4), .val (.int p5), .val (.int p6), .val (.int i4), .val (.int i13), .unset, .unset, .unset, .unset, .unset, .unset, .unset, .unset, .unset, .unset, .unset, .unset, .unset, .unset, .unset] [(.long j21)]))
  refine Go.step (fun t k => XS.lstore X0.here hx rfl (hb hby at_22) rfl (l' := #[.val (.int p1), .val (.int p2), .val (.int p3), .val (.int p4), .val (.int p5), .val (.int p6), .val (.int i4), .val (.int i13), .val (.long j21), .second, .unset, .unset, .unset, .unset, .unset, .unset, .unset, .unset, .unset, .unset, .unset, .unset, .unset]) rfl k) ?_
  show Go p.tables e below P (s₁.setTop (mkF m 24 #[.val (.int p1), .val (.int p2), .val (.int p3), .val (.int p4), .val (.int p5), .val (.int p6), .val (.int i4), .val (.int i13), .val (.long j21), .second, .unset, .unset, .unset, .unset, .unset, .unset, .unset, .unset, .unset, .unset, .unset, .unset, .unset] []))
  refine Go.step (fun t k => XS.lload X0.here hx rfl (hb hby at_24) rfl  k) ?_
  show Go p.tables e below P (s₁.setTop (mkF m 26 #[.val (.int p1), .val (.int p2), .val (.int p3), .val (.int p4), .val (.int p5), .val (.int p6), .val (.int i4), .val (.int i13), .val (.long j21), .second, .unset, .unset, .unset, .unset, .unset, .unset, .unset, .unset, .unset, .unset, .unset, .unset, .unset] [(.long j21)]))
  refine Go.step (fun t k => XS.lconst X0.here hx rfl (hb hby at_26) k) ?_
  show Go p.tables e below P (s₁.setTop (mkF m 27 #[.val (.int p1), .val (.int p2), .val (.int p3), .val (.int p4), .val (.int p5), .val (.int p6), .val (.int i4), .val (.int i13), .val (.long j21), .second, .unset, .unset, .unset, .unset, .unset, .unset, .unset, .unset, .unset, .unset, .unset, .unset, .unset] [(.long (1 : Int64)), (.long j21)]))
  obtain ⟨j27, hj27⟩ : ∃ z : Int64, j21 + (1 : Int64) = z := ⟨_, rfl⟩
  refine Go.step (fun t k => ladd_v X0.here hx rfl (hb hby at_27) rfl  hj27 k) ?_
  show Go p.tables e below P (s₁.setTop (mkF m 28 #[.val (.int p1), .val (.int p2), .val (.int p3), .val (.int p4), .val (.int p5), .val (.int p6), .val (.int i4), .val (.int i13), .val (.long j21), .second, .unset, .unset, .unset, .unset, .unset, .unset, .unset, .unset, .unset, .unset, .unset, .unset, .unset] [(.long j27)]))
  refine Go.step (fun t k => XS.iloadN X0.here hx rfl (hb hby at_28) rfl  k) ?_
  show Go p.tables e below P (s₁.setTop (mkF m 29 #[.val (.int p1), .val (.int p2), .val (.int p3), .val (.int p4), .val (.int p5), .val (.int p6), .val (.int i4), .val (.int i13), .val (.long j21), .second, .unset, .unset, .unset, .unset, .unset, .unset, .unset, .unset, .unset, .unset, .unset, .unset, .unset] [(.int p4), (.long j27)]))
  obtain ⟨j29, hj29⟩ : ∃ z : Int64, p4.toInt64 = z := ⟨_, rfl⟩
  refine Go.step (fun t k => i2l_v X0.here hx rfl (hb hby at_29) rfl hj29 k) ?_
  show Go p.tables e below P (s₁.setTop (mkF m 30 #[.val (.int p1), .val (.int p2), .val (.int p3), .val (.int p4), .val (.int p5), .val (.int p6), .val (.int i4), .val (.int i13), .val (.long j21), .second, .unset, .unset, .unset, .unset, .unset, .unset, .unset, .unset, .unset, .unset, .unset, .unset, .unset] [(.long j29), (.long j27)]))
  refine Go.step (fun t k => X0.ldc2Long hx hown (mvT hZ (hw _ (List.mem_of_getElem? (i := 1) rfl))) (g := (mkF m 30 #[.val (.int p1), .val (.int p2), .val (.int p3), .val (.int p4), .val (.int p5), .val (.int p6), .val (.int i4), .val (.int i13), .val (.long j21), .second, .unset, .unset, .unset, .unset, .unset, .unset, .unset, .unset, .unset, .unset, .unset, .unset, .unset] [(.long j29), (.long j27)])) rfl (hb hby at_30) t k) ?_
  show Go p.tables e below P (s₁.setTop (mkF m 33 #[.val (.int p1), .val (.int p2), .val (.int p3), .val (.int p4), .val (.int p5), .val (.int p6), .val (.int i4), .val (.int i13), .val (.long j21), .second, .unset, .unset, .unset, .unset, .unset, .unset, .unset, .unset, .unset, .unset, .unset, .unset, .unset] [(.long (1073741823 : Int64)), (.long j29), (.long j27)]))
  obtain ⟨j33, hj33⟩ : ∃ z : Int64, j29 &&& (1073741823 : Int64) = z := ⟨_, rfl⟩
  refine Go.step (fun t k => land_v X0.here hx rfl (hb hby at_33) rfl  hj33 k) ?_
  show Go p.tables e below P (s₁.setTop (mkF m 34 #[.val (.int p1), .val (.int p2), .val (.int p3), .val (.int p4), .val (.int p5), .val (.int p6), .val (.int i4), .val (.int i13), .val (.long j21), .second, .unset, .unset, .unset, .unset, .unset, .unset, .unset, .unset, .unset, .unset, .unset, .unset, .unset] [(.long j33), (.long j27)]))
  obtain ⟨j34, hj34⟩ : ∃ z : Int64, j27 + j33 = z := ⟨_, rfl⟩
  refine Go.step (fun t k => ladd_v X0.here hx rfl (hb hby at_34) rfl  hj34 k) ?_
  show Go p.tables e below P (s₁.setTop (mkF m 35 #[.val (.int p1), .val (.int p2), .val (.int p3), .val (.int p4), .val (.int p5), .val (.int p6), .val (.int i4), .val (.int i13), .val (.long j21), .second, .unset, .unset, .unset, .unset, .unset, .unset, .unset, .unset, .unset, .unset, .unset, .unset, .unset] [(.long j34)]))
  refine Go.step (fun t k => XS.lstore X0.here hx rfl (hb hby at_35) rfl (l' := #[.val (.int p1), .val (.int p2), .val (.int p3), .val (.int p4), .val (.int p5), .val (.int p6), .val (.int i4), .val (.int i13), .val (.long j21), .second, .val (.long j34), .second, .unset, .unset, .unset, .unset, .unset, .unset, .unset, .unset, .unset, .unset, .unset]) rfl k) ?_
  show Go p.tables e below P (s₁.setTop (mkF m 37 #[.val (.int p1), .val (.int p2), .val (.int p3), .val (.int p4), .val (.int p5), .val (.int p6), .val (.int i4), .val (.int i13), .val (.long j21), .second, .val (.long j34), .second, .unset, .unset, .unset, .unset, .unset, .unset, .unset, .unset, .unset, .unset, .unset] []))
  refine Go.step (fun t k => XS.lload X0.here hx rfl (hb hby at_37) rfl  k) ?_
  show Go p.tables e below P (s₁.setTop (mkF m 39 #[.val (.int p1), .val (.int p2), .val (.int p3), .val (.int p4), .val (.int p5), .val (.int p6), .val (.int i4), .val (.int i13), .val (.long j21), .second, .val (.long j34), .second, .unset, .unset, .unset, .unset, .unset, .unset, .unset, .unset, .unset, .unset, .unset] [(.long j34)]))
  refine Go.step (fun t k => XS.lconst X0.here hx rfl (hb hby at_39) k) ?_
  show Go p.tables e below P (s₁.setTop (mkF m 40 #[.val (.int p1), .val (.int p2), .val (.int p3), .val (.int p4), .val (.int p5), .val (.int p6), .val (.int i4), .val (.int i13), .val (.long j21), .second, .val (.long j34), .second, .unset, .unset, .unset, .unset, .unset, .unset, .unset, .unset, .unset, .unset, .unset] [(.long (1 : Int64)), (.long j34)]))
  obtain ⟨j40, hj40⟩ : ∃ z : Int64, j34 + (1 : Int64) = z := ⟨_, rfl⟩
  refine Go.step (fun t k => ladd_v X0.here hx rfl (hb hby at_40) rfl  hj40 k) ?_
  show Go p.tables e below P (s₁.setTop (mkF m 41 #[.val (.int p1), .val (.int p2), .val (.int p3), .val (.int p4), .val (.int p5), .val (.int p6), .val (.int i4), .val (.int i13), .val (.long j21), .second, .val (.long j34), .second, .unset, .unset, .unset, .unset, .unset, .unset, .unset, .unset, .unset, .unset, .unset] [(.long j40)]))
  refine Go.step (fun t k => XS.iload X0.here hx rfl (hb hby at_41) rfl  k) ?_
  show Go p.tables e below P (s₁.setTop (mkF m 43 #[.val (.int p1), .val (.int p2), .val (.int p3), .val (.int p4), .val (.int p5), .val (.int p6), .val (.int i4), .val (.int i13), .val (.long j21), .second, .val (.long j34), .second, .unset, .unset, .unset, .unset, .unset, .unset, .unset, .unset, .unset, .unset, .unset] [(.int p5), (.long j40)]))
  obtain ⟨j43, hj43⟩ : ∃ z : Int64, p5.toInt64 = z := ⟨_, rfl⟩
  refine Go.step (fun t k => i2l_v X0.here hx rfl (hb hby at_43) rfl hj43 k) ?_
  show Go p.tables e below P (s₁.setTop (mkF m 44 #[.val (.int p1), .val (.int p2), .val (.int p3), .val (.int p4), .val (.int p5), .val (.int p6), .val (.int i4), .val (.int i13), .val (.long j21), .second, .val (.long j34), .second, .unset, .unset, .unset, .unset, .unset, .unset, .unset, .unset, .unset, .unset, .unset] [(.long j43), (.long j40)]))
  refine Go.step (fun t k => X0.ldc2Long hx hown (mvT hZ (hw _ (List.mem_of_getElem? (i := 1) rfl))) (g := (mkF m 44 #[.val (.int p1), .val (.int p2), .val (.int p3), .val (.int p4), .val (.int p5), .val (.int p6), .val (.int i4), .val (.int i13), .val (.long j21), .second, .val (.long j34), .second, .unset, .unset, .unset, .unset, .unset, .unset, .unset, .unset, .unset, .unset, .unset] [(.long j43), (.long j40)])) rfl (hb hby at_44) t k) ?_
  show Go p.tables e below P (s₁.setTop (mkF m 47 #[.val (.int p1), .val (.int p2), .val (.int p3), .val (.int p4), .val (.int p5), .val (.int p6), .val (.int i4), .val (.int i13), .val (.long j21), .second, .val (.long j34), .second, .unset, .unset, .unset, .unset, .unset, .unset, .unset, .unset, .unset, .unset, .unset] [(.long (1073741823 : Int64)), (.long j43), (.long j40)]))
  obtain ⟨j47, hj47⟩ : ∃ z : Int64, j43 &&& (1073741823 : Int64) = z := ⟨_, rfl⟩
  refine Go.step (fun t k => land_v X0.here hx rfl (hb hby at_47) rfl  hj47 k) ?_
  show Go p.tables e below P (s₁.setTop (mkF m 48 #[.val (.int p1), .val (.int p2), .val (.int p3), .val (.int p4), .val (.int p5), .val (.int p6), .val (.int i4), .val (.int i13), .val (.long j21), .second, .val (.long j34), .second, .unset, .unset, .unset, .unset, .unset, .unset, .unset, .unset, .unset, .unset, .unset] [(.long j47), (.long j40)]))
  obtain ⟨j48, hj48⟩ : ∃ z : Int64, j40 + j47 = z := ⟨_, rfl⟩
  refine Go.step (fun t k => ladd_v X0.here hx rfl (hb hby at_48) rfl  hj48 k) ?_
  show Go p.tables e below P (s₁.setTop (mkF m 49 #[.val (.int p1), .val (.int p2), .val (.int p3), .val (.int p4), .val (.int p5), .val (.int p6), .val (.int i4), .val (.int i13), .val (.long j21), .second, .val (.long j34), .second, .unset, .unset, .unset, .unset, .unset, .unset, .unset, .unset, .unset, .unset, .unset] [(.long j48)]))
  refine Go.step (fun t k => XS.lstore X0.here hx rfl (hb hby at_49) rfl (l' := #[.val (.int p1), .val (.int p2), .val (.int p3), .val (.int p4), .val (.int p5), .val (.int p6), .val (.int i4), .val (.int i13), .val (.long j21), .second, .val (.long j34), .second, .val (.long j48), .second, .unset, .unset, .unset, .unset, .unset, .unset, .unset, .unset, .unset]) rfl k) ?_
  show Go p.tables e below P (s₁.setTop (mkF m 51 #[.val (.int p1), .val (.int p2), .val (.int p3), .val (.int p4), .val (.int p5), .val (.int p6), .val (.int i4), .val (.int i13), .val (.long j21), .second, .val (.long j34), .second, .val (.long j48), .second, .unset, .unset, .unset, .unset, .unset, .unset, .unset, .unset, .unset] []))
  refine Go.step (fun t k => XS.lload X0.here hx rfl (hb hby at_51) rfl  k) ?_
  show Go p.tables e below P (s₁.setTop (mkF m 53 #[.val (.int p1), .val (.int p2), .val (.int p3), .val (.int p4), .val (.int p5), .val (.int p6), .val (.int i4), .val (.int i13), .val (.long j21), .second, .val (.long j34), .second, .val (.long j48), .second, .unset, .unset, .unset, .unset, .unset, .unset, .unset, .unset, .unset] [(.long j48)]))
  refine Go.step (fun t k => XS.lconst X0.here hx rfl (hb hby at_53) k) ?_
  show Go p.tables e below P (s₁.setTop (mkF m 54 #[.val (.int p1), .val (.int p2), .val (.int p3), .val (.int p4), .val (.int p5), .val (.int p6), .val (.int i4), .val (.int i13), .val (.long j21), .second, .val (.long j34), .second, .val (.long j48), .second, .unset, .unset, .unset, .unset, .unset, .unset, .unset, .unset, .unset] [(.long (1 : Int64)), (.long j48)]))
  obtain ⟨j54, hj54⟩ : ∃ z : Int64, j48 + (1 : Int64) = z := ⟨_, rfl⟩
  refine Go.step (fun t k => ladd_v X0.here hx rfl (hb hby at_54) rfl  hj54 k) ?_
  show Go p.tables e below P (s₁.setTop (mkF m 55 #[.val (.int p1), .val (.int p2), .val (.int p3), .val (.int p4), .val (.int p5), .val (.int p6), .val (.int i4), .val (.int i13), .val (.long j21), .second, .val (.long j34), .second, .val (.long j48), .second, .unset, .unset, .unset, .unset, .unset, .unset, .unset, .unset, .unset] [(.long j54)]))
  refine Go.step (fun t k => XS.iload X0.here hx rfl (hb hby at_55) rfl  k) ?_
  show Go p.tables e below P (s₁.setTop (mkF m 57 #[.val (.int p1), .val (.int p2), .val (.int p3), .val (.int p4), .val (.int p5), .val (.int p6), .val (.int i4), .val (.int i13), .val (.long j21), .second, .val (.long j34), .second, .val (.long j48), .second, .unset, .unset, .unset, .unset, .unset, .unset, .unset, .unset, .unset] [(.int p6), (.long j54)]))
  obtain ⟨j57, hj57⟩ : ∃ z : Int64, p6.toInt64 = z := ⟨_, rfl⟩
  refine Go.step (fun t k => i2l_v X0.here hx rfl (hb hby at_57) rfl hj57 k) ?_
  show Go p.tables e below P (s₁.setTop (mkF m 58 #[.val (.int p1), .val (.int p2), .val (.int p3), .val (.int p4), .val (.int p5), .val (.int p6), .val (.int i4), .val (.int i13), .val (.long j21), .second, .val (.long j34), .second, .val (.long j48), .second, .unset, .unset, .unset, .unset, .unset, .unset, .unset, .unset, .unset] [(.long j57), (.long j54)]))
  refine Go.step (fun t k => X0.ldc2Long hx hown (mvT hZ (hw _ (List.mem_of_getElem? (i := 1) rfl))) (g := (mkF m 58 #[.val (.int p1), .val (.int p2), .val (.int p3), .val (.int p4), .val (.int p5), .val (.int p6), .val (.int i4), .val (.int i13), .val (.long j21), .second, .val (.long j34), .second, .val (.long j48), .second, .unset, .unset, .unset, .unset, .unset, .unset, .unset, .unset, .unset] [(.long j57), (.long j54)])) rfl (hb hby at_58) t k) ?_
  show Go p.tables e below P (s₁.setTop (mkF m 61 #[.val (.int p1), .val (.int p2), .val (.int p3), .val (.int p4), .val (.int p5), .val (.int p6), .val (.int i4), .val (.int i13), .val (.long j21), .second, .val (.long j34), .second, .val (.long j48), .second, .unset, .unset, .unset, .unset, .unset, .unset, .unset, .unset, .unset] [(.long (1073741823 : Int64)), (.long j57), (.long j54)]))
  obtain ⟨j61, hj61⟩ : ∃ z : Int64, j57 &&& (1073741823 : Int64) = z := ⟨_, rfl⟩
  refine Go.step (fun t k => land_v X0.here hx rfl (hb hby at_61) rfl  hj61 k) ?_
  show Go p.tables e below P (s₁.setTop (mkF m 62 #[.val (.int p1), .val (.int p2), .val (.int p3), .val (.int p4), .val (.int p5), .val (.int p6), .val (.int i4), .val (.int i13), .val (.long j21), .second, .val (.long j34), .second, .val (.long j48), .second, .unset, .unset, .unset, .unset, .unset, .unset, .unset, .unset, .unset] [(.long j61), (.long j54)]))
  obtain ⟨j62, hj62⟩ : ∃ z : Int64, j54 + j61 = z := ⟨_, rfl⟩
  refine Go.step (fun t k => ladd_v X0.here hx rfl (hb hby at_62) rfl  hj62 k) ?_
  show Go p.tables e below P (s₁.setTop (mkF m 63 #[.val (.int p1), .val (.int p2), .val (.int p3), .val (.int p4), .val (.int p5), .val (.int p6), .val (.int i4), .val (.int i13), .val (.long j21), .second, .val (.long j34), .second, .val (.long j48), .second, .unset, .unset, .unset, .unset, .unset, .unset, .unset, .unset, .unset] [(.long j62)]))
  refine Go.step (fun t k => XS.lstore X0.here hx rfl (hb hby at_63) rfl (l' := #[.val (.int p1), .val (.int p2), .val (.int p3), .val (.int p4), .val (.int p5), .val (.int p6), .val (.int i4), .val (.int i13), .val (.long j21), .second, .val (.long j34), .second, .val (.long j48), .second, .val (.long j62), .second, .unset, .unset, .unset, .unset, .unset, .unset, .unset]) rfl k) ?_
  show Go p.tables e below P (s₁.setTop (mkF m 65 #[.val (.int p1), .val (.int p2), .val (.int p3), .val (.int p4), .val (.int p5), .val (.int p6), .val (.int i4), .val (.int i13), .val (.long j21), .second, .val (.long j34), .second, .val (.long j48), .second, .val (.long j62), .second, .unset, .unset, .unset, .unset, .unset, .unset, .unset] []))
  have f17 := c_i2l p3; rw [hj17] at f17
  have m21 := c_maskL j17 (1073741823 : Int64) 30 (by decide) rfl; rw [hj21] at m21
  have b21 : 0 ≤ j21.toInt ∧ j21.toInt ≤ 1073741823 := by omega
  clear f17 m21
  have m33 := c_maskL j29 (1073741823 : Int64) 30 (by decide) rfl; rw [hj33] at m33
  have b33 : 0 ≤ j33.toInt ∧ j33.toInt ≤ 1073741823 := by omega
  clear m33
  have f27 := c_ladd j21 (1 : Int64); rw [hj27, E1] at f27
  have g27 := rng64 j27
  have v27 : j27.toInt = j21.toInt + 1 := by omega
  clear f27
  have f34 := c_ladd j27 j33; rw [hj34] at f34
  have g34 := rng64 j34
  have v34 : j34.toInt = j27.toInt + j33.toInt := by omega
  clear f34
  have m47 := c_maskL j43 (1073741823 : Int64) 30 (by decide) rfl; rw [hj47] at m47
  have b47 : 0 ≤ j47.toInt ∧ j47.toInt ≤ 1073741823 := by omega
  clear m47
  have f40 := c_ladd j34 (1 : Int64); rw [hj40, E1] at f40
  have g40 := rng64 j40
  have v40 : j40.toInt = j34.toInt + 1 := by omega
  clear f40
  have f48 := c_ladd j40 j47; rw [hj48] at f48
  have g48 := rng64 j48
  have v48 : j48.toInt = j40.toInt + j47.toInt := by omega
  clear f48
  have m61 := c_maskL j57 (1073741823 : Int64) 30 (by decide) rfl; rw [hj61] at m61
  have b61 : 0 ≤ j61.toInt ∧ j61.toInt ≤ 1073741823 := by omega
  clear m61
  have f54 := c_ladd j48 (1 : Int64); rw [hj54, E1] at f54
  have g54 := rng64 j54
  have v54 : j54.toInt = j48.toInt + 1 := by omega
  clear f54
  have f62 := c_ladd j54 j61; rw [hj62] at f62
  have g62 := rng64 j62
  have v62 : j62.toInt = j54.toInt + j61.toInt := by omega
  clear f62
  refine Go.step (fun t k => XS.iloadN X0.here hx rfl (hb hby at_65) rfl  k) ?_
  show Go p.tables e below P (s₁.setTop (mkF m 66 #[.val (.int p1), .val (.int p2), .val (.int p3), .val (.int p4), .val (.int p5), .val (.int p6), .val (.int i4), .val (.int i13), .val (.long j21), .second, .val (.long j34), .second, .val (.long j48), .second, .val (.long j62), .second, .unset, .unset, .unset, .unset, .unset, .unset, .unset] [(.int p1)]))
  refine Go.step (fun t k => XS.iconst X0.here hx rfl (hb hby at_66) k) ?_
  show Go p.tables e below P (s₁.setTop (mkF m 67 #[.val (.int p1), .val (.int p2), .val (.int p3), .val (.int p4), .val (.int p5), .val (.int p6), .val (.int i4), .val (.int i13), .val (.long j21), .second, .val (.long j34), .second, .val (.long j48), .second, .val (.long j62), .second, .unset, .unset, .unset, .unset, .unset, .unset, .unset] [(.int (2 : Int32)), (.int p1)]))
  obtain ⟨i67, hi67⟩ : ∃ z : Int32, ((p1.toUInt32 >>> ((2 : Int32) &&& 31).toUInt32).toInt32) = z := ⟨_, rfl⟩
  refine Go.step (fun t k => iushr_v X0.here hx rfl (hb hby at_67) rfl  hi67 k) ?_
  show Go p.tables e below P (s₁.setTop (mkF m 68 #[.val (.int p1), .val (.int p2), .val (.int p3), .val (.int p4), .val (.int p5), .val (.int p6), .val (.int i4), .val (.int i13), .val (.long j21), .second, .val (.long j34), .second, .val (.long j48), .second, .val (.long j62), .second, .unset, .unset, .unset, .unset, .unset, .unset, .unset] [(.int i67)]))
  refine Go.step (fun t k => X0.ldcInt hx hown (mvT hZ (hw _ (List.mem_of_getElem? (i := 2) rfl))) (g := (mkF m 68 #[.val (.int p1), .val (.int p2), .val (.int p3), .val (.int p4), .val (.int p5), .val (.int p6), .val (.int i4), .val (.int i13), .val (.long j21), .second, .val (.long j34), .second, .val (.long j48), .second, .val (.long j62), .second, .unset, .unset, .unset, .unset, .unset, .unset, .unset] [(.int i67)])) rfl (hb hby at_68) t k) ?_
  show Go p.tables e below P (s₁.setTop (mkF m 70 #[.val (.int p1), .val (.int p2), .val (.int p3), .val (.int p4), .val (.int p5), .val (.int p6), .val (.int i4), .val (.int i13), .val (.long j21), .second, .val (.long j34), .second, .val (.long j48), .second, .val (.long j62), .second, .unset, .unset, .unset, .unset, .unset, .unset, .unset] [(.int (65535 : Int32)), (.int i67)]))
  obtain ⟨i70, hi70⟩ : ∃ z : Int32, i67 &&& (65535 : Int32) = z := ⟨_, rfl⟩
  refine Go.step (fun t k => iand_v X0.here hx rfl (hb hby at_70) rfl  hi70 k) ?_
  show Go p.tables e below P (s₁.setTop (mkF m 71 #[.val (.int p1), .val (.int p2), .val (.int p3), .val (.int p4), .val (.int p5), .val (.int p6), .val (.int i4), .val (.int i13), .val (.long j21), .second, .val (.long j34), .second, .val (.long j48), .second, .val (.long j62), .second, .unset, .unset, .unset, .unset, .unset, .unset, .unset] [(.int i70)]))
  have m70 := c_mask i67 (65535 : Int32) 16 (by decide) rfl; rw [hi70] at m70
  have b70 : 0 ≤ i70.toInt := by omega
  clear m70
  obtain ⟨d71, hd71⟩ : ∃ z : UInt64, FP.i2d i70 = z := ⟨_, rfl⟩
  refine Go.step (fun t k => XS.i2dS X0.here hx rfl (hb hby at_71) rfl hd71 k) ?_
  show Go p.tables e below P (s₁.setTop (mkF m 72 #[.val (.int p1), .val (.int p2), .val (.int p3), .val (.int p4), .val (.int p5), .val (.int p6), .val (.int i4), .val (.int i13), .val (.long j21), .second, .val (.long j34), .second, .val (.long j48), .second, .val (.long j62), .second, .unset, .unset, .unset, .unset, .unset, .unset, .unset] [(.double d71)]))
  have q71 := i2d_e i70; rw [hd71] at q71
  refine Go.step (fun t k => XS.dstore X0.here hx rfl (hb hby at_72) rfl (l' := #[.val (.int p1), .val (.int p2), .val (.int p3), .val (.int p4), .val (.int p5), .val (.int p6), .val (.int i4), .val (.int i13), .val (.long j21), .second, .val (.long j34), .second, .val (.long j48), .second, .val (.long j62), .second, .val (.double d71), .second, .unset, .unset, .unset, .unset, .unset]) rfl k) ?_
  show Go p.tables e below P (s₁.setTop (mkF m 74 #[.val (.int p1), .val (.int p2), .val (.int p3), .val (.int p4), .val (.int p5), .val (.int p6), .val (.int i4), .val (.int i13), .val (.long j21), .second, .val (.long j34), .second, .val (.long j48), .second, .val (.long j62), .second, .val (.double d71), .second, .unset, .unset, .unset, .unset, .unset] []))
  refine Go.step (fun t k => XS.iload X0.here hx rfl (hb hby at_74) rfl  k) ?_
  show Go p.tables e below P (s₁.setTop (mkF m 76 #[.val (.int p1), .val (.int p2), .val (.int p3), .val (.int p4), .val (.int p5), .val (.int p6), .val (.int i4), .val (.int i13), .val (.long j21), .second, .val (.long j34), .second, .val (.long j48), .second, .val (.long j62), .second, .val (.double d71), .second, .unset, .unset, .unset, .unset, .unset] [(.int i4)]))
  refine Go.step (fun t k => XS.iconst X0.here hx rfl (hb hby at_76) k) ?_
  show Go p.tables e below P (s₁.setTop (mkF m 77 #[.val (.int p1), .val (.int p2), .val (.int p3), .val (.int p4), .val (.int p5), .val (.int p6), .val (.int i4), .val (.int i13), .val (.long j21), .second, .val (.long j34), .second, .val (.long j48), .second, .val (.long j62), .second, .val (.double d71), .second, .unset, .unset, .unset, .unset, .unset] [(.int (1 : Int32)), (.int i4)]))
  by_cases hc77 : ¬ i4.toInt = (1 : Int)
  · refine Go.step (fun t k => XS.icmpYes X0.here hx rfl (pc0 := 77) (pc' := 104) rfl (hb hby at_77) rfl (icY (cd := .ne) hc77) (by decide) (by decide) k) ?_
    show Go p.tables e below P (s₁.setTop (mkF m 104 #[.val (.int p1), .val (.int p2), .val (.int p3), .val (.int p4), .val (.int p5), .val (.int p6), .val (.int i4), .val (.int i13), .val (.long j21), .second, .val (.long j34), .second, .val (.long j48), .second, .val (.long j62), .second, .val (.double d71), .second, .unset, .unset, .unset, .unset, .unset] []))
    refine Go.step (fun t k => XS.iload X0.here hx rfl (hb hby at_104) rfl  k) ?_
    show Go p.tables e below P (s₁.setTop (mkF m 106 #[.val (.int p1), .val (.int p2), .val (.int p3), .val (.int p4), .val (.int p5), .val (.int p6), .val (.int i4), .val (.int i13), .val (.long j21), .second, .val (.long j34), .second, .val (.long j48), .second, .val (.long j62), .second, .val (.double d71), .second, .unset, .unset, .unset, .unset, .unset] [(.int i4)]))
    refine Go.step (fun t k => XS.iconst X0.here hx rfl (hb hby at_106) k) ?_
    show Go p.tables e below P (s₁.setTop (mkF m 107 #[.val (.int p1), .val (.int p2), .val (.int p3), .val (.int p4), .val (.int p5), .val (.int p6), .val (.int i4), .val (.int i13), .val (.long j21), .second, .val (.long j34), .second, .val (.long j48), .second, .val (.long j62), .second, .val (.double d71), .second, .unset, .unset, .unset, .unset, .unset] [(.int (2 : Int32)), (.int i4)]))
    by_cases hc107 : ¬ i4.toInt = (2 : Int)
    · refine Go.step (fun t k => XS.icmpYes X0.here hx rfl (pc0 := 107) (pc' := 145) rfl (hb hby at_107) rfl (icY (cd := .ne) hc107) (by decide) (by decide) k) ?_
      show Go p.tables e below P (s₁.setTop (mkF m 145 #[.val (.int p1), .val (.int p2), .val (.int p3), .val (.int p4), .val (.int p5), .val (.int p6), .val (.int i4), .val (.int i13), .val (.long j21), .second, .val (.long j34), .second, .val (.long j48), .second, .val (.long j62), .second, .val (.double d71), .second, .unset, .unset, .unset, .unset, .unset] []))
      refine Go.step (fun t k => XS.iload X0.here hx rfl (hb hby at_145) rfl  k) ?_
      show Go p.tables e below P (s₁.setTop (mkF m 147 #[.val (.int p1), .val (.int p2), .val (.int p3), .val (.int p4), .val (.int p5), .val (.int p6), .val (.int i4), .val (.int i13), .val (.long j21), .second, .val (.long j34), .second, .val (.long j48), .second, .val (.long j62), .second, .val (.double d71), .second, .unset, .unset, .unset, .unset, .unset] [(.int i4)]))
      refine Go.step (fun t k => XS.iconst X0.here hx rfl (hb hby at_147) k) ?_
      show Go p.tables e below P (s₁.setTop (mkF m 148 #[.val (.int p1), .val (.int p2), .val (.int p3), .val (.int p4), .val (.int p5), .val (.int p6), .val (.int i4), .val (.int i13), .val (.long j21), .second, .val (.long j34), .second, .val (.long j48), .second, .val (.long j62), .second, .val (.double d71), .second, .unset, .unset, .unset, .unset, .unset] [(.int (3 : Int32)), (.int i4)]))
      by_cases hc148 : ¬ i4.toInt = (3 : Int)
      · refine Go.step (fun t k => XS.icmpYes X0.here hx rfl (pc0 := 148) (pc' := 197) rfl (hb hby at_148) rfl (icY (cd := .ne) hc148) (by decide) (by decide) k) ?_
        show Go p.tables e below P (s₁.setTop (mkF m 197 #[.val (.int p1), .val (.int p2), .val (.int p3), .val (.int p4), .val (.int p5), .val (.int p6), .val (.int i4), .val (.int i13), .val (.long j21), .second, .val (.long j34), .second, .val (.long j48), .second, .val (.long j62), .second, .val (.double d71), .second, .unset, .unset, .unset, .unset, .unset] []))
        have e4 : i4 = (4 : Int32) := Int32.toInt_inj.mp (show i4.toInt = (4 : Int32).toInt from by have : (4 : Int32).toInt = 4 := rfl; omega)
        have b13' : i13.toInt < 4 := by rw [e4] at b13; exact b13.2
        subst e4
        show Go p.tables e below P (s₁.setTop (mkF m 197 #[.val (.int p1), .val (.int p2), .val (.int p3), .val (.int p4), .val (.int p5), .val (.int p6), .val (.int (4 : Int32)), .val (.int i13), .val (.long j21), .second, .val (.long j34), .second, .val (.long j48), .second, .val (.long j62), .second, .val (.double d71), .second, .unset, .unset, .unset, .unset, .unset] []))
        refine Go.step (fun t k => XS.iconst X0.here hx rfl (hb hby at_197) k) ?_
        show Go p.tables e below P (s₁.setTop (mkF m 198 #[.val (.int p1), .val (.int p2), .val (.int p3), .val (.int p4), .val (.int p5), .val (.int p6), .val (.int (4 : Int32)), .val (.int i13), .val (.long j21), .second, .val (.long j34), .second, .val (.long j48), .second, .val (.long j62), .second, .val (.double d71), .second, .unset, .unset, .unset, .unset, .unset] [(.int (4 : Int32))]))
        obtain ⟨T_1, h_1, k_1, X_1, e_1, E_1, A_1, Ex_1, st_1⟩ := newPE X0 hx hZ (hw _ (List.mem_of_getElem? (i := 3) rfl)) e0 (g := (mkF m 198 #[.val (.int p1), .val (.int p2), .val (.int p3), .val (.int p4), .val (.int p5), .val (.int p6), .val (.int (4 : Int32)), .val (.int i13), .val (.long j21), .second, .val (.long j34), .second, .val (.long j48), .second, .val (.long j62), .second, .val (.double d71), .second, .unset, .unset, .unset, .unset, .unset] [(.int (4 : Int32))])) rfl (hb hby at_198) rfl (by decide) (cap := 4) (by decide) (by decide) (by decide) (by decide) (ad := "[D") (by decide)
        obtain ⟨y1, g_1⟩ : ∃ z, z = h0.size := ⟨_, rfl⟩
        rw [← g_1] at A_1 st_1 Ex_1
        have g_y1 : n0 ≤ y1 := Nat.le_trans Z0 (Nat.le_of_eq g_1.symm)
        have sz_y1 : h0.size ≤ y1 := Nat.le_trans (Keep.refl h0 []).1 (Nat.le_of_eq g_1.symm)
        have V_1 : Arv Z h_1 y1 k_1 .double (4 : Int32) [(.double (0 : UInt64)), (.double (0 : UInt64)), (.double (0 : UInt64)), (.double (0 : UInt64))] (.double (0 : UInt64)) := (Arv.new A_1 (by decide)).pad (pad_rep [] (.double (0 : UInt64)) 4)
        have K_1 : Keep h0 h_1 [] := (Keep.refl h0 []).ext E_1
        have Z_1 : n0 ≤ h_1.size := Nat.le_trans Z0 E_1.1
        refine Go.step (fun t k => st_1 t k) ?_
        show Go p.tables e below P (T_1.setTop (mkF m 200 #[.val (.int p1), .val (.int p2), .val (.int p3), .val (.int p4), .val (.int p5), .val (.int p6), .val (.int (4 : Int32)), .val (.int i13), .val (.long j21), .second, .val (.long j34), .second, .val (.long j48), .second, .val (.long j62), .second, .val (.double d71), .second, .unset, .unset, .unset, .unset, .unset] [(.ref y1)]))
        refine Go.step (fun t k => XS.dup X_1.here hx rfl (hb hby at_200) rfl rfl k) ?_
        show Go p.tables e below P (T_1.setTop (mkF m 201 #[.val (.int p1), .val (.int p2), .val (.int p3), .val (.int p4), .val (.int p5), .val (.int p6), .val (.int (4 : Int32)), .val (.int i13), .val (.long j21), .second, .val (.long j34), .second, .val (.long j48), .second, .val (.long j62), .second, .val (.double d71), .second, .unset, .unset, .unset, .unset, .unset] [(.ref y1), (.ref y1)]))
        refine Go.step (fun t k => XS.iconst X_1.here hx rfl (hb hby at_201) k) ?_
        show Go p.tables e below P (T_1.setTop (mkF m 202 #[.val (.int p1), .val (.int p2), .val (.int p3), .val (.int p4), .val (.int p5), .val (.int p6), .val (.int (4 : Int32)), .val (.int i13), .val (.long j21), .second, .val (.long j34), .second, .val (.long j48), .second, .val (.long j62), .second, .val (.double d71), .second, .unset, .unset, .unset, .unset, .unset] [(.int (0 : Int32)), (.ref y1), (.ref y1)]))
        refine Go.step (fun t k => XS.lload X_1.here hx rfl (hb hby at_202) rfl  k) ?_
        show Go p.tables e below P (T_1.setTop (mkF m 204 #[.val (.int p1), .val (.int p2), .val (.int p3), .val (.int p4), .val (.int p5), .val (.int p6), .val (.int (4 : Int32)), .val (.int i13), .val (.long j21), .second, .val (.long j34), .second, .val (.long j48), .second, .val (.long j62), .second, .val (.double d71), .second, .unset, .unset, .unset, .unset, .unset] [(.long j21), (.int (0 : Int32)), (.ref y1), (.ref y1)]))
        obtain ⟨d204, hd204⟩ : ∃ z : UInt64, FP.l2d j21 = z := ⟨_, rfl⟩
        refine Go.step (fun t k => XS.l2dS X_1.here hx rfl (hb hby at_204) rfl hd204 k) ?_
        show Go p.tables e below P (T_1.setTop (mkF m 205 #[.val (.int p1), .val (.int p2), .val (.int p3), .val (.int p4), .val (.int p5), .val (.int p6), .val (.int (4 : Int32)), .val (.int i13), .val (.long j21), .second, .val (.long j34), .second, .val (.long j48), .second, .val (.long j62), .second, .val (.double d71), .second, .unset, .unset, .unset, .unset, .unset] [(.double d204), (.int (0 : Int32)), (.ref y1), (.ref y1)]))
        have Q0 := l2d_e (x := j21) (by omega); rw [hd204] at Q0
        have vq_2 := V_1
        obtain ⟨cl_2, Ar_2, q_2, S_2, Nn_2, H_2, G_2⟩ := vq_2
        have hin_2 : ¬ ((0 : Int32) < 0 ∨ cl_2.slots.size ≤ ((0 : Int32)).toNatClampNeg) := inb_of S_2 ⟨by decide, by decide⟩
        obtain ⟨T_3, h_3, X_3, e_3, W_3, st_3⟩ := stD X_1 hx hZ e_1 Ar_2 (j := (0 : Int32)) hin_2 (g := (mkF m 205 #[.val (.int p1), .val (.int p2), .val (.int p3), .val (.int p4), .val (.int p5), .val (.int p6), .val (.int (4 : Int32)), .val (.int i13), .val (.long j21), .second, .val (.long j34), .second, .val (.long j48), .second, .val (.long j62), .second, .val (.double d71), .second, .unset, .unset, .unset, .unset, .unset] [(.double d204), (.int (0 : Int32)), (.ref y1), (.ref y1)])) rfl rfl (hb hby at_205)
        have V_3 : Arv Z h_3 y1 k_1 .double (4 : Int32) [(.double d204), (.double (0 : UInt64)), (.double (0 : UInt64)), (.double (0 : UInt64))] (.double (0 : UInt64)) := Arv.set Ar_2 q_2 S_2 Nn_2 H_2 G_2 rfl W_3 0 rfl (Nat.le_of_ble_eq_true rfl)
        have N_3 := Fr.snoc X_3 N0 g_y1
        have K_3 : Keep h0 h_3 [] := K_1.wr W_3 (Or.inr sz_y1)
        have Z_3 : n0 ≤ h_3.size := Nat.le_trans Z_1 (Keep.of_wr W_3).1
        refine Go.step (fun t k => st_3 t k) ?_
        show Go p.tables e below P (T_3.setTop (mkF m 206 #[.val (.int p1), .val (.int p2), .val (.int p3), .val (.int p4), .val (.int p5), .val (.int p6), .val (.int (4 : Int32)), .val (.int i13), .val (.long j21), .second, .val (.long j34), .second, .val (.long j48), .second, .val (.long j62), .second, .val (.double d71), .second, .unset, .unset, .unset, .unset, .unset] [(.ref y1)]))
        refine Go.step (fun t k => XS.dup X_3.here hx rfl (hb hby at_206) rfl rfl k) ?_
        show Go p.tables e below P (T_3.setTop (mkF m 207 #[.val (.int p1), .val (.int p2), .val (.int p3), .val (.int p4), .val (.int p5), .val (.int p6), .val (.int (4 : Int32)), .val (.int i13), .val (.long j21), .second, .val (.long j34), .second, .val (.long j48), .second, .val (.long j62), .second, .val (.double d71), .second, .unset, .unset, .unset, .unset, .unset] [(.ref y1), (.ref y1)]))
        refine Go.step (fun t k => XS.iconst X_3.here hx rfl (hb hby at_207) k) ?_
        show Go p.tables e below P (T_3.setTop (mkF m 208 #[.val (.int p1), .val (.int p2), .val (.int p3), .val (.int p4), .val (.int p5), .val (.int p6), .val (.int (4 : Int32)), .val (.int i13), .val (.long j21), .second, .val (.long j34), .second, .val (.long j48), .second, .val (.long j62), .second, .val (.double d71), .second, .unset, .unset, .unset, .unset, .unset] [(.int (1 : Int32)), (.ref y1), (.ref y1)]))
        refine Go.step (fun t k => XS.lload X_3.here hx rfl (hb hby at_208) rfl  k) ?_
        show Go p.tables e below P (T_3.setTop (mkF m 210 #[.val (.int p1), .val (.int p2), .val (.int p3), .val (.int p4), .val (.int p5), .val (.int p6), .val (.int (4 : Int32)), .val (.int i13), .val (.long j21), .second, .val (.long j34), .second, .val (.long j48), .second, .val (.long j62), .second, .val (.double d71), .second, .unset, .unset, .unset, .unset, .unset] [(.long j34), (.int (1 : Int32)), (.ref y1), (.ref y1)]))
        obtain ⟨d210, hd210⟩ : ∃ z : UInt64, FP.l2d j34 = z := ⟨_, rfl⟩
        refine Go.step (fun t k => XS.l2dS X_3.here hx rfl (hb hby at_210) rfl hd210 k) ?_
        show Go p.tables e below P (T_3.setTop (mkF m 211 #[.val (.int p1), .val (.int p2), .val (.int p3), .val (.int p4), .val (.int p5), .val (.int p6), .val (.int (4 : Int32)), .val (.int i13), .val (.long j21), .second, .val (.long j34), .second, .val (.long j48), .second, .val (.long j62), .second, .val (.double d71), .second, .unset, .unset, .unset, .unset, .unset] [(.double d210), (.int (1 : Int32)), (.ref y1), (.ref y1)]))
        have Q1 := l2d_e (x := j34) (by omega); rw [hd210] at Q1
        have vq_4 := V_3
        obtain ⟨cl_4, Ar_4, q_4, S_4, Nn_4, H_4, G_4⟩ := vq_4
        have hin_4 : ¬ ((1 : Int32) < 0 ∨ cl_4.slots.size ≤ ((1 : Int32)).toNatClampNeg) := inb_of S_4 ⟨by decide, by decide⟩
        obtain ⟨T_5, h_5, X_5, e_5, W_5, st_5⟩ := stD X_3 hx hZ e_3 Ar_4 (j := (1 : Int32)) hin_4 (g := (mkF m 211 #[.val (.int p1), .val (.int p2), .val (.int p3), .val (.int p4), .val (.int p5), .val (.int p6), .val (.int (4 : Int32)), .val (.int i13), .val (.long j21), .second, .val (.long j34), .second, .val (.long j48), .second, .val (.long j62), .second, .val (.double d71), .second, .unset, .unset, .unset, .unset, .unset] [(.double d210), (.int (1 : Int32)), (.ref y1), (.ref y1)])) rfl rfl (hb hby at_211)
        have V_5 : Arv Z h_5 y1 k_1 .double (4 : Int32) [(.double d204), (.double d210), (.double (0 : UInt64)), (.double (0 : UInt64))] (.double (0 : UInt64)) := Arv.set Ar_4 q_4 S_4 Nn_4 H_4 G_4 rfl W_5 1 rfl (Nat.le_of_ble_eq_true rfl)
        have N_5 := Fr.snoc X_5 N_3 g_y1
        have K_5 : Keep h0 h_5 [] := K_3.wr W_5 (Or.inr sz_y1)
        have Z_5 : n0 ≤ h_5.size := Nat.le_trans Z_3 (Keep.of_wr W_5).1
        refine Go.step (fun t k => st_5 t k) ?_
        show Go p.tables e below P (T_5.setTop (mkF m 212 #[.val (.int p1), .val (.int p2), .val (.int p3), .val (.int p4), .val (.int p5), .val (.int p6), .val (.int (4 : Int32)), .val (.int i13), .val (.long j21), .second, .val (.long j34), .second, .val (.long j48), .second, .val (.long j62), .second, .val (.double d71), .second, .unset, .unset, .unset, .unset, .unset] [(.ref y1)]))
        refine Go.step (fun t k => XS.dup X_5.here hx rfl (hb hby at_212) rfl rfl k) ?_
        show Go p.tables e below P (T_5.setTop (mkF m 213 #[.val (.int p1), .val (.int p2), .val (.int p3), .val (.int p4), .val (.int p5), .val (.int p6), .val (.int (4 : Int32)), .val (.int i13), .val (.long j21), .second, .val (.long j34), .second, .val (.long j48), .second, .val (.long j62), .second, .val (.double d71), .second, .unset, .unset, .unset, .unset, .unset] [(.ref y1), (.ref y1)]))
        refine Go.step (fun t k => XS.iconst X_5.here hx rfl (hb hby at_213) k) ?_
        show Go p.tables e below P (T_5.setTop (mkF m 214 #[.val (.int p1), .val (.int p2), .val (.int p3), .val (.int p4), .val (.int p5), .val (.int p6), .val (.int (4 : Int32)), .val (.int i13), .val (.long j21), .second, .val (.long j34), .second, .val (.long j48), .second, .val (.long j62), .second, .val (.double d71), .second, .unset, .unset, .unset, .unset, .unset] [(.int (2 : Int32)), (.ref y1), (.ref y1)]))
        refine Go.step (fun t k => XS.lload X_5.here hx rfl (hb hby at_214) rfl  k) ?_
        show Go p.tables e below P (T_5.setTop (mkF m 216 #[.val (.int p1), .val (.int p2), .val (.int p3), .val (.int p4), .val (.int p5), .val (.int p6), .val (.int (4 : Int32)), .val (.int i13), .val (.long j21), .second, .val (.long j34), .second, .val (.long j48), .second, .val (.long j62), .second, .val (.double d71), .second, .unset, .unset, .unset, .unset, .unset] [(.long j48), (.int (2 : Int32)), (.ref y1), (.ref y1)]))
        obtain ⟨d216, hd216⟩ : ∃ z : UInt64, FP.l2d j48 = z := ⟨_, rfl⟩
        refine Go.step (fun t k => XS.l2dS X_5.here hx rfl (hb hby at_216) rfl hd216 k) ?_
        show Go p.tables e below P (T_5.setTop (mkF m 217 #[.val (.int p1), .val (.int p2), .val (.int p3), .val (.int p4), .val (.int p5), .val (.int p6), .val (.int (4 : Int32)), .val (.int i13), .val (.long j21), .second, .val (.long j34), .second, .val (.long j48), .second, .val (.long j62), .second, .val (.double d71), .second, .unset, .unset, .unset, .unset, .unset] [(.double d216), (.int (2 : Int32)), (.ref y1), (.ref y1)]))
        have Q2 := l2d_e (x := j48) (by omega); rw [hd216] at Q2
        have vq_6 := V_5
        obtain ⟨cl_6, Ar_6, q_6, S_6, Nn_6, H_6, G_6⟩ := vq_6
        have hin_6 : ¬ ((2 : Int32) < 0 ∨ cl_6.slots.size ≤ ((2 : Int32)).toNatClampNeg) := inb_of S_6 ⟨by decide, by decide⟩
        obtain ⟨T_7, h_7, X_7, e_7, W_7, st_7⟩ := stD X_5 hx hZ e_5 Ar_6 (j := (2 : Int32)) hin_6 (g := (mkF m 217 #[.val (.int p1), .val (.int p2), .val (.int p3), .val (.int p4), .val (.int p5), .val (.int p6), .val (.int (4 : Int32)), .val (.int i13), .val (.long j21), .second, .val (.long j34), .second, .val (.long j48), .second, .val (.long j62), .second, .val (.double d71), .second, .unset, .unset, .unset, .unset, .unset] [(.double d216), (.int (2 : Int32)), (.ref y1), (.ref y1)])) rfl rfl (hb hby at_217)
        have V_7 : Arv Z h_7 y1 k_1 .double (4 : Int32) [(.double d204), (.double d210), (.double d216), (.double (0 : UInt64))] (.double (0 : UInt64)) := Arv.set Ar_6 q_6 S_6 Nn_6 H_6 G_6 rfl W_7 2 rfl (Nat.le_of_ble_eq_true rfl)
        have N_7 := Fr.snoc X_7 N_5 g_y1
        have K_7 : Keep h0 h_7 [] := K_5.wr W_7 (Or.inr sz_y1)
        have Z_7 : n0 ≤ h_7.size := Nat.le_trans Z_5 (Keep.of_wr W_7).1
        refine Go.step (fun t k => st_7 t k) ?_
        show Go p.tables e below P (T_7.setTop (mkF m 218 #[.val (.int p1), .val (.int p2), .val (.int p3), .val (.int p4), .val (.int p5), .val (.int p6), .val (.int (4 : Int32)), .val (.int i13), .val (.long j21), .second, .val (.long j34), .second, .val (.long j48), .second, .val (.long j62), .second, .val (.double d71), .second, .unset, .unset, .unset, .unset, .unset] [(.ref y1)]))
        refine Go.step (fun t k => XS.dup X_7.here hx rfl (hb hby at_218) rfl rfl k) ?_
        show Go p.tables e below P (T_7.setTop (mkF m 219 #[.val (.int p1), .val (.int p2), .val (.int p3), .val (.int p4), .val (.int p5), .val (.int p6), .val (.int (4 : Int32)), .val (.int i13), .val (.long j21), .second, .val (.long j34), .second, .val (.long j48), .second, .val (.long j62), .second, .val (.double d71), .second, .unset, .unset, .unset, .unset, .unset] [(.ref y1), (.ref y1)]))
        refine Go.step (fun t k => XS.iconst X_7.here hx rfl (hb hby at_219) k) ?_
        show Go p.tables e below P (T_7.setTop (mkF m 220 #[.val (.int p1), .val (.int p2), .val (.int p3), .val (.int p4), .val (.int p5), .val (.int p6), .val (.int (4 : Int32)), .val (.int i13), .val (.long j21), .second, .val (.long j34), .second, .val (.long j48), .second, .val (.long j62), .second, .val (.double d71), .second, .unset, .unset, .unset, .unset, .unset] [(.int (3 : Int32)), (.ref y1), (.ref y1)]))
        refine Go.step (fun t k => XS.lload X_7.here hx rfl (hb hby at_220) rfl  k) ?_
        show Go p.tables e below P (T_7.setTop (mkF m 222 #[.val (.int p1), .val (.int p2), .val (.int p3), .val (.int p4), .val (.int p5), .val (.int p6), .val (.int (4 : Int32)), .val (.int i13), .val (.long j21), .second, .val (.long j34), .second, .val (.long j48), .second, .val (.long j62), .second, .val (.double d71), .second, .unset, .unset, .unset, .unset, .unset] [(.long j62), (.int (3 : Int32)), (.ref y1), (.ref y1)]))
        obtain ⟨d222, hd222⟩ : ∃ z : UInt64, FP.l2d j62 = z := ⟨_, rfl⟩
        refine Go.step (fun t k => XS.l2dS X_7.here hx rfl (hb hby at_222) rfl hd222 k) ?_
        show Go p.tables e below P (T_7.setTop (mkF m 223 #[.val (.int p1), .val (.int p2), .val (.int p3), .val (.int p4), .val (.int p5), .val (.int p6), .val (.int (4 : Int32)), .val (.int i13), .val (.long j21), .second, .val (.long j34), .second, .val (.long j48), .second, .val (.long j62), .second, .val (.double d71), .second, .unset, .unset, .unset, .unset, .unset] [(.double d222), (.int (3 : Int32)), (.ref y1), (.ref y1)]))
        have Q3 := l2d_e (x := j62) (by omega); rw [hd222] at Q3
        have vq_8 := V_7
        obtain ⟨cl_8, Ar_8, q_8, S_8, Nn_8, H_8, G_8⟩ := vq_8
        have hin_8 : ¬ ((3 : Int32) < 0 ∨ cl_8.slots.size ≤ ((3 : Int32)).toNatClampNeg) := inb_of S_8 ⟨by decide, by decide⟩
        obtain ⟨T_9, h_9, X_9, e_9, W_9, st_9⟩ := stD X_7 hx hZ e_7 Ar_8 (j := (3 : Int32)) hin_8 (g := (mkF m 223 #[.val (.int p1), .val (.int p2), .val (.int p3), .val (.int p4), .val (.int p5), .val (.int p6), .val (.int (4 : Int32)), .val (.int i13), .val (.long j21), .second, .val (.long j34), .second, .val (.long j48), .second, .val (.long j62), .second, .val (.double d71), .second, .unset, .unset, .unset, .unset, .unset] [(.double d222), (.int (3 : Int32)), (.ref y1), (.ref y1)])) rfl rfl (hb hby at_223)
        have V_9 : Arv Z h_9 y1 k_1 .double (4 : Int32) [(.double d204), (.double d210), (.double d216), (.double d222)] (.double (0 : UInt64)) := Arv.set Ar_8 q_8 S_8 Nn_8 H_8 G_8 rfl W_9 3 rfl (Nat.le_of_ble_eq_true rfl)
        have N_9 := Fr.snoc X_9 N_7 g_y1
        have K_9 : Keep h0 h_9 [] := K_7.wr W_9 (Or.inr sz_y1)
        have Z_9 : n0 ≤ h_9.size := Nat.le_trans Z_7 (Keep.of_wr W_9).1
        refine Go.step (fun t k => st_9 t k) ?_
        show Go p.tables e below P (T_9.setTop (mkF m 224 #[.val (.int p1), .val (.int p2), .val (.int p3), .val (.int p4), .val (.int p5), .val (.int p6), .val (.int (4 : Int32)), .val (.int i13), .val (.long j21), .second, .val (.long j34), .second, .val (.long j48), .second, .val (.long j62), .second, .val (.double d71), .second, .unset, .unset, .unset, .unset, .unset] [(.ref y1)]))
        refine Go.step (fun t k => XS.astore X_9.here hx rfl (hb hby at_224) rfl rfl (l' := #[.val (.int p1), .val (.int p2), .val (.int p3), .val (.int p4), .val (.int p5), .val (.int p6), .val (.int (4 : Int32)), .val (.int i13), .val (.long j21), .second, .val (.long j34), .second, .val (.long j48), .second, .val (.long j62), .second, .val (.double d71), .second, .val (.ref y1), .unset, .unset, .unset, .unset]) rfl k) ?_
        show Go p.tables e below P (T_9.setTop (mkF m 226 #[.val (.int p1), .val (.int p2), .val (.int p3), .val (.int p4), .val (.int p5), .val (.int p6), .val (.int (4 : Int32)), .val (.int i13), .val (.long j21), .second, .val (.long j34), .second, .val (.long j48), .second, .val (.long j62), .second, .val (.double d71), .second, .val (.ref y1), .unset, .unset, .unset, .unset] []))
        refine Go.step (fun t k => XS.iconst X_9.here hx rfl (hb hby at_226) k) ?_
        show Go p.tables e below P (T_9.setTop (mkF m 227 #[.val (.int p1), .val (.int p2), .val (.int p3), .val (.int p4), .val (.int p5), .val (.int p6), .val (.int (4 : Int32)), .val (.int i13), .val (.long j21), .second, .val (.long j34), .second, .val (.long j48), .second, .val (.long j62), .second, .val (.double d71), .second, .val (.ref y1), .unset, .unset, .unset, .unset] [(.int (4 : Int32))]))
        obtain ⟨T_10, h_10, k_10, X_10, e_10, E_10, A_10, Ex_10, st_10⟩ := newPE X_9 hx hZ (hw _ (List.mem_of_getElem? (i := 3) rfl)) e_9 (g := (mkF m 227 #[.val (.int p1), .val (.int p2), .val (.int p3), .val (.int p4), .val (.int p5), .val (.int p6), .val (.int (4 : Int32)), .val (.int i13), .val (.long j21), .second, .val (.long j34), .second, .val (.long j48), .second, .val (.long j62), .second, .val (.double d71), .second, .val (.ref y1), .unset, .unset, .unset, .unset] [(.int (4 : Int32))])) rfl (hb hby at_227) rfl (by decide) (cap := 4) (by decide) (by decide) (by decide) (by decide) (ad := "[D") (by decide)
        obtain ⟨y2, g_10⟩ : ∃ z, z = h_9.size := ⟨_, rfl⟩
        rw [← g_10] at A_10 st_10 Ex_10
        have g_y2 : n0 ≤ y2 := Nat.le_trans Z_9 (Nat.le_of_eq g_10.symm)
        have sz_y2 : h0.size ≤ y2 := Nat.le_trans K_9.1 (Nat.le_of_eq g_10.symm)
        have lt_y1_y2 : y1 < y2 := Nat.lt_of_lt_of_le ((((Ex_1.wr W_3).wr W_5).wr W_7).wr W_9).lt (Nat.le_of_eq g_10.symm)
        have ne_y1_y2 : y1 ≠ y2 := Nat.ne_of_lt lt_y1_y2
        have V_10 : Arv Z h_10 y2 k_10 .double (4 : Int32) [(.double (0 : UInt64)), (.double (0 : UInt64)), (.double (0 : UInt64)), (.double (0 : UInt64))] (.double (0 : UInt64)) := (Arv.new A_10 (by decide)).pad (pad_rep [] (.double (0 : UInt64)) 4)
        have K_10 : Keep h0 h_10 [] := K_9.ext E_10
        have Z_10 : n0 ≤ h_10.size := Nat.le_trans Z_9 E_10.1
        refine Go.step (fun t k => st_10 t k) ?_
        show Go p.tables e below P (T_10.setTop (mkF m 229 #[.val (.int p1), .val (.int p2), .val (.int p3), .val (.int p4), .val (.int p5), .val (.int p6), .val (.int (4 : Int32)), .val (.int i13), .val (.long j21), .second, .val (.long j34), .second, .val (.long j48), .second, .val (.long j62), .second, .val (.double d71), .second, .val (.ref y1), .unset, .unset, .unset, .unset] [(.ref y2)]))
        refine Go.step (fun t k => XS.dup X_10.here hx rfl (hb hby at_229) rfl rfl k) ?_
        show Go p.tables e below P (T_10.setTop (mkF m 230 #[.val (.int p1), .val (.int p2), .val (.int p3), .val (.int p4), .val (.int p5), .val (.int p6), .val (.int (4 : Int32)), .val (.int i13), .val (.long j21), .second, .val (.long j34), .second, .val (.long j48), .second, .val (.long j62), .second, .val (.double d71), .second, .val (.ref y1), .unset, .unset, .unset, .unset] [(.ref y2), (.ref y2)]))
        refine Go.step (fun t k => XS.iconst X_10.here hx rfl (hb hby at_230) k) ?_
        show Go p.tables e below P (T_10.setTop (mkF m 231 #[.val (.int p1), .val (.int p2), .val (.int p3), .val (.int p4), .val (.int p5), .val (.int p6), .val (.int (4 : Int32)), .val (.int i13), .val (.long j21), .second, .val (.long j34), .second, .val (.long j48), .second, .val (.long j62), .second, .val (.double d71), .second, .val (.ref y1), .unset, .unset, .unset, .unset] [(.int (0 : Int32)), (.ref y2), (.ref y2)]))
        refine Go.step (fun t k => XS.dload X_10.here hx rfl (hb hby at_231) rfl  k) ?_
        show Go p.tables e below P (T_10.setTop (mkF m 233 #[.val (.int p1), .val (.int p2), .val (.int p3), .val (.int p4), .val (.int p5), .val (.int p6), .val (.int (4 : Int32)), .val (.int i13), .val (.long j21), .second, .val (.long j34), .second, .val (.long j48), .second, .val (.long j62), .second, .val (.double d71), .second, .val (.ref y1), .unset, .unset, .unset, .unset] [(.double d71), (.int (0 : Int32)), (.ref y2), (.ref y2)]))
        have vq_11 := V_10
        obtain ⟨cl_11, Ar_11, q_11, S_11, Nn_11, H_11, G_11⟩ := vq_11
        have hin_11 : ¬ ((0 : Int32) < 0 ∨ cl_11.slots.size ≤ ((0 : Int32)).toNatClampNeg) := inb_of S_11 ⟨by decide, by decide⟩
        obtain ⟨T_12, h_12, X_12, e_12, W_12, st_12⟩ := stD X_10 hx hZ e_10 Ar_11 (j := (0 : Int32)) hin_11 (g := (mkF m 233 #[.val (.int p1), .val (.int p2), .val (.int p3), .val (.int p4), .val (.int p5), .val (.int p6), .val (.int (4 : Int32)), .val (.int i13), .val (.long j21), .second, .val (.long j34), .second, .val (.long j48), .second, .val (.long j62), .second, .val (.double d71), .second, .val (.ref y1), .unset, .unset, .unset, .unset] [(.double d71), (.int (0 : Int32)), (.ref y2), (.ref y2)])) rfl rfl (hb hby at_233)
        have V_12 : Arv Z h_12 y2 k_10 .double (4 : Int32) [(.double d71), (.double (0 : UInt64)), (.double (0 : UInt64)), (.double (0 : UInt64))] (.double (0 : UInt64)) := Arv.set Ar_11 q_11 S_11 Nn_11 H_11 G_11 rfl W_12 0 rfl (Nat.le_of_ble_eq_true rfl)
        have N_12 := Fr.snoc X_12 N_9 g_y2
        have K_12 : Keep h0 h_12 [] := K_10.wr W_12 (Or.inr sz_y2)
        have Z_12 : n0 ≤ h_12.size := Nat.le_trans Z_10 (Keep.of_wr W_12).1
        refine Go.step (fun t k => st_12 t k) ?_
        show Go p.tables e below P (T_12.setTop (mkF m 234 #[.val (.int p1), .val (.int p2), .val (.int p3), .val (.int p4), .val (.int p5), .val (.int p6), .val (.int (4 : Int32)), .val (.int i13), .val (.long j21), .second, .val (.long j34), .second, .val (.long j48), .second, .val (.long j62), .second, .val (.double d71), .second, .val (.ref y1), .unset, .unset, .unset, .unset] [(.ref y2)]))
        refine Go.step (fun t k => XS.dup X_12.here hx rfl (hb hby at_234) rfl rfl k) ?_
        show Go p.tables e below P (T_12.setTop (mkF m 235 #[.val (.int p1), .val (.int p2), .val (.int p3), .val (.int p4), .val (.int p5), .val (.int p6), .val (.int (4 : Int32)), .val (.int i13), .val (.long j21), .second, .val (.long j34), .second, .val (.long j48), .second, .val (.long j62), .second, .val (.double d71), .second, .val (.ref y1), .unset, .unset, .unset, .unset] [(.ref y2), (.ref y2)]))
        refine Go.step (fun t k => XS.iconst X_12.here hx rfl (hb hby at_235) k) ?_
        show Go p.tables e below P (T_12.setTop (mkF m 236 #[.val (.int p1), .val (.int p2), .val (.int p3), .val (.int p4), .val (.int p5), .val (.int p6), .val (.int (4 : Int32)), .val (.int i13), .val (.long j21), .second, .val (.long j34), .second, .val (.long j48), .second, .val (.long j62), .second, .val (.double d71), .second, .val (.ref y1), .unset, .unset, .unset, .unset] [(.int (1 : Int32)), (.ref y2), (.ref y2)]))
        refine Go.step (fun t k => XS.dload X_12.here hx rfl (hb hby at_236) rfl  k) ?_
        show Go p.tables e below P (T_12.setTop (mkF m 238 #[.val (.int p1), .val (.int p2), .val (.int p3), .val (.int p4), .val (.int p5), .val (.int p6), .val (.int (4 : Int32)), .val (.int i13), .val (.long j21), .second, .val (.long j34), .second, .val (.long j48), .second, .val (.long j62), .second, .val (.double d71), .second, .val (.ref y1), .unset, .unset, .unset, .unset] [(.double d71), (.int (1 : Int32)), (.ref y2), (.ref y2)]))
        have vq_13 := V_12
        obtain ⟨cl_13, Ar_13, q_13, S_13, Nn_13, H_13, G_13⟩ := vq_13
        have hin_13 : ¬ ((1 : Int32) < 0 ∨ cl_13.slots.size ≤ ((1 : Int32)).toNatClampNeg) := inb_of S_13 ⟨by decide, by decide⟩
        obtain ⟨T_14, h_14, X_14, e_14, W_14, st_14⟩ := stD X_12 hx hZ e_12 Ar_13 (j := (1 : Int32)) hin_13 (g := (mkF m 238 #[.val (.int p1), .val (.int p2), .val (.int p3), .val (.int p4), .val (.int p5), .val (.int p6), .val (.int (4 : Int32)), .val (.int i13), .val (.long j21), .second, .val (.long j34), .second, .val (.long j48), .second, .val (.long j62), .second, .val (.double d71), .second, .val (.ref y1), .unset, .unset, .unset, .unset] [(.double d71), (.int (1 : Int32)), (.ref y2), (.ref y2)])) rfl rfl (hb hby at_238)
        have V_14 : Arv Z h_14 y2 k_10 .double (4 : Int32) [(.double d71), (.double d71), (.double (0 : UInt64)), (.double (0 : UInt64))] (.double (0 : UInt64)) := Arv.set Ar_13 q_13 S_13 Nn_13 H_13 G_13 rfl W_14 1 rfl (Nat.le_of_ble_eq_true rfl)
        have N_14 := Fr.snoc X_14 N_12 g_y2
        have K_14 : Keep h0 h_14 [] := K_12.wr W_14 (Or.inr sz_y2)
        have Z_14 : n0 ≤ h_14.size := Nat.le_trans Z_12 (Keep.of_wr W_14).1
        refine Go.step (fun t k => st_14 t k) ?_
        show Go p.tables e below P (T_14.setTop (mkF m 239 #[.val (.int p1), .val (.int p2), .val (.int p3), .val (.int p4), .val (.int p5), .val (.int p6), .val (.int (4 : Int32)), .val (.int i13), .val (.long j21), .second, .val (.long j34), .second, .val (.long j48), .second, .val (.long j62), .second, .val (.double d71), .second, .val (.ref y1), .unset, .unset, .unset, .unset] [(.ref y2)]))
        refine Go.step (fun t k => XS.dup X_14.here hx rfl (hb hby at_239) rfl rfl k) ?_
        show Go p.tables e below P (T_14.setTop (mkF m 240 #[.val (.int p1), .val (.int p2), .val (.int p3), .val (.int p4), .val (.int p5), .val (.int p6), .val (.int (4 : Int32)), .val (.int i13), .val (.long j21), .second, .val (.long j34), .second, .val (.long j48), .second, .val (.long j62), .second, .val (.double d71), .second, .val (.ref y1), .unset, .unset, .unset, .unset] [(.ref y2), (.ref y2)]))
        refine Go.step (fun t k => XS.iconst X_14.here hx rfl (hb hby at_240) k) ?_
        show Go p.tables e below P (T_14.setTop (mkF m 241 #[.val (.int p1), .val (.int p2), .val (.int p3), .val (.int p4), .val (.int p5), .val (.int p6), .val (.int (4 : Int32)), .val (.int i13), .val (.long j21), .second, .val (.long j34), .second, .val (.long j48), .second, .val (.long j62), .second, .val (.double d71), .second, .val (.ref y1), .unset, .unset, .unset, .unset] [(.int (2 : Int32)), (.ref y2), (.ref y2)]))
        refine Go.step (fun t k => XS.dload X_14.here hx rfl (hb hby at_241) rfl  k) ?_
        show Go p.tables e below P (T_14.setTop (mkF m 243 #[.val (.int p1), .val (.int p2), .val (.int p3), .val (.int p4), .val (.int p5), .val (.int p6), .val (.int (4 : Int32)), .val (.int i13), .val (.long j21), .second, .val (.long j34), .second, .val (.long j48), .second, .val (.long j62), .second, .val (.double d71), .second, .val (.ref y1), .unset, .unset, .unset, .unset] [(.double d71), (.int (2 : Int32)), (.ref y2), (.ref y2)]))
        have vq_15 := V_14
        obtain ⟨cl_15, Ar_15, q_15, S_15, Nn_15, H_15, G_15⟩ := vq_15
        have hin_15 : ¬ ((2 : Int32) < 0 ∨ cl_15.slots.size ≤ ((2 : Int32)).toNatClampNeg) := inb_of S_15 ⟨by decide, by decide⟩
        obtain ⟨T_16, h_16, X_16, e_16, W_16, st_16⟩ := stD X_14 hx hZ e_14 Ar_15 (j := (2 : Int32)) hin_15 (g := (mkF m 243 #[.val (.int p1), .val (.int p2), .val (.int p3), .val (.int p4), .val (.int p5), .val (.int p6), .val (.int (4 : Int32)), .val (.int i13), .val (.long j21), .second, .val (.long j34), .second, .val (.long j48), .second, .val (.long j62), .second, .val (.double d71), .second, .val (.ref y1), .unset, .unset, .unset, .unset] [(.double d71), (.int (2 : Int32)), (.ref y2), (.ref y2)])) rfl rfl (hb hby at_243)
        have V_16 : Arv Z h_16 y2 k_10 .double (4 : Int32) [(.double d71), (.double d71), (.double d71), (.double (0 : UInt64))] (.double (0 : UInt64)) := Arv.set Ar_15 q_15 S_15 Nn_15 H_15 G_15 rfl W_16 2 rfl (Nat.le_of_ble_eq_true rfl)
        have N_16 := Fr.snoc X_16 N_14 g_y2
        have K_16 : Keep h0 h_16 [] := K_14.wr W_16 (Or.inr sz_y2)
        have Z_16 : n0 ≤ h_16.size := Nat.le_trans Z_14 (Keep.of_wr W_16).1
        refine Go.step (fun t k => st_16 t k) ?_
        show Go p.tables e below P (T_16.setTop (mkF m 244 #[.val (.int p1), .val (.int p2), .val (.int p3), .val (.int p4), .val (.int p5), .val (.int p6), .val (.int (4 : Int32)), .val (.int i13), .val (.long j21), .second, .val (.long j34), .second, .val (.long j48), .second, .val (.long j62), .second, .val (.double d71), .second, .val (.ref y1), .unset, .unset, .unset, .unset] [(.ref y2)]))
        refine Go.step (fun t k => XS.dup X_16.here hx rfl (hb hby at_244) rfl rfl k) ?_
        show Go p.tables e below P (T_16.setTop (mkF m 245 #[.val (.int p1), .val (.int p2), .val (.int p3), .val (.int p4), .val (.int p5), .val (.int p6), .val (.int (4 : Int32)), .val (.int i13), .val (.long j21), .second, .val (.long j34), .second, .val (.long j48), .second, .val (.long j62), .second, .val (.double d71), .second, .val (.ref y1), .unset, .unset, .unset, .unset] [(.ref y2), (.ref y2)]))
        refine Go.step (fun t k => XS.iconst X_16.here hx rfl (hb hby at_245) k) ?_
        show Go p.tables e below P (T_16.setTop (mkF m 246 #[.val (.int p1), .val (.int p2), .val (.int p3), .val (.int p4), .val (.int p5), .val (.int p6), .val (.int (4 : Int32)), .val (.int i13), .val (.long j21), .second, .val (.long j34), .second, .val (.long j48), .second, .val (.long j62), .second, .val (.double d71), .second, .val (.ref y1), .unset, .unset, .unset, .unset] [(.int (3 : Int32)), (.ref y2), (.ref y2)]))
        refine Go.step (fun t k => XS.dload X_16.here hx rfl (hb hby at_246) rfl  k) ?_
        show Go p.tables e below P (T_16.setTop (mkF m 248 #[.val (.int p1), .val (.int p2), .val (.int p3), .val (.int p4), .val (.int p5), .val (.int p6), .val (.int (4 : Int32)), .val (.int i13), .val (.long j21), .second, .val (.long j34), .second, .val (.long j48), .second, .val (.long j62), .second, .val (.double d71), .second, .val (.ref y1), .unset, .unset, .unset, .unset] [(.double d71), (.int (3 : Int32)), (.ref y2), (.ref y2)]))
        have vq_17 := V_16
        obtain ⟨cl_17, Ar_17, q_17, S_17, Nn_17, H_17, G_17⟩ := vq_17
        have hin_17 : ¬ ((3 : Int32) < 0 ∨ cl_17.slots.size ≤ ((3 : Int32)).toNatClampNeg) := inb_of S_17 ⟨by decide, by decide⟩
        obtain ⟨T_18, h_18, X_18, e_18, W_18, st_18⟩ := stD X_16 hx hZ e_16 Ar_17 (j := (3 : Int32)) hin_17 (g := (mkF m 248 #[.val (.int p1), .val (.int p2), .val (.int p3), .val (.int p4), .val (.int p5), .val (.int p6), .val (.int (4 : Int32)), .val (.int i13), .val (.long j21), .second, .val (.long j34), .second, .val (.long j48), .second, .val (.long j62), .second, .val (.double d71), .second, .val (.ref y1), .unset, .unset, .unset, .unset] [(.double d71), (.int (3 : Int32)), (.ref y2), (.ref y2)])) rfl rfl (hb hby at_248)
        have V_18 : Arv Z h_18 y2 k_10 .double (4 : Int32) [(.double d71), (.double d71), (.double d71), (.double d71)] (.double (0 : UInt64)) := Arv.set Ar_17 q_17 S_17 Nn_17 H_17 G_17 rfl W_18 3 rfl (Nat.le_of_ble_eq_true rfl)
        have N_18 := Fr.snoc X_18 N_16 g_y2
        have K_18 : Keep h0 h_18 [] := K_16.wr W_18 (Or.inr sz_y2)
        have Z_18 : n0 ≤ h_18.size := Nat.le_trans Z_16 (Keep.of_wr W_18).1
        refine Go.step (fun t k => st_18 t k) ?_
        show Go p.tables e below P (T_18.setTop (mkF m 249 #[.val (.int p1), .val (.int p2), .val (.int p3), .val (.int p4), .val (.int p5), .val (.int p6), .val (.int (4 : Int32)), .val (.int i13), .val (.long j21), .second, .val (.long j34), .second, .val (.long j48), .second, .val (.long j62), .second, .val (.double d71), .second, .val (.ref y1), .unset, .unset, .unset, .unset] [(.ref y2)]))
        refine Go.step (fun t k => XS.astore X_18.here hx rfl (hb hby at_249) rfl rfl (l' := #[.val (.int p1), .val (.int p2), .val (.int p3), .val (.int p4), .val (.int p5), .val (.int p6), .val (.int (4 : Int32)), .val (.int i13), .val (.long j21), .second, .val (.long j34), .second, .val (.long j48), .second, .val (.long j62), .second, .val (.double d71), .second, .val (.ref y1), .val (.ref y2), .unset, .unset, .unset]) rfl k) ?_
        show Go p.tables e below P (T_18.setTop (mkF m 251 #[.val (.int p1), .val (.int p2), .val (.int p3), .val (.int p4), .val (.int p5), .val (.int p6), .val (.int (4 : Int32)), .val (.int i13), .val (.long j21), .second, .val (.long j34), .second, .val (.long j48), .second, .val (.long j62), .second, .val (.double d71), .second, .val (.ref y1), .val (.ref y2), .unset, .unset, .unset] []))
        obtain ⟨T_19, h_19, X_19, e_19, E_19, A_19, D_19, -, st_19⟩ := newO X_18 hx hZ hown (hw _ (List.mem_of_getElem? (i := 4) rfl)) (hw _ (List.mem_of_getElem? (i := 5) rfl)) (hw _ (List.mem_of_getElem? (i := 6) rfl)) e_18 (g := (mkF m 251 #[.val (.int p1), .val (.int p2), .val (.int p3), .val (.int p4), .val (.int p5), .val (.int p6), .val (.int (4 : Int32)), .val (.int i13), .val (.long j21), .second, .val (.long j34), .second, .val (.long j48), .second, .val (.long j62), .second, .val (.double d71), .second, .val (.ref y1), .val (.ref y2), .unset, .unset, .unset] [])) rfl (hb hby at_251) (by decide) (by decide)
        obtain ⟨b_19, g_19⟩ : ∃ z, z = h_18.size := ⟨_, rfl⟩
        rw [← g_19] at A_19 D_19 st_19
        have g_b_19 : n0 ≤ b_19 := Nat.le_trans Z_18 (Nat.le_of_eq g_19.symm)
        have sz_b_19 : h0.size ≤ b_19 := Nat.le_trans K_18.1 (Nat.le_of_eq g_19.symm)
        have ne_y1_b_19 : y1 ≠ b_19 := Nat.ne_of_lt (Nat.lt_of_lt_of_le (((((((((Ex_1.wr W_3).wr W_5).wr W_7).wr W_9).ext E_10).wr W_12).wr W_14).wr W_16).wr W_18).lt (Nat.le_of_eq g_19.symm))
        have ne_y1_b_19 : y1 ≠ b_19 := Nat.ne_of_lt (Nat.lt_of_lt_of_le (((((V_9.ext E_10).other W_12 ne_y1_y2).other W_14 ne_y1_y2).other W_16 ne_y1_y2).other W_18 ne_y1_y2).lt (Nat.le_of_eq g_19.symm))
        have ne_y2_b_19 : y2 ≠ b_19 := Nat.ne_of_lt (Nat.lt_of_lt_of_le ((((Ex_10.wr W_12).wr W_14).wr W_16).wr W_18).lt (Nat.le_of_eq g_19.symm))
        have ne_y2_b_19 : y2 ≠ b_19 := Nat.ne_of_lt (Nat.lt_of_lt_of_le V_18.lt (Nat.le_of_eq g_19.symm))
        have F_speedsMs_b_19 : Fld Z h_19 b_19 "com/example/gleitfahrt/gleitfahrt/engine/ForceCurve$Table" "speedsMs" "[D" .null := D_19 (Or.inr (hw _ (List.mem_of_getElem? (i := 32) rfl))) (ty := (.array .double)) (by decide)
        have F_forcesN_b_19 : Fld Z h_19 b_19 "com/example/gleitfahrt/gleitfahrt/engine/ForceCurve$Table" "forcesN" "[D" .null := D_19 (Or.inr (hw _ (List.mem_of_getElem? (i := 34) rfl))) (ty := (.array .double)) (by decide)
        have K_19 : Keep h0 h_19 [] := K_18.ext E_19
        have Z_19 : n0 ≤ h_19.size := Nat.le_trans Z_18 E_19.1
        refine Go.step (fun t k => st_19 t k) ?_
        show Go p.tables e below P (T_19.setTop (mkF m 254 #[.val (.int p1), .val (.int p2), .val (.int p3), .val (.int p4), .val (.int p5), .val (.int p6), .val (.int (4 : Int32)), .val (.int i13), .val (.long j21), .second, .val (.long j34), .second, .val (.long j48), .second, .val (.long j62), .second, .val (.double d71), .second, .val (.ref y1), .val (.ref y2), .unset, .unset, .unset] [(.ref b_19)]))
        refine Go.step (fun t k => XS.dup X_19.here hx rfl (hb hby at_254) rfl rfl k) ?_
        show Go p.tables e below P (T_19.setTop (mkF m 255 #[.val (.int p1), .val (.int p2), .val (.int p3), .val (.int p4), .val (.int p5), .val (.int p6), .val (.int (4 : Int32)), .val (.int i13), .val (.long j21), .second, .val (.long j34), .second, .val (.long j48), .second, .val (.long j62), .second, .val (.double d71), .second, .val (.ref y1), .val (.ref y2), .unset, .unset, .unset] [(.ref b_19), (.ref b_19)]))
        refine Go.step (fun t k => XS.aload X_19.here hx rfl (hb hby at_255) rfl rfl k) ?_
        show Go p.tables e below P (T_19.setTop (mkF m 257 #[.val (.int p1), .val (.int p2), .val (.int p3), .val (.int p4), .val (.int p5), .val (.int p6), .val (.int (4 : Int32)), .val (.int i13), .val (.long j21), .second, .val (.long j34), .second, .val (.long j48), .second, .val (.long j62), .second, .val (.double d71), .second, .val (.ref y1), .val (.ref y2), .unset, .unset, .unset] [(.ref y1), (.ref b_19), (.ref b_19)]))
        refine Go.step (fun t k => XS.aload X_19.here hx rfl (hb hby at_257) rfl rfl k) ?_
        show Go p.tables e below P (T_19.setTop (mkF m 259 #[.val (.int p1), .val (.int p2), .val (.int p3), .val (.int p4), .val (.int p5), .val (.int p6), .val (.int (4 : Int32)), .val (.int i13), .val (.long j21), .second, .val (.long j34), .second, .val (.long j48), .second, .val (.long j62), .second, .val (.double d71), .second, .val (.ref y1), .val (.ref y2), .unset, .unset, .unset] [(.ref y2), (.ref y1), (.ref b_19), (.ref b_19)]))
        obtain ⟨_, _, ⟨T_20, L_20, k_20, n_20⟩, -, X_20, ⟨Lc_20, hQ_20, l_20, y_20, z_20⟩, st_20⟩ := X_19.specialBack hx (y := (⟨"com/example/gleitfahrt/gleitfahrt/engine/ForceCurve$Table", "<init>", "([D[D)V"⟩ : MethodName)) rfl hown (mvT hZ (hw _ (List.mem_of_getElem? (i := 7) rfl))) (mvT hZ (hw _ (List.mem_of_getElem? (i := 8) rfl))) (mvT hZ (hw _ (List.mem_of_getElem? (i := 9) rfl))) (by decide) (backOf (W := 1) (rm14 l Z a0 hw [] b_19 y1 y2 k_1 k_10 d204 d210 d216 d222 d71 j21.toInt j34.toInt j48.toInt j62.toInt i70.toInt h_19 n0 Z_19 A_19 F_speedsMs_b_19 F_forcesN_b_19 g_b_19 ((((((((((Ex_1.wr W_3).wr W_5).wr W_7).wr W_9).ext E_10).wr W_12).wr W_14).wr W_16).wr W_18).ext E_19) (((((Ex_10.wr W_12).wr W_14).wr W_16).wr W_18).ext E_19) ((((((V_9.ext E_10).other W_12 ne_y1_y2).other W_14 ne_y1_y2).other W_16 ne_y1_y2).other W_18 ne_y1_y2).ext E_19) (V_18.ext E_19) (Ne.symm ne_y1_b_19) (Ne.symm ne_y2_b_19) Q0 Q1 Q2 Q3 q71 b70 (by omega) (by omega) (by omega) (by omega)) hZ (hw _ (List.mem_of_getElem? (i := 9) rfl)) (hw _ (List.mem_of_getElem? (i := 6) rfl)) (by decide) (by decide)) (g := (mkF m 259 #[.val (.int p1), .val (.int p2), .val (.int p3), .val (.int p4), .val (.int p5), .val (.int p6), .val (.int (4 : Int32)), .val (.int i13), .val (.long j21), .second, .val (.long j34), .second, .val (.long j48), .second, .val (.long j62), .second, .val (.double d71), .second, .val (.ref y1), .val (.ref y2), .unset, .unset, .unset] [(.ref y2), (.ref y1), (.ref b_19), (.ref b_19)])) rfl (by rw [hml]; rfl) (Steps.refl _) (a := b_19) (argsL := [(.ref y1), (.ref y2)]) (rest := [(.ref b_19)]) (lenOf pd_2 rfl) rfl (by show 2 * 0 + _ ≤ _; exact Nat.le_of_eq rfl) (hb hby at_259) (fun _ _ => ⟨rfl, e_19, (by decide : 3 + 2 ≤ _), (by decide : 10 + 8 ≤ _)⟩)
        dsimp only [Pt.U, Pt.locs, Pt.cells, Pt.slots] at X_20 l_20 y_20 z_20 st_20 hQ_20
        subst l_20 y_20 z_20
        obtain ⟨rfl, N_20q, Kc_20, Ee_20, x1, Fx1, Vx1⟩ := hQ_20
        have N_20 := Fr.app N_18 N_20q
        have K_20 : Keep h0 T_20.heap [] := K_19.trans Kc_20 (allS (Or.inr sz_b_19) all0)
        have Z_20 : n0 ≤ T_20.heap.size := Nat.le_trans Z_19 Kc_20.1
        refine Go.tr st_20 ?_
        show Go p.tables e below P (T_20.setTop (mkF m 262 #[.val (.int p1), .val (.int p2), .val (.int p3), .val (.int p4), .val (.int p5), .val (.int p6), .val (.int (4 : Int32)), .val (.int i13), .val (.long j21), .second, .val (.long j34), .second, .val (.long j48), .second, .val (.long j62), .second, .val (.double d71), .second, .val (.ref y1), .val (.ref y2), .unset, .unset, .unset] [(.ref b_19)]))
        refine Go.step (fun t k => XS.astore X_20.here hx rfl (hb hby at_262) rfl rfl (l' := #[.val (.int p1), .val (.int p2), .val (.int p3), .val (.int p4), .val (.int p5), .val (.int p6), .val (.int (4 : Int32)), .val (.int i13), .val (.long j21), .second, .val (.long j34), .second, .val (.long j48), .second, .val (.long j62), .second, .val (.double d71), .second, .val (.ref y1), .val (.ref y2), .val (.ref b_19), .unset, .unset]) rfl k) ?_
        show Go p.tables e below P (T_20.setTop (mkF m 264 #[.val (.int p1), .val (.int p2), .val (.int p3), .val (.int p4), .val (.int p5), .val (.int p6), .val (.int (4 : Int32)), .val (.int i13), .val (.long j21), .second, .val (.long j34), .second, .val (.long j48), .second, .val (.long j62), .second, .val (.double d71), .second, .val (.ref y1), .val (.ref y2), .val (.ref b_19), .unset, .unset] []))
        have hj13 : i13 = (0 : Int32) ∨ i13 = (1 : Int32) ∨ i13 = (2 : Int32) ∨ i13 = (3 : Int32) := by
          have hh : i13.toInt = 0 ∨ i13.toInt = 1 ∨ i13.toInt = 2 ∨ i13.toInt = 3 := by omega
          rcases hh with hh | hh | hh | hh
          · exact Or.inl (Int32.toInt_inj.mp (hh.trans rfl))
          · exact Or.inr (Or.inl (Int32.toInt_inj.mp (hh.trans rfl)))
          · exact Or.inr (Or.inr (Or.inl (Int32.toInt_inj.mp (hh.trans rfl))))
          · exact Or.inr (Or.inr (Or.inr ((Int32.toInt_inj.mp (hh.trans rfl)))))
        rcases hj13 with ej13 | ej13 | ej13 | ej13
        · subst ej13
          show Go p.tables e below P (T_20.setTop (mkF m 264 #[.val (.int p1), .val (.int p2), .val (.int p3), .val (.int p4), .val (.int p5), .val (.int p6), .val (.int (4 : Int32)), .val (.int (0 : Int32)), .val (.long j21), .second, .val (.long j34), .second, .val (.long j48), .second, .val (.long j62), .second, .val (.double d71), .second, .val (.ref y1), .val (.ref y2), .val (.ref b_19), .unset, .unset] []))
          refine Go.step (fun t k => XS.iload X_20.here hx rfl (hb hby at_264) rfl  k) ?_
          show Go p.tables e below P (T_20.setTop (mkF m 266 #[.val (.int p1), .val (.int p2), .val (.int p3), .val (.int p4), .val (.int p5), .val (.int p6), .val (.int (4 : Int32)), .val (.int (0 : Int32)), .val (.long j21), .second, .val (.long j34), .second, .val (.long j48), .second, .val (.long j62), .second, .val (.double d71), .second, .val (.ref y1), .val (.ref y2), .val (.ref b_19), .unset, .unset] [(.int (0 : Int32))]))
          refine Go.step (fun t k => XS.iconst X_20.here hx rfl (hb hby at_266) k) ?_
          show Go p.tables e below P (T_20.setTop (mkF m 267 #[.val (.int p1), .val (.int p2), .val (.int p3), .val (.int p4), .val (.int p5), .val (.int p6), .val (.int (4 : Int32)), .val (.int (0 : Int32)), .val (.long j21), .second, .val (.long j34), .second, .val (.long j48), .second, .val (.long j62), .second, .val (.double d71), .second, .val (.ref y1), .val (.ref y2), .val (.ref b_19), .unset, .unset] [(.int (1 : Int32)), (.int (0 : Int32))]))
          obtain ⟨ja, hja⟩ : ∃ z : Int32, (0 : Int32) + (1 : Int32) = z := ⟨_, rfl⟩
          refine Go.step (fun t k => iadd_v X_20.here hx rfl (hb hby at_267) rfl  hja k) ?_
          show Go p.tables e below P (T_20.setTop (mkF m 268 #[.val (.int p1), .val (.int p2), .val (.int p3), .val (.int p4), .val (.int p5), .val (.int p6), .val (.int (4 : Int32)), .val (.int (0 : Int32)), .val (.long j21), .second, .val (.long j34), .second, .val (.long j48), .second, .val (.long j62), .second, .val (.double d71), .second, .val (.ref y1), .val (.ref y2), .val (.ref b_19), .unset, .unset] [(.int ja)]))
          have ez_ja : ja = (1 : Int32) := by rw [← hja]; rfl
          subst ez_ja
          show Go p.tables e below P (T_20.setTop (mkF m 268 #[.val (.int p1), .val (.int p2), .val (.int p3), .val (.int p4), .val (.int p5), .val (.int p6), .val (.int (4 : Int32)), .val (.int (0 : Int32)), .val (.long j21), .second, .val (.long j34), .second, .val (.long j48), .second, .val (.long j62), .second, .val (.double d71), .second, .val (.ref y1), .val (.ref y2), .val (.ref b_19), .unset, .unset] [(.int (1 : Int32))]))
          refine Go.step (fun t k => XS.iload X_20.here hx rfl (hb hby at_268) rfl  k) ?_
          show Go p.tables e below P (T_20.setTop (mkF m 270 #[.val (.int p1), .val (.int p2), .val (.int p3), .val (.int p4), .val (.int p5), .val (.int p6), .val (.int (4 : Int32)), .val (.int (0 : Int32)), .val (.long j21), .second, .val (.long j34), .second, .val (.long j48), .second, .val (.long j62), .second, .val (.double d71), .second, .val (.ref y1), .val (.ref y2), .val (.ref b_19), .unset, .unset] [(.int (4 : Int32)), (.int (1 : Int32))]))
          refine Go.step (fun t k => XS.icmpYes X_20.here hx rfl (pc0 := 270) (pc' := 281) rfl (hb hby at_270) rfl (icY (cd := .lt) (by decide : (1 : Int) < (4 : Int))) (by decide) (by decide) k) ?_
          show Go p.tables e below P (T_20.setTop (mkF m 281 #[.val (.int p1), .val (.int p2), .val (.int p3), .val (.int p4), .val (.int p5), .val (.int p6), .val (.int (4 : Int32)), .val (.int (0 : Int32)), .val (.long j21), .second, .val (.long j34), .second, .val (.long j48), .second, .val (.long j62), .second, .val (.double d71), .second, .val (.ref y1), .val (.ref y2), .val (.ref b_19), .unset, .unset] []))
          refine Go.step (fun t k => XS.iload X_20.here hx rfl (hb hby at_281) rfl  k) ?_
          show Go p.tables e below P (T_20.setTop (mkF m 283 #[.val (.int p1), .val (.int p2), .val (.int p3), .val (.int p4), .val (.int p5), .val (.int p6), .val (.int (4 : Int32)), .val (.int (0 : Int32)), .val (.long j21), .second, .val (.long j34), .second, .val (.long j48), .second, .val (.long j62), .second, .val (.double d71), .second, .val (.ref y1), .val (.ref y2), .val (.ref b_19), .unset, .unset] [(.int (0 : Int32))]))
          refine Go.step (fun t k => XS.ifNo X_20.here hx rfl (hb hby at_283) rfl (ifN (cd := .ne) (by decide : ¬ (¬ (0 : Int) = 0))) k) ?_
          show Go p.tables e below P (T_20.setTop (mkF m 286 #[.val (.int p1), .val (.int p2), .val (.int p3), .val (.int p4), .val (.int p5), .val (.int p6), .val (.int (4 : Int32)), .val (.int (0 : Int32)), .val (.long j21), .second, .val (.long j34), .second, .val (.long j48), .second, .val (.long j62), .second, .val (.double d71), .second, .val (.ref y1), .val (.ref y2), .val (.ref b_19), .unset, .unset] []))
          refine Go.step (fun t k => XS.lload X_20.here hx rfl (hb hby at_286) rfl  k) ?_
          show Go p.tables e below P (T_20.setTop (mkF m 288 #[.val (.int p1), .val (.int p2), .val (.int p3), .val (.int p4), .val (.int p5), .val (.int p6), .val (.int (4 : Int32)), .val (.int (0 : Int32)), .val (.long j21), .second, .val (.long j34), .second, .val (.long j48), .second, .val (.long j62), .second, .val (.double d71), .second, .val (.ref y1), .val (.ref y2), .val (.ref b_19), .unset, .unset] [(.long j34)]))
          obtain ⟨d288, hd288⟩ : ∃ z : UInt64, FP.l2d j34 = z := ⟨_, rfl⟩
          refine Go.step (fun t k => XS.l2dS X_20.here hx rfl (hb hby at_288) rfl hd288 k) ?_
          show Go p.tables e below P (T_20.setTop (mkF m 289 #[.val (.int p1), .val (.int p2), .val (.int p3), .val (.int p4), .val (.int p5), .val (.int p6), .val (.int (4 : Int32)), .val (.int (0 : Int32)), .val (.long j21), .second, .val (.long j34), .second, .val (.long j48), .second, .val (.long j62), .second, .val (.double d71), .second, .val (.ref y1), .val (.ref y2), .val (.ref b_19), .unset, .unset] [(.double d288)]))
          have R288 := l2d_e (x := j34) (by omega); rw [hd288] at R288
          refine Go.step (fun t k => XS.dstore X_20.here hx rfl (hb hby at_289) rfl (l' := #[.val (.int p1), .val (.int p2), .val (.int p3), .val (.int p4), .val (.int p5), .val (.int p6), .val (.int (4 : Int32)), .val (.int (0 : Int32)), .val (.long j21), .second, .val (.long j34), .second, .val (.long j48), .second, .val (.long j62), .second, .val (.double d71), .second, .val (.ref y1), .val (.ref y2), .val (.ref b_19), .val (.double d288), .second]) rfl k) ?_
          show Go p.tables e below P (T_20.setTop (mkF m 291 #[.val (.int p1), .val (.int p2), .val (.int p3), .val (.int p4), .val (.int p5), .val (.int p6), .val (.int (4 : Int32)), .val (.int (0 : Int32)), .val (.long j21), .second, .val (.long j34), .second, .val (.long j48), .second, .val (.long j62), .second, .val (.double d71), .second, .val (.ref y1), .val (.ref y2), .val (.ref b_19), .val (.double d288), .second] []))
          refine Go.step (fun t k => XS.goto X_20.here hx rfl (pc0 := 291) (pc' := 313) rfl (hb hby at_291) (by decide) (by decide) k) ?_
          show Go p.tables e below P (T_20.setTop (mkF m 313 #[.val (.int p1), .val (.int p2), .val (.int p3), .val (.int p4), .val (.int p5), .val (.int p6), .val (.int (4 : Int32)), .val (.int (0 : Int32)), .val (.long j21), .second, .val (.long j34), .second, .val (.long j48), .second, .val (.long j62), .second, .val (.double d71), .second, .val (.ref y1), .val (.ref y2), .val (.ref b_19), .val (.double d288), .second] []))
          refine Go.step (fun t k => XS.aload X_20.here hx rfl (hb hby at_313) rfl rfl k) ?_
          show Go p.tables e below P (T_20.setTop (mkF m 315 #[.val (.int p1), .val (.int p2), .val (.int p3), .val (.int p4), .val (.int p5), .val (.int p6), .val (.int (4 : Int32)), .val (.int (0 : Int32)), .val (.long j21), .second, .val (.long j34), .second, .val (.long j48), .second, .val (.long j62), .second, .val (.double d71), .second, .val (.ref y1), .val (.ref y2), .val (.ref b_19), .val (.double d288), .second] [(.ref b_19)]))
          refine Go.step (fun t k => XS.iload X_20.here hx rfl (hb hby at_315) rfl  k) ?_
          show Go p.tables e below P (T_20.setTop (mkF m 317 #[.val (.int p1), .val (.int p2), .val (.int p3), .val (.int p4), .val (.int p5), .val (.int p6), .val (.int (4 : Int32)), .val (.int (0 : Int32)), .val (.long j21), .second, .val (.long j34), .second, .val (.long j48), .second, .val (.long j62), .second, .val (.double d71), .second, .val (.ref y1), .val (.ref y2), .val (.ref b_19), .val (.double d288), .second] [(.int (0 : Int32)), (.ref b_19)]))
          obtain ⟨cq_21, kq_21, q_21a, q_21b, q_21c⟩ := isOf hZ rfl (A_19.keep Kc_20)
          obtain ⟨_, _, ⟨T_21, L_21, k_21, n_21⟩, -, X_21, ⟨Lc_21, hQ_21, l_21, y_21, z_21⟩, st_21⟩ := X_20.virtualBack hx (y := (⟨"com/example/gleitfahrt/gleitfahrt/engine/ForceCurve$Table", "upperMs", "(I)D"⟩ : MethodName)) (z := (⟨"com/example/gleitfahrt/gleitfahrt/engine/ForceCurve$Table", "upperMs", "(I)D"⟩ : MethodName)) hown (mvT hZ (hw _ (List.mem_of_getElem? (i := 36) rfl))) (mvT hZ (hw _ (List.mem_of_getElem? (i := 37) rfl))) (notFace_of_selects (args := #[]) (mvT hZ (hw _ (List.mem_of_getElem? (i := 39) rfl)))) (mvT hZ (hw _ (List.mem_of_getElem? (i := 39) rfl))) (mvT hZ (hw _ (List.mem_of_getElem? (i := 38) rfl))) (by decide) (backOf (W := 0) (up4_0 l Z a0 hw [] b_19 x1 k_1 d204 d210 d216 d222 T_20.heap n0 Z_20 Fx1 Vx1) hZ (hw _ (List.mem_of_getElem? (i := 40) rfl)) (hw _ (List.mem_of_getElem? (i := 6) rfl)) (by decide) (by decide)) q_21a q_21c (g := (mkF m 317 #[.val (.int p1), .val (.int p2), .val (.int p3), .val (.int p4), .val (.int p5), .val (.int p6), .val (.int (4 : Int32)), .val (.int (0 : Int32)), .val (.long j21), .second, .val (.long j34), .second, .val (.long j48), .second, .val (.long j62), .second, .val (.double d71), .second, .val (.ref y1), .val (.ref y2), .val (.ref b_19), .val (.double d288), .second] [(.int (0 : Int32)), (.ref b_19)])) rfl (by rw [hml]; rfl) (Steps.refl _) (argsL := [(.int (0 : Int32))]) (rest := []) (lenOf pd_3 rfl) rfl (by show 2 * 0 + _ ≤ _; exact Nat.le_of_eq rfl) (hb hby at_317) (fun _ _ => ⟨rfl, rfl, (by decide : 5 + 0 ≤ _), (by decide : 18 + 0 ≤ _)⟩)
          dsimp only [Pt.U, Pt.locs, Pt.cells, Pt.slots] at X_21 l_21 y_21 z_21 st_21 hQ_21
          subst l_21 y_21 z_21
          obtain ⟨rfl, N_21q, eh_21⟩ := hQ_21
          have N_21 := Fr.app N_20 N_21q
          refine Go.tr st_21 ?_
          show Go p.tables e below P (T_21.setTop (mkF m 320 #[.val (.int p1), .val (.int p2), .val (.int p3), .val (.int p4), .val (.int p5), .val (.int p6), .val (.int (4 : Int32)), .val (.int (0 : Int32)), .val (.long j21), .second, .val (.long j34), .second, .val (.long j48), .second, .val (.long j62), .second, .val (.double d71), .second, .val (.ref y1), .val (.ref y2), .val (.ref b_19), .val (.double d288), .second] [(.double d210)]))
          refine Go.step (fun t k => XS.dload X_21.here hx rfl (hb hby at_320) rfl  k) ?_
          show Go p.tables e below P (T_21.setTop (mkF m 322 #[.val (.int p1), .val (.int p2), .val (.int p3), .val (.int p4), .val (.int p5), .val (.int p6), .val (.int (4 : Int32)), .val (.int (0 : Int32)), .val (.long j21), .second, .val (.long j34), .second, .val (.long j48), .second, .val (.long j62), .second, .val (.double d71), .second, .val (.ref y1), .val (.ref y2), .val (.ref b_19), .val (.double d288), .second] [(.double d288), (.double d210)]))
          refine Go.step (fun t k => XS.dcmpS X_21.here hx rfl (hb hby at_322) rfl rfl k) ?_
          show Go p.tables e below P (T_21.setTop (mkF m 323 #[.val (.int p1), .val (.int p2), .val (.int p3), .val (.int p4), .val (.int p5), .val (.int p6), .val (.int (4 : Int32)), .val (.int (0 : Int32)), .val (.long j21), .second, .val (.long j34), .second, .val (.long j48), .second, .val (.long j62), .second, .val (.double d71), .second, .val (.ref y1), .val (.ref y2), .val (.ref b_19), .val (.double d288), .second] [(.int (cmpValue (FP.dcmp d210 d288) .l))]))
          refine Go.step (fun t k => XS.ifNo X_21.here hx rfl (hb hby at_323) rfl (dcN (cd := .ne) (DE.cmp Q1 R288) (fun q => q rfl)) k) ?_
          show Go p.tables e below P (T_21.setTop (mkF m 326 #[.val (.int p1), .val (.int p2), .val (.int p3), .val (.int p4), .val (.int p5), .val (.int p6), .val (.int (4 : Int32)), .val (.int (0 : Int32)), .val (.long j21), .second, .val (.long j34), .second, .val (.long j48), .second, .val (.long j62), .second, .val (.double d71), .second, .val (.ref y1), .val (.ref y2), .val (.ref b_19), .val (.double d288), .second] []))
          refine Go.step (fun t k => XS.aload X_21.here hx rfl (hb hby at_326) rfl rfl k) ?_
          show Go p.tables e below P (T_21.setTop (mkF m 328 #[.val (.int p1), .val (.int p2), .val (.int p3), .val (.int p4), .val (.int p5), .val (.int p6), .val (.int (4 : Int32)), .val (.int (0 : Int32)), .val (.long j21), .second, .val (.long j34), .second, .val (.long j48), .second, .val (.long j62), .second, .val (.double d71), .second, .val (.ref y1), .val (.ref y2), .val (.ref b_19), .val (.double d288), .second] [(.ref b_19)]))
          refine Go.step (fun t k => XS.iload X_21.here hx rfl (hb hby at_328) rfl  k) ?_
          show Go p.tables e below P (T_21.setTop (mkF m 330 #[.val (.int p1), .val (.int p2), .val (.int p3), .val (.int p4), .val (.int p5), .val (.int p6), .val (.int (4 : Int32)), .val (.int (0 : Int32)), .val (.long j21), .second, .val (.long j34), .second, .val (.long j48), .second, .val (.long j62), .second, .val (.double d71), .second, .val (.ref y1), .val (.ref y2), .val (.ref b_19), .val (.double d288), .second] [(.int (4 : Int32)), (.ref b_19)]))
          refine Go.step (fun t k => XS.iconst X_21.here hx rfl (hb hby at_330) k) ?_
          show Go p.tables e below P (T_21.setTop (mkF m 331 #[.val (.int p1), .val (.int p2), .val (.int p3), .val (.int p4), .val (.int p5), .val (.int p6), .val (.int (4 : Int32)), .val (.int (0 : Int32)), .val (.long j21), .second, .val (.long j34), .second, .val (.long j48), .second, .val (.long j62), .second, .val (.double d71), .second, .val (.ref y1), .val (.ref y2), .val (.ref b_19), .val (.double d288), .second] [(.int (1 : Int32)), (.int (4 : Int32)), (.ref b_19)]))
          obtain ⟨jm, hjm⟩ : ∃ z : Int32, (4 : Int32) - (1 : Int32) = z := ⟨_, rfl⟩
          refine Go.step (fun t k => isub_v X_21.here hx rfl (hb hby at_331) rfl  hjm k) ?_
          show Go p.tables e below P (T_21.setTop (mkF m 332 #[.val (.int p1), .val (.int p2), .val (.int p3), .val (.int p4), .val (.int p5), .val (.int p6), .val (.int (4 : Int32)), .val (.int (0 : Int32)), .val (.long j21), .second, .val (.long j34), .second, .val (.long j48), .second, .val (.long j62), .second, .val (.double d71), .second, .val (.ref y1), .val (.ref y2), .val (.ref b_19), .val (.double d288), .second] [(.int jm), (.ref b_19)]))
          have ez_jm : jm = (3 : Int32) := by rw [← hjm]; rfl
          subst ez_jm
          show Go p.tables e below P (T_21.setTop (mkF m 332 #[.val (.int p1), .val (.int p2), .val (.int p3), .val (.int p4), .val (.int p5), .val (.int p6), .val (.int (4 : Int32)), .val (.int (0 : Int32)), .val (.long j21), .second, .val (.long j34), .second, .val (.long j48), .second, .val (.long j62), .second, .val (.double d71), .second, .val (.ref y1), .val (.ref y2), .val (.ref b_19), .val (.double d288), .second] [(.int (3 : Int32)), (.ref b_19)]))
          obtain ⟨cq_22, kq_22, q_22a, q_22b, q_22c⟩ := isOf hZ eh_21 (A_19.keep Kc_20)
          obtain ⟨_, _, ⟨T_22, L_22, k_22, n_22⟩, -, X_22, ⟨Lc_22, hQ_22, l_22, y_22, z_22⟩, st_22⟩ := X_21.virtualBack hx (y := (⟨"com/example/gleitfahrt/gleitfahrt/engine/ForceCurve$Table", "upperMs", "(I)D"⟩ : MethodName)) (z := (⟨"com/example/gleitfahrt/gleitfahrt/engine/ForceCurve$Table", "upperMs", "(I)D"⟩ : MethodName)) hown (mvT hZ (hw _ (List.mem_of_getElem? (i := 36) rfl))) (mvT hZ (hw _ (List.mem_of_getElem? (i := 37) rfl))) (notFace_of_selects (args := #[]) (mvT hZ (hw _ (List.mem_of_getElem? (i := 39) rfl)))) (mvT hZ (hw _ (List.mem_of_getElem? (i := 39) rfl))) (mvT hZ (hw _ (List.mem_of_getElem? (i := 38) rfl))) (by decide) (backOf (W := 0) (up4_3 l Z a0 hw [] b_19 x1 k_1 d204 d210 d216 d222 T_20.heap n0 Z_20 Fx1 Vx1) hZ (hw _ (List.mem_of_getElem? (i := 40) rfl)) (hw _ (List.mem_of_getElem? (i := 6) rfl)) (by decide) (by decide)) q_22a q_22c (g := (mkF m 332 #[.val (.int p1), .val (.int p2), .val (.int p3), .val (.int p4), .val (.int p5), .val (.int p6), .val (.int (4 : Int32)), .val (.int (0 : Int32)), .val (.long j21), .second, .val (.long j34), .second, .val (.long j48), .second, .val (.long j62), .second, .val (.double d71), .second, .val (.ref y1), .val (.ref y2), .val (.ref b_19), .val (.double d288), .second] [(.int (3 : Int32)), (.ref b_19)])) rfl (by rw [hml]; rfl) (Steps.refl _) (argsL := [(.int (3 : Int32))]) (rest := []) (lenOf pd_3 rfl) rfl (by show 2 * 0 + _ ≤ _; exact Nat.le_of_eq rfl) (hb hby at_332) (fun _ _ => ⟨rfl, eh_21, (by decide : 5 + 0 ≤ _), (by decide : 18 + 0 ≤ _)⟩)
          dsimp only [Pt.U, Pt.locs, Pt.cells, Pt.slots] at X_22 l_22 y_22 z_22 st_22 hQ_22
          subst l_22 y_22 z_22
          obtain ⟨rfl, N_22q, eh_22⟩ := hQ_22
          have N_22 := Fr.app N_21 N_22q
          refine Go.tr st_22 ?_
          show Go p.tables e below P (T_22.setTop (mkF m 335 #[.val (.int p1), .val (.int p2), .val (.int p3), .val (.int p4), .val (.int p5), .val (.int p6), .val (.int (4 : Int32)), .val (.int (0 : Int32)), .val (.long j21), .second, .val (.long j34), .second, .val (.long j48), .second, .val (.long j62), .second, .val (.double d71), .second, .val (.ref y1), .val (.ref y2), .val (.ref b_19), .val (.double d288), .second] [(.double (9218868437227405312 : UInt64))]))
          refine Go.step (fun t k => X_22.ldc2DoubleC hx hown (mvT hZ (hw _ (List.mem_of_getElem? (i := 35) rfl))) (g := (mkF m 335 #[.val (.int p1), .val (.int p2), .val (.int p3), .val (.int p4), .val (.int p5), .val (.int p6), .val (.int (4 : Int32)), .val (.int (0 : Int32)), .val (.long j21), .second, .val (.long j34), .second, .val (.long j48), .second, .val (.long j62), .second, .val (.double d71), .second, .val (.ref y1), .val (.ref y2), .val (.ref b_19), .val (.double d288), .second] [(.double (9218868437227405312 : UInt64))])) rfl (hb hby at_335) t k) ?_
          show Go p.tables e below P (T_22.setTop (mkF m 338 #[.val (.int p1), .val (.int p2), .val (.int p3), .val (.int p4), .val (.int p5), .val (.int p6), .val (.int (4 : Int32)), .val (.int (0 : Int32)), .val (.long j21), .second, .val (.long j34), .second, .val (.long j48), .second, .val (.long j62), .second, .val (.double d71), .second, .val (.ref y1), .val (.ref y2), .val (.ref b_19), .val (.double d288), .second] [(.double (9218868437227405312 : UInt64)), (.double (9218868437227405312 : UInt64))]))
          refine Go.step (fun t k => XS.dcmpS X_22.here hx rfl (hb hby at_338) rfl rfl k) ?_
          show Go p.tables e below P (T_22.setTop (mkF m 339 #[.val (.int p1), .val (.int p2), .val (.int p3), .val (.int p4), .val (.int p5), .val (.int p6), .val (.int (4 : Int32)), .val (.int (0 : Int32)), .val (.long j21), .second, .val (.long j34), .second, .val (.long j48), .second, .val (.long j62), .second, .val (.double d71), .second, .val (.ref y1), .val (.ref y2), .val (.ref b_19), .val (.double d288), .second] [(.int (cmpValue (FP.dcmp (9218868437227405312 : UInt64) (9218868437227405312 : UInt64)) .l))]))
          refine Go.step (fun t k => XS.ifNo X_22.here hx rfl (hb hby at_339) rfl (dcN (cd := .ne) (same_cmp inf_ok) (fun q => q rfl)) k) ?_
          show Go p.tables e below P (T_22.setTop (mkF m 342 #[.val (.int p1), .val (.int p2), .val (.int p3), .val (.int p4), .val (.int p5), .val (.int p6), .val (.int (4 : Int32)), .val (.int (0 : Int32)), .val (.long j21), .second, .val (.long j34), .second, .val (.long j48), .second, .val (.long j62), .second, .val (.double d71), .second, .val (.ref y1), .val (.ref y2), .val (.ref b_19), .val (.double d288), .second] []))
          refine Go.step (fun t k => XS.iconst X_22.here hx rfl (hb hby at_342) k) ?_
          show Go p.tables e below P (T_22.setTop (mkF m 343 #[.val (.int p1), .val (.int p2), .val (.int p3), .val (.int p4), .val (.int p5), .val (.int p6), .val (.int (4 : Int32)), .val (.int (0 : Int32)), .val (.long j21), .second, .val (.long j34), .second, .val (.long j48), .second, .val (.long j62), .second, .val (.double d71), .second, .val (.ref y1), .val (.ref y2), .val (.ref b_19), .val (.double d288), .second] [(.int (1 : Int32))]))
          refine Go.step (fun t k => XS.goto X_22.here hx rfl (pc0 := 343) (pc' := 347) rfl (hb hby at_343) (by decide) (by decide) k) ?_
          show Go p.tables e below P (T_22.setTop (mkF m 347 #[.val (.int p1), .val (.int p2), .val (.int p3), .val (.int p4), .val (.int p5), .val (.int p6), .val (.int (4 : Int32)), .val (.int (0 : Int32)), .val (.long j21), .second, .val (.long j34), .second, .val (.long j48), .second, .val (.long j62), .second, .val (.double d71), .second, .val (.ref y1), .val (.ref y2), .val (.ref b_19), .val (.double d288), .second] [(.int (1 : Int32))]))
          exact retGo X_22 hx hP Bd.returns hlk rfl (Or.inl ⟨rfl, Or.inr (Or.inl rfl), _, rfl⟩) (hb hby at_347) (by decide) (by decide) (by rw [eh_22]; exact ⟨rfl, N_22⟩)
        · subst ej13
          show Go p.tables e below P (T_20.setTop (mkF m 264 #[.val (.int p1), .val (.int p2), .val (.int p3), .val (.int p4), .val (.int p5), .val (.int p6), .val (.int (4 : Int32)), .val (.int (1 : Int32)), .val (.long j21), .second, .val (.long j34), .second, .val (.long j48), .second, .val (.long j62), .second, .val (.double d71), .second, .val (.ref y1), .val (.ref y2), .val (.ref b_19), .unset, .unset] []))
          refine Go.step (fun t k => XS.iload X_20.here hx rfl (hb hby at_264) rfl  k) ?_
          show Go p.tables e below P (T_20.setTop (mkF m 266 #[.val (.int p1), .val (.int p2), .val (.int p3), .val (.int p4), .val (.int p5), .val (.int p6), .val (.int (4 : Int32)), .val (.int (1 : Int32)), .val (.long j21), .second, .val (.long j34), .second, .val (.long j48), .second, .val (.long j62), .second, .val (.double d71), .second, .val (.ref y1), .val (.ref y2), .val (.ref b_19), .unset, .unset] [(.int (1 : Int32))]))
          refine Go.step (fun t k => XS.iconst X_20.here hx rfl (hb hby at_266) k) ?_
          show Go p.tables e below P (T_20.setTop (mkF m 267 #[.val (.int p1), .val (.int p2), .val (.int p3), .val (.int p4), .val (.int p5), .val (.int p6), .val (.int (4 : Int32)), .val (.int (1 : Int32)), .val (.long j21), .second, .val (.long j34), .second, .val (.long j48), .second, .val (.long j62), .second, .val (.double d71), .second, .val (.ref y1), .val (.ref y2), .val (.ref b_19), .unset, .unset] [(.int (1 : Int32)), (.int (1 : Int32))]))
          obtain ⟨ja, hja⟩ : ∃ z : Int32, (1 : Int32) + (1 : Int32) = z := ⟨_, rfl⟩
          refine Go.step (fun t k => iadd_v X_20.here hx rfl (hb hby at_267) rfl  hja k) ?_
          show Go p.tables e below P (T_20.setTop (mkF m 268 #[.val (.int p1), .val (.int p2), .val (.int p3), .val (.int p4), .val (.int p5), .val (.int p6), .val (.int (4 : Int32)), .val (.int (1 : Int32)), .val (.long j21), .second, .val (.long j34), .second, .val (.long j48), .second, .val (.long j62), .second, .val (.double d71), .second, .val (.ref y1), .val (.ref y2), .val (.ref b_19), .unset, .unset] [(.int ja)]))
          have ez_ja : ja = (2 : Int32) := by rw [← hja]; rfl
          subst ez_ja
          show Go p.tables e below P (T_20.setTop (mkF m 268 #[.val (.int p1), .val (.int p2), .val (.int p3), .val (.int p4), .val (.int p5), .val (.int p6), .val (.int (4 : Int32)), .val (.int (1 : Int32)), .val (.long j21), .second, .val (.long j34), .second, .val (.long j48), .second, .val (.long j62), .second, .val (.double d71), .second, .val (.ref y1), .val (.ref y2), .val (.ref b_19), .unset, .unset] [(.int (2 : Int32))]))
          refine Go.step (fun t k => XS.iload X_20.here hx rfl (hb hby at_268) rfl  k) ?_
          show Go p.tables e below P (T_20.setTop (mkF m 270 #[.val (.int p1), .val (.int p2), .val (.int p3), .val (.int p4), .val (.int p5), .val (.int p6), .val (.int (4 : Int32)), .val (.int (1 : Int32)), .val (.long j21), .second, .val (.long j34), .second, .val (.long j48), .second, .val (.long j62), .second, .val (.double d71), .second, .val (.ref y1), .val (.ref y2), .val (.ref b_19), .unset, .unset] [(.int (4 : Int32)), (.int (2 : Int32))]))
          refine Go.step (fun t k => XS.icmpYes X_20.here hx rfl (pc0 := 270) (pc' := 281) rfl (hb hby at_270) rfl (icY (cd := .lt) (by decide : (2 : Int) < (4 : Int))) (by decide) (by decide) k) ?_
          show Go p.tables e below P (T_20.setTop (mkF m 281 #[.val (.int p1), .val (.int p2), .val (.int p3), .val (.int p4), .val (.int p5), .val (.int p6), .val (.int (4 : Int32)), .val (.int (1 : Int32)), .val (.long j21), .second, .val (.long j34), .second, .val (.long j48), .second, .val (.long j62), .second, .val (.double d71), .second, .val (.ref y1), .val (.ref y2), .val (.ref b_19), .unset, .unset] []))
          refine Go.step (fun t k => XS.iload X_20.here hx rfl (hb hby at_281) rfl  k) ?_
          show Go p.tables e below P (T_20.setTop (mkF m 283 #[.val (.int p1), .val (.int p2), .val (.int p3), .val (.int p4), .val (.int p5), .val (.int p6), .val (.int (4 : Int32)), .val (.int (1 : Int32)), .val (.long j21), .second, .val (.long j34), .second, .val (.long j48), .second, .val (.long j62), .second, .val (.double d71), .second, .val (.ref y1), .val (.ref y2), .val (.ref b_19), .unset, .unset] [(.int (1 : Int32))]))
          refine Go.step (fun t k => XS.ifYes X_20.here hx rfl (pc0 := 283) (pc' := 294) rfl (hb hby at_283) rfl (ifY (cd := .ne) (by decide : ¬ (1 : Int) = 0)) (by decide) (by decide) k) ?_
          show Go p.tables e below P (T_20.setTop (mkF m 294 #[.val (.int p1), .val (.int p2), .val (.int p3), .val (.int p4), .val (.int p5), .val (.int p6), .val (.int (4 : Int32)), .val (.int (1 : Int32)), .val (.long j21), .second, .val (.long j34), .second, .val (.long j48), .second, .val (.long j62), .second, .val (.double d71), .second, .val (.ref y1), .val (.ref y2), .val (.ref b_19), .unset, .unset] []))
          refine Go.step (fun t k => XS.iload X_20.here hx rfl (hb hby at_294) rfl  k) ?_
          show Go p.tables e below P (T_20.setTop (mkF m 296 #[.val (.int p1), .val (.int p2), .val (.int p3), .val (.int p4), .val (.int p5), .val (.int p6), .val (.int (4 : Int32)), .val (.int (1 : Int32)), .val (.long j21), .second, .val (.long j34), .second, .val (.long j48), .second, .val (.long j62), .second, .val (.double d71), .second, .val (.ref y1), .val (.ref y2), .val (.ref b_19), .unset, .unset] [(.int (1 : Int32))]))
          refine Go.step (fun t k => XS.iconst X_20.here hx rfl (hb hby at_296) k) ?_
          show Go p.tables e below P (T_20.setTop (mkF m 297 #[.val (.int p1), .val (.int p2), .val (.int p3), .val (.int p4), .val (.int p5), .val (.int p6), .val (.int (4 : Int32)), .val (.int (1 : Int32)), .val (.long j21), .second, .val (.long j34), .second, .val (.long j48), .second, .val (.long j62), .second, .val (.double d71), .second, .val (.ref y1), .val (.ref y2), .val (.ref b_19), .unset, .unset] [(.int (1 : Int32)), (.int (1 : Int32))]))
          refine Go.step (fun t k => XS.icmpNo X_20.here hx rfl (hb hby at_297) rfl (icN (cd := .ne) (by decide : ¬ (¬ (1 : Int) = (1 : Int)))) k) ?_
          show Go p.tables e below P (T_20.setTop (mkF m 300 #[.val (.int p1), .val (.int p2), .val (.int p3), .val (.int p4), .val (.int p5), .val (.int p6), .val (.int (4 : Int32)), .val (.int (1 : Int32)), .val (.long j21), .second, .val (.long j34), .second, .val (.long j48), .second, .val (.long j62), .second, .val (.double d71), .second, .val (.ref y1), .val (.ref y2), .val (.ref b_19), .unset, .unset] []))
          refine Go.step (fun t k => XS.lload X_20.here hx rfl (hb hby at_300) rfl  k) ?_
          show Go p.tables e below P (T_20.setTop (mkF m 302 #[.val (.int p1), .val (.int p2), .val (.int p3), .val (.int p4), .val (.int p5), .val (.int p6), .val (.int (4 : Int32)), .val (.int (1 : Int32)), .val (.long j21), .second, .val (.long j34), .second, .val (.long j48), .second, .val (.long j62), .second, .val (.double d71), .second, .val (.ref y1), .val (.ref y2), .val (.ref b_19), .unset, .unset] [(.long j48)]))
          obtain ⟨d302, hd302⟩ : ∃ z : UInt64, FP.l2d j48 = z := ⟨_, rfl⟩
          refine Go.step (fun t k => XS.l2dS X_20.here hx rfl (hb hby at_302) rfl hd302 k) ?_
          show Go p.tables e below P (T_20.setTop (mkF m 303 #[.val (.int p1), .val (.int p2), .val (.int p3), .val (.int p4), .val (.int p5), .val (.int p6), .val (.int (4 : Int32)), .val (.int (1 : Int32)), .val (.long j21), .second, .val (.long j34), .second, .val (.long j48), .second, .val (.long j62), .second, .val (.double d71), .second, .val (.ref y1), .val (.ref y2), .val (.ref b_19), .unset, .unset] [(.double d302)]))
          have R302 := l2d_e (x := j48) (by omega); rw [hd302] at R302
          refine Go.step (fun t k => XS.dstore X_20.here hx rfl (hb hby at_303) rfl (l' := #[.val (.int p1), .val (.int p2), .val (.int p3), .val (.int p4), .val (.int p5), .val (.int p6), .val (.int (4 : Int32)), .val (.int (1 : Int32)), .val (.long j21), .second, .val (.long j34), .second, .val (.long j48), .second, .val (.long j62), .second, .val (.double d71), .second, .val (.ref y1), .val (.ref y2), .val (.ref b_19), .val (.double d302), .second]) rfl k) ?_
          show Go p.tables e below P (T_20.setTop (mkF m 305 #[.val (.int p1), .val (.int p2), .val (.int p3), .val (.int p4), .val (.int p5), .val (.int p6), .val (.int (4 : Int32)), .val (.int (1 : Int32)), .val (.long j21), .second, .val (.long j34), .second, .val (.long j48), .second, .val (.long j62), .second, .val (.double d71), .second, .val (.ref y1), .val (.ref y2), .val (.ref b_19), .val (.double d302), .second] []))
          refine Go.step (fun t k => XS.goto X_20.here hx rfl (pc0 := 305) (pc' := 313) rfl (hb hby at_305) (by decide) (by decide) k) ?_
          show Go p.tables e below P (T_20.setTop (mkF m 313 #[.val (.int p1), .val (.int p2), .val (.int p3), .val (.int p4), .val (.int p5), .val (.int p6), .val (.int (4 : Int32)), .val (.int (1 : Int32)), .val (.long j21), .second, .val (.long j34), .second, .val (.long j48), .second, .val (.long j62), .second, .val (.double d71), .second, .val (.ref y1), .val (.ref y2), .val (.ref b_19), .val (.double d302), .second] []))
          refine Go.step (fun t k => XS.aload X_20.here hx rfl (hb hby at_313) rfl rfl k) ?_
          show Go p.tables e below P (T_20.setTop (mkF m 315 #[.val (.int p1), .val (.int p2), .val (.int p3), .val (.int p4), .val (.int p5), .val (.int p6), .val (.int (4 : Int32)), .val (.int (1 : Int32)), .val (.long j21), .second, .val (.long j34), .second, .val (.long j48), .second, .val (.long j62), .second, .val (.double d71), .second, .val (.ref y1), .val (.ref y2), .val (.ref b_19), .val (.double d302), .second] [(.ref b_19)]))
          refine Go.step (fun t k => XS.iload X_20.here hx rfl (hb hby at_315) rfl  k) ?_
          show Go p.tables e below P (T_20.setTop (mkF m 317 #[.val (.int p1), .val (.int p2), .val (.int p3), .val (.int p4), .val (.int p5), .val (.int p6), .val (.int (4 : Int32)), .val (.int (1 : Int32)), .val (.long j21), .second, .val (.long j34), .second, .val (.long j48), .second, .val (.long j62), .second, .val (.double d71), .second, .val (.ref y1), .val (.ref y2), .val (.ref b_19), .val (.double d302), .second] [(.int (1 : Int32)), (.ref b_19)]))
          obtain ⟨cq_23, kq_23, q_23a, q_23b, q_23c⟩ := isOf hZ rfl (A_19.keep Kc_20)
          obtain ⟨_, _, ⟨T_23, L_23, k_23, n_23⟩, -, X_23, ⟨Lc_23, hQ_23, l_23, y_23, z_23⟩, st_23⟩ := X_20.virtualBack hx (y := (⟨"com/example/gleitfahrt/gleitfahrt/engine/ForceCurve$Table", "upperMs", "(I)D"⟩ : MethodName)) (z := (⟨"com/example/gleitfahrt/gleitfahrt/engine/ForceCurve$Table", "upperMs", "(I)D"⟩ : MethodName)) hown (mvT hZ (hw _ (List.mem_of_getElem? (i := 36) rfl))) (mvT hZ (hw _ (List.mem_of_getElem? (i := 37) rfl))) (notFace_of_selects (args := #[]) (mvT hZ (hw _ (List.mem_of_getElem? (i := 39) rfl)))) (mvT hZ (hw _ (List.mem_of_getElem? (i := 39) rfl))) (mvT hZ (hw _ (List.mem_of_getElem? (i := 38) rfl))) (by decide) (backOf (W := 0) (up4_1 l Z a0 hw [] b_19 x1 k_1 d204 d210 d216 d222 T_20.heap n0 Z_20 Fx1 Vx1) hZ (hw _ (List.mem_of_getElem? (i := 40) rfl)) (hw _ (List.mem_of_getElem? (i := 6) rfl)) (by decide) (by decide)) q_23a q_23c (g := (mkF m 317 #[.val (.int p1), .val (.int p2), .val (.int p3), .val (.int p4), .val (.int p5), .val (.int p6), .val (.int (4 : Int32)), .val (.int (1 : Int32)), .val (.long j21), .second, .val (.long j34), .second, .val (.long j48), .second, .val (.long j62), .second, .val (.double d71), .second, .val (.ref y1), .val (.ref y2), .val (.ref b_19), .val (.double d302), .second] [(.int (1 : Int32)), (.ref b_19)])) rfl (by rw [hml]; rfl) (Steps.refl _) (argsL := [(.int (1 : Int32))]) (rest := []) (lenOf pd_3 rfl) rfl (by show 2 * 0 + _ ≤ _; exact Nat.le_of_eq rfl) (hb hby at_317) (fun _ _ => ⟨rfl, rfl, (by decide : 5 + 0 ≤ _), (by decide : 18 + 0 ≤ _)⟩)
          dsimp only [Pt.U, Pt.locs, Pt.cells, Pt.slots] at X_23 l_23 y_23 z_23 st_23 hQ_23
          subst l_23 y_23 z_23
          obtain ⟨rfl, N_23q, eh_23⟩ := hQ_23
          have N_23 := Fr.app N_20 N_23q
          refine Go.tr st_23 ?_
          show Go p.tables e below P (T_23.setTop (mkF m 320 #[.val (.int p1), .val (.int p2), .val (.int p3), .val (.int p4), .val (.int p5), .val (.int p6), .val (.int (4 : Int32)), .val (.int (1 : Int32)), .val (.long j21), .second, .val (.long j34), .second, .val (.long j48), .second, .val (.long j62), .second, .val (.double d71), .second, .val (.ref y1), .val (.ref y2), .val (.ref b_19), .val (.double d302), .second] [(.double d216)]))
          refine Go.step (fun t k => XS.dload X_23.here hx rfl (hb hby at_320) rfl  k) ?_
          show Go p.tables e below P (T_23.setTop (mkF m 322 #[.val (.int p1), .val (.int p2), .val (.int p3), .val (.int p4), .val (.int p5), .val (.int p6), .val (.int (4 : Int32)), .val (.int (1 : Int32)), .val (.long j21), .second, .val (.long j34), .second, .val (.long j48), .second, .val (.long j62), .second, .val (.double d71), .second, .val (.ref y1), .val (.ref y2), .val (.ref b_19), .val (.double d302), .second] [(.double d302), (.double d216)]))
          refine Go.step (fun t k => XS.dcmpS X_23.here hx rfl (hb hby at_322) rfl rfl k) ?_
          show Go p.tables e below P (T_23.setTop (mkF m 323 #[.val (.int p1), .val (.int p2), .val (.int p3), .val (.int p4), .val (.int p5), .val (.int p6), .val (.int (4 : Int32)), .val (.int (1 : Int32)), .val (.long j21), .second, .val (.long j34), .second, .val (.long j48), .second, .val (.long j62), .second, .val (.double d71), .second, .val (.ref y1), .val (.ref y2), .val (.ref b_19), .val (.double d302), .second] [(.int (cmpValue (FP.dcmp d216 d302) .l))]))
          refine Go.step (fun t k => XS.ifNo X_23.here hx rfl (hb hby at_323) rfl (dcN (cd := .ne) (DE.cmp Q2 R302) (fun q => q rfl)) k) ?_
          show Go p.tables e below P (T_23.setTop (mkF m 326 #[.val (.int p1), .val (.int p2), .val (.int p3), .val (.int p4), .val (.int p5), .val (.int p6), .val (.int (4 : Int32)), .val (.int (1 : Int32)), .val (.long j21), .second, .val (.long j34), .second, .val (.long j48), .second, .val (.long j62), .second, .val (.double d71), .second, .val (.ref y1), .val (.ref y2), .val (.ref b_19), .val (.double d302), .second] []))
          refine Go.step (fun t k => XS.aload X_23.here hx rfl (hb hby at_326) rfl rfl k) ?_
          show Go p.tables e below P (T_23.setTop (mkF m 328 #[.val (.int p1), .val (.int p2), .val (.int p3), .val (.int p4), .val (.int p5), .val (.int p6), .val (.int (4 : Int32)), .val (.int (1 : Int32)), .val (.long j21), .second, .val (.long j34), .second, .val (.long j48), .second, .val (.long j62), .second, .val (.double d71), .second, .val (.ref y1), .val (.ref y2), .val (.ref b_19), .val (.double d302), .second] [(.ref b_19)]))
          refine Go.step (fun t k => XS.iload X_23.here hx rfl (hb hby at_328) rfl  k) ?_
          show Go p.tables e below P (T_23.setTop (mkF m 330 #[.val (.int p1), .val (.int p2), .val (.int p3), .val (.int p4), .val (.int p5), .val (.int p6), .val (.int (4 : Int32)), .val (.int (1 : Int32)), .val (.long j21), .second, .val (.long j34), .second, .val (.long j48), .second, .val (.long j62), .second, .val (.double d71), .second, .val (.ref y1), .val (.ref y2), .val (.ref b_19), .val (.double d302), .second] [(.int (4 : Int32)), (.ref b_19)]))
          refine Go.step (fun t k => XS.iconst X_23.here hx rfl (hb hby at_330) k) ?_
          show Go p.tables e below P (T_23.setTop (mkF m 331 #[.val (.int p1), .val (.int p2), .val (.int p3), .val (.int p4), .val (.int p5), .val (.int p6), .val (.int (4 : Int32)), .val (.int (1 : Int32)), .val (.long j21), .second, .val (.long j34), .second, .val (.long j48), .second, .val (.long j62), .second, .val (.double d71), .second, .val (.ref y1), .val (.ref y2), .val (.ref b_19), .val (.double d302), .second] [(.int (1 : Int32)), (.int (4 : Int32)), (.ref b_19)]))
          obtain ⟨jm, hjm⟩ : ∃ z : Int32, (4 : Int32) - (1 : Int32) = z := ⟨_, rfl⟩
          refine Go.step (fun t k => isub_v X_23.here hx rfl (hb hby at_331) rfl  hjm k) ?_
          show Go p.tables e below P (T_23.setTop (mkF m 332 #[.val (.int p1), .val (.int p2), .val (.int p3), .val (.int p4), .val (.int p5), .val (.int p6), .val (.int (4 : Int32)), .val (.int (1 : Int32)), .val (.long j21), .second, .val (.long j34), .second, .val (.long j48), .second, .val (.long j62), .second, .val (.double d71), .second, .val (.ref y1), .val (.ref y2), .val (.ref b_19), .val (.double d302), .second] [(.int jm), (.ref b_19)]))
          have ez_jm : jm = (3 : Int32) := by rw [← hjm]; rfl
          subst ez_jm
          show Go p.tables e below P (T_23.setTop (mkF m 332 #[.val (.int p1), .val (.int p2), .val (.int p3), .val (.int p4), .val (.int p5), .val (.int p6), .val (.int (4 : Int32)), .val (.int (1 : Int32)), .val (.long j21), .second, .val (.long j34), .second, .val (.long j48), .second, .val (.long j62), .second, .val (.double d71), .second, .val (.ref y1), .val (.ref y2), .val (.ref b_19), .val (.double d302), .second] [(.int (3 : Int32)), (.ref b_19)]))
          obtain ⟨cq_24, kq_24, q_24a, q_24b, q_24c⟩ := isOf hZ eh_23 (A_19.keep Kc_20)
          obtain ⟨_, _, ⟨T_24, L_24, k_24, n_24⟩, -, X_24, ⟨Lc_24, hQ_24, l_24, y_24, z_24⟩, st_24⟩ := X_23.virtualBack hx (y := (⟨"com/example/gleitfahrt/gleitfahrt/engine/ForceCurve$Table", "upperMs", "(I)D"⟩ : MethodName)) (z := (⟨"com/example/gleitfahrt/gleitfahrt/engine/ForceCurve$Table", "upperMs", "(I)D"⟩ : MethodName)) hown (mvT hZ (hw _ (List.mem_of_getElem? (i := 36) rfl))) (mvT hZ (hw _ (List.mem_of_getElem? (i := 37) rfl))) (notFace_of_selects (args := #[]) (mvT hZ (hw _ (List.mem_of_getElem? (i := 39) rfl)))) (mvT hZ (hw _ (List.mem_of_getElem? (i := 39) rfl))) (mvT hZ (hw _ (List.mem_of_getElem? (i := 38) rfl))) (by decide) (backOf (W := 0) (up4_3 l Z a0 hw [] b_19 x1 k_1 d204 d210 d216 d222 T_20.heap n0 Z_20 Fx1 Vx1) hZ (hw _ (List.mem_of_getElem? (i := 40) rfl)) (hw _ (List.mem_of_getElem? (i := 6) rfl)) (by decide) (by decide)) q_24a q_24c (g := (mkF m 332 #[.val (.int p1), .val (.int p2), .val (.int p3), .val (.int p4), .val (.int p5), .val (.int p6), .val (.int (4 : Int32)), .val (.int (1 : Int32)), .val (.long j21), .second, .val (.long j34), .second, .val (.long j48), .second, .val (.long j62), .second, .val (.double d71), .second, .val (.ref y1), .val (.ref y2), .val (.ref b_19), .val (.double d302), .second] [(.int (3 : Int32)), (.ref b_19)])) rfl (by rw [hml]; rfl) (Steps.refl _) (argsL := [(.int (3 : Int32))]) (rest := []) (lenOf pd_3 rfl) rfl (by show 2 * 0 + _ ≤ _; exact Nat.le_of_eq rfl) (hb hby at_332) (fun _ _ => ⟨rfl, eh_23, (by decide : 5 + 0 ≤ _), (by decide : 18 + 0 ≤ _)⟩)
          dsimp only [Pt.U, Pt.locs, Pt.cells, Pt.slots] at X_24 l_24 y_24 z_24 st_24 hQ_24
          subst l_24 y_24 z_24
          obtain ⟨rfl, N_24q, eh_24⟩ := hQ_24
          have N_24 := Fr.app N_23 N_24q
          refine Go.tr st_24 ?_
          show Go p.tables e below P (T_24.setTop (mkF m 335 #[.val (.int p1), .val (.int p2), .val (.int p3), .val (.int p4), .val (.int p5), .val (.int p6), .val (.int (4 : Int32)), .val (.int (1 : Int32)), .val (.long j21), .second, .val (.long j34), .second, .val (.long j48), .second, .val (.long j62), .second, .val (.double d71), .second, .val (.ref y1), .val (.ref y2), .val (.ref b_19), .val (.double d302), .second] [(.double (9218868437227405312 : UInt64))]))
          refine Go.step (fun t k => X_24.ldc2DoubleC hx hown (mvT hZ (hw _ (List.mem_of_getElem? (i := 35) rfl))) (g := (mkF m 335 #[.val (.int p1), .val (.int p2), .val (.int p3), .val (.int p4), .val (.int p5), .val (.int p6), .val (.int (4 : Int32)), .val (.int (1 : Int32)), .val (.long j21), .second, .val (.long j34), .second, .val (.long j48), .second, .val (.long j62), .second, .val (.double d71), .second, .val (.ref y1), .val (.ref y2), .val (.ref b_19), .val (.double d302), .second] [(.double (9218868437227405312 : UInt64))])) rfl (hb hby at_335) t k) ?_
          show Go p.tables e below P (T_24.setTop (mkF m 338 #[.val (.int p1), .val (.int p2), .val (.int p3), .val (.int p4), .val (.int p5), .val (.int p6), .val (.int (4 : Int32)), .val (.int (1 : Int32)), .val (.long j21), .second, .val (.long j34), .second, .val (.long j48), .second, .val (.long j62), .second, .val (.double d71), .second, .val (.ref y1), .val (.ref y2), .val (.ref b_19), .val (.double d302), .second] [(.double (9218868437227405312 : UInt64)), (.double (9218868437227405312 : UInt64))]))
          refine Go.step (fun t k => XS.dcmpS X_24.here hx rfl (hb hby at_338) rfl rfl k) ?_
          show Go p.tables e below P (T_24.setTop (mkF m 339 #[.val (.int p1), .val (.int p2), .val (.int p3), .val (.int p4), .val (.int p5), .val (.int p6), .val (.int (4 : Int32)), .val (.int (1 : Int32)), .val (.long j21), .second, .val (.long j34), .second, .val (.long j48), .second, .val (.long j62), .second, .val (.double d71), .second, .val (.ref y1), .val (.ref y2), .val (.ref b_19), .val (.double d302), .second] [(.int (cmpValue (FP.dcmp (9218868437227405312 : UInt64) (9218868437227405312 : UInt64)) .l))]))
          refine Go.step (fun t k => XS.ifNo X_24.here hx rfl (hb hby at_339) rfl (dcN (cd := .ne) (same_cmp inf_ok) (fun q => q rfl)) k) ?_
          show Go p.tables e below P (T_24.setTop (mkF m 342 #[.val (.int p1), .val (.int p2), .val (.int p3), .val (.int p4), .val (.int p5), .val (.int p6), .val (.int (4 : Int32)), .val (.int (1 : Int32)), .val (.long j21), .second, .val (.long j34), .second, .val (.long j48), .second, .val (.long j62), .second, .val (.double d71), .second, .val (.ref y1), .val (.ref y2), .val (.ref b_19), .val (.double d302), .second] []))
          refine Go.step (fun t k => XS.iconst X_24.here hx rfl (hb hby at_342) k) ?_
          show Go p.tables e below P (T_24.setTop (mkF m 343 #[.val (.int p1), .val (.int p2), .val (.int p3), .val (.int p4), .val (.int p5), .val (.int p6), .val (.int (4 : Int32)), .val (.int (1 : Int32)), .val (.long j21), .second, .val (.long j34), .second, .val (.long j48), .second, .val (.long j62), .second, .val (.double d71), .second, .val (.ref y1), .val (.ref y2), .val (.ref b_19), .val (.double d302), .second] [(.int (1 : Int32))]))
          refine Go.step (fun t k => XS.goto X_24.here hx rfl (pc0 := 343) (pc' := 347) rfl (hb hby at_343) (by decide) (by decide) k) ?_
          show Go p.tables e below P (T_24.setTop (mkF m 347 #[.val (.int p1), .val (.int p2), .val (.int p3), .val (.int p4), .val (.int p5), .val (.int p6), .val (.int (4 : Int32)), .val (.int (1 : Int32)), .val (.long j21), .second, .val (.long j34), .second, .val (.long j48), .second, .val (.long j62), .second, .val (.double d71), .second, .val (.ref y1), .val (.ref y2), .val (.ref b_19), .val (.double d302), .second] [(.int (1 : Int32))]))
          exact retGo X_24 hx hP Bd.returns hlk rfl (Or.inl ⟨rfl, Or.inr (Or.inl rfl), _, rfl⟩) (hb hby at_347) (by decide) (by decide) (by rw [eh_24]; exact ⟨rfl, N_24⟩)
        · subst ej13
          show Go p.tables e below P (T_20.setTop (mkF m 264 #[.val (.int p1), .val (.int p2), .val (.int p3), .val (.int p4), .val (.int p5), .val (.int p6), .val (.int (4 : Int32)), .val (.int (2 : Int32)), .val (.long j21), .second, .val (.long j34), .second, .val (.long j48), .second, .val (.long j62), .second, .val (.double d71), .second, .val (.ref y1), .val (.ref y2), .val (.ref b_19), .unset, .unset] []))
          refine Go.step (fun t k => XS.iload X_20.here hx rfl (hb hby at_264) rfl  k) ?_
          show Go p.tables e below P (T_20.setTop (mkF m 266 #[.val (.int p1), .val (.int p2), .val (.int p3), .val (.int p4), .val (.int p5), .val (.int p6), .val (.int (4 : Int32)), .val (.int (2 : Int32)), .val (.long j21), .second, .val (.long j34), .second, .val (.long j48), .second, .val (.long j62), .second, .val (.double d71), .second, .val (.ref y1), .val (.ref y2), .val (.ref b_19), .unset, .unset] [(.int (2 : Int32))]))
          refine Go.step (fun t k => XS.iconst X_20.here hx rfl (hb hby at_266) k) ?_
          show Go p.tables e below P (T_20.setTop (mkF m 267 #[.val (.int p1), .val (.int p2), .val (.int p3), .val (.int p4), .val (.int p5), .val (.int p6), .val (.int (4 : Int32)), .val (.int (2 : Int32)), .val (.long j21), .second, .val (.long j34), .second, .val (.long j48), .second, .val (.long j62), .second, .val (.double d71), .second, .val (.ref y1), .val (.ref y2), .val (.ref b_19), .unset, .unset] [(.int (1 : Int32)), (.int (2 : Int32))]))
          obtain ⟨ja, hja⟩ : ∃ z : Int32, (2 : Int32) + (1 : Int32) = z := ⟨_, rfl⟩
          refine Go.step (fun t k => iadd_v X_20.here hx rfl (hb hby at_267) rfl  hja k) ?_
          show Go p.tables e below P (T_20.setTop (mkF m 268 #[.val (.int p1), .val (.int p2), .val (.int p3), .val (.int p4), .val (.int p5), .val (.int p6), .val (.int (4 : Int32)), .val (.int (2 : Int32)), .val (.long j21), .second, .val (.long j34), .second, .val (.long j48), .second, .val (.long j62), .second, .val (.double d71), .second, .val (.ref y1), .val (.ref y2), .val (.ref b_19), .unset, .unset] [(.int ja)]))
          have ez_ja : ja = (3 : Int32) := by rw [← hja]; rfl
          subst ez_ja
          show Go p.tables e below P (T_20.setTop (mkF m 268 #[.val (.int p1), .val (.int p2), .val (.int p3), .val (.int p4), .val (.int p5), .val (.int p6), .val (.int (4 : Int32)), .val (.int (2 : Int32)), .val (.long j21), .second, .val (.long j34), .second, .val (.long j48), .second, .val (.long j62), .second, .val (.double d71), .second, .val (.ref y1), .val (.ref y2), .val (.ref b_19), .unset, .unset] [(.int (3 : Int32))]))
          refine Go.step (fun t k => XS.iload X_20.here hx rfl (hb hby at_268) rfl  k) ?_
          show Go p.tables e below P (T_20.setTop (mkF m 270 #[.val (.int p1), .val (.int p2), .val (.int p3), .val (.int p4), .val (.int p5), .val (.int p6), .val (.int (4 : Int32)), .val (.int (2 : Int32)), .val (.long j21), .second, .val (.long j34), .second, .val (.long j48), .second, .val (.long j62), .second, .val (.double d71), .second, .val (.ref y1), .val (.ref y2), .val (.ref b_19), .unset, .unset] [(.int (4 : Int32)), (.int (3 : Int32))]))
          refine Go.step (fun t k => XS.icmpYes X_20.here hx rfl (pc0 := 270) (pc' := 281) rfl (hb hby at_270) rfl (icY (cd := .lt) (by decide : (3 : Int) < (4 : Int))) (by decide) (by decide) k) ?_
          show Go p.tables e below P (T_20.setTop (mkF m 281 #[.val (.int p1), .val (.int p2), .val (.int p3), .val (.int p4), .val (.int p5), .val (.int p6), .val (.int (4 : Int32)), .val (.int (2 : Int32)), .val (.long j21), .second, .val (.long j34), .second, .val (.long j48), .second, .val (.long j62), .second, .val (.double d71), .second, .val (.ref y1), .val (.ref y2), .val (.ref b_19), .unset, .unset] []))
          refine Go.step (fun t k => XS.iload X_20.here hx rfl (hb hby at_281) rfl  k) ?_
          show Go p.tables e below P (T_20.setTop (mkF m 283 #[.val (.int p1), .val (.int p2), .val (.int p3), .val (.int p4), .val (.int p5), .val (.int p6), .val (.int (4 : Int32)), .val (.int (2 : Int32)), .val (.long j21), .second, .val (.long j34), .second, .val (.long j48), .second, .val (.long j62), .second, .val (.double d71), .second, .val (.ref y1), .val (.ref y2), .val (.ref b_19), .unset, .unset] [(.int (2 : Int32))]))
          refine Go.step (fun t k => XS.ifYes X_20.here hx rfl (pc0 := 283) (pc' := 294) rfl (hb hby at_283) rfl (ifY (cd := .ne) (by decide : ¬ (2 : Int) = 0)) (by decide) (by decide) k) ?_
          show Go p.tables e below P (T_20.setTop (mkF m 294 #[.val (.int p1), .val (.int p2), .val (.int p3), .val (.int p4), .val (.int p5), .val (.int p6), .val (.int (4 : Int32)), .val (.int (2 : Int32)), .val (.long j21), .second, .val (.long j34), .second, .val (.long j48), .second, .val (.long j62), .second, .val (.double d71), .second, .val (.ref y1), .val (.ref y2), .val (.ref b_19), .unset, .unset] []))
          refine Go.step (fun t k => XS.iload X_20.here hx rfl (hb hby at_294) rfl  k) ?_
          show Go p.tables e below P (T_20.setTop (mkF m 296 #[.val (.int p1), .val (.int p2), .val (.int p3), .val (.int p4), .val (.int p5), .val (.int p6), .val (.int (4 : Int32)), .val (.int (2 : Int32)), .val (.long j21), .second, .val (.long j34), .second, .val (.long j48), .second, .val (.long j62), .second, .val (.double d71), .second, .val (.ref y1), .val (.ref y2), .val (.ref b_19), .unset, .unset] [(.int (2 : Int32))]))
          refine Go.step (fun t k => XS.iconst X_20.here hx rfl (hb hby at_296) k) ?_
          show Go p.tables e below P (T_20.setTop (mkF m 297 #[.val (.int p1), .val (.int p2), .val (.int p3), .val (.int p4), .val (.int p5), .val (.int p6), .val (.int (4 : Int32)), .val (.int (2 : Int32)), .val (.long j21), .second, .val (.long j34), .second, .val (.long j48), .second, .val (.long j62), .second, .val (.double d71), .second, .val (.ref y1), .val (.ref y2), .val (.ref b_19), .unset, .unset] [(.int (1 : Int32)), (.int (2 : Int32))]))
          refine Go.step (fun t k => XS.icmpYes X_20.here hx rfl (pc0 := 297) (pc' := 308) rfl (hb hby at_297) rfl (icY (cd := .ne) (by decide : ¬ (2 : Int) = (1 : Int))) (by decide) (by decide) k) ?_
          show Go p.tables e below P (T_20.setTop (mkF m 308 #[.val (.int p1), .val (.int p2), .val (.int p3), .val (.int p4), .val (.int p5), .val (.int p6), .val (.int (4 : Int32)), .val (.int (2 : Int32)), .val (.long j21), .second, .val (.long j34), .second, .val (.long j48), .second, .val (.long j62), .second, .val (.double d71), .second, .val (.ref y1), .val (.ref y2), .val (.ref b_19), .unset, .unset] []))
          refine Go.step (fun t k => XS.lload X_20.here hx rfl (hb hby at_308) rfl  k) ?_
          show Go p.tables e below P (T_20.setTop (mkF m 310 #[.val (.int p1), .val (.int p2), .val (.int p3), .val (.int p4), .val (.int p5), .val (.int p6), .val (.int (4 : Int32)), .val (.int (2 : Int32)), .val (.long j21), .second, .val (.long j34), .second, .val (.long j48), .second, .val (.long j62), .second, .val (.double d71), .second, .val (.ref y1), .val (.ref y2), .val (.ref b_19), .unset, .unset] [(.long j62)]))
          obtain ⟨d310, hd310⟩ : ∃ z : UInt64, FP.l2d j62 = z := ⟨_, rfl⟩
          refine Go.step (fun t k => XS.l2dS X_20.here hx rfl (hb hby at_310) rfl hd310 k) ?_
          show Go p.tables e below P (T_20.setTop (mkF m 311 #[.val (.int p1), .val (.int p2), .val (.int p3), .val (.int p4), .val (.int p5), .val (.int p6), .val (.int (4 : Int32)), .val (.int (2 : Int32)), .val (.long j21), .second, .val (.long j34), .second, .val (.long j48), .second, .val (.long j62), .second, .val (.double d71), .second, .val (.ref y1), .val (.ref y2), .val (.ref b_19), .unset, .unset] [(.double d310)]))
          have R310 := l2d_e (x := j62) (by omega); rw [hd310] at R310
          refine Go.step (fun t k => XS.dstore X_20.here hx rfl (hb hby at_311) rfl (l' := #[.val (.int p1), .val (.int p2), .val (.int p3), .val (.int p4), .val (.int p5), .val (.int p6), .val (.int (4 : Int32)), .val (.int (2 : Int32)), .val (.long j21), .second, .val (.long j34), .second, .val (.long j48), .second, .val (.long j62), .second, .val (.double d71), .second, .val (.ref y1), .val (.ref y2), .val (.ref b_19), .val (.double d310), .second]) rfl k) ?_
          show Go p.tables e below P (T_20.setTop (mkF m 313 #[.val (.int p1), .val (.int p2), .val (.int p3), .val (.int p4), .val (.int p5), .val (.int p6), .val (.int (4 : Int32)), .val (.int (2 : Int32)), .val (.long j21), .second, .val (.long j34), .second, .val (.long j48), .second, .val (.long j62), .second, .val (.double d71), .second, .val (.ref y1), .val (.ref y2), .val (.ref b_19), .val (.double d310), .second] []))
          refine Go.step (fun t k => XS.aload X_20.here hx rfl (hb hby at_313) rfl rfl k) ?_
          show Go p.tables e below P (T_20.setTop (mkF m 315 #[.val (.int p1), .val (.int p2), .val (.int p3), .val (.int p4), .val (.int p5), .val (.int p6), .val (.int (4 : Int32)), .val (.int (2 : Int32)), .val (.long j21), .second, .val (.long j34), .second, .val (.long j48), .second, .val (.long j62), .second, .val (.double d71), .second, .val (.ref y1), .val (.ref y2), .val (.ref b_19), .val (.double d310), .second] [(.ref b_19)]))
          refine Go.step (fun t k => XS.iload X_20.here hx rfl (hb hby at_315) rfl  k) ?_
          show Go p.tables e below P (T_20.setTop (mkF m 317 #[.val (.int p1), .val (.int p2), .val (.int p3), .val (.int p4), .val (.int p5), .val (.int p6), .val (.int (4 : Int32)), .val (.int (2 : Int32)), .val (.long j21), .second, .val (.long j34), .second, .val (.long j48), .second, .val (.long j62), .second, .val (.double d71), .second, .val (.ref y1), .val (.ref y2), .val (.ref b_19), .val (.double d310), .second] [(.int (2 : Int32)), (.ref b_19)]))
          obtain ⟨cq_25, kq_25, q_25a, q_25b, q_25c⟩ := isOf hZ rfl (A_19.keep Kc_20)
          obtain ⟨_, _, ⟨T_25, L_25, k_25, n_25⟩, -, X_25, ⟨Lc_25, hQ_25, l_25, y_25, z_25⟩, st_25⟩ := X_20.virtualBack hx (y := (⟨"com/example/gleitfahrt/gleitfahrt/engine/ForceCurve$Table", "upperMs", "(I)D"⟩ : MethodName)) (z := (⟨"com/example/gleitfahrt/gleitfahrt/engine/ForceCurve$Table", "upperMs", "(I)D"⟩ : MethodName)) hown (mvT hZ (hw _ (List.mem_of_getElem? (i := 36) rfl))) (mvT hZ (hw _ (List.mem_of_getElem? (i := 37) rfl))) (notFace_of_selects (args := #[]) (mvT hZ (hw _ (List.mem_of_getElem? (i := 39) rfl)))) (mvT hZ (hw _ (List.mem_of_getElem? (i := 39) rfl))) (mvT hZ (hw _ (List.mem_of_getElem? (i := 38) rfl))) (by decide) (backOf (W := 0) (up4_2 l Z a0 hw [] b_19 x1 k_1 d204 d210 d216 d222 T_20.heap n0 Z_20 Fx1 Vx1) hZ (hw _ (List.mem_of_getElem? (i := 40) rfl)) (hw _ (List.mem_of_getElem? (i := 6) rfl)) (by decide) (by decide)) q_25a q_25c (g := (mkF m 317 #[.val (.int p1), .val (.int p2), .val (.int p3), .val (.int p4), .val (.int p5), .val (.int p6), .val (.int (4 : Int32)), .val (.int (2 : Int32)), .val (.long j21), .second, .val (.long j34), .second, .val (.long j48), .second, .val (.long j62), .second, .val (.double d71), .second, .val (.ref y1), .val (.ref y2), .val (.ref b_19), .val (.double d310), .second] [(.int (2 : Int32)), (.ref b_19)])) rfl (by rw [hml]; rfl) (Steps.refl _) (argsL := [(.int (2 : Int32))]) (rest := []) (lenOf pd_3 rfl) rfl (by show 2 * 0 + _ ≤ _; exact Nat.le_of_eq rfl) (hb hby at_317) (fun _ _ => ⟨rfl, rfl, (by decide : 5 + 0 ≤ _), (by decide : 18 + 0 ≤ _)⟩)
          dsimp only [Pt.U, Pt.locs, Pt.cells, Pt.slots] at X_25 l_25 y_25 z_25 st_25 hQ_25
          subst l_25 y_25 z_25
          obtain ⟨rfl, N_25q, eh_25⟩ := hQ_25
          have N_25 := Fr.app N_20 N_25q
          refine Go.tr st_25 ?_
          show Go p.tables e below P (T_25.setTop (mkF m 320 #[.val (.int p1), .val (.int p2), .val (.int p3), .val (.int p4), .val (.int p5), .val (.int p6), .val (.int (4 : Int32)), .val (.int (2 : Int32)), .val (.long j21), .second, .val (.long j34), .second, .val (.long j48), .second, .val (.long j62), .second, .val (.double d71), .second, .val (.ref y1), .val (.ref y2), .val (.ref b_19), .val (.double d310), .second] [(.double d222)]))
          refine Go.step (fun t k => XS.dload X_25.here hx rfl (hb hby at_320) rfl  k) ?_
          show Go p.tables e below P (T_25.setTop (mkF m 322 #[.val (.int p1), .val (.int p2), .val (.int p3), .val (.int p4), .val (.int p5), .val (.int p6), .val (.int (4 : Int32)), .val (.int (2 : Int32)), .val (.long j21), .second, .val (.long j34), .second, .val (.long j48), .second, .val (.long j62), .second, .val (.double d71), .second, .val (.ref y1), .val (.ref y2), .val (.ref b_19), .val (.double d310), .second] [(.double d310), (.double d222)]))
          refine Go.step (fun t k => XS.dcmpS X_25.here hx rfl (hb hby at_322) rfl rfl k) ?_
          show Go p.tables e below P (T_25.setTop (mkF m 323 #[.val (.int p1), .val (.int p2), .val (.int p3), .val (.int p4), .val (.int p5), .val (.int p6), .val (.int (4 : Int32)), .val (.int (2 : Int32)), .val (.long j21), .second, .val (.long j34), .second, .val (.long j48), .second, .val (.long j62), .second, .val (.double d71), .second, .val (.ref y1), .val (.ref y2), .val (.ref b_19), .val (.double d310), .second] [(.int (cmpValue (FP.dcmp d222 d310) .l))]))
          refine Go.step (fun t k => XS.ifNo X_25.here hx rfl (hb hby at_323) rfl (dcN (cd := .ne) (DE.cmp Q3 R310) (fun q => q rfl)) k) ?_
          show Go p.tables e below P (T_25.setTop (mkF m 326 #[.val (.int p1), .val (.int p2), .val (.int p3), .val (.int p4), .val (.int p5), .val (.int p6), .val (.int (4 : Int32)), .val (.int (2 : Int32)), .val (.long j21), .second, .val (.long j34), .second, .val (.long j48), .second, .val (.long j62), .second, .val (.double d71), .second, .val (.ref y1), .val (.ref y2), .val (.ref b_19), .val (.double d310), .second] []))
          refine Go.step (fun t k => XS.aload X_25.here hx rfl (hb hby at_326) rfl rfl k) ?_
          show Go p.tables e below P (T_25.setTop (mkF m 328 #[.val (.int p1), .val (.int p2), .val (.int p3), .val (.int p4), .val (.int p5), .val (.int p6), .val (.int (4 : Int32)), .val (.int (2 : Int32)), .val (.long j21), .second, .val (.long j34), .second, .val (.long j48), .second, .val (.long j62), .second, .val (.double d71), .second, .val (.ref y1), .val (.ref y2), .val (.ref b_19), .val (.double d310), .second] [(.ref b_19)]))
          refine Go.step (fun t k => XS.iload X_25.here hx rfl (hb hby at_328) rfl  k) ?_
          show Go p.tables e below P (T_25.setTop (mkF m 330 #[.val (.int p1), .val (.int p2), .val (.int p3), .val (.int p4), .val (.int p5), .val (.int p6), .val (.int (4 : Int32)), .val (.int (2 : Int32)), .val (.long j21), .second, .val (.long j34), .second, .val (.long j48), .second, .val (.long j62), .second, .val (.double d71), .second, .val (.ref y1), .val (.ref y2), .val (.ref b_19), .val (.double d310), .second] [(.int (4 : Int32)), (.ref b_19)]))
          refine Go.step (fun t k => XS.iconst X_25.here hx rfl (hb hby at_330) k) ?_
          show Go p.tables e below P (T_25.setTop (mkF m 331 #[.val (.int p1), .val (.int p2), .val (.int p3), .val (.int p4), .val (.int p5), .val (.int p6), .val (.int (4 : Int32)), .val (.int (2 : Int32)), .val (.long j21), .second, .val (.long j34), .second, .val (.long j48), .second, .val (.long j62), .second, .val (.double d71), .second, .val (.ref y1), .val (.ref y2), .val (.ref b_19), .val (.double d310), .second] [(.int (1 : Int32)), (.int (4 : Int32)), (.ref b_19)]))
          obtain ⟨jm, hjm⟩ : ∃ z : Int32, (4 : Int32) - (1 : Int32) = z := ⟨_, rfl⟩
          refine Go.step (fun t k => isub_v X_25.here hx rfl (hb hby at_331) rfl  hjm k) ?_
          show Go p.tables e below P (T_25.setTop (mkF m 332 #[.val (.int p1), .val (.int p2), .val (.int p3), .val (.int p4), .val (.int p5), .val (.int p6), .val (.int (4 : Int32)), .val (.int (2 : Int32)), .val (.long j21), .second, .val (.long j34), .second, .val (.long j48), .second, .val (.long j62), .second, .val (.double d71), .second, .val (.ref y1), .val (.ref y2), .val (.ref b_19), .val (.double d310), .second] [(.int jm), (.ref b_19)]))
          have ez_jm : jm = (3 : Int32) := by rw [← hjm]; rfl
          subst ez_jm
          show Go p.tables e below P (T_25.setTop (mkF m 332 #[.val (.int p1), .val (.int p2), .val (.int p3), .val (.int p4), .val (.int p5), .val (.int p6), .val (.int (4 : Int32)), .val (.int (2 : Int32)), .val (.long j21), .second, .val (.long j34), .second, .val (.long j48), .second, .val (.long j62), .second, .val (.double d71), .second, .val (.ref y1), .val (.ref y2), .val (.ref b_19), .val (.double d310), .second] [(.int (3 : Int32)), (.ref b_19)]))
          obtain ⟨cq_26, kq_26, q_26a, q_26b, q_26c⟩ := isOf hZ eh_25 (A_19.keep Kc_20)
          obtain ⟨_, _, ⟨T_26, L_26, k_26, n_26⟩, -, X_26, ⟨Lc_26, hQ_26, l_26, y_26, z_26⟩, st_26⟩ := X_25.virtualBack hx (y := (⟨"com/example/gleitfahrt/gleitfahrt/engine/ForceCurve$Table", "upperMs", "(I)D"⟩ : MethodName)) (z := (⟨"com/example/gleitfahrt/gleitfahrt/engine/ForceCurve$Table", "upperMs", "(I)D"⟩ : MethodName)) hown (mvT hZ (hw _ (List.mem_of_getElem? (i := 36) rfl))) (mvT hZ (hw _ (List.mem_of_getElem? (i := 37) rfl))) (notFace_of_selects (args := #[]) (mvT hZ (hw _ (List.mem_of_getElem? (i := 39) rfl)))) (mvT hZ (hw _ (List.mem_of_getElem? (i := 39) rfl))) (mvT hZ (hw _ (List.mem_of_getElem? (i := 38) rfl))) (by decide) (backOf (W := 0) (up4_3 l Z a0 hw [] b_19 x1 k_1 d204 d210 d216 d222 T_20.heap n0 Z_20 Fx1 Vx1) hZ (hw _ (List.mem_of_getElem? (i := 40) rfl)) (hw _ (List.mem_of_getElem? (i := 6) rfl)) (by decide) (by decide)) q_26a q_26c (g := (mkF m 332 #[.val (.int p1), .val (.int p2), .val (.int p3), .val (.int p4), .val (.int p5), .val (.int p6), .val (.int (4 : Int32)), .val (.int (2 : Int32)), .val (.long j21), .second, .val (.long j34), .second, .val (.long j48), .second, .val (.long j62), .second, .val (.double d71), .second, .val (.ref y1), .val (.ref y2), .val (.ref b_19), .val (.double d310), .second] [(.int (3 : Int32)), (.ref b_19)])) rfl (by rw [hml]; rfl) (Steps.refl _) (argsL := [(.int (3 : Int32))]) (rest := []) (lenOf pd_3 rfl) rfl (by show 2 * 0 + _ ≤ _; exact Nat.le_of_eq rfl) (hb hby at_332) (fun _ _ => ⟨rfl, eh_25, (by decide : 5 + 0 ≤ _), (by decide : 18 + 0 ≤ _)⟩)
          dsimp only [Pt.U, Pt.locs, Pt.cells, Pt.slots] at X_26 l_26 y_26 z_26 st_26 hQ_26
          subst l_26 y_26 z_26
          obtain ⟨rfl, N_26q, eh_26⟩ := hQ_26
          have N_26 := Fr.app N_25 N_26q
          refine Go.tr st_26 ?_
          show Go p.tables e below P (T_26.setTop (mkF m 335 #[.val (.int p1), .val (.int p2), .val (.int p3), .val (.int p4), .val (.int p5), .val (.int p6), .val (.int (4 : Int32)), .val (.int (2 : Int32)), .val (.long j21), .second, .val (.long j34), .second, .val (.long j48), .second, .val (.long j62), .second, .val (.double d71), .second, .val (.ref y1), .val (.ref y2), .val (.ref b_19), .val (.double d310), .second] [(.double (9218868437227405312 : UInt64))]))
          refine Go.step (fun t k => X_26.ldc2DoubleC hx hown (mvT hZ (hw _ (List.mem_of_getElem? (i := 35) rfl))) (g := (mkF m 335 #[.val (.int p1), .val (.int p2), .val (.int p3), .val (.int p4), .val (.int p5), .val (.int p6), .val (.int (4 : Int32)), .val (.int (2 : Int32)), .val (.long j21), .second, .val (.long j34), .second, .val (.long j48), .second, .val (.long j62), .second, .val (.double d71), .second, .val (.ref y1), .val (.ref y2), .val (.ref b_19), .val (.double d310), .second] [(.double (9218868437227405312 : UInt64))])) rfl (hb hby at_335) t k) ?_
          show Go p.tables e below P (T_26.setTop (mkF m 338 #[.val (.int p1), .val (.int p2), .val (.int p3), .val (.int p4), .val (.int p5), .val (.int p6), .val (.int (4 : Int32)), .val (.int (2 : Int32)), .val (.long j21), .second, .val (.long j34), .second, .val (.long j48), .second, .val (.long j62), .second, .val (.double d71), .second, .val (.ref y1), .val (.ref y2), .val (.ref b_19), .val (.double d310), .second] [(.double (9218868437227405312 : UInt64)), (.double (9218868437227405312 : UInt64))]))
          refine Go.step (fun t k => XS.dcmpS X_26.here hx rfl (hb hby at_338) rfl rfl k) ?_
          show Go p.tables e below P (T_26.setTop (mkF m 339 #[.val (.int p1), .val (.int p2), .val (.int p3), .val (.int p4), .val (.int p5), .val (.int p6), .val (.int (4 : Int32)), .val (.int (2 : Int32)), .val (.long j21), .second, .val (.long j34), .second, .val (.long j48), .second, .val (.long j62), .second, .val (.double d71), .second, .val (.ref y1), .val (.ref y2), .val (.ref b_19), .val (.double d310), .second] [(.int (cmpValue (FP.dcmp (9218868437227405312 : UInt64) (9218868437227405312 : UInt64)) .l))]))
          refine Go.step (fun t k => XS.ifNo X_26.here hx rfl (hb hby at_339) rfl (dcN (cd := .ne) (same_cmp inf_ok) (fun q => q rfl)) k) ?_
          show Go p.tables e below P (T_26.setTop (mkF m 342 #[.val (.int p1), .val (.int p2), .val (.int p3), .val (.int p4), .val (.int p5), .val (.int p6), .val (.int (4 : Int32)), .val (.int (2 : Int32)), .val (.long j21), .second, .val (.long j34), .second, .val (.long j48), .second, .val (.long j62), .second, .val (.double d71), .second, .val (.ref y1), .val (.ref y2), .val (.ref b_19), .val (.double d310), .second] []))
          refine Go.step (fun t k => XS.iconst X_26.here hx rfl (hb hby at_342) k) ?_
          show Go p.tables e below P (T_26.setTop (mkF m 343 #[.val (.int p1), .val (.int p2), .val (.int p3), .val (.int p4), .val (.int p5), .val (.int p6), .val (.int (4 : Int32)), .val (.int (2 : Int32)), .val (.long j21), .second, .val (.long j34), .second, .val (.long j48), .second, .val (.long j62), .second, .val (.double d71), .second, .val (.ref y1), .val (.ref y2), .val (.ref b_19), .val (.double d310), .second] [(.int (1 : Int32))]))
          refine Go.step (fun t k => XS.goto X_26.here hx rfl (pc0 := 343) (pc' := 347) rfl (hb hby at_343) (by decide) (by decide) k) ?_
          show Go p.tables e below P (T_26.setTop (mkF m 347 #[.val (.int p1), .val (.int p2), .val (.int p3), .val (.int p4), .val (.int p5), .val (.int p6), .val (.int (4 : Int32)), .val (.int (2 : Int32)), .val (.long j21), .second, .val (.long j34), .second, .val (.long j48), .second, .val (.long j62), .second, .val (.double d71), .second, .val (.ref y1), .val (.ref y2), .val (.ref b_19), .val (.double d310), .second] [(.int (1 : Int32))]))
          exact retGo X_26 hx hP Bd.returns hlk rfl (Or.inl ⟨rfl, Or.inr (Or.inl rfl), _, rfl⟩) (hb hby at_347) (by decide) (by decide) (by rw [eh_26]; exact ⟨rfl, N_26⟩)
        · subst ej13
          show Go p.tables e below P (T_20.setTop (mkF m 264 #[.val (.int p1), .val (.int p2), .val (.int p3), .val (.int p4), .val (.int p5), .val (.int p6), .val (.int (4 : Int32)), .val (.int (3 : Int32)), .val (.long j21), .second, .val (.long j34), .second, .val (.long j48), .second, .val (.long j62), .second, .val (.double d71), .second, .val (.ref y1), .val (.ref y2), .val (.ref b_19), .unset, .unset] []))
          refine Go.step (fun t k => XS.iload X_20.here hx rfl (hb hby at_264) rfl  k) ?_
          show Go p.tables e below P (T_20.setTop (mkF m 266 #[.val (.int p1), .val (.int p2), .val (.int p3), .val (.int p4), .val (.int p5), .val (.int p6), .val (.int (4 : Int32)), .val (.int (3 : Int32)), .val (.long j21), .second, .val (.long j34), .second, .val (.long j48), .second, .val (.long j62), .second, .val (.double d71), .second, .val (.ref y1), .val (.ref y2), .val (.ref b_19), .unset, .unset] [(.int (3 : Int32))]))
          refine Go.step (fun t k => XS.iconst X_20.here hx rfl (hb hby at_266) k) ?_
          show Go p.tables e below P (T_20.setTop (mkF m 267 #[.val (.int p1), .val (.int p2), .val (.int p3), .val (.int p4), .val (.int p5), .val (.int p6), .val (.int (4 : Int32)), .val (.int (3 : Int32)), .val (.long j21), .second, .val (.long j34), .second, .val (.long j48), .second, .val (.long j62), .second, .val (.double d71), .second, .val (.ref y1), .val (.ref y2), .val (.ref b_19), .unset, .unset] [(.int (1 : Int32)), (.int (3 : Int32))]))
          obtain ⟨ja, hja⟩ : ∃ z : Int32, (3 : Int32) + (1 : Int32) = z := ⟨_, rfl⟩
          refine Go.step (fun t k => iadd_v X_20.here hx rfl (hb hby at_267) rfl  hja k) ?_
          show Go p.tables e below P (T_20.setTop (mkF m 268 #[.val (.int p1), .val (.int p2), .val (.int p3), .val (.int p4), .val (.int p5), .val (.int p6), .val (.int (4 : Int32)), .val (.int (3 : Int32)), .val (.long j21), .second, .val (.long j34), .second, .val (.long j48), .second, .val (.long j62), .second, .val (.double d71), .second, .val (.ref y1), .val (.ref y2), .val (.ref b_19), .unset, .unset] [(.int ja)]))
          have ez_ja : ja = (4 : Int32) := by rw [← hja]; rfl
          subst ez_ja
          show Go p.tables e below P (T_20.setTop (mkF m 268 #[.val (.int p1), .val (.int p2), .val (.int p3), .val (.int p4), .val (.int p5), .val (.int p6), .val (.int (4 : Int32)), .val (.int (3 : Int32)), .val (.long j21), .second, .val (.long j34), .second, .val (.long j48), .second, .val (.long j62), .second, .val (.double d71), .second, .val (.ref y1), .val (.ref y2), .val (.ref b_19), .unset, .unset] [(.int (4 : Int32))]))
          refine Go.step (fun t k => XS.iload X_20.here hx rfl (hb hby at_268) rfl  k) ?_
          show Go p.tables e below P (T_20.setTop (mkF m 270 #[.val (.int p1), .val (.int p2), .val (.int p3), .val (.int p4), .val (.int p5), .val (.int p6), .val (.int (4 : Int32)), .val (.int (3 : Int32)), .val (.long j21), .second, .val (.long j34), .second, .val (.long j48), .second, .val (.long j62), .second, .val (.double d71), .second, .val (.ref y1), .val (.ref y2), .val (.ref b_19), .unset, .unset] [(.int (4 : Int32)), (.int (4 : Int32))]))
          refine Go.step (fun t k => XS.icmpNo X_20.here hx rfl (hb hby at_270) rfl (icN (cd := .lt) (by decide : ¬ ((4 : Int) < (4 : Int)))) k) ?_
          show Go p.tables e below P (T_20.setTop (mkF m 273 #[.val (.int p1), .val (.int p2), .val (.int p3), .val (.int p4), .val (.int p5), .val (.int p6), .val (.int (4 : Int32)), .val (.int (3 : Int32)), .val (.long j21), .second, .val (.long j34), .second, .val (.long j48), .second, .val (.long j62), .second, .val (.double d71), .second, .val (.ref y1), .val (.ref y2), .val (.ref b_19), .unset, .unset] []))
          refine Go.step (fun t k => X_20.ldc2DoubleC hx hown (mvT hZ (hw _ (List.mem_of_getElem? (i := 35) rfl))) (g := (mkF m 273 #[.val (.int p1), .val (.int p2), .val (.int p3), .val (.int p4), .val (.int p5), .val (.int p6), .val (.int (4 : Int32)), .val (.int (3 : Int32)), .val (.long j21), .second, .val (.long j34), .second, .val (.long j48), .second, .val (.long j62), .second, .val (.double d71), .second, .val (.ref y1), .val (.ref y2), .val (.ref b_19), .unset, .unset] [])) rfl (hb hby at_273) t k) ?_
          show Go p.tables e below P (T_20.setTop (mkF m 276 #[.val (.int p1), .val (.int p2), .val (.int p3), .val (.int p4), .val (.int p5), .val (.int p6), .val (.int (4 : Int32)), .val (.int (3 : Int32)), .val (.long j21), .second, .val (.long j34), .second, .val (.long j48), .second, .val (.long j62), .second, .val (.double d71), .second, .val (.ref y1), .val (.ref y2), .val (.ref b_19), .unset, .unset] [(.double (9218868437227405312 : UInt64))]))
          refine Go.step (fun t k => XS.dstore X_20.here hx rfl (hb hby at_276) rfl (l' := #[.val (.int p1), .val (.int p2), .val (.int p3), .val (.int p4), .val (.int p5), .val (.int p6), .val (.int (4 : Int32)), .val (.int (3 : Int32)), .val (.long j21), .second, .val (.long j34), .second, .val (.long j48), .second, .val (.long j62), .second, .val (.double d71), .second, .val (.ref y1), .val (.ref y2), .val (.ref b_19), .val (.double (9218868437227405312 : UInt64)), .second]) rfl k) ?_
          show Go p.tables e below P (T_20.setTop (mkF m 278 #[.val (.int p1), .val (.int p2), .val (.int p3), .val (.int p4), .val (.int p5), .val (.int p6), .val (.int (4 : Int32)), .val (.int (3 : Int32)), .val (.long j21), .second, .val (.long j34), .second, .val (.long j48), .second, .val (.long j62), .second, .val (.double d71), .second, .val (.ref y1), .val (.ref y2), .val (.ref b_19), .val (.double (9218868437227405312 : UInt64)), .second] []))
          refine Go.step (fun t k => XS.goto X_20.here hx rfl (pc0 := 278) (pc' := 313) rfl (hb hby at_278) (by decide) (by decide) k) ?_
          show Go p.tables e below P (T_20.setTop (mkF m 313 #[.val (.int p1), .val (.int p2), .val (.int p3), .val (.int p4), .val (.int p5), .val (.int p6), .val (.int (4 : Int32)), .val (.int (3 : Int32)), .val (.long j21), .second, .val (.long j34), .second, .val (.long j48), .second, .val (.long j62), .second, .val (.double d71), .second, .val (.ref y1), .val (.ref y2), .val (.ref b_19), .val (.double (9218868437227405312 : UInt64)), .second] []))
          refine Go.step (fun t k => XS.aload X_20.here hx rfl (hb hby at_313) rfl rfl k) ?_
          show Go p.tables e below P (T_20.setTop (mkF m 315 #[.val (.int p1), .val (.int p2), .val (.int p3), .val (.int p4), .val (.int p5), .val (.int p6), .val (.int (4 : Int32)), .val (.int (3 : Int32)), .val (.long j21), .second, .val (.long j34), .second, .val (.long j48), .second, .val (.long j62), .second, .val (.double d71), .second, .val (.ref y1), .val (.ref y2), .val (.ref b_19), .val (.double (9218868437227405312 : UInt64)), .second] [(.ref b_19)]))
          refine Go.step (fun t k => XS.iload X_20.here hx rfl (hb hby at_315) rfl  k) ?_
          show Go p.tables e below P (T_20.setTop (mkF m 317 #[.val (.int p1), .val (.int p2), .val (.int p3), .val (.int p4), .val (.int p5), .val (.int p6), .val (.int (4 : Int32)), .val (.int (3 : Int32)), .val (.long j21), .second, .val (.long j34), .second, .val (.long j48), .second, .val (.long j62), .second, .val (.double d71), .second, .val (.ref y1), .val (.ref y2), .val (.ref b_19), .val (.double (9218868437227405312 : UInt64)), .second] [(.int (3 : Int32)), (.ref b_19)]))
          obtain ⟨cq_27, kq_27, q_27a, q_27b, q_27c⟩ := isOf hZ rfl (A_19.keep Kc_20)
          obtain ⟨_, _, ⟨T_27, L_27, k_27, n_27⟩, -, X_27, ⟨Lc_27, hQ_27, l_27, y_27, z_27⟩, st_27⟩ := X_20.virtualBack hx (y := (⟨"com/example/gleitfahrt/gleitfahrt/engine/ForceCurve$Table", "upperMs", "(I)D"⟩ : MethodName)) (z := (⟨"com/example/gleitfahrt/gleitfahrt/engine/ForceCurve$Table", "upperMs", "(I)D"⟩ : MethodName)) hown (mvT hZ (hw _ (List.mem_of_getElem? (i := 36) rfl))) (mvT hZ (hw _ (List.mem_of_getElem? (i := 37) rfl))) (notFace_of_selects (args := #[]) (mvT hZ (hw _ (List.mem_of_getElem? (i := 39) rfl)))) (mvT hZ (hw _ (List.mem_of_getElem? (i := 39) rfl))) (mvT hZ (hw _ (List.mem_of_getElem? (i := 38) rfl))) (by decide) (backOf (W := 0) (up4_3 l Z a0 hw [] b_19 x1 k_1 d204 d210 d216 d222 T_20.heap n0 Z_20 Fx1 Vx1) hZ (hw _ (List.mem_of_getElem? (i := 40) rfl)) (hw _ (List.mem_of_getElem? (i := 6) rfl)) (by decide) (by decide)) q_27a q_27c (g := (mkF m 317 #[.val (.int p1), .val (.int p2), .val (.int p3), .val (.int p4), .val (.int p5), .val (.int p6), .val (.int (4 : Int32)), .val (.int (3 : Int32)), .val (.long j21), .second, .val (.long j34), .second, .val (.long j48), .second, .val (.long j62), .second, .val (.double d71), .second, .val (.ref y1), .val (.ref y2), .val (.ref b_19), .val (.double (9218868437227405312 : UInt64)), .second] [(.int (3 : Int32)), (.ref b_19)])) rfl (by rw [hml]; rfl) (Steps.refl _) (argsL := [(.int (3 : Int32))]) (rest := []) (lenOf pd_3 rfl) rfl (by show 2 * 0 + _ ≤ _; exact Nat.le_of_eq rfl) (hb hby at_317) (fun _ _ => ⟨rfl, rfl, (by decide : 5 + 0 ≤ _), (by decide : 18 + 0 ≤ _)⟩)
          dsimp only [Pt.U, Pt.locs, Pt.cells, Pt.slots] at X_27 l_27 y_27 z_27 st_27 hQ_27
          subst l_27 y_27 z_27
          obtain ⟨rfl, N_27q, eh_27⟩ := hQ_27
          have N_27 := Fr.app N_20 N_27q
          refine Go.tr st_27 ?_
          show Go p.tables e below P (T_27.setTop (mkF m 320 #[.val (.int p1), .val (.int p2), .val (.int p3), .val (.int p4), .val (.int p5), .val (.int p6), .val (.int (4 : Int32)), .val (.int (3 : Int32)), .val (.long j21), .second, .val (.long j34), .second, .val (.long j48), .second, .val (.long j62), .second, .val (.double d71), .second, .val (.ref y1), .val (.ref y2), .val (.ref b_19), .val (.double (9218868437227405312 : UInt64)), .second] [(.double (9218868437227405312 : UInt64))]))
          refine Go.step (fun t k => XS.dload X_27.here hx rfl (hb hby at_320) rfl  k) ?_
          show Go p.tables e below P (T_27.setTop (mkF m 322 #[.val (.int p1), .val (.int p2), .val (.int p3), .val (.int p4), .val (.int p5), .val (.int p6), .val (.int (4 : Int32)), .val (.int (3 : Int32)), .val (.long j21), .second, .val (.long j34), .second, .val (.long j48), .second, .val (.long j62), .second, .val (.double d71), .second, .val (.ref y1), .val (.ref y2), .val (.ref b_19), .val (.double (9218868437227405312 : UInt64)), .second] [(.double (9218868437227405312 : UInt64)), (.double (9218868437227405312 : UInt64))]))
          refine Go.step (fun t k => XS.dcmpS X_27.here hx rfl (hb hby at_322) rfl rfl k) ?_
          show Go p.tables e below P (T_27.setTop (mkF m 323 #[.val (.int p1), .val (.int p2), .val (.int p3), .val (.int p4), .val (.int p5), .val (.int p6), .val (.int (4 : Int32)), .val (.int (3 : Int32)), .val (.long j21), .second, .val (.long j34), .second, .val (.long j48), .second, .val (.long j62), .second, .val (.double d71), .second, .val (.ref y1), .val (.ref y2), .val (.ref b_19), .val (.double (9218868437227405312 : UInt64)), .second] [(.int (cmpValue (FP.dcmp (9218868437227405312 : UInt64) (9218868437227405312 : UInt64)) .l))]))
          refine Go.step (fun t k => XS.ifNo X_27.here hx rfl (hb hby at_323) rfl (dcN (cd := .ne) (same_cmp inf_ok) (fun q => q rfl)) k) ?_
          show Go p.tables e below P (T_27.setTop (mkF m 326 #[.val (.int p1), .val (.int p2), .val (.int p3), .val (.int p4), .val (.int p5), .val (.int p6), .val (.int (4 : Int32)), .val (.int (3 : Int32)), .val (.long j21), .second, .val (.long j34), .second, .val (.long j48), .second, .val (.long j62), .second, .val (.double d71), .second, .val (.ref y1), .val (.ref y2), .val (.ref b_19), .val (.double (9218868437227405312 : UInt64)), .second] []))
          refine Go.step (fun t k => XS.aload X_27.here hx rfl (hb hby at_326) rfl rfl k) ?_
          show Go p.tables e below P (T_27.setTop (mkF m 328 #[.val (.int p1), .val (.int p2), .val (.int p3), .val (.int p4), .val (.int p5), .val (.int p6), .val (.int (4 : Int32)), .val (.int (3 : Int32)), .val (.long j21), .second, .val (.long j34), .second, .val (.long j48), .second, .val (.long j62), .second, .val (.double d71), .second, .val (.ref y1), .val (.ref y2), .val (.ref b_19), .val (.double (9218868437227405312 : UInt64)), .second] [(.ref b_19)]))
          refine Go.step (fun t k => XS.iload X_27.here hx rfl (hb hby at_328) rfl  k) ?_
          show Go p.tables e below P (T_27.setTop (mkF m 330 #[.val (.int p1), .val (.int p2), .val (.int p3), .val (.int p4), .val (.int p5), .val (.int p6), .val (.int (4 : Int32)), .val (.int (3 : Int32)), .val (.long j21), .second, .val (.long j34), .second, .val (.long j48), .second, .val (.long j62), .second, .val (.double d71), .second, .val (.ref y1), .val (.ref y2), .val (.ref b_19), .val (.double (9218868437227405312 : UInt64)), .second] [(.int (4 : Int32)), (.ref b_19)]))
          refine Go.step (fun t k => XS.iconst X_27.here hx rfl (hb hby at_330) k) ?_
          show Go p.tables e below P (T_27.setTop (mkF m 331 #[.val (.int p1), .val (.int p2), .val (.int p3), .val (.int p4), .val (.int p5), .val (.int p6), .val (.int (4 : Int32)), .val (.int (3 : Int32)), .val (.long j21), .second, .val (.long j34), .second, .val (.long j48), .second, .val (.long j62), .second, .val (.double d71), .second, .val (.ref y1), .val (.ref y2), .val (.ref b_19), .val (.double (9218868437227405312 : UInt64)), .second] [(.int (1 : Int32)), (.int (4 : Int32)), (.ref b_19)]))
          obtain ⟨jm, hjm⟩ : ∃ z : Int32, (4 : Int32) - (1 : Int32) = z := ⟨_, rfl⟩
          refine Go.step (fun t k => isub_v X_27.here hx rfl (hb hby at_331) rfl  hjm k) ?_
          show Go p.tables e below P (T_27.setTop (mkF m 332 #[.val (.int p1), .val (.int p2), .val (.int p3), .val (.int p4), .val (.int p5), .val (.int p6), .val (.int (4 : Int32)), .val (.int (3 : Int32)), .val (.long j21), .second, .val (.long j34), .second, .val (.long j48), .second, .val (.long j62), .second, .val (.double d71), .second, .val (.ref y1), .val (.ref y2), .val (.ref b_19), .val (.double (9218868437227405312 : UInt64)), .second] [(.int jm), (.ref b_19)]))
          have ez_jm : jm = (3 : Int32) := by rw [← hjm]; rfl
          subst ez_jm
          show Go p.tables e below P (T_27.setTop (mkF m 332 #[.val (.int p1), .val (.int p2), .val (.int p3), .val (.int p4), .val (.int p5), .val (.int p6), .val (.int (4 : Int32)), .val (.int (3 : Int32)), .val (.long j21), .second, .val (.long j34), .second, .val (.long j48), .second, .val (.long j62), .second, .val (.double d71), .second, .val (.ref y1), .val (.ref y2), .val (.ref b_19), .val (.double (9218868437227405312 : UInt64)), .second] [(.int (3 : Int32)), (.ref b_19)]))
          obtain ⟨cq_28, kq_28, q_28a, q_28b, q_28c⟩ := isOf hZ eh_27 (A_19.keep Kc_20)
          obtain ⟨_, _, ⟨T_28, L_28, k_28, n_28⟩, -, X_28, ⟨Lc_28, hQ_28, l_28, y_28, z_28⟩, st_28⟩ := X_27.virtualBack hx (y := (⟨"com/example/gleitfahrt/gleitfahrt/engine/ForceCurve$Table", "upperMs", "(I)D"⟩ : MethodName)) (z := (⟨"com/example/gleitfahrt/gleitfahrt/engine/ForceCurve$Table", "upperMs", "(I)D"⟩ : MethodName)) hown (mvT hZ (hw _ (List.mem_of_getElem? (i := 36) rfl))) (mvT hZ (hw _ (List.mem_of_getElem? (i := 37) rfl))) (notFace_of_selects (args := #[]) (mvT hZ (hw _ (List.mem_of_getElem? (i := 39) rfl)))) (mvT hZ (hw _ (List.mem_of_getElem? (i := 39) rfl))) (mvT hZ (hw _ (List.mem_of_getElem? (i := 38) rfl))) (by decide) (backOf (W := 0) (up4_3 l Z a0 hw [] b_19 x1 k_1 d204 d210 d216 d222 T_20.heap n0 Z_20 Fx1 Vx1) hZ (hw _ (List.mem_of_getElem? (i := 40) rfl)) (hw _ (List.mem_of_getElem? (i := 6) rfl)) (by decide) (by decide)) q_28a q_28c (g := (mkF m 332 #[.val (.int p1), .val (.int p2), .val (.int p3), .val (.int p4), .val (.int p5), .val (.int p6), .val (.int (4 : Int32)), .val (.int (3 : Int32)), .val (.long j21), .second, .val (.long j34), .second, .val (.long j48), .second, .val (.long j62), .second, .val (.double d71), .second, .val (.ref y1), .val (.ref y2), .val (.ref b_19), .val (.double (9218868437227405312 : UInt64)), .second] [(.int (3 : Int32)), (.ref b_19)])) rfl (by rw [hml]; rfl) (Steps.refl _) (argsL := [(.int (3 : Int32))]) (rest := []) (lenOf pd_3 rfl) rfl (by show 2 * 0 + _ ≤ _; exact Nat.le_of_eq rfl) (hb hby at_332) (fun _ _ => ⟨rfl, eh_27, (by decide : 5 + 0 ≤ _), (by decide : 18 + 0 ≤ _)⟩)
          dsimp only [Pt.U, Pt.locs, Pt.cells, Pt.slots] at X_28 l_28 y_28 z_28 st_28 hQ_28
          subst l_28 y_28 z_28
          obtain ⟨rfl, N_28q, eh_28⟩ := hQ_28
          have N_28 := Fr.app N_27 N_28q
          refine Go.tr st_28 ?_
          show Go p.tables e below P (T_28.setTop (mkF m 335 #[.val (.int p1), .val (.int p2), .val (.int p3), .val (.int p4), .val (.int p5), .val (.int p6), .val (.int (4 : Int32)), .val (.int (3 : Int32)), .val (.long j21), .second, .val (.long j34), .second, .val (.long j48), .second, .val (.long j62), .second, .val (.double d71), .second, .val (.ref y1), .val (.ref y2), .val (.ref b_19), .val (.double (9218868437227405312 : UInt64)), .second] [(.double (9218868437227405312 : UInt64))]))
          refine Go.step (fun t k => X_28.ldc2DoubleC hx hown (mvT hZ (hw _ (List.mem_of_getElem? (i := 35) rfl))) (g := (mkF m 335 #[.val (.int p1), .val (.int p2), .val (.int p3), .val (.int p4), .val (.int p5), .val (.int p6), .val (.int (4 : Int32)), .val (.int (3 : Int32)), .val (.long j21), .second, .val (.long j34), .second, .val (.long j48), .second, .val (.long j62), .second, .val (.double d71), .second, .val (.ref y1), .val (.ref y2), .val (.ref b_19), .val (.double (9218868437227405312 : UInt64)), .second] [(.double (9218868437227405312 : UInt64))])) rfl (hb hby at_335) t k) ?_
          show Go p.tables e below P (T_28.setTop (mkF m 338 #[.val (.int p1), .val (.int p2), .val (.int p3), .val (.int p4), .val (.int p5), .val (.int p6), .val (.int (4 : Int32)), .val (.int (3 : Int32)), .val (.long j21), .second, .val (.long j34), .second, .val (.long j48), .second, .val (.long j62), .second, .val (.double d71), .second, .val (.ref y1), .val (.ref y2), .val (.ref b_19), .val (.double (9218868437227405312 : UInt64)), .second] [(.double (9218868437227405312 : UInt64)), (.double (9218868437227405312 : UInt64))]))
          refine Go.step (fun t k => XS.dcmpS X_28.here hx rfl (hb hby at_338) rfl rfl k) ?_
          show Go p.tables e below P (T_28.setTop (mkF m 339 #[.val (.int p1), .val (.int p2), .val (.int p3), .val (.int p4), .val (.int p5), .val (.int p6), .val (.int (4 : Int32)), .val (.int (3 : Int32)), .val (.long j21), .second, .val (.long j34), .second, .val (.long j48), .second, .val (.long j62), .second, .val (.double d71), .second, .val (.ref y1), .val (.ref y2), .val (.ref b_19), .val (.double (9218868437227405312 : UInt64)), .second] [(.int (cmpValue (FP.dcmp (9218868437227405312 : UInt64) (9218868437227405312 : UInt64)) .l))]))
          refine Go.step (fun t k => XS.ifNo X_28.here hx rfl (hb hby at_339) rfl (dcN (cd := .ne) (same_cmp inf_ok) (fun q => q rfl)) k) ?_
          show Go p.tables e below P (T_28.setTop (mkF m 342 #[.val (.int p1), .val (.int p2), .val (.int p3), .val (.int p4), .val (.int p5), .val (.int p6), .val (.int (4 : Int32)), .val (.int (3 : Int32)), .val (.long j21), .second, .val (.long j34), .second, .val (.long j48), .second, .val (.long j62), .second, .val (.double d71), .second, .val (.ref y1), .val (.ref y2), .val (.ref b_19), .val (.double (9218868437227405312 : UInt64)), .second] []))
          refine Go.step (fun t k => XS.iconst X_28.here hx rfl (hb hby at_342) k) ?_
          show Go p.tables e below P (T_28.setTop (mkF m 343 #[.val (.int p1), .val (.int p2), .val (.int p3), .val (.int p4), .val (.int p5), .val (.int p6), .val (.int (4 : Int32)), .val (.int (3 : Int32)), .val (.long j21), .second, .val (.long j34), .second, .val (.long j48), .second, .val (.long j62), .second, .val (.double d71), .second, .val (.ref y1), .val (.ref y2), .val (.ref b_19), .val (.double (9218868437227405312 : UInt64)), .second] [(.int (1 : Int32))]))
          refine Go.step (fun t k => XS.goto X_28.here hx rfl (pc0 := 343) (pc' := 347) rfl (hb hby at_343) (by decide) (by decide) k) ?_
          show Go p.tables e below P (T_28.setTop (mkF m 347 #[.val (.int p1), .val (.int p2), .val (.int p3), .val (.int p4), .val (.int p5), .val (.int p6), .val (.int (4 : Int32)), .val (.int (3 : Int32)), .val (.long j21), .second, .val (.long j34), .second, .val (.long j48), .second, .val (.long j62), .second, .val (.double d71), .second, .val (.ref y1), .val (.ref y2), .val (.ref b_19), .val (.double (9218868437227405312 : UInt64)), .second] [(.int (1 : Int32))]))
          exact retGo X_28 hx hP Bd.returns hlk rfl (Or.inl ⟨rfl, Or.inr (Or.inl rfl), _, rfl⟩) (hb hby at_347) (by decide) (by decide) (by rw [eh_28]; exact ⟨rfl, N_28⟩)
      · refine Go.step (fun t k => XS.icmpNo X0.here hx rfl (hb hby at_148) rfl (icN (cd := .ne) hc148) k) ?_
        show Go p.tables e below P (s₁.setTop (mkF m 151 #[.val (.int p1), .val (.int p2), .val (.int p3), .val (.int p4), .val (.int p5), .val (.int p6), .val (.int i4), .val (.int i13), .val (.long j21), .second, .val (.long j34), .second, .val (.long j48), .second, .val (.long j62), .second, .val (.double d71), .second, .unset, .unset, .unset, .unset, .unset] []))
        have e4 : i4 = (3 : Int32) := Int32.toInt_inj.mp (show i4.toInt = (3 : Int32).toInt from by have : (3 : Int32).toInt = 3 := rfl; omega)
        have b13' : i13.toInt < 3 := by rw [e4] at b13; exact b13.2
        subst e4
        show Go p.tables e below P (s₁.setTop (mkF m 151 #[.val (.int p1), .val (.int p2), .val (.int p3), .val (.int p4), .val (.int p5), .val (.int p6), .val (.int (3 : Int32)), .val (.int i13), .val (.long j21), .second, .val (.long j34), .second, .val (.long j48), .second, .val (.long j62), .second, .val (.double d71), .second, .unset, .unset, .unset, .unset, .unset] []))
        refine Go.step (fun t k => XS.iconst X0.here hx rfl (hb hby at_151) k) ?_
        show Go p.tables e below P (s₁.setTop (mkF m 152 #[.val (.int p1), .val (.int p2), .val (.int p3), .val (.int p4), .val (.int p5), .val (.int p6), .val (.int (3 : Int32)), .val (.int i13), .val (.long j21), .second, .val (.long j34), .second, .val (.long j48), .second, .val (.long j62), .second, .val (.double d71), .second, .unset, .unset, .unset, .unset, .unset] [(.int (3 : Int32))]))
        obtain ⟨T_29, h_29, k_29, X_29, e_29, E_29, A_29, Ex_29, st_29⟩ := newPE X0 hx hZ (hw _ (List.mem_of_getElem? (i := 3) rfl)) e0 (g := (mkF m 152 #[.val (.int p1), .val (.int p2), .val (.int p3), .val (.int p4), .val (.int p5), .val (.int p6), .val (.int (3 : Int32)), .val (.int i13), .val (.long j21), .second, .val (.long j34), .second, .val (.long j48), .second, .val (.long j62), .second, .val (.double d71), .second, .unset, .unset, .unset, .unset, .unset] [(.int (3 : Int32))])) rfl (hb hby at_152) rfl (by decide) (cap := 3) (by decide) (by decide) (by decide) (by decide) (ad := "[D") (by decide)
        obtain ⟨y1, g_29⟩ : ∃ z, z = h0.size := ⟨_, rfl⟩
        rw [← g_29] at A_29 st_29 Ex_29
        have g_y1 : n0 ≤ y1 := Nat.le_trans Z0 (Nat.le_of_eq g_29.symm)
        have sz_y1 : h0.size ≤ y1 := Nat.le_trans (Keep.refl h0 []).1 (Nat.le_of_eq g_29.symm)
        have V_29 : Arv Z h_29 y1 k_29 .double (3 : Int32) [(.double (0 : UInt64)), (.double (0 : UInt64)), (.double (0 : UInt64))] (.double (0 : UInt64)) := (Arv.new A_29 (by decide)).pad (pad_rep [] (.double (0 : UInt64)) 3)
        have K_29 : Keep h0 h_29 [] := (Keep.refl h0 []).ext E_29
        have Z_29 : n0 ≤ h_29.size := Nat.le_trans Z0 E_29.1
        refine Go.step (fun t k => st_29 t k) ?_
        show Go p.tables e below P (T_29.setTop (mkF m 154 #[.val (.int p1), .val (.int p2), .val (.int p3), .val (.int p4), .val (.int p5), .val (.int p6), .val (.int (3 : Int32)), .val (.int i13), .val (.long j21), .second, .val (.long j34), .second, .val (.long j48), .second, .val (.long j62), .second, .val (.double d71), .second, .unset, .unset, .unset, .unset, .unset] [(.ref y1)]))
        refine Go.step (fun t k => XS.dup X_29.here hx rfl (hb hby at_154) rfl rfl k) ?_
        show Go p.tables e below P (T_29.setTop (mkF m 155 #[.val (.int p1), .val (.int p2), .val (.int p3), .val (.int p4), .val (.int p5), .val (.int p6), .val (.int (3 : Int32)), .val (.int i13), .val (.long j21), .second, .val (.long j34), .second, .val (.long j48), .second, .val (.long j62), .second, .val (.double d71), .second, .unset, .unset, .unset, .unset, .unset] [(.ref y1), (.ref y1)]))
        refine Go.step (fun t k => XS.iconst X_29.here hx rfl (hb hby at_155) k) ?_
        show Go p.tables e below P (T_29.setTop (mkF m 156 #[.val (.int p1), .val (.int p2), .val (.int p3), .val (.int p4), .val (.int p5), .val (.int p6), .val (.int (3 : Int32)), .val (.int i13), .val (.long j21), .second, .val (.long j34), .second, .val (.long j48), .second, .val (.long j62), .second, .val (.double d71), .second, .unset, .unset, .unset, .unset, .unset] [(.int (0 : Int32)), (.ref y1), (.ref y1)]))
        refine Go.step (fun t k => XS.lload X_29.here hx rfl (hb hby at_156) rfl  k) ?_
        show Go p.tables e below P (T_29.setTop (mkF m 158 #[.val (.int p1), .val (.int p2), .val (.int p3), .val (.int p4), .val (.int p5), .val (.int p6), .val (.int (3 : Int32)), .val (.int i13), .val (.long j21), .second, .val (.long j34), .second, .val (.long j48), .second, .val (.long j62), .second, .val (.double d71), .second, .unset, .unset, .unset, .unset, .unset] [(.long j21), (.int (0 : Int32)), (.ref y1), (.ref y1)]))
        obtain ⟨d158, hd158⟩ : ∃ z : UInt64, FP.l2d j21 = z := ⟨_, rfl⟩
        refine Go.step (fun t k => XS.l2dS X_29.here hx rfl (hb hby at_158) rfl hd158 k) ?_
        show Go p.tables e below P (T_29.setTop (mkF m 159 #[.val (.int p1), .val (.int p2), .val (.int p3), .val (.int p4), .val (.int p5), .val (.int p6), .val (.int (3 : Int32)), .val (.int i13), .val (.long j21), .second, .val (.long j34), .second, .val (.long j48), .second, .val (.long j62), .second, .val (.double d71), .second, .unset, .unset, .unset, .unset, .unset] [(.double d158), (.int (0 : Int32)), (.ref y1), (.ref y1)]))
        have Q0 := l2d_e (x := j21) (by omega); rw [hd158] at Q0
        have vq_30 := V_29
        obtain ⟨cl_30, Ar_30, q_30, S_30, Nn_30, H_30, G_30⟩ := vq_30
        have hin_30 : ¬ ((0 : Int32) < 0 ∨ cl_30.slots.size ≤ ((0 : Int32)).toNatClampNeg) := inb_of S_30 ⟨by decide, by decide⟩
        obtain ⟨T_31, h_31, X_31, e_31, W_31, st_31⟩ := stD X_29 hx hZ e_29 Ar_30 (j := (0 : Int32)) hin_30 (g := (mkF m 159 #[.val (.int p1), .val (.int p2), .val (.int p3), .val (.int p4), .val (.int p5), .val (.int p6), .val (.int (3 : Int32)), .val (.int i13), .val (.long j21), .second, .val (.long j34), .second, .val (.long j48), .second, .val (.long j62), .second, .val (.double d71), .second, .unset, .unset, .unset, .unset, .unset] [(.double d158), (.int (0 : Int32)), (.ref y1), (.ref y1)])) rfl rfl (hb hby at_159)
        have V_31 : Arv Z h_31 y1 k_29 .double (3 : Int32) [(.double d158), (.double (0 : UInt64)), (.double (0 : UInt64))] (.double (0 : UInt64)) := Arv.set Ar_30 q_30 S_30 Nn_30 H_30 G_30 rfl W_31 0 rfl (Nat.le_of_ble_eq_true rfl)
        have N_31 := Fr.snoc X_31 N0 g_y1
        have K_31 : Keep h0 h_31 [] := K_29.wr W_31 (Or.inr sz_y1)
        have Z_31 : n0 ≤ h_31.size := Nat.le_trans Z_29 (Keep.of_wr W_31).1
        refine Go.step (fun t k => st_31 t k) ?_
        show Go p.tables e below P (T_31.setTop (mkF m 160 #[.val (.int p1), .val (.int p2), .val (.int p3), .val (.int p4), .val (.int p5), .val (.int p6), .val (.int (3 : Int32)), .val (.int i13), .val (.long j21), .second, .val (.long j34), .second, .val (.long j48), .second, .val (.long j62), .second, .val (.double d71), .second, .unset, .unset, .unset, .unset, .unset] [(.ref y1)]))
        refine Go.step (fun t k => XS.dup X_31.here hx rfl (hb hby at_160) rfl rfl k) ?_
        show Go p.tables e below P (T_31.setTop (mkF m 161 #[.val (.int p1), .val (.int p2), .val (.int p3), .val (.int p4), .val (.int p5), .val (.int p6), .val (.int (3 : Int32)), .val (.int i13), .val (.long j21), .second, .val (.long j34), .second, .val (.long j48), .second, .val (.long j62), .second, .val (.double d71), .second, .unset, .unset, .unset, .unset, .unset] [(.ref y1), (.ref y1)]))
        refine Go.step (fun t k => XS.iconst X_31.here hx rfl (hb hby at_161) k) ?_
        show Go p.tables e below P (T_31.setTop (mkF m 162 #[.val (.int p1), .val (.int p2), .val (.int p3), .val (.int p4), .val (.int p5), .val (.int p6), .val (.int (3 : Int32)), .val (.int i13), .val (.long j21), .second, .val (.long j34), .second, .val (.long j48), .second, .val (.long j62), .second, .val (.double d71), .second, .unset, .unset, .unset, .unset, .unset] [(.int (1 : Int32)), (.ref y1), (.ref y1)]))
        refine Go.step (fun t k => XS.lload X_31.here hx rfl (hb hby at_162) rfl  k) ?_
        show Go p.tables e below P (T_31.setTop (mkF m 164 #[.val (.int p1), .val (.int p2), .val (.int p3), .val (.int p4), .val (.int p5), .val (.int p6), .val (.int (3 : Int32)), .val (.int i13), .val (.long j21), .second, .val (.long j34), .second, .val (.long j48), .second, .val (.long j62), .second, .val (.double d71), .second, .unset, .unset, .unset, .unset, .unset] [(.long j34), (.int (1 : Int32)), (.ref y1), (.ref y1)]))
        obtain ⟨d164, hd164⟩ : ∃ z : UInt64, FP.l2d j34 = z := ⟨_, rfl⟩
        refine Go.step (fun t k => XS.l2dS X_31.here hx rfl (hb hby at_164) rfl hd164 k) ?_
        show Go p.tables e below P (T_31.setTop (mkF m 165 #[.val (.int p1), .val (.int p2), .val (.int p3), .val (.int p4), .val (.int p5), .val (.int p6), .val (.int (3 : Int32)), .val (.int i13), .val (.long j21), .second, .val (.long j34), .second, .val (.long j48), .second, .val (.long j62), .second, .val (.double d71), .second, .unset, .unset, .unset, .unset, .unset] [(.double d164), (.int (1 : Int32)), (.ref y1), (.ref y1)]))
        have Q1 := l2d_e (x := j34) (by omega); rw [hd164] at Q1
        have vq_32 := V_31
        obtain ⟨cl_32, Ar_32, q_32, S_32, Nn_32, H_32, G_32⟩ := vq_32
        have hin_32 : ¬ ((1 : Int32) < 0 ∨ cl_32.slots.size ≤ ((1 : Int32)).toNatClampNeg) := inb_of S_32 ⟨by decide, by decide⟩
        obtain ⟨T_33, h_33, X_33, e_33, W_33, st_33⟩ := stD X_31 hx hZ e_31 Ar_32 (j := (1 : Int32)) hin_32 (g := (mkF m 165 #[.val (.int p1), .val (.int p2), .val (.int p3), .val (.int p4), .val (.int p5), .val (.int p6), .val (.int (3 : Int32)), .val (.int i13), .val (.long j21), .second, .val (.long j34), .second, .val (.long j48), .second, .val (.long j62), .second, .val (.double d71), .second, .unset, .unset, .unset, .unset, .unset] [(.double d164), (.int (1 : Int32)), (.ref y1), (.ref y1)])) rfl rfl (hb hby at_165)
        have V_33 : Arv Z h_33 y1 k_29 .double (3 : Int32) [(.double d158), (.double d164), (.double (0 : UInt64))] (.double (0 : UInt64)) := Arv.set Ar_32 q_32 S_32 Nn_32 H_32 G_32 rfl W_33 1 rfl (Nat.le_of_ble_eq_true rfl)
        have N_33 := Fr.snoc X_33 N_31 g_y1
        have K_33 : Keep h0 h_33 [] := K_31.wr W_33 (Or.inr sz_y1)
        have Z_33 : n0 ≤ h_33.size := Nat.le_trans Z_31 (Keep.of_wr W_33).1
        refine Go.step (fun t k => st_33 t k) ?_
        show Go p.tables e below P (T_33.setTop (mkF m 166 #[.val (.int p1), .val (.int p2), .val (.int p3), .val (.int p4), .val (.int p5), .val (.int p6), .val (.int (3 : Int32)), .val (.int i13), .val (.long j21), .second, .val (.long j34), .second, .val (.long j48), .second, .val (.long j62), .second, .val (.double d71), .second, .unset, .unset, .unset, .unset, .unset] [(.ref y1)]))
        refine Go.step (fun t k => XS.dup X_33.here hx rfl (hb hby at_166) rfl rfl k) ?_
        show Go p.tables e below P (T_33.setTop (mkF m 167 #[.val (.int p1), .val (.int p2), .val (.int p3), .val (.int p4), .val (.int p5), .val (.int p6), .val (.int (3 : Int32)), .val (.int i13), .val (.long j21), .second, .val (.long j34), .second, .val (.long j48), .second, .val (.long j62), .second, .val (.double d71), .second, .unset, .unset, .unset, .unset, .unset] [(.ref y1), (.ref y1)]))
        refine Go.step (fun t k => XS.iconst X_33.here hx rfl (hb hby at_167) k) ?_
        show Go p.tables e below P (T_33.setTop (mkF m 168 #[.val (.int p1), .val (.int p2), .val (.int p3), .val (.int p4), .val (.int p5), .val (.int p6), .val (.int (3 : Int32)), .val (.int i13), .val (.long j21), .second, .val (.long j34), .second, .val (.long j48), .second, .val (.long j62), .second, .val (.double d71), .second, .unset, .unset, .unset, .unset, .unset] [(.int (2 : Int32)), (.ref y1), (.ref y1)]))
        refine Go.step (fun t k => XS.lload X_33.here hx rfl (hb hby at_168) rfl  k) ?_
        show Go p.tables e below P (T_33.setTop (mkF m 170 #[.val (.int p1), .val (.int p2), .val (.int p3), .val (.int p4), .val (.int p5), .val (.int p6), .val (.int (3 : Int32)), .val (.int i13), .val (.long j21), .second, .val (.long j34), .second, .val (.long j48), .second, .val (.long j62), .second, .val (.double d71), .second, .unset, .unset, .unset, .unset, .unset] [(.long j48), (.int (2 : Int32)), (.ref y1), (.ref y1)]))
        obtain ⟨d170, hd170⟩ : ∃ z : UInt64, FP.l2d j48 = z := ⟨_, rfl⟩
        refine Go.step (fun t k => XS.l2dS X_33.here hx rfl (hb hby at_170) rfl hd170 k) ?_
        show Go p.tables e below P (T_33.setTop (mkF m 171 #[.val (.int p1), .val (.int p2), .val (.int p3), .val (.int p4), .val (.int p5), .val (.int p6), .val (.int (3 : Int32)), .val (.int i13), .val (.long j21), .second, .val (.long j34), .second, .val (.long j48), .second, .val (.long j62), .second, .val (.double d71), .second, .unset, .unset, .unset, .unset, .unset] [(.double d170), (.int (2 : Int32)), (.ref y1), (.ref y1)]))
        have Q2 := l2d_e (x := j48) (by omega); rw [hd170] at Q2
        have vq_34 := V_33
        obtain ⟨cl_34, Ar_34, q_34, S_34, Nn_34, H_34, G_34⟩ := vq_34
        have hin_34 : ¬ ((2 : Int32) < 0 ∨ cl_34.slots.size ≤ ((2 : Int32)).toNatClampNeg) := inb_of S_34 ⟨by decide, by decide⟩
        obtain ⟨T_35, h_35, X_35, e_35, W_35, st_35⟩ := stD X_33 hx hZ e_33 Ar_34 (j := (2 : Int32)) hin_34 (g := (mkF m 171 #[.val (.int p1), .val (.int p2), .val (.int p3), .val (.int p4), .val (.int p5), .val (.int p6), .val (.int (3 : Int32)), .val (.int i13), .val (.long j21), .second, .val (.long j34), .second, .val (.long j48), .second, .val (.long j62), .second, .val (.double d71), .second, .unset, .unset, .unset, .unset, .unset] [(.double d170), (.int (2 : Int32)), (.ref y1), (.ref y1)])) rfl rfl (hb hby at_171)
        have V_35 : Arv Z h_35 y1 k_29 .double (3 : Int32) [(.double d158), (.double d164), (.double d170)] (.double (0 : UInt64)) := Arv.set Ar_34 q_34 S_34 Nn_34 H_34 G_34 rfl W_35 2 rfl (Nat.le_of_ble_eq_true rfl)
        have N_35 := Fr.snoc X_35 N_33 g_y1
        have K_35 : Keep h0 h_35 [] := K_33.wr W_35 (Or.inr sz_y1)
        have Z_35 : n0 ≤ h_35.size := Nat.le_trans Z_33 (Keep.of_wr W_35).1
        refine Go.step (fun t k => st_35 t k) ?_
        show Go p.tables e below P (T_35.setTop (mkF m 172 #[.val (.int p1), .val (.int p2), .val (.int p3), .val (.int p4), .val (.int p5), .val (.int p6), .val (.int (3 : Int32)), .val (.int i13), .val (.long j21), .second, .val (.long j34), .second, .val (.long j48), .second, .val (.long j62), .second, .val (.double d71), .second, .unset, .unset, .unset, .unset, .unset] [(.ref y1)]))
        refine Go.step (fun t k => XS.astore X_35.here hx rfl (hb hby at_172) rfl rfl (l' := #[.val (.int p1), .val (.int p2), .val (.int p3), .val (.int p4), .val (.int p5), .val (.int p6), .val (.int (3 : Int32)), .val (.int i13), .val (.long j21), .second, .val (.long j34), .second, .val (.long j48), .second, .val (.long j62), .second, .val (.double d71), .second, .val (.ref y1), .unset, .unset, .unset, .unset]) rfl k) ?_
        show Go p.tables e below P (T_35.setTop (mkF m 174 #[.val (.int p1), .val (.int p2), .val (.int p3), .val (.int p4), .val (.int p5), .val (.int p6), .val (.int (3 : Int32)), .val (.int i13), .val (.long j21), .second, .val (.long j34), .second, .val (.long j48), .second, .val (.long j62), .second, .val (.double d71), .second, .val (.ref y1), .unset, .unset, .unset, .unset] []))
        refine Go.step (fun t k => XS.iconst X_35.here hx rfl (hb hby at_174) k) ?_
        show Go p.tables e below P (T_35.setTop (mkF m 175 #[.val (.int p1), .val (.int p2), .val (.int p3), .val (.int p4), .val (.int p5), .val (.int p6), .val (.int (3 : Int32)), .val (.int i13), .val (.long j21), .second, .val (.long j34), .second, .val (.long j48), .second, .val (.long j62), .second, .val (.double d71), .second, .val (.ref y1), .unset, .unset, .unset, .unset] [(.int (3 : Int32))]))
        obtain ⟨T_36, h_36, k_36, X_36, e_36, E_36, A_36, Ex_36, st_36⟩ := newPE X_35 hx hZ (hw _ (List.mem_of_getElem? (i := 3) rfl)) e_35 (g := (mkF m 175 #[.val (.int p1), .val (.int p2), .val (.int p3), .val (.int p4), .val (.int p5), .val (.int p6), .val (.int (3 : Int32)), .val (.int i13), .val (.long j21), .second, .val (.long j34), .second, .val (.long j48), .second, .val (.long j62), .second, .val (.double d71), .second, .val (.ref y1), .unset, .unset, .unset, .unset] [(.int (3 : Int32))])) rfl (hb hby at_175) rfl (by decide) (cap := 3) (by decide) (by decide) (by decide) (by decide) (ad := "[D") (by decide)
        obtain ⟨y2, g_36⟩ : ∃ z, z = h_35.size := ⟨_, rfl⟩
        rw [← g_36] at A_36 st_36 Ex_36
        have g_y2 : n0 ≤ y2 := Nat.le_trans Z_35 (Nat.le_of_eq g_36.symm)
        have sz_y2 : h0.size ≤ y2 := Nat.le_trans K_35.1 (Nat.le_of_eq g_36.symm)
        have lt_y1_y2 : y1 < y2 := Nat.lt_of_lt_of_le (((Ex_29.wr W_31).wr W_33).wr W_35).lt (Nat.le_of_eq g_36.symm)
        have ne_y1_y2 : y1 ≠ y2 := Nat.ne_of_lt lt_y1_y2
        have V_36 : Arv Z h_36 y2 k_36 .double (3 : Int32) [(.double (0 : UInt64)), (.double (0 : UInt64)), (.double (0 : UInt64))] (.double (0 : UInt64)) := (Arv.new A_36 (by decide)).pad (pad_rep [] (.double (0 : UInt64)) 3)
        have K_36 : Keep h0 h_36 [] := K_35.ext E_36
        have Z_36 : n0 ≤ h_36.size := Nat.le_trans Z_35 E_36.1
        refine Go.step (fun t k => st_36 t k) ?_
        show Go p.tables e below P (T_36.setTop (mkF m 177 #[.val (.int p1), .val (.int p2), .val (.int p3), .val (.int p4), .val (.int p5), .val (.int p6), .val (.int (3 : Int32)), .val (.int i13), .val (.long j21), .second, .val (.long j34), .second, .val (.long j48), .second, .val (.long j62), .second, .val (.double d71), .second, .val (.ref y1), .unset, .unset, .unset, .unset] [(.ref y2)]))
        refine Go.step (fun t k => XS.dup X_36.here hx rfl (hb hby at_177) rfl rfl k) ?_
        show Go p.tables e below P (T_36.setTop (mkF m 178 #[.val (.int p1), .val (.int p2), .val (.int p3), .val (.int p4), .val (.int p5), .val (.int p6), .val (.int (3 : Int32)), .val (.int i13), .val (.long j21), .second, .val (.long j34), .second, .val (.long j48), .second, .val (.long j62), .second, .val (.double d71), .second, .val (.ref y1), .unset, .unset, .unset, .unset] [(.ref y2), (.ref y2)]))
        refine Go.step (fun t k => XS.iconst X_36.here hx rfl (hb hby at_178) k) ?_
        show Go p.tables e below P (T_36.setTop (mkF m 179 #[.val (.int p1), .val (.int p2), .val (.int p3), .val (.int p4), .val (.int p5), .val (.int p6), .val (.int (3 : Int32)), .val (.int i13), .val (.long j21), .second, .val (.long j34), .second, .val (.long j48), .second, .val (.long j62), .second, .val (.double d71), .second, .val (.ref y1), .unset, .unset, .unset, .unset] [(.int (0 : Int32)), (.ref y2), (.ref y2)]))
        refine Go.step (fun t k => XS.dload X_36.here hx rfl (hb hby at_179) rfl  k) ?_
        show Go p.tables e below P (T_36.setTop (mkF m 181 #[.val (.int p1), .val (.int p2), .val (.int p3), .val (.int p4), .val (.int p5), .val (.int p6), .val (.int (3 : Int32)), .val (.int i13), .val (.long j21), .second, .val (.long j34), .second, .val (.long j48), .second, .val (.long j62), .second, .val (.double d71), .second, .val (.ref y1), .unset, .unset, .unset, .unset] [(.double d71), (.int (0 : Int32)), (.ref y2), (.ref y2)]))
        have vq_37 := V_36
        obtain ⟨cl_37, Ar_37, q_37, S_37, Nn_37, H_37, G_37⟩ := vq_37
        have hin_37 : ¬ ((0 : Int32) < 0 ∨ cl_37.slots.size ≤ ((0 : Int32)).toNatClampNeg) := inb_of S_37 ⟨by decide, by decide⟩
        obtain ⟨T_38, h_38, X_38, e_38, W_38, st_38⟩ := stD X_36 hx hZ e_36 Ar_37 (j := (0 : Int32)) hin_37 (g := (mkF m 181 #[.val (.int p1), .val (.int p2), .val (.int p3), .val (.int p4), .val (.int p5), .val (.int p6), .val (.int (3 : Int32)), .val (.int i13), .val (.long j21), .second, .val (.long j34), .second, .val (.long j48), .second, .val (.long j62), .second, .val (.double d71), .second, .val (.ref y1), .unset, .unset, .unset, .unset] [(.double d71), (.int (0 : Int32)), (.ref y2), (.ref y2)])) rfl rfl (hb hby at_181)
        have V_38 : Arv Z h_38 y2 k_36 .double (3 : Int32) [(.double d71), (.double (0 : UInt64)), (.double (0 : UInt64))] (.double (0 : UInt64)) := Arv.set Ar_37 q_37 S_37 Nn_37 H_37 G_37 rfl W_38 0 rfl (Nat.le_of_ble_eq_true rfl)
        have N_38 := Fr.snoc X_38 N_35 g_y2
        have K_38 : Keep h0 h_38 [] := K_36.wr W_38 (Or.inr sz_y2)
        have Z_38 : n0 ≤ h_38.size := Nat.le_trans Z_36 (Keep.of_wr W_38).1
        refine Go.step (fun t k => st_38 t k) ?_
        show Go p.tables e below P (T_38.setTop (mkF m 182 #[.val (.int p1), .val (.int p2), .val (.int p3), .val (.int p4), .val (.int p5), .val (.int p6), .val (.int (3 : Int32)), .val (.int i13), .val (.long j21), .second, .val (.long j34), .second, .val (.long j48), .second, .val (.long j62), .second, .val (.double d71), .second, .val (.ref y1), .unset, .unset, .unset, .unset] [(.ref y2)]))
        refine Go.step (fun t k => XS.dup X_38.here hx rfl (hb hby at_182) rfl rfl k) ?_
        show Go p.tables e below P (T_38.setTop (mkF m 183 #[.val (.int p1), .val (.int p2), .val (.int p3), .val (.int p4), .val (.int p5), .val (.int p6), .val (.int (3 : Int32)), .val (.int i13), .val (.long j21), .second, .val (.long j34), .second, .val (.long j48), .second, .val (.long j62), .second, .val (.double d71), .second, .val (.ref y1), .unset, .unset, .unset, .unset] [(.ref y2), (.ref y2)]))
        refine Go.step (fun t k => XS.iconst X_38.here hx rfl (hb hby at_183) k) ?_
        show Go p.tables e below P (T_38.setTop (mkF m 184 #[.val (.int p1), .val (.int p2), .val (.int p3), .val (.int p4), .val (.int p5), .val (.int p6), .val (.int (3 : Int32)), .val (.int i13), .val (.long j21), .second, .val (.long j34), .second, .val (.long j48), .second, .val (.long j62), .second, .val (.double d71), .second, .val (.ref y1), .unset, .unset, .unset, .unset] [(.int (1 : Int32)), (.ref y2), (.ref y2)]))
        refine Go.step (fun t k => XS.dload X_38.here hx rfl (hb hby at_184) rfl  k) ?_
        show Go p.tables e below P (T_38.setTop (mkF m 186 #[.val (.int p1), .val (.int p2), .val (.int p3), .val (.int p4), .val (.int p5), .val (.int p6), .val (.int (3 : Int32)), .val (.int i13), .val (.long j21), .second, .val (.long j34), .second, .val (.long j48), .second, .val (.long j62), .second, .val (.double d71), .second, .val (.ref y1), .unset, .unset, .unset, .unset] [(.double d71), (.int (1 : Int32)), (.ref y2), (.ref y2)]))
        have vq_39 := V_38
        obtain ⟨cl_39, Ar_39, q_39, S_39, Nn_39, H_39, G_39⟩ := vq_39
        have hin_39 : ¬ ((1 : Int32) < 0 ∨ cl_39.slots.size ≤ ((1 : Int32)).toNatClampNeg) := inb_of S_39 ⟨by decide, by decide⟩
        obtain ⟨T_40, h_40, X_40, e_40, W_40, st_40⟩ := stD X_38 hx hZ e_38 Ar_39 (j := (1 : Int32)) hin_39 (g := (mkF m 186 #[.val (.int p1), .val (.int p2), .val (.int p3), .val (.int p4), .val (.int p5), .val (.int p6), .val (.int (3 : Int32)), .val (.int i13), .val (.long j21), .second, .val (.long j34), .second, .val (.long j48), .second, .val (.long j62), .second, .val (.double d71), .second, .val (.ref y1), .unset, .unset, .unset, .unset] [(.double d71), (.int (1 : Int32)), (.ref y2), (.ref y2)])) rfl rfl (hb hby at_186)
        have V_40 : Arv Z h_40 y2 k_36 .double (3 : Int32) [(.double d71), (.double d71), (.double (0 : UInt64))] (.double (0 : UInt64)) := Arv.set Ar_39 q_39 S_39 Nn_39 H_39 G_39 rfl W_40 1 rfl (Nat.le_of_ble_eq_true rfl)
        have N_40 := Fr.snoc X_40 N_38 g_y2
        have K_40 : Keep h0 h_40 [] := K_38.wr W_40 (Or.inr sz_y2)
        have Z_40 : n0 ≤ h_40.size := Nat.le_trans Z_38 (Keep.of_wr W_40).1
        refine Go.step (fun t k => st_40 t k) ?_
        show Go p.tables e below P (T_40.setTop (mkF m 187 #[.val (.int p1), .val (.int p2), .val (.int p3), .val (.int p4), .val (.int p5), .val (.int p6), .val (.int (3 : Int32)), .val (.int i13), .val (.long j21), .second, .val (.long j34), .second, .val (.long j48), .second, .val (.long j62), .second, .val (.double d71), .second, .val (.ref y1), .unset, .unset, .unset, .unset] [(.ref y2)]))
        refine Go.step (fun t k => XS.dup X_40.here hx rfl (hb hby at_187) rfl rfl k) ?_
        show Go p.tables e below P (T_40.setTop (mkF m 188 #[.val (.int p1), .val (.int p2), .val (.int p3), .val (.int p4), .val (.int p5), .val (.int p6), .val (.int (3 : Int32)), .val (.int i13), .val (.long j21), .second, .val (.long j34), .second, .val (.long j48), .second, .val (.long j62), .second, .val (.double d71), .second, .val (.ref y1), .unset, .unset, .unset, .unset] [(.ref y2), (.ref y2)]))
        refine Go.step (fun t k => XS.iconst X_40.here hx rfl (hb hby at_188) k) ?_
        show Go p.tables e below P (T_40.setTop (mkF m 189 #[.val (.int p1), .val (.int p2), .val (.int p3), .val (.int p4), .val (.int p5), .val (.int p6), .val (.int (3 : Int32)), .val (.int i13), .val (.long j21), .second, .val (.long j34), .second, .val (.long j48), .second, .val (.long j62), .second, .val (.double d71), .second, .val (.ref y1), .unset, .unset, .unset, .unset] [(.int (2 : Int32)), (.ref y2), (.ref y2)]))
        refine Go.step (fun t k => XS.dload X_40.here hx rfl (hb hby at_189) rfl  k) ?_
        show Go p.tables e below P (T_40.setTop (mkF m 191 #[.val (.int p1), .val (.int p2), .val (.int p3), .val (.int p4), .val (.int p5), .val (.int p6), .val (.int (3 : Int32)), .val (.int i13), .val (.long j21), .second, .val (.long j34), .second, .val (.long j48), .second, .val (.long j62), .second, .val (.double d71), .second, .val (.ref y1), .unset, .unset, .unset, .unset] [(.double d71), (.int (2 : Int32)), (.ref y2), (.ref y2)]))
        have vq_41 := V_40
        obtain ⟨cl_41, Ar_41, q_41, S_41, Nn_41, H_41, G_41⟩ := vq_41
        have hin_41 : ¬ ((2 : Int32) < 0 ∨ cl_41.slots.size ≤ ((2 : Int32)).toNatClampNeg) := inb_of S_41 ⟨by decide, by decide⟩
        obtain ⟨T_42, h_42, X_42, e_42, W_42, st_42⟩ := stD X_40 hx hZ e_40 Ar_41 (j := (2 : Int32)) hin_41 (g := (mkF m 191 #[.val (.int p1), .val (.int p2), .val (.int p3), .val (.int p4), .val (.int p5), .val (.int p6), .val (.int (3 : Int32)), .val (.int i13), .val (.long j21), .second, .val (.long j34), .second, .val (.long j48), .second, .val (.long j62), .second, .val (.double d71), .second, .val (.ref y1), .unset, .unset, .unset, .unset] [(.double d71), (.int (2 : Int32)), (.ref y2), (.ref y2)])) rfl rfl (hb hby at_191)
        have V_42 : Arv Z h_42 y2 k_36 .double (3 : Int32) [(.double d71), (.double d71), (.double d71)] (.double (0 : UInt64)) := Arv.set Ar_41 q_41 S_41 Nn_41 H_41 G_41 rfl W_42 2 rfl (Nat.le_of_ble_eq_true rfl)
        have N_42 := Fr.snoc X_42 N_40 g_y2
        have K_42 : Keep h0 h_42 [] := K_40.wr W_42 (Or.inr sz_y2)
        have Z_42 : n0 ≤ h_42.size := Nat.le_trans Z_40 (Keep.of_wr W_42).1
        refine Go.step (fun t k => st_42 t k) ?_
        show Go p.tables e below P (T_42.setTop (mkF m 192 #[.val (.int p1), .val (.int p2), .val (.int p3), .val (.int p4), .val (.int p5), .val (.int p6), .val (.int (3 : Int32)), .val (.int i13), .val (.long j21), .second, .val (.long j34), .second, .val (.long j48), .second, .val (.long j62), .second, .val (.double d71), .second, .val (.ref y1), .unset, .unset, .unset, .unset] [(.ref y2)]))
        refine Go.step (fun t k => XS.astore X_42.here hx rfl (hb hby at_192) rfl rfl (l' := #[.val (.int p1), .val (.int p2), .val (.int p3), .val (.int p4), .val (.int p5), .val (.int p6), .val (.int (3 : Int32)), .val (.int i13), .val (.long j21), .second, .val (.long j34), .second, .val (.long j48), .second, .val (.long j62), .second, .val (.double d71), .second, .val (.ref y1), .val (.ref y2), .unset, .unset, .unset]) rfl k) ?_
        show Go p.tables e below P (T_42.setTop (mkF m 194 #[.val (.int p1), .val (.int p2), .val (.int p3), .val (.int p4), .val (.int p5), .val (.int p6), .val (.int (3 : Int32)), .val (.int i13), .val (.long j21), .second, .val (.long j34), .second, .val (.long j48), .second, .val (.long j62), .second, .val (.double d71), .second, .val (.ref y1), .val (.ref y2), .unset, .unset, .unset] []))
        refine Go.step (fun t k => XS.goto X_42.here hx rfl (pc0 := 194) (pc' := 251) rfl (hb hby at_194) (by decide) (by decide) k) ?_
        show Go p.tables e below P (T_42.setTop (mkF m 251 #[.val (.int p1), .val (.int p2), .val (.int p3), .val (.int p4), .val (.int p5), .val (.int p6), .val (.int (3 : Int32)), .val (.int i13), .val (.long j21), .second, .val (.long j34), .second, .val (.long j48), .second, .val (.long j62), .second, .val (.double d71), .second, .val (.ref y1), .val (.ref y2), .unset, .unset, .unset] []))
        obtain ⟨T_43, h_43, X_43, e_43, E_43, A_43, D_43, -, st_43⟩ := newO X_42 hx hZ hown (hw _ (List.mem_of_getElem? (i := 4) rfl)) (hw _ (List.mem_of_getElem? (i := 5) rfl)) (hw _ (List.mem_of_getElem? (i := 6) rfl)) e_42 (g := (mkF m 251 #[.val (.int p1), .val (.int p2), .val (.int p3), .val (.int p4), .val (.int p5), .val (.int p6), .val (.int (3 : Int32)), .val (.int i13), .val (.long j21), .second, .val (.long j34), .second, .val (.long j48), .second, .val (.long j62), .second, .val (.double d71), .second, .val (.ref y1), .val (.ref y2), .unset, .unset, .unset] [])) rfl (hb hby at_251) (by decide) (by decide)
        obtain ⟨b_43, g_43⟩ : ∃ z, z = h_42.size := ⟨_, rfl⟩
        rw [← g_43] at A_43 D_43 st_43
        have g_b_43 : n0 ≤ b_43 := Nat.le_trans Z_42 (Nat.le_of_eq g_43.symm)
        have sz_b_43 : h0.size ≤ b_43 := Nat.le_trans K_42.1 (Nat.le_of_eq g_43.symm)
        have ne_y1_b_43 : y1 ≠ b_43 := Nat.ne_of_lt (Nat.lt_of_lt_of_le (((((((Ex_29.wr W_31).wr W_33).wr W_35).ext E_36).wr W_38).wr W_40).wr W_42).lt (Nat.le_of_eq g_43.symm))
        have ne_y1_b_43 : y1 ≠ b_43 := Nat.ne_of_lt (Nat.lt_of_lt_of_le ((((V_35.ext E_36).other W_38 ne_y1_y2).other W_40 ne_y1_y2).other W_42 ne_y1_y2).lt (Nat.le_of_eq g_43.symm))
        have ne_y2_b_43 : y2 ≠ b_43 := Nat.ne_of_lt (Nat.lt_of_lt_of_le (((Ex_36.wr W_38).wr W_40).wr W_42).lt (Nat.le_of_eq g_43.symm))
        have ne_y2_b_43 : y2 ≠ b_43 := Nat.ne_of_lt (Nat.lt_of_lt_of_le V_42.lt (Nat.le_of_eq g_43.symm))
        have F_speedsMs_b_43 : Fld Z h_43 b_43 "com/example/gleitfahrt/gleitfahrt/engine/ForceCurve$Table" "speedsMs" "[D" .null := D_43 (Or.inr (hw _ (List.mem_of_getElem? (i := 32) rfl))) (ty := (.array .double)) (by decide)
        have F_forcesN_b_43 : Fld Z h_43 b_43 "com/example/gleitfahrt/gleitfahrt/engine/ForceCurve$Table" "forcesN" "[D" .null := D_43 (Or.inr (hw _ (List.mem_of_getElem? (i := 34) rfl))) (ty := (.array .double)) (by decide)
        have K_43 : Keep h0 h_43 [] := K_42.ext E_43
        have Z_43 : n0 ≤ h_43.size := Nat.le_trans Z_42 E_43.1
        refine Go.step (fun t k => st_43 t k) ?_
        show Go p.tables e below P (T_43.setTop (mkF m 254 #[.val (.int p1), .val (.int p2), .val (.int p3), .val (.int p4), .val (.int p5), .val (.int p6), .val (.int (3 : Int32)), .val (.int i13), .val (.long j21), .second, .val (.long j34), .second, .val (.long j48), .second, .val (.long j62), .second, .val (.double d71), .second, .val (.ref y1), .val (.ref y2), .unset, .unset, .unset] [(.ref b_43)]))
        refine Go.step (fun t k => XS.dup X_43.here hx rfl (hb hby at_254) rfl rfl k) ?_
        show Go p.tables e below P (T_43.setTop (mkF m 255 #[.val (.int p1), .val (.int p2), .val (.int p3), .val (.int p4), .val (.int p5), .val (.int p6), .val (.int (3 : Int32)), .val (.int i13), .val (.long j21), .second, .val (.long j34), .second, .val (.long j48), .second, .val (.long j62), .second, .val (.double d71), .second, .val (.ref y1), .val (.ref y2), .unset, .unset, .unset] [(.ref b_43), (.ref b_43)]))
        refine Go.step (fun t k => XS.aload X_43.here hx rfl (hb hby at_255) rfl rfl k) ?_
        show Go p.tables e below P (T_43.setTop (mkF m 257 #[.val (.int p1), .val (.int p2), .val (.int p3), .val (.int p4), .val (.int p5), .val (.int p6), .val (.int (3 : Int32)), .val (.int i13), .val (.long j21), .second, .val (.long j34), .second, .val (.long j48), .second, .val (.long j62), .second, .val (.double d71), .second, .val (.ref y1), .val (.ref y2), .unset, .unset, .unset] [(.ref y1), (.ref b_43), (.ref b_43)]))
        refine Go.step (fun t k => XS.aload X_43.here hx rfl (hb hby at_257) rfl rfl k) ?_
        show Go p.tables e below P (T_43.setTop (mkF m 259 #[.val (.int p1), .val (.int p2), .val (.int p3), .val (.int p4), .val (.int p5), .val (.int p6), .val (.int (3 : Int32)), .val (.int i13), .val (.long j21), .second, .val (.long j34), .second, .val (.long j48), .second, .val (.long j62), .second, .val (.double d71), .second, .val (.ref y1), .val (.ref y2), .unset, .unset, .unset] [(.ref y2), (.ref y1), (.ref b_43), (.ref b_43)]))
        obtain ⟨_, _, ⟨T_44, L_44, k_44, n_44⟩, -, X_44, ⟨Lc_44, hQ_44, l_44, y_44, z_44⟩, st_44⟩ := X_43.specialBack hx (y := (⟨"com/example/gleitfahrt/gleitfahrt/engine/ForceCurve$Table", "<init>", "([D[D)V"⟩ : MethodName)) rfl hown (mvT hZ (hw _ (List.mem_of_getElem? (i := 7) rfl))) (mvT hZ (hw _ (List.mem_of_getElem? (i := 8) rfl))) (mvT hZ (hw _ (List.mem_of_getElem? (i := 9) rfl))) (by decide) (backOf (W := 1) (rm13 l Z a0 hw [] b_43 y1 y2 k_29 k_36 d158 d164 d170 d71 j21.toInt j34.toInt j48.toInt i70.toInt h_43 n0 Z_43 A_43 F_speedsMs_b_43 F_forcesN_b_43 g_b_43 ((((((((Ex_29.wr W_31).wr W_33).wr W_35).ext E_36).wr W_38).wr W_40).wr W_42).ext E_43) ((((Ex_36.wr W_38).wr W_40).wr W_42).ext E_43) (((((V_35.ext E_36).other W_38 ne_y1_y2).other W_40 ne_y1_y2).other W_42 ne_y1_y2).ext E_43) (V_42.ext E_43) (Ne.symm ne_y1_b_43) (Ne.symm ne_y2_b_43) Q0 Q1 Q2 q71 b70 (by omega) (by omega) (by omega)) hZ (hw _ (List.mem_of_getElem? (i := 9) rfl)) (hw _ (List.mem_of_getElem? (i := 6) rfl)) (by decide) (by decide)) (g := (mkF m 259 #[.val (.int p1), .val (.int p2), .val (.int p3), .val (.int p4), .val (.int p5), .val (.int p6), .val (.int (3 : Int32)), .val (.int i13), .val (.long j21), .second, .val (.long j34), .second, .val (.long j48), .second, .val (.long j62), .second, .val (.double d71), .second, .val (.ref y1), .val (.ref y2), .unset, .unset, .unset] [(.ref y2), (.ref y1), (.ref b_43), (.ref b_43)])) rfl (by rw [hml]; rfl) (Steps.refl _) (a := b_43) (argsL := [(.ref y1), (.ref y2)]) (rest := [(.ref b_43)]) (lenOf pd_2 rfl) rfl (by show 2 * 0 + _ ≤ _; exact Nat.le_of_eq rfl) (hb hby at_259) (fun _ _ => ⟨rfl, e_43, (by decide : 3 + 2 ≤ _), (by decide : 8 + 6 ≤ _)⟩)
        dsimp only [Pt.U, Pt.locs, Pt.cells, Pt.slots] at X_44 l_44 y_44 z_44 st_44 hQ_44
        subst l_44 y_44 z_44
        obtain ⟨rfl, N_44q, Kc_44, Ee_44, x1, Fx1, Vx1⟩ := hQ_44
        have N_44 := Fr.app N_42 N_44q
        have K_44 : Keep h0 T_44.heap [] := K_43.trans Kc_44 (allS (Or.inr sz_b_43) all0)
        have Z_44 : n0 ≤ T_44.heap.size := Nat.le_trans Z_43 Kc_44.1
        refine Go.tr st_44 ?_
        show Go p.tables e below P (T_44.setTop (mkF m 262 #[.val (.int p1), .val (.int p2), .val (.int p3), .val (.int p4), .val (.int p5), .val (.int p6), .val (.int (3 : Int32)), .val (.int i13), .val (.long j21), .second, .val (.long j34), .second, .val (.long j48), .second, .val (.long j62), .second, .val (.double d71), .second, .val (.ref y1), .val (.ref y2), .unset, .unset, .unset] [(.ref b_43)]))
        refine Go.step (fun t k => XS.astore X_44.here hx rfl (hb hby at_262) rfl rfl (l' := #[.val (.int p1), .val (.int p2), .val (.int p3), .val (.int p4), .val (.int p5), .val (.int p6), .val (.int (3 : Int32)), .val (.int i13), .val (.long j21), .second, .val (.long j34), .second, .val (.long j48), .second, .val (.long j62), .second, .val (.double d71), .second, .val (.ref y1), .val (.ref y2), .val (.ref b_43), .unset, .unset]) rfl k) ?_
        show Go p.tables e below P (T_44.setTop (mkF m 264 #[.val (.int p1), .val (.int p2), .val (.int p3), .val (.int p4), .val (.int p5), .val (.int p6), .val (.int (3 : Int32)), .val (.int i13), .val (.long j21), .second, .val (.long j34), .second, .val (.long j48), .second, .val (.long j62), .second, .val (.double d71), .second, .val (.ref y1), .val (.ref y2), .val (.ref b_43), .unset, .unset] []))
        have hj13 : i13 = (0 : Int32) ∨ i13 = (1 : Int32) ∨ i13 = (2 : Int32) := by
          have hh : i13.toInt = 0 ∨ i13.toInt = 1 ∨ i13.toInt = 2 := by omega
          rcases hh with hh | hh | hh
          · exact Or.inl (Int32.toInt_inj.mp (hh.trans rfl))
          · exact Or.inr (Or.inl (Int32.toInt_inj.mp (hh.trans rfl)))
          · exact Or.inr (Or.inr ((Int32.toInt_inj.mp (hh.trans rfl))))
        rcases hj13 with ej13 | ej13 | ej13
        · subst ej13
          show Go p.tables e below P (T_44.setTop (mkF m 264 #[.val (.int p1), .val (.int p2), .val (.int p3), .val (.int p4), .val (.int p5), .val (.int p6), .val (.int (3 : Int32)), .val (.int (0 : Int32)), .val (.long j21), .second, .val (.long j34), .second, .val (.long j48), .second, .val (.long j62), .second, .val (.double d71), .second, .val (.ref y1), .val (.ref y2), .val (.ref b_43), .unset, .unset] []))
          refine Go.step (fun t k => XS.iload X_44.here hx rfl (hb hby at_264) rfl  k) ?_
          show Go p.tables e below P (T_44.setTop (mkF m 266 #[.val (.int p1), .val (.int p2), .val (.int p3), .val (.int p4), .val (.int p5), .val (.int p6), .val (.int (3 : Int32)), .val (.int (0 : Int32)), .val (.long j21), .second, .val (.long j34), .second, .val (.long j48), .second, .val (.long j62), .second, .val (.double d71), .second, .val (.ref y1), .val (.ref y2), .val (.ref b_43), .unset, .unset] [(.int (0 : Int32))]))
          refine Go.step (fun t k => XS.iconst X_44.here hx rfl (hb hby at_266) k) ?_
          show Go p.tables e below P (T_44.setTop (mkF m 267 #[.val (.int p1), .val (.int p2), .val (.int p3), .val (.int p4), .val (.int p5), .val (.int p6), .val (.int (3 : Int32)), .val (.int (0 : Int32)), .val (.long j21), .second, .val (.long j34), .second, .val (.long j48), .second, .val (.long j62), .second, .val (.double d71), .second, .val (.ref y1), .val (.ref y2), .val (.ref b_43), .unset, .unset] [(.int (1 : Int32)), (.int (0 : Int32))]))
          obtain ⟨ja, hja⟩ : ∃ z : Int32, (0 : Int32) + (1 : Int32) = z := ⟨_, rfl⟩
          refine Go.step (fun t k => iadd_v X_44.here hx rfl (hb hby at_267) rfl  hja k) ?_
          show Go p.tables e below P (T_44.setTop (mkF m 268 #[.val (.int p1), .val (.int p2), .val (.int p3), .val (.int p4), .val (.int p5), .val (.int p6), .val (.int (3 : Int32)), .val (.int (0 : Int32)), .val (.long j21), .second, .val (.long j34), .second, .val (.long j48), .second, .val (.long j62), .second, .val (.double d71), .second, .val (.ref y1), .val (.ref y2), .val (.ref b_43), .unset, .unset] [(.int ja)]))
          have ez_ja : ja = (1 : Int32) := by rw [← hja]; rfl
          subst ez_ja
          show Go p.tables e below P (T_44.setTop (mkF m 268 #[.val (.int p1), .val (.int p2), .val (.int p3), .val (.int p4), .val (.int p5), .val (.int p6), .val (.int (3 : Int32)), .val (.int (0 : Int32)), .val (.long j21), .second, .val (.long j34), .second, .val (.long j48), .second, .val (.long j62), .second, .val (.double d71), .second, .val (.ref y1), .val (.ref y2), .val (.ref b_43), .unset, .unset] [(.int (1 : Int32))]))
          refine Go.step (fun t k => XS.iload X_44.here hx rfl (hb hby at_268) rfl  k) ?_
          show Go p.tables e below P (T_44.setTop (mkF m 270 #[.val (.int p1), .val (.int p2), .val (.int p3), .val (.int p4), .val (.int p5), .val (.int p6), .val (.int (3 : Int32)), .val (.int (0 : Int32)), .val (.long j21), .second, .val (.long j34), .second, .val (.long j48), .second, .val (.long j62), .second, .val (.double d71), .second, .val (.ref y1), .val (.ref y2), .val (.ref b_43), .unset, .unset] [(.int (3 : Int32)), (.int (1 : Int32))]))
          refine Go.step (fun t k => XS.icmpYes X_44.here hx rfl (pc0 := 270) (pc' := 281) rfl (hb hby at_270) rfl (icY (cd := .lt) (by decide : (1 : Int) < (3 : Int))) (by decide) (by decide) k) ?_
          show Go p.tables e below P (T_44.setTop (mkF m 281 #[.val (.int p1), .val (.int p2), .val (.int p3), .val (.int p4), .val (.int p5), .val (.int p6), .val (.int (3 : Int32)), .val (.int (0 : Int32)), .val (.long j21), .second, .val (.long j34), .second, .val (.long j48), .second, .val (.long j62), .second, .val (.double d71), .second, .val (.ref y1), .val (.ref y2), .val (.ref b_43), .unset, .unset] []))
          refine Go.step (fun t k => XS.iload X_44.here hx rfl (hb hby at_281) rfl  k) ?_
          show Go p.tables e below P (T_44.setTop (mkF m 283 #[.val (.int p1), .val (.int p2), .val (.int p3), .val (.int p4), .val (.int p5), .val (.int p6), .val (.int (3 : Int32)), .val (.int (0 : Int32)), .val (.long j21), .second, .val (.long j34), .second, .val (.long j48), .second, .val (.long j62), .second, .val (.double d71), .second, .val (.ref y1), .val (.ref y2), .val (.ref b_43), .unset, .unset] [(.int (0 : Int32))]))
          refine Go.step (fun t k => XS.ifNo X_44.here hx rfl (hb hby at_283) rfl (ifN (cd := .ne) (by decide : ¬ (¬ (0 : Int) = 0))) k) ?_
          show Go p.tables e below P (T_44.setTop (mkF m 286 #[.val (.int p1), .val (.int p2), .val (.int p3), .val (.int p4), .val (.int p5), .val (.int p6), .val (.int (3 : Int32)), .val (.int (0 : Int32)), .val (.long j21), .second, .val (.long j34), .second, .val (.long j48), .second, .val (.long j62), .second, .val (.double d71), .second, .val (.ref y1), .val (.ref y2), .val (.ref b_43), .unset, .unset] []))
          refine Go.step (fun t k => XS.lload X_44.here hx rfl (hb hby at_286) rfl  k) ?_
          show Go p.tables e below P (T_44.setTop (mkF m 288 #[.val (.int p1), .val (.int p2), .val (.int p3), .val (.int p4), .val (.int p5), .val (.int p6), .val (.int (3 : Int32)), .val (.int (0 : Int32)), .val (.long j21), .second, .val (.long j34), .second, .val (.long j48), .second, .val (.long j62), .second, .val (.double d71), .second, .val (.ref y1), .val (.ref y2), .val (.ref b_43), .unset, .unset] [(.long j34)]))
          obtain ⟨d288, hd288⟩ : ∃ z : UInt64, FP.l2d j34 = z := ⟨_, rfl⟩
          refine Go.step (fun t k => XS.l2dS X_44.here hx rfl (hb hby at_288) rfl hd288 k) ?_
          show Go p.tables e below P (T_44.setTop (mkF m 289 #[.val (.int p1), .val (.int p2), .val (.int p3), .val (.int p4), .val (.int p5), .val (.int p6), .val (.int (3 : Int32)), .val (.int (0 : Int32)), .val (.long j21), .second, .val (.long j34), .second, .val (.long j48), .second, .val (.long j62), .second, .val (.double d71), .second, .val (.ref y1), .val (.ref y2), .val (.ref b_43), .unset, .unset] [(.double d288)]))
          have R288 := l2d_e (x := j34) (by omega); rw [hd288] at R288
          refine Go.step (fun t k => XS.dstore X_44.here hx rfl (hb hby at_289) rfl (l' := #[.val (.int p1), .val (.int p2), .val (.int p3), .val (.int p4), .val (.int p5), .val (.int p6), .val (.int (3 : Int32)), .val (.int (0 : Int32)), .val (.long j21), .second, .val (.long j34), .second, .val (.long j48), .second, .val (.long j62), .second, .val (.double d71), .second, .val (.ref y1), .val (.ref y2), .val (.ref b_43), .val (.double d288), .second]) rfl k) ?_
          show Go p.tables e below P (T_44.setTop (mkF m 291 #[.val (.int p1), .val (.int p2), .val (.int p3), .val (.int p4), .val (.int p5), .val (.int p6), .val (.int (3 : Int32)), .val (.int (0 : Int32)), .val (.long j21), .second, .val (.long j34), .second, .val (.long j48), .second, .val (.long j62), .second, .val (.double d71), .second, .val (.ref y1), .val (.ref y2), .val (.ref b_43), .val (.double d288), .second] []))
          refine Go.step (fun t k => XS.goto X_44.here hx rfl (pc0 := 291) (pc' := 313) rfl (hb hby at_291) (by decide) (by decide) k) ?_
          show Go p.tables e below P (T_44.setTop (mkF m 313 #[.val (.int p1), .val (.int p2), .val (.int p3), .val (.int p4), .val (.int p5), .val (.int p6), .val (.int (3 : Int32)), .val (.int (0 : Int32)), .val (.long j21), .second, .val (.long j34), .second, .val (.long j48), .second, .val (.long j62), .second, .val (.double d71), .second, .val (.ref y1), .val (.ref y2), .val (.ref b_43), .val (.double d288), .second] []))
          refine Go.step (fun t k => XS.aload X_44.here hx rfl (hb hby at_313) rfl rfl k) ?_
          show Go p.tables e below P (T_44.setTop (mkF m 315 #[.val (.int p1), .val (.int p2), .val (.int p3), .val (.int p4), .val (.int p5), .val (.int p6), .val (.int (3 : Int32)), .val (.int (0 : Int32)), .val (.long j21), .second, .val (.long j34), .second, .val (.long j48), .second, .val (.long j62), .second, .val (.double d71), .second, .val (.ref y1), .val (.ref y2), .val (.ref b_43), .val (.double d288), .second] [(.ref b_43)]))
          refine Go.step (fun t k => XS.iload X_44.here hx rfl (hb hby at_315) rfl  k) ?_
          show Go p.tables e below P (T_44.setTop (mkF m 317 #[.val (.int p1), .val (.int p2), .val (.int p3), .val (.int p4), .val (.int p5), .val (.int p6), .val (.int (3 : Int32)), .val (.int (0 : Int32)), .val (.long j21), .second, .val (.long j34), .second, .val (.long j48), .second, .val (.long j62), .second, .val (.double d71), .second, .val (.ref y1), .val (.ref y2), .val (.ref b_43), .val (.double d288), .second] [(.int (0 : Int32)), (.ref b_43)]))
          obtain ⟨cq_45, kq_45, q_45a, q_45b, q_45c⟩ := isOf hZ rfl (A_43.keep Kc_44)
          obtain ⟨_, _, ⟨T_45, L_45, k_45, n_45⟩, -, X_45, ⟨Lc_45, hQ_45, l_45, y_45, z_45⟩, st_45⟩ := X_44.virtualBack hx (y := (⟨"com/example/gleitfahrt/gleitfahrt/engine/ForceCurve$Table", "upperMs", "(I)D"⟩ : MethodName)) (z := (⟨"com/example/gleitfahrt/gleitfahrt/engine/ForceCurve$Table", "upperMs", "(I)D"⟩ : MethodName)) hown (mvT hZ (hw _ (List.mem_of_getElem? (i := 36) rfl))) (mvT hZ (hw _ (List.mem_of_getElem? (i := 37) rfl))) (notFace_of_selects (args := #[]) (mvT hZ (hw _ (List.mem_of_getElem? (i := 39) rfl)))) (mvT hZ (hw _ (List.mem_of_getElem? (i := 39) rfl))) (mvT hZ (hw _ (List.mem_of_getElem? (i := 38) rfl))) (by decide) (backOf (W := 0) (up3_0 l Z a0 hw [] b_43 x1 k_29 d158 d164 d170 T_44.heap n0 Z_44 Fx1 Vx1) hZ (hw _ (List.mem_of_getElem? (i := 40) rfl)) (hw _ (List.mem_of_getElem? (i := 6) rfl)) (by decide) (by decide)) q_45a q_45c (g := (mkF m 317 #[.val (.int p1), .val (.int p2), .val (.int p3), .val (.int p4), .val (.int p5), .val (.int p6), .val (.int (3 : Int32)), .val (.int (0 : Int32)), .val (.long j21), .second, .val (.long j34), .second, .val (.long j48), .second, .val (.long j62), .second, .val (.double d71), .second, .val (.ref y1), .val (.ref y2), .val (.ref b_43), .val (.double d288), .second] [(.int (0 : Int32)), (.ref b_43)])) rfl (by rw [hml]; rfl) (Steps.refl _) (argsL := [(.int (0 : Int32))]) (rest := []) (lenOf pd_3 rfl) rfl (by show 2 * 0 + _ ≤ _; exact Nat.le_of_eq rfl) (hb hby at_317) (fun _ _ => ⟨rfl, rfl, (by decide : 5 + 0 ≤ _), (by decide : 14 + 0 ≤ _)⟩)
          dsimp only [Pt.U, Pt.locs, Pt.cells, Pt.slots] at X_45 l_45 y_45 z_45 st_45 hQ_45
          subst l_45 y_45 z_45
          obtain ⟨rfl, N_45q, eh_45⟩ := hQ_45
          have N_45 := Fr.app N_44 N_45q
          refine Go.tr st_45 ?_
          show Go p.tables e below P (T_45.setTop (mkF m 320 #[.val (.int p1), .val (.int p2), .val (.int p3), .val (.int p4), .val (.int p5), .val (.int p6), .val (.int (3 : Int32)), .val (.int (0 : Int32)), .val (.long j21), .second, .val (.long j34), .second, .val (.long j48), .second, .val (.long j62), .second, .val (.double d71), .second, .val (.ref y1), .val (.ref y2), .val (.ref b_43), .val (.double d288), .second] [(.double d164)]))
          refine Go.step (fun t k => XS.dload X_45.here hx rfl (hb hby at_320) rfl  k) ?_
          show Go p.tables e below P (T_45.setTop (mkF m 322 #[.val (.int p1), .val (.int p2), .val (.int p3), .val (.int p4), .val (.int p5), .val (.int p6), .val (.int (3 : Int32)), .val (.int (0 : Int32)), .val (.long j21), .second, .val (.long j34), .second, .val (.long j48), .second, .val (.long j62), .second, .val (.double d71), .second, .val (.ref y1), .val (.ref y2), .val (.ref b_43), .val (.double d288), .second] [(.double d288), (.double d164)]))
          refine Go.step (fun t k => XS.dcmpS X_45.here hx rfl (hb hby at_322) rfl rfl k) ?_
          show Go p.tables e below P (T_45.setTop (mkF m 323 #[.val (.int p1), .val (.int p2), .val (.int p3), .val (.int p4), .val (.int p5), .val (.int p6), .val (.int (3 : Int32)), .val (.int (0 : Int32)), .val (.long j21), .second, .val (.long j34), .second, .val (.long j48), .second, .val (.long j62), .second, .val (.double d71), .second, .val (.ref y1), .val (.ref y2), .val (.ref b_43), .val (.double d288), .second] [(.int (cmpValue (FP.dcmp d164 d288) .l))]))
          refine Go.step (fun t k => XS.ifNo X_45.here hx rfl (hb hby at_323) rfl (dcN (cd := .ne) (DE.cmp Q1 R288) (fun q => q rfl)) k) ?_
          show Go p.tables e below P (T_45.setTop (mkF m 326 #[.val (.int p1), .val (.int p2), .val (.int p3), .val (.int p4), .val (.int p5), .val (.int p6), .val (.int (3 : Int32)), .val (.int (0 : Int32)), .val (.long j21), .second, .val (.long j34), .second, .val (.long j48), .second, .val (.long j62), .second, .val (.double d71), .second, .val (.ref y1), .val (.ref y2), .val (.ref b_43), .val (.double d288), .second] []))
          refine Go.step (fun t k => XS.aload X_45.here hx rfl (hb hby at_326) rfl rfl k) ?_
          show Go p.tables e below P (T_45.setTop (mkF m 328 #[.val (.int p1), .val (.int p2), .val (.int p3), .val (.int p4), .val (.int p5), .val (.int p6), .val (.int (3 : Int32)), .val (.int (0 : Int32)), .val (.long j21), .second, .val (.long j34), .second, .val (.long j48), .second, .val (.long j62), .second, .val (.double d71), .second, .val (.ref y1), .val (.ref y2), .val (.ref b_43), .val (.double d288), .second] [(.ref b_43)]))
          refine Go.step (fun t k => XS.iload X_45.here hx rfl (hb hby at_328) rfl  k) ?_
          show Go p.tables e below P (T_45.setTop (mkF m 330 #[.val (.int p1), .val (.int p2), .val (.int p3), .val (.int p4), .val (.int p5), .val (.int p6), .val (.int (3 : Int32)), .val (.int (0 : Int32)), .val (.long j21), .second, .val (.long j34), .second, .val (.long j48), .second, .val (.long j62), .second, .val (.double d71), .second, .val (.ref y1), .val (.ref y2), .val (.ref b_43), .val (.double d288), .second] [(.int (3 : Int32)), (.ref b_43)]))
          refine Go.step (fun t k => XS.iconst X_45.here hx rfl (hb hby at_330) k) ?_
          show Go p.tables e below P (T_45.setTop (mkF m 331 #[.val (.int p1), .val (.int p2), .val (.int p3), .val (.int p4), .val (.int p5), .val (.int p6), .val (.int (3 : Int32)), .val (.int (0 : Int32)), .val (.long j21), .second, .val (.long j34), .second, .val (.long j48), .second, .val (.long j62), .second, .val (.double d71), .second, .val (.ref y1), .val (.ref y2), .val (.ref b_43), .val (.double d288), .second] [(.int (1 : Int32)), (.int (3 : Int32)), (.ref b_43)]))
          obtain ⟨jm, hjm⟩ : ∃ z : Int32, (3 : Int32) - (1 : Int32) = z := ⟨_, rfl⟩
          refine Go.step (fun t k => isub_v X_45.here hx rfl (hb hby at_331) rfl  hjm k) ?_
          show Go p.tables e below P (T_45.setTop (mkF m 332 #[.val (.int p1), .val (.int p2), .val (.int p3), .val (.int p4), .val (.int p5), .val (.int p6), .val (.int (3 : Int32)), .val (.int (0 : Int32)), .val (.long j21), .second, .val (.long j34), .second, .val (.long j48), .second, .val (.long j62), .second, .val (.double d71), .second, .val (.ref y1), .val (.ref y2), .val (.ref b_43), .val (.double d288), .second] [(.int jm), (.ref b_43)]))
          have ez_jm : jm = (2 : Int32) := by rw [← hjm]; rfl
          subst ez_jm
          show Go p.tables e below P (T_45.setTop (mkF m 332 #[.val (.int p1), .val (.int p2), .val (.int p3), .val (.int p4), .val (.int p5), .val (.int p6), .val (.int (3 : Int32)), .val (.int (0 : Int32)), .val (.long j21), .second, .val (.long j34), .second, .val (.long j48), .second, .val (.long j62), .second, .val (.double d71), .second, .val (.ref y1), .val (.ref y2), .val (.ref b_43), .val (.double d288), .second] [(.int (2 : Int32)), (.ref b_43)]))
          obtain ⟨cq_46, kq_46, q_46a, q_46b, q_46c⟩ := isOf hZ eh_45 (A_43.keep Kc_44)
          obtain ⟨_, _, ⟨T_46, L_46, k_46, n_46⟩, -, X_46, ⟨Lc_46, hQ_46, l_46, y_46, z_46⟩, st_46⟩ := X_45.virtualBack hx (y := (⟨"com/example/gleitfahrt/gleitfahrt/engine/ForceCurve$Table", "upperMs", "(I)D"⟩ : MethodName)) (z := (⟨"com/example/gleitfahrt/gleitfahrt/engine/ForceCurve$Table", "upperMs", "(I)D"⟩ : MethodName)) hown (mvT hZ (hw _ (List.mem_of_getElem? (i := 36) rfl))) (mvT hZ (hw _ (List.mem_of_getElem? (i := 37) rfl))) (notFace_of_selects (args := #[]) (mvT hZ (hw _ (List.mem_of_getElem? (i := 39) rfl)))) (mvT hZ (hw _ (List.mem_of_getElem? (i := 39) rfl))) (mvT hZ (hw _ (List.mem_of_getElem? (i := 38) rfl))) (by decide) (backOf (W := 0) (up3_2 l Z a0 hw [] b_43 x1 k_29 d158 d164 d170 T_44.heap n0 Z_44 Fx1 Vx1) hZ (hw _ (List.mem_of_getElem? (i := 40) rfl)) (hw _ (List.mem_of_getElem? (i := 6) rfl)) (by decide) (by decide)) q_46a q_46c (g := (mkF m 332 #[.val (.int p1), .val (.int p2), .val (.int p3), .val (.int p4), .val (.int p5), .val (.int p6), .val (.int (3 : Int32)), .val (.int (0 : Int32)), .val (.long j21), .second, .val (.long j34), .second, .val (.long j48), .second, .val (.long j62), .second, .val (.double d71), .second, .val (.ref y1), .val (.ref y2), .val (.ref b_43), .val (.double d288), .second] [(.int (2 : Int32)), (.ref b_43)])) rfl (by rw [hml]; rfl) (Steps.refl _) (argsL := [(.int (2 : Int32))]) (rest := []) (lenOf pd_3 rfl) rfl (by show 2 * 0 + _ ≤ _; exact Nat.le_of_eq rfl) (hb hby at_332) (fun _ _ => ⟨rfl, eh_45, (by decide : 5 + 0 ≤ _), (by decide : 14 + 0 ≤ _)⟩)
          dsimp only [Pt.U, Pt.locs, Pt.cells, Pt.slots] at X_46 l_46 y_46 z_46 st_46 hQ_46
          subst l_46 y_46 z_46
          obtain ⟨rfl, N_46q, eh_46⟩ := hQ_46
          have N_46 := Fr.app N_45 N_46q
          refine Go.tr st_46 ?_
          show Go p.tables e below P (T_46.setTop (mkF m 335 #[.val (.int p1), .val (.int p2), .val (.int p3), .val (.int p4), .val (.int p5), .val (.int p6), .val (.int (3 : Int32)), .val (.int (0 : Int32)), .val (.long j21), .second, .val (.long j34), .second, .val (.long j48), .second, .val (.long j62), .second, .val (.double d71), .second, .val (.ref y1), .val (.ref y2), .val (.ref b_43), .val (.double d288), .second] [(.double (9218868437227405312 : UInt64))]))
          refine Go.step (fun t k => X_46.ldc2DoubleC hx hown (mvT hZ (hw _ (List.mem_of_getElem? (i := 35) rfl))) (g := (mkF m 335 #[.val (.int p1), .val (.int p2), .val (.int p3), .val (.int p4), .val (.int p5), .val (.int p6), .val (.int (3 : Int32)), .val (.int (0 : Int32)), .val (.long j21), .second, .val (.long j34), .second, .val (.long j48), .second, .val (.long j62), .second, .val (.double d71), .second, .val (.ref y1), .val (.ref y2), .val (.ref b_43), .val (.double d288), .second] [(.double (9218868437227405312 : UInt64))])) rfl (hb hby at_335) t k) ?_
          show Go p.tables e below P (T_46.setTop (mkF m 338 #[.val (.int p1), .val (.int p2), .val (.int p3), .val (.int p4), .val (.int p5), .val (.int p6), .val (.int (3 : Int32)), .val (.int (0 : Int32)), .val (.long j21), .second, .val (.long j34), .second, .val (.long j48), .second, .val (.long j62), .second, .val (.double d71), .second, .val (.ref y1), .val (.ref y2), .val (.ref b_43), .val (.double d288), .second] [(.double (9218868437227405312 : UInt64)), (.double (9218868437227405312 : UInt64))]))
          refine Go.step (fun t k => XS.dcmpS X_46.here hx rfl (hb hby at_338) rfl rfl k) ?_
          show Go p.tables e below P (T_46.setTop (mkF m 339 #[.val (.int p1), .val (.int p2), .val (.int p3), .val (.int p4), .val (.int p5), .val (.int p6), .val (.int (3 : Int32)), .val (.int (0 : Int32)), .val (.long j21), .second, .val (.long j34), .second, .val (.long j48), .second, .val (.long j62), .second, .val (.double d71), .second, .val (.ref y1), .val (.ref y2), .val (.ref b_43), .val (.double d288), .second] [(.int (cmpValue (FP.dcmp (9218868437227405312 : UInt64) (9218868437227405312 : UInt64)) .l))]))
          refine Go.step (fun t k => XS.ifNo X_46.here hx rfl (hb hby at_339) rfl (dcN (cd := .ne) (same_cmp inf_ok) (fun q => q rfl)) k) ?_
          show Go p.tables e below P (T_46.setTop (mkF m 342 #[.val (.int p1), .val (.int p2), .val (.int p3), .val (.int p4), .val (.int p5), .val (.int p6), .val (.int (3 : Int32)), .val (.int (0 : Int32)), .val (.long j21), .second, .val (.long j34), .second, .val (.long j48), .second, .val (.long j62), .second, .val (.double d71), .second, .val (.ref y1), .val (.ref y2), .val (.ref b_43), .val (.double d288), .second] []))
          refine Go.step (fun t k => XS.iconst X_46.here hx rfl (hb hby at_342) k) ?_
          show Go p.tables e below P (T_46.setTop (mkF m 343 #[.val (.int p1), .val (.int p2), .val (.int p3), .val (.int p4), .val (.int p5), .val (.int p6), .val (.int (3 : Int32)), .val (.int (0 : Int32)), .val (.long j21), .second, .val (.long j34), .second, .val (.long j48), .second, .val (.long j62), .second, .val (.double d71), .second, .val (.ref y1), .val (.ref y2), .val (.ref b_43), .val (.double d288), .second] [(.int (1 : Int32))]))
          refine Go.step (fun t k => XS.goto X_46.here hx rfl (pc0 := 343) (pc' := 347) rfl (hb hby at_343) (by decide) (by decide) k) ?_
          show Go p.tables e below P (T_46.setTop (mkF m 347 #[.val (.int p1), .val (.int p2), .val (.int p3), .val (.int p4), .val (.int p5), .val (.int p6), .val (.int (3 : Int32)), .val (.int (0 : Int32)), .val (.long j21), .second, .val (.long j34), .second, .val (.long j48), .second, .val (.long j62), .second, .val (.double d71), .second, .val (.ref y1), .val (.ref y2), .val (.ref b_43), .val (.double d288), .second] [(.int (1 : Int32))]))
          exact retGo X_46 hx hP Bd.returns hlk rfl (Or.inl ⟨rfl, Or.inr (Or.inl rfl), _, rfl⟩) (hb hby at_347) (by decide) (by decide) (by rw [eh_46]; exact ⟨rfl, N_46⟩)
        · subst ej13
          show Go p.tables e below P (T_44.setTop (mkF m 264 #[.val (.int p1), .val (.int p2), .val (.int p3), .val (.int p4), .val (.int p5), .val (.int p6), .val (.int (3 : Int32)), .val (.int (1 : Int32)), .val (.long j21), .second, .val (.long j34), .second, .val (.long j48), .second, .val (.long j62), .second, .val (.double d71), .second, .val (.ref y1), .val (.ref y2), .val (.ref b_43), .unset, .unset] []))
          refine Go.step (fun t k => XS.iload X_44.here hx rfl (hb hby at_264) rfl  k) ?_
          show Go p.tables e below P (T_44.setTop (mkF m 266 #[.val (.int p1), .val (.int p2), .val (.int p3), .val (.int p4), .val (.int p5), .val (.int p6), .val (.int (3 : Int32)), .val (.int (1 : Int32)), .val (.long j21), .second, .val (.long j34), .second, .val (.long j48), .second, .val (.long j62), .second, .val (.double d71), .second, .val (.ref y1), .val (.ref y2), .val (.ref b_43), .unset, .unset] [(.int (1 : Int32))]))
          refine Go.step (fun t k => XS.iconst X_44.here hx rfl (hb hby at_266) k) ?_
          show Go p.tables e below P (T_44.setTop (mkF m 267 #[.val (.int p1), .val (.int p2), .val (.int p3), .val (.int p4), .val (.int p5), .val (.int p6), .val (.int (3 : Int32)), .val (.int (1 : Int32)), .val (.long j21), .second, .val (.long j34), .second, .val (.long j48), .second, .val (.long j62), .second, .val (.double d71), .second, .val (.ref y1), .val (.ref y2), .val (.ref b_43), .unset, .unset] [(.int (1 : Int32)), (.int (1 : Int32))]))
          obtain ⟨ja, hja⟩ : ∃ z : Int32, (1 : Int32) + (1 : Int32) = z := ⟨_, rfl⟩
          refine Go.step (fun t k => iadd_v X_44.here hx rfl (hb hby at_267) rfl  hja k) ?_
          show Go p.tables e below P (T_44.setTop (mkF m 268 #[.val (.int p1), .val (.int p2), .val (.int p3), .val (.int p4), .val (.int p5), .val (.int p6), .val (.int (3 : Int32)), .val (.int (1 : Int32)), .val (.long j21), .second, .val (.long j34), .second, .val (.long j48), .second, .val (.long j62), .second, .val (.double d71), .second, .val (.ref y1), .val (.ref y2), .val (.ref b_43), .unset, .unset] [(.int ja)]))
          have ez_ja : ja = (2 : Int32) := by rw [← hja]; rfl
          subst ez_ja
          show Go p.tables e below P (T_44.setTop (mkF m 268 #[.val (.int p1), .val (.int p2), .val (.int p3), .val (.int p4), .val (.int p5), .val (.int p6), .val (.int (3 : Int32)), .val (.int (1 : Int32)), .val (.long j21), .second, .val (.long j34), .second, .val (.long j48), .second, .val (.long j62), .second, .val (.double d71), .second, .val (.ref y1), .val (.ref y2), .val (.ref b_43), .unset, .unset] [(.int (2 : Int32))]))
          refine Go.step (fun t k => XS.iload X_44.here hx rfl (hb hby at_268) rfl  k) ?_
          show Go p.tables e below P (T_44.setTop (mkF m 270 #[.val (.int p1), .val (.int p2), .val (.int p3), .val (.int p4), .val (.int p5), .val (.int p6), .val (.int (3 : Int32)), .val (.int (1 : Int32)), .val (.long j21), .second, .val (.long j34), .second, .val (.long j48), .second, .val (.long j62), .second, .val (.double d71), .second, .val (.ref y1), .val (.ref y2), .val (.ref b_43), .unset, .unset] [(.int (3 : Int32)), (.int (2 : Int32))]))
          refine Go.step (fun t k => XS.icmpYes X_44.here hx rfl (pc0 := 270) (pc' := 281) rfl (hb hby at_270) rfl (icY (cd := .lt) (by decide : (2 : Int) < (3 : Int))) (by decide) (by decide) k) ?_
          show Go p.tables e below P (T_44.setTop (mkF m 281 #[.val (.int p1), .val (.int p2), .val (.int p3), .val (.int p4), .val (.int p5), .val (.int p6), .val (.int (3 : Int32)), .val (.int (1 : Int32)), .val (.long j21), .second, .val (.long j34), .second, .val (.long j48), .second, .val (.long j62), .second, .val (.double d71), .second, .val (.ref y1), .val (.ref y2), .val (.ref b_43), .unset, .unset] []))
          refine Go.step (fun t k => XS.iload X_44.here hx rfl (hb hby at_281) rfl  k) ?_
          show Go p.tables e below P (T_44.setTop (mkF m 283 #[.val (.int p1), .val (.int p2), .val (.int p3), .val (.int p4), .val (.int p5), .val (.int p6), .val (.int (3 : Int32)), .val (.int (1 : Int32)), .val (.long j21), .second, .val (.long j34), .second, .val (.long j48), .second, .val (.long j62), .second, .val (.double d71), .second, .val (.ref y1), .val (.ref y2), .val (.ref b_43), .unset, .unset] [(.int (1 : Int32))]))
          refine Go.step (fun t k => XS.ifYes X_44.here hx rfl (pc0 := 283) (pc' := 294) rfl (hb hby at_283) rfl (ifY (cd := .ne) (by decide : ¬ (1 : Int) = 0)) (by decide) (by decide) k) ?_
          show Go p.tables e below P (T_44.setTop (mkF m 294 #[.val (.int p1), .val (.int p2), .val (.int p3), .val (.int p4), .val (.int p5), .val (.int p6), .val (.int (3 : Int32)), .val (.int (1 : Int32)), .val (.long j21), .second, .val (.long j34), .second, .val (.long j48), .second, .val (.long j62), .second, .val (.double d71), .second, .val (.ref y1), .val (.ref y2), .val (.ref b_43), .unset, .unset] []))
          refine Go.step (fun t k => XS.iload X_44.here hx rfl (hb hby at_294) rfl  k) ?_
          show Go p.tables e below P (T_44.setTop (mkF m 296 #[.val (.int p1), .val (.int p2), .val (.int p3), .val (.int p4), .val (.int p5), .val (.int p6), .val (.int (3 : Int32)), .val (.int (1 : Int32)), .val (.long j21), .second, .val (.long j34), .second, .val (.long j48), .second, .val (.long j62), .second, .val (.double d71), .second, .val (.ref y1), .val (.ref y2), .val (.ref b_43), .unset, .unset] [(.int (1 : Int32))]))
          refine Go.step (fun t k => XS.iconst X_44.here hx rfl (hb hby at_296) k) ?_
          show Go p.tables e below P (T_44.setTop (mkF m 297 #[.val (.int p1), .val (.int p2), .val (.int p3), .val (.int p4), .val (.int p5), .val (.int p6), .val (.int (3 : Int32)), .val (.int (1 : Int32)), .val (.long j21), .second, .val (.long j34), .second, .val (.long j48), .second, .val (.long j62), .second, .val (.double d71), .second, .val (.ref y1), .val (.ref y2), .val (.ref b_43), .unset, .unset] [(.int (1 : Int32)), (.int (1 : Int32))]))
          refine Go.step (fun t k => XS.icmpNo X_44.here hx rfl (hb hby at_297) rfl (icN (cd := .ne) (by decide : ¬ (¬ (1 : Int) = (1 : Int)))) k) ?_
          show Go p.tables e below P (T_44.setTop (mkF m 300 #[.val (.int p1), .val (.int p2), .val (.int p3), .val (.int p4), .val (.int p5), .val (.int p6), .val (.int (3 : Int32)), .val (.int (1 : Int32)), .val (.long j21), .second, .val (.long j34), .second, .val (.long j48), .second, .val (.long j62), .second, .val (.double d71), .second, .val (.ref y1), .val (.ref y2), .val (.ref b_43), .unset, .unset] []))
          refine Go.step (fun t k => XS.lload X_44.here hx rfl (hb hby at_300) rfl  k) ?_
          show Go p.tables e below P (T_44.setTop (mkF m 302 #[.val (.int p1), .val (.int p2), .val (.int p3), .val (.int p4), .val (.int p5), .val (.int p6), .val (.int (3 : Int32)), .val (.int (1 : Int32)), .val (.long j21), .second, .val (.long j34), .second, .val (.long j48), .second, .val (.long j62), .second, .val (.double d71), .second, .val (.ref y1), .val (.ref y2), .val (.ref b_43), .unset, .unset] [(.long j48)]))
          obtain ⟨d302, hd302⟩ : ∃ z : UInt64, FP.l2d j48 = z := ⟨_, rfl⟩
          refine Go.step (fun t k => XS.l2dS X_44.here hx rfl (hb hby at_302) rfl hd302 k) ?_
          show Go p.tables e below P (T_44.setTop (mkF m 303 #[.val (.int p1), .val (.int p2), .val (.int p3), .val (.int p4), .val (.int p5), .val (.int p6), .val (.int (3 : Int32)), .val (.int (1 : Int32)), .val (.long j21), .second, .val (.long j34), .second, .val (.long j48), .second, .val (.long j62), .second, .val (.double d71), .second, .val (.ref y1), .val (.ref y2), .val (.ref b_43), .unset, .unset] [(.double d302)]))
          have R302 := l2d_e (x := j48) (by omega); rw [hd302] at R302
          refine Go.step (fun t k => XS.dstore X_44.here hx rfl (hb hby at_303) rfl (l' := #[.val (.int p1), .val (.int p2), .val (.int p3), .val (.int p4), .val (.int p5), .val (.int p6), .val (.int (3 : Int32)), .val (.int (1 : Int32)), .val (.long j21), .second, .val (.long j34), .second, .val (.long j48), .second, .val (.long j62), .second, .val (.double d71), .second, .val (.ref y1), .val (.ref y2), .val (.ref b_43), .val (.double d302), .second]) rfl k) ?_
          show Go p.tables e below P (T_44.setTop (mkF m 305 #[.val (.int p1), .val (.int p2), .val (.int p3), .val (.int p4), .val (.int p5), .val (.int p6), .val (.int (3 : Int32)), .val (.int (1 : Int32)), .val (.long j21), .second, .val (.long j34), .second, .val (.long j48), .second, .val (.long j62), .second, .val (.double d71), .second, .val (.ref y1), .val (.ref y2), .val (.ref b_43), .val (.double d302), .second] []))
          refine Go.step (fun t k => XS.goto X_44.here hx rfl (pc0 := 305) (pc' := 313) rfl (hb hby at_305) (by decide) (by decide) k) ?_
          show Go p.tables e below P (T_44.setTop (mkF m 313 #[.val (.int p1), .val (.int p2), .val (.int p3), .val (.int p4), .val (.int p5), .val (.int p6), .val (.int (3 : Int32)), .val (.int (1 : Int32)), .val (.long j21), .second, .val (.long j34), .second, .val (.long j48), .second, .val (.long j62), .second, .val (.double d71), .second, .val (.ref y1), .val (.ref y2), .val (.ref b_43), .val (.double d302), .second] []))
          refine Go.step (fun t k => XS.aload X_44.here hx rfl (hb hby at_313) rfl rfl k) ?_
          show Go p.tables e below P (T_44.setTop (mkF m 315 #[.val (.int p1), .val (.int p2), .val (.int p3), .val (.int p4), .val (.int p5), .val (.int p6), .val (.int (3 : Int32)), .val (.int (1 : Int32)), .val (.long j21), .second, .val (.long j34), .second, .val (.long j48), .second, .val (.long j62), .second, .val (.double d71), .second, .val (.ref y1), .val (.ref y2), .val (.ref b_43), .val (.double d302), .second] [(.ref b_43)]))
          refine Go.step (fun t k => XS.iload X_44.here hx rfl (hb hby at_315) rfl  k) ?_
          show Go p.tables e below P (T_44.setTop (mkF m 317 #[.val (.int p1), .val (.int p2), .val (.int p3), .val (.int p4), .val (.int p5), .val (.int p6), .val (.int (3 : Int32)), .val (.int (1 : Int32)), .val (.long j21), .second, .val (.long j34), .second, .val (.long j48), .second, .val (.long j62), .second, .val (.double d71), .second, .val (.ref y1), .val (.ref y2), .val (.ref b_43), .val (.double d302), .second] [(.int (1 : Int32)), (.ref b_43)]))
          obtain ⟨cq_47, kq_47, q_47a, q_47b, q_47c⟩ := isOf hZ rfl (A_43.keep Kc_44)
          obtain ⟨_, _, ⟨T_47, L_47, k_47, n_47⟩, -, X_47, ⟨Lc_47, hQ_47, l_47, y_47, z_47⟩, st_47⟩ := X_44.virtualBack hx (y := (⟨"com/example/gleitfahrt/gleitfahrt/engine/ForceCurve$Table", "upperMs", "(I)D"⟩ : MethodName)) (z := (⟨"com/example/gleitfahrt/gleitfahrt/engine/ForceCurve$Table", "upperMs", "(I)D"⟩ : MethodName)) hown (mvT hZ (hw _ (List.mem_of_getElem? (i := 36) rfl))) (mvT hZ (hw _ (List.mem_of_getElem? (i := 37) rfl))) (notFace_of_selects (args := #[]) (mvT hZ (hw _ (List.mem_of_getElem? (i := 39) rfl)))) (mvT hZ (hw _ (List.mem_of_getElem? (i := 39) rfl))) (mvT hZ (hw _ (List.mem_of_getElem? (i := 38) rfl))) (by decide) (backOf (W := 0) (up3_1 l Z a0 hw [] b_43 x1 k_29 d158 d164 d170 T_44.heap n0 Z_44 Fx1 Vx1) hZ (hw _ (List.mem_of_getElem? (i := 40) rfl)) (hw _ (List.mem_of_getElem? (i := 6) rfl)) (by decide) (by decide)) q_47a q_47c (g := (mkF m 317 #[.val (.int p1), .val (.int p2), .val (.int p3), .val (.int p4), .val (.int p5), .val (.int p6), .val (.int (3 : Int32)), .val (.int (1 : Int32)), .val (.long j21), .second, .val (.long j34), .second, .val (.long j48), .second, .val (.long j62), .second, .val (.double d71), .second, .val (.ref y1), .val (.ref y2), .val (.ref b_43), .val (.double d302), .second] [(.int (1 : Int32)), (.ref b_43)])) rfl (by rw [hml]; rfl) (Steps.refl _) (argsL := [(.int (1 : Int32))]) (rest := []) (lenOf pd_3 rfl) rfl (by show 2 * 0 + _ ≤ _; exact Nat.le_of_eq rfl) (hb hby at_317) (fun _ _ => ⟨rfl, rfl, (by decide : 5 + 0 ≤ _), (by decide : 14 + 0 ≤ _)⟩)
          dsimp only [Pt.U, Pt.locs, Pt.cells, Pt.slots] at X_47 l_47 y_47 z_47 st_47 hQ_47
          subst l_47 y_47 z_47
          obtain ⟨rfl, N_47q, eh_47⟩ := hQ_47
          have N_47 := Fr.app N_44 N_47q
          refine Go.tr st_47 ?_
          show Go p.tables e below P (T_47.setTop (mkF m 320 #[.val (.int p1), .val (.int p2), .val (.int p3), .val (.int p4), .val (.int p5), .val (.int p6), .val (.int (3 : Int32)), .val (.int (1 : Int32)), .val (.long j21), .second, .val (.long j34), .second, .val (.long j48), .second, .val (.long j62), .second, .val (.double d71), .second, .val (.ref y1), .val (.ref y2), .val (.ref b_43), .val (.double d302), .second] [(.double d170)]))
          refine Go.step (fun t k => XS.dload X_47.here hx rfl (hb hby at_320) rfl  k) ?_
          show Go p.tables e below P (T_47.setTop (mkF m 322 #[.val (.int p1), .val (.int p2), .val (.int p3), .val (.int p4), .val (.int p5), .val (.int p6), .val (.int (3 : Int32)), .val (.int (1 : Int32)), .val (.long j21), .second, .val (.long j34), .second, .val (.long j48), .second, .val (.long j62), .second, .val (.double d71), .second, .val (.ref y1), .val (.ref y2), .val (.ref b_43), .val (.double d302), .second] [(.double d302), (.double d170)]))
          refine Go.step (fun t k => XS.dcmpS X_47.here hx rfl (hb hby at_322) rfl rfl k) ?_
          show Go p.tables e below P (T_47.setTop (mkF m 323 #[.val (.int p1), .val (.int p2), .val (.int p3), .val (.int p4), .val (.int p5), .val (.int p6), .val (.int (3 : Int32)), .val (.int (1 : Int32)), .val (.long j21), .second, .val (.long j34), .second, .val (.long j48), .second, .val (.long j62), .second, .val (.double d71), .second, .val (.ref y1), .val (.ref y2), .val (.ref b_43), .val (.double d302), .second] [(.int (cmpValue (FP.dcmp d170 d302) .l))]))
          refine Go.step (fun t k => XS.ifNo X_47.here hx rfl (hb hby at_323) rfl (dcN (cd := .ne) (DE.cmp Q2 R302) (fun q => q rfl)) k) ?_
          show Go p.tables e below P (T_47.setTop (mkF m 326 #[.val (.int p1), .val (.int p2), .val (.int p3), .val (.int p4), .val (.int p5), .val (.int p6), .val (.int (3 : Int32)), .val (.int (1 : Int32)), .val (.long j21), .second, .val (.long j34), .second, .val (.long j48), .second, .val (.long j62), .second, .val (.double d71), .second, .val (.ref y1), .val (.ref y2), .val (.ref b_43), .val (.double d302), .second] []))
          refine Go.step (fun t k => XS.aload X_47.here hx rfl (hb hby at_326) rfl rfl k) ?_
          show Go p.tables e below P (T_47.setTop (mkF m 328 #[.val (.int p1), .val (.int p2), .val (.int p3), .val (.int p4), .val (.int p5), .val (.int p6), .val (.int (3 : Int32)), .val (.int (1 : Int32)), .val (.long j21), .second, .val (.long j34), .second, .val (.long j48), .second, .val (.long j62), .second, .val (.double d71), .second, .val (.ref y1), .val (.ref y2), .val (.ref b_43), .val (.double d302), .second] [(.ref b_43)]))
          refine Go.step (fun t k => XS.iload X_47.here hx rfl (hb hby at_328) rfl  k) ?_
          show Go p.tables e below P (T_47.setTop (mkF m 330 #[.val (.int p1), .val (.int p2), .val (.int p3), .val (.int p4), .val (.int p5), .val (.int p6), .val (.int (3 : Int32)), .val (.int (1 : Int32)), .val (.long j21), .second, .val (.long j34), .second, .val (.long j48), .second, .val (.long j62), .second, .val (.double d71), .second, .val (.ref y1), .val (.ref y2), .val (.ref b_43), .val (.double d302), .second] [(.int (3 : Int32)), (.ref b_43)]))
          refine Go.step (fun t k => XS.iconst X_47.here hx rfl (hb hby at_330) k) ?_
          show Go p.tables e below P (T_47.setTop (mkF m 331 #[.val (.int p1), .val (.int p2), .val (.int p3), .val (.int p4), .val (.int p5), .val (.int p6), .val (.int (3 : Int32)), .val (.int (1 : Int32)), .val (.long j21), .second, .val (.long j34), .second, .val (.long j48), .second, .val (.long j62), .second, .val (.double d71), .second, .val (.ref y1), .val (.ref y2), .val (.ref b_43), .val (.double d302), .second] [(.int (1 : Int32)), (.int (3 : Int32)), (.ref b_43)]))
          obtain ⟨jm, hjm⟩ : ∃ z : Int32, (3 : Int32) - (1 : Int32) = z := ⟨_, rfl⟩
          refine Go.step (fun t k => isub_v X_47.here hx rfl (hb hby at_331) rfl  hjm k) ?_
          show Go p.tables e below P (T_47.setTop (mkF m 332 #[.val (.int p1), .val (.int p2), .val (.int p3), .val (.int p4), .val (.int p5), .val (.int p6), .val (.int (3 : Int32)), .val (.int (1 : Int32)), .val (.long j21), .second, .val (.long j34), .second, .val (.long j48), .second, .val (.long j62), .second, .val (.double d71), .second, .val (.ref y1), .val (.ref y2), .val (.ref b_43), .val (.double d302), .second] [(.int jm), (.ref b_43)]))
          have ez_jm : jm = (2 : Int32) := by rw [← hjm]; rfl
          subst ez_jm
          show Go p.tables e below P (T_47.setTop (mkF m 332 #[.val (.int p1), .val (.int p2), .val (.int p3), .val (.int p4), .val (.int p5), .val (.int p6), .val (.int (3 : Int32)), .val (.int (1 : Int32)), .val (.long j21), .second, .val (.long j34), .second, .val (.long j48), .second, .val (.long j62), .second, .val (.double d71), .second, .val (.ref y1), .val (.ref y2), .val (.ref b_43), .val (.double d302), .second] [(.int (2 : Int32)), (.ref b_43)]))
          obtain ⟨cq_48, kq_48, q_48a, q_48b, q_48c⟩ := isOf hZ eh_47 (A_43.keep Kc_44)
          obtain ⟨_, _, ⟨T_48, L_48, k_48, n_48⟩, -, X_48, ⟨Lc_48, hQ_48, l_48, y_48, z_48⟩, st_48⟩ := X_47.virtualBack hx (y := (⟨"com/example/gleitfahrt/gleitfahrt/engine/ForceCurve$Table", "upperMs", "(I)D"⟩ : MethodName)) (z := (⟨"com/example/gleitfahrt/gleitfahrt/engine/ForceCurve$Table", "upperMs", "(I)D"⟩ : MethodName)) hown (mvT hZ (hw _ (List.mem_of_getElem? (i := 36) rfl))) (mvT hZ (hw _ (List.mem_of_getElem? (i := 37) rfl))) (notFace_of_selects (args := #[]) (mvT hZ (hw _ (List.mem_of_getElem? (i := 39) rfl)))) (mvT hZ (hw _ (List.mem_of_getElem? (i := 39) rfl))) (mvT hZ (hw _ (List.mem_of_getElem? (i := 38) rfl))) (by decide) (backOf (W := 0) (up3_2 l Z a0 hw [] b_43 x1 k_29 d158 d164 d170 T_44.heap n0 Z_44 Fx1 Vx1) hZ (hw _ (List.mem_of_getElem? (i := 40) rfl)) (hw _ (List.mem_of_getElem? (i := 6) rfl)) (by decide) (by decide)) q_48a q_48c (g := (mkF m 332 #[.val (.int p1), .val (.int p2), .val (.int p3), .val (.int p4), .val (.int p5), .val (.int p6), .val (.int (3 : Int32)), .val (.int (1 : Int32)), .val (.long j21), .second, .val (.long j34), .second, .val (.long j48), .second, .val (.long j62), .second, .val (.double d71), .second, .val (.ref y1), .val (.ref y2), .val (.ref b_43), .val (.double d302), .second] [(.int (2 : Int32)), (.ref b_43)])) rfl (by rw [hml]; rfl) (Steps.refl _) (argsL := [(.int (2 : Int32))]) (rest := []) (lenOf pd_3 rfl) rfl (by show 2 * 0 + _ ≤ _; exact Nat.le_of_eq rfl) (hb hby at_332) (fun _ _ => ⟨rfl, eh_47, (by decide : 5 + 0 ≤ _), (by decide : 14 + 0 ≤ _)⟩)
          dsimp only [Pt.U, Pt.locs, Pt.cells, Pt.slots] at X_48 l_48 y_48 z_48 st_48 hQ_48
          subst l_48 y_48 z_48
          obtain ⟨rfl, N_48q, eh_48⟩ := hQ_48
          have N_48 := Fr.app N_47 N_48q
          refine Go.tr st_48 ?_
          show Go p.tables e below P (T_48.setTop (mkF m 335 #[.val (.int p1), .val (.int p2), .val (.int p3), .val (.int p4), .val (.int p5), .val (.int p6), .val (.int (3 : Int32)), .val (.int (1 : Int32)), .val (.long j21), .second, .val (.long j34), .second, .val (.long j48), .second, .val (.long j62), .second, .val (.double d71), .second, .val (.ref y1), .val (.ref y2), .val (.ref b_43), .val (.double d302), .second] [(.double (9218868437227405312 : UInt64))]))
          refine Go.step (fun t k => X_48.ldc2DoubleC hx hown (mvT hZ (hw _ (List.mem_of_getElem? (i := 35) rfl))) (g := (mkF m 335 #[.val (.int p1), .val (.int p2), .val (.int p3), .val (.int p4), .val (.int p5), .val (.int p6), .val (.int (3 : Int32)), .val (.int (1 : Int32)), .val (.long j21), .second, .val (.long j34), .second, .val (.long j48), .second, .val (.long j62), .second, .val (.double d71), .second, .val (.ref y1), .val (.ref y2), .val (.ref b_43), .val (.double d302), .second] [(.double (9218868437227405312 : UInt64))])) rfl (hb hby at_335) t k) ?_
          show Go p.tables e below P (T_48.setTop (mkF m 338 #[.val (.int p1), .val (.int p2), .val (.int p3), .val (.int p4), .val (.int p5), .val (.int p6), .val (.int (3 : Int32)), .val (.int (1 : Int32)), .val (.long j21), .second, .val (.long j34), .second, .val (.long j48), .second, .val (.long j62), .second, .val (.double d71), .second, .val (.ref y1), .val (.ref y2), .val (.ref b_43), .val (.double d302), .second] [(.double (9218868437227405312 : UInt64)), (.double (9218868437227405312 : UInt64))]))
          refine Go.step (fun t k => XS.dcmpS X_48.here hx rfl (hb hby at_338) rfl rfl k) ?_
          show Go p.tables e below P (T_48.setTop (mkF m 339 #[.val (.int p1), .val (.int p2), .val (.int p3), .val (.int p4), .val (.int p5), .val (.int p6), .val (.int (3 : Int32)), .val (.int (1 : Int32)), .val (.long j21), .second, .val (.long j34), .second, .val (.long j48), .second, .val (.long j62), .second, .val (.double d71), .second, .val (.ref y1), .val (.ref y2), .val (.ref b_43), .val (.double d302), .second] [(.int (cmpValue (FP.dcmp (9218868437227405312 : UInt64) (9218868437227405312 : UInt64)) .l))]))
          refine Go.step (fun t k => XS.ifNo X_48.here hx rfl (hb hby at_339) rfl (dcN (cd := .ne) (same_cmp inf_ok) (fun q => q rfl)) k) ?_
          show Go p.tables e below P (T_48.setTop (mkF m 342 #[.val (.int p1), .val (.int p2), .val (.int p3), .val (.int p4), .val (.int p5), .val (.int p6), .val (.int (3 : Int32)), .val (.int (1 : Int32)), .val (.long j21), .second, .val (.long j34), .second, .val (.long j48), .second, .val (.long j62), .second, .val (.double d71), .second, .val (.ref y1), .val (.ref y2), .val (.ref b_43), .val (.double d302), .second] []))
          refine Go.step (fun t k => XS.iconst X_48.here hx rfl (hb hby at_342) k) ?_
          show Go p.tables e below P (T_48.setTop (mkF m 343 #[.val (.int p1), .val (.int p2), .val (.int p3), .val (.int p4), .val (.int p5), .val (.int p6), .val (.int (3 : Int32)), .val (.int (1 : Int32)), .val (.long j21), .second, .val (.long j34), .second, .val (.long j48), .second, .val (.long j62), .second, .val (.double d71), .second, .val (.ref y1), .val (.ref y2), .val (.ref b_43), .val (.double d302), .second] [(.int (1 : Int32))]))
          refine Go.step (fun t k => XS.goto X_48.here hx rfl (pc0 := 343) (pc' := 347) rfl (hb hby at_343) (by decide) (by decide) k) ?_
          show Go p.tables e below P (T_48.setTop (mkF m 347 #[.val (.int p1), .val (.int p2), .val (.int p3), .val (.int p4), .val (.int p5), .val (.int p6), .val (.int (3 : Int32)), .val (.int (1 : Int32)), .val (.long j21), .second, .val (.long j34), .second, .val (.long j48), .second, .val (.long j62), .second, .val (.double d71), .second, .val (.ref y1), .val (.ref y2), .val (.ref b_43), .val (.double d302), .second] [(.int (1 : Int32))]))
          exact retGo X_48 hx hP Bd.returns hlk rfl (Or.inl ⟨rfl, Or.inr (Or.inl rfl), _, rfl⟩) (hb hby at_347) (by decide) (by decide) (by rw [eh_48]; exact ⟨rfl, N_48⟩)
        · subst ej13
          show Go p.tables e below P (T_44.setTop (mkF m 264 #[.val (.int p1), .val (.int p2), .val (.int p3), .val (.int p4), .val (.int p5), .val (.int p6), .val (.int (3 : Int32)), .val (.int (2 : Int32)), .val (.long j21), .second, .val (.long j34), .second, .val (.long j48), .second, .val (.long j62), .second, .val (.double d71), .second, .val (.ref y1), .val (.ref y2), .val (.ref b_43), .unset, .unset] []))
          refine Go.step (fun t k => XS.iload X_44.here hx rfl (hb hby at_264) rfl  k) ?_
          show Go p.tables e below P (T_44.setTop (mkF m 266 #[.val (.int p1), .val (.int p2), .val (.int p3), .val (.int p4), .val (.int p5), .val (.int p6), .val (.int (3 : Int32)), .val (.int (2 : Int32)), .val (.long j21), .second, .val (.long j34), .second, .val (.long j48), .second, .val (.long j62), .second, .val (.double d71), .second, .val (.ref y1), .val (.ref y2), .val (.ref b_43), .unset, .unset] [(.int (2 : Int32))]))
          refine Go.step (fun t k => XS.iconst X_44.here hx rfl (hb hby at_266) k) ?_
          show Go p.tables e below P (T_44.setTop (mkF m 267 #[.val (.int p1), .val (.int p2), .val (.int p3), .val (.int p4), .val (.int p5), .val (.int p6), .val (.int (3 : Int32)), .val (.int (2 : Int32)), .val (.long j21), .second, .val (.long j34), .second, .val (.long j48), .second, .val (.long j62), .second, .val (.double d71), .second, .val (.ref y1), .val (.ref y2), .val (.ref b_43), .unset, .unset] [(.int (1 : Int32)), (.int (2 : Int32))]))
          obtain ⟨ja, hja⟩ : ∃ z : Int32, (2 : Int32) + (1 : Int32) = z := ⟨_, rfl⟩
          refine Go.step (fun t k => iadd_v X_44.here hx rfl (hb hby at_267) rfl  hja k) ?_
          show Go p.tables e below P (T_44.setTop (mkF m 268 #[.val (.int p1), .val (.int p2), .val (.int p3), .val (.int p4), .val (.int p5), .val (.int p6), .val (.int (3 : Int32)), .val (.int (2 : Int32)), .val (.long j21), .second, .val (.long j34), .second, .val (.long j48), .second, .val (.long j62), .second, .val (.double d71), .second, .val (.ref y1), .val (.ref y2), .val (.ref b_43), .unset, .unset] [(.int ja)]))
          have ez_ja : ja = (3 : Int32) := by rw [← hja]; rfl
          subst ez_ja
          show Go p.tables e below P (T_44.setTop (mkF m 268 #[.val (.int p1), .val (.int p2), .val (.int p3), .val (.int p4), .val (.int p5), .val (.int p6), .val (.int (3 : Int32)), .val (.int (2 : Int32)), .val (.long j21), .second, .val (.long j34), .second, .val (.long j48), .second, .val (.long j62), .second, .val (.double d71), .second, .val (.ref y1), .val (.ref y2), .val (.ref b_43), .unset, .unset] [(.int (3 : Int32))]))
          refine Go.step (fun t k => XS.iload X_44.here hx rfl (hb hby at_268) rfl  k) ?_
          show Go p.tables e below P (T_44.setTop (mkF m 270 #[.val (.int p1), .val (.int p2), .val (.int p3), .val (.int p4), .val (.int p5), .val (.int p6), .val (.int (3 : Int32)), .val (.int (2 : Int32)), .val (.long j21), .second, .val (.long j34), .second, .val (.long j48), .second, .val (.long j62), .second, .val (.double d71), .second, .val (.ref y1), .val (.ref y2), .val (.ref b_43), .unset, .unset] [(.int (3 : Int32)), (.int (3 : Int32))]))
          refine Go.step (fun t k => XS.icmpNo X_44.here hx rfl (hb hby at_270) rfl (icN (cd := .lt) (by decide : ¬ ((3 : Int) < (3 : Int)))) k) ?_
          show Go p.tables e below P (T_44.setTop (mkF m 273 #[.val (.int p1), .val (.int p2), .val (.int p3), .val (.int p4), .val (.int p5), .val (.int p6), .val (.int (3 : Int32)), .val (.int (2 : Int32)), .val (.long j21), .second, .val (.long j34), .second, .val (.long j48), .second, .val (.long j62), .second, .val (.double d71), .second, .val (.ref y1), .val (.ref y2), .val (.ref b_43), .unset, .unset] []))
          refine Go.step (fun t k => X_44.ldc2DoubleC hx hown (mvT hZ (hw _ (List.mem_of_getElem? (i := 35) rfl))) (g := (mkF m 273 #[.val (.int p1), .val (.int p2), .val (.int p3), .val (.int p4), .val (.int p5), .val (.int p6), .val (.int (3 : Int32)), .val (.int (2 : Int32)), .val (.long j21), .second, .val (.long j34), .second, .val (.long j48), .second, .val (.long j62), .second, .val (.double d71), .second, .val (.ref y1), .val (.ref y2), .val (.ref b_43), .unset, .unset] [])) rfl (hb hby at_273) t k) ?_
          show Go p.tables e below P (T_44.setTop (mkF m 276 #[.val (.int p1), .val (.int p2), .val (.int p3), .val (.int p4), .val (.int p5), .val (.int p6), .val (.int (3 : Int32)), .val (.int (2 : Int32)), .val (.long j21), .second, .val (.long j34), .second, .val (.long j48), .second, .val (.long j62), .second, .val (.double d71), .second, .val (.ref y1), .val (.ref y2), .val (.ref b_43), .unset, .unset] [(.double (9218868437227405312 : UInt64))]))
          refine Go.step (fun t k => XS.dstore X_44.here hx rfl (hb hby at_276) rfl (l' := #[.val (.int p1), .val (.int p2), .val (.int p3), .val (.int p4), .val (.int p5), .val (.int p6), .val (.int (3 : Int32)), .val (.int (2 : Int32)), .val (.long j21), .second, .val (.long j34), .second, .val (.long j48), .second, .val (.long j62), .second, .val (.double d71), .second, .val (.ref y1), .val (.ref y2), .val (.ref b_43), .val (.double (9218868437227405312 : UInt64)), .second]) rfl k) ?_
          show Go p.tables e below P (T_44.setTop (mkF m 278 #[.val (.int p1), .val (.int p2), .val (.int p3), .val (.int p4), .val (.int p5), .val (.int p6), .val (.int (3 : Int32)), .val (.int (2 : Int32)), .val (.long j21), .second, .val (.long j34), .second, .val (.long j48), .second, .val (.long j62), .second, .val (.double d71), .second, .val (.ref y1), .val (.ref y2), .val (.ref b_43), .val (.double (9218868437227405312 : UInt64)), .second] []))
          refine Go.step (fun t k => XS.goto X_44.here hx rfl (pc0 := 278) (pc' := 313) rfl (hb hby at_278) (by decide) (by decide) k) ?_
          show Go p.tables e below P (T_44.setTop (mkF m 313 #[.val (.int p1), .val (.int p2), .val (.int p3), .val (.int p4), .val (.int p5), .val (.int p6), .val (.int (3 : Int32)), .val (.int (2 : Int32)), .val (.long j21), .second, .val (.long j34), .second, .val (.long j48), .second, .val (.long j62), .second, .val (.double d71), .second, .val (.ref y1), .val (.ref y2), .val (.ref b_43), .val (.double (9218868437227405312 : UInt64)), .second] []))
          refine Go.step (fun t k => XS.aload X_44.here hx rfl (hb hby at_313) rfl rfl k) ?_
          show Go p.tables e below P (T_44.setTop (mkF m 315 #[.val (.int p1), .val (.int p2), .val (.int p3), .val (.int p4), .val (.int p5), .val (.int p6), .val (.int (3 : Int32)), .val (.int (2 : Int32)), .val (.long j21), .second, .val (.long j34), .second, .val (.long j48), .second, .val (.long j62), .second, .val (.double d71), .second, .val (.ref y1), .val (.ref y2), .val (.ref b_43), .val (.double (9218868437227405312 : UInt64)), .second] [(.ref b_43)]))
          refine Go.step (fun t k => XS.iload X_44.here hx rfl (hb hby at_315) rfl  k) ?_
          show Go p.tables e below P (T_44.setTop (mkF m 317 #[.val (.int p1), .val (.int p2), .val (.int p3), .val (.int p4), .val (.int p5), .val (.int p6), .val (.int (3 : Int32)), .val (.int (2 : Int32)), .val (.long j21), .second, .val (.long j34), .second, .val (.long j48), .second, .val (.long j62), .second, .val (.double d71), .second, .val (.ref y1), .val (.ref y2), .val (.ref b_43), .val (.double (9218868437227405312 : UInt64)), .second] [(.int (2 : Int32)), (.ref b_43)]))
          obtain ⟨cq_49, kq_49, q_49a, q_49b, q_49c⟩ := isOf hZ rfl (A_43.keep Kc_44)
          obtain ⟨_, _, ⟨T_49, L_49, k_49, n_49⟩, -, X_49, ⟨Lc_49, hQ_49, l_49, y_49, z_49⟩, st_49⟩ := X_44.virtualBack hx (y := (⟨"com/example/gleitfahrt/gleitfahrt/engine/ForceCurve$Table", "upperMs", "(I)D"⟩ : MethodName)) (z := (⟨"com/example/gleitfahrt/gleitfahrt/engine/ForceCurve$Table", "upperMs", "(I)D"⟩ : MethodName)) hown (mvT hZ (hw _ (List.mem_of_getElem? (i := 36) rfl))) (mvT hZ (hw _ (List.mem_of_getElem? (i := 37) rfl))) (notFace_of_selects (args := #[]) (mvT hZ (hw _ (List.mem_of_getElem? (i := 39) rfl)))) (mvT hZ (hw _ (List.mem_of_getElem? (i := 39) rfl))) (mvT hZ (hw _ (List.mem_of_getElem? (i := 38) rfl))) (by decide) (backOf (W := 0) (up3_2 l Z a0 hw [] b_43 x1 k_29 d158 d164 d170 T_44.heap n0 Z_44 Fx1 Vx1) hZ (hw _ (List.mem_of_getElem? (i := 40) rfl)) (hw _ (List.mem_of_getElem? (i := 6) rfl)) (by decide) (by decide)) q_49a q_49c (g := (mkF m 317 #[.val (.int p1), .val (.int p2), .val (.int p3), .val (.int p4), .val (.int p5), .val (.int p6), .val (.int (3 : Int32)), .val (.int (2 : Int32)), .val (.long j21), .second, .val (.long j34), .second, .val (.long j48), .second, .val (.long j62), .second, .val (.double d71), .second, .val (.ref y1), .val (.ref y2), .val (.ref b_43), .val (.double (9218868437227405312 : UInt64)), .second] [(.int (2 : Int32)), (.ref b_43)])) rfl (by rw [hml]; rfl) (Steps.refl _) (argsL := [(.int (2 : Int32))]) (rest := []) (lenOf pd_3 rfl) rfl (by show 2 * 0 + _ ≤ _; exact Nat.le_of_eq rfl) (hb hby at_317) (fun _ _ => ⟨rfl, rfl, (by decide : 5 + 0 ≤ _), (by decide : 14 + 0 ≤ _)⟩)
          dsimp only [Pt.U, Pt.locs, Pt.cells, Pt.slots] at X_49 l_49 y_49 z_49 st_49 hQ_49
          subst l_49 y_49 z_49
          obtain ⟨rfl, N_49q, eh_49⟩ := hQ_49
          have N_49 := Fr.app N_44 N_49q
          refine Go.tr st_49 ?_
          show Go p.tables e below P (T_49.setTop (mkF m 320 #[.val (.int p1), .val (.int p2), .val (.int p3), .val (.int p4), .val (.int p5), .val (.int p6), .val (.int (3 : Int32)), .val (.int (2 : Int32)), .val (.long j21), .second, .val (.long j34), .second, .val (.long j48), .second, .val (.long j62), .second, .val (.double d71), .second, .val (.ref y1), .val (.ref y2), .val (.ref b_43), .val (.double (9218868437227405312 : UInt64)), .second] [(.double (9218868437227405312 : UInt64))]))
          refine Go.step (fun t k => XS.dload X_49.here hx rfl (hb hby at_320) rfl  k) ?_
          show Go p.tables e below P (T_49.setTop (mkF m 322 #[.val (.int p1), .val (.int p2), .val (.int p3), .val (.int p4), .val (.int p5), .val (.int p6), .val (.int (3 : Int32)), .val (.int (2 : Int32)), .val (.long j21), .second, .val (.long j34), .second, .val (.long j48), .second, .val (.long j62), .second, .val (.double d71), .second, .val (.ref y1), .val (.ref y2), .val (.ref b_43), .val (.double (9218868437227405312 : UInt64)), .second] [(.double (9218868437227405312 : UInt64)), (.double (9218868437227405312 : UInt64))]))
          refine Go.step (fun t k => XS.dcmpS X_49.here hx rfl (hb hby at_322) rfl rfl k) ?_
          show Go p.tables e below P (T_49.setTop (mkF m 323 #[.val (.int p1), .val (.int p2), .val (.int p3), .val (.int p4), .val (.int p5), .val (.int p6), .val (.int (3 : Int32)), .val (.int (2 : Int32)), .val (.long j21), .second, .val (.long j34), .second, .val (.long j48), .second, .val (.long j62), .second, .val (.double d71), .second, .val (.ref y1), .val (.ref y2), .val (.ref b_43), .val (.double (9218868437227405312 : UInt64)), .second] [(.int (cmpValue (FP.dcmp (9218868437227405312 : UInt64) (9218868437227405312 : UInt64)) .l))]))
          refine Go.step (fun t k => XS.ifNo X_49.here hx rfl (hb hby at_323) rfl (dcN (cd := .ne) (same_cmp inf_ok) (fun q => q rfl)) k) ?_
          show Go p.tables e below P (T_49.setTop (mkF m 326 #[.val (.int p1), .val (.int p2), .val (.int p3), .val (.int p4), .val (.int p5), .val (.int p6), .val (.int (3 : Int32)), .val (.int (2 : Int32)), .val (.long j21), .second, .val (.long j34), .second, .val (.long j48), .second, .val (.long j62), .second, .val (.double d71), .second, .val (.ref y1), .val (.ref y2), .val (.ref b_43), .val (.double (9218868437227405312 : UInt64)), .second] []))
          refine Go.step (fun t k => XS.aload X_49.here hx rfl (hb hby at_326) rfl rfl k) ?_
          show Go p.tables e below P (T_49.setTop (mkF m 328 #[.val (.int p1), .val (.int p2), .val (.int p3), .val (.int p4), .val (.int p5), .val (.int p6), .val (.int (3 : Int32)), .val (.int (2 : Int32)), .val (.long j21), .second, .val (.long j34), .second, .val (.long j48), .second, .val (.long j62), .second, .val (.double d71), .second, .val (.ref y1), .val (.ref y2), .val (.ref b_43), .val (.double (9218868437227405312 : UInt64)), .second] [(.ref b_43)]))
          refine Go.step (fun t k => XS.iload X_49.here hx rfl (hb hby at_328) rfl  k) ?_
          show Go p.tables e below P (T_49.setTop (mkF m 330 #[.val (.int p1), .val (.int p2), .val (.int p3), .val (.int p4), .val (.int p5), .val (.int p6), .val (.int (3 : Int32)), .val (.int (2 : Int32)), .val (.long j21), .second, .val (.long j34), .second, .val (.long j48), .second, .val (.long j62), .second, .val (.double d71), .second, .val (.ref y1), .val (.ref y2), .val (.ref b_43), .val (.double (9218868437227405312 : UInt64)), .second] [(.int (3 : Int32)), (.ref b_43)]))
          refine Go.step (fun t k => XS.iconst X_49.here hx rfl (hb hby at_330) k) ?_
          show Go p.tables e below P (T_49.setTop (mkF m 331 #[.val (.int p1), .val (.int p2), .val (.int p3), .val (.int p4), .val (.int p5), .val (.int p6), .val (.int (3 : Int32)), .val (.int (2 : Int32)), .val (.long j21), .second, .val (.long j34), .second, .val (.long j48), .second, .val (.long j62), .second, .val (.double d71), .second, .val (.ref y1), .val (.ref y2), .val (.ref b_43), .val (.double (9218868437227405312 : UInt64)), .second] [(.int (1 : Int32)), (.int (3 : Int32)), (.ref b_43)]))
          obtain ⟨jm, hjm⟩ : ∃ z : Int32, (3 : Int32) - (1 : Int32) = z := ⟨_, rfl⟩
          refine Go.step (fun t k => isub_v X_49.here hx rfl (hb hby at_331) rfl  hjm k) ?_
          show Go p.tables e below P (T_49.setTop (mkF m 332 #[.val (.int p1), .val (.int p2), .val (.int p3), .val (.int p4), .val (.int p5), .val (.int p6), .val (.int (3 : Int32)), .val (.int (2 : Int32)), .val (.long j21), .second, .val (.long j34), .second, .val (.long j48), .second, .val (.long j62), .second, .val (.double d71), .second, .val (.ref y1), .val (.ref y2), .val (.ref b_43), .val (.double (9218868437227405312 : UInt64)), .second] [(.int jm), (.ref b_43)]))
          have ez_jm : jm = (2 : Int32) := by rw [← hjm]; rfl
          subst ez_jm
          show Go p.tables e below P (T_49.setTop (mkF m 332 #[.val (.int p1), .val (.int p2), .val (.int p3), .val (.int p4), .val (.int p5), .val (.int p6), .val (.int (3 : Int32)), .val (.int (2 : Int32)), .val (.long j21), .second, .val (.long j34), .second, .val (.long j48), .second, .val (.long j62), .second, .val (.double d71), .second, .val (.ref y1), .val (.ref y2), .val (.ref b_43), .val (.double (9218868437227405312 : UInt64)), .second] [(.int (2 : Int32)), (.ref b_43)]))
          obtain ⟨cq_50, kq_50, q_50a, q_50b, q_50c⟩ := isOf hZ eh_49 (A_43.keep Kc_44)
          obtain ⟨_, _, ⟨T_50, L_50, k_50, n_50⟩, -, X_50, ⟨Lc_50, hQ_50, l_50, y_50, z_50⟩, st_50⟩ := X_49.virtualBack hx (y := (⟨"com/example/gleitfahrt/gleitfahrt/engine/ForceCurve$Table", "upperMs", "(I)D"⟩ : MethodName)) (z := (⟨"com/example/gleitfahrt/gleitfahrt/engine/ForceCurve$Table", "upperMs", "(I)D"⟩ : MethodName)) hown (mvT hZ (hw _ (List.mem_of_getElem? (i := 36) rfl))) (mvT hZ (hw _ (List.mem_of_getElem? (i := 37) rfl))) (notFace_of_selects (args := #[]) (mvT hZ (hw _ (List.mem_of_getElem? (i := 39) rfl)))) (mvT hZ (hw _ (List.mem_of_getElem? (i := 39) rfl))) (mvT hZ (hw _ (List.mem_of_getElem? (i := 38) rfl))) (by decide) (backOf (W := 0) (up3_2 l Z a0 hw [] b_43 x1 k_29 d158 d164 d170 T_44.heap n0 Z_44 Fx1 Vx1) hZ (hw _ (List.mem_of_getElem? (i := 40) rfl)) (hw _ (List.mem_of_getElem? (i := 6) rfl)) (by decide) (by decide)) q_50a q_50c (g := (mkF m 332 #[.val (.int p1), .val (.int p2), .val (.int p3), .val (.int p4), .val (.int p5), .val (.int p6), .val (.int (3 : Int32)), .val (.int (2 : Int32)), .val (.long j21), .second, .val (.long j34), .second, .val (.long j48), .second, .val (.long j62), .second, .val (.double d71), .second, .val (.ref y1), .val (.ref y2), .val (.ref b_43), .val (.double (9218868437227405312 : UInt64)), .second] [(.int (2 : Int32)), (.ref b_43)])) rfl (by rw [hml]; rfl) (Steps.refl _) (argsL := [(.int (2 : Int32))]) (rest := []) (lenOf pd_3 rfl) rfl (by show 2 * 0 + _ ≤ _; exact Nat.le_of_eq rfl) (hb hby at_332) (fun _ _ => ⟨rfl, eh_49, (by decide : 5 + 0 ≤ _), (by decide : 14 + 0 ≤ _)⟩)
          dsimp only [Pt.U, Pt.locs, Pt.cells, Pt.slots] at X_50 l_50 y_50 z_50 st_50 hQ_50
          subst l_50 y_50 z_50
          obtain ⟨rfl, N_50q, eh_50⟩ := hQ_50
          have N_50 := Fr.app N_49 N_50q
          refine Go.tr st_50 ?_
          show Go p.tables e below P (T_50.setTop (mkF m 335 #[.val (.int p1), .val (.int p2), .val (.int p3), .val (.int p4), .val (.int p5), .val (.int p6), .val (.int (3 : Int32)), .val (.int (2 : Int32)), .val (.long j21), .second, .val (.long j34), .second, .val (.long j48), .second, .val (.long j62), .second, .val (.double d71), .second, .val (.ref y1), .val (.ref y2), .val (.ref b_43), .val (.double (9218868437227405312 : UInt64)), .second] [(.double (9218868437227405312 : UInt64))]))
          refine Go.step (fun t k => X_50.ldc2DoubleC hx hown (mvT hZ (hw _ (List.mem_of_getElem? (i := 35) rfl))) (g := (mkF m 335 #[.val (.int p1), .val (.int p2), .val (.int p3), .val (.int p4), .val (.int p5), .val (.int p6), .val (.int (3 : Int32)), .val (.int (2 : Int32)), .val (.long j21), .second, .val (.long j34), .second, .val (.long j48), .second, .val (.long j62), .second, .val (.double d71), .second, .val (.ref y1), .val (.ref y2), .val (.ref b_43), .val (.double (9218868437227405312 : UInt64)), .second] [(.double (9218868437227405312 : UInt64))])) rfl (hb hby at_335) t k) ?_
          show Go p.tables e below P (T_50.setTop (mkF m 338 #[.val (.int p1), .val (.int p2), .val (.int p3), .val (.int p4), .val (.int p5), .val (.int p6), .val (.int (3 : Int32)), .val (.int (2 : Int32)), .val (.long j21), .second, .val (.long j34), .second, .val (.long j48), .second, .val (.long j62), .second, .val (.double d71), .second, .val (.ref y1), .val (.ref y2), .val (.ref b_43), .val (.double (9218868437227405312 : UInt64)), .second] [(.double (9218868437227405312 : UInt64)), (.double (9218868437227405312 : UInt64))]))
          refine Go.step (fun t k => XS.dcmpS X_50.here hx rfl (hb hby at_338) rfl rfl k) ?_
          show Go p.tables e below P (T_50.setTop (mkF m 339 #[.val (.int p1), .val (.int p2), .val (.int p3), .val (.int p4), .val (.int p5), .val (.int p6), .val (.int (3 : Int32)), .val (.int (2 : Int32)), .val (.long j21), .second, .val (.long j34), .second, .val (.long j48), .second, .val (.long j62), .second, .val (.double d71), .second, .val (.ref y1), .val (.ref y2), .val (.ref b_43), .val (.double (9218868437227405312 : UInt64)), .second] [(.int (cmpValue (FP.dcmp (9218868437227405312 : UInt64) (9218868437227405312 : UInt64)) .l))]))
          refine Go.step (fun t k => XS.ifNo X_50.here hx rfl (hb hby at_339) rfl (dcN (cd := .ne) (same_cmp inf_ok) (fun q => q rfl)) k) ?_
          show Go p.tables e below P (T_50.setTop (mkF m 342 #[.val (.int p1), .val (.int p2), .val (.int p3), .val (.int p4), .val (.int p5), .val (.int p6), .val (.int (3 : Int32)), .val (.int (2 : Int32)), .val (.long j21), .second, .val (.long j34), .second, .val (.long j48), .second, .val (.long j62), .second, .val (.double d71), .second, .val (.ref y1), .val (.ref y2), .val (.ref b_43), .val (.double (9218868437227405312 : UInt64)), .second] []))
          refine Go.step (fun t k => XS.iconst X_50.here hx rfl (hb hby at_342) k) ?_
          show Go p.tables e below P (T_50.setTop (mkF m 343 #[.val (.int p1), .val (.int p2), .val (.int p3), .val (.int p4), .val (.int p5), .val (.int p6), .val (.int (3 : Int32)), .val (.int (2 : Int32)), .val (.long j21), .second, .val (.long j34), .second, .val (.long j48), .second, .val (.long j62), .second, .val (.double d71), .second, .val (.ref y1), .val (.ref y2), .val (.ref b_43), .val (.double (9218868437227405312 : UInt64)), .second] [(.int (1 : Int32))]))
          refine Go.step (fun t k => XS.goto X_50.here hx rfl (pc0 := 343) (pc' := 347) rfl (hb hby at_343) (by decide) (by decide) k) ?_
          show Go p.tables e below P (T_50.setTop (mkF m 347 #[.val (.int p1), .val (.int p2), .val (.int p3), .val (.int p4), .val (.int p5), .val (.int p6), .val (.int (3 : Int32)), .val (.int (2 : Int32)), .val (.long j21), .second, .val (.long j34), .second, .val (.long j48), .second, .val (.long j62), .second, .val (.double d71), .second, .val (.ref y1), .val (.ref y2), .val (.ref b_43), .val (.double (9218868437227405312 : UInt64)), .second] [(.int (1 : Int32))]))
          exact retGo X_50 hx hP Bd.returns hlk rfl (Or.inl ⟨rfl, Or.inr (Or.inl rfl), _, rfl⟩) (hb hby at_347) (by decide) (by decide) (by rw [eh_50]; exact ⟨rfl, N_50⟩)
    · refine Go.step (fun t k => XS.icmpNo X0.here hx rfl (hb hby at_107) rfl (icN (cd := .ne) hc107) k) ?_
      show Go p.tables e below P (s₁.setTop (mkF m 110 #[.val (.int p1), .val (.int p2), .val (.int p3), .val (.int p4), .val (.int p5), .val (.int p6), .val (.int i4), .val (.int i13), .val (.long j21), .second, .val (.long j34), .second, .val (.long j48), .second, .val (.long j62), .second, .val (.double d71), .second, .unset, .unset, .unset, .unset, .unset] []))
      have e4 : i4 = (2 : Int32) := Int32.toInt_inj.mp (show i4.toInt = (2 : Int32).toInt from by have : (2 : Int32).toInt = 2 := rfl; omega)
      have b13' : i13.toInt < 2 := by rw [e4] at b13; exact b13.2
      subst e4
      show Go p.tables e below P (s₁.setTop (mkF m 110 #[.val (.int p1), .val (.int p2), .val (.int p3), .val (.int p4), .val (.int p5), .val (.int p6), .val (.int (2 : Int32)), .val (.int i13), .val (.long j21), .second, .val (.long j34), .second, .val (.long j48), .second, .val (.long j62), .second, .val (.double d71), .second, .unset, .unset, .unset, .unset, .unset] []))
      refine Go.step (fun t k => XS.iconst X0.here hx rfl (hb hby at_110) k) ?_
      show Go p.tables e below P (s₁.setTop (mkF m 111 #[.val (.int p1), .val (.int p2), .val (.int p3), .val (.int p4), .val (.int p5), .val (.int p6), .val (.int (2 : Int32)), .val (.int i13), .val (.long j21), .second, .val (.long j34), .second, .val (.long j48), .second, .val (.long j62), .second, .val (.double d71), .second, .unset, .unset, .unset, .unset, .unset] [(.int (2 : Int32))]))
      obtain ⟨T_51, h_51, k_51, X_51, e_51, E_51, A_51, Ex_51, st_51⟩ := newPE X0 hx hZ (hw _ (List.mem_of_getElem? (i := 3) rfl)) e0 (g := (mkF m 111 #[.val (.int p1), .val (.int p2), .val (.int p3), .val (.int p4), .val (.int p5), .val (.int p6), .val (.int (2 : Int32)), .val (.int i13), .val (.long j21), .second, .val (.long j34), .second, .val (.long j48), .second, .val (.long j62), .second, .val (.double d71), .second, .unset, .unset, .unset, .unset, .unset] [(.int (2 : Int32))])) rfl (hb hby at_111) rfl (by decide) (cap := 2) (by decide) (by decide) (by decide) (by decide) (ad := "[D") (by decide)
      obtain ⟨y1, g_51⟩ : ∃ z, z = h0.size := ⟨_, rfl⟩
      rw [← g_51] at A_51 st_51 Ex_51
      have g_y1 : n0 ≤ y1 := Nat.le_trans Z0 (Nat.le_of_eq g_51.symm)
      have sz_y1 : h0.size ≤ y1 := Nat.le_trans (Keep.refl h0 []).1 (Nat.le_of_eq g_51.symm)
      have V_51 : Arv Z h_51 y1 k_51 .double (2 : Int32) [(.double (0 : UInt64)), (.double (0 : UInt64))] (.double (0 : UInt64)) := (Arv.new A_51 (by decide)).pad (pad_rep [] (.double (0 : UInt64)) 2)
      have K_51 : Keep h0 h_51 [] := (Keep.refl h0 []).ext E_51
      have Z_51 : n0 ≤ h_51.size := Nat.le_trans Z0 E_51.1
      refine Go.step (fun t k => st_51 t k) ?_
      show Go p.tables e below P (T_51.setTop (mkF m 113 #[.val (.int p1), .val (.int p2), .val (.int p3), .val (.int p4), .val (.int p5), .val (.int p6), .val (.int (2 : Int32)), .val (.int i13), .val (.long j21), .second, .val (.long j34), .second, .val (.long j48), .second, .val (.long j62), .second, .val (.double d71), .second, .unset, .unset, .unset, .unset, .unset] [(.ref y1)]))
      refine Go.step (fun t k => XS.dup X_51.here hx rfl (hb hby at_113) rfl rfl k) ?_
      show Go p.tables e below P (T_51.setTop (mkF m 114 #[.val (.int p1), .val (.int p2), .val (.int p3), .val (.int p4), .val (.int p5), .val (.int p6), .val (.int (2 : Int32)), .val (.int i13), .val (.long j21), .second, .val (.long j34), .second, .val (.long j48), .second, .val (.long j62), .second, .val (.double d71), .second, .unset, .unset, .unset, .unset, .unset] [(.ref y1), (.ref y1)]))
      refine Go.step (fun t k => XS.iconst X_51.here hx rfl (hb hby at_114) k) ?_
      show Go p.tables e below P (T_51.setTop (mkF m 115 #[.val (.int p1), .val (.int p2), .val (.int p3), .val (.int p4), .val (.int p5), .val (.int p6), .val (.int (2 : Int32)), .val (.int i13), .val (.long j21), .second, .val (.long j34), .second, .val (.long j48), .second, .val (.long j62), .second, .val (.double d71), .second, .unset, .unset, .unset, .unset, .unset] [(.int (0 : Int32)), (.ref y1), (.ref y1)]))
      refine Go.step (fun t k => XS.lload X_51.here hx rfl (hb hby at_115) rfl  k) ?_
      show Go p.tables e below P (T_51.setTop (mkF m 117 #[.val (.int p1), .val (.int p2), .val (.int p3), .val (.int p4), .val (.int p5), .val (.int p6), .val (.int (2 : Int32)), .val (.int i13), .val (.long j21), .second, .val (.long j34), .second, .val (.long j48), .second, .val (.long j62), .second, .val (.double d71), .second, .unset, .unset, .unset, .unset, .unset] [(.long j21), (.int (0 : Int32)), (.ref y1), (.ref y1)]))
      obtain ⟨d117, hd117⟩ : ∃ z : UInt64, FP.l2d j21 = z := ⟨_, rfl⟩
      refine Go.step (fun t k => XS.l2dS X_51.here hx rfl (hb hby at_117) rfl hd117 k) ?_
      show Go p.tables e below P (T_51.setTop (mkF m 118 #[.val (.int p1), .val (.int p2), .val (.int p3), .val (.int p4), .val (.int p5), .val (.int p6), .val (.int (2 : Int32)), .val (.int i13), .val (.long j21), .second, .val (.long j34), .second, .val (.long j48), .second, .val (.long j62), .second, .val (.double d71), .second, .unset, .unset, .unset, .unset, .unset] [(.double d117), (.int (0 : Int32)), (.ref y1), (.ref y1)]))
      have Q0 := l2d_e (x := j21) (by omega); rw [hd117] at Q0
      have vq_52 := V_51
      obtain ⟨cl_52, Ar_52, q_52, S_52, Nn_52, H_52, G_52⟩ := vq_52
      have hin_52 : ¬ ((0 : Int32) < 0 ∨ cl_52.slots.size ≤ ((0 : Int32)).toNatClampNeg) := inb_of S_52 ⟨by decide, by decide⟩
      obtain ⟨T_53, h_53, X_53, e_53, W_53, st_53⟩ := stD X_51 hx hZ e_51 Ar_52 (j := (0 : Int32)) hin_52 (g := (mkF m 118 #[.val (.int p1), .val (.int p2), .val (.int p3), .val (.int p4), .val (.int p5), .val (.int p6), .val (.int (2 : Int32)), .val (.int i13), .val (.long j21), .second, .val (.long j34), .second, .val (.long j48), .second, .val (.long j62), .second, .val (.double d71), .second, .unset, .unset, .unset, .unset, .unset] [(.double d117), (.int (0 : Int32)), (.ref y1), (.ref y1)])) rfl rfl (hb hby at_118)
      have V_53 : Arv Z h_53 y1 k_51 .double (2 : Int32) [(.double d117), (.double (0 : UInt64))] (.double (0 : UInt64)) := Arv.set Ar_52 q_52 S_52 Nn_52 H_52 G_52 rfl W_53 0 rfl (Nat.le_of_ble_eq_true rfl)
      have N_53 := Fr.snoc X_53 N0 g_y1
      have K_53 : Keep h0 h_53 [] := K_51.wr W_53 (Or.inr sz_y1)
      have Z_53 : n0 ≤ h_53.size := Nat.le_trans Z_51 (Keep.of_wr W_53).1
      refine Go.step (fun t k => st_53 t k) ?_
      show Go p.tables e below P (T_53.setTop (mkF m 119 #[.val (.int p1), .val (.int p2), .val (.int p3), .val (.int p4), .val (.int p5), .val (.int p6), .val (.int (2 : Int32)), .val (.int i13), .val (.long j21), .second, .val (.long j34), .second, .val (.long j48), .second, .val (.long j62), .second, .val (.double d71), .second, .unset, .unset, .unset, .unset, .unset] [(.ref y1)]))
      refine Go.step (fun t k => XS.dup X_53.here hx rfl (hb hby at_119) rfl rfl k) ?_
      show Go p.tables e below P (T_53.setTop (mkF m 120 #[.val (.int p1), .val (.int p2), .val (.int p3), .val (.int p4), .val (.int p5), .val (.int p6), .val (.int (2 : Int32)), .val (.int i13), .val (.long j21), .second, .val (.long j34), .second, .val (.long j48), .second, .val (.long j62), .second, .val (.double d71), .second, .unset, .unset, .unset, .unset, .unset] [(.ref y1), (.ref y1)]))
      refine Go.step (fun t k => XS.iconst X_53.here hx rfl (hb hby at_120) k) ?_
      show Go p.tables e below P (T_53.setTop (mkF m 121 #[.val (.int p1), .val (.int p2), .val (.int p3), .val (.int p4), .val (.int p5), .val (.int p6), .val (.int (2 : Int32)), .val (.int i13), .val (.long j21), .second, .val (.long j34), .second, .val (.long j48), .second, .val (.long j62), .second, .val (.double d71), .second, .unset, .unset, .unset, .unset, .unset] [(.int (1 : Int32)), (.ref y1), (.ref y1)]))
      refine Go.step (fun t k => XS.lload X_53.here hx rfl (hb hby at_121) rfl  k) ?_
      show Go p.tables e below P (T_53.setTop (mkF m 123 #[.val (.int p1), .val (.int p2), .val (.int p3), .val (.int p4), .val (.int p5), .val (.int p6), .val (.int (2 : Int32)), .val (.int i13), .val (.long j21), .second, .val (.long j34), .second, .val (.long j48), .second, .val (.long j62), .second, .val (.double d71), .second, .unset, .unset, .unset, .unset, .unset] [(.long j34), (.int (1 : Int32)), (.ref y1), (.ref y1)]))
      obtain ⟨d123, hd123⟩ : ∃ z : UInt64, FP.l2d j34 = z := ⟨_, rfl⟩
      refine Go.step (fun t k => XS.l2dS X_53.here hx rfl (hb hby at_123) rfl hd123 k) ?_
      show Go p.tables e below P (T_53.setTop (mkF m 124 #[.val (.int p1), .val (.int p2), .val (.int p3), .val (.int p4), .val (.int p5), .val (.int p6), .val (.int (2 : Int32)), .val (.int i13), .val (.long j21), .second, .val (.long j34), .second, .val (.long j48), .second, .val (.long j62), .second, .val (.double d71), .second, .unset, .unset, .unset, .unset, .unset] [(.double d123), (.int (1 : Int32)), (.ref y1), (.ref y1)]))
      have Q1 := l2d_e (x := j34) (by omega); rw [hd123] at Q1
      have vq_54 := V_53
      obtain ⟨cl_54, Ar_54, q_54, S_54, Nn_54, H_54, G_54⟩ := vq_54
      have hin_54 : ¬ ((1 : Int32) < 0 ∨ cl_54.slots.size ≤ ((1 : Int32)).toNatClampNeg) := inb_of S_54 ⟨by decide, by decide⟩
      obtain ⟨T_55, h_55, X_55, e_55, W_55, st_55⟩ := stD X_53 hx hZ e_53 Ar_54 (j := (1 : Int32)) hin_54 (g := (mkF m 124 #[.val (.int p1), .val (.int p2), .val (.int p3), .val (.int p4), .val (.int p5), .val (.int p6), .val (.int (2 : Int32)), .val (.int i13), .val (.long j21), .second, .val (.long j34), .second, .val (.long j48), .second, .val (.long j62), .second, .val (.double d71), .second, .unset, .unset, .unset, .unset, .unset] [(.double d123), (.int (1 : Int32)), (.ref y1), (.ref y1)])) rfl rfl (hb hby at_124)
      have V_55 : Arv Z h_55 y1 k_51 .double (2 : Int32) [(.double d117), (.double d123)] (.double (0 : UInt64)) := Arv.set Ar_54 q_54 S_54 Nn_54 H_54 G_54 rfl W_55 1 rfl (Nat.le_of_ble_eq_true rfl)
      have N_55 := Fr.snoc X_55 N_53 g_y1
      have K_55 : Keep h0 h_55 [] := K_53.wr W_55 (Or.inr sz_y1)
      have Z_55 : n0 ≤ h_55.size := Nat.le_trans Z_53 (Keep.of_wr W_55).1
      refine Go.step (fun t k => st_55 t k) ?_
      show Go p.tables e below P (T_55.setTop (mkF m 125 #[.val (.int p1), .val (.int p2), .val (.int p3), .val (.int p4), .val (.int p5), .val (.int p6), .val (.int (2 : Int32)), .val (.int i13), .val (.long j21), .second, .val (.long j34), .second, .val (.long j48), .second, .val (.long j62), .second, .val (.double d71), .second, .unset, .unset, .unset, .unset, .unset] [(.ref y1)]))
      refine Go.step (fun t k => XS.astore X_55.here hx rfl (hb hby at_125) rfl rfl (l' := #[.val (.int p1), .val (.int p2), .val (.int p3), .val (.int p4), .val (.int p5), .val (.int p6), .val (.int (2 : Int32)), .val (.int i13), .val (.long j21), .second, .val (.long j34), .second, .val (.long j48), .second, .val (.long j62), .second, .val (.double d71), .second, .val (.ref y1), .unset, .unset, .unset, .unset]) rfl k) ?_
      show Go p.tables e below P (T_55.setTop (mkF m 127 #[.val (.int p1), .val (.int p2), .val (.int p3), .val (.int p4), .val (.int p5), .val (.int p6), .val (.int (2 : Int32)), .val (.int i13), .val (.long j21), .second, .val (.long j34), .second, .val (.long j48), .second, .val (.long j62), .second, .val (.double d71), .second, .val (.ref y1), .unset, .unset, .unset, .unset] []))
      refine Go.step (fun t k => XS.iconst X_55.here hx rfl (hb hby at_127) k) ?_
      show Go p.tables e below P (T_55.setTop (mkF m 128 #[.val (.int p1), .val (.int p2), .val (.int p3), .val (.int p4), .val (.int p5), .val (.int p6), .val (.int (2 : Int32)), .val (.int i13), .val (.long j21), .second, .val (.long j34), .second, .val (.long j48), .second, .val (.long j62), .second, .val (.double d71), .second, .val (.ref y1), .unset, .unset, .unset, .unset] [(.int (2 : Int32))]))
      obtain ⟨T_56, h_56, k_56, X_56, e_56, E_56, A_56, Ex_56, st_56⟩ := newPE X_55 hx hZ (hw _ (List.mem_of_getElem? (i := 3) rfl)) e_55 (g := (mkF m 128 #[.val (.int p1), .val (.int p2), .val (.int p3), .val (.int p4), .val (.int p5), .val (.int p6), .val (.int (2 : Int32)), .val (.int i13), .val (.long j21), .second, .val (.long j34), .second, .val (.long j48), .second, .val (.long j62), .second, .val (.double d71), .second, .val (.ref y1), .unset, .unset, .unset, .unset] [(.int (2 : Int32))])) rfl (hb hby at_128) rfl (by decide) (cap := 2) (by decide) (by decide) (by decide) (by decide) (ad := "[D") (by decide)
      obtain ⟨y2, g_56⟩ : ∃ z, z = h_55.size := ⟨_, rfl⟩
      rw [← g_56] at A_56 st_56 Ex_56
      have g_y2 : n0 ≤ y2 := Nat.le_trans Z_55 (Nat.le_of_eq g_56.symm)
      have sz_y2 : h0.size ≤ y2 := Nat.le_trans K_55.1 (Nat.le_of_eq g_56.symm)
      have lt_y1_y2 : y1 < y2 := Nat.lt_of_lt_of_le ((Ex_51.wr W_53).wr W_55).lt (Nat.le_of_eq g_56.symm)
      have ne_y1_y2 : y1 ≠ y2 := Nat.ne_of_lt lt_y1_y2
      have V_56 : Arv Z h_56 y2 k_56 .double (2 : Int32) [(.double (0 : UInt64)), (.double (0 : UInt64))] (.double (0 : UInt64)) := (Arv.new A_56 (by decide)).pad (pad_rep [] (.double (0 : UInt64)) 2)
      have K_56 : Keep h0 h_56 [] := K_55.ext E_56
      have Z_56 : n0 ≤ h_56.size := Nat.le_trans Z_55 E_56.1
      refine Go.step (fun t k => st_56 t k) ?_
      show Go p.tables e below P (T_56.setTop (mkF m 130 #[.val (.int p1), .val (.int p2), .val (.int p3), .val (.int p4), .val (.int p5), .val (.int p6), .val (.int (2 : Int32)), .val (.int i13), .val (.long j21), .second, .val (.long j34), .second, .val (.long j48), .second, .val (.long j62), .second, .val (.double d71), .second, .val (.ref y1), .unset, .unset, .unset, .unset] [(.ref y2)]))
      refine Go.step (fun t k => XS.dup X_56.here hx rfl (hb hby at_130) rfl rfl k) ?_
      show Go p.tables e below P (T_56.setTop (mkF m 131 #[.val (.int p1), .val (.int p2), .val (.int p3), .val (.int p4), .val (.int p5), .val (.int p6), .val (.int (2 : Int32)), .val (.int i13), .val (.long j21), .second, .val (.long j34), .second, .val (.long j48), .second, .val (.long j62), .second, .val (.double d71), .second, .val (.ref y1), .unset, .unset, .unset, .unset] [(.ref y2), (.ref y2)]))
      refine Go.step (fun t k => XS.iconst X_56.here hx rfl (hb hby at_131) k) ?_
      show Go p.tables e below P (T_56.setTop (mkF m 132 #[.val (.int p1), .val (.int p2), .val (.int p3), .val (.int p4), .val (.int p5), .val (.int p6), .val (.int (2 : Int32)), .val (.int i13), .val (.long j21), .second, .val (.long j34), .second, .val (.long j48), .second, .val (.long j62), .second, .val (.double d71), .second, .val (.ref y1), .unset, .unset, .unset, .unset] [(.int (0 : Int32)), (.ref y2), (.ref y2)]))
      refine Go.step (fun t k => XS.dload X_56.here hx rfl (hb hby at_132) rfl  k) ?_
      show Go p.tables e below P (T_56.setTop (mkF m 134 #[.val (.int p1), .val (.int p2), .val (.int p3), .val (.int p4), .val (.int p5), .val (.int p6), .val (.int (2 : Int32)), .val (.int i13), .val (.long j21), .second, .val (.long j34), .second, .val (.long j48), .second, .val (.long j62), .second, .val (.double d71), .second, .val (.ref y1), .unset, .unset, .unset, .unset] [(.double d71), (.int (0 : Int32)), (.ref y2), (.ref y2)]))
      have vq_57 := V_56
      obtain ⟨cl_57, Ar_57, q_57, S_57, Nn_57, H_57, G_57⟩ := vq_57
      have hin_57 : ¬ ((0 : Int32) < 0 ∨ cl_57.slots.size ≤ ((0 : Int32)).toNatClampNeg) := inb_of S_57 ⟨by decide, by decide⟩
      obtain ⟨T_58, h_58, X_58, e_58, W_58, st_58⟩ := stD X_56 hx hZ e_56 Ar_57 (j := (0 : Int32)) hin_57 (g := (mkF m 134 #[.val (.int p1), .val (.int p2), .val (.int p3), .val (.int p4), .val (.int p5), .val (.int p6), .val (.int (2 : Int32)), .val (.int i13), .val (.long j21), .second, .val (.long j34), .second, .val (.long j48), .second, .val (.long j62), .second, .val (.double d71), .second, .val (.ref y1), .unset, .unset, .unset, .unset] [(.double d71), (.int (0 : Int32)), (.ref y2), (.ref y2)])) rfl rfl (hb hby at_134)
      have V_58 : Arv Z h_58 y2 k_56 .double (2 : Int32) [(.double d71), (.double (0 : UInt64))] (.double (0 : UInt64)) := Arv.set Ar_57 q_57 S_57 Nn_57 H_57 G_57 rfl W_58 0 rfl (Nat.le_of_ble_eq_true rfl)
      have N_58 := Fr.snoc X_58 N_55 g_y2
      have K_58 : Keep h0 h_58 [] := K_56.wr W_58 (Or.inr sz_y2)
      have Z_58 : n0 ≤ h_58.size := Nat.le_trans Z_56 (Keep.of_wr W_58).1
      refine Go.step (fun t k => st_58 t k) ?_
      show Go p.tables e below P (T_58.setTop (mkF m 135 #[.val (.int p1), .val (.int p2), .val (.int p3), .val (.int p4), .val (.int p5), .val (.int p6), .val (.int (2 : Int32)), .val (.int i13), .val (.long j21), .second, .val (.long j34), .second, .val (.long j48), .second, .val (.long j62), .second, .val (.double d71), .second, .val (.ref y1), .unset, .unset, .unset, .unset] [(.ref y2)]))
      refine Go.step (fun t k => XS.dup X_58.here hx rfl (hb hby at_135) rfl rfl k) ?_
      show Go p.tables e below P (T_58.setTop (mkF m 136 #[.val (.int p1), .val (.int p2), .val (.int p3), .val (.int p4), .val (.int p5), .val (.int p6), .val (.int (2 : Int32)), .val (.int i13), .val (.long j21), .second, .val (.long j34), .second, .val (.long j48), .second, .val (.long j62), .second, .val (.double d71), .second, .val (.ref y1), .unset, .unset, .unset, .unset] [(.ref y2), (.ref y2)]))
      refine Go.step (fun t k => XS.iconst X_58.here hx rfl (hb hby at_136) k) ?_
      show Go p.tables e below P (T_58.setTop (mkF m 137 #[.val (.int p1), .val (.int p2), .val (.int p3), .val (.int p4), .val (.int p5), .val (.int p6), .val (.int (2 : Int32)), .val (.int i13), .val (.long j21), .second, .val (.long j34), .second, .val (.long j48), .second, .val (.long j62), .second, .val (.double d71), .second, .val (.ref y1), .unset, .unset, .unset, .unset] [(.int (1 : Int32)), (.ref y2), (.ref y2)]))
      refine Go.step (fun t k => XS.dload X_58.here hx rfl (hb hby at_137) rfl  k) ?_
      show Go p.tables e below P (T_58.setTop (mkF m 139 #[.val (.int p1), .val (.int p2), .val (.int p3), .val (.int p4), .val (.int p5), .val (.int p6), .val (.int (2 : Int32)), .val (.int i13), .val (.long j21), .second, .val (.long j34), .second, .val (.long j48), .second, .val (.long j62), .second, .val (.double d71), .second, .val (.ref y1), .unset, .unset, .unset, .unset] [(.double d71), (.int (1 : Int32)), (.ref y2), (.ref y2)]))
      have vq_59 := V_58
      obtain ⟨cl_59, Ar_59, q_59, S_59, Nn_59, H_59, G_59⟩ := vq_59
      have hin_59 : ¬ ((1 : Int32) < 0 ∨ cl_59.slots.size ≤ ((1 : Int32)).toNatClampNeg) := inb_of S_59 ⟨by decide, by decide⟩
      obtain ⟨T_60, h_60, X_60, e_60, W_60, st_60⟩ := stD X_58 hx hZ e_58 Ar_59 (j := (1 : Int32)) hin_59 (g := (mkF m 139 #[.val (.int p1), .val (.int p2), .val (.int p3), .val (.int p4), .val (.int p5), .val (.int p6), .val (.int (2 : Int32)), .val (.int i13), .val (.long j21), .second, .val (.long j34), .second, .val (.long j48), .second, .val (.long j62), .second, .val (.double d71), .second, .val (.ref y1), .unset, .unset, .unset, .unset] [(.double d71), (.int (1 : Int32)), (.ref y2), (.ref y2)])) rfl rfl (hb hby at_139)
      have V_60 : Arv Z h_60 y2 k_56 .double (2 : Int32) [(.double d71), (.double d71)] (.double (0 : UInt64)) := Arv.set Ar_59 q_59 S_59 Nn_59 H_59 G_59 rfl W_60 1 rfl (Nat.le_of_ble_eq_true rfl)
      have N_60 := Fr.snoc X_60 N_58 g_y2
      have K_60 : Keep h0 h_60 [] := K_58.wr W_60 (Or.inr sz_y2)
      have Z_60 : n0 ≤ h_60.size := Nat.le_trans Z_58 (Keep.of_wr W_60).1
      refine Go.step (fun t k => st_60 t k) ?_
      show Go p.tables e below P (T_60.setTop (mkF m 140 #[.val (.int p1), .val (.int p2), .val (.int p3), .val (.int p4), .val (.int p5), .val (.int p6), .val (.int (2 : Int32)), .val (.int i13), .val (.long j21), .second, .val (.long j34), .second, .val (.long j48), .second, .val (.long j62), .second, .val (.double d71), .second, .val (.ref y1), .unset, .unset, .unset, .unset] [(.ref y2)]))
      refine Go.step (fun t k => XS.astore X_60.here hx rfl (hb hby at_140) rfl rfl (l' := #[.val (.int p1), .val (.int p2), .val (.int p3), .val (.int p4), .val (.int p5), .val (.int p6), .val (.int (2 : Int32)), .val (.int i13), .val (.long j21), .second, .val (.long j34), .second, .val (.long j48), .second, .val (.long j62), .second, .val (.double d71), .second, .val (.ref y1), .val (.ref y2), .unset, .unset, .unset]) rfl k) ?_
      show Go p.tables e below P (T_60.setTop (mkF m 142 #[.val (.int p1), .val (.int p2), .val (.int p3), .val (.int p4), .val (.int p5), .val (.int p6), .val (.int (2 : Int32)), .val (.int i13), .val (.long j21), .second, .val (.long j34), .second, .val (.long j48), .second, .val (.long j62), .second, .val (.double d71), .second, .val (.ref y1), .val (.ref y2), .unset, .unset, .unset] []))
      refine Go.step (fun t k => XS.goto X_60.here hx rfl (pc0 := 142) (pc' := 251) rfl (hb hby at_142) (by decide) (by decide) k) ?_
      show Go p.tables e below P (T_60.setTop (mkF m 251 #[.val (.int p1), .val (.int p2), .val (.int p3), .val (.int p4), .val (.int p5), .val (.int p6), .val (.int (2 : Int32)), .val (.int i13), .val (.long j21), .second, .val (.long j34), .second, .val (.long j48), .second, .val (.long j62), .second, .val (.double d71), .second, .val (.ref y1), .val (.ref y2), .unset, .unset, .unset] []))
      obtain ⟨T_61, h_61, X_61, e_61, E_61, A_61, D_61, -, st_61⟩ := newO X_60 hx hZ hown (hw _ (List.mem_of_getElem? (i := 4) rfl)) (hw _ (List.mem_of_getElem? (i := 5) rfl)) (hw _ (List.mem_of_getElem? (i := 6) rfl)) e_60 (g := (mkF m 251 #[.val (.int p1), .val (.int p2), .val (.int p3), .val (.int p4), .val (.int p5), .val (.int p6), .val (.int (2 : Int32)), .val (.int i13), .val (.long j21), .second, .val (.long j34), .second, .val (.long j48), .second, .val (.long j62), .second, .val (.double d71), .second, .val (.ref y1), .val (.ref y2), .unset, .unset, .unset] [])) rfl (hb hby at_251) (by decide) (by decide)
      obtain ⟨b_61, g_61⟩ : ∃ z, z = h_60.size := ⟨_, rfl⟩
      rw [← g_61] at A_61 D_61 st_61
      have g_b_61 : n0 ≤ b_61 := Nat.le_trans Z_60 (Nat.le_of_eq g_61.symm)
      have sz_b_61 : h0.size ≤ b_61 := Nat.le_trans K_60.1 (Nat.le_of_eq g_61.symm)
      have ne_y1_b_61 : y1 ≠ b_61 := Nat.ne_of_lt (Nat.lt_of_lt_of_le (((((Ex_51.wr W_53).wr W_55).ext E_56).wr W_58).wr W_60).lt (Nat.le_of_eq g_61.symm))
      have ne_y1_b_61 : y1 ≠ b_61 := Nat.ne_of_lt (Nat.lt_of_lt_of_le (((V_55.ext E_56).other W_58 ne_y1_y2).other W_60 ne_y1_y2).lt (Nat.le_of_eq g_61.symm))
      have ne_y2_b_61 : y2 ≠ b_61 := Nat.ne_of_lt (Nat.lt_of_lt_of_le ((Ex_56.wr W_58).wr W_60).lt (Nat.le_of_eq g_61.symm))
      have ne_y2_b_61 : y2 ≠ b_61 := Nat.ne_of_lt (Nat.lt_of_lt_of_le V_60.lt (Nat.le_of_eq g_61.symm))
      have F_speedsMs_b_61 : Fld Z h_61 b_61 "com/example/gleitfahrt/gleitfahrt/engine/ForceCurve$Table" "speedsMs" "[D" .null := D_61 (Or.inr (hw _ (List.mem_of_getElem? (i := 32) rfl))) (ty := (.array .double)) (by decide)
      have F_forcesN_b_61 : Fld Z h_61 b_61 "com/example/gleitfahrt/gleitfahrt/engine/ForceCurve$Table" "forcesN" "[D" .null := D_61 (Or.inr (hw _ (List.mem_of_getElem? (i := 34) rfl))) (ty := (.array .double)) (by decide)
      have K_61 : Keep h0 h_61 [] := K_60.ext E_61
      have Z_61 : n0 ≤ h_61.size := Nat.le_trans Z_60 E_61.1
      refine Go.step (fun t k => st_61 t k) ?_
      show Go p.tables e below P (T_61.setTop (mkF m 254 #[.val (.int p1), .val (.int p2), .val (.int p3), .val (.int p4), .val (.int p5), .val (.int p6), .val (.int (2 : Int32)), .val (.int i13), .val (.long j21), .second, .val (.long j34), .second, .val (.long j48), .second, .val (.long j62), .second, .val (.double d71), .second, .val (.ref y1), .val (.ref y2), .unset, .unset, .unset] [(.ref b_61)]))
      refine Go.step (fun t k => XS.dup X_61.here hx rfl (hb hby at_254) rfl rfl k) ?_
      show Go p.tables e below P (T_61.setTop (mkF m 255 #[.val (.int p1), .val (.int p2), .val (.int p3), .val (.int p4), .val (.int p5), .val (.int p6), .val (.int (2 : Int32)), .val (.int i13), .val (.long j21), .second, .val (.long j34), .second, .val (.long j48), .second, .val (.long j62), .second, .val (.double d71), .second, .val (.ref y1), .val (.ref y2), .unset, .unset, .unset] [(.ref b_61), (.ref b_61)]))
      refine Go.step (fun t k => XS.aload X_61.here hx rfl (hb hby at_255) rfl rfl k) ?_
      show Go p.tables e below P (T_61.setTop (mkF m 257 #[.val (.int p1), .val (.int p2), .val (.int p3), .val (.int p4), .val (.int p5), .val (.int p6), .val (.int (2 : Int32)), .val (.int i13), .val (.long j21), .second, .val (.long j34), .second, .val (.long j48), .second, .val (.long j62), .second, .val (.double d71), .second, .val (.ref y1), .val (.ref y2), .unset, .unset, .unset] [(.ref y1), (.ref b_61), (.ref b_61)]))
      refine Go.step (fun t k => XS.aload X_61.here hx rfl (hb hby at_257) rfl rfl k) ?_
      show Go p.tables e below P (T_61.setTop (mkF m 259 #[.val (.int p1), .val (.int p2), .val (.int p3), .val (.int p4), .val (.int p5), .val (.int p6), .val (.int (2 : Int32)), .val (.int i13), .val (.long j21), .second, .val (.long j34), .second, .val (.long j48), .second, .val (.long j62), .second, .val (.double d71), .second, .val (.ref y1), .val (.ref y2), .unset, .unset, .unset] [(.ref y2), (.ref y1), (.ref b_61), (.ref b_61)]))
      obtain ⟨_, _, ⟨T_62, L_62, k_62, n_62⟩, -, X_62, ⟨Lc_62, hQ_62, l_62, y_62, z_62⟩, st_62⟩ := X_61.specialBack hx (y := (⟨"com/example/gleitfahrt/gleitfahrt/engine/ForceCurve$Table", "<init>", "([D[D)V"⟩ : MethodName)) rfl hown (mvT hZ (hw _ (List.mem_of_getElem? (i := 7) rfl))) (mvT hZ (hw _ (List.mem_of_getElem? (i := 8) rfl))) (mvT hZ (hw _ (List.mem_of_getElem? (i := 9) rfl))) (by decide) (backOf (W := 1) (rm12 l Z a0 hw [] b_61 y1 y2 k_51 k_56 d117 d123 d71 j21.toInt j34.toInt i70.toInt h_61 n0 Z_61 A_61 F_speedsMs_b_61 F_forcesN_b_61 g_b_61 ((((((Ex_51.wr W_53).wr W_55).ext E_56).wr W_58).wr W_60).ext E_61) (((Ex_56.wr W_58).wr W_60).ext E_61) ((((V_55.ext E_56).other W_58 ne_y1_y2).other W_60 ne_y1_y2).ext E_61) (V_60.ext E_61) (Ne.symm ne_y1_b_61) (Ne.symm ne_y2_b_61) Q0 Q1 q71 b70 (by omega) (by omega)) hZ (hw _ (List.mem_of_getElem? (i := 9) rfl)) (hw _ (List.mem_of_getElem? (i := 6) rfl)) (by decide) (by decide)) (g := (mkF m 259 #[.val (.int p1), .val (.int p2), .val (.int p3), .val (.int p4), .val (.int p5), .val (.int p6), .val (.int (2 : Int32)), .val (.int i13), .val (.long j21), .second, .val (.long j34), .second, .val (.long j48), .second, .val (.long j62), .second, .val (.double d71), .second, .val (.ref y1), .val (.ref y2), .unset, .unset, .unset] [(.ref y2), (.ref y1), (.ref b_61), (.ref b_61)])) rfl (by rw [hml]; rfl) (Steps.refl _) (a := b_61) (argsL := [(.ref y1), (.ref y2)]) (rest := [(.ref b_61)]) (lenOf pd_2 rfl) rfl (by show 2 * 0 + _ ≤ _; exact Nat.le_of_eq rfl) (hb hby at_259) (fun _ _ => ⟨rfl, e_61, (by decide : 3 + 2 ≤ _), (by decide : 6 + 4 ≤ _)⟩)
      dsimp only [Pt.U, Pt.locs, Pt.cells, Pt.slots] at X_62 l_62 y_62 z_62 st_62 hQ_62
      subst l_62 y_62 z_62
      obtain ⟨rfl, N_62q, Kc_62, Ee_62, x1, Fx1, Vx1⟩ := hQ_62
      have N_62 := Fr.app N_60 N_62q
      have K_62 : Keep h0 T_62.heap [] := K_61.trans Kc_62 (allS (Or.inr sz_b_61) all0)
      have Z_62 : n0 ≤ T_62.heap.size := Nat.le_trans Z_61 Kc_62.1
      refine Go.tr st_62 ?_
      show Go p.tables e below P (T_62.setTop (mkF m 262 #[.val (.int p1), .val (.int p2), .val (.int p3), .val (.int p4), .val (.int p5), .val (.int p6), .val (.int (2 : Int32)), .val (.int i13), .val (.long j21), .second, .val (.long j34), .second, .val (.long j48), .second, .val (.long j62), .second, .val (.double d71), .second, .val (.ref y1), .val (.ref y2), .unset, .unset, .unset] [(.ref b_61)]))
      refine Go.step (fun t k => XS.astore X_62.here hx rfl (hb hby at_262) rfl rfl (l' := #[.val (.int p1), .val (.int p2), .val (.int p3), .val (.int p4), .val (.int p5), .val (.int p6), .val (.int (2 : Int32)), .val (.int i13), .val (.long j21), .second, .val (.long j34), .second, .val (.long j48), .second, .val (.long j62), .second, .val (.double d71), .second, .val (.ref y1), .val (.ref y2), .val (.ref b_61), .unset, .unset]) rfl k) ?_
      show Go p.tables e below P (T_62.setTop (mkF m 264 #[.val (.int p1), .val (.int p2), .val (.int p3), .val (.int p4), .val (.int p5), .val (.int p6), .val (.int (2 : Int32)), .val (.int i13), .val (.long j21), .second, .val (.long j34), .second, .val (.long j48), .second, .val (.long j62), .second, .val (.double d71), .second, .val (.ref y1), .val (.ref y2), .val (.ref b_61), .unset, .unset] []))
      have hj13 : i13 = (0 : Int32) ∨ i13 = (1 : Int32) := by
        have hh : i13.toInt = 0 ∨ i13.toInt = 1 := by omega
        rcases hh with hh | hh
        · exact Or.inl (Int32.toInt_inj.mp (hh.trans rfl))
        · exact Or.inr ((Int32.toInt_inj.mp (hh.trans rfl)))
      rcases hj13 with ej13 | ej13
      · subst ej13
        show Go p.tables e below P (T_62.setTop (mkF m 264 #[.val (.int p1), .val (.int p2), .val (.int p3), .val (.int p4), .val (.int p5), .val (.int p6), .val (.int (2 : Int32)), .val (.int (0 : Int32)), .val (.long j21), .second, .val (.long j34), .second, .val (.long j48), .second, .val (.long j62), .second, .val (.double d71), .second, .val (.ref y1), .val (.ref y2), .val (.ref b_61), .unset, .unset] []))
        refine Go.step (fun t k => XS.iload X_62.here hx rfl (hb hby at_264) rfl  k) ?_
        show Go p.tables e below P (T_62.setTop (mkF m 266 #[.val (.int p1), .val (.int p2), .val (.int p3), .val (.int p4), .val (.int p5), .val (.int p6), .val (.int (2 : Int32)), .val (.int (0 : Int32)), .val (.long j21), .second, .val (.long j34), .second, .val (.long j48), .second, .val (.long j62), .second, .val (.double d71), .second, .val (.ref y1), .val (.ref y2), .val (.ref b_61), .unset, .unset] [(.int (0 : Int32))]))
        refine Go.step (fun t k => XS.iconst X_62.here hx rfl (hb hby at_266) k) ?_
        show Go p.tables e below P (T_62.setTop (mkF m 267 #[.val (.int p1), .val (.int p2), .val (.int p3), .val (.int p4), .val (.int p5), .val (.int p6), .val (.int (2 : Int32)), .val (.int (0 : Int32)), .val (.long j21), .second, .val (.long j34), .second, .val (.long j48), .second, .val (.long j62), .second, .val (.double d71), .second, .val (.ref y1), .val (.ref y2), .val (.ref b_61), .unset, .unset] [(.int (1 : Int32)), (.int (0 : Int32))]))
        obtain ⟨ja, hja⟩ : ∃ z : Int32, (0 : Int32) + (1 : Int32) = z := ⟨_, rfl⟩
        refine Go.step (fun t k => iadd_v X_62.here hx rfl (hb hby at_267) rfl  hja k) ?_
        show Go p.tables e below P (T_62.setTop (mkF m 268 #[.val (.int p1), .val (.int p2), .val (.int p3), .val (.int p4), .val (.int p5), .val (.int p6), .val (.int (2 : Int32)), .val (.int (0 : Int32)), .val (.long j21), .second, .val (.long j34), .second, .val (.long j48), .second, .val (.long j62), .second, .val (.double d71), .second, .val (.ref y1), .val (.ref y2), .val (.ref b_61), .unset, .unset] [(.int ja)]))
        have ez_ja : ja = (1 : Int32) := by rw [← hja]; rfl
        subst ez_ja
        show Go p.tables e below P (T_62.setTop (mkF m 268 #[.val (.int p1), .val (.int p2), .val (.int p3), .val (.int p4), .val (.int p5), .val (.int p6), .val (.int (2 : Int32)), .val (.int (0 : Int32)), .val (.long j21), .second, .val (.long j34), .second, .val (.long j48), .second, .val (.long j62), .second, .val (.double d71), .second, .val (.ref y1), .val (.ref y2), .val (.ref b_61), .unset, .unset] [(.int (1 : Int32))]))
        refine Go.step (fun t k => XS.iload X_62.here hx rfl (hb hby at_268) rfl  k) ?_
        show Go p.tables e below P (T_62.setTop (mkF m 270 #[.val (.int p1), .val (.int p2), .val (.int p3), .val (.int p4), .val (.int p5), .val (.int p6), .val (.int (2 : Int32)), .val (.int (0 : Int32)), .val (.long j21), .second, .val (.long j34), .second, .val (.long j48), .second, .val (.long j62), .second, .val (.double d71), .second, .val (.ref y1), .val (.ref y2), .val (.ref b_61), .unset, .unset] [(.int (2 : Int32)), (.int (1 : Int32))]))
        refine Go.step (fun t k => XS.icmpYes X_62.here hx rfl (pc0 := 270) (pc' := 281) rfl (hb hby at_270) rfl (icY (cd := .lt) (by decide : (1 : Int) < (2 : Int))) (by decide) (by decide) k) ?_
        show Go p.tables e below P (T_62.setTop (mkF m 281 #[.val (.int p1), .val (.int p2), .val (.int p3), .val (.int p4), .val (.int p5), .val (.int p6), .val (.int (2 : Int32)), .val (.int (0 : Int32)), .val (.long j21), .second, .val (.long j34), .second, .val (.long j48), .second, .val (.long j62), .second, .val (.double d71), .second, .val (.ref y1), .val (.ref y2), .val (.ref b_61), .unset, .unset] []))
        refine Go.step (fun t k => XS.iload X_62.here hx rfl (hb hby at_281) rfl  k) ?_
        show Go p.tables e below P (T_62.setTop (mkF m 283 #[.val (.int p1), .val (.int p2), .val (.int p3), .val (.int p4), .val (.int p5), .val (.int p6), .val (.int (2 : Int32)), .val (.int (0 : Int32)), .val (.long j21), .second, .val (.long j34), .second, .val (.long j48), .second, .val (.long j62), .second, .val (.double d71), .second, .val (.ref y1), .val (.ref y2), .val (.ref b_61), .unset, .unset] [(.int (0 : Int32))]))
        refine Go.step (fun t k => XS.ifNo X_62.here hx rfl (hb hby at_283) rfl (ifN (cd := .ne) (by decide : ¬ (¬ (0 : Int) = 0))) k) ?_
        show Go p.tables e below P (T_62.setTop (mkF m 286 #[.val (.int p1), .val (.int p2), .val (.int p3), .val (.int p4), .val (.int p5), .val (.int p6), .val (.int (2 : Int32)), .val (.int (0 : Int32)), .val (.long j21), .second, .val (.long j34), .second, .val (.long j48), .second, .val (.long j62), .second, .val (.double d71), .second, .val (.ref y1), .val (.ref y2), .val (.ref b_61), .unset, .unset] []))
        refine Go.step (fun t k => XS.lload X_62.here hx rfl (hb hby at_286) rfl  k) ?_
        show Go p.tables e below P (T_62.setTop (mkF m 288 #[.val (.int p1), .val (.int p2), .val (.int p3), .val (.int p4), .val (.int p5), .val (.int p6), .val (.int (2 : Int32)), .val (.int (0 : Int32)), .val (.long j21), .second, .val (.long j34), .second, .val (.long j48), .second, .val (.long j62), .second, .val (.double d71), .second, .val (.ref y1), .val (.ref y2), .val (.ref b_61), .unset, .unset] [(.long j34)]))
        obtain ⟨d288, hd288⟩ : ∃ z : UInt64, FP.l2d j34 = z := ⟨_, rfl⟩
        refine Go.step (fun t k => XS.l2dS X_62.here hx rfl (hb hby at_288) rfl hd288 k) ?_
        show Go p.tables e below P (T_62.setTop (mkF m 289 #[.val (.int p1), .val (.int p2), .val (.int p3), .val (.int p4), .val (.int p5), .val (.int p6), .val (.int (2 : Int32)), .val (.int (0 : Int32)), .val (.long j21), .second, .val (.long j34), .second, .val (.long j48), .second, .val (.long j62), .second, .val (.double d71), .second, .val (.ref y1), .val (.ref y2), .val (.ref b_61), .unset, .unset] [(.double d288)]))
        have R288 := l2d_e (x := j34) (by omega); rw [hd288] at R288
        refine Go.step (fun t k => XS.dstore X_62.here hx rfl (hb hby at_289) rfl (l' := #[.val (.int p1), .val (.int p2), .val (.int p3), .val (.int p4), .val (.int p5), .val (.int p6), .val (.int (2 : Int32)), .val (.int (0 : Int32)), .val (.long j21), .second, .val (.long j34), .second, .val (.long j48), .second, .val (.long j62), .second, .val (.double d71), .second, .val (.ref y1), .val (.ref y2), .val (.ref b_61), .val (.double d288), .second]) rfl k) ?_
        show Go p.tables e below P (T_62.setTop (mkF m 291 #[.val (.int p1), .val (.int p2), .val (.int p3), .val (.int p4), .val (.int p5), .val (.int p6), .val (.int (2 : Int32)), .val (.int (0 : Int32)), .val (.long j21), .second, .val (.long j34), .second, .val (.long j48), .second, .val (.long j62), .second, .val (.double d71), .second, .val (.ref y1), .val (.ref y2), .val (.ref b_61), .val (.double d288), .second] []))
        refine Go.step (fun t k => XS.goto X_62.here hx rfl (pc0 := 291) (pc' := 313) rfl (hb hby at_291) (by decide) (by decide) k) ?_
        show Go p.tables e below P (T_62.setTop (mkF m 313 #[.val (.int p1), .val (.int p2), .val (.int p3), .val (.int p4), .val (.int p5), .val (.int p6), .val (.int (2 : Int32)), .val (.int (0 : Int32)), .val (.long j21), .second, .val (.long j34), .second, .val (.long j48), .second, .val (.long j62), .second, .val (.double d71), .second, .val (.ref y1), .val (.ref y2), .val (.ref b_61), .val (.double d288), .second] []))
        refine Go.step (fun t k => XS.aload X_62.here hx rfl (hb hby at_313) rfl rfl k) ?_
        show Go p.tables e below P (T_62.setTop (mkF m 315 #[.val (.int p1), .val (.int p2), .val (.int p3), .val (.int p4), .val (.int p5), .val (.int p6), .val (.int (2 : Int32)), .val (.int (0 : Int32)), .val (.long j21), .second, .val (.long j34), .second, .val (.long j48), .second, .val (.long j62), .second, .val (.double d71), .second, .val (.ref y1), .val (.ref y2), .val (.ref b_61), .val (.double d288), .second] [(.ref b_61)]))
        refine Go.step (fun t k => XS.iload X_62.here hx rfl (hb hby at_315) rfl  k) ?_
        show Go p.tables e below P (T_62.setTop (mkF m 317 #[.val (.int p1), .val (.int p2), .val (.int p3), .val (.int p4), .val (.int p5), .val (.int p6), .val (.int (2 : Int32)), .val (.int (0 : Int32)), .val (.long j21), .second, .val (.long j34), .second, .val (.long j48), .second, .val (.long j62), .second, .val (.double d71), .second, .val (.ref y1), .val (.ref y2), .val (.ref b_61), .val (.double d288), .second] [(.int (0 : Int32)), (.ref b_61)]))
        obtain ⟨cq_63, kq_63, q_63a, q_63b, q_63c⟩ := isOf hZ rfl (A_61.keep Kc_62)
        obtain ⟨_, _, ⟨T_63, L_63, k_63, n_63⟩, -, X_63, ⟨Lc_63, hQ_63, l_63, y_63, z_63⟩, st_63⟩ := X_62.virtualBack hx (y := (⟨"com/example/gleitfahrt/gleitfahrt/engine/ForceCurve$Table", "upperMs", "(I)D"⟩ : MethodName)) (z := (⟨"com/example/gleitfahrt/gleitfahrt/engine/ForceCurve$Table", "upperMs", "(I)D"⟩ : MethodName)) hown (mvT hZ (hw _ (List.mem_of_getElem? (i := 36) rfl))) (mvT hZ (hw _ (List.mem_of_getElem? (i := 37) rfl))) (notFace_of_selects (args := #[]) (mvT hZ (hw _ (List.mem_of_getElem? (i := 39) rfl)))) (mvT hZ (hw _ (List.mem_of_getElem? (i := 39) rfl))) (mvT hZ (hw _ (List.mem_of_getElem? (i := 38) rfl))) (by decide) (backOf (W := 0) (up2_0 l Z a0 hw [] b_61 x1 k_51 d117 d123 T_62.heap n0 Z_62 Fx1 Vx1) hZ (hw _ (List.mem_of_getElem? (i := 40) rfl)) (hw _ (List.mem_of_getElem? (i := 6) rfl)) (by decide) (by decide)) q_63a q_63c (g := (mkF m 317 #[.val (.int p1), .val (.int p2), .val (.int p3), .val (.int p4), .val (.int p5), .val (.int p6), .val (.int (2 : Int32)), .val (.int (0 : Int32)), .val (.long j21), .second, .val (.long j34), .second, .val (.long j48), .second, .val (.long j62), .second, .val (.double d71), .second, .val (.ref y1), .val (.ref y2), .val (.ref b_61), .val (.double d288), .second] [(.int (0 : Int32)), (.ref b_61)])) rfl (by rw [hml]; rfl) (Steps.refl _) (argsL := [(.int (0 : Int32))]) (rest := []) (lenOf pd_3 rfl) rfl (by show 2 * 0 + _ ≤ _; exact Nat.le_of_eq rfl) (hb hby at_317) (fun _ _ => ⟨rfl, rfl, (by decide : 5 + 0 ≤ _), (by decide : 10 + 0 ≤ _)⟩)
        dsimp only [Pt.U, Pt.locs, Pt.cells, Pt.slots] at X_63 l_63 y_63 z_63 st_63 hQ_63
        subst l_63 y_63 z_63
        obtain ⟨rfl, N_63q, eh_63⟩ := hQ_63
        have N_63 := Fr.app N_62 N_63q
        refine Go.tr st_63 ?_
        show Go p.tables e below P (T_63.setTop (mkF m 320 #[.val (.int p1), .val (.int p2), .val (.int p3), .val (.int p4), .val (.int p5), .val (.int p6), .val (.int (2 : Int32)), .val (.int (0 : Int32)), .val (.long j21), .second, .val (.long j34), .second, .val (.long j48), .second, .val (.long j62), .second, .val (.double d71), .second, .val (.ref y1), .val (.ref y2), .val (.ref b_61), .val (.double d288), .second] [(.double d123)]))
        refine Go.step (fun t k => XS.dload X_63.here hx rfl (hb hby at_320) rfl  k) ?_
        show Go p.tables e below P (T_63.setTop (mkF m 322 #[.val (.int p1), .val (.int p2), .val (.int p3), .val (.int p4), .val (.int p5), .val (.int p6), .val (.int (2 : Int32)), .val (.int (0 : Int32)), .val (.long j21), .second, .val (.long j34), .second, .val (.long j48), .second, .val (.long j62), .second, .val (.double d71), .second, .val (.ref y1), .val (.ref y2), .val (.ref b_61), .val (.double d288), .second] [(.double d288), (.double d123)]))
        refine Go.step (fun t k => XS.dcmpS X_63.here hx rfl (hb hby at_322) rfl rfl k) ?_
        show Go p.tables e below P (T_63.setTop (mkF m 323 #[.val (.int p1), .val (.int p2), .val (.int p3), .val (.int p4), .val (.int p5), .val (.int p6), .val (.int (2 : Int32)), .val (.int (0 : Int32)), .val (.long j21), .second, .val (.long j34), .second, .val (.long j48), .second, .val (.long j62), .second, .val (.double d71), .second, .val (.ref y1), .val (.ref y2), .val (.ref b_61), .val (.double d288), .second] [(.int (cmpValue (FP.dcmp d123 d288) .l))]))
        refine Go.step (fun t k => XS.ifNo X_63.here hx rfl (hb hby at_323) rfl (dcN (cd := .ne) (DE.cmp Q1 R288) (fun q => q rfl)) k) ?_
        show Go p.tables e below P (T_63.setTop (mkF m 326 #[.val (.int p1), .val (.int p2), .val (.int p3), .val (.int p4), .val (.int p5), .val (.int p6), .val (.int (2 : Int32)), .val (.int (0 : Int32)), .val (.long j21), .second, .val (.long j34), .second, .val (.long j48), .second, .val (.long j62), .second, .val (.double d71), .second, .val (.ref y1), .val (.ref y2), .val (.ref b_61), .val (.double d288), .second] []))
        refine Go.step (fun t k => XS.aload X_63.here hx rfl (hb hby at_326) rfl rfl k) ?_
        show Go p.tables e below P (T_63.setTop (mkF m 328 #[.val (.int p1), .val (.int p2), .val (.int p3), .val (.int p4), .val (.int p5), .val (.int p6), .val (.int (2 : Int32)), .val (.int (0 : Int32)), .val (.long j21), .second, .val (.long j34), .second, .val (.long j48), .second, .val (.long j62), .second, .val (.double d71), .second, .val (.ref y1), .val (.ref y2), .val (.ref b_61), .val (.double d288), .second] [(.ref b_61)]))
        refine Go.step (fun t k => XS.iload X_63.here hx rfl (hb hby at_328) rfl  k) ?_
        show Go p.tables e below P (T_63.setTop (mkF m 330 #[.val (.int p1), .val (.int p2), .val (.int p3), .val (.int p4), .val (.int p5), .val (.int p6), .val (.int (2 : Int32)), .val (.int (0 : Int32)), .val (.long j21), .second, .val (.long j34), .second, .val (.long j48), .second, .val (.long j62), .second, .val (.double d71), .second, .val (.ref y1), .val (.ref y2), .val (.ref b_61), .val (.double d288), .second] [(.int (2 : Int32)), (.ref b_61)]))
        refine Go.step (fun t k => XS.iconst X_63.here hx rfl (hb hby at_330) k) ?_
        show Go p.tables e below P (T_63.setTop (mkF m 331 #[.val (.int p1), .val (.int p2), .val (.int p3), .val (.int p4), .val (.int p5), .val (.int p6), .val (.int (2 : Int32)), .val (.int (0 : Int32)), .val (.long j21), .second, .val (.long j34), .second, .val (.long j48), .second, .val (.long j62), .second, .val (.double d71), .second, .val (.ref y1), .val (.ref y2), .val (.ref b_61), .val (.double d288), .second] [(.int (1 : Int32)), (.int (2 : Int32)), (.ref b_61)]))
        obtain ⟨jm, hjm⟩ : ∃ z : Int32, (2 : Int32) - (1 : Int32) = z := ⟨_, rfl⟩
        refine Go.step (fun t k => isub_v X_63.here hx rfl (hb hby at_331) rfl  hjm k) ?_
        show Go p.tables e below P (T_63.setTop (mkF m 332 #[.val (.int p1), .val (.int p2), .val (.int p3), .val (.int p4), .val (.int p5), .val (.int p6), .val (.int (2 : Int32)), .val (.int (0 : Int32)), .val (.long j21), .second, .val (.long j34), .second, .val (.long j48), .second, .val (.long j62), .second, .val (.double d71), .second, .val (.ref y1), .val (.ref y2), .val (.ref b_61), .val (.double d288), .second] [(.int jm), (.ref b_61)]))
        have ez_jm : jm = (1 : Int32) := by rw [← hjm]; rfl
        subst ez_jm
        show Go p.tables e below P (T_63.setTop (mkF m 332 #[.val (.int p1), .val (.int p2), .val (.int p3), .val (.int p4), .val (.int p5), .val (.int p6), .val (.int (2 : Int32)), .val (.int (0 : Int32)), .val (.long j21), .second, .val (.long j34), .second, .val (.long j48), .second, .val (.long j62), .second, .val (.double d71), .second, .val (.ref y1), .val (.ref y2), .val (.ref b_61), .val (.double d288), .second] [(.int (1 : Int32)), (.ref b_61)]))
        obtain ⟨cq_64, kq_64, q_64a, q_64b, q_64c⟩ := isOf hZ eh_63 (A_61.keep Kc_62)
        obtain ⟨_, _, ⟨T_64, L_64, k_64, n_64⟩, -, X_64, ⟨Lc_64, hQ_64, l_64, y_64, z_64⟩, st_64⟩ := X_63.virtualBack hx (y := (⟨"com/example/gleitfahrt/gleitfahrt/engine/ForceCurve$Table", "upperMs", "(I)D"⟩ : MethodName)) (z := (⟨"com/example/gleitfahrt/gleitfahrt/engine/ForceCurve$Table", "upperMs", "(I)D"⟩ : MethodName)) hown (mvT hZ (hw _ (List.mem_of_getElem? (i := 36) rfl))) (mvT hZ (hw _ (List.mem_of_getElem? (i := 37) rfl))) (notFace_of_selects (args := #[]) (mvT hZ (hw _ (List.mem_of_getElem? (i := 39) rfl)))) (mvT hZ (hw _ (List.mem_of_getElem? (i := 39) rfl))) (mvT hZ (hw _ (List.mem_of_getElem? (i := 38) rfl))) (by decide) (backOf (W := 0) (up2_1 l Z a0 hw [] b_61 x1 k_51 d117 d123 T_62.heap n0 Z_62 Fx1 Vx1) hZ (hw _ (List.mem_of_getElem? (i := 40) rfl)) (hw _ (List.mem_of_getElem? (i := 6) rfl)) (by decide) (by decide)) q_64a q_64c (g := (mkF m 332 #[.val (.int p1), .val (.int p2), .val (.int p3), .val (.int p4), .val (.int p5), .val (.int p6), .val (.int (2 : Int32)), .val (.int (0 : Int32)), .val (.long j21), .second, .val (.long j34), .second, .val (.long j48), .second, .val (.long j62), .second, .val (.double d71), .second, .val (.ref y1), .val (.ref y2), .val (.ref b_61), .val (.double d288), .second] [(.int (1 : Int32)), (.ref b_61)])) rfl (by rw [hml]; rfl) (Steps.refl _) (argsL := [(.int (1 : Int32))]) (rest := []) (lenOf pd_3 rfl) rfl (by show 2 * 0 + _ ≤ _; exact Nat.le_of_eq rfl) (hb hby at_332) (fun _ _ => ⟨rfl, eh_63, (by decide : 5 + 0 ≤ _), (by decide : 10 + 0 ≤ _)⟩)
        dsimp only [Pt.U, Pt.locs, Pt.cells, Pt.slots] at X_64 l_64 y_64 z_64 st_64 hQ_64
        subst l_64 y_64 z_64
        obtain ⟨rfl, N_64q, eh_64⟩ := hQ_64
        have N_64 := Fr.app N_63 N_64q
        refine Go.tr st_64 ?_
        show Go p.tables e below P (T_64.setTop (mkF m 335 #[.val (.int p1), .val (.int p2), .val (.int p3), .val (.int p4), .val (.int p5), .val (.int p6), .val (.int (2 : Int32)), .val (.int (0 : Int32)), .val (.long j21), .second, .val (.long j34), .second, .val (.long j48), .second, .val (.long j62), .second, .val (.double d71), .second, .val (.ref y1), .val (.ref y2), .val (.ref b_61), .val (.double d288), .second] [(.double (9218868437227405312 : UInt64))]))
        refine Go.step (fun t k => X_64.ldc2DoubleC hx hown (mvT hZ (hw _ (List.mem_of_getElem? (i := 35) rfl))) (g := (mkF m 335 #[.val (.int p1), .val (.int p2), .val (.int p3), .val (.int p4), .val (.int p5), .val (.int p6), .val (.int (2 : Int32)), .val (.int (0 : Int32)), .val (.long j21), .second, .val (.long j34), .second, .val (.long j48), .second, .val (.long j62), .second, .val (.double d71), .second, .val (.ref y1), .val (.ref y2), .val (.ref b_61), .val (.double d288), .second] [(.double (9218868437227405312 : UInt64))])) rfl (hb hby at_335) t k) ?_
        show Go p.tables e below P (T_64.setTop (mkF m 338 #[.val (.int p1), .val (.int p2), .val (.int p3), .val (.int p4), .val (.int p5), .val (.int p6), .val (.int (2 : Int32)), .val (.int (0 : Int32)), .val (.long j21), .second, .val (.long j34), .second, .val (.long j48), .second, .val (.long j62), .second, .val (.double d71), .second, .val (.ref y1), .val (.ref y2), .val (.ref b_61), .val (.double d288), .second] [(.double (9218868437227405312 : UInt64)), (.double (9218868437227405312 : UInt64))]))
        refine Go.step (fun t k => XS.dcmpS X_64.here hx rfl (hb hby at_338) rfl rfl k) ?_
        show Go p.tables e below P (T_64.setTop (mkF m 339 #[.val (.int p1), .val (.int p2), .val (.int p3), .val (.int p4), .val (.int p5), .val (.int p6), .val (.int (2 : Int32)), .val (.int (0 : Int32)), .val (.long j21), .second, .val (.long j34), .second, .val (.long j48), .second, .val (.long j62), .second, .val (.double d71), .second, .val (.ref y1), .val (.ref y2), .val (.ref b_61), .val (.double d288), .second] [(.int (cmpValue (FP.dcmp (9218868437227405312 : UInt64) (9218868437227405312 : UInt64)) .l))]))
        refine Go.step (fun t k => XS.ifNo X_64.here hx rfl (hb hby at_339) rfl (dcN (cd := .ne) (same_cmp inf_ok) (fun q => q rfl)) k) ?_
        show Go p.tables e below P (T_64.setTop (mkF m 342 #[.val (.int p1), .val (.int p2), .val (.int p3), .val (.int p4), .val (.int p5), .val (.int p6), .val (.int (2 : Int32)), .val (.int (0 : Int32)), .val (.long j21), .second, .val (.long j34), .second, .val (.long j48), .second, .val (.long j62), .second, .val (.double d71), .second, .val (.ref y1), .val (.ref y2), .val (.ref b_61), .val (.double d288), .second] []))
        refine Go.step (fun t k => XS.iconst X_64.here hx rfl (hb hby at_342) k) ?_
        show Go p.tables e below P (T_64.setTop (mkF m 343 #[.val (.int p1), .val (.int p2), .val (.int p3), .val (.int p4), .val (.int p5), .val (.int p6), .val (.int (2 : Int32)), .val (.int (0 : Int32)), .val (.long j21), .second, .val (.long j34), .second, .val (.long j48), .second, .val (.long j62), .second, .val (.double d71), .second, .val (.ref y1), .val (.ref y2), .val (.ref b_61), .val (.double d288), .second] [(.int (1 : Int32))]))
        refine Go.step (fun t k => XS.goto X_64.here hx rfl (pc0 := 343) (pc' := 347) rfl (hb hby at_343) (by decide) (by decide) k) ?_
        show Go p.tables e below P (T_64.setTop (mkF m 347 #[.val (.int p1), .val (.int p2), .val (.int p3), .val (.int p4), .val (.int p5), .val (.int p6), .val (.int (2 : Int32)), .val (.int (0 : Int32)), .val (.long j21), .second, .val (.long j34), .second, .val (.long j48), .second, .val (.long j62), .second, .val (.double d71), .second, .val (.ref y1), .val (.ref y2), .val (.ref b_61), .val (.double d288), .second] [(.int (1 : Int32))]))
        exact retGo X_64 hx hP Bd.returns hlk rfl (Or.inl ⟨rfl, Or.inr (Or.inl rfl), _, rfl⟩) (hb hby at_347) (by decide) (by decide) (by rw [eh_64]; exact ⟨rfl, N_64⟩)
      · subst ej13
        show Go p.tables e below P (T_62.setTop (mkF m 264 #[.val (.int p1), .val (.int p2), .val (.int p3), .val (.int p4), .val (.int p5), .val (.int p6), .val (.int (2 : Int32)), .val (.int (1 : Int32)), .val (.long j21), .second, .val (.long j34), .second, .val (.long j48), .second, .val (.long j62), .second, .val (.double d71), .second, .val (.ref y1), .val (.ref y2), .val (.ref b_61), .unset, .unset] []))
        refine Go.step (fun t k => XS.iload X_62.here hx rfl (hb hby at_264) rfl  k) ?_
        show Go p.tables e below P (T_62.setTop (mkF m 266 #[.val (.int p1), .val (.int p2), .val (.int p3), .val (.int p4), .val (.int p5), .val (.int p6), .val (.int (2 : Int32)), .val (.int (1 : Int32)), .val (.long j21), .second, .val (.long j34), .second, .val (.long j48), .second, .val (.long j62), .second, .val (.double d71), .second, .val (.ref y1), .val (.ref y2), .val (.ref b_61), .unset, .unset] [(.int (1 : Int32))]))
        refine Go.step (fun t k => XS.iconst X_62.here hx rfl (hb hby at_266) k) ?_
        show Go p.tables e below P (T_62.setTop (mkF m 267 #[.val (.int p1), .val (.int p2), .val (.int p3), .val (.int p4), .val (.int p5), .val (.int p6), .val (.int (2 : Int32)), .val (.int (1 : Int32)), .val (.long j21), .second, .val (.long j34), .second, .val (.long j48), .second, .val (.long j62), .second, .val (.double d71), .second, .val (.ref y1), .val (.ref y2), .val (.ref b_61), .unset, .unset] [(.int (1 : Int32)), (.int (1 : Int32))]))
        obtain ⟨ja, hja⟩ : ∃ z : Int32, (1 : Int32) + (1 : Int32) = z := ⟨_, rfl⟩
        refine Go.step (fun t k => iadd_v X_62.here hx rfl (hb hby at_267) rfl  hja k) ?_
        show Go p.tables e below P (T_62.setTop (mkF m 268 #[.val (.int p1), .val (.int p2), .val (.int p3), .val (.int p4), .val (.int p5), .val (.int p6), .val (.int (2 : Int32)), .val (.int (1 : Int32)), .val (.long j21), .second, .val (.long j34), .second, .val (.long j48), .second, .val (.long j62), .second, .val (.double d71), .second, .val (.ref y1), .val (.ref y2), .val (.ref b_61), .unset, .unset] [(.int ja)]))
        have ez_ja : ja = (2 : Int32) := by rw [← hja]; rfl
        subst ez_ja
        show Go p.tables e below P (T_62.setTop (mkF m 268 #[.val (.int p1), .val (.int p2), .val (.int p3), .val (.int p4), .val (.int p5), .val (.int p6), .val (.int (2 : Int32)), .val (.int (1 : Int32)), .val (.long j21), .second, .val (.long j34), .second, .val (.long j48), .second, .val (.long j62), .second, .val (.double d71), .second, .val (.ref y1), .val (.ref y2), .val (.ref b_61), .unset, .unset] [(.int (2 : Int32))]))
        refine Go.step (fun t k => XS.iload X_62.here hx rfl (hb hby at_268) rfl  k) ?_
        show Go p.tables e below P (T_62.setTop (mkF m 270 #[.val (.int p1), .val (.int p2), .val (.int p3), .val (.int p4), .val (.int p5), .val (.int p6), .val (.int (2 : Int32)), .val (.int (1 : Int32)), .val (.long j21), .second, .val (.long j34), .second, .val (.long j48), .second, .val (.long j62), .second, .val (.double d71), .second, .val (.ref y1), .val (.ref y2), .val (.ref b_61), .unset, .unset] [(.int (2 : Int32)), (.int (2 : Int32))]))
        refine Go.step (fun t k => XS.icmpNo X_62.here hx rfl (hb hby at_270) rfl (icN (cd := .lt) (by decide : ¬ ((2 : Int) < (2 : Int)))) k) ?_
        show Go p.tables e below P (T_62.setTop (mkF m 273 #[.val (.int p1), .val (.int p2), .val (.int p3), .val (.int p4), .val (.int p5), .val (.int p6), .val (.int (2 : Int32)), .val (.int (1 : Int32)), .val (.long j21), .second, .val (.long j34), .second, .val (.long j48), .second, .val (.long j62), .second, .val (.double d71), .second, .val (.ref y1), .val (.ref y2), .val (.ref b_61), .unset, .unset] []))
        refine Go.step (fun t k => X_62.ldc2DoubleC hx hown (mvT hZ (hw _ (List.mem_of_getElem? (i := 35) rfl))) (g := (mkF m 273 #[.val (.int p1), .val (.int p2), .val (.int p3), .val (.int p4), .val (.int p5), .val (.int p6), .val (.int (2 : Int32)), .val (.int (1 : Int32)), .val (.long j21), .second, .val (.long j34), .second, .val (.long j48), .second, .val (.long j62), .second, .val (.double d71), .second, .val (.ref y1), .val (.ref y2), .val (.ref b_61), .unset, .unset] [])) rfl (hb hby at_273) t k) ?_
        show Go p.tables e below P (T_62.setTop (mkF m 276 #[.val (.int p1), .val (.int p2), .val (.int p3), .val (.int p4), .val (.int p5), .val (.int p6), .val (.int (2 : Int32)), .val (.int (1 : Int32)), .val (.long j21), .second, .val (.long j34), .second, .val (.long j48), .second, .val (.long j62), .second, .val (.double d71), .second, .val (.ref y1), .val (.ref y2), .val (.ref b_61), .unset, .unset] [(.double (9218868437227405312 : UInt64))]))
        refine Go.step (fun t k => XS.dstore X_62.here hx rfl (hb hby at_276) rfl (l' := #[.val (.int p1), .val (.int p2), .val (.int p3), .val (.int p4), .val (.int p5), .val (.int p6), .val (.int (2 : Int32)), .val (.int (1 : Int32)), .val (.long j21), .second, .val (.long j34), .second, .val (.long j48), .second, .val (.long j62), .second, .val (.double d71), .second, .val (.ref y1), .val (.ref y2), .val (.ref b_61), .val (.double (9218868437227405312 : UInt64)), .second]) rfl k) ?_
        show Go p.tables e below P (T_62.setTop (mkF m 278 #[.val (.int p1), .val (.int p2), .val (.int p3), .val (.int p4), .val (.int p5), .val (.int p6), .val (.int (2 : Int32)), .val (.int (1 : Int32)), .val (.long j21), .second, .val (.long j34), .second, .val (.long j48), .second, .val (.long j62), .second, .val (.double d71), .second, .val (.ref y1), .val (.ref y2), .val (.ref b_61), .val (.double (9218868437227405312 : UInt64)), .second] []))
        refine Go.step (fun t k => XS.goto X_62.here hx rfl (pc0 := 278) (pc' := 313) rfl (hb hby at_278) (by decide) (by decide) k) ?_
        show Go p.tables e below P (T_62.setTop (mkF m 313 #[.val (.int p1), .val (.int p2), .val (.int p3), .val (.int p4), .val (.int p5), .val (.int p6), .val (.int (2 : Int32)), .val (.int (1 : Int32)), .val (.long j21), .second, .val (.long j34), .second, .val (.long j48), .second, .val (.long j62), .second, .val (.double d71), .second, .val (.ref y1), .val (.ref y2), .val (.ref b_61), .val (.double (9218868437227405312 : UInt64)), .second] []))
        refine Go.step (fun t k => XS.aload X_62.here hx rfl (hb hby at_313) rfl rfl k) ?_
        show Go p.tables e below P (T_62.setTop (mkF m 315 #[.val (.int p1), .val (.int p2), .val (.int p3), .val (.int p4), .val (.int p5), .val (.int p6), .val (.int (2 : Int32)), .val (.int (1 : Int32)), .val (.long j21), .second, .val (.long j34), .second, .val (.long j48), .second, .val (.long j62), .second, .val (.double d71), .second, .val (.ref y1), .val (.ref y2), .val (.ref b_61), .val (.double (9218868437227405312 : UInt64)), .second] [(.ref b_61)]))
        refine Go.step (fun t k => XS.iload X_62.here hx rfl (hb hby at_315) rfl  k) ?_
        show Go p.tables e below P (T_62.setTop (mkF m 317 #[.val (.int p1), .val (.int p2), .val (.int p3), .val (.int p4), .val (.int p5), .val (.int p6), .val (.int (2 : Int32)), .val (.int (1 : Int32)), .val (.long j21), .second, .val (.long j34), .second, .val (.long j48), .second, .val (.long j62), .second, .val (.double d71), .second, .val (.ref y1), .val (.ref y2), .val (.ref b_61), .val (.double (9218868437227405312 : UInt64)), .second] [(.int (1 : Int32)), (.ref b_61)]))
        obtain ⟨cq_65, kq_65, q_65a, q_65b, q_65c⟩ := isOf hZ rfl (A_61.keep Kc_62)
        obtain ⟨_, _, ⟨T_65, L_65, k_65, n_65⟩, -, X_65, ⟨Lc_65, hQ_65, l_65, y_65, z_65⟩, st_65⟩ := X_62.virtualBack hx (y := (⟨"com/example/gleitfahrt/gleitfahrt/engine/ForceCurve$Table", "upperMs", "(I)D"⟩ : MethodName)) (z := (⟨"com/example/gleitfahrt/gleitfahrt/engine/ForceCurve$Table", "upperMs", "(I)D"⟩ : MethodName)) hown (mvT hZ (hw _ (List.mem_of_getElem? (i := 36) rfl))) (mvT hZ (hw _ (List.mem_of_getElem? (i := 37) rfl))) (notFace_of_selects (args := #[]) (mvT hZ (hw _ (List.mem_of_getElem? (i := 39) rfl)))) (mvT hZ (hw _ (List.mem_of_getElem? (i := 39) rfl))) (mvT hZ (hw _ (List.mem_of_getElem? (i := 38) rfl))) (by decide) (backOf (W := 0) (up2_1 l Z a0 hw [] b_61 x1 k_51 d117 d123 T_62.heap n0 Z_62 Fx1 Vx1) hZ (hw _ (List.mem_of_getElem? (i := 40) rfl)) (hw _ (List.mem_of_getElem? (i := 6) rfl)) (by decide) (by decide)) q_65a q_65c (g := (mkF m 317 #[.val (.int p1), .val (.int p2), .val (.int p3), .val (.int p4), .val (.int p5), .val (.int p6), .val (.int (2 : Int32)), .val (.int (1 : Int32)), .val (.long j21), .second, .val (.long j34), .second, .val (.long j48), .second, .val (.long j62), .second, .val (.double d71), .second, .val (.ref y1), .val (.ref y2), .val (.ref b_61), .val (.double (9218868437227405312 : UInt64)), .second] [(.int (1 : Int32)), (.ref b_61)])) rfl (by rw [hml]; rfl) (Steps.refl _) (argsL := [(.int (1 : Int32))]) (rest := []) (lenOf pd_3 rfl) rfl (by show 2 * 0 + _ ≤ _; exact Nat.le_of_eq rfl) (hb hby at_317) (fun _ _ => ⟨rfl, rfl, (by decide : 5 + 0 ≤ _), (by decide : 10 + 0 ≤ _)⟩)
        dsimp only [Pt.U, Pt.locs, Pt.cells, Pt.slots] at X_65 l_65 y_65 z_65 st_65 hQ_65
        subst l_65 y_65 z_65
        obtain ⟨rfl, N_65q, eh_65⟩ := hQ_65
        have N_65 := Fr.app N_62 N_65q
        refine Go.tr st_65 ?_
        show Go p.tables e below P (T_65.setTop (mkF m 320 #[.val (.int p1), .val (.int p2), .val (.int p3), .val (.int p4), .val (.int p5), .val (.int p6), .val (.int (2 : Int32)), .val (.int (1 : Int32)), .val (.long j21), .second, .val (.long j34), .second, .val (.long j48), .second, .val (.long j62), .second, .val (.double d71), .second, .val (.ref y1), .val (.ref y2), .val (.ref b_61), .val (.double (9218868437227405312 : UInt64)), .second] [(.double (9218868437227405312 : UInt64))]))
        refine Go.step (fun t k => XS.dload X_65.here hx rfl (hb hby at_320) rfl  k) ?_
        show Go p.tables e below P (T_65.setTop (mkF m 322 #[.val (.int p1), .val (.int p2), .val (.int p3), .val (.int p4), .val (.int p5), .val (.int p6), .val (.int (2 : Int32)), .val (.int (1 : Int32)), .val (.long j21), .second, .val (.long j34), .second, .val (.long j48), .second, .val (.long j62), .second, .val (.double d71), .second, .val (.ref y1), .val (.ref y2), .val (.ref b_61), .val (.double (9218868437227405312 : UInt64)), .second] [(.double (9218868437227405312 : UInt64)), (.double (9218868437227405312 : UInt64))]))
        refine Go.step (fun t k => XS.dcmpS X_65.here hx rfl (hb hby at_322) rfl rfl k) ?_
        show Go p.tables e below P (T_65.setTop (mkF m 323 #[.val (.int p1), .val (.int p2), .val (.int p3), .val (.int p4), .val (.int p5), .val (.int p6), .val (.int (2 : Int32)), .val (.int (1 : Int32)), .val (.long j21), .second, .val (.long j34), .second, .val (.long j48), .second, .val (.long j62), .second, .val (.double d71), .second, .val (.ref y1), .val (.ref y2), .val (.ref b_61), .val (.double (9218868437227405312 : UInt64)), .second] [(.int (cmpValue (FP.dcmp (9218868437227405312 : UInt64) (9218868437227405312 : UInt64)) .l))]))
        refine Go.step (fun t k => XS.ifNo X_65.here hx rfl (hb hby at_323) rfl (dcN (cd := .ne) (same_cmp inf_ok) (fun q => q rfl)) k) ?_
        show Go p.tables e below P (T_65.setTop (mkF m 326 #[.val (.int p1), .val (.int p2), .val (.int p3), .val (.int p4), .val (.int p5), .val (.int p6), .val (.int (2 : Int32)), .val (.int (1 : Int32)), .val (.long j21), .second, .val (.long j34), .second, .val (.long j48), .second, .val (.long j62), .second, .val (.double d71), .second, .val (.ref y1), .val (.ref y2), .val (.ref b_61), .val (.double (9218868437227405312 : UInt64)), .second] []))
        refine Go.step (fun t k => XS.aload X_65.here hx rfl (hb hby at_326) rfl rfl k) ?_
        show Go p.tables e below P (T_65.setTop (mkF m 328 #[.val (.int p1), .val (.int p2), .val (.int p3), .val (.int p4), .val (.int p5), .val (.int p6), .val (.int (2 : Int32)), .val (.int (1 : Int32)), .val (.long j21), .second, .val (.long j34), .second, .val (.long j48), .second, .val (.long j62), .second, .val (.double d71), .second, .val (.ref y1), .val (.ref y2), .val (.ref b_61), .val (.double (9218868437227405312 : UInt64)), .second] [(.ref b_61)]))
        refine Go.step (fun t k => XS.iload X_65.here hx rfl (hb hby at_328) rfl  k) ?_
        show Go p.tables e below P (T_65.setTop (mkF m 330 #[.val (.int p1), .val (.int p2), .val (.int p3), .val (.int p4), .val (.int p5), .val (.int p6), .val (.int (2 : Int32)), .val (.int (1 : Int32)), .val (.long j21), .second, .val (.long j34), .second, .val (.long j48), .second, .val (.long j62), .second, .val (.double d71), .second, .val (.ref y1), .val (.ref y2), .val (.ref b_61), .val (.double (9218868437227405312 : UInt64)), .second] [(.int (2 : Int32)), (.ref b_61)]))
        refine Go.step (fun t k => XS.iconst X_65.here hx rfl (hb hby at_330) k) ?_
        show Go p.tables e below P (T_65.setTop (mkF m 331 #[.val (.int p1), .val (.int p2), .val (.int p3), .val (.int p4), .val (.int p5), .val (.int p6), .val (.int (2 : Int32)), .val (.int (1 : Int32)), .val (.long j21), .second, .val (.long j34), .second, .val (.long j48), .second, .val (.long j62), .second, .val (.double d71), .second, .val (.ref y1), .val (.ref y2), .val (.ref b_61), .val (.double (9218868437227405312 : UInt64)), .second] [(.int (1 : Int32)), (.int (2 : Int32)), (.ref b_61)]))
        obtain ⟨jm, hjm⟩ : ∃ z : Int32, (2 : Int32) - (1 : Int32) = z := ⟨_, rfl⟩
        refine Go.step (fun t k => isub_v X_65.here hx rfl (hb hby at_331) rfl  hjm k) ?_
        show Go p.tables e below P (T_65.setTop (mkF m 332 #[.val (.int p1), .val (.int p2), .val (.int p3), .val (.int p4), .val (.int p5), .val (.int p6), .val (.int (2 : Int32)), .val (.int (1 : Int32)), .val (.long j21), .second, .val (.long j34), .second, .val (.long j48), .second, .val (.long j62), .second, .val (.double d71), .second, .val (.ref y1), .val (.ref y2), .val (.ref b_61), .val (.double (9218868437227405312 : UInt64)), .second] [(.int jm), (.ref b_61)]))
        have ez_jm : jm = (1 : Int32) := by rw [← hjm]; rfl
        subst ez_jm
        show Go p.tables e below P (T_65.setTop (mkF m 332 #[.val (.int p1), .val (.int p2), .val (.int p3), .val (.int p4), .val (.int p5), .val (.int p6), .val (.int (2 : Int32)), .val (.int (1 : Int32)), .val (.long j21), .second, .val (.long j34), .second, .val (.long j48), .second, .val (.long j62), .second, .val (.double d71), .second, .val (.ref y1), .val (.ref y2), .val (.ref b_61), .val (.double (9218868437227405312 : UInt64)), .second] [(.int (1 : Int32)), (.ref b_61)]))
        obtain ⟨cq_66, kq_66, q_66a, q_66b, q_66c⟩ := isOf hZ eh_65 (A_61.keep Kc_62)
        obtain ⟨_, _, ⟨T_66, L_66, k_66, n_66⟩, -, X_66, ⟨Lc_66, hQ_66, l_66, y_66, z_66⟩, st_66⟩ := X_65.virtualBack hx (y := (⟨"com/example/gleitfahrt/gleitfahrt/engine/ForceCurve$Table", "upperMs", "(I)D"⟩ : MethodName)) (z := (⟨"com/example/gleitfahrt/gleitfahrt/engine/ForceCurve$Table", "upperMs", "(I)D"⟩ : MethodName)) hown (mvT hZ (hw _ (List.mem_of_getElem? (i := 36) rfl))) (mvT hZ (hw _ (List.mem_of_getElem? (i := 37) rfl))) (notFace_of_selects (args := #[]) (mvT hZ (hw _ (List.mem_of_getElem? (i := 39) rfl)))) (mvT hZ (hw _ (List.mem_of_getElem? (i := 39) rfl))) (mvT hZ (hw _ (List.mem_of_getElem? (i := 38) rfl))) (by decide) (backOf (W := 0) (up2_1 l Z a0 hw [] b_61 x1 k_51 d117 d123 T_62.heap n0 Z_62 Fx1 Vx1) hZ (hw _ (List.mem_of_getElem? (i := 40) rfl)) (hw _ (List.mem_of_getElem? (i := 6) rfl)) (by decide) (by decide)) q_66a q_66c (g := (mkF m 332 #[.val (.int p1), .val (.int p2), .val (.int p3), .val (.int p4), .val (.int p5), .val (.int p6), .val (.int (2 : Int32)), .val (.int (1 : Int32)), .val (.long j21), .second, .val (.long j34), .second, .val (.long j48), .second, .val (.long j62), .second, .val (.double d71), .second, .val (.ref y1), .val (.ref y2), .val (.ref b_61), .val (.double (9218868437227405312 : UInt64)), .second] [(.int (1 : Int32)), (.ref b_61)])) rfl (by rw [hml]; rfl) (Steps.refl _) (argsL := [(.int (1 : Int32))]) (rest := []) (lenOf pd_3 rfl) rfl (by show 2 * 0 + _ ≤ _; exact Nat.le_of_eq rfl) (hb hby at_332) (fun _ _ => ⟨rfl, eh_65, (by decide : 5 + 0 ≤ _), (by decide : 10 + 0 ≤ _)⟩)
        dsimp only [Pt.U, Pt.locs, Pt.cells, Pt.slots] at X_66 l_66 y_66 z_66 st_66 hQ_66
        subst l_66 y_66 z_66
        obtain ⟨rfl, N_66q, eh_66⟩ := hQ_66
        have N_66 := Fr.app N_65 N_66q
        refine Go.tr st_66 ?_
        show Go p.tables e below P (T_66.setTop (mkF m 335 #[.val (.int p1), .val (.int p2), .val (.int p3), .val (.int p4), .val (.int p5), .val (.int p6), .val (.int (2 : Int32)), .val (.int (1 : Int32)), .val (.long j21), .second, .val (.long j34), .second, .val (.long j48), .second, .val (.long j62), .second, .val (.double d71), .second, .val (.ref y1), .val (.ref y2), .val (.ref b_61), .val (.double (9218868437227405312 : UInt64)), .second] [(.double (9218868437227405312 : UInt64))]))
        refine Go.step (fun t k => X_66.ldc2DoubleC hx hown (mvT hZ (hw _ (List.mem_of_getElem? (i := 35) rfl))) (g := (mkF m 335 #[.val (.int p1), .val (.int p2), .val (.int p3), .val (.int p4), .val (.int p5), .val (.int p6), .val (.int (2 : Int32)), .val (.int (1 : Int32)), .val (.long j21), .second, .val (.long j34), .second, .val (.long j48), .second, .val (.long j62), .second, .val (.double d71), .second, .val (.ref y1), .val (.ref y2), .val (.ref b_61), .val (.double (9218868437227405312 : UInt64)), .second] [(.double (9218868437227405312 : UInt64))])) rfl (hb hby at_335) t k) ?_
        show Go p.tables e below P (T_66.setTop (mkF m 338 #[.val (.int p1), .val (.int p2), .val (.int p3), .val (.int p4), .val (.int p5), .val (.int p6), .val (.int (2 : Int32)), .val (.int (1 : Int32)), .val (.long j21), .second, .val (.long j34), .second, .val (.long j48), .second, .val (.long j62), .second, .val (.double d71), .second, .val (.ref y1), .val (.ref y2), .val (.ref b_61), .val (.double (9218868437227405312 : UInt64)), .second] [(.double (9218868437227405312 : UInt64)), (.double (9218868437227405312 : UInt64))]))
        refine Go.step (fun t k => XS.dcmpS X_66.here hx rfl (hb hby at_338) rfl rfl k) ?_
        show Go p.tables e below P (T_66.setTop (mkF m 339 #[.val (.int p1), .val (.int p2), .val (.int p3), .val (.int p4), .val (.int p5), .val (.int p6), .val (.int (2 : Int32)), .val (.int (1 : Int32)), .val (.long j21), .second, .val (.long j34), .second, .val (.long j48), .second, .val (.long j62), .second, .val (.double d71), .second, .val (.ref y1), .val (.ref y2), .val (.ref b_61), .val (.double (9218868437227405312 : UInt64)), .second] [(.int (cmpValue (FP.dcmp (9218868437227405312 : UInt64) (9218868437227405312 : UInt64)) .l))]))
        refine Go.step (fun t k => XS.ifNo X_66.here hx rfl (hb hby at_339) rfl (dcN (cd := .ne) (same_cmp inf_ok) (fun q => q rfl)) k) ?_
        show Go p.tables e below P (T_66.setTop (mkF m 342 #[.val (.int p1), .val (.int p2), .val (.int p3), .val (.int p4), .val (.int p5), .val (.int p6), .val (.int (2 : Int32)), .val (.int (1 : Int32)), .val (.long j21), .second, .val (.long j34), .second, .val (.long j48), .second, .val (.long j62), .second, .val (.double d71), .second, .val (.ref y1), .val (.ref y2), .val (.ref b_61), .val (.double (9218868437227405312 : UInt64)), .second] []))
        refine Go.step (fun t k => XS.iconst X_66.here hx rfl (hb hby at_342) k) ?_
        show Go p.tables e below P (T_66.setTop (mkF m 343 #[.val (.int p1), .val (.int p2), .val (.int p3), .val (.int p4), .val (.int p5), .val (.int p6), .val (.int (2 : Int32)), .val (.int (1 : Int32)), .val (.long j21), .second, .val (.long j34), .second, .val (.long j48), .second, .val (.long j62), .second, .val (.double d71), .second, .val (.ref y1), .val (.ref y2), .val (.ref b_61), .val (.double (9218868437227405312 : UInt64)), .second] [(.int (1 : Int32))]))
        refine Go.step (fun t k => XS.goto X_66.here hx rfl (pc0 := 343) (pc' := 347) rfl (hb hby at_343) (by decide) (by decide) k) ?_
        show Go p.tables e below P (T_66.setTop (mkF m 347 #[.val (.int p1), .val (.int p2), .val (.int p3), .val (.int p4), .val (.int p5), .val (.int p6), .val (.int (2 : Int32)), .val (.int (1 : Int32)), .val (.long j21), .second, .val (.long j34), .second, .val (.long j48), .second, .val (.long j62), .second, .val (.double d71), .second, .val (.ref y1), .val (.ref y2), .val (.ref b_61), .val (.double (9218868437227405312 : UInt64)), .second] [(.int (1 : Int32))]))
        exact retGo X_66 hx hP Bd.returns hlk rfl (Or.inl ⟨rfl, Or.inr (Or.inl rfl), _, rfl⟩) (hb hby at_347) (by decide) (by decide) (by rw [eh_66]; exact ⟨rfl, N_66⟩)
  · refine Go.step (fun t k => XS.icmpNo X0.here hx rfl (hb hby at_77) rfl (icN (cd := .ne) hc77) k) ?_
    show Go p.tables e below P (s₁.setTop (mkF m 80 #[.val (.int p1), .val (.int p2), .val (.int p3), .val (.int p4), .val (.int p5), .val (.int p6), .val (.int i4), .val (.int i13), .val (.long j21), .second, .val (.long j34), .second, .val (.long j48), .second, .val (.long j62), .second, .val (.double d71), .second, .unset, .unset, .unset, .unset, .unset] []))
    have e4 : i4 = (1 : Int32) := Int32.toInt_inj.mp (show i4.toInt = (1 : Int32).toInt from by have : (1 : Int32).toInt = 1 := rfl; omega)
    have b13' : i13.toInt < 1 := by rw [e4] at b13; exact b13.2
    subst e4
    show Go p.tables e below P (s₁.setTop (mkF m 80 #[.val (.int p1), .val (.int p2), .val (.int p3), .val (.int p4), .val (.int p5), .val (.int p6), .val (.int (1 : Int32)), .val (.int i13), .val (.long j21), .second, .val (.long j34), .second, .val (.long j48), .second, .val (.long j62), .second, .val (.double d71), .second, .unset, .unset, .unset, .unset, .unset] []))
    refine Go.step (fun t k => XS.iconst X0.here hx rfl (hb hby at_80) k) ?_
    show Go p.tables e below P (s₁.setTop (mkF m 81 #[.val (.int p1), .val (.int p2), .val (.int p3), .val (.int p4), .val (.int p5), .val (.int p6), .val (.int (1 : Int32)), .val (.int i13), .val (.long j21), .second, .val (.long j34), .second, .val (.long j48), .second, .val (.long j62), .second, .val (.double d71), .second, .unset, .unset, .unset, .unset, .unset] [(.int (1 : Int32))]))
    obtain ⟨T_67, h_67, k_67, X_67, e_67, E_67, A_67, Ex_67, st_67⟩ := newPE X0 hx hZ (hw _ (List.mem_of_getElem? (i := 3) rfl)) e0 (g := (mkF m 81 #[.val (.int p1), .val (.int p2), .val (.int p3), .val (.int p4), .val (.int p5), .val (.int p6), .val (.int (1 : Int32)), .val (.int i13), .val (.long j21), .second, .val (.long j34), .second, .val (.long j48), .second, .val (.long j62), .second, .val (.double d71), .second, .unset, .unset, .unset, .unset, .unset] [(.int (1 : Int32))])) rfl (hb hby at_81) rfl (by decide) (cap := 1) (by decide) (by decide) (by decide) (by decide) (ad := "[D") (by decide)
    obtain ⟨y1, g_67⟩ : ∃ z, z = h0.size := ⟨_, rfl⟩
    rw [← g_67] at A_67 st_67 Ex_67
    have g_y1 : n0 ≤ y1 := Nat.le_trans Z0 (Nat.le_of_eq g_67.symm)
    have sz_y1 : h0.size ≤ y1 := Nat.le_trans (Keep.refl h0 []).1 (Nat.le_of_eq g_67.symm)
    have V_67 : Arv Z h_67 y1 k_67 .double (1 : Int32) [(.double (0 : UInt64))] (.double (0 : UInt64)) := (Arv.new A_67 (by decide)).pad (pad_rep [] (.double (0 : UInt64)) 1)
    have K_67 : Keep h0 h_67 [] := (Keep.refl h0 []).ext E_67
    have Z_67 : n0 ≤ h_67.size := Nat.le_trans Z0 E_67.1
    refine Go.step (fun t k => st_67 t k) ?_
    show Go p.tables e below P (T_67.setTop (mkF m 83 #[.val (.int p1), .val (.int p2), .val (.int p3), .val (.int p4), .val (.int p5), .val (.int p6), .val (.int (1 : Int32)), .val (.int i13), .val (.long j21), .second, .val (.long j34), .second, .val (.long j48), .second, .val (.long j62), .second, .val (.double d71), .second, .unset, .unset, .unset, .unset, .unset] [(.ref y1)]))
    refine Go.step (fun t k => XS.dup X_67.here hx rfl (hb hby at_83) rfl rfl k) ?_
    show Go p.tables e below P (T_67.setTop (mkF m 84 #[.val (.int p1), .val (.int p2), .val (.int p3), .val (.int p4), .val (.int p5), .val (.int p6), .val (.int (1 : Int32)), .val (.int i13), .val (.long j21), .second, .val (.long j34), .second, .val (.long j48), .second, .val (.long j62), .second, .val (.double d71), .second, .unset, .unset, .unset, .unset, .unset] [(.ref y1), (.ref y1)]))
    refine Go.step (fun t k => XS.iconst X_67.here hx rfl (hb hby at_84) k) ?_
    show Go p.tables e below P (T_67.setTop (mkF m 85 #[.val (.int p1), .val (.int p2), .val (.int p3), .val (.int p4), .val (.int p5), .val (.int p6), .val (.int (1 : Int32)), .val (.int i13), .val (.long j21), .second, .val (.long j34), .second, .val (.long j48), .second, .val (.long j62), .second, .val (.double d71), .second, .unset, .unset, .unset, .unset, .unset] [(.int (0 : Int32)), (.ref y1), (.ref y1)]))
    refine Go.step (fun t k => XS.lload X_67.here hx rfl (hb hby at_85) rfl  k) ?_
    show Go p.tables e below P (T_67.setTop (mkF m 87 #[.val (.int p1), .val (.int p2), .val (.int p3), .val (.int p4), .val (.int p5), .val (.int p6), .val (.int (1 : Int32)), .val (.int i13), .val (.long j21), .second, .val (.long j34), .second, .val (.long j48), .second, .val (.long j62), .second, .val (.double d71), .second, .unset, .unset, .unset, .unset, .unset] [(.long j21), (.int (0 : Int32)), (.ref y1), (.ref y1)]))
    obtain ⟨d87, hd87⟩ : ∃ z : UInt64, FP.l2d j21 = z := ⟨_, rfl⟩
    refine Go.step (fun t k => XS.l2dS X_67.here hx rfl (hb hby at_87) rfl hd87 k) ?_
    show Go p.tables e below P (T_67.setTop (mkF m 88 #[.val (.int p1), .val (.int p2), .val (.int p3), .val (.int p4), .val (.int p5), .val (.int p6), .val (.int (1 : Int32)), .val (.int i13), .val (.long j21), .second, .val (.long j34), .second, .val (.long j48), .second, .val (.long j62), .second, .val (.double d71), .second, .unset, .unset, .unset, .unset, .unset] [(.double d87), (.int (0 : Int32)), (.ref y1), (.ref y1)]))
    have Q0 := l2d_e (x := j21) (by omega); rw [hd87] at Q0
    have vq_68 := V_67
    obtain ⟨cl_68, Ar_68, q_68, S_68, Nn_68, H_68, G_68⟩ := vq_68
    have hin_68 : ¬ ((0 : Int32) < 0 ∨ cl_68.slots.size ≤ ((0 : Int32)).toNatClampNeg) := inb_of S_68 ⟨by decide, by decide⟩
    obtain ⟨T_69, h_69, X_69, e_69, W_69, st_69⟩ := stD X_67 hx hZ e_67 Ar_68 (j := (0 : Int32)) hin_68 (g := (mkF m 88 #[.val (.int p1), .val (.int p2), .val (.int p3), .val (.int p4), .val (.int p5), .val (.int p6), .val (.int (1 : Int32)), .val (.int i13), .val (.long j21), .second, .val (.long j34), .second, .val (.long j48), .second, .val (.long j62), .second, .val (.double d71), .second, .unset, .unset, .unset, .unset, .unset] [(.double d87), (.int (0 : Int32)), (.ref y1), (.ref y1)])) rfl rfl (hb hby at_88)
    have V_69 : Arv Z h_69 y1 k_67 .double (1 : Int32) [(.double d87)] (.double (0 : UInt64)) := Arv.set Ar_68 q_68 S_68 Nn_68 H_68 G_68 rfl W_69 0 rfl (Nat.le_of_ble_eq_true rfl)
    have N_69 := Fr.snoc X_69 N0 g_y1
    have K_69 : Keep h0 h_69 [] := K_67.wr W_69 (Or.inr sz_y1)
    have Z_69 : n0 ≤ h_69.size := Nat.le_trans Z_67 (Keep.of_wr W_69).1
    refine Go.step (fun t k => st_69 t k) ?_
    show Go p.tables e below P (T_69.setTop (mkF m 89 #[.val (.int p1), .val (.int p2), .val (.int p3), .val (.int p4), .val (.int p5), .val (.int p6), .val (.int (1 : Int32)), .val (.int i13), .val (.long j21), .second, .val (.long j34), .second, .val (.long j48), .second, .val (.long j62), .second, .val (.double d71), .second, .unset, .unset, .unset, .unset, .unset] [(.ref y1)]))
    refine Go.step (fun t k => XS.astore X_69.here hx rfl (hb hby at_89) rfl rfl (l' := #[.val (.int p1), .val (.int p2), .val (.int p3), .val (.int p4), .val (.int p5), .val (.int p6), .val (.int (1 : Int32)), .val (.int i13), .val (.long j21), .second, .val (.long j34), .second, .val (.long j48), .second, .val (.long j62), .second, .val (.double d71), .second, .val (.ref y1), .unset, .unset, .unset, .unset]) rfl k) ?_
    show Go p.tables e below P (T_69.setTop (mkF m 91 #[.val (.int p1), .val (.int p2), .val (.int p3), .val (.int p4), .val (.int p5), .val (.int p6), .val (.int (1 : Int32)), .val (.int i13), .val (.long j21), .second, .val (.long j34), .second, .val (.long j48), .second, .val (.long j62), .second, .val (.double d71), .second, .val (.ref y1), .unset, .unset, .unset, .unset] []))
    refine Go.step (fun t k => XS.iconst X_69.here hx rfl (hb hby at_91) k) ?_
    show Go p.tables e below P (T_69.setTop (mkF m 92 #[.val (.int p1), .val (.int p2), .val (.int p3), .val (.int p4), .val (.int p5), .val (.int p6), .val (.int (1 : Int32)), .val (.int i13), .val (.long j21), .second, .val (.long j34), .second, .val (.long j48), .second, .val (.long j62), .second, .val (.double d71), .second, .val (.ref y1), .unset, .unset, .unset, .unset] [(.int (1 : Int32))]))
    obtain ⟨T_70, h_70, k_70, X_70, e_70, E_70, A_70, Ex_70, st_70⟩ := newPE X_69 hx hZ (hw _ (List.mem_of_getElem? (i := 3) rfl)) e_69 (g := (mkF m 92 #[.val (.int p1), .val (.int p2), .val (.int p3), .val (.int p4), .val (.int p5), .val (.int p6), .val (.int (1 : Int32)), .val (.int i13), .val (.long j21), .second, .val (.long j34), .second, .val (.long j48), .second, .val (.long j62), .second, .val (.double d71), .second, .val (.ref y1), .unset, .unset, .unset, .unset] [(.int (1 : Int32))])) rfl (hb hby at_92) rfl (by decide) (cap := 1) (by decide) (by decide) (by decide) (by decide) (ad := "[D") (by decide)
    obtain ⟨y2, g_70⟩ : ∃ z, z = h_69.size := ⟨_, rfl⟩
    rw [← g_70] at A_70 st_70 Ex_70
    have g_y2 : n0 ≤ y2 := Nat.le_trans Z_69 (Nat.le_of_eq g_70.symm)
    have sz_y2 : h0.size ≤ y2 := Nat.le_trans K_69.1 (Nat.le_of_eq g_70.symm)
    have lt_y1_y2 : y1 < y2 := Nat.lt_of_lt_of_le (Ex_67.wr W_69).lt (Nat.le_of_eq g_70.symm)
    have ne_y1_y2 : y1 ≠ y2 := Nat.ne_of_lt lt_y1_y2
    have V_70 : Arv Z h_70 y2 k_70 .double (1 : Int32) [(.double (0 : UInt64))] (.double (0 : UInt64)) := (Arv.new A_70 (by decide)).pad (pad_rep [] (.double (0 : UInt64)) 1)
    have K_70 : Keep h0 h_70 [] := K_69.ext E_70
    have Z_70 : n0 ≤ h_70.size := Nat.le_trans Z_69 E_70.1
    refine Go.step (fun t k => st_70 t k) ?_
    show Go p.tables e below P (T_70.setTop (mkF m 94 #[.val (.int p1), .val (.int p2), .val (.int p3), .val (.int p4), .val (.int p5), .val (.int p6), .val (.int (1 : Int32)), .val (.int i13), .val (.long j21), .second, .val (.long j34), .second, .val (.long j48), .second, .val (.long j62), .second, .val (.double d71), .second, .val (.ref y1), .unset, .unset, .unset, .unset] [(.ref y2)]))
    refine Go.step (fun t k => XS.dup X_70.here hx rfl (hb hby at_94) rfl rfl k) ?_
    show Go p.tables e below P (T_70.setTop (mkF m 95 #[.val (.int p1), .val (.int p2), .val (.int p3), .val (.int p4), .val (.int p5), .val (.int p6), .val (.int (1 : Int32)), .val (.int i13), .val (.long j21), .second, .val (.long j34), .second, .val (.long j48), .second, .val (.long j62), .second, .val (.double d71), .second, .val (.ref y1), .unset, .unset, .unset, .unset] [(.ref y2), (.ref y2)]))
    refine Go.step (fun t k => XS.iconst X_70.here hx rfl (hb hby at_95) k) ?_
    show Go p.tables e below P (T_70.setTop (mkF m 96 #[.val (.int p1), .val (.int p2), .val (.int p3), .val (.int p4), .val (.int p5), .val (.int p6), .val (.int (1 : Int32)), .val (.int i13), .val (.long j21), .second, .val (.long j34), .second, .val (.long j48), .second, .val (.long j62), .second, .val (.double d71), .second, .val (.ref y1), .unset, .unset, .unset, .unset] [(.int (0 : Int32)), (.ref y2), (.ref y2)]))
    refine Go.step (fun t k => XS.dload X_70.here hx rfl (hb hby at_96) rfl  k) ?_
    show Go p.tables e below P (T_70.setTop (mkF m 98 #[.val (.int p1), .val (.int p2), .val (.int p3), .val (.int p4), .val (.int p5), .val (.int p6), .val (.int (1 : Int32)), .val (.int i13), .val (.long j21), .second, .val (.long j34), .second, .val (.long j48), .second, .val (.long j62), .second, .val (.double d71), .second, .val (.ref y1), .unset, .unset, .unset, .unset] [(.double d71), (.int (0 : Int32)), (.ref y2), (.ref y2)]))
    have vq_71 := V_70
    obtain ⟨cl_71, Ar_71, q_71, S_71, Nn_71, H_71, G_71⟩ := vq_71
    have hin_71 : ¬ ((0 : Int32) < 0 ∨ cl_71.slots.size ≤ ((0 : Int32)).toNatClampNeg) := inb_of S_71 ⟨by decide, by decide⟩
    obtain ⟨T_72, h_72, X_72, e_72, W_72, st_72⟩ := stD X_70 hx hZ e_70 Ar_71 (j := (0 : Int32)) hin_71 (g := (mkF m 98 #[.val (.int p1), .val (.int p2), .val (.int p3), .val (.int p4), .val (.int p5), .val (.int p6), .val (.int (1 : Int32)), .val (.int i13), .val (.long j21), .second, .val (.long j34), .second, .val (.long j48), .second, .val (.long j62), .second, .val (.double d71), .second, .val (.ref y1), .unset, .unset, .unset, .unset] [(.double d71), (.int (0 : Int32)), (.ref y2), (.ref y2)])) rfl rfl (hb hby at_98)
    have V_72 : Arv Z h_72 y2 k_70 .double (1 : Int32) [(.double d71)] (.double (0 : UInt64)) := Arv.set Ar_71 q_71 S_71 Nn_71 H_71 G_71 rfl W_72 0 rfl (Nat.le_of_ble_eq_true rfl)
    have N_72 := Fr.snoc X_72 N_69 g_y2
    have K_72 : Keep h0 h_72 [] := K_70.wr W_72 (Or.inr sz_y2)
    have Z_72 : n0 ≤ h_72.size := Nat.le_trans Z_70 (Keep.of_wr W_72).1
    refine Go.step (fun t k => st_72 t k) ?_
    show Go p.tables e below P (T_72.setTop (mkF m 99 #[.val (.int p1), .val (.int p2), .val (.int p3), .val (.int p4), .val (.int p5), .val (.int p6), .val (.int (1 : Int32)), .val (.int i13), .val (.long j21), .second, .val (.long j34), .second, .val (.long j48), .second, .val (.long j62), .second, .val (.double d71), .second, .val (.ref y1), .unset, .unset, .unset, .unset] [(.ref y2)]))
    refine Go.step (fun t k => XS.astore X_72.here hx rfl (hb hby at_99) rfl rfl (l' := #[.val (.int p1), .val (.int p2), .val (.int p3), .val (.int p4), .val (.int p5), .val (.int p6), .val (.int (1 : Int32)), .val (.int i13), .val (.long j21), .second, .val (.long j34), .second, .val (.long j48), .second, .val (.long j62), .second, .val (.double d71), .second, .val (.ref y1), .val (.ref y2), .unset, .unset, .unset]) rfl k) ?_
    show Go p.tables e below P (T_72.setTop (mkF m 101 #[.val (.int p1), .val (.int p2), .val (.int p3), .val (.int p4), .val (.int p5), .val (.int p6), .val (.int (1 : Int32)), .val (.int i13), .val (.long j21), .second, .val (.long j34), .second, .val (.long j48), .second, .val (.long j62), .second, .val (.double d71), .second, .val (.ref y1), .val (.ref y2), .unset, .unset, .unset] []))
    refine Go.step (fun t k => XS.goto X_72.here hx rfl (pc0 := 101) (pc' := 251) rfl (hb hby at_101) (by decide) (by decide) k) ?_
    show Go p.tables e below P (T_72.setTop (mkF m 251 #[.val (.int p1), .val (.int p2), .val (.int p3), .val (.int p4), .val (.int p5), .val (.int p6), .val (.int (1 : Int32)), .val (.int i13), .val (.long j21), .second, .val (.long j34), .second, .val (.long j48), .second, .val (.long j62), .second, .val (.double d71), .second, .val (.ref y1), .val (.ref y2), .unset, .unset, .unset] []))
    obtain ⟨T_73, h_73, X_73, e_73, E_73, A_73, D_73, -, st_73⟩ := newO X_72 hx hZ hown (hw _ (List.mem_of_getElem? (i := 4) rfl)) (hw _ (List.mem_of_getElem? (i := 5) rfl)) (hw _ (List.mem_of_getElem? (i := 6) rfl)) e_72 (g := (mkF m 251 #[.val (.int p1), .val (.int p2), .val (.int p3), .val (.int p4), .val (.int p5), .val (.int p6), .val (.int (1 : Int32)), .val (.int i13), .val (.long j21), .second, .val (.long j34), .second, .val (.long j48), .second, .val (.long j62), .second, .val (.double d71), .second, .val (.ref y1), .val (.ref y2), .unset, .unset, .unset] [])) rfl (hb hby at_251) (by decide) (by decide)
    obtain ⟨b_73, g_73⟩ : ∃ z, z = h_72.size := ⟨_, rfl⟩
    rw [← g_73] at A_73 D_73 st_73
    have g_b_73 : n0 ≤ b_73 := Nat.le_trans Z_72 (Nat.le_of_eq g_73.symm)
    have sz_b_73 : h0.size ≤ b_73 := Nat.le_trans K_72.1 (Nat.le_of_eq g_73.symm)
    have ne_y1_b_73 : y1 ≠ b_73 := Nat.ne_of_lt (Nat.lt_of_lt_of_le (((Ex_67.wr W_69).ext E_70).wr W_72).lt (Nat.le_of_eq g_73.symm))
    have ne_y1_b_73 : y1 ≠ b_73 := Nat.ne_of_lt (Nat.lt_of_lt_of_le ((V_69.ext E_70).other W_72 ne_y1_y2).lt (Nat.le_of_eq g_73.symm))
    have ne_y2_b_73 : y2 ≠ b_73 := Nat.ne_of_lt (Nat.lt_of_lt_of_le (Ex_70.wr W_72).lt (Nat.le_of_eq g_73.symm))
    have ne_y2_b_73 : y2 ≠ b_73 := Nat.ne_of_lt (Nat.lt_of_lt_of_le V_72.lt (Nat.le_of_eq g_73.symm))
    have F_speedsMs_b_73 : Fld Z h_73 b_73 "com/example/gleitfahrt/gleitfahrt/engine/ForceCurve$Table" "speedsMs" "[D" .null := D_73 (Or.inr (hw _ (List.mem_of_getElem? (i := 32) rfl))) (ty := (.array .double)) (by decide)
    have F_forcesN_b_73 : Fld Z h_73 b_73 "com/example/gleitfahrt/gleitfahrt/engine/ForceCurve$Table" "forcesN" "[D" .null := D_73 (Or.inr (hw _ (List.mem_of_getElem? (i := 34) rfl))) (ty := (.array .double)) (by decide)
    have K_73 : Keep h0 h_73 [] := K_72.ext E_73
    have Z_73 : n0 ≤ h_73.size := Nat.le_trans Z_72 E_73.1
    refine Go.step (fun t k => st_73 t k) ?_
    show Go p.tables e below P (T_73.setTop (mkF m 254 #[.val (.int p1), .val (.int p2), .val (.int p3), .val (.int p4), .val (.int p5), .val (.int p6), .val (.int (1 : Int32)), .val (.int i13), .val (.long j21), .second, .val (.long j34), .second, .val (.long j48), .second, .val (.long j62), .second, .val (.double d71), .second, .val (.ref y1), .val (.ref y2), .unset, .unset, .unset] [(.ref b_73)]))
    refine Go.step (fun t k => XS.dup X_73.here hx rfl (hb hby at_254) rfl rfl k) ?_
    show Go p.tables e below P (T_73.setTop (mkF m 255 #[.val (.int p1), .val (.int p2), .val (.int p3), .val (.int p4), .val (.int p5), .val (.int p6), .val (.int (1 : Int32)), .val (.int i13), .val (.long j21), .second, .val (.long j34), .second, .val (.long j48), .second, .val (.long j62), .second, .val (.double d71), .second, .val (.ref y1), .val (.ref y2), .unset, .unset, .unset] [(.ref b_73), (.ref b_73)]))
    refine Go.step (fun t k => XS.aload X_73.here hx rfl (hb hby at_255) rfl rfl k) ?_
    show Go p.tables e below P (T_73.setTop (mkF m 257 #[.val (.int p1), .val (.int p2), .val (.int p3), .val (.int p4), .val (.int p5), .val (.int p6), .val (.int (1 : Int32)), .val (.int i13), .val (.long j21), .second, .val (.long j34), .second, .val (.long j48), .second, .val (.long j62), .second, .val (.double d71), .second, .val (.ref y1), .val (.ref y2), .unset, .unset, .unset] [(.ref y1), (.ref b_73), (.ref b_73)]))
    refine Go.step (fun t k => XS.aload X_73.here hx rfl (hb hby at_257) rfl rfl k) ?_
    show Go p.tables e below P (T_73.setTop (mkF m 259 #[.val (.int p1), .val (.int p2), .val (.int p3), .val (.int p4), .val (.int p5), .val (.int p6), .val (.int (1 : Int32)), .val (.int i13), .val (.long j21), .second, .val (.long j34), .second, .val (.long j48), .second, .val (.long j62), .second, .val (.double d71), .second, .val (.ref y1), .val (.ref y2), .unset, .unset, .unset] [(.ref y2), (.ref y1), (.ref b_73), (.ref b_73)]))
    obtain ⟨_, _, ⟨T_74, L_74, k_74, n_74⟩, -, X_74, ⟨Lc_74, hQ_74, l_74, y_74, z_74⟩, st_74⟩ := X_73.specialBack hx (y := (⟨"com/example/gleitfahrt/gleitfahrt/engine/ForceCurve$Table", "<init>", "([D[D)V"⟩ : MethodName)) rfl hown (mvT hZ (hw _ (List.mem_of_getElem? (i := 7) rfl))) (mvT hZ (hw _ (List.mem_of_getElem? (i := 8) rfl))) (mvT hZ (hw _ (List.mem_of_getElem? (i := 9) rfl))) (by decide) (backOf (W := 1) (rm11 l Z a0 hw [] b_73 y1 y2 k_67 k_70 d87 d71 j21.toInt i70.toInt h_73 n0 Z_73 A_73 F_speedsMs_b_73 F_forcesN_b_73 g_b_73 ((((Ex_67.wr W_69).ext E_70).wr W_72).ext E_73) ((Ex_70.wr W_72).ext E_73) (((V_69.ext E_70).other W_72 ne_y1_y2).ext E_73) (V_72.ext E_73) (Ne.symm ne_y1_b_73) (Ne.symm ne_y2_b_73) Q0 q71 b70 (by omega)) hZ (hw _ (List.mem_of_getElem? (i := 9) rfl)) (hw _ (List.mem_of_getElem? (i := 6) rfl)) (by decide) (by decide)) (g := (mkF m 259 #[.val (.int p1), .val (.int p2), .val (.int p3), .val (.int p4), .val (.int p5), .val (.int p6), .val (.int (1 : Int32)), .val (.int i13), .val (.long j21), .second, .val (.long j34), .second, .val (.long j48), .second, .val (.long j62), .second, .val (.double d71), .second, .val (.ref y1), .val (.ref y2), .unset, .unset, .unset] [(.ref y2), (.ref y1), (.ref b_73), (.ref b_73)])) rfl (by rw [hml]; rfl) (Steps.refl _) (a := b_73) (argsL := [(.ref y1), (.ref y2)]) (rest := [(.ref b_73)]) (lenOf pd_2 rfl) rfl (by show 2 * 0 + _ ≤ _; exact Nat.le_of_eq rfl) (hb hby at_259) (fun _ _ => ⟨rfl, e_73, (by decide : 3 + 2 ≤ _), (by decide : 4 + 2 ≤ _)⟩)
    dsimp only [Pt.U, Pt.locs, Pt.cells, Pt.slots] at X_74 l_74 y_74 z_74 st_74 hQ_74
    subst l_74 y_74 z_74
    obtain ⟨rfl, N_74q, Kc_74, Ee_74, x1, Fx1, Vx1⟩ := hQ_74
    have N_74 := Fr.app N_72 N_74q
    have K_74 : Keep h0 T_74.heap [] := K_73.trans Kc_74 (allS (Or.inr sz_b_73) all0)
    have Z_74 : n0 ≤ T_74.heap.size := Nat.le_trans Z_73 Kc_74.1
    refine Go.tr st_74 ?_
    show Go p.tables e below P (T_74.setTop (mkF m 262 #[.val (.int p1), .val (.int p2), .val (.int p3), .val (.int p4), .val (.int p5), .val (.int p6), .val (.int (1 : Int32)), .val (.int i13), .val (.long j21), .second, .val (.long j34), .second, .val (.long j48), .second, .val (.long j62), .second, .val (.double d71), .second, .val (.ref y1), .val (.ref y2), .unset, .unset, .unset] [(.ref b_73)]))
    refine Go.step (fun t k => XS.astore X_74.here hx rfl (hb hby at_262) rfl rfl (l' := #[.val (.int p1), .val (.int p2), .val (.int p3), .val (.int p4), .val (.int p5), .val (.int p6), .val (.int (1 : Int32)), .val (.int i13), .val (.long j21), .second, .val (.long j34), .second, .val (.long j48), .second, .val (.long j62), .second, .val (.double d71), .second, .val (.ref y1), .val (.ref y2), .val (.ref b_73), .unset, .unset]) rfl k) ?_
    show Go p.tables e below P (T_74.setTop (mkF m 264 #[.val (.int p1), .val (.int p2), .val (.int p3), .val (.int p4), .val (.int p5), .val (.int p6), .val (.int (1 : Int32)), .val (.int i13), .val (.long j21), .second, .val (.long j34), .second, .val (.long j48), .second, .val (.long j62), .second, .val (.double d71), .second, .val (.ref y1), .val (.ref y2), .val (.ref b_73), .unset, .unset] []))
    have hj13 : i13 = (0 : Int32) := by
      have hh : i13.toInt = 0 := by omega
      rcases hh with hh
      · exact (Int32.toInt_inj.mp (hh.trans rfl))
    have ej13 := hj13
    · subst ej13
      show Go p.tables e below P (T_74.setTop (mkF m 264 #[.val (.int p1), .val (.int p2), .val (.int p3), .val (.int p4), .val (.int p5), .val (.int p6), .val (.int (1 : Int32)), .val (.int (0 : Int32)), .val (.long j21), .second, .val (.long j34), .second, .val (.long j48), .second, .val (.long j62), .second, .val (.double d71), .second, .val (.ref y1), .val (.ref y2), .val (.ref b_73), .unset, .unset] []))
      refine Go.step (fun t k => XS.iload X_74.here hx rfl (hb hby at_264) rfl  k) ?_
      show Go p.tables e below P (T_74.setTop (mkF m 266 #[.val (.int p1), .val (.int p2), .val (.int p3), .val (.int p4), .val (.int p5), .val (.int p6), .val (.int (1 : Int32)), .val (.int (0 : Int32)), .val (.long j21), .second, .val (.long j34), .second, .val (.long j48), .second, .val (.long j62), .second, .val (.double d71), .second, .val (.ref y1), .val (.ref y2), .val (.ref b_73), .unset, .unset] [(.int (0 : Int32))]))
      refine Go.step (fun t k => XS.iconst X_74.here hx rfl (hb hby at_266) k) ?_
      show Go p.tables e below P (T_74.setTop (mkF m 267 #[.val (.int p1), .val (.int p2), .val (.int p3), .val (.int p4), .val (.int p5), .val (.int p6), .val (.int (1 : Int32)), .val (.int (0 : Int32)), .val (.long j21), .second, .val (.long j34), .second, .val (.long j48), .second, .val (.long j62), .second, .val (.double d71), .second, .val (.ref y1), .val (.ref y2), .val (.ref b_73), .unset, .unset] [(.int (1 : Int32)), (.int (0 : Int32))]))
      obtain ⟨ja, hja⟩ : ∃ z : Int32, (0 : Int32) + (1 : Int32) = z := ⟨_, rfl⟩
      refine Go.step (fun t k => iadd_v X_74.here hx rfl (hb hby at_267) rfl  hja k) ?_
      show Go p.tables e below P (T_74.setTop (mkF m 268 #[.val (.int p1), .val (.int p2), .val (.int p3), .val (.int p4), .val (.int p5), .val (.int p6), .val (.int (1 : Int32)), .val (.int (0 : Int32)), .val (.long j21), .second, .val (.long j34), .second, .val (.long j48), .second, .val (.long j62), .second, .val (.double d71), .second, .val (.ref y1), .val (.ref y2), .val (.ref b_73), .unset, .unset] [(.int ja)]))
      have ez_ja : ja = (1 : Int32) := by rw [← hja]; rfl
      subst ez_ja
      show Go p.tables e below P (T_74.setTop (mkF m 268 #[.val (.int p1), .val (.int p2), .val (.int p3), .val (.int p4), .val (.int p5), .val (.int p6), .val (.int (1 : Int32)), .val (.int (0 : Int32)), .val (.long j21), .second, .val (.long j34), .second, .val (.long j48), .second, .val (.long j62), .second, .val (.double d71), .second, .val (.ref y1), .val (.ref y2), .val (.ref b_73), .unset, .unset] [(.int (1 : Int32))]))
      refine Go.step (fun t k => XS.iload X_74.here hx rfl (hb hby at_268) rfl  k) ?_
      show Go p.tables e below P (T_74.setTop (mkF m 270 #[.val (.int p1), .val (.int p2), .val (.int p3), .val (.int p4), .val (.int p5), .val (.int p6), .val (.int (1 : Int32)), .val (.int (0 : Int32)), .val (.long j21), .second, .val (.long j34), .second, .val (.long j48), .second, .val (.long j62), .second, .val (.double d71), .second, .val (.ref y1), .val (.ref y2), .val (.ref b_73), .unset, .unset] [(.int (1 : Int32)), (.int (1 : Int32))]))
      refine Go.step (fun t k => XS.icmpNo X_74.here hx rfl (hb hby at_270) rfl (icN (cd := .lt) (by decide : ¬ ((1 : Int) < (1 : Int)))) k) ?_
      show Go p.tables e below P (T_74.setTop (mkF m 273 #[.val (.int p1), .val (.int p2), .val (.int p3), .val (.int p4), .val (.int p5), .val (.int p6), .val (.int (1 : Int32)), .val (.int (0 : Int32)), .val (.long j21), .second, .val (.long j34), .second, .val (.long j48), .second, .val (.long j62), .second, .val (.double d71), .second, .val (.ref y1), .val (.ref y2), .val (.ref b_73), .unset, .unset] []))
      refine Go.step (fun t k => X_74.ldc2DoubleC hx hown (mvT hZ (hw _ (List.mem_of_getElem? (i := 35) rfl))) (g := (mkF m 273 #[.val (.int p1), .val (.int p2), .val (.int p3), .val (.int p4), .val (.int p5), .val (.int p6), .val (.int (1 : Int32)), .val (.int (0 : Int32)), .val (.long j21), .second, .val (.long j34), .second, .val (.long j48), .second, .val (.long j62), .second, .val (.double d71), .second, .val (.ref y1), .val (.ref y2), .val (.ref b_73), .unset, .unset] [])) rfl (hb hby at_273) t k) ?_
      show Go p.tables e below P (T_74.setTop (mkF m 276 #[.val (.int p1), .val (.int p2), .val (.int p3), .val (.int p4), .val (.int p5), .val (.int p6), .val (.int (1 : Int32)), .val (.int (0 : Int32)), .val (.long j21), .second, .val (.long j34), .second, .val (.long j48), .second, .val (.long j62), .second, .val (.double d71), .second, .val (.ref y1), .val (.ref y2), .val (.ref b_73), .unset, .unset] [(.double (9218868437227405312 : UInt64))]))
      refine Go.step (fun t k => XS.dstore X_74.here hx rfl (hb hby at_276) rfl (l' := #[.val (.int p1), .val (.int p2), .val (.int p3), .val (.int p4), .val (.int p5), .val (.int p6), .val (.int (1 : Int32)), .val (.int (0 : Int32)), .val (.long j21), .second, .val (.long j34), .second, .val (.long j48), .second, .val (.long j62), .second, .val (.double d71), .second, .val (.ref y1), .val (.ref y2), .val (.ref b_73), .val (.double (9218868437227405312 : UInt64)), .second]) rfl k) ?_
      show Go p.tables e below P (T_74.setTop (mkF m 278 #[.val (.int p1), .val (.int p2), .val (.int p3), .val (.int p4), .val (.int p5), .val (.int p6), .val (.int (1 : Int32)), .val (.int (0 : Int32)), .val (.long j21), .second, .val (.long j34), .second, .val (.long j48), .second, .val (.long j62), .second, .val (.double d71), .second, .val (.ref y1), .val (.ref y2), .val (.ref b_73), .val (.double (9218868437227405312 : UInt64)), .second] []))
      refine Go.step (fun t k => XS.goto X_74.here hx rfl (pc0 := 278) (pc' := 313) rfl (hb hby at_278) (by decide) (by decide) k) ?_
      show Go p.tables e below P (T_74.setTop (mkF m 313 #[.val (.int p1), .val (.int p2), .val (.int p3), .val (.int p4), .val (.int p5), .val (.int p6), .val (.int (1 : Int32)), .val (.int (0 : Int32)), .val (.long j21), .second, .val (.long j34), .second, .val (.long j48), .second, .val (.long j62), .second, .val (.double d71), .second, .val (.ref y1), .val (.ref y2), .val (.ref b_73), .val (.double (9218868437227405312 : UInt64)), .second] []))
      refine Go.step (fun t k => XS.aload X_74.here hx rfl (hb hby at_313) rfl rfl k) ?_
      show Go p.tables e below P (T_74.setTop (mkF m 315 #[.val (.int p1), .val (.int p2), .val (.int p3), .val (.int p4), .val (.int p5), .val (.int p6), .val (.int (1 : Int32)), .val (.int (0 : Int32)), .val (.long j21), .second, .val (.long j34), .second, .val (.long j48), .second, .val (.long j62), .second, .val (.double d71), .second, .val (.ref y1), .val (.ref y2), .val (.ref b_73), .val (.double (9218868437227405312 : UInt64)), .second] [(.ref b_73)]))
      refine Go.step (fun t k => XS.iload X_74.here hx rfl (hb hby at_315) rfl  k) ?_
      show Go p.tables e below P (T_74.setTop (mkF m 317 #[.val (.int p1), .val (.int p2), .val (.int p3), .val (.int p4), .val (.int p5), .val (.int p6), .val (.int (1 : Int32)), .val (.int (0 : Int32)), .val (.long j21), .second, .val (.long j34), .second, .val (.long j48), .second, .val (.long j62), .second, .val (.double d71), .second, .val (.ref y1), .val (.ref y2), .val (.ref b_73), .val (.double (9218868437227405312 : UInt64)), .second] [(.int (0 : Int32)), (.ref b_73)]))
      obtain ⟨cq_75, kq_75, q_75a, q_75b, q_75c⟩ := isOf hZ rfl (A_73.keep Kc_74)
      obtain ⟨_, _, ⟨T_75, L_75, k_75, n_75⟩, -, X_75, ⟨Lc_75, hQ_75, l_75, y_75, z_75⟩, st_75⟩ := X_74.virtualBack hx (y := (⟨"com/example/gleitfahrt/gleitfahrt/engine/ForceCurve$Table", "upperMs", "(I)D"⟩ : MethodName)) (z := (⟨"com/example/gleitfahrt/gleitfahrt/engine/ForceCurve$Table", "upperMs", "(I)D"⟩ : MethodName)) hown (mvT hZ (hw _ (List.mem_of_getElem? (i := 36) rfl))) (mvT hZ (hw _ (List.mem_of_getElem? (i := 37) rfl))) (notFace_of_selects (args := #[]) (mvT hZ (hw _ (List.mem_of_getElem? (i := 39) rfl)))) (mvT hZ (hw _ (List.mem_of_getElem? (i := 39) rfl))) (mvT hZ (hw _ (List.mem_of_getElem? (i := 38) rfl))) (by decide) (backOf (W := 0) (up1_0 l Z a0 hw [] b_73 x1 k_67 d87 T_74.heap n0 Z_74 Fx1 Vx1) hZ (hw _ (List.mem_of_getElem? (i := 40) rfl)) (hw _ (List.mem_of_getElem? (i := 6) rfl)) (by decide) (by decide)) q_75a q_75c (g := (mkF m 317 #[.val (.int p1), .val (.int p2), .val (.int p3), .val (.int p4), .val (.int p5), .val (.int p6), .val (.int (1 : Int32)), .val (.int (0 : Int32)), .val (.long j21), .second, .val (.long j34), .second, .val (.long j48), .second, .val (.long j62), .second, .val (.double d71), .second, .val (.ref y1), .val (.ref y2), .val (.ref b_73), .val (.double (9218868437227405312 : UInt64)), .second] [(.int (0 : Int32)), (.ref b_73)])) rfl (by rw [hml]; rfl) (Steps.refl _) (argsL := [(.int (0 : Int32))]) (rest := []) (lenOf pd_3 rfl) rfl (by show 2 * 0 + _ ≤ _; exact Nat.le_of_eq rfl) (hb hby at_317) (fun _ _ => ⟨rfl, rfl, (by decide : 5 + 0 ≤ _), (by decide : 6 + 0 ≤ _)⟩)
      dsimp only [Pt.U, Pt.locs, Pt.cells, Pt.slots] at X_75 l_75 y_75 z_75 st_75 hQ_75
      subst l_75 y_75 z_75
      obtain ⟨rfl, N_75q, eh_75⟩ := hQ_75
      have N_75 := Fr.app N_74 N_75q
      refine Go.tr st_75 ?_
      show Go p.tables e below P (T_75.setTop (mkF m 320 #[.val (.int p1), .val (.int p2), .val (.int p3), .val (.int p4), .val (.int p5), .val (.int p6), .val (.int (1 : Int32)), .val (.int (0 : Int32)), .val (.long j21), .second, .val (.long j34), .second, .val (.long j48), .second, .val (.long j62), .second, .val (.double d71), .second, .val (.ref y1), .val (.ref y2), .val (.ref b_73), .val (.double (9218868437227405312 : UInt64)), .second] [(.double (9218868437227405312 : UInt64))]))
      refine Go.step (fun t k => XS.dload X_75.here hx rfl (hb hby at_320) rfl  k) ?_
      show Go p.tables e below P (T_75.setTop (mkF m 322 #[.val (.int p1), .val (.int p2), .val (.int p3), .val (.int p4), .val (.int p5), .val (.int p6), .val (.int (1 : Int32)), .val (.int (0 : Int32)), .val (.long j21), .second, .val (.long j34), .second, .val (.long j48), .second, .val (.long j62), .second, .val (.double d71), .second, .val (.ref y1), .val (.ref y2), .val (.ref b_73), .val (.double (9218868437227405312 : UInt64)), .second] [(.double (9218868437227405312 : UInt64)), (.double (9218868437227405312 : UInt64))]))
      refine Go.step (fun t k => XS.dcmpS X_75.here hx rfl (hb hby at_322) rfl rfl k) ?_
      show Go p.tables e below P (T_75.setTop (mkF m 323 #[.val (.int p1), .val (.int p2), .val (.int p3), .val (.int p4), .val (.int p5), .val (.int p6), .val (.int (1 : Int32)), .val (.int (0 : Int32)), .val (.long j21), .second, .val (.long j34), .second, .val (.long j48), .second, .val (.long j62), .second, .val (.double d71), .second, .val (.ref y1), .val (.ref y2), .val (.ref b_73), .val (.double (9218868437227405312 : UInt64)), .second] [(.int (cmpValue (FP.dcmp (9218868437227405312 : UInt64) (9218868437227405312 : UInt64)) .l))]))
      refine Go.step (fun t k => XS.ifNo X_75.here hx rfl (hb hby at_323) rfl (dcN (cd := .ne) (same_cmp inf_ok) (fun q => q rfl)) k) ?_
      show Go p.tables e below P (T_75.setTop (mkF m 326 #[.val (.int p1), .val (.int p2), .val (.int p3), .val (.int p4), .val (.int p5), .val (.int p6), .val (.int (1 : Int32)), .val (.int (0 : Int32)), .val (.long j21), .second, .val (.long j34), .second, .val (.long j48), .second, .val (.long j62), .second, .val (.double d71), .second, .val (.ref y1), .val (.ref y2), .val (.ref b_73), .val (.double (9218868437227405312 : UInt64)), .second] []))
      refine Go.step (fun t k => XS.aload X_75.here hx rfl (hb hby at_326) rfl rfl k) ?_
      show Go p.tables e below P (T_75.setTop (mkF m 328 #[.val (.int p1), .val (.int p2), .val (.int p3), .val (.int p4), .val (.int p5), .val (.int p6), .val (.int (1 : Int32)), .val (.int (0 : Int32)), .val (.long j21), .second, .val (.long j34), .second, .val (.long j48), .second, .val (.long j62), .second, .val (.double d71), .second, .val (.ref y1), .val (.ref y2), .val (.ref b_73), .val (.double (9218868437227405312 : UInt64)), .second] [(.ref b_73)]))
      refine Go.step (fun t k => XS.iload X_75.here hx rfl (hb hby at_328) rfl  k) ?_
      show Go p.tables e below P (T_75.setTop (mkF m 330 #[.val (.int p1), .val (.int p2), .val (.int p3), .val (.int p4), .val (.int p5), .val (.int p6), .val (.int (1 : Int32)), .val (.int (0 : Int32)), .val (.long j21), .second, .val (.long j34), .second, .val (.long j48), .second, .val (.long j62), .second, .val (.double d71), .second, .val (.ref y1), .val (.ref y2), .val (.ref b_73), .val (.double (9218868437227405312 : UInt64)), .second] [(.int (1 : Int32)), (.ref b_73)]))
      refine Go.step (fun t k => XS.iconst X_75.here hx rfl (hb hby at_330) k) ?_
      show Go p.tables e below P (T_75.setTop (mkF m 331 #[.val (.int p1), .val (.int p2), .val (.int p3), .val (.int p4), .val (.int p5), .val (.int p6), .val (.int (1 : Int32)), .val (.int (0 : Int32)), .val (.long j21), .second, .val (.long j34), .second, .val (.long j48), .second, .val (.long j62), .second, .val (.double d71), .second, .val (.ref y1), .val (.ref y2), .val (.ref b_73), .val (.double (9218868437227405312 : UInt64)), .second] [(.int (1 : Int32)), (.int (1 : Int32)), (.ref b_73)]))
      obtain ⟨jm, hjm⟩ : ∃ z : Int32, (1 : Int32) - (1 : Int32) = z := ⟨_, rfl⟩
      refine Go.step (fun t k => isub_v X_75.here hx rfl (hb hby at_331) rfl  hjm k) ?_
      show Go p.tables e below P (T_75.setTop (mkF m 332 #[.val (.int p1), .val (.int p2), .val (.int p3), .val (.int p4), .val (.int p5), .val (.int p6), .val (.int (1 : Int32)), .val (.int (0 : Int32)), .val (.long j21), .second, .val (.long j34), .second, .val (.long j48), .second, .val (.long j62), .second, .val (.double d71), .second, .val (.ref y1), .val (.ref y2), .val (.ref b_73), .val (.double (9218868437227405312 : UInt64)), .second] [(.int jm), (.ref b_73)]))
      have ez_jm : jm = (0 : Int32) := by rw [← hjm]; rfl
      subst ez_jm
      show Go p.tables e below P (T_75.setTop (mkF m 332 #[.val (.int p1), .val (.int p2), .val (.int p3), .val (.int p4), .val (.int p5), .val (.int p6), .val (.int (1 : Int32)), .val (.int (0 : Int32)), .val (.long j21), .second, .val (.long j34), .second, .val (.long j48), .second, .val (.long j62), .second, .val (.double d71), .second, .val (.ref y1), .val (.ref y2), .val (.ref b_73), .val (.double (9218868437227405312 : UInt64)), .second] [(.int (0 : Int32)), (.ref b_73)]))
      obtain ⟨cq_76, kq_76, q_76a, q_76b, q_76c⟩ := isOf hZ eh_75 (A_73.keep Kc_74)
      obtain ⟨_, _, ⟨T_76, L_76, k_76, n_76⟩, -, X_76, ⟨Lc_76, hQ_76, l_76, y_76, z_76⟩, st_76⟩ := X_75.virtualBack hx (y := (⟨"com/example/gleitfahrt/gleitfahrt/engine/ForceCurve$Table", "upperMs", "(I)D"⟩ : MethodName)) (z := (⟨"com/example/gleitfahrt/gleitfahrt/engine/ForceCurve$Table", "upperMs", "(I)D"⟩ : MethodName)) hown (mvT hZ (hw _ (List.mem_of_getElem? (i := 36) rfl))) (mvT hZ (hw _ (List.mem_of_getElem? (i := 37) rfl))) (notFace_of_selects (args := #[]) (mvT hZ (hw _ (List.mem_of_getElem? (i := 39) rfl)))) (mvT hZ (hw _ (List.mem_of_getElem? (i := 39) rfl))) (mvT hZ (hw _ (List.mem_of_getElem? (i := 38) rfl))) (by decide) (backOf (W := 0) (up1_0 l Z a0 hw [] b_73 x1 k_67 d87 T_74.heap n0 Z_74 Fx1 Vx1) hZ (hw _ (List.mem_of_getElem? (i := 40) rfl)) (hw _ (List.mem_of_getElem? (i := 6) rfl)) (by decide) (by decide)) q_76a q_76c (g := (mkF m 332 #[.val (.int p1), .val (.int p2), .val (.int p3), .val (.int p4), .val (.int p5), .val (.int p6), .val (.int (1 : Int32)), .val (.int (0 : Int32)), .val (.long j21), .second, .val (.long j34), .second, .val (.long j48), .second, .val (.long j62), .second, .val (.double d71), .second, .val (.ref y1), .val (.ref y2), .val (.ref b_73), .val (.double (9218868437227405312 : UInt64)), .second] [(.int (0 : Int32)), (.ref b_73)])) rfl (by rw [hml]; rfl) (Steps.refl _) (argsL := [(.int (0 : Int32))]) (rest := []) (lenOf pd_3 rfl) rfl (by show 2 * 0 + _ ≤ _; exact Nat.le_of_eq rfl) (hb hby at_332) (fun _ _ => ⟨rfl, eh_75, (by decide : 5 + 0 ≤ _), (by decide : 6 + 0 ≤ _)⟩)
      dsimp only [Pt.U, Pt.locs, Pt.cells, Pt.slots] at X_76 l_76 y_76 z_76 st_76 hQ_76
      subst l_76 y_76 z_76
      obtain ⟨rfl, N_76q, eh_76⟩ := hQ_76
      have N_76 := Fr.app N_75 N_76q
      refine Go.tr st_76 ?_
      show Go p.tables e below P (T_76.setTop (mkF m 335 #[.val (.int p1), .val (.int p2), .val (.int p3), .val (.int p4), .val (.int p5), .val (.int p6), .val (.int (1 : Int32)), .val (.int (0 : Int32)), .val (.long j21), .second, .val (.long j34), .second, .val (.long j48), .second, .val (.long j62), .second, .val (.double d71), .second, .val (.ref y1), .val (.ref y2), .val (.ref b_73), .val (.double (9218868437227405312 : UInt64)), .second] [(.double (9218868437227405312 : UInt64))]))
      refine Go.step (fun t k => X_76.ldc2DoubleC hx hown (mvT hZ (hw _ (List.mem_of_getElem? (i := 35) rfl))) (g := (mkF m 335 #[.val (.int p1), .val (.int p2), .val (.int p3), .val (.int p4), .val (.int p5), .val (.int p6), .val (.int (1 : Int32)), .val (.int (0 : Int32)), .val (.long j21), .second, .val (.long j34), .second, .val (.long j48), .second, .val (.long j62), .second, .val (.double d71), .second, .val (.ref y1), .val (.ref y2), .val (.ref b_73), .val (.double (9218868437227405312 : UInt64)), .second] [(.double (9218868437227405312 : UInt64))])) rfl (hb hby at_335) t k) ?_
      show Go p.tables e below P (T_76.setTop (mkF m 338 #[.val (.int p1), .val (.int p2), .val (.int p3), .val (.int p4), .val (.int p5), .val (.int p6), .val (.int (1 : Int32)), .val (.int (0 : Int32)), .val (.long j21), .second, .val (.long j34), .second, .val (.long j48), .second, .val (.long j62), .second, .val (.double d71), .second, .val (.ref y1), .val (.ref y2), .val (.ref b_73), .val (.double (9218868437227405312 : UInt64)), .second] [(.double (9218868437227405312 : UInt64)), (.double (9218868437227405312 : UInt64))]))
      refine Go.step (fun t k => XS.dcmpS X_76.here hx rfl (hb hby at_338) rfl rfl k) ?_
      show Go p.tables e below P (T_76.setTop (mkF m 339 #[.val (.int p1), .val (.int p2), .val (.int p3), .val (.int p4), .val (.int p5), .val (.int p6), .val (.int (1 : Int32)), .val (.int (0 : Int32)), .val (.long j21), .second, .val (.long j34), .second, .val (.long j48), .second, .val (.long j62), .second, .val (.double d71), .second, .val (.ref y1), .val (.ref y2), .val (.ref b_73), .val (.double (9218868437227405312 : UInt64)), .second] [(.int (cmpValue (FP.dcmp (9218868437227405312 : UInt64) (9218868437227405312 : UInt64)) .l))]))
      refine Go.step (fun t k => XS.ifNo X_76.here hx rfl (hb hby at_339) rfl (dcN (cd := .ne) (same_cmp inf_ok) (fun q => q rfl)) k) ?_
      show Go p.tables e below P (T_76.setTop (mkF m 342 #[.val (.int p1), .val (.int p2), .val (.int p3), .val (.int p4), .val (.int p5), .val (.int p6), .val (.int (1 : Int32)), .val (.int (0 : Int32)), .val (.long j21), .second, .val (.long j34), .second, .val (.long j48), .second, .val (.long j62), .second, .val (.double d71), .second, .val (.ref y1), .val (.ref y2), .val (.ref b_73), .val (.double (9218868437227405312 : UInt64)), .second] []))
      refine Go.step (fun t k => XS.iconst X_76.here hx rfl (hb hby at_342) k) ?_
      show Go p.tables e below P (T_76.setTop (mkF m 343 #[.val (.int p1), .val (.int p2), .val (.int p3), .val (.int p4), .val (.int p5), .val (.int p6), .val (.int (1 : Int32)), .val (.int (0 : Int32)), .val (.long j21), .second, .val (.long j34), .second, .val (.long j48), .second, .val (.long j62), .second, .val (.double d71), .second, .val (.ref y1), .val (.ref y2), .val (.ref b_73), .val (.double (9218868437227405312 : UInt64)), .second] [(.int (1 : Int32))]))
      refine Go.step (fun t k => XS.goto X_76.here hx rfl (pc0 := 343) (pc' := 347) rfl (hb hby at_343) (by decide) (by decide) k) ?_
      show Go p.tables e below P (T_76.setTop (mkF m 347 #[.val (.int p1), .val (.int p2), .val (.int p3), .val (.int p4), .val (.int p5), .val (.int p6), .val (.int (1 : Int32)), .val (.int (0 : Int32)), .val (.long j21), .second, .val (.long j34), .second, .val (.long j48), .second, .val (.long j62), .second, .val (.double d71), .second, .val (.ref y1), .val (.ref y2), .val (.ref b_73), .val (.double (9218868437227405312 : UInt64)), .second] [(.int (1 : Int32))]))
      exact retGo X_76 hx hP Bd.returns hlk rfl (Or.inl ⟨rfl, Or.inr (Or.inl rfl), _, rfl⟩) (hb hby at_347) (by decide) (by decide) (by rw [eh_76]; exact ⟨rfl, N_76⟩)
set_option maxRecDepth 65536 in
set_option maxHeartbeats 40000000 in
theorem comes_1 {Post : Tables → Env → Array Value → State → Outcome → State → Prop} (hpost : ∀ tb e args s v u, (limb_1_1.after args s (.returned v) u = true ∧ limb_1_2.after args s (.returned v) u = true ∧ True) → FrameEnd s (.returned v) u (Jvm.fieldLocs frame_1_writes args s ++ Jvm.arrayLocs frame_1_arrays args s ++ Jvm.staticLocs frame_1_statics s) 24 128 → Post tb e args s (.returned v) u) :
    ArmFor flags0 classFile x code maxLocals ret World_1 tables_1 room_1 Calls_1 rest_1 Pre_1 Post := by
  intro l hfl _ _ p e ha hc hk s m args below hf hA hF happ hP
  obtain ⟨hcalls, hrest, hpre⟩ := hP
  obtain ⟨-, -, -, hnamed, -, -, -, hat⟩ := (Spec.applies_iff hf).mp happ
  obtain ⟨hg, hn⟩ := and_e (Cond.before_iff.mp (show (Jvm.Cond.and given_1 narrow_1).before args s = true from hpre))
  obtain ⟨gc, hg0⟩ := and_e hg
  obtain ⟨ga0, hg1⟩ := and_e hg0
  obtain ⟨ga1, hg2⟩ := and_e hg1
  obtain ⟨ga2, hg3⟩ := and_e hg2
  obtain ⟨ga3, hg4⟩ := and_e hg3
  obtain ⟨ga4, hg5⟩ := and_e hg4
  have ga5 := hg5
  obtain ⟨w0, w1, w2, w3, w4, w5, rfl⟩ : ∃ w0 w1 w2 w3 w4 w5 : Value, args = #[w0, w1, w2, w3, w4, w5] := by
    have hs : args.size = 6 := by simpa [Cond.value, given_1] using gc
    obtain ⟨L⟩ := args
    match L, hs with
    | [w0, w1, w2, w3, w4, w5], _ => exact ⟨w0, w1, w2, w3, w4, w5, rfl⟩
  have hw := fun d (hd : d ∈ tables_1) => atoms_spec (ws := Jvm.Cond.code x code maxLocals ret :: tables_1) hat d (List.mem_cons_of_mem _ hd)
  obtain ⟨i0, ei0⟩ := is_v ga0
  obtain rfl : w0 = (.int i0) := Option.some.inj ei0
  obtain ⟨i1, ei1⟩ := is_v ga1
  obtain rfl : w1 = (.int i1) := Option.some.inj ei1
  obtain ⟨i2, ei2⟩ := is_v ga2
  obtain rfl : w2 = (.int i2) := Option.some.inj ei2
  obtain ⟨i3, ei3⟩ := is_v ga3
  obtain rfl : w3 = (.int i3) := Option.some.inj ei3
  obtain ⟨i4, ei4⟩ := is_v ga4
  obtain rfl : w4 = (.int i4) := Option.some.inj ei4
  obtain ⟨i5, ei5⟩ := is_v ga5
  obtain rfl : w5 = (.int i5) := Option.some.inj ei5
  obtain ⟨n, o, h1, h2, h3, _, L, rfl, ⟨rfl, N⟩, hq⟩ := rm0 l s _ hw tables_1 i0 i1 i2 i3 i4 i5 s.heap s.heap.size (Nat.le_refl _) p e ha hc hk s m _ below hf ((Spec.applies_iff_loose hf).mp happ).1 ⟨rfl, State.Warmed39.refl s, rfl⟩ trivial
  refine ⟨n, _, h1, h2, h3, hpost _ _ _ _ _ _ ⟨Cond.after_iff.mpr rfl, Cond.after_iff.mpr (eq_i res_at (Term.int_eval (1)) rfl), trivial⟩ ⟨hq.1, hq.2.1, (hq.2.2.sift fun y hy => Or.inr (N y hy)).mono (by decide) (by decide)⟩⟩
theorem main_1_1 : Claimed_1_1 := comes_1 fun _ _ _ _ _ _ h hF => ⟨h.1, hF⟩
theorem main_1_2 : Claimed_1_2 := comes_1 fun _ _ _ _ _ _ h hF => ⟨h.2.1, hF⟩
end Jvm.Pilot.@@N@@
namespace Jvm.Pilot.@@N@@
open Jvm Jvm.ClassFile Sem Op Lib Jvm.Free Jvm.Stand Jvm.Pilot.@@N@@.Jvm.D
/-! MADE BY PROGRAM (witnessworld.py) out of the Statement's table words and the real class files: 18 classes; the members and pool entries that the words name. The judged class is class 1, her method 1. -/
namespace start1
open Jvm.ClassFile
def u (s : String) : CpInfo := .utf8 (stringToUtf16 s)
/-- a pool by its gaps: so many unusable entries, then the entry; so many at the end -/
def gap : Nat → List CpInfo → List CpInfo
  | 0, r => r
  | n + 1, r => .unusable :: gap n r
def poolList (es : List (Nat × CpInfo)) (last : Nat) : List CpInfo := es.foldr (fun e r => gap e.1 (e.2 :: r)) (gap last [])
def pool (es : List (Nat × CpInfo)) (last : Nat) : Array CpInfo := ⟨poolList es last⟩
def fileOf (pool : Array CpInfo) (this : Nat) (attrs : Array Attribute := #[]) (ms : Array MethodInfo := #[]) (fl : Nat := 33) (sup : Nat := 0) (ifs : Array Nat := #[]) (fds : Array FieldInfo := #[]) : ClassFile where
  minorVersion := 0
  majorVersion := 65
  constantPool := pool
  accessFlags := fl
  thisClass := this
  superClass := sup
  interfaces := ifs
  fields := fds
  methods := ms
  attributes := attrs
def plain (name : String) (sup : Option ClassId) : Class where
  name := name
  kind := .ordinary
  loader := none
  accessFlags := 33
  super := sup
  interfaces := #[]
  cf := none
  fields := #[]
  methods := #[]
  instanceTypes := #[]
  staticTypes := #[]
  resolved := #[]
  callSites := []
  init := .initialized
  statics := none
  mirror := none

def pool0 : Array CpInfo := pool [(5, u "<init>"), (0, u "()V"), (1, .class_ 10), (1, u "java/lang/Object"), (85, u "clone"), (0, u "()Ljava/lang/Object;")] 26

def k0c0 : Code := { maxStack := 0, maxLocals := 1, code := object_method_1_code, exceptionTable := #[], attributes := #[] }
def k0m0 : Method := { name := "<init>", desc := "()V", sig := { parameters := [], returnType := none }, accessFlags := 1, code := some k0c0 }
def k0m1 : Method := { name := "clone", desc := "()Ljava/lang/Object;", sig := { parameters := [], returnType := some (.object "java/lang/Object") }, accessFlags := 260, code := none }
/-- java/lang/Object -/
def k0 : Class := { plain "java/lang/Object" none with
  accessFlags := 33
  interfaces := #[]
  cf := some (fileOf pool0 8 #[] #[{ accessFlags := 1, nameIndex := 5, descriptorIndex := 6, attributes := #[] }, { accessFlags := 260, nameIndex := 96, descriptorIndex := 97, attributes := #[] }] 33 0 #[] #[])
  fields := #[]
  methods := #[k0m0, k0m1]
  instanceTypes := #[]
  staticTypes := #[]
  resolved := Array.replicate 124 none
  statics := none }

def pool1 : Array CpInfo := pool [(2, .class_ 4), (1, u "java/lang/Object"), (0, u "<init>"), (0, u "()V"), (0, .integer 2147483647), (0, .long 1073741823), (1, .integer 65535), (0, .class_ 12), (0, u "com/example/gleitfahrt/gleitfahrt/engine/ForceCurve$Table"), (0, .methodref 11 14), (0, .nameAndType 5 15), (0, u "([D[D)V"), (2, .double 9218868437227405312), (1, .methodref 11 21), (0, .nameAndType 22 23), (0, u "upperMs"), (0, u "(I)D"), (0, .class_ 25), (0, u "com/example/gleitfahrt/gleitfahrt/engine/TableUpperMsPinLaw"), (2, u "law"), (0, u "(IIIIII)Z")] 9

def k1m0 : Method := { name := "<init>", desc := "()V", sig := { parameters := [], returnType := none }, accessFlags := 1, code := none }
def k1c1 : Code := { maxStack := 6, maxLocals := 23, code := code, exceptionTable := #[], attributes := #[] }
def k1m1 : Method := { name := "law", desc := "(IIIIII)Z", sig := { parameters := [.int, .int, .int, .int, .int, .int], returnType := some .boolean }, accessFlags := 9, code := some k1c1 }
/-- com/example/gleitfahrt/gleitfahrt/engine/TableUpperMsPinLaw -/
def k1 : Class := { plain "com/example/gleitfahrt/gleitfahrt/engine/TableUpperMsPinLaw" (some 0) with
  accessFlags := 49
  interfaces := #[]
  cf := some (fileOf pool1 24 #[] #[{ accessFlags := 1, nameIndex := 5, descriptorIndex := 6, attributes := #[] }, { accessFlags := 9, nameIndex := 28, descriptorIndex := 29, attributes := #[] }] 49 2 #[] #[])
  fields := #[]
  methods := #[k1m0, k1m1]
  instanceTypes := #[]
  staticTypes := #[]
  resolved := Array.replicate 39 none
  statics := none }

def pool2 : Array CpInfo := pool [(2, .class_ 4), (1, u "com/example/gleitfahrt/gleitfahrt/engine/ForceCurve"), (14, .class_ 20), (0, u "java/lang/Object"), (8, .class_ 30), (0, u "com/example/gleitfahrt/gleitfahrt/engine/ForceCurve$Table"), (0, .class_ 32), (0, u "com/example/gleitfahrt/gleitfahrt/engine/ForceCurve$Limits")] 4

/-- com/example/gleitfahrt/gleitfahrt/engine/ForceCurve -/
def k2 : Class := { plain "com/example/gleitfahrt/gleitfahrt/engine/ForceCurve" (some 0) with
  accessFlags := 1537
  interfaces := #[]
  cf := some (fileOf pool2 2 #[.nestMembers #[29, 31]] #[] 1537 19 #[] #[])
  fields := #[]
  methods := #[]
  instanceTypes := #[]
  staticTypes := #[]
  resolved := Array.replicate 37 none
  statics := none }

def pool3 : Array CpInfo := pool [(1, .methodref 2 3), (0, .class_ 4), (0, .nameAndType 5 6), (0, u "java/lang/Object"), (0, u "<init>"), (0, u "()V"), (7, .methodref 15 16), (0, .class_ 17), (0, .nameAndType 18 19), (0, u "java/lang/Double"), (0, u "isFinite"), (0, u "(D)Z"), (4, .methodref 25 26), (0, .class_ 27), (0, .nameAndType 28 29), (0, u "[D"), (0, u "clone"), (0, u "()Ljava/lang/Object;"), (0, .fieldref 31 32), (0, .class_ 33), (0, .nameAndType 34 27), (0, u "com/example/gleitfahrt/gleitfahrt/engine/ForceCurve$Table"), (0, u "speedsMs"), (0, .fieldref 31 36), (0, .nameAndType 37 27), (0, u "forcesN"), (0, .double 9218868437227405312), (28, .class_ 68), (0, u "com/example/gleitfahrt/gleitfahrt/engine/ForceCurve"), (0, u "([D[D)V"), (6, u "(I)D"), (0, u "upperMs")] 23

def k3c0 : Code := { maxStack := 5, maxLocals := 5, code := prog_11_method_1_code, exceptionTable := #[], attributes := #[] }
def k3m0 : Method := { name := "<init>", desc := "([D[D)V", sig := { parameters := [(.array .double), (.array .double)], returnType := none }, accessFlags := 1, code := some k3c0 }
def k3c1 : Code := { maxStack := 3, maxLocals := 2, code := prog_11_method_4_code, exceptionTable := #[], attributes := #[] }
def k3m1 : Method := { name := "upperMs", desc := "(I)D", sig := { parameters := [.int], returnType := some .double }, accessFlags := 1, code := some k3c1 }
/-- com/example/gleitfahrt/gleitfahrt/engine/ForceCurve$Table -/
def k3 : Class := { plain "com/example/gleitfahrt/gleitfahrt/engine/ForceCurve$Table" (some 0) with
  accessFlags := 49
  interfaces := #[2]
  cf := some (fileOf pool3 31 #[.nestHost 67] #[{ accessFlags := 1, nameIndex := 5, descriptorIndex := 69, attributes := #[] }, { accessFlags := 1, nameIndex := 77, descriptorIndex := 76, attributes := #[] }] 49 2 #[67] #[{ accessFlags := 18, nameIndex := 34, descriptorIndex := 27, attributes := #[] }, { accessFlags := 18, nameIndex := 37, descriptorIndex := 27, attributes := #[] }])
  fields := #[{ name := "speedsMs", type := (.array .double), accessFlags := 18, slot := 0, constantValue := 0 }, { name := "forcesN", type := (.array .double), accessFlags := 18, slot := 1, constantValue := 0 }]
  methods := #[k3m0, k3m1]
  instanceTypes := #[(.array .double), (.array .double)]
  staticTypes := #[]
  resolved := Array.replicate 101 none
  statics := none }

def pool4 : Array CpInfo := pool [(1, .class_ 2), (0, u "java/io/Serializable"), (0, .class_ 4), (0, u "java/lang/Object")] 2

/-- java/io/Serializable -/
def k4 : Class := { plain "java/io/Serializable" (some 0) with
  accessFlags := 1537
  interfaces := #[]
  cf := some (fileOf pool4 1 #[] #[] 1537 3 #[] #[])
  fields := #[]
  methods := #[]
  instanceTypes := #[]
  staticTypes := #[]
  resolved := Array.replicate 7 none
  statics := none }

def pool5 : Array CpInfo := pool [(2, .class_ 4), (1, u "java/lang/Object"), (0, u "<init>"), (0, u "()V"), (1, .class_ 10), (1, u "java/lang/Number"), (2, .class_ 14), (0, u "java/io/Serializable"), (0, u "serialVersionUID"), (0, u "J")] 20

def k5m0 : Method := { name := "<init>", desc := "()V", sig := { parameters := [], returnType := none }, accessFlags := 1, code := none }
/-- java/lang/Number -/
def k5 : Class := { plain "java/lang/Number" (some 0) with
  accessFlags := 1057
  interfaces := #[4]
  cf := some (fileOf pool5 8 #[] #[{ accessFlags := 1, nameIndex := 5, descriptorIndex := 6, attributes := #[] }] 1057 2 #[13] #[{ accessFlags := 26, nameIndex := 15, descriptorIndex := 16, attributes := #[] }])
  fields := #[{ name := "serialVersionUID", type := .long, accessFlags := 26, slot := 0, constantValue := 0 }]
  methods := #[k5m0]
  instanceTypes := #[]
  staticTypes := #[.long]
  resolved := Array.replicate 37 none
  statics := none }

def pool6 : Array CpInfo := pool [(1, .class_ 2), (0, u "java/lang/Comparable"), (0, .class_ 4), (0, u "java/lang/Object")] 7

/-- java/lang/Comparable -/
def k6 : Class := { plain "java/lang/Comparable" (some 0) with
  accessFlags := 1537
  interfaces := #[]
  cf := some (fileOf pool6 1 #[] #[] 1537 3 #[] #[])
  fields := #[]
  methods := #[]
  instanceTypes := #[]
  staticTypes := #[]
  resolved := Array.replicate 12 none
  statics := none }

def pool7 : Array CpInfo := pool [(1, .class_ 2), (0, u "java/lang/constant/Constable"), (0, .class_ 4), (0, u "java/lang/Object")] 6

/-- java/lang/constant/Constable -/
def k7 : Class := { plain "java/lang/constant/Constable" (some 0) with
  accessFlags := 1537
  interfaces := #[]
  cf := some (fileOf pool7 1 #[] #[] 1537 3 #[] #[])
  fields := #[]
  methods := #[]
  instanceTypes := #[]
  staticTypes := #[]
  resolved := Array.replicate 11 none
  statics := none }

def pool8 : Array CpInfo := pool [(1, .class_ 2), (0, u "java/lang/constant/ConstantDesc"), (0, .class_ 4), (0, u "java/lang/Object")] 32

/-- java/lang/constant/ConstantDesc -/
def k8 : Class := { plain "java/lang/constant/ConstantDesc" (some 0) with
  accessFlags := 1537
  interfaces := #[]
  cf := some (fileOf pool8 1 #[] #[] 1537 3 #[] #[])
  fields := #[]
  methods := #[]
  instanceTypes := #[]
  staticTypes := #[]
  resolved := Array.replicate 37 none
  statics := none }

def pool9 : Array CpInfo := pool [(1, .class_ 2), (0, u "java/lang/Double"), (10, u "isFinite"), (0, u "(D)Z"), (8, .class_ 25), (1, u "java/lang/Math"), (12, .methodref 23 39), (0, .nameAndType 40 41), (0, u "abs"), (0, u "(D)D"), (69, .double 9218868437227405311), (2, .class_ 116), (1, u "java/lang/Number"), (3, u "value"), (0, u "D"), (51, u "TYPE"), (0, u "Ljava/lang/Class;"), (0, .class_ 176), (0, u "java/lang/Comparable"), (0, .class_ 178), (0, u "java/lang/constant/Constable"), (0, .class_ 180), (0, u "java/lang/constant/ConstantDesc"), (0, u "POSITIVE_INFINITY"), (3, u "NEGATIVE_INFINITY"), (2, u "NaN"), (2, u "MAX_VALUE"), (0, u "MIN_NORMAL"), (0, u "MIN_VALUE"), (2, u "SIZE"), (0, u "I"), (1, u "PRECISION"), (1, u "MAX_EXPONENT"), (1, u "MIN_EXPONENT"), (1, u "BYTES"), (3, u "serialVersionUID"), (0, u "J")] 79

def k9c0 : Code := { maxStack := 4, maxLocals := 2, code := jdk_117_method_8_code, exceptionTable := #[], attributes := #[] }
def k9m0 : Method := { name := "isFinite", desc := "(D)Z", sig := { parameters := [.double], returnType := some .boolean }, accessFlags := 9, code := some k9c0 }
/-- java/lang/Double -/
def k9 : Class := { plain "java/lang/Double" (some 5) with
  accessFlags := 49
  interfaces := #[6, 7, 8]
  cf := some (fileOf pool9 1 #[] #[{ accessFlags := 9, nameIndex := 13, descriptorIndex := 14, attributes := #[] }] 49 114 #[175, 177, 179] #[{ accessFlags := 25, nameIndex := 181, descriptorIndex := 121, attributes := #[] }, { accessFlags := 25, nameIndex := 185, descriptorIndex := 121, attributes := #[] }, { accessFlags := 25, nameIndex := 188, descriptorIndex := 121, attributes := #[] }, { accessFlags := 25, nameIndex := 191, descriptorIndex := 121, attributes := #[] }, { accessFlags := 25, nameIndex := 192, descriptorIndex := 121, attributes := #[] }, { accessFlags := 25, nameIndex := 193, descriptorIndex := 121, attributes := #[] }, { accessFlags := 25, nameIndex := 196, descriptorIndex := 197, attributes := #[] }, { accessFlags := 25, nameIndex := 199, descriptorIndex := 197, attributes := #[] }, { accessFlags := 25, nameIndex := 201, descriptorIndex := 197, attributes := #[] }, { accessFlags := 25, nameIndex := 203, descriptorIndex := 197, attributes := #[] }, { accessFlags := 25, nameIndex := 205, descriptorIndex := 197, attributes := #[] }, { accessFlags := 25, nameIndex := 173, descriptorIndex := 174, attributes := #[] }, { accessFlags := 18, nameIndex := 120, descriptorIndex := 121, attributes := #[] }, { accessFlags := 26, nameIndex := 209, descriptorIndex := 210, attributes := #[] }])
  fields := #[{ name := "POSITIVE_INFINITY", type := .double, accessFlags := 25, slot := 0, constantValue := 0 }, { name := "NEGATIVE_INFINITY", type := .double, accessFlags := 25, slot := 1, constantValue := 0 }, { name := "NaN", type := .double, accessFlags := 25, slot := 2, constantValue := 0 }, { name := "MAX_VALUE", type := .double, accessFlags := 25, slot := 3, constantValue := 0 }, { name := "MIN_NORMAL", type := .double, accessFlags := 25, slot := 4, constantValue := 0 }, { name := "MIN_VALUE", type := .double, accessFlags := 25, slot := 5, constantValue := 0 }, { name := "SIZE", type := .int, accessFlags := 25, slot := 6, constantValue := 0 }, { name := "PRECISION", type := .int, accessFlags := 25, slot := 7, constantValue := 0 }, { name := "MAX_EXPONENT", type := .int, accessFlags := 25, slot := 8, constantValue := 0 }, { name := "MIN_EXPONENT", type := .int, accessFlags := 25, slot := 9, constantValue := 0 }, { name := "BYTES", type := .int, accessFlags := 25, slot := 10, constantValue := 0 }, { name := "TYPE", type := (.object "java/lang/Class"), accessFlags := 25, slot := 11, constantValue := 0 }, { name := "value", type := .double, accessFlags := 18, slot := 0, constantValue := 0 }, { name := "serialVersionUID", type := .long, accessFlags := 26, slot := 12, constantValue := 0 }]
  methods := #[k9m0]
  instanceTypes := #[.double]
  staticTypes := #[.double, .double, .double, .double, .double, .double, .int, .int, .int, .int, .int, (.object "java/lang/Class"), .long]
  resolved := Array.replicate 290 none
  statics := none }

def pool10 : Array CpInfo := pool [(1, .class_ 2), (0, u "java/lang/Math"), (1, .class_ 6), (1, u "java/lang/Object"), (0, u "<init>"), (0, u "()V"), (5, u "(D)D"), (83, .class_ 100), (1, u "java/lang/Math$RandomNumberGeneratorHolder"), (23, u "abs"), (47, u "negativeZeroFloatBits"), (0, u "J"), (2, u "negativeZeroDoubleBits"), (68, u "$assertionsDisabled"), (0, u "Z"), (91, u "twoToTheDoubleScaleDown"), (0, u "D"), (4, u "twoToTheDoubleScaleUp"), (9, u "E"), (3, u "PI"), (2, u "TAU"), (2, u "DEGREES_TO_RADIANS"), (0, u "RADIANS_TO_DEGREES")] 94

def k10m0 : Method := { name := "<init>", desc := "()V", sig := { parameters := [], returnType := none }, accessFlags := 2, code := none }
def k10c1 : Code := { maxStack := 4, maxLocals := 2, code := jdk_29_method_64_code, exceptionTable := #[], attributes := #[] }
def k10m1 : Method := { name := "abs", desc := "(D)D", sig := { parameters := [.double], returnType := some .double }, accessFlags := 9, code := some k10c1 }
/-- java/lang/Math -/
def k10 : Class := { plain "java/lang/Math" (some 0) with
  accessFlags := 49
  interfaces := #[]
  cf := some (fileOf pool10 1 #[.nestMembers #[98]] #[{ accessFlags := 2, nameIndex := 7, descriptorIndex := 8, attributes := #[] }, { accessFlags := 9, nameIndex := 124, descriptorIndex := 14, attributes := #[] }] 49 4 #[] #[{ accessFlags := 25, nameIndex := 354, descriptorIndex := 339, attributes := #[] }, { accessFlags := 25, nameIndex := 358, descriptorIndex := 339, attributes := #[] }, { accessFlags := 25, nameIndex := 361, descriptorIndex := 339, attributes := #[] }, { accessFlags := 26, nameIndex := 364, descriptorIndex := 339, attributes := #[] }, { accessFlags := 26, nameIndex := 365, descriptorIndex := 339, attributes := #[] }, { accessFlags := 26, nameIndex := 172, descriptorIndex := 173, attributes := #[] }, { accessFlags := 26, nameIndex := 176, descriptorIndex := 173, attributes := #[] }, { accessFlags := 8, nameIndex := 344, descriptorIndex := 339, attributes := #[] }, { accessFlags := 8, nameIndex := 338, descriptorIndex := 339, attributes := #[] }, { accessFlags := 4120, nameIndex := 245, descriptorIndex := 246, attributes := #[] }])
  fields := #[{ name := "E", type := .double, accessFlags := 25, slot := 0, constantValue := 0 }, { name := "PI", type := .double, accessFlags := 25, slot := 1, constantValue := 0 }, { name := "TAU", type := .double, accessFlags := 25, slot := 2, constantValue := 0 }, { name := "DEGREES_TO_RADIANS", type := .double, accessFlags := 26, slot := 3, constantValue := 0 }, { name := "RADIANS_TO_DEGREES", type := .double, accessFlags := 26, slot := 4, constantValue := 0 }, { name := "negativeZeroFloatBits", type := .long, accessFlags := 26, slot := 5, constantValue := 0 }, { name := "negativeZeroDoubleBits", type := .long, accessFlags := 26, slot := 6, constantValue := 0 }, { name := "twoToTheDoubleScaleUp", type := .double, accessFlags := 8, slot := 7, constantValue := 0 }, { name := "twoToTheDoubleScaleDown", type := .double, accessFlags := 8, slot := 8, constantValue := 0 }, { name := "$assertionsDisabled", type := .boolean, accessFlags := 4120, slot := 9, constantValue := 0 }]
  methods := #[k10m0, k10m1]
  instanceTypes := #[]
  staticTypes := #[.double, .double, .double, .double, .double, .long, .long, .double, .double, .boolean]
  resolved := Array.replicate 460 none
  statics := none }

def pool11 : Array CpInfo := pool [(1, .class_ 2), (0, u "java/lang/Cloneable"), (0, .class_ 4), (0, u "java/lang/Object")] 2

/-- java/lang/Cloneable -/
def k11 : Class := { plain "java/lang/Cloneable" (some 0) with
  accessFlags := 1537
  interfaces := #[]
  cf := some (fileOf pool11 1 #[] #[] 1537 3 #[] #[])
  fields := #[]
  methods := #[]
  instanceTypes := #[]
  staticTypes := #[]
  resolved := Array.replicate 7 none
  statics := none }

/-- the primitive byte -/
def k12 : Class := { plain "byte" none with kind := .primitive 'B', accessFlags := 0x411 }
/-- [B -/
def k13 : Class := { plain "[B" (some 0) with kind := .array 12 .byte, interfaces := #[11, 4], accessFlags := 1041 }

/-- the primitive double -/
def k14 : Class := { plain "double" none with kind := .primitive 'D', accessFlags := 0x411 }
/-- [D -/
def k15 : Class := { plain "[D" (some 0) with kind := .array 14 .double, interfaces := #[11, 4], accessFlags := 1041 }

/-- the primitive int -/
def k16 : Class := { plain "int" none with kind := .primitive 'I', accessFlags := 0x411 }
/-- [I -/
def k17 : Class := { plain "[I" (some 0) with kind := .array 16 .int, interfaces := #[11, 4], accessFlags := 1041 }

def heap : Heap := #[]
def classes : Array Class := #[k0, k1, k2, k3, k4, k5, k6, k7, k8, k9, k10, k11, k12, k13, k14, k15, k16, k17]
def interned : List (Array UInt16 × Addr) := []
def slotsUsed : Nat := 0
def theMethod : MethodId := ⟨1, 1⟩
def args0 : Array Value := #[.int 4, .int 8, .int 5, .int 7, .int 9, .int 2]
def aboutOver (below : List Frame) : State where
  vm := { classes := classes, interned := interned.toArray }
  heap := heap
  slotsUsed := slotsUsed
  threads := #[{ frames := .invoking theMethod args0 :: below }]
def below0 : List Frame := [.native { method := ⟨0, 0⟩, args := #[] }]
def about1 : State := aboutOver below0
def p0 : Program := .bare "" "" ""
def e0 : Env := launch0.env 0 0 0
theorem w_frames : about1.frames = Frame.invoking theMethod args0 :: below0 := rfl
set_option maxRecDepth 65536 in
theorem w_args : argsFit about1.vm theMethod args0 = true := by decide +kernel
set_option maxRecDepth 65536 in
theorem w_heap : heapFits about1 = true := by decide +kernel
set_option maxRecDepth 65536 in
theorem w_runnable : about1.curStatus? = some .runnable := by decide +kernel
set_option maxRecDepth 65536 in
theorem w_alone : about1.alone = true := by decide +kernel
set_option maxRecDepth 65536 in
theorem w_named : about1.methodNamed? x = some theMethod := by decide +kernel
set_option maxRecDepth 65536 in
theorem w_hears : about1.hears theMethod below0 = true := by decide +kernel
set_option maxRecDepth 65536 in
theorem w_ripe : about1.ripe theMethod args0 below0 = true := by decide +kernel
theorem w_running : about1.status = .running := rfl
set_option maxRecDepth 65536 in
theorem w_room : about1.hasRoom e0.platform room_1 = true :=
  launch0.hasRoom_least _ room_1 (by decide +kernel) (by decide +kernel) (by decide +kernel) (by decide +kernel) (by decide +kernel) (by decide +kernel)
theorem allAtoms_all (ts : List Jvm.Cond) (a : Array Jvm.Value) (st : Jvm.State) : (allAtoms ts).before a st = ts.all (fun c => c.before a st) := by
  induction ts with
  | nil => rfl
  | cons c t ih =>
    show (Jvm.Cond.and c (allAtoms t)).before a st = _
    rw [Jvm.Cond.before_and, ih, List.all_cons]
def words1 : List Jvm.Cond := Jvm.Cond.code x code maxLocals ret :: tables_1
/-- a 'code' word, met by the world's own term for the bytes: nothing is compared byte by byte -/
theorem code_word {y : MethodName} {bytes : ByteArray} {mx : Nat} {rt : Option FieldType} {a : Array Value} {s : State} {m : MethodId} {meth : Method} {c : Code} (h1 : s.methodNamed? y = some m) (h2 : s.vm.method? m = some meth) (h3 : meth.code = some c) (h4 : c.code = bytes)
    (h5 : (c.maxLocals == mx && c.exceptionTable.isEmpty && decide (c.maxStack ≤ mostOperands) && decide (meth.sig.returnType = rt) && !meth.locks && decide (parseMethodDescriptor y.desc = some meth.sig)) = true) : (Jvm.Cond.code y bytes mx rt).before a s = true := by
  simp only [Bool.and_eq_true, beq_iff_eq, Bool.not_eq_true', decide_eq_true_eq] at h5
  obtain ⟨⟨⟨⟨⟨g1, g2⟩, g3⟩, g4⟩, g5⟩, g6⟩ := h5
  simp [Cond.before, Cond.holds, Cond.value, h1, h2, h3, h4, g1, g2, g3, g4, g5, g6]
def isCode : Jvm.Cond → Bool
  | .code _ _ _ _ => true
  | _ => false
theorem all_split {L : List Jvm.Cond} {P : Jvm.Cond → Bool} (h1 : L.all (fun c => isCode c || P c) = true) (h2 : ∀ c ∈ L.filter isCode, P c = true) : L.all P = true := by
  refine List.all_eq_true.mpr fun c hc => ?_
  have h := List.all_eq_true.mp h1 c hc
  rcases Bool.eq_false_or_eq_true (isCode c) with hi | hi
  · exact h2 c (List.mem_filter.mpr ⟨hc, hi⟩)
  · simpa [hi] using h
set_option maxRecDepth 65536 in
theorem w_c0 : (Jvm.Cond.code x code maxLocals ret).before args0 about1 = true := code_word (m := ⟨1, 1⟩) (meth := k1m1) (c := k1c1) (by decide +kernel) rfl rfl rfl (by decide +kernel)
set_option maxRecDepth 65536 in
theorem w_c1 : (Jvm.Cond.code ({ cls := "com/example/gleitfahrt/gleitfahrt/engine/ForceCurve$Table", name := "<init>", desc := "([D[D)V" } : Jvm.MethodName) prog_11_method_1_code (5 : Nat) (Option.none : Option Jvm.ClassFile.FieldType)).before args0 about1 = true := code_word (m := ⟨3, 0⟩) (meth := k3m0) (c := k3c0) (by decide +kernel) rfl rfl rfl (by decide +kernel)
set_option maxRecDepth 65536 in
theorem w_c2 : (Jvm.Cond.code ({ cls := "java/lang/Object", name := "<init>", desc := "()V" } : Jvm.MethodName) object_method_1_code (1 : Nat) (Option.none : Option Jvm.ClassFile.FieldType)).before args0 about1 = true := code_word (m := ⟨0, 0⟩) (meth := k0m0) (c := k0c0) (by decide +kernel) rfl rfl rfl (by decide +kernel)
set_option maxRecDepth 65536 in
theorem w_c3 : (Jvm.Cond.code ({ cls := "java/lang/Double", name := "isFinite", desc := "(D)Z" } : Jvm.MethodName) jdk_117_method_8_code (2 : Nat) (Option.some Jvm.ClassFile.FieldType.boolean)).before args0 about1 = true := code_word (m := ⟨9, 0⟩) (meth := k9m0) (c := k9c0) (by decide +kernel) rfl rfl rfl (by decide +kernel)
set_option maxRecDepth 65536 in
theorem w_c4 : (Jvm.Cond.code ({ cls := "java/lang/Math", name := "abs", desc := "(D)D" } : Jvm.MethodName) jdk_29_method_64_code (2 : Nat) (Option.some Jvm.ClassFile.FieldType.double)).before args0 about1 = true := code_word (m := ⟨10, 1⟩) (meth := k10m1) (c := k10c1) (by decide +kernel) rfl rfl rfl (by decide +kernel)
set_option maxRecDepth 65536 in
theorem w_c5 : (Jvm.Cond.code ({ cls := "com/example/gleitfahrt/gleitfahrt/engine/ForceCurve$Table", name := "upperMs", desc := "(I)D" } : Jvm.MethodName) prog_11_method_4_code (2 : Nat) (Option.some Jvm.ClassFile.FieldType.double)).before args0 about1 = true := code_word (m := ⟨3, 1⟩) (meth := k3m1) (c := k3c1) (by decide +kernel) rfl rfl rfl (by decide +kernel)
def codes1 : List Jvm.Cond := [Jvm.Cond.code x code maxLocals ret, Jvm.Cond.code ({ cls := "com/example/gleitfahrt/gleitfahrt/engine/ForceCurve$Table", name := "<init>", desc := "([D[D)V" } : Jvm.MethodName) prog_11_method_1_code (5 : Nat) (Option.none : Option Jvm.ClassFile.FieldType), Jvm.Cond.code ({ cls := "java/lang/Object", name := "<init>", desc := "()V" } : Jvm.MethodName) object_method_1_code (1 : Nat) (Option.none : Option Jvm.ClassFile.FieldType), Jvm.Cond.code ({ cls := "java/lang/Double", name := "isFinite", desc := "(D)Z" } : Jvm.MethodName) jdk_117_method_8_code (2 : Nat) (Option.some Jvm.ClassFile.FieldType.boolean), Jvm.Cond.code ({ cls := "java/lang/Math", name := "abs", desc := "(D)D" } : Jvm.MethodName) jdk_29_method_64_code (2 : Nat) (Option.some Jvm.ClassFile.FieldType.double), Jvm.Cond.code ({ cls := "com/example/gleitfahrt/gleitfahrt/engine/ForceCurve$Table", name := "upperMs", desc := "(I)D" } : Jvm.MethodName) prog_11_method_4_code (2 : Nat) (Option.some Jvm.ClassFile.FieldType.double)]
set_option maxRecDepth 65536 in
theorem codes_eq : words1.filter isCode = codes1 := rfl
theorem w_codes : ∀ c ∈ words1.filter isCode, c.before args0 about1 = true := by
  rw [codes_eq]
  intro c hc
  simp only [codes1, List.mem_cons, List.not_mem_nil, or_false] at hc
  rcases hc with rfl | rfl | rfl | rfl | rfl | rfl
  · exact w_c0
  · exact w_c1
  · exact w_c2
  · exact w_c3
  · exact w_c4
  · exact w_c5
set_option maxRecDepth 65536 in
theorem w_t1 : (words1.take 24).all (fun c => isCode c || c.before args0 about1) = true := by decide +kernel
set_option maxRecDepth 65536 in
theorem w_t2 : (words1.drop 24).all (fun c => isCode c || c.before args0 about1) = true := by decide +kernel
theorem w_tables : (allAtoms (Jvm.Cond.code x code maxLocals ret :: tables_1)).before args0 about1 = true := by
  rw [allAtoms_all]
  show words1.all (fun c => c.before args0 about1) = true
  refine all_split ?_ w_codes
  rw [← List.take_append_drop 24 words1, List.all_append, w_t1, w_t2]
  rfl
set_option maxRecDepth 65536 in
theorem w_case : (Jvm.Cond.and given_1 narrow_1).before args0 about1 = true := by decide +kernel
theorem w_applies : (headSpec (Jvm.Cond.code x code maxLocals ret :: tables_1) room_1).applies x e0.platform about1 = true :=
  (Spec.applies_iff w_frames).mpr ⟨w_running, w_runnable, w_alone, w_named, w_hears, w_ripe, w_room, w_tables⟩
theorem atStart : AtStart classFile x code maxLocals ret World_1 tables_1 room_1 Calls_1 rest_1 Pre_1 launch0 p0 e0 about1 theMethod args0 below0 :=
  ⟨lists_1, trivial, launch0.admits_env _ _ _, launch0.least_env, fairChoices_fair.cas, fairChoices_fair.clock, w_frames, w_args, w_heap, w_applies, trivial, trivial, w_case⟩
end start1
theorem witness_1 : WitnessClaimed_1 := ⟨start1.p0, start1.e0, start1.about1, start1.theMethod, start1.args0, start1.below0, start1.atStart⟩
end Jvm.Pilot.@@N@@
