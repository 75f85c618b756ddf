import JvmDerived
import JvmDerived.Pilot.@@N@@Statement
import JvmDerived.Pilot.@@N@@Code
set_option linter.unusedVariables false
set_option linter.unusedSimpArgs false
namespace Jvm.Pilot.@@N@@.Own
open Jvm Jvm.ClassFile Sem Op Lib Jvm.Free Jvm.Stand Jvm.LawKit Jvm.RoadKit
/-- from S the run comes to an end of which P holds -/
def Go (tb : Tables) (e : Env) (below : List Frame) (P : State → Outcome → Prop) (S : State) : Prop :=
  ∃ s₂ o, Steps tb e below S s₂ ∧ s₂.status = .running ∧ Ended s₂ below o ∧ P s₂ o
theorem Go.step {tb : Tables} {e : Env} {below : List Frame} {P : State → Outcome → Prop} {S S' : State}
    (h : ∀ t, Steps tb e below S' t → Steps tb e below S t) (g : Go tb e below P S') : Go tb e below P S := by
  obtain ⟨t, o, h1, h2⟩ := g; exact ⟨t, o, h t h1, h2⟩
theorem Go.tr {tb : Tables} {e : Env} {below : List Frame} {P : State → Outcome → Prop} {S S' : State}
    (h : Steps tb e below S S') (g : Go tb e below P S') : Go tb e below P S := by
  obtain ⟨t, o, h1, h2⟩ := g; exact ⟨t, o, h.trans h1, h2⟩
theorem Go.start {tb : Tables} {e : Env} {below : List Frame} {P₀ : State → Outcome → Prop} {S S' : State} (q : S = S')
    (h : ∀ P : State → Outcome → Prop, (∀ s₂ o, P₀ s₂ o → P s₂ o) → Go tb e below P S') : Go tb e below P₀ S := by
  subst q; exact h P₀ fun _ _ h => h
/-- a value gets a name -/
theorem nm {α : Type} (F : α → Prop) (x : α) (H : ∀ z, z = x → F z) : F x := H x rfl
section Ends
variable {p : Program} {l : Launch} {e : Env} {R : Room} {s : State} {m : MethodId} {args : Array Value} {below : List Frame} {meth : Method} {c : Code} {T : State} {locs : List Loc} {cells slots : Nat}
theorem retGo (X : Stand p l e R s m args below meth c T locs cells slots) (hx : p.tables.exec = Jvm.exec) {P : State → Outcome → Prop} {Q : Option Value → Heap → List Loc → Prop} {kc ks : Nat}
    (hP : ∀ s₂ o, (∃ v L, o = .returned v ∧ Q v s₂.heap L ∧ FrameEnd s o s₂ L kc ks) → P s₂ o) {pc : Nat} {Ls : Array Slot} {w : Value} {t : FieldType} {i : Instr} {rest : List Value} (hret : meth.sig.returnType = some t) (hlk : meth.locks = false) (hn : narrow t w = w)
    (hi : (i = .ireturn ∧ (t = .int ∨ t = .boolean ∨ t = .byte ∨ t = .char ∨ t = .short) ∧ ∃ z, w = .int z) ∨ (i = .lreturn ∧ t = .long ∧ ∃ z, w = .long z) ∨ (i = .dreturn ∧ t = .double ∧ ∃ z, w = .double z) ∨ (i = .freturn ∧ t = .float ∧ ∃ z, w = .float z) ∨ (i = .areturn ∧ t.isReference = true ∧ w.isRef = true))
    (hd : decode c.code pc = .ok (i, 1)) (hc : cells ≤ kc) (hs : slots ≤ ks) (hQ : Q (some w) T.heap locs) : Go p.tables e below P (T.setTop (mkF m pc Ls (w :: rest))) := by
  obtain ⟨fs, hr, hrun, hended, hW, hsame⟩ := X.leave (v := some w) (fun h => by rw [hret] at h; cases h) hlk
  exact ⟨_, _, retOut X hx hret hn hi hd hr, hrun, hended, hP _ _ ⟨_, _, rfl, hQ, ⟨_, rfl⟩, hW, hsame.mono hc hs⟩⟩
theorem retGoW {vm1 : Vm} (X : Stand p l e R (s.setVm vm1) m args below meth c T locs cells slots) (hx : p.tables.exec = Jvm.exec) {n1 : Nat} (hS : s.Since vm1 n1) (hn1 : n1 ≤ T.heap.size) {P : State → Outcome → Prop} {Q : Option Value → Heap → List Loc → Prop} {kc ks : Nat}
    (hP : ∀ s₂ o, (∃ v L, o = .returned v ∧ Q v s₂.heap L ∧ ReturnedEndW s o s₂ L kc ks) → P s₂ o) {pc : Nat} {Ls : Array Slot} {w : Value} {t : FieldType} {i : Instr} {rest : List Value} (hret : meth.sig.returnType = some t) (hlk : meth.locks = false) (hn : narrow t w = w)
    (hi : (i = .ireturn ∧ (t = .int ∨ t = .boolean ∨ t = .byte ∨ t = .char ∨ t = .short) ∧ ∃ z, w = .int z) ∨ (i = .lreturn ∧ t = .long ∧ ∃ z, w = .long z) ∨ (i = .dreturn ∧ t = .double ∧ ∃ z, w = .double z) ∨ (i = .freturn ∧ t = .float ∧ ∃ z, w = .float z) ∨ (i = .areturn ∧ t.isReference = true ∧ w.isRef = true))
    (hd : decode c.code pc = .ok (i, 1)) (hc : cells ≤ kc) (hs : slots ≤ ks) (hQ : Q (some w) T.heap locs) : Go p.tables e below P (T.setTop (mkF m pc Ls (w :: rest))) := by
  obtain ⟨fs, hr, hrun, hended, _, hW, hI, hsame⟩ := X.leaveW hS hn1 (v := some w) (fun h => by rw [hret] at h; cases h) hlk
  exact ⟨_, _, retOut X hx hret hn hi hd hr, hrun, hended, hP _ _ ⟨_, _, rfl, hQ, ⟨_, rfl⟩, hW, hI, hsame.mono hc hs⟩⟩
theorem voidGo (X : Stand p l e R s m args below meth c T locs cells slots) (hx : p.tables.exec = Jvm.exec) {P : State → Outcome → Prop} {Q : Option Value → Heap → List Loc → Prop} {kc ks : Nat}
    (hP : ∀ s₂ o, (∃ v L, o = .returned v ∧ Q v s₂.heap L ∧ FrameEnd s o s₂ L kc ks) → P s₂ o) {pc : Nat} {Ls : Array Slot} (hret : meth.sig.returnType = none) (hlk : meth.locks = false)
    (hd : decode c.code pc = .ok (.return_, 1)) (hc : cells ≤ kc) (hs : slots ≤ ks) (hQ : Q none T.heap locs) : Go p.tables e below P (T.setTop (mkF m pc Ls [])) := by
  obtain ⟨fs, hr, hrun, hended, hW, hsame⟩ := X.leave (v := none) (fun _ => rfl) hlk
  exact ⟨_, _, X.returnOut hx hret hd hr, hrun, hended, hP _ _ ⟨_, _, rfl, hQ, ⟨_, rfl⟩, hW, hsame.mono hc hs⟩⟩
end Ends
/-! branches: what is compared, as whole numbers -/
def rel : ClassFile.Cond → Int → Int → Prop
  | .eq, a, b => a = b
  | .ne, a, b => ¬ a = b
  | .lt, a, b => a < b
  | .ge, a, b => b ≤ a
  | .gt, a, b => b < a
  | .le, a, b => a ≤ b
theorem icY {cd : ClassFile.Cond} {x y : Int32} (h : rel cd x.toInt y.toInt) : if_icmp.holds cd x y = true := by
  cases cd <;> simp only [rel] at h <;> simp [if_icmp.holds, Int32.lt_iff_toInt_lt, Int32.le_iff_toInt_le, ← Int32.toInt_inj] <;> omega
theorem icN {cd : ClassFile.Cond} {x y : Int32} (h : ¬ rel cd x.toInt y.toInt) : if_icmp.holds cd x y = false := by
  cases cd <;> simp only [rel] at h <;> simp [if_icmp.holds, Int32.lt_iff_toInt_lt, Int32.le_iff_toInt_le, ← Int32.toInt_inj] <;> omega
theorem ifY {cd : ClassFile.Cond} {x : Int32} (h : rel cd x.toInt 0) : ifCond.holds cd x = true := (if0 cd x).trans (icY h)
theorem ifN {cd : ClassFile.Cond} {x : Int32} (h : ¬ rel cd x.toInt 0) : ifCond.holds cd x = false := (if0 cd x).trans (icN h)
theorem lcmp_rel {cd : ClassFile.Cond} {x y : Int64} : rel cd (lcmpW x y).toInt 0 ↔ rel cd x.toInt y.toInt := by
  have h1 : x < y ↔ x.toInt < y.toInt := Int64.lt_iff_toInt_lt
  have h2 : y < x ↔ y.toInt < x.toInt := Int64.lt_iff_toInt_lt
  have h3 : x = y ↔ x.toInt = y.toInt := Int64.toInt_inj.symm
  have e1 : (1 : Int32).toInt = 1 := rfl
  have e2 : (-1 : Int32).toInt = -1 := rfl
  have e3 : (0 : Int32).toInt = 0 := rfl
  unfold lcmpW
  by_cases c1 : x > y
  · rw [if_pos c1, e1]; have := h2.mp c1; cases cd <;> simp only [rel] <;> omega
  · rw [if_neg c1]
    have n1 : ¬ y.toInt < x.toInt := fun q => c1 (h2.mpr q)
    by_cases c2 : x = y
    · rw [if_pos c2, e3]; have q := h3.mp c2; cases cd <;> simp only [rel] <;> first | omega | simp [q]
    · rw [if_neg c2, e2]
      have n2 : ¬ x.toInt = y.toInt := fun q => c2 (h3.mpr q)
      cases cd <;> simp only [rel] <;> omega
theorem lcY {cd : ClassFile.Cond} {x y : Int64} (h : rel cd x.toInt y.toInt) : ifCond.holds cd (lcmpW x y) = true := ifY (lcmp_rel.mpr h)
theorem lcN {cd : ClassFile.Cond} {x y : Int64} (h : ¬ rel cd x.toInt y.toInt) : ifCond.holds cd (lcmpW x y) = false := ifN fun q => h (lcmp_rel.mp q)
theorem cmpV_rel {cd : ClassFile.Cond} {op : CmpOp} {i j : Int} : rel cd (cmpValue (some (compare i j)) op).toInt 0 ↔ rel cd i j := by
  have e1 : (1 : Int32).toInt = 1 := rfl
  have e2 : (-1 : Int32).toInt = -1 := rfl
  have e3 : (0 : Int32).toInt = 0 := rfl
  cases h : compare i j with
  | lt => have := (FP.Core.compare_lt_iff i j).mp h; show rel cd (-1 : Int32).toInt 0 ↔ _; rw [e2]; cases cd <;> simp only [rel] <;> omega
  | eq => have := (FP.Core.compare_eq_iff i j).mp h; show rel cd (0 : Int32).toInt 0 ↔ _; rw [e3]; cases cd <;> simp only [rel] <;> first | omega | simp [this]
  | gt => have := (FP.Core.compare_gt_iff i j).mp h; show rel cd (1 : Int32).toInt 0 ↔ _; rw [e1]; cases cd <;> simp only [rel] <;> omega
theorem dcY {cd : ClassFile.Cond} {op : CmpOp} {r : Option Ordering} {i j : Int} (q : r = some (compare i j)) (h : rel cd i j) : ifCond.holds cd (cmpValue r op) = true := by subst q; exact ifY (cmpV_rel.mpr h)
theorem dcN {cd : ClassFile.Cond} {op : CmpOp} {r : Option Ordering} {i j : Int} (q : r = some (compare i j)) (h : ¬ rel cd i j) : ifCond.holds cd (cmpValue r op) = false := by subst q; exact ifN fun z => h (cmpV_rel.mp z)
end Jvm.Pilot.@@N@@.Own
namespace Jvm.Pilot.@@N@@.Own
open Jvm Jvm.FP Jvm.FP.Core
/-! ## doubles as whole numbers of 2^-1074: what rounding leaves -/
/-- a double's value in units of 2^-1074 -/
def zv (a : UInt64) : Int := zval b64 (val64 a)
/-- a is finite and lies between lo * 2^k and hi * 2^k units -/
def DB (k : Nat) (lo hi : Int) (a : UInt64) : Prop := DFin a ∧ lo * ((2 ^ k : Nat) : Int) ≤ zv a ∧ zv a ≤ hi * ((2 ^ k : Nat) : Int)
/-- a is finite and is i * 2^k units -/
abbrev DE (k : Nat) (i : Int) (a : UInt64) : Prop := DB k i i a
theorem DE.eq {k : Nat} {i : Int} {a : UInt64} (h : DE k i a) : zv a = i * ((2 ^ k : Nat) : Int) := Int.le_antisymm h.2.2 h.2.1
theorem DE.of {k : Nat} {i : Int} {a : UInt64} (hf : DFin a) (h : zv a = i * ((2 ^ k : Nat) : Int)) : DE k i a := ⟨hf, Int.le_of_eq h.symm, Int.le_of_eq h⟩
theorem tn32 {q : Int32} (h0 : 0 ≤ q.toInt) : (q.toBitVec.toNat : Int) = q.toInt := by
  have l := q.toBitVec.isLt
  have e : q.toInt = q.toBitVec.toInt := rfl
  rw [e] at h0 ⊢
  rw [BitVec.toInt_eq_toNat_cond] at h0 ⊢
  split at h0 <;> split <;> omega
theorem nmul {a b : Int} {A B : Nat} (ha : a.natAbs ≤ A) (hb : b.natAbs ≤ B) : (a * b).natAbs ≤ A * B := by rw [Int.natAbs_mul]; exact Nat.mul_le_mul ha hb
theorem nab {a : Int} {A : Nat} (h : -(A : Int) ≤ a ∧ a ≤ A) : a.natAbs ≤ A := by omega
theorem bmul {a b : Int} {A B : Nat} (ha : -(A : Int) ≤ a ∧ a ≤ A) (hb : -(B : Int) ≤ b ∧ b ≤ B) : -((A * B : Nat) : Int) ≤ a * b ∧ a * b ≤ ((A * B : Nat) : Int) := by
  have := nmul (nab ha) (nab hb)
  omega
theorem le_mul1 {a b : Int} (ha : 0 ≤ a) (hb : 1 ≤ b) : a ≤ a * b := by have := Int.mul_le_mul_of_nonneg_left hb ha; rwa [Int.mul_one] at this
theorem pw_pos (k : Nat) : (0 : Int) < ((2 ^ k : Nat) : Int) := Int.natCast_pos.mpr (Nat.two_pow_pos k)
theorem DB.nn {k : Nat} {lo hi : Int} {a : UInt64} (h : DB k lo hi a) : Jvm.Free.Fl.NoNaN64 a := Jvm.Free.Fl.noNaN64_no.mpr h.1.notNaN
theorem DB.ne {k : Nat} {lo hi : Int} {a : UInt64} (h : DB k lo hi a) : val64 a ≠ .nan := h.1.ne_nan
/-- a number of 53 digits is a double -/
theorem rep {n : Int} {k : Nat} (hn : n.natAbs ≤ 2 ^ 53) (hk : k ≤ 2044) : ∃ s c q, FP.Core.fits b64 (.fin s c q) ∧ zval b64 (.fin s c q) = n * ((2 ^ k : Nat) : Int) := by
  have key : ∀ (n : Int) (k : Nat), n.natAbs < 2 ^ 53 → k ≤ 2045 → ∃ s c q, FP.Core.fits b64 (.fin s c q) ∧ zval b64 (.fin s c q) = n * ((2 ^ k : Nat) : Int) := by
    intro n k hn hk
    have q1 : b64.qmin = -1074 := by decide
    have q2 : b64.qmax = 971 := by decide
    obtain ⟨c', q', h1, h2⟩ := round_exact good_b64 (decide (n < 0)) (c := n.natAbs) (q := b64.qmin + (k : Int)) (show n.natAbs < 2 ^ b64.p from hn) (by omega) (by omega)
    refine ⟨_, c', q', h1 ▸ round_fits good_b64 _, ?_⟩
    show signed (decide (n < 0)) (inUnits c' q' b64.qmin) = _
    rw [h2]
    unfold inUnits
    rw [signed_mul, show (b64.qmin + (k : Int) - b64.qmin).toNat = k by omega]
    congr 1
    unfold signed
    by_cases h : n < 0 <;> simp [h] <;> omega
  by_cases h : n.natAbs < 2 ^ 53
  · exact key n k h (by omega)
  · have e : n.natAbs = 2 ^ 53 := by omega
    have : ∃ m : Int, n = m * 2 ∧ m.natAbs < 2 ^ 53 := by
      rcases Int.natAbs_eq n with q | q
      · exact ⟨2 ^ 52, by rw [q, e]; decide, by decide⟩
      · exact ⟨-2 ^ 52, by rw [q, e]; decide, by decide⟩
    obtain ⟨m, rfl, hm⟩ := this
    obtain ⟨s, c, q, h1, h2⟩ := key m (k + 1) hm (by omega)
    refine ⟨s, c, q, h1, ?_⟩
    rw [h2, Nat.pow_succ, Int.natCast_mul, Int.mul_assoc]
    congr 1
    rw [Int.mul_comm]; rfl
/-- a number between two finite ones is finite -/
theorem fin_between {a : UInt64} {lo hi : Int} {k : Nat} (hl : lo.natAbs ≤ 2 ^ 53) (hh : hi.natAbs ≤ 2 ^ 53) (hk : k ≤ 2044) (hn : val64 a ≠ .nan) (h1 : lo * ((2 ^ k : Nat) : Int) ≤ zv a) (h2 : zv a ≤ hi * ((2 ^ k : Nat) : Int)) : DB k lo hi a := by
  refine ⟨?_, h1, h2⟩
  obtain ⟨s1, c1, q1, f1, e1⟩ := rep hl hk
  obtain ⟨s2, c2, q2, f2, e2⟩ := rep hh hk
  have t1 : zmag b64 (.fin s1 c1 q1) < b64.tails * 2 ^ (b64.exps - 2) := zmag_lt_top good_b64 f1
  have t2 : zmag b64 (.fin s2 c2 q2) < b64.tails * 2 ^ (b64.exps - 2) := zmag_lt_top good_b64 f2
  rw [← e1] at h1
  rw [← e2] at h2
  unfold zv at h1 h2
  cases hv : val64 a with
  | nan => exact absurd hv hn
  | fin s c q => exact ⟨s, c, q, hv⟩
  | inf s =>
    exfalso
    rw [hv] at h1 h2
    have z : zmag b64 (.inf s) = b64.tails * 2 ^ (b64.exps - 2) := rfl
    unfold zval at h1 h2
    rw [z] at h1 h2
    generalize b64.tails * 2 ^ (b64.exps - 2) = top at *
    generalize zmag b64 (.fin s1 c1 q1) = m1 at *
    generalize zmag b64 (.fin s2 c2 q2) = m2 at *
    simp only [sgn] at h1 h2
    cases s <;> cases s1 <;> cases s2 <;> simp only [signed, if_true, Bool.false_eq_true, if_false] at h1 h2 <;> omega
theorem qmin_sub : ((2 ^ (b64.qmin - b64.qmin).toNat : Nat) : Int) = 1 := by rw [Int.sub_self]; rfl
/-- what lies between two numbers of 53 digits is rounded to something between them -/
theorem round_between {s : Bool} {c : Nat} {q : Int} {lo hi : Int} {k : Nat} {a : UInt64} (ha : val64 a = round b64 (.fin s c q)) (hl : lo.natAbs ≤ 2 ^ 53) (hh : hi.natAbs ≤ 2 ^ 53) (hk : k ≤ 2044) {e0 : Int} (h0 : e0 ≤ b64.qmin) (h0e : e0 ≤ q)
    (h1 : lo * ((2 ^ k : Nat) : Int) * ((2 ^ (b64.qmin - e0).toNat : Nat) : Int) ≤ signed s (inUnits c q e0)) (h2 : signed s (inUnits c q e0) ≤ hi * ((2 ^ k : Nat) : Int) * ((2 ^ (b64.qmin - e0).toNat : Nat) : Int)) : DB k lo hi a := by
  obtain ⟨s1, c1, q1, f1, e1⟩ := rep hl hk
  obtain ⟨s2, c2, q2, f2, e2⟩ := rep hh hk
  have hn : val64 a ≠ .nan := by rw [ha]; exact roundRatio_ne_nan _ _ _ _ _
  refine fin_between hl hh hk hn ?_ ?_
  · unfold zv; rw [ha, ← e1]; exact zval_round_ge good_b64 f1 (by simp) h0 h0e (by rw [e1]; exact h1)
  · unfold zv; rw [ha, ← e2]; exact zval_round_le good_b64 f2 (by simp) h0 h0e (by rw [e2]; exact h2)
theorem add_b {a b : UInt64} {k : Nat} {l1 h1 l2 h2 lo hi : Int} (ha : DB k l1 h1 a) (hb : DB k l2 h2 b) (hlo : lo ≤ l1 + l2) (hhi : h1 + h2 ≤ hi) (hl : lo.natAbs ≤ 2 ^ 53) (hh : hi.natAbs ≤ 2 ^ 53) (hk : k ≤ 2044) : DB k lo hi (FP.dadd a b) := by
  obtain ⟨⟨s, c, q, va⟩, a1, a2⟩ := ha
  obtain ⟨⟨t, d, r, vb⟩, b1, b2⟩ := hb
  have hv := val64_dadd a b
  have fa := val64_fits a
  have fb := val64_fits b
  unfold zv at a1 a2 b1 b2
  rw [va] at hv fa a1 a2
  rw [vb] at hv fb b1 b2
  obtain ⟨sg, n, e, h3, h4, h5⟩ := sum_units fa fb
  rw [h3] at hv
  have hp := pw_pos k
  refine round_between hv hl hh hk (e0 := b64.qmin) (Int.le_refl _) h4 ?_ ?_
  · rw [h5, qmin_sub, Int.mul_one]
    have := Int.mul_le_mul_of_nonneg_right hlo (Int.le_of_lt hp)
    rw [Int.add_mul] at this
    omega
  · rw [h5, qmin_sub, Int.mul_one]
    have := Int.mul_le_mul_of_nonneg_right hhi (Int.le_of_lt hp)
    rw [Int.add_mul] at this
    omega
theorem zv_dneg {a : UInt64} : zv (FP.dneg a) = -zv a := by unfold zv; rw [FP.val64_dneg, zval_negate]
theorem neg_b {a : UInt64} {k : Nat} {lo hi : Int} (ha : DB k lo hi a) : DB k (-hi) (-lo) (FP.dneg a) := by
  refine ⟨?_, ?_, ?_⟩
  · obtain ⟨s, c, q, va⟩ := ha.1
    exact ⟨!s, c, q, by rw [FP.val64_dneg, va]; rfl⟩
  · rw [zv_dneg, Int.neg_mul]; have := ha.2.2; omega
  · rw [zv_dneg, Int.neg_mul]; have := ha.2.1; omega
theorem sub_b {a b : UInt64} {k : Nat} {l1 h1 l2 h2 lo hi : Int} (ha : DB k l1 h1 a) (hb : DB k l2 h2 b) (hlo : lo ≤ l1 - h2) (hhi : h1 - l2 ≤ hi) (hl : lo.natAbs ≤ 2 ^ 53) (hh : hi.natAbs ≤ 2 ^ 53) (hk : k ≤ 2044) : DB k lo hi (FP.dsub a b) := by
  have e : FP.dsub a b = FP.dadd a (FP.dneg b) := by
    rw [FP.dneg_core hb.1.notNaN]; exact dsub_eq a b
  rw [e]
  exact add_b ha (neg_b hb) (by omega) (by omega) hl hh hk
theorem pw_1074 : ((2 ^ (b64.qmin - 2 * b64.qmin).toNat : Nat) : Int) = ((2 ^ 1074 : Nat) : Int) := by
  rw [show (b64.qmin - 2 * b64.qmin).toNat = 1074 by decide]
/-- the exact product of the two lies between -/
theorem mul_z {a b : UInt64} {k : Nat} {lo hi : Int} (fa : DFin a) (fb : DFin b) (h1 : lo * ((2 ^ k : Nat) : Int) * ((2 ^ 1074 : Nat) : Int) ≤ zv a * zv b) (h2 : zv a * zv b ≤ hi * ((2 ^ k : Nat) : Int) * ((2 ^ 1074 : Nat) : Int)) (hl : lo.natAbs ≤ 2 ^ 53) (hh : hi.natAbs ≤ 2 ^ 53) (hk : k ≤ 2044) : DB k lo hi (FP.dmul a b) := by
  obtain ⟨s, c, q, va⟩ := fa
  obtain ⟨t, d, r, vb⟩ := fb
  have hv := val64_dmul a b
  have fa := val64_fits a
  have fb := val64_fits b
  unfold zv at h1 h2
  rw [va] at hv fa h1 h2
  rw [vb] at hv fb h1 h2
  obtain ⟨g1, g2, g3⟩ := product_units fa fb
  rw [g1] at hv
  have e : signed (s != t) (inUnits (c * d) (q + r) (2 * b64.qmin)) = zval b64 (.fin s c q) * zval b64 (.fin t d r) := by
    rw [g3, signed_xor]; rfl
  refine round_between hv hl hh hk (e0 := 2 * b64.qmin) (by decide) g2 ?_ ?_
  · rw [e, pw_1074]; exact h1
  · rw [e, pw_1074]; exact h2
theorem pw_add (a b : Nat) : ((2 ^ (a + b) : Nat) : Int) = ((2 ^ a : Nat) : Int) * ((2 ^ b : Nat) : Int) := by rw [Nat.pow_add, Int.natCast_mul]
theorem mul_e {a b : UInt64} {k k1 k2 : Nat} {i j n : Int} (ha : DE k1 i a) (hb : DE k2 j b) (hk : k1 + k2 = k + 1074) (hn : i * j = n) (hh : n.natAbs ≤ 2 ^ 53) (hk' : k ≤ 2044) : DE k n (FP.dmul a b) := by
  have e : zv a * zv b = n * ((2 ^ k : Nat) : Int) * ((2 ^ 1074 : Nat) : Int) := by
    rw [ha.eq, hb.eq, ← hn, Int.mul_assoc (i * j), ← pw_add, ← hk, pw_add]
    simp only [Int.mul_assoc, Int.mul_left_comm]
  exact mul_z ha.1 hb.1 (Int.le_of_eq e.symm) (Int.le_of_eq e) hh hh hk'
/-- a bounded one times a known one that isn't negative -/
theorem mul_b {a b : UInt64} {k k1 k2 : Nat} {l1 h1 j lo hi : Int} (ha : DB k1 l1 h1 a) (hb : DE k2 j b) (hj : 0 ≤ j) (hk : k1 + k2 = k + 1074) (hlo : lo ≤ l1 * j) (hhi : h1 * j ≤ hi) (hl : lo.natAbs ≤ 2 ^ 53) (hh : hi.natAbs ≤ 2 ^ 53) (hk' : k ≤ 2044) : DB k lo hi (FP.dmul a b) := by
  have p1 := pw_pos k1
  have p2 := pw_pos k2
  have hz : 0 ≤ zv b := by rw [hb.eq]; exact Int.mul_nonneg hj (Int.le_of_lt p2)
  have e : ∀ x : Int, x * j * ((2 ^ k : Nat) : Int) * ((2 ^ 1074 : Nat) : Int) = x * ((2 ^ k1 : Nat) : Int) * zv b := fun x => by
    rw [hb.eq, Int.mul_assoc (x * j), ← pw_add, ← hk, pw_add]
    simp only [Int.mul_assoc, Int.mul_left_comm]
  have up : ∀ {x y : Int}, x ≤ y → x * ((2 ^ k : Nat) : Int) * ((2 ^ 1074 : Nat) : Int) ≤ y * ((2 ^ k : Nat) : Int) * ((2 ^ 1074 : Nat) : Int) := fun h =>
    Int.mul_le_mul_of_nonneg_right (Int.mul_le_mul_of_nonneg_right h (Int.le_of_lt (pw_pos _))) (Int.le_of_lt (pw_pos _))
  refine mul_z ha.1 hb.1 ?_ ?_ hl hh hk'
  · refine Int.le_trans (up hlo) ?_
    rw [e]; exact Int.mul_le_mul_of_nonneg_right ha.2.1 hz
  · refine Int.le_trans ?_ (up hhi)
    rw [e]; exact Int.mul_le_mul_of_nonneg_right ha.2.2 hz
theorem pw3 {A B C D E : Nat} (c : Nat) (h : A + B = C + D + E) : c * 2 ^ A * 2 ^ B = c * 2 ^ C * 2 ^ D * 2 ^ E := by
  rw [Nat.mul_assoc, ← Nat.pow_add, h, Nat.pow_add, Nat.pow_add, ← Nat.mul_assoc, ← Nat.mul_assoc]
theorem ev_aux (V : Int) (n d y : Nat) : V * ((2 ^ n * d : Nat) : Int) * ((2 ^ y : Nat) : Int) = V * ((d * 2 ^ y : Nat) : Int) * ((2 ^ n : Nat) : Int) := by
  rw [Int.natCast_mul, Int.natCast_mul]
  generalize ((2 ^ n : Nat) : Int) = x
  generalize ((2 ^ y : Nat) : Int) = z
  simp only [Int.mul_assoc, Int.mul_comm, Int.mul_left_comm]
/-- the quotient, with signs -/
theorem ratio_le {s : Bool} {A B : Nat} {e e0 : Int} {V : Datum} (hB : 0 < B) (hV : FP.Core.fits b64 V) (hn : V ≠ .nan) (h0 : e0 ≤ b64.qmin) (h0e : e0 ≤ e)
    (h : signed s (inUnits A e e0) ≤ zval b64 V * ((2 ^ (b64.qmin - e0).toNat * B : Nat) : Int)) : zval b64 (roundRatio b64 s A B e) ≤ zval b64 V := by
  have hle := zmag_roundRatio_le good_b64 (s := s) (A := A) hB hV hn h0 h0e
  have hge := zmag_roundRatio_ge good_b64 (s := s) (A := A) hB hV h0 h0e
  rw [Nat.mul_assoc] at hle hge
  have hP : 0 < 2 ^ (b64.qmin - e0).toNat * B := Nat.mul_pos (Nat.two_pow_pos _) hB
  unfold zval at h ⊢
  rw [sgn_roundRatio]
  rw [← signed_mul] at h
  have hz : zmag b64 V * (2 ^ (b64.qmin - e0).toNat * B) = 0 → zmag b64 V = 0 := by
    intro h
    rcases Nat.mul_eq_zero.mp h with h | h <;> omega
  generalize zmag b64 V * (2 ^ (b64.qmin - e0).toNat * B) = vP at *
  generalize sgn V = t at *
  cases s <;> cases t <;> simp only [signed, if_true, Bool.false_eq_true, if_false] at h ⊢
  · have := hle (by omega); omega
  · have := hle (by omega); have := hz (by omega); omega
  · omega
  · have := hge (by omega); omega
theorem ratio_ge {s : Bool} {A B : Nat} {e e0 : Int} {V : Datum} (hB : 0 < B) (hV : FP.Core.fits b64 V) (hn : V ≠ .nan) (h0 : e0 ≤ b64.qmin) (h0e : e0 ≤ e)
    (h : zval b64 V * ((2 ^ (b64.qmin - e0).toNat * B : Nat) : Int) ≤ signed s (inUnits A e e0)) : zval b64 V ≤ zval b64 (roundRatio b64 s A B e) := by
  have h1 := ratio_le (s := !s) (A := A) (B := B) (e := e) (V := negate V) hB (negate_fits hV) (negate_ne_nan hn) h0 h0e (by
    rw [zval_negate, Int.neg_mul]
    have : signed (!s) (inUnits A e e0) = -signed s (inUnits A e e0) := by cases s <;> simp [signed]
    rw [this]; omega)
  rw [zval_negate, ← negate_roundRatio, zval_negate] at h1
  omega
/-- the quotient by a positive number: no NaN, and at the least, at the most, what is so when multiplied back -/
theorem div_zz {a b : UInt64} (fa : DFin a) (fb : DFin b) (hb : 0 < zv b) : val64 (FP.ddiv a b) ≠ .nan ∧
    (∀ {k : Nat} {lo : Int}, lo.natAbs ≤ 2 ^ 53 → k ≤ 2044 → lo * ((2 ^ k : Nat) : Int) * zv b ≤ zv a * ((2 ^ 1074 : Nat) : Int) → lo * ((2 ^ k : Nat) : Int) ≤ zv (FP.ddiv a b)) ∧
    (∀ {k : Nat} {hi : Int}, hi.natAbs ≤ 2 ^ 53 → k ≤ 2044 → zv a * ((2 ^ 1074 : Nat) : Int) ≤ hi * ((2 ^ k : Nat) : Int) * zv b → zv (FP.ddiv a b) ≤ hi * ((2 ^ k : Nat) : Int)) := by
  obtain ⟨s, c, q, va⟩ := fa
  obtain ⟨t, d, r, vb⟩ := fb
  have hv := val64_ddiv a b
  have fa := val64_fits a
  have fb := val64_fits b
  have zea : zv a = zval b64 (.fin s c q) := by unfold zv; rw [va]
  have zeb : zv b = zval b64 (.fin t d r) := by unfold zv; rw [vb]
  rw [zea, zeb]
  rw [zeb] at hb
  rw [va] at hv fa
  rw [vb] at hv fb
  have qn : b64.qmin = -1074 := by decide
  have qx : b64.qmax = 971 := by decide
  have fa2 := fa.2.1
  have fb2 := fb.2.1
  have fb3 := fb.2.2.1
  have zb : zval b64 (.fin t d r) = signed t (d * 2 ^ (r - b64.qmin).toNat) := rfl
  have za : zval b64 (.fin s c q) = signed s (c * 2 ^ (q - b64.qmin).toNat) := rfl
  have hd : 0 < d := by
    refine Nat.pos_of_ne_zero fun e => ?_
    rw [zb, e, Nat.zero_mul, signed_zero] at hb
    omega
  have ht : t = false := by
    cases t with
    | false => rfl
    | true => rw [zb] at hb; simp only [signed, if_true] at hb; omega
  subst ht
  have hq : quotient b64 (.fin s c q) (.fin false d r) = roundRatio b64 s c d (q - r) := by
    show (if d = 0 then _ else roundRatio b64 (s != false) c d (q - r)) = _
    rw [if_neg (by omega)]; cases s <;> rfl
  rw [hq] at hv
  have hn : val64 (Core.ddiv a b) ≠ .nan := by rw [hv]; exact roundRatio_ne_nan _ _ _ _ _
  -- both sides times 2^(r - qmin)
  have hP := pw_pos (r - b64.qmin).toNat
  have ex : signed s (inUnits c (q - r) (2 * b64.qmin)) * ((2 ^ (r - b64.qmin).toNat : Nat) : Int) = zval b64 (.fin s c q) * ((2 ^ 1074 : Nat) : Int) * ((2 ^ 1074 : Nat) : Int) := by
    rw [za, ← signed_mul, ← signed_mul, ← signed_mul]
    exact congrArg (signed s) (pw3 (A := (q - r - 2 * b64.qmin).toNat) (D := 1074) (E := 1074) c (by omega))
  have ev : ∀ V : Int, V * ((2 ^ (b64.qmin - 2 * b64.qmin).toNat * d : Nat) : Int) * ((2 ^ (r - b64.qmin).toNat : Nat) : Int) = V * zval b64 (.fin false d r) * ((2 ^ 1074 : Nat) : Int) := fun V => by
    rw [zb, show (b64.qmin - 2 * b64.qmin).toNat = 1074 by decide]
    exact ev_aux V 1074 d _
  have p1074 := pw_pos 1074
  refine ⟨hn, fun {k lo} hl hk h1 => ?_, fun {k hi} hh hk h2 => ?_⟩
  · obtain ⟨s1, c1, q1, f1, e1⟩ := rep hl hk
    unfold zv; rw [hv, ← e1]
    refine ratio_ge hd f1 (by simp) (e0 := 2 * b64.qmin) (by decide) (by omega) ?_
    refine Int.le_of_mul_le_mul_right ?_ hP
    rw [ev, ex, e1]
    exact Int.mul_le_mul_of_nonneg_right h1 (Int.le_of_lt p1074)
  · obtain ⟨s2, c2, q2, f2, e2⟩ := rep hh hk
    unfold zv; rw [hv, ← e2]
    refine ratio_le hd f2 (by simp) (e0 := 2 * b64.qmin) (by decide) (by omega) ?_
    refine Int.le_of_mul_le_mul_right ?_ hP
    rw [ev, ex, e2]
    exact Int.mul_le_mul_of_nonneg_right h2 (Int.le_of_lt p1074)
/-- between lo and hi -/
theorem div_z {a b : UInt64} {k : Nat} {lo hi : Int} (fa : DFin a) (fb : DFin b) (hb : 0 < zv b) (h1 : lo * ((2 ^ k : Nat) : Int) * zv b ≤ zv a * ((2 ^ 1074 : Nat) : Int)) (h2 : zv a * ((2 ^ 1074 : Nat) : Int) ≤ hi * ((2 ^ k : Nat) : Int) * zv b) (hl : lo.natAbs ≤ 2 ^ 53) (hh : hi.natAbs ≤ 2 ^ 53) (hk : k ≤ 2044) : DB k lo hi (FP.ddiv a b) := by
  obtain ⟨n, ge, le⟩ := div_zz fa fb hb
  exact fin_between hl hh hk n (ge hl hk h1) (le hh hk h2)
/-- the quotient of two known numbers, the second one positive -/
theorem div_b {a b : UInt64} {k k1 k2 : Nat} {i j lo hi : Int} (ha : DE k1 i a) (hb : DE k2 j b) (hj : 0 < j) (hk : k1 + 1074 = k + k2) (hlo : lo * j ≤ i) (hhi : i ≤ hi * j) (hl : lo.natAbs ≤ 2 ^ 53) (hh : hi.natAbs ≤ 2 ^ 53) (hk' : k ≤ 2044) : DB k lo hi (FP.ddiv a b) := by
  have p2 := pw_pos k2
  have e : ∀ x : Int, x * ((2 ^ k : Nat) : Int) * zv b = x * j * ((2 ^ (k1 + 1074) : Nat) : Int) := fun x => by
    rw [hb.eq, hk, pw_add]
    simp only [Int.mul_assoc, Int.mul_left_comm]
  have e2 : zv a * ((2 ^ 1074 : Nat) : Int) = i * ((2 ^ (k1 + 1074) : Nat) : Int) := by rw [ha.eq, pw_add, Int.mul_assoc]
  refine div_z ha.1 hb.1 (by rw [hb.eq]; exact Int.mul_pos hj p2) ?_ ?_ hl hh hk'
  · rw [e, e2]; exact Int.mul_le_mul_of_nonneg_right hlo (Int.le_of_lt (pw_pos _))
  · rw [e, e2]; exact Int.mul_le_mul_of_nonneg_right hhi (Int.le_of_lt (pw_pos _))
theorem div_e {a b : UInt64} {k k1 k2 : Nat} {i j n : Int} (ha : DE k1 i a) (hb : DE k2 j b) (hj : 0 < j) (hk : k1 + 1074 = k + k2) (hn : n * j = i) (hh : n.natAbs ≤ 2 ^ 53) (hk' : k ≤ 2044) : DE k n (FP.ddiv a b) :=
  div_b ha hb hj hk (Int.le_of_eq hn) (Int.le_of_eq hn.symm) hh hh hk'
theorem add_e {a b : UInt64} {k : Nat} {i j n : Int} (ha : DE k i a) (hb : DE k j b) (hn : i + j = n) (hh : n.natAbs ≤ 2 ^ 53) (hk : k ≤ 2044) : DE k n (FP.dadd a b) := add_b ha hb (Int.le_of_eq hn.symm) (Int.le_of_eq hn) hh hh hk
theorem sub_e {a b : UInt64} {k : Nat} {i j n : Int} (ha : DE k i a) (hb : DE k j b) (hn : i - j = n) (hh : n.natAbs ≤ 2 ^ 53) (hk : k ≤ 2044) : DE k n (FP.dsub a b) := sub_b ha hb (Int.le_of_eq hn.symm) (Int.le_of_eq hn) hh hh hk
theorem i2d_e (x : Int32) : DE 1074 x.toInt (FP.i2d x) := DE.of (Core.i2d_fin x) (DInt_zval (i2d_int x))
theorem l2d_e {x : Int64} (h : x.toInt.natAbs ≤ 2 ^ 53) : DE 1074 x.toInt (FP.l2d x) := DE.of (Core.l2d_fin x) (DInt_zval (l2d_int h))
theorem zero_e (k : Nat) : DE k 0 FP.dconst0 := DE.of ⟨_, _, _, rfl⟩ (by rw [Int.zero_mul]; exact zval64_zero)
/-- in smaller units -/
theorem DB.down {a : UInt64} {k : Nat} {lo hi : Int} (h : DB k lo hi a) {k' n : Nat} (hk : k = k' + n) : DB k' (lo * ((2 ^ n : Nat) : Int)) (hi * ((2 ^ n : Nat) : Int)) a := by
  subst hk
  refine ⟨h.1, ?_, ?_⟩
  · have := h.2.1; rw [Nat.add_comm, pw_add, ← Int.mul_assoc] at this; exact this
  · have := h.2.2; rw [Nat.add_comm, pw_add, ← Int.mul_assoc] at this; exact this
/-- the quotient from below alone -/
theorem div_ge {a b : UInt64} {k k1 k2 : Nat} {i j lo : Int} (ha : DE k1 i a) (hb : DE k2 j b) (hj : 0 < j) (hk : k1 + 1074 = k + k2) (hlo : lo * j ≤ i) (hl : lo.natAbs ≤ 2 ^ 53) (hk' : k ≤ 2044) : lo * ((2 ^ k : Nat) : Int) ≤ zv (FP.ddiv a b) := by
  have p2 := pw_pos k2
  have e : ∀ x : Int, x * ((2 ^ k : Nat) : Int) * zv b = x * j * ((2 ^ (k1 + 1074) : Nat) : Int) := fun x => by
    rw [hb.eq, hk, pw_add]
    simp only [Int.mul_assoc, Int.mul_left_comm]
  have e2 : zv a * ((2 ^ 1074 : Nat) : Int) = i * ((2 ^ (k1 + 1074) : Nat) : Int) := by rw [ha.eq, pw_add, Int.mul_assoc]
  refine (div_zz ha.1 hb.1 (by rw [hb.eq]; exact Int.mul_pos hj p2)).2.1 hl hk' ?_
  rw [e, e2]; exact Int.mul_le_mul_of_nonneg_right hlo (Int.le_of_lt (pw_pos _))
/-- in greater units -/
theorem DB.up {a : UInt64} {k : Nat} {lo hi : Int} {n : Nat} (h : DB k (lo * ((2 ^ n : Nat) : Int)) (hi * ((2 ^ n : Nat) : Int)) a) : DB (k + n) lo hi a := by
  refine ⟨h.1, ?_, ?_⟩
  · have := h.2.1; rw [Int.mul_assoc, ← pw_add, Nat.add_comm] at this; exact this
  · have := h.2.2; rw [Int.mul_assoc, ← pw_add, Nat.add_comm] at this; exact this
/-- the product of two known numbers, between two that lie on a grid 2^g times as coarse -/
theorem mul_g {a b : UInt64} {k k1 k2 g : Nat} {i j lo hi : Int} (ha : DE k1 i a) (hb : DE k2 j b) (hk : k1 + k2 + g = k + 1074) (hlo : lo * ((2 ^ g : Nat) : Int) ≤ i * j) (hhi : i * j ≤ hi * ((2 ^ g : Nat) : Int)) (hl : lo.natAbs ≤ 2 ^ 53) (hh : hi.natAbs ≤ 2 ^ 53) (hk' : k ≤ 2044) : DB k lo hi (FP.dmul a b) := by
  have e : zv a * zv b = i * j * ((2 ^ (k1 + k2) : Nat) : Int) := by
    rw [ha.eq, hb.eq, pw_add]
    simp only [Int.mul_assoc, Int.mul_left_comm]
  have e2 : ∀ x : Int, x * ((2 ^ k : Nat) : Int) * ((2 ^ 1074 : Nat) : Int) = x * ((2 ^ g : Nat) : Int) * ((2 ^ (k1 + k2) : Nat) : Int) := fun x => by
    rw [Int.mul_assoc, ← pw_add, ← hk, Nat.add_comm, pw_add, ← Int.mul_assoc]
  refine mul_z ha.1 hb.1 ?_ ?_ hl hh hk'
  · rw [e, e2]; exact Int.mul_le_mul_of_nonneg_right hlo (Int.le_of_lt (pw_pos _))
  · rw [e, e2]; exact Int.mul_le_mul_of_nonneg_right hhi (Int.le_of_lt (pw_pos _))
theorem DB.wide {a : UInt64} {k : Nat} {lo hi lo' hi' : Int} (h : DB k lo hi a) (h1 : lo' ≤ lo) (h2 : hi ≤ hi') : DB k lo' hi' a :=
  ⟨h.1, Int.le_trans (Int.mul_le_mul_of_nonneg_right h1 (Int.le_of_lt (pw_pos k))) h.2.1, Int.le_trans h.2.2 (Int.mul_le_mul_of_nonneg_right h2 (Int.le_of_lt (pw_pos k)))⟩
theorem DE.cmp {a b : UInt64} {k : Nat} {i j : Int} (ha : DE k i a) (hb : DE k j b) : FP.dcmp a b = some (compare i j) := by
  rw [show FP.dcmp a b = some (compare (zv a) (zv b)) from dcmp_zval ha.ne hb.ne, ha.eq, hb.eq, compare_mul_pos _ _ _ (pw_pos k)]
theorem DB.lt {a b : UInt64} {k : Nat} {l1 h1 l2 h2 : Int} (ha : DB k l1 h1 a) (hb : DB k l2 h2 b) (h : h1 < l2) : FP.dcmp a b = some .lt := by
  rw [show FP.dcmp a b = some (compare (zv a) (zv b)) from dcmp_zval ha.ne hb.ne]
  congr 1
  rw [compare_lt_iff]
  have := Int.mul_lt_mul_of_pos_right h (pw_pos k)
  have := ha.2.2; have := hb.2.1
  omega
theorem DB.gt {a b : UInt64} {k : Nat} {l1 h1 l2 h2 : Int} (ha : DB k l1 h1 a) (hb : DB k l2 h2 b) (h : h2 < l1) : FP.dcmp a b = some .gt := by
  rw [show FP.dcmp a b = some (compare (zv a) (zv b)) from dcmp_zval ha.ne hb.ne]
  congr 1
  rw [compare_gt_iff]
  have := Int.mul_lt_mul_of_pos_right h (pw_pos k)
  have := ha.2.1; have := hb.2.2
  omega
/-- two doubles of one value that isn't nought are one -/
theorem DE.uniq {a b : UInt64} {k : Nat} {i : Int} (ha : DE k i a) (hb : DE k i b) (hi : i ≠ 0) : a = b := by
  have h1 := dcmp_key ha.ne hb.ne
  rw [dcmp_zval ha.ne hb.ne] at h1
  have e : zval b64 (val64 a) = zval b64 (val64 b) := (ha.eq).trans hb.eq.symm
  have h2 := Option.some.inj h1
  rw [(compare_eq_iff _ _).mpr e] at h2
  have h3 := (compare_eq_iff _ _).mp h2.symm
  have nz : ∀ {c : UInt64}, DE k i c → dkey c ≠ 0 := fun {c} hc h0 => by
    have q := dcmp_key hc.ne (b := 0) (by rw [val64_zero]; simp)
    rw [dcmp_zval hc.ne (by rw [val64_zero]; simp), zval64_zero] at q
    have q2 := Option.some.inj q
    have z : dkey 0 = 0 := by decide
    rw [h0, z, (compare_eq_iff (0 : Int) 0).mpr rfl] at q2
    have q3 := (compare_eq_iff _ _).mp q2
    have q4 : zv c = 0 := q3
    rw [hc.eq] at q4
    rcases Int.mul_eq_zero.mp q4 with q5 | q5
    · exact hi q5
    · have := pw_pos k; omega
  have n1 := nz ha
  have n2 := nz hb
  unfold dkey at h3 n1 n2
  apply UInt64.toNat_inj.mp
  have l1 := a.toNat_lt; have l2 := b.toNat_lt
  split at h3 <;> split at h3 <;> simp_all <;> omega
end Jvm.Pilot.@@N@@.Own
namespace Jvm.Pilot.@@N@@.Own
open Jvm Jvm.ClassFile Sem Op Lib Jvm.Free Jvm.Stand Jvm.LawKit Jvm.RoadKit
theorem ishl_v {tb : Tables} [Ours tb] {e : Env} {below : List Frame} {T target : State} {m : MethodId} {c : Code} {g : JFrame} (h : At T m c below) (hx : tb.exec = Jvm.exec) (hg : g.method = m) {x : Int32} {y : Int32} {v : Int32} {rest : List Value} (hd : decode c.code g.pc = .ok (.ishl, 1)) (hs : g.stack = .int y :: .int x :: rest) (hv : (x <<< (y &&& 31)) = v)
    (hr : Steps tb e below (T.setTop { g with pc := g.pc + 1, stack := .int v :: rest }) target) : Steps tb e below (T.setTop g) target := by subst hv; exact XS.ishl h hx hg hd hs hr
theorem ishr_v {tb : Tables} [Ours tb] {e : Env} {below : List Frame} {T target : State} {m : MethodId} {c : Code} {g : JFrame} (h : At T m c below) (hx : tb.exec = Jvm.exec) (hg : g.method = m) {x : Int32} {y : Int32} {v : Int32} {rest : List Value} (hd : decode c.code g.pc = .ok (.ishr, 1)) (hs : g.stack = .int y :: .int x :: rest) (hv : (x >>> (y &&& 31)) = v)
    (hr : Steps tb e below (T.setTop { g with pc := g.pc + 1, stack := .int v :: rest }) target) : Steps tb e below (T.setTop g) target := by subst hv; exact XS.ishr h hx hg hd hs hr
theorem i2l_v {tb : Tables} [Ours tb] {e : Env} {below : List Frame} {T target : State} {m : MethodId} {c : Code} {g : JFrame} (h : At T m c below) (hx : tb.exec = Jvm.exec) (hg : g.method = m) {x : Int32} {v : Int64} {rest : List Value} (hd : decode c.code g.pc = .ok (.i2l, 1)) (hs : g.stack = .int x :: rest) (hv : x.toInt64 = v)
    (hr : Steps tb e below (T.setTop { g with pc := g.pc + 1, stack := .long v :: rest }) target) : Steps tb e below (T.setTop g) target := by subst hv; exact XS.i2l h hx hg hd hs hr
theorem iushr_v {tb : Tables} [Ours tb] {e : Env} {below : List Frame} {T target : State} {m : MethodId} {c : Code} {g : JFrame} (h : At T m c below) (hx : tb.exec = Jvm.exec) (hg : g.method = m) {x : Int32} {y : Int32} {v : Int32} {rest : List Value} (hd : decode c.code g.pc = .ok (.iushr, 1)) (hs : g.stack = .int y :: .int x :: rest) (hv : ((x.toUInt32 >>> (y &&& 31).toUInt32).toInt32) = v)
    (hr : Steps tb e below (T.setTop { g with pc := g.pc + 1, stack := .int v :: rest }) target) : Steps tb e below (T.setTop g) target := by subst hv; exact XS.iushr h hx hg hd hs hr
theorem iadd_v {tb : Tables} [Ours tb] {e : Env} {below : List Frame} {T target : State} {m : MethodId} {c : Code} {g : JFrame} (h : At T m c below) (hx : tb.exec = Jvm.exec) (hg : g.method = m) {x : Int32} {y : Int32} {v : Int32} {rest : List Value} (hd : decode c.code g.pc = .ok (.iadd, 1)) (hs : g.stack = .int y :: .int x :: rest) (hv : x + y = v)
    (hr : Steps tb e below (T.setTop { g with pc := g.pc + 1, stack := .int v :: rest }) target) : Steps tb e below (T.setTop g) target := by subst hv; exact XS.iadd h hx hg hd hs hr
theorem lsub_v {tb : Tables} [Ours tb] {e : Env} {below : List Frame} {T target : State} {m : MethodId} {c : Code} {g : JFrame} (h : At T m c below) (hx : tb.exec = Jvm.exec) (hg : g.method = m) {x : Int64} {y : Int64} {v : Int64} {rest : List Value} (hd : decode c.code g.pc = .ok (.lsub, 1)) (hs : g.stack = .long y :: .long x :: rest) (hv : x - y = v)
    (hr : Steps tb e below (T.setTop { g with pc := g.pc + 1, stack := .long v :: rest }) target) : Steps tb e below (T.setTop g) target := by subst hv; exact XS.lsub h hx hg hd hs hr
theorem lmul_v {tb : Tables} [Ours tb] {e : Env} {below : List Frame} {T target : State} {m : MethodId} {c : Code} {g : JFrame} (h : At T m c below) (hx : tb.exec = Jvm.exec) (hg : g.method = m) {x : Int64} {y : Int64} {v : Int64} {rest : List Value} (hd : decode c.code g.pc = .ok (.lmul, 1)) (hs : g.stack = .long y :: .long x :: rest) (hv : x * y = v)
    (hr : Steps tb e below (T.setTop { g with pc := g.pc + 1, stack := .long v :: rest }) target) : Steps tb e below (T.setTop g) target := by subst hv; exact XS.lmul h hx hg hd hs hr
theorem ladd_v {tb : Tables} [Ours tb] {e : Env} {below : List Frame} {T target : State} {m : MethodId} {c : Code} {g : JFrame} (h : At T m c below) (hx : tb.exec = Jvm.exec) (hg : g.method = m) {x : Int64} {y : Int64} {v : Int64} {rest : List Value} (hd : decode c.code g.pc = .ok (.ladd, 1)) (hs : g.stack = .long y :: .long x :: rest) (hv : x + y = v)
    (hr : Steps tb e below (T.setTop { g with pc := g.pc + 1, stack := .long v :: rest }) target) : Steps tb e below (T.setTop g) target := by subst hv; exact XS.ladd h hx hg hd hs hr
theorem lneg_v {tb : Tables} [Ours tb] {e : Env} {below : List Frame} {T target : State} {m : MethodId} {c : Code} {g : JFrame} (h : At T m c below) (hx : tb.exec = Jvm.exec) (hg : g.method = m) {x : Int64} {v : Int64} {rest : List Value} (hd : decode c.code g.pc = .ok (.lneg, 1)) (hs : g.stack = .long x :: rest) (hv : -x = v)
    (hr : Steps tb e below (T.setTop { g with pc := g.pc + 1, stack := .long v :: rest }) target) : Steps tb e below (T.setTop g) target := by subst hv; exact XS.lneg h hx hg hd hs hr
end Jvm.Pilot.@@N@@.Own
namespace Jvm.Pilot.@@N@@.Own
open Jvm Jvm.FP Jvm.FP.Core
theorem sq_nonneg (a : Int) : 0 ≤ a * a := by rw [← Int.natAbs_mul_self]; exact Int.natCast_nonneg _
theorem pw_cancel {A B u v : Nat} (h : A * 2 ^ u = B * 2 ^ v) : A * 2 ^ (u - v) = B * 2 ^ (v - u) := by
  rcases Nat.le_total u v with q | q
  · obtain ⟨w, rfl⟩ := Nat.exists_eq_add_of_le q
    rw [Nat.pow_add, Nat.mul_comm (2 ^ u), ← Nat.mul_assoc] at h
    have := Nat.eq_of_mul_eq_mul_right (Nat.two_pow_pos u) h
    rw [show u - (u + w) = 0 by omega, show u + w - u = w by omega, Nat.pow_zero, Nat.mul_one]; exact this
  · obtain ⟨w, rfl⟩ := Nat.exists_eq_add_of_le q
    rw [Nat.pow_add, Nat.mul_comm (2 ^ v), ← Nat.mul_assoc] at h
    have := Nat.eq_of_mul_eq_mul_right (Nat.two_pow_pos v) h
    rw [show v - (v + w) = 0 by omega, show v + w - v = w by omega, Nat.pow_zero, Nat.mul_one]; exact this
theorem pos_fin {k i : Nat} {a : UInt64} (h : DE k (i : Int) a) (hi : 0 < i) : ∃ c q, val64 a = .fin false c q ∧ 0 < c ∧ c * 2 ^ (q - b64.qmin).toNat = i * 2 ^ k := by
  obtain ⟨s, c, q, va⟩ := h.1
  have e := h.eq
  unfold zv at e
  rw [va] at e
  have e2 : signed s (c * 2 ^ (q - b64.qmin).toNat) = (i : Int) * ((2 ^ k : Nat) : Int) := e
  have p : 0 < i * 2 ^ k := Nat.mul_pos hi (Nat.two_pow_pos k)
  rw [← Int.natCast_mul] at e2
  cases s with
  | true => simp only [signed, if_true] at e2; omega
  | false =>
    simp only [signed, Bool.false_eq_true, if_false] at e2
    have e3 : c * 2 ^ (q - b64.qmin).toNat = i * 2 ^ k := by omega
    refine ⟨c, q, va, Nat.pos_of_ne_zero fun z => ?_, e3⟩
    rw [z, Nat.zero_mul] at e3; omega
/-- a quotient's digits don't change with its scale -/
theorem div_norm {W M : Nat} (hW : 0 < W) (hM : 0 < M) (bW : W < 2 ^ 52) (bM : M < 2 ^ 52) : ∃ n m : Nat, n ≤ 2 ^ 53 ∧ m ≤ 110 ∧ ∀ {a b : UInt64} {k k1 k2 : Nat}, DE k1 (W : Int) a → DE k2 (M : Int) b → k1 + 1074 = k + k2 → 200 ≤ k → k ≤ 1900 → DE (k - m) (n : Int) (FP.ddiv a b) := by
  have qn : b64.qmin = -1074 := by decide
  have qx : b64.qmax = 971 := by decide
  have bp : b64.p = 53 := rfl
  have ls := leading_spec hW hM
  have up : leading W M < 52 := lt_of_below ls.1 (by
    unfold Below
    show W * 2 ^ 0 < M * 2 ^ 52
    rw [Nat.pow_zero, Nat.mul_one]
    exact Nat.lt_of_lt_of_le bW (Nat.le_mul_of_pos_left _ hM))
  have dn : (-52 : Int) < leading W M + 1 := lt_of_below (by
    unfold Below
    show ¬ W * 2 ^ 52 < M * 2 ^ 0
    rw [Nat.pow_zero, Nat.mul_one]
    exact Nat.not_lt.mpr (Nat.le_of_lt (Nat.lt_of_lt_of_le bM (Nat.le_mul_of_pos_left _ hW)))) ls.2
  obtain ⟨ld, hld⟩ : ∃ z, z = leading W M := ⟨_, rfl⟩
  rw [← hld] at up dn
  refine ⟨nearest (W * 2 ^ (52 - ld).toNat) M, (52 - ld).toNat, ?_, by omega, ?_⟩
  · have q := nearest_units_le (f := b64) hW hM 0
    have e : quantum b64 W M 0 = ld - 52 := by unfold quantum; rw [← hld, bp, qn]; omega
    rw [e] at q
    unfold unitsNum unitsDen at q
    rw [show ((0 : Int) - (ld - 52)) = 52 - ld by omega, show (ld - 52 - 0).toNat = 0 by omega, Nat.pow_zero, Nat.mul_one] at q
    exact q
  · intro a b k k1 k2 ha hb hk h1 h2
    obtain ⟨c, q, va, hc, ea⟩ := pos_fin ha hW
    obtain ⟨d, r, vb, hd, eb⟩ := pos_fin hb hM
    have fa := val64_fits a
    have fb := val64_fits b
    rw [va] at fa; rw [vb] at fb
    have fa1 := fa.2.1; have fb1 := fb.2.1
    have hv := val64_ddiv a b
    rw [va, vb] at hv
    have hq : quotient b64 (.fin false c q) (.fin false d r) = roundRatio b64 false c d (q - r) := by
      show (if d = 0 then _ else roundRatio b64 (false != false) c d (q - r)) = _
      rw [if_neg (by omega)]; rfl
    have hcg : roundRatio b64 false c d (q - r) = roundRatio b64 false W M ((k : Int) - 1074) := by
      refine roundRatio_congr hd hM ?_
      have e : c * M * 2 ^ ((q - b64.qmin).toNat + k2) = W * d * 2 ^ ((r - b64.qmin).toNat + k1) := by
        rw [Nat.pow_add, Nat.pow_add]
        calc c * M * (2 ^ (q - b64.qmin).toNat * 2 ^ k2) = (c * 2 ^ (q - b64.qmin).toNat) * (M * 2 ^ k2) := by ac_rfl
          _ = (W * 2 ^ k1) * (d * 2 ^ (r - b64.qmin).toNat) := by rw [ea, eb]
          _ = W * d * (2 ^ (r - b64.qmin).toNat * 2 ^ k1) := by ac_rfl
      have e2 := pw_cancel e
      rw [show (q - r - ((k : Int) - 1074)).toNat = (q - b64.qmin).toNat + k2 - ((r - b64.qmin).toNat + k1) by omega, show ((k : Int) - 1074 - (q - r)).toNat = (r - b64.qmin).toNat + k1 - ((q - b64.qmin).toNat + k2) by omega]
      exact e2
    rw [hq, hcg] at hv
    have qe : quantum b64 W M ((k : Int) - 1074) = ld + ((k : Int) - 1074) - 52 := by unfold quantum; rw [← hld, bp, qn]; omega
    have hr : roundRatio b64 false W M ((k : Int) - 1074) = settle b64 false (nearest (W * 2 ^ (52 - ld).toNat) M) (ld + ((k : Int) - 1074) - 52) := by
      unfold roundRatio
      rw [if_neg (by omega), qe]
      unfold roundAt unitsNum unitsDen
      rw [show ((k : Int) - 1074 - (ld + ((k : Int) - 1074) - 52)) = 52 - ld by omega, show (ld + ((k : Int) - 1074) - 52 - ((k : Int) - 1074)).toNat = 0 by omega, Nat.pow_zero, Nat.mul_one]
    have hn : nearest (W * 2 ^ (52 - ld).toNat) M ≤ 2 ^ b64.p := by
      have q := nearest_units_le (f := b64) hW hM 0
      have e : quantum b64 W M 0 = ld - 52 := by unfold quantum; rw [← hld, bp, qn]; omega
      rw [e] at q
      unfold unitsNum unitsDen at q
      rw [show ((0 : Int) - (ld - 52)) = 52 - ld by omega, show (ld - 52 - 0).toNat = 0 by omega, Nat.pow_zero, Nat.mul_one] at q
      exact q
    rw [hr] at hv
    have hs : ∃ c' q', settle b64 false (nearest (W * 2 ^ (52 - ld).toNat) M) (ld + ((k : Int) - 1074) - 52) = .fin false c' q' := by
      unfold settle bound
      split
      · rw [if_pos (by omega)]; exact ⟨_, _, rfl⟩
      · rw [if_pos (by omega)]; exact ⟨_, _, rfl⟩
    obtain ⟨c', q', hs⟩ := hs
    have sv := (settle_value good_b64 (e0 := b64.qmin) hn hs (by omega)).2
    refine DE.of ⟨false, c', q', by rw [← hs]; exact hv⟩ ?_
    unfold zv
    rw [show val64 (FP.ddiv a b) = .fin false c' q' from by rw [← hs]; exact hv]
    show ((inUnits c' q' b64.qmin : Nat) : Int) = _
    rw [sv]
    unfold inUnits
    rw [Int.natCast_mul]
    congr 3
    omega
theorem lagrange (ux uy dx dy : Int) : (ux * ux + uy * uy) * (dx * dx + dy * dy) - (ux * dx + uy * dy) * (ux * dx + uy * dy) = (ux * dy - uy * dx) * (ux * dy - uy * dx) := by
  simp only [Int.mul_add, Int.add_mul, Int.mul_sub, Int.sub_mul, Int.mul_assoc, Int.mul_left_comm, Int.mul_comm]
  omega
theorem cross_eq (ux uy vx vy dx dy : Int) (h1 : vx - ux = dx) (h2 : vy - uy = dy) : ux * dy - uy * dx = ux * vy - uy * vx := by
  subst h1 h2
  simp only [Int.mul_sub, Int.mul_comm]
  omega
end Jvm.Pilot.@@N@@.Own
namespace Jvm.Pilot.@@N@@
open Jvm Jvm.ClassFile Sem Op Lib Jvm.Free Jvm.Stand Jvm.LawKit Jvm.RoadKit Bundle Jvm.Pilot.@@N@@.Jvm.D Jvm.Pilot.@@N@@.Own
theorem pd_0 : parseMethodDescriptor "()V" = some ⟨[], none⟩ := by decide +kernel
theorem pd_1 : parseMethodDescriptor "(I)J" = some ⟨[.int], some .long⟩ := by decide +kernel
theorem pd_2 : parseMethodDescriptor "(DDD)V" = some ⟨[.double, .double, .double], none⟩ := by decide +kernel
theorem pd_3 : parseMethodDescriptor "(DDDD)D" = some ⟨[.double, .double, .double, .double], some .double⟩ := by decide +kernel
theorem d1_0 : decode jdk_30_method_1_code 0 = .ok (.aload_n 0, 1) := by decide +kernel
theorem d1_1 : decode jdk_30_method_1_code 1 = .ok (.invokespecial 1, 3) := by decide +kernel
theorem d1_4 : decode jdk_30_method_1_code 4 = .ok (.return_, 1) := by decide +kernel
theorem pn_1 : plainName "java/lang/Record" = true := by first | (simp [plainName, overriddenIn]; done) | decide +kernel
theorem ef_1 (m : MethodId) (x0 : Addr) : entryFrame m #[(.ref x0)] 1 = mkF m 0 #[.val (.ref x0)] [] := by first | (simp [entryFrame, mkF, argsToLocals, Value.category]; done) | rfl
def Q1 (Z : State) (a : Addr) (h0 : Heap) (n0 : Nat) (v : Option Value) (h : Heap) (L : List Loc) : Prop := v = none ∧ Fr n0 L ∧ h = h0
set_option maxRecDepth 65536 in
set_option maxHeartbeats 40000000 in
theorem rm1 (l : Launch) (Z : State) (a0 : Array Value) (hw : ∀ d ∈ tables_1, d.before a0 Z = true) (ws : List Jvm.Cond) (a : Addr) (h0 : Heap) (n0 : Nat) (Z0 : n0 ≤ h0.size) :
    MetFree l (⟨"java/lang/Record", "<init>", "()V"⟩ : MethodName) (head1 (Jvm.Cond.code (⟨"java/lang/Record", "<init>", "()V"⟩ : MethodName) jdk_30_method_1_code 1 none :: ws) ({ frames := 1, cells := 0, slots := 0, locals := 12 } : Room)) (fun a_ U => a_ = #[(.ref a)] ∧ Z.Warmed39 U.vm ∧ U.heap = h0) (fun _ _ _ _ _ => True) (fun _ U o U' => ∃ v L, o = .returned v ∧ Q1 Z a h0 n0 v U'.heap L ∧ FrameEnd U o U' L (({ frames := 1, cells := 0, slots := 0, locals := 12 } : Room)).cells (({ frames := 1, cells := 0, slots := 0, locals := 12 } : Room)).slots) := by
  refine MetFree.of_bodySF (plainFor_of_name pn_1) hisR ?_
  intro p e s m args below meth c s₁ Bd hml0 hP0 hK
  obtain ⟨rfl, hZ, hh⟩ := hP0
  have hx := Bd.exec
  have hby := Bd.bytes
  have hml : c.maxLocals = 1 := hml0
  have hown : s.vm.findClass "java/lang/Record" = some m.cls := findClass_of_methodNamed Bd.named
  have hnm := (name_of_methodNamed Bd.named Bd.method).1
  have X0 : Stand p l e ({ frames := 1, cells := 0, slots := 0, locals := 12 } : Room) s m #[(.ref a)] below meth c s₁ [] 0 0 := Stand.of_body Bd
  have e0 : s₁.heap = h0 := by rw [← hh, Bd.state]; rfl
  have N0 := Fr.nil n0
  have hlk : meth.locks = false := BodyLoose.notSynchronized Bd
  refine Go.start (P₀ := fun s₂ o => ∃ v L, o = .returned v ∧ Q1 Z a h0 n0 v s₂.heap L ∧ FrameEnd s o s₂ L (({ frames := 1, cells := 0, slots := 0, locals := 12 } : Room)).cells (({ frames := 1, cells := 0, slots := 0, locals := 12 } : Room)).slots) (congrArg s₁.setTop (ef_1 m a)) ?_
  intro P hP
  show Go p.tables e below P (s₁.setTop (mkF m 0 #[.val (.ref a)] []))
  refine Go.step (fun t k => XS.aloadN X0.here hx rfl (hb hby d1_0) rfl rfl k) ?_
  show Go p.tables e below P (s₁.setTop (mkF m 1 #[.val (.ref a)] [(.ref a)]))
  obtain ⟨T_1, X_1, e_1, st_1⟩ := initO X0 hx hZ hown (hw _ (List.mem_of_getElem? (i := 15) rfl)) (hw _ (List.mem_of_getElem? (i := 16) rfl)) (hw _ (List.mem_of_getElem? (i := 17) rfl)) e0 (g := (mkF m 1 #[.val (.ref a)] [(.ref a)])) rfl (by rw [hml]; rfl) rfl (hb hby d1_1) (by decide) (W := 0) (by show 2 * 0 + _ ≤ _; exact Nat.le_of_eq rfl) (by decide)
  refine Go.step (fun t k => st_1 t k) ?_
  show Go p.tables e below P (T_1.setTop (mkF m 4 #[.val (.ref a)] []))
  exact voidGo X_1 hx hP Bd.returns hlk (hb hby d1_4) (by decide) (by decide) (by rw [e_1]; exact ⟨rfl, N0, rfl⟩)
theorem d2_0 : decode method_2_code 0 = .ok (.iload_n 0, 1) := by decide +kernel
theorem d2_1 : decode method_2_code 1 = .ok (.bipush 20, 2) := by decide +kernel
theorem d2_3 : decode method_2_code 3 = .ok (.ishl, 1) := by decide +kernel
theorem d2_4 : decode method_2_code 4 = .ok (.bipush 20, 2) := by decide +kernel
theorem d2_6 : decode method_2_code 6 = .ok (.ishr, 1) := by decide +kernel
theorem d2_7 : decode method_2_code 7 = .ok (.i2l, 1) := by decide +kernel
theorem d2_8 : decode method_2_code 8 = .ok (.lreturn, 1) := by decide +kernel
theorem pn_2 : plainName "com/example/geofence/geofence/geometry/CircleSquaredDistancePinLaw" = true := by first | (simp [plainName, overriddenIn]; done) | decide +kernel
theorem ef_2 (m : MethodId) (x0 : Int32) : entryFrame m #[(.int x0)] 1 = mkF m 0 #[.val (.int x0)] [] := by first | (simp [entryFrame, mkF, argsToLocals, Value.category]; done) | rfl
def Q2 (Z : State) (u1 : Int32) (h0 : Heap) (n0 : Nat) (v : Option Value) (h : Heap) (L : List Loc) : Prop := ∃ r : Int64, v = some (.long r) ∧ (-2048 ≤ r.toInt ∧ r.toInt ≤ 2048) ∧ Fr n0 L ∧ h = h0
set_option maxRecDepth 65536 in
set_option maxHeartbeats 40000000 in
theorem rm2 (l : Launch) (Z : State) (a0 : Array Value) (hw : ∀ d ∈ tables_1, d.before a0 Z = true) (ws : List Jvm.Cond) (u1 : Int32) (h0 : Heap) (n0 : Nat) (Z0 : n0 ≤ h0.size) :
    MetFree l (⟨"com/example/geofence/geofence/geometry/CircleSquaredDistancePinLaw", "coord", "(I)J"⟩ : MethodName) (head1 (Jvm.Cond.code (⟨"com/example/geofence/geofence/geometry/CircleSquaredDistancePinLaw", "coord", "(I)J"⟩ : MethodName) method_2_code 1 (some .long) :: ws) ({ frames := 0, cells := 0, slots := 0, locals := 0 } : Room)) (fun a_ U => a_ = #[(.int u1)] ∧ Z.Warmed39 U.vm ∧ U.heap = h0) (fun _ _ _ _ _ => True) (fun _ U o U' => ∃ v L, o = .returned v ∧ Q2 Z u1 h0 n0 v U'.heap L ∧ FrameEnd U o U' L (({ frames := 0, cells := 0, slots := 0, locals := 0 } : Room)).cells (({ frames := 0, cells := 0, slots := 0, locals := 0 } : Room)).slots) := by
  refine MetFree.of_bodySF (plainFor_of_name pn_2) hisR ?_
  intro p e s m args below meth c s₁ Bd hml0 hP0 hK
  obtain ⟨rfl, hZ, hh⟩ := hP0
  have hx := Bd.exec
  have hby := Bd.bytes
  have hml : c.maxLocals = 1 := hml0
  have hown : s.vm.findClass "com/example/geofence/geofence/geometry/CircleSquaredDistancePinLaw" = some m.cls := findClass_of_methodNamed Bd.named
  have hnm := (name_of_methodNamed Bd.named Bd.method).1
  have X0 : Stand p l e ({ frames := 0, cells := 0, slots := 0, locals := 0 } : Room) s m #[(.int u1)] below meth c s₁ [] 0 0 := Stand.of_body Bd
  have e0 : s₁.heap = h0 := by rw [← hh, Bd.state]; rfl
  have N0 := Fr.nil n0
  have hlk : meth.locks = false := BodyLoose.notSynchronized Bd
  refine Go.start (P₀ := fun s₂ o => ∃ v L, o = .returned v ∧ Q2 Z u1 h0 n0 v s₂.heap L ∧ FrameEnd s o s₂ L (({ frames := 0, cells := 0, slots := 0, locals := 0 } : Room)).cells (({ frames := 0, cells := 0, slots := 0, locals := 0 } : Room)).slots) (congrArg s₁.setTop (ef_2 m u1)) ?_
  intro P hP
  show Go p.tables e below P (s₁.setTop (mkF m 0 #[.val (.int u1)] []))
  refine Go.step (fun t k => XS.iloadN X0.here hx rfl (hb hby d2_0) rfl  k) ?_
  show Go p.tables e below P (s₁.setTop (mkF m 1 #[.val (.int u1)] [(.int u1)]))
  refine Go.step (fun t k => XS.bipush X0.here hx rfl (hb hby d2_1) k) ?_
  show Go p.tables e below P (s₁.setTop (mkF m 3 #[.val (.int u1)] [(.int (20 : Int32)), (.int u1)]))
  obtain ⟨i3, hi3⟩ : ∃ z : Int32, (u1 <<< ((20 : Int32) &&& 31)) = z := ⟨_, rfl⟩
  refine Go.step (fun t k => ishl_v X0.here hx rfl (hb hby d2_3) rfl  hi3 k) ?_
  show Go p.tables e below P (s₁.setTop (mkF m 4 #[.val (.int u1)] [(.int i3)]))
  refine Go.step (fun t k => XS.bipush X0.here hx rfl (hb hby d2_4) k) ?_
  show Go p.tables e below P (s₁.setTop (mkF m 6 #[.val (.int u1)] [(.int (20 : Int32)), (.int i3)]))
  obtain ⟨i6, hi6⟩ : ∃ z : Int32, (i3 >>> ((20 : Int32) &&& 31)) = z := ⟨_, rfl⟩
  refine Go.step (fun t k => ishr_v X0.here hx rfl (hb hby d2_6) rfl  hi6 k) ?_
  show Go p.tables e below P (s₁.setTop (mkF m 7 #[.val (.int u1)] [(.int i6)]))
  obtain ⟨j7, hj7⟩ : ∃ z : Int64, i6.toInt64 = z := ⟨_, rfl⟩
  refine Go.step (fun t k => i2l_v X0.here hx rfl (hb hby d2_7) rfl hj7 k) ?_
  show Go p.tables e below P (s₁.setTop (mkF m 8 #[.val (.int u1)] [(.long j7)]))
  have f6 := c_ishr i3 (20 : Int32) 20 rfl; rw [hi6] at f6
  have g3 := rng32 i3
  have f7 := c_i2l i6; rw [hj7] at f7
  exact retGo X0 hx hP Bd.returns hlk rfl (Or.inr (Or.inl ⟨rfl, rfl, _, rfl⟩)) (hb hby d2_8) (by decide) (by decide) (by rw [e0]; exact ⟨j7, rfl, by omega, N0, rfl⟩)
theorem d3_0 : decode prog_10_method_1_code 0 = .ok (.aload_n 0, 1) := by decide +kernel
theorem d3_1 : decode prog_10_method_1_code 1 = .ok (.invokespecial 1, 3) := by decide +kernel
theorem d3_4 : decode prog_10_method_1_code 4 = .ok (.aload_n 0, 1) := by decide +kernel
theorem d3_5 : decode prog_10_method_1_code 5 = .ok (.dload_n 1, 1) := by decide +kernel
theorem d3_6 : decode prog_10_method_1_code 6 = .ok (.putfield 7, 3) := by decide +kernel
theorem d3_9 : decode prog_10_method_1_code 9 = .ok (.aload_n 0, 1) := by decide +kernel
theorem d3_10 : decode prog_10_method_1_code 10 = .ok (.dload_n 3, 1) := by decide +kernel
theorem d3_11 : decode prog_10_method_1_code 11 = .ok (.putfield 13, 3) := by decide +kernel
theorem d3_14 : decode prog_10_method_1_code 14 = .ok (.aload_n 0, 1) := by decide +kernel
theorem d3_15 : decode prog_10_method_1_code 15 = .ok (.dload 5, 2) := by decide +kernel
theorem d3_17 : decode prog_10_method_1_code 17 = .ok (.putfield 16, 3) := by decide +kernel
theorem d3_20 : decode prog_10_method_1_code 20 = .ok (.return_, 1) := by decide +kernel
theorem pn_3 : plainName "com/example/geofence/geofence/geometry/Circle" = true := by first | (simp [plainName, overriddenIn]; done) | decide +kernel
theorem ef_3 (m : MethodId) (x0 : Addr) (x1 : UInt64) (x2 : UInt64) (x3 : UInt64) : entryFrame m #[(.ref x0), (.double x1), (.double x2), (.double x3)] 7 = mkF m 0 #[.val (.ref x0), .val (.double x1), .second, .val (.double x2), .second, .val (.double x3), .second] [] := by first | (simp [entryFrame, mkF, argsToLocals, Value.category]; done) | rfl
def Q3 (Z : State) (a : Addr) (bx : UInt64) (by_ : UInt64) (br : UInt64) (h0 : Heap) (n0 : Nat) (v : Option Value) (h : Heap) (L : List Loc) : Prop := v = none ∧ Fr n0 L ∧ Keep h0 h [a] ∧ Exa Z h a "com/example/geofence/geofence/geometry/Circle" ∧ Fld Z h a "com/example/geofence/geofence/geometry/Circle" "x" "D" (.double bx) ∧ Fld Z h a "com/example/geofence/geofence/geometry/Circle" "y" "D" (.double by_) ∧ Fld Z h a "com/example/geofence/geofence/geometry/Circle" "radius" "D" (.double br)
set_option maxRecDepth 65536 in
set_option maxHeartbeats 40000000 in
theorem rm3 (l : Launch) (Z : State) (a0 : Array Value) (hw : ∀ d ∈ tables_1, d.before a0 Z = true) (ws : List Jvm.Cond) (a : Addr) (bx : UInt64) (by_ : UInt64) (br : UInt64) (h0 : Heap) (n0 : Nat) (Z0 : n0 ≤ h0.size) (E_a : Exa Z h0 a "com/example/geofence/geofence/geometry/Circle") (F0 : Fld Z h0 a "com/example/geofence/geofence/geometry/Circle" "x" "D" (.double (0 : UInt64))) (F1 : Fld Z h0 a "com/example/geofence/geofence/geometry/Circle" "y" "D" (.double (0 : UInt64))) (F2 : Fld Z h0 a "com/example/geofence/geofence/geometry/Circle" "radius" "D" (.double (0 : UInt64))) (g_a : n0 ≤ a) :
    MetFree l (⟨"com/example/geofence/geofence/geometry/Circle", "<init>", "(DDD)V"⟩ : MethodName) (head1 (Jvm.Cond.code (⟨"com/example/geofence/geofence/geometry/Circle", "<init>", "(DDD)V"⟩ : MethodName) prog_10_method_1_code 7 none :: ws) ({ frames := 2, cells := 0, slots := 0, locals := 24 } : Room)) (fun a_ U => a_ = #[(.ref a), (.double bx), (.double by_), (.double br)] ∧ Z.Warmed39 U.vm ∧ U.heap = h0) (fun _ _ _ _ _ => True) (fun _ U o U' => ∃ v L, o = .returned v ∧ Q3 Z a bx by_ br h0 n0 v U'.heap L ∧ FrameEnd U o U' L (({ frames := 2, cells := 0, slots := 0, locals := 24 } : Room)).cells (({ frames := 2, cells := 0, slots := 0, locals := 24 } : Room)).slots) := by
  refine MetFree.of_bodySF (plainFor_of_name pn_3) hisR ?_
  intro p e s m args below meth c s₁ Bd hml0 hP0 hK
  obtain ⟨rfl, hZ, hh⟩ := hP0
  have hx := Bd.exec
  have hby := Bd.bytes
  have hml : c.maxLocals = 7 := hml0
  have hown : s.vm.findClass "com/example/geofence/geofence/geometry/Circle" = some m.cls := findClass_of_methodNamed Bd.named
  have hnm := (name_of_methodNamed Bd.named Bd.method).1
  have X0 : Stand p l e ({ frames := 2, cells := 0, slots := 0, locals := 24 } : Room) s m #[(.ref a), (.double bx), (.double by_), (.double br)] below meth c s₁ [] 0 0 := Stand.of_body Bd
  have e0 : s₁.heap = h0 := by rw [← hh, Bd.state]; rfl
  have N0 := Fr.nil n0
  have hlk : meth.locks = false := BodyLoose.notSynchronized Bd
  refine Go.start (P₀ := fun s₂ o => ∃ v L, o = .returned v ∧ Q3 Z a bx by_ br h0 n0 v s₂.heap L ∧ FrameEnd s o s₂ L (({ frames := 2, cells := 0, slots := 0, locals := 24 } : Room)).cells (({ frames := 2, cells := 0, slots := 0, locals := 24 } : Room)).slots) (congrArg s₁.setTop (ef_3 m a bx by_ br)) ?_
  intro P hP
  show Go p.tables e below P (s₁.setTop (mkF m 0 #[.val (.ref a), .val (.double bx), .second, .val (.double by_), .second, .val (.double br), .second] []))
  refine Go.step (fun t k => XS.aloadN X0.here hx rfl (hb hby d3_0) rfl rfl k) ?_
  show Go p.tables e below P (s₁.setTop (mkF m 1 #[.val (.ref a), .val (.double bx), .second, .val (.double by_), .second, .val (.double br), .second] [(.ref a)]))
  obtain ⟨_, _, ⟨T_1, L_1, k_1, n_1⟩, -, X_1, ⟨Lc_1, hQ_1, l_1, y_1, z_1⟩, st_1⟩ := X0.specialBack hx (y := (⟨"java/lang/Record", "<init>", "()V"⟩ : MethodName)) rfl hown (mvT hZ (hw _ (List.mem_of_getElem? (i := 10) rfl))) (mvT hZ (hw _ (List.mem_of_getElem? (i := 11) rfl))) (mvT hZ (hw _ (List.mem_of_getElem? (i := 14) rfl))) (by decide) (backOf (W := 0) (rm1 l Z a0 hw [] a h0 n0 Z0 ) hZ (hw _ (List.mem_of_getElem? (i := 14) rfl)) (hw _ (List.mem_of_getElem? (i := 13) rfl)) (by decide) (by decide)) (g := (mkF m 1 #[.val (.ref a), .val (.double bx), .second, .val (.double by_), .second, .val (.double br), .second] [(.ref a)])) rfl (by rw [hml]; rfl) (Steps.refl _) (a := a) (argsL := []) (rest := []) (lenOf pd_0 rfl) rfl (by show 2 * 0 + _ ≤ _; exact Nat.le_of_eq rfl) (hb hby d3_1) (fun _ _ => ⟨rfl, e0, (by decide : 0 + 0 ≤ _), (by decide : 0 + 0 ≤ _)⟩)
  dsimp only [Pt.U, Pt.locs, Pt.cells, Pt.slots] at X_1 l_1 y_1 z_1 st_1 hQ_1
  subst l_1 y_1 z_1
  obtain ⟨rfl, N_1q, eh_1⟩ := hQ_1
  have N_1 := Fr.app N0 N_1q
  refine Go.tr st_1 ?_
  show Go p.tables e below P (T_1.setTop (mkF m 4 #[.val (.ref a), .val (.double bx), .second, .val (.double by_), .second, .val (.double br), .second] []))
  refine Go.step (fun t k => XS.aloadN X_1.here hx rfl (hb hby d3_4) rfl rfl k) ?_
  show Go p.tables e below P (T_1.setTop (mkF m 5 #[.val (.ref a), .val (.double bx), .second, .val (.double by_), .second, .val (.double br), .second] [(.ref a)]))
  refine Go.step (fun t k => XS.dloadN X_1.here hx rfl (hb hby d3_5) rfl  k) ?_
  show Go p.tables e below P (T_1.setTop (mkF m 6 #[.val (.ref a), .val (.double bx), .second, .val (.double by_), .second, .val (.double br), .second] [(.double bx), (.ref a)]))
  obtain ⟨T_2, h_2, X_2, e_2, W_2, st_2⟩ := putF X_1 hx hZ hown (host := "") (Or.inl (hw _ (List.mem_of_getElem? (i := 18) rfl))) Via.refl eh_1 F0 E_a (Or.inr ⟨(hw _ (List.mem_of_getElem? (i := 19) rfl)), rfl, hnm⟩) (hw _ (List.mem_of_getElem? (i := 5) rfl)) (ty := .double) (by decide) rfl rfl (g := (mkF m 6 #[.val (.ref a), .val (.double bx), .second, .val (.double by_), .second, .val (.double br), .second] [(.double bx), (.ref a)])) rfl rfl (hb hby d3_6)
  have Fw_2 := F0.same W_2
  have N_2 := Fr.snoc X_2 N_1 g_a
  have K_2 : Keep h0 h_2 [a] := (Keep.refl h0 [a]).wr W_2 (Or.inl (List.mem_of_getElem? (i := 0) rfl))
  have Z_2 : n0 ≤ h_2.size := Nat.le_trans Z0 (Keep.of_wr W_2).1
  refine Go.step (fun t k => st_2 t k) ?_
  show Go p.tables e below P (T_2.setTop (mkF m 9 #[.val (.ref a), .val (.double bx), .second, .val (.double by_), .second, .val (.double br), .second] []))
  refine Go.step (fun t k => XS.aloadN X_2.here hx rfl (hb hby d3_9) rfl rfl k) ?_
  show Go p.tables e below P (T_2.setTop (mkF m 10 #[.val (.ref a), .val (.double bx), .second, .val (.double by_), .second, .val (.double br), .second] [(.ref a)]))
  refine Go.step (fun t k => XS.dloadN X_2.here hx rfl (hb hby d3_10) rfl  k) ?_
  show Go p.tables e below P (T_2.setTop (mkF m 11 #[.val (.ref a), .val (.double bx), .second, .val (.double by_), .second, .val (.double br), .second] [(.double by_), (.ref a)]))
  obtain ⟨T_3, h_3, X_3, e_3, W_3, st_3⟩ := putF X_2 hx hZ hown (host := "") (Or.inl (hw _ (List.mem_of_getElem? (i := 20) rfl))) Via.refl e_2 (F1.other W_2 (Or.inr (slot_ne (Or.inr (hw _ (List.mem_of_getElem? (i := 21) rfl))) (Or.inr (hw _ (List.mem_of_getElem? (i := 19) rfl))) (by decide) (t := .double) (t' := .double) (by decide) (by decide)))) (E_a.wr W_2) (Or.inr ⟨(hw _ (List.mem_of_getElem? (i := 21) rfl)), rfl, hnm⟩) (hw _ (List.mem_of_getElem? (i := 5) rfl)) (ty := .double) (by decide) rfl rfl (g := (mkF m 11 #[.val (.ref a), .val (.double bx), .second, .val (.double by_), .second, .val (.double br), .second] [(.double by_), (.ref a)])) rfl rfl (hb hby d3_11)
  have Fw_3 := (F1.other W_2 (Or.inr (slot_ne (Or.inr (hw _ (List.mem_of_getElem? (i := 21) rfl))) (Or.inr (hw _ (List.mem_of_getElem? (i := 19) rfl))) (by decide) (t := .double) (t' := .double) (by decide) (by decide)))).same W_3
  have N_3 := Fr.snoc X_3 N_2 g_a
  have K_3 : Keep h0 h_3 [a] := K_2.wr W_3 (Or.inl (List.mem_of_getElem? (i := 0) rfl))
  have Z_3 : n0 ≤ h_3.size := Nat.le_trans Z_2 (Keep.of_wr W_3).1
  refine Go.step (fun t k => st_3 t k) ?_
  show Go p.tables e below P (T_3.setTop (mkF m 14 #[.val (.ref a), .val (.double bx), .second, .val (.double by_), .second, .val (.double br), .second] []))
  refine Go.step (fun t k => XS.aloadN X_3.here hx rfl (hb hby d3_14) rfl rfl k) ?_
  show Go p.tables e below P (T_3.setTop (mkF m 15 #[.val (.ref a), .val (.double bx), .second, .val (.double by_), .second, .val (.double br), .second] [(.ref a)]))
  refine Go.step (fun t k => XS.dload X_3.here hx rfl (hb hby d3_15) rfl  k) ?_
  show Go p.tables e below P (T_3.setTop (mkF m 17 #[.val (.ref a), .val (.double bx), .second, .val (.double by_), .second, .val (.double br), .second] [(.double br), (.ref a)]))
  obtain ⟨T_4, h_4, X_4, e_4, W_4, st_4⟩ := putF X_3 hx hZ hown (host := "") (Or.inl (hw _ (List.mem_of_getElem? (i := 22) rfl))) Via.refl e_3 ((F2.other W_2 (Or.inr (slot_ne (Or.inr (hw _ (List.mem_of_getElem? (i := 23) rfl))) (Or.inr (hw _ (List.mem_of_getElem? (i := 19) rfl))) (by decide) (t := .double) (t' := .double) (by decide) (by decide)))).other W_3 (Or.inr (slot_ne (Or.inr (hw _ (List.mem_of_getElem? (i := 23) rfl))) (Or.inr (hw _ (List.mem_of_getElem? (i := 21) rfl))) (by decide) (t := .double) (t' := .double) (by decide) (by decide)))) ((E_a.wr W_2).wr W_3) (Or.inr ⟨(hw _ (List.mem_of_getElem? (i := 23) rfl)), rfl, hnm⟩) (hw _ (List.mem_of_getElem? (i := 5) rfl)) (ty := .double) (by decide) rfl rfl (g := (mkF m 17 #[.val (.ref a), .val (.double bx), .second, .val (.double by_), .second, .val (.double br), .second] [(.double br), (.ref a)])) rfl rfl (hb hby d3_17)
  have Fw_4 := ((F2.other W_2 (Or.inr (slot_ne (Or.inr (hw _ (List.mem_of_getElem? (i := 23) rfl))) (Or.inr (hw _ (List.mem_of_getElem? (i := 19) rfl))) (by decide) (t := .double) (t' := .double) (by decide) (by decide)))).other W_3 (Or.inr (slot_ne (Or.inr (hw _ (List.mem_of_getElem? (i := 23) rfl))) (Or.inr (hw _ (List.mem_of_getElem? (i := 21) rfl))) (by decide) (t := .double) (t' := .double) (by decide) (by decide)))).same W_4
  have N_4 := Fr.snoc X_4 N_3 g_a
  have K_4 : Keep h0 h_4 [a] := K_3.wr W_4 (Or.inl (List.mem_of_getElem? (i := 0) rfl))
  have Z_4 : n0 ≤ h_4.size := Nat.le_trans Z_3 (Keep.of_wr W_4).1
  refine Go.step (fun t k => st_4 t k) ?_
  show Go p.tables e below P (T_4.setTop (mkF m 20 #[.val (.ref a), .val (.double bx), .second, .val (.double by_), .second, .val (.double br), .second] []))
  exact voidGo X_4 hx hP Bd.returns hlk (hb hby d3_20) (by decide) (by decide) (by rw [e_4]; exact ⟨rfl, N_4, K_4, (((E_a.wr W_2).wr W_3).wr W_4), ((Fw_2.other W_3 (Or.inr (slot_ne (Or.inr (hw _ (List.mem_of_getElem? (i := 19) rfl))) (Or.inr (hw _ (List.mem_of_getElem? (i := 21) rfl))) (by decide) (t := .double) (t' := .double) (by decide) (by decide)))).other W_4 (Or.inr (slot_ne (Or.inr (hw _ (List.mem_of_getElem? (i := 19) rfl))) (Or.inr (hw _ (List.mem_of_getElem? (i := 23) rfl))) (by decide) (t := .double) (t' := .double) (by decide) (by decide)))), (Fw_3.other W_4 (Or.inr (slot_ne (Or.inr (hw _ (List.mem_of_getElem? (i := 21) rfl))) (Or.inr (hw _ (List.mem_of_getElem? (i := 23) rfl))) (by decide) (t := .double) (t' := .double) (by decide) (by decide)))), Fw_4⟩)
theorem d4_0 : decode prog_10_method_3_code 0 = .ok (.dload_n 1, 1) := by decide +kernel
theorem d4_1 : decode prog_10_method_3_code 1 = .ok (.aload_n 0, 1) := by decide +kernel
theorem d4_2 : decode prog_10_method_3_code 2 = .ok (.getfield 7, 3) := by decide +kernel
theorem d4_5 : decode prog_10_method_3_code 5 = .ok (.dsub, 1) := by decide +kernel
theorem d4_6 : decode prog_10_method_3_code 6 = .ok (.dstore 9, 2) := by decide +kernel
theorem d4_8 : decode prog_10_method_3_code 8 = .ok (.dload_n 3, 1) := by decide +kernel
theorem d4_9 : decode prog_10_method_3_code 9 = .ok (.aload_n 0, 1) := by decide +kernel
theorem d4_10 : decode prog_10_method_3_code 10 = .ok (.getfield 13, 3) := by decide +kernel
theorem d4_13 : decode prog_10_method_3_code 13 = .ok (.dsub, 1) := by decide +kernel
theorem d4_14 : decode prog_10_method_3_code 14 = .ok (.dstore 11, 2) := by decide +kernel
theorem d4_16 : decode prog_10_method_3_code 16 = .ok (.dload 5, 2) := by decide +kernel
theorem d4_18 : decode prog_10_method_3_code 18 = .ok (.aload_n 0, 1) := by decide +kernel
theorem d4_19 : decode prog_10_method_3_code 19 = .ok (.getfield 7, 3) := by decide +kernel
theorem d4_22 : decode prog_10_method_3_code 22 = .ok (.dsub, 1) := by decide +kernel
theorem d4_23 : decode prog_10_method_3_code 23 = .ok (.dstore 13, 2) := by decide +kernel
theorem d4_25 : decode prog_10_method_3_code 25 = .ok (.dload 7, 2) := by decide +kernel
theorem d4_27 : decode prog_10_method_3_code 27 = .ok (.aload_n 0, 1) := by decide +kernel
theorem d4_28 : decode prog_10_method_3_code 28 = .ok (.getfield 13, 3) := by decide +kernel
theorem d4_31 : decode prog_10_method_3_code 31 = .ok (.dsub, 1) := by decide +kernel
theorem d4_32 : decode prog_10_method_3_code 32 = .ok (.dstore 15, 2) := by decide +kernel
theorem d4_34 : decode prog_10_method_3_code 34 = .ok (.dload 13, 2) := by decide +kernel
theorem d4_36 : decode prog_10_method_3_code 36 = .ok (.dload 9, 2) := by decide +kernel
theorem d4_38 : decode prog_10_method_3_code 38 = .ok (.dsub, 1) := by decide +kernel
theorem d4_39 : decode prog_10_method_3_code 39 = .ok (.dstore 17, 2) := by decide +kernel
theorem d4_41 : decode prog_10_method_3_code 41 = .ok (.dload 15, 2) := by decide +kernel
theorem d4_43 : decode prog_10_method_3_code 43 = .ok (.dload 11, 2) := by decide +kernel
theorem d4_45 : decode prog_10_method_3_code 45 = .ok (.dsub, 1) := by decide +kernel
theorem d4_46 : decode prog_10_method_3_code 46 = .ok (.dstore 19, 2) := by decide +kernel
theorem d4_48 : decode prog_10_method_3_code 48 = .ok (.dload 17, 2) := by decide +kernel
theorem d4_50 : decode prog_10_method_3_code 50 = .ok (.dload 17, 2) := by decide +kernel
theorem d4_52 : decode prog_10_method_3_code 52 = .ok (.dmul, 1) := by decide +kernel
theorem d4_53 : decode prog_10_method_3_code 53 = .ok (.dload 19, 2) := by decide +kernel
theorem d4_55 : decode prog_10_method_3_code 55 = .ok (.dload 19, 2) := by decide +kernel
theorem d4_57 : decode prog_10_method_3_code 57 = .ok (.dmul, 1) := by decide +kernel
theorem d4_58 : decode prog_10_method_3_code 58 = .ok (.dadd, 1) := by decide +kernel
theorem d4_59 : decode prog_10_method_3_code 59 = .ok (.dstore 21, 2) := by decide +kernel
theorem d4_61 : decode prog_10_method_3_code 61 = .ok (.dload 9, 2) := by decide +kernel
theorem d4_63 : decode prog_10_method_3_code 63 = .ok (.dload 17, 2) := by decide +kernel
theorem d4_65 : decode prog_10_method_3_code 65 = .ok (.dmul, 1) := by decide +kernel
theorem d4_66 : decode prog_10_method_3_code 66 = .ok (.dload 11, 2) := by decide +kernel
theorem d4_68 : decode prog_10_method_3_code 68 = .ok (.dload 19, 2) := by decide +kernel
theorem d4_70 : decode prog_10_method_3_code 70 = .ok (.dmul, 1) := by decide +kernel
theorem d4_71 : decode prog_10_method_3_code 71 = .ok (.dadd, 1) := by decide +kernel
theorem d4_72 : decode prog_10_method_3_code 72 = .ok (.dneg, 1) := by decide +kernel
theorem d4_73 : decode prog_10_method_3_code 73 = .ok (.dstore 23, 2) := by decide +kernel
theorem d4_75 : decode prog_10_method_3_code 75 = .ok (.dload 23, 2) := by decide +kernel
theorem d4_77 : decode prog_10_method_3_code 77 = .ok (.dconst 0, 1) := by decide +kernel
theorem d4_78 : decode prog_10_method_3_code 78 = .ok (.dcmp .g, 1) := by decide +kernel
theorem d4_79 : decode prog_10_method_3_code 79 = .ok (.ifCond .gt 19, 3) := by decide +kernel
theorem d4_82 : decode prog_10_method_3_code 82 = .ok (.dload 9, 2) := by decide +kernel
theorem d4_84 : decode prog_10_method_3_code 84 = .ok (.dload 9, 2) := by decide +kernel
theorem d4_86 : decode prog_10_method_3_code 86 = .ok (.dmul, 1) := by decide +kernel
theorem d4_87 : decode prog_10_method_3_code 87 = .ok (.dload 11, 2) := by decide +kernel
theorem d4_89 : decode prog_10_method_3_code 89 = .ok (.dload 11, 2) := by decide +kernel
theorem d4_91 : decode prog_10_method_3_code 91 = .ok (.dmul, 1) := by decide +kernel
theorem d4_92 : decode prog_10_method_3_code 92 = .ok (.dadd, 1) := by decide +kernel
theorem d4_93 : decode prog_10_method_3_code 93 = .ok (.dstore 25, 2) := by decide +kernel
theorem d4_95 : decode prog_10_method_3_code 95 = .ok (.goto 50, 3) := by decide +kernel
theorem d4_98 : decode prog_10_method_3_code 98 = .ok (.dload 23, 2) := by decide +kernel
theorem d4_100 : decode prog_10_method_3_code 100 = .ok (.dload 21, 2) := by decide +kernel
theorem d4_102 : decode prog_10_method_3_code 102 = .ok (.dcmp .l, 1) := by decide +kernel
theorem d4_103 : decode prog_10_method_3_code 103 = .ok (.ifCond .lt 19, 3) := by decide +kernel
theorem d4_106 : decode prog_10_method_3_code 106 = .ok (.dload 13, 2) := by decide +kernel
theorem d4_108 : decode prog_10_method_3_code 108 = .ok (.dload 13, 2) := by decide +kernel
theorem d4_110 : decode prog_10_method_3_code 110 = .ok (.dmul, 1) := by decide +kernel
theorem d4_111 : decode prog_10_method_3_code 111 = .ok (.dload 15, 2) := by decide +kernel
theorem d4_113 : decode prog_10_method_3_code 113 = .ok (.dload 15, 2) := by decide +kernel
theorem d4_115 : decode prog_10_method_3_code 115 = .ok (.dmul, 1) := by decide +kernel
theorem d4_116 : decode prog_10_method_3_code 116 = .ok (.dadd, 1) := by decide +kernel
theorem d4_117 : decode prog_10_method_3_code 117 = .ok (.dstore 25, 2) := by decide +kernel
theorem d4_119 : decode prog_10_method_3_code 119 = .ok (.goto 26, 3) := by decide +kernel
theorem d4_122 : decode prog_10_method_3_code 122 = .ok (.dload 9, 2) := by decide +kernel
theorem d4_124 : decode prog_10_method_3_code 124 = .ok (.dload 15, 2) := by decide +kernel
theorem d4_126 : decode prog_10_method_3_code 126 = .ok (.dmul, 1) := by decide +kernel
theorem d4_127 : decode prog_10_method_3_code 127 = .ok (.dload 11, 2) := by decide +kernel
theorem d4_129 : decode prog_10_method_3_code 129 = .ok (.dload 13, 2) := by decide +kernel
theorem d4_131 : decode prog_10_method_3_code 131 = .ok (.dmul, 1) := by decide +kernel
theorem d4_132 : decode prog_10_method_3_code 132 = .ok (.dsub, 1) := by decide +kernel
theorem d4_133 : decode prog_10_method_3_code 133 = .ok (.dstore 27, 2) := by decide +kernel
theorem d4_135 : decode prog_10_method_3_code 135 = .ok (.dload 27, 2) := by decide +kernel
theorem d4_137 : decode prog_10_method_3_code 137 = .ok (.dload 27, 2) := by decide +kernel
theorem d4_139 : decode prog_10_method_3_code 139 = .ok (.dmul, 1) := by decide +kernel
theorem d4_140 : decode prog_10_method_3_code 140 = .ok (.dload 21, 2) := by decide +kernel
theorem d4_142 : decode prog_10_method_3_code 142 = .ok (.ddiv, 1) := by decide +kernel
theorem d4_143 : decode prog_10_method_3_code 143 = .ok (.dstore 25, 2) := by decide +kernel
theorem d4_145 : decode prog_10_method_3_code 145 = .ok (.dload 25, 2) := by decide +kernel
theorem d4_147 : decode prog_10_method_3_code 147 = .ok (.dreturn, 1) := by decide +kernel
theorem pn_4 : plainName "com/example/geofence/geofence/geometry/Circle" = true := by first | (simp [plainName, overriddenIn]; done) | decide +kernel
theorem ef_4 (m : MethodId) (x0 : Addr) (x1 : UInt64) (x2 : UInt64) (x3 : UInt64) (x4 : UInt64) : entryFrame m #[(.ref x0), (.double x1), (.double x2), (.double x3), (.double x4)] 29 = mkF m 0 #[.val (.ref x0), .val (.double x1), .second, .val (.double x2), .second, .val (.double x3), .second, .val (.double x4), .second, .unset, .unset, .unset, .unset, .unset, .unset, .unset, .unset, .unset, .unset, .unset, .unset, .unset, .unset, .unset, .unset, .unset, .unset, .unset, .unset] [] := by first | (simp [entryFrame, mkF, argsToLocals, Value.category]; done) | rfl
def Q4 (Z : State) (a : Addr) (ad1 : UInt64) (ad2 : UInt64) (bd1 : UInt64) (bd2 : UInt64) (xd : UInt64) (yd : UInt64) (ks : Nat) (k2 : Nat) (k4 : Nat) (cx : Int) (cy : Int) (ax : Int) (ay : Int) (bx_ : Int) (by2 : Int) (ux : Int) (uy : Int) (vx : Int) (vy : Int) (dx : Int) (dy : Int) (h0 : Heap) (n0 : Nat) (v : Option Value) (h : Heap) (L : List Loc) : Prop := ∃ r : UInt64, v = some (.double r) ∧ ((0 ≤ (ux * dx + uy * dy) ∧ DE k2 (ux * ux + uy * uy) r) ∨ ((ux * dx + uy * dy) < 0 ∧ (dx * dx + dy * dy) ≤ -(ux * dx + uy * dy) ∧ DE k2 (vx * vx + vy * vy) r) ∨ ((ux * dx + uy * dy) < 0 ∧ -(ux * dx + uy * dy) < (dx * dx + dy * dy) ∧ ∃ y z, r = FP.ddiv y z ∧ DE k4 ((ux * vy - uy * vx) * (ux * vy - uy * vx)) y ∧ DE k2 (dx * dx + dy * dy) z)) ∧ Fr n0 L ∧ h = h0
set_option maxRecDepth 65536 in
set_option maxHeartbeats 40000000 in
theorem rm4 (l : Launch) (Z : State) (a0 : Array Value) (hw : ∀ d ∈ tables_1, d.before a0 Z = true) (ws : List Jvm.Cond) (a : Addr) (ad1 : UInt64) (ad2 : UInt64) (bd1 : UInt64) (bd2 : UInt64) (xd : UInt64) (yd : UInt64) (ks : Nat) (k2 : Nat) (k4 : Nat) (cx : Int) (cy : Int) (ax : Int) (ay : Int) (bx_ : Int) (by2 : Int) (ux : Int) (uy : Int) (vx : Int) (vy : Int) (dx : Int) (dy : Int) (h0 : Heap) (n0 : Nat) (Z0 : n0 ≤ h0.size) (F0 : Fld Z h0 a "com/example/geofence/geofence/geometry/Circle" "x" "D" (.double xd)) (F1 : Fld Z h0 a "com/example/geofence/geofence/geometry/Circle" "y" "D" (.double yd)) (qx : DE ks cx xd) (qy : DE ks cy yd) (qad1 : DE ks ax ad1) (qad2 : DE ks ay ad2) (qbd1 : DE ks bx_ bd1) (qbd2 : DE ks by2 bd2) (hux : ax - cx = ux) (huy : ay - cy = uy) (hvx : bx_ - cx = vx) (hvy : by2 - cy = vy) (hdx : vx - ux = dx) (hdy : vy - uy = dy) (bux : -((4096 : Nat) : Int) ≤ ux ∧ ux ≤ (4096 : Nat)) (buy : -((4096 : Nat) : Int) ≤ uy ∧ uy ≤ (4096 : Nat)) (bvx : -((4096 : Nat) : Int) ≤ vx ∧ vx ≤ (4096 : Nat)) (bvy : -((4096 : Nat) : Int) ≤ vy ∧ vy ≤ (4096 : Nat)) (h2 : ks + ks = k2 + 1074) (h4 : k2 + k2 = k4 + 1074) (bks : ks ≤ 1300) :
    MetFree l (⟨"com/example/geofence/geofence/geometry/Circle", "squaredDistance", "(DDDD)D"⟩ : MethodName) (head1 (Jvm.Cond.code (⟨"com/example/geofence/geofence/geometry/Circle", "squaredDistance", "(DDDD)D"⟩ : MethodName) prog_10_method_3_code 29 (some .double) :: ws) ({ frames := 0, cells := 0, slots := 0, locals := 0 } : Room)) (fun a_ U => a_ = #[(.ref a), (.double ad1), (.double ad2), (.double bd1), (.double bd2)] ∧ Z.Warmed39 U.vm ∧ U.heap = h0) (fun _ _ _ _ _ => True) (fun _ U o U' => ∃ v L, o = .returned v ∧ Q4 Z a ad1 ad2 bd1 bd2 xd yd ks k2 k4 cx cy ax ay bx_ by2 ux uy vx vy dx dy h0 n0 v U'.heap L ∧ FrameEnd U o U' L (({ frames := 0, cells := 0, slots := 0, locals := 0 } : Room)).cells (({ frames := 0, cells := 0, slots := 0, locals := 0 } : Room)).slots) := by
  refine MetFree.of_bodySF (plainFor_of_name pn_4) hisR ?_
  intro p e s m args below meth c s₁ Bd hml0 hP0 hK
  obtain ⟨rfl, hZ, hh⟩ := hP0
  have hx := Bd.exec
  have hby := Bd.bytes
  have hml : c.maxLocals = 29 := hml0
  have hown : s.vm.findClass "com/example/geofence/geofence/geometry/Circle" = some m.cls := findClass_of_methodNamed Bd.named
  have hnm := (name_of_methodNamed Bd.named Bd.method).1
  have X0 : Stand p l e ({ frames := 0, cells := 0, slots := 0, locals := 0 } : Room) s m #[(.ref a), (.double ad1), (.double ad2), (.double bd1), (.double bd2)] below meth c s₁ [] 0 0 := Stand.of_body Bd
  have e0 : s₁.heap = h0 := by rw [← hh, Bd.state]; rfl
  have N0 := Fr.nil n0
  have hlk : meth.locks = false := BodyLoose.notSynchronized Bd
  refine Go.start (P₀ := fun s₂ o => ∃ v L, o = .returned v ∧ Q4 Z a ad1 ad2 bd1 bd2 xd yd ks k2 k4 cx cy ax ay bx_ by2 ux uy vx vy dx dy h0 n0 v s₂.heap L ∧ FrameEnd s o s₂ L (({ frames := 0, cells := 0, slots := 0, locals := 0 } : Room)).cells (({ frames := 0, cells := 0, slots := 0, locals := 0 } : Room)).slots) (congrArg s₁.setTop (ef_4 m a ad1 ad2 bd1 bd2)) ?_
  intro P hP
  show Go p.tables e below P (s₁.setTop (mkF m 0 #[.val (.ref a), .val (.double ad1), .second, .val (.double ad2), .second, .val (.double bd1), .second, .val (.double bd2), .second, .unset, .unset, .unset, .unset, .unset, .unset, .unset, .unset, .unset, .unset, .unset, .unset, .unset, .unset, .unset, .unset, .unset, .unset, .unset, .unset] []))
  have bdx : -((8192 : Nat) : Int) ≤ dx ∧ dx ≤ (8192 : Nat) := by omega
  have bdy : -((8192 : Nat) : Int) ≤ dy ∧ dy ≤ (8192 : Nat) := by omega
  have mux := bmul bux bux
  have muy := bmul buy buy
  have mvx := bmul bvx bvx
  have mvy := bmul bvy bvy
  have mdx := bmul bdx bdx
  have mdy := bmul bdy bdy
  have mud := bmul bux bdx
  have mvd := bmul buy bdy
  have muv := bmul bux bvy
  have mvu := bmul buy bvx
  refine Go.step (fun t k => XS.dloadN X0.here hx rfl (hb hby d4_0) rfl  k) ?_
  show Go p.tables e below P (s₁.setTop (mkF m 1 #[.val (.ref a), .val (.double ad1), .second, .val (.double ad2), .second, .val (.double bd1), .second, .val (.double bd2), .second, .unset, .unset, .unset, .unset, .unset, .unset, .unset, .unset, .unset, .unset, .unset, .unset, .unset, .unset, .unset, .unset, .unset, .unset, .unset, .unset] [(.double ad1)]))
  refine Go.step (fun t k => XS.aloadN X0.here hx rfl (hb hby d4_1) rfl rfl k) ?_
  show Go p.tables e below P (s₁.setTop (mkF m 2 #[.val (.ref a), .val (.double ad1), .second, .val (.double ad2), .second, .val (.double bd1), .second, .val (.double bd2), .second, .unset, .unset, .unset, .unset, .unset, .unset, .unset, .unset, .unset, .unset, .unset, .unset, .unset, .unset, .unset, .unset, .unset, .unset, .unset, .unset] [(.ref a), (.double ad1)]))
  obtain ⟨T_1, X_1, e_1, st_1⟩ := getF X0 hx hZ hown (host := "") (Or.inl (hw _ (List.mem_of_getElem? (i := 18) rfl))) Via.refl e0 F0 (g := (mkF m 2 #[.val (.ref a), .val (.double ad1), .second, .val (.double ad2), .second, .val (.double bd1), .second, .val (.double bd2), .second, .unset, .unset, .unset, .unset, .unset, .unset, .unset, .unset, .unset, .unset, .unset, .unset, .unset, .unset, .unset, .unset, .unset, .unset, .unset, .unset] [(.ref a), (.double ad1)])) rfl rfl (hb hby d4_2)
  refine Go.step (fun t k => st_1 t k) ?_
  show Go p.tables e below P (T_1.setTop (mkF m 5 #[.val (.ref a), .val (.double ad1), .second, .val (.double ad2), .second, .val (.double bd1), .second, .val (.double bd2), .second, .unset, .unset, .unset, .unset, .unset, .unset, .unset, .unset, .unset, .unset, .unset, .unset, .unset, .unset, .unset, .unset, .unset, .unset, .unset, .unset] [(.double xd), (.double ad1)]))
  obtain ⟨d5, hd5⟩ : ∃ z : UInt64, FP.dsub ad1 xd = z := ⟨_, rfl⟩
  have qux := sub_e (k := ks) qad1 qx hux (by omega) (by omega)
  rw [hd5] at qux
  refine Go.step (fun t k => XS.dsubS X_1.here hx rfl (hb hby d4_5) rfl (hd5 ▸ qux.nn) hd5 k) ?_
  show Go p.tables e below P (T_1.setTop (mkF m 6 #[.val (.ref a), .val (.double ad1), .second, .val (.double ad2), .second, .val (.double bd1), .second, .val (.double bd2), .second, .unset, .unset, .unset, .unset, .unset, .unset, .unset, .unset, .unset, .unset, .unset, .unset, .unset, .unset, .unset, .unset, .unset, .unset, .unset, .unset] [(.double d5)]))
  refine Go.step (fun t k => XS.dstore X_1.here hx rfl (hb hby d4_6) rfl (l' := #[.val (.ref a), .val (.double ad1), .second, .val (.double ad2), .second, .val (.double bd1), .second, .val (.double bd2), .second, .val (.double d5), .second, .unset, .unset, .unset, .unset, .unset, .unset, .unset, .unset, .unset, .unset, .unset, .unset, .unset, .unset, .unset, .unset, .unset, .unset]) rfl k) ?_
  show Go p.tables e below P (T_1.setTop (mkF m 8 #[.val (.ref a), .val (.double ad1), .second, .val (.double ad2), .second, .val (.double bd1), .second, .val (.double bd2), .second, .val (.double d5), .second, .unset, .unset, .unset, .unset, .unset, .unset, .unset, .unset, .unset, .unset, .unset, .unset, .unset, .unset, .unset, .unset, .unset, .unset] []))
  refine Go.step (fun t k => XS.dloadN X_1.here hx rfl (hb hby d4_8) rfl  k) ?_
  show Go p.tables e below P (T_1.setTop (mkF m 9 #[.val (.ref a), .val (.double ad1), .second, .val (.double ad2), .second, .val (.double bd1), .second, .val (.double bd2), .second, .val (.double d5), .second, .unset, .unset, .unset, .unset, .unset, .unset, .unset, .unset, .unset, .unset, .unset, .unset, .unset, .unset, .unset, .unset, .unset, .unset] [(.double ad2)]))
  refine Go.step (fun t k => XS.aloadN X_1.here hx rfl (hb hby d4_9) rfl rfl k) ?_
  show Go p.tables e below P (T_1.setTop (mkF m 10 #[.val (.ref a), .val (.double ad1), .second, .val (.double ad2), .second, .val (.double bd1), .second, .val (.double bd2), .second, .val (.double d5), .second, .unset, .unset, .unset, .unset, .unset, .unset, .unset, .unset, .unset, .unset, .unset, .unset, .unset, .unset, .unset, .unset, .unset, .unset] [(.ref a), (.double ad2)]))
  obtain ⟨T_2, X_2, e_2, st_2⟩ := getF X_1 hx hZ hown (host := "") (Or.inl (hw _ (List.mem_of_getElem? (i := 20) rfl))) Via.refl e_1 F1 (g := (mkF m 10 #[.val (.ref a), .val (.double ad1), .second, .val (.double ad2), .second, .val (.double bd1), .second, .val (.double bd2), .second, .val (.double d5), .second, .unset, .unset, .unset, .unset, .unset, .unset, .unset, .unset, .unset, .unset, .unset, .unset, .unset, .unset, .unset, .unset, .unset, .unset] [(.ref a), (.double ad2)])) rfl rfl (hb hby d4_10)
  refine Go.step (fun t k => st_2 t k) ?_
  show Go p.tables e below P (T_2.setTop (mkF m 13 #[.val (.ref a), .val (.double ad1), .second, .val (.double ad2), .second, .val (.double bd1), .second, .val (.double bd2), .second, .val (.double d5), .second, .unset, .unset, .unset, .unset, .unset, .unset, .unset, .unset, .unset, .unset, .unset, .unset, .unset, .unset, .unset, .unset, .unset, .unset] [(.double yd), (.double ad2)]))
  obtain ⟨d13, hd13⟩ : ∃ z : UInt64, FP.dsub ad2 yd = z := ⟨_, rfl⟩
  have quy := sub_e (k := ks) qad2 qy huy (by omega) (by omega)
  rw [hd13] at quy
  refine Go.step (fun t k => XS.dsubS X_2.here hx rfl (hb hby d4_13) rfl (hd13 ▸ quy.nn) hd13 k) ?_
  show Go p.tables e below P (T_2.setTop (mkF m 14 #[.val (.ref a), .val (.double ad1), .second, .val (.double ad2), .second, .val (.double bd1), .second, .val (.double bd2), .second, .val (.double d5), .second, .unset, .unset, .unset, .unset, .unset, .unset, .unset, .unset, .unset, .unset, .unset, .unset, .unset, .unset, .unset, .unset, .unset, .unset] [(.double d13)]))
  refine Go.step (fun t k => XS.dstore X_2.here hx rfl (hb hby d4_14) rfl (l' := #[.val (.ref a), .val (.double ad1), .second, .val (.double ad2), .second, .val (.double bd1), .second, .val (.double bd2), .second, .val (.double d5), .second, .val (.double d13), .second, .unset, .unset, .unset, .unset, .unset, .unset, .unset, .unset, .unset, .unset, .unset, .unset, .unset, .unset, .unset, .unset]) rfl k) ?_
  show Go p.tables e below P (T_2.setTop (mkF m 16 #[.val (.ref a), .val (.double ad1), .second, .val (.double ad2), .second, .val (.double bd1), .second, .val (.double bd2), .second, .val (.double d5), .second, .val (.double d13), .second, .unset, .unset, .unset, .unset, .unset, .unset, .unset, .unset, .unset, .unset, .unset, .unset, .unset, .unset, .unset, .unset] []))
  refine Go.step (fun t k => XS.dload X_2.here hx rfl (hb hby d4_16) rfl  k) ?_
  show Go p.tables e below P (T_2.setTop (mkF m 18 #[.val (.ref a), .val (.double ad1), .second, .val (.double ad2), .second, .val (.double bd1), .second, .val (.double bd2), .second, .val (.double d5), .second, .val (.double d13), .second, .unset, .unset, .unset, .unset, .unset, .unset, .unset, .unset, .unset, .unset, .unset, .unset, .unset, .unset, .unset, .unset] [(.double bd1)]))
  refine Go.step (fun t k => XS.aloadN X_2.here hx rfl (hb hby d4_18) rfl rfl k) ?_
  show Go p.tables e below P (T_2.setTop (mkF m 19 #[.val (.ref a), .val (.double ad1), .second, .val (.double ad2), .second, .val (.double bd1), .second, .val (.double bd2), .second, .val (.double d5), .second, .val (.double d13), .second, .unset, .unset, .unset, .unset, .unset, .unset, .unset, .unset, .unset, .unset, .unset, .unset, .unset, .unset, .unset, .unset] [(.ref a), (.double bd1)]))
  obtain ⟨T_3, X_3, e_3, st_3⟩ := getF X_2 hx hZ hown (host := "") (Or.inl (hw _ (List.mem_of_getElem? (i := 18) rfl))) Via.refl e_2 F0 (g := (mkF m 19 #[.val (.ref a), .val (.double ad1), .second, .val (.double ad2), .second, .val (.double bd1), .second, .val (.double bd2), .second, .val (.double d5), .second, .val (.double d13), .second, .unset, .unset, .unset, .unset, .unset, .unset, .unset, .unset, .unset, .unset, .unset, .unset, .unset, .unset, .unset, .unset] [(.ref a), (.double bd1)])) rfl rfl (hb hby d4_19)
  refine Go.step (fun t k => st_3 t k) ?_
  show Go p.tables e below P (T_3.setTop (mkF m 22 #[.val (.ref a), .val (.double ad1), .second, .val (.double ad2), .second, .val (.double bd1), .second, .val (.double bd2), .second, .val (.double d5), .second, .val (.double d13), .second, .unset, .unset, .unset, .unset, .unset, .unset, .unset, .unset, .unset, .unset, .unset, .unset, .unset, .unset, .unset, .unset] [(.double xd), (.double bd1)]))
  obtain ⟨d22, hd22⟩ : ∃ z : UInt64, FP.dsub bd1 xd = z := ⟨_, rfl⟩
  have qvx := sub_e (k := ks) qbd1 qx hvx (by omega) (by omega)
  rw [hd22] at qvx
  refine Go.step (fun t k => XS.dsubS X_3.here hx rfl (hb hby d4_22) rfl (hd22 ▸ qvx.nn) hd22 k) ?_
  show Go p.tables e below P (T_3.setTop (mkF m 23 #[.val (.ref a), .val (.double ad1), .second, .val (.double ad2), .second, .val (.double bd1), .second, .val (.double bd2), .second, .val (.double d5), .second, .val (.double d13), .second, .unset, .unset, .unset, .unset, .unset, .unset, .unset, .unset, .unset, .unset, .unset, .unset, .unset, .unset, .unset, .unset] [(.double d22)]))
  refine Go.step (fun t k => XS.dstore X_3.here hx rfl (hb hby d4_23) rfl (l' := #[.val (.ref a), .val (.double ad1), .second, .val (.double ad2), .second, .val (.double bd1), .second, .val (.double bd2), .second, .val (.double d5), .second, .val (.double d13), .second, .val (.double d22), .second, .unset, .unset, .unset, .unset, .unset, .unset, .unset, .unset, .unset, .unset, .unset, .unset, .unset, .unset]) rfl k) ?_
  show Go p.tables e below P (T_3.setTop (mkF m 25 #[.val (.ref a), .val (.double ad1), .second, .val (.double ad2), .second, .val (.double bd1), .second, .val (.double bd2), .second, .val (.double d5), .second, .val (.double d13), .second, .val (.double d22), .second, .unset, .unset, .unset, .unset, .unset, .unset, .unset, .unset, .unset, .unset, .unset, .unset, .unset, .unset] []))
  refine Go.step (fun t k => XS.dload X_3.here hx rfl (hb hby d4_25) rfl  k) ?_
  show Go p.tables e below P (T_3.setTop (mkF m 27 #[.val (.ref a), .val (.double ad1), .second, .val (.double ad2), .second, .val (.double bd1), .second, .val (.double bd2), .second, .val (.double d5), .second, .val (.double d13), .second, .val (.double d22), .second, .unset, .unset, .unset, .unset, .unset, .unset, .unset, .unset, .unset, .unset, .unset, .unset, .unset, .unset] [(.double bd2)]))
  refine Go.step (fun t k => XS.aloadN X_3.here hx rfl (hb hby d4_27) rfl rfl k) ?_
  show Go p.tables e below P (T_3.setTop (mkF m 28 #[.val (.ref a), .val (.double ad1), .second, .val (.double ad2), .second, .val (.double bd1), .second, .val (.double bd2), .second, .val (.double d5), .second, .val (.double d13), .second, .val (.double d22), .second, .unset, .unset, .unset, .unset, .unset, .unset, .unset, .unset, .unset, .unset, .unset, .unset, .unset, .unset] [(.ref a), (.double bd2)]))
  obtain ⟨T_4, X_4, e_4, st_4⟩ := getF X_3 hx hZ hown (host := "") (Or.inl (hw _ (List.mem_of_getElem? (i := 20) rfl))) Via.refl e_3 F1 (g := (mkF m 28 #[.val (.ref a), .val (.double ad1), .second, .val (.double ad2), .second, .val (.double bd1), .second, .val (.double bd2), .second, .val (.double d5), .second, .val (.double d13), .second, .val (.double d22), .second, .unset, .unset, .unset, .unset, .unset, .unset, .unset, .unset, .unset, .unset, .unset, .unset, .unset, .unset] [(.ref a), (.double bd2)])) rfl rfl (hb hby d4_28)
  refine Go.step (fun t k => st_4 t k) ?_
  show Go p.tables e below P (T_4.setTop (mkF m 31 #[.val (.ref a), .val (.double ad1), .second, .val (.double ad2), .second, .val (.double bd1), .second, .val (.double bd2), .second, .val (.double d5), .second, .val (.double d13), .second, .val (.double d22), .second, .unset, .unset, .unset, .unset, .unset, .unset, .unset, .unset, .unset, .unset, .unset, .unset, .unset, .unset] [(.double yd), (.double bd2)]))
  obtain ⟨d31, hd31⟩ : ∃ z : UInt64, FP.dsub bd2 yd = z := ⟨_, rfl⟩
  have qvy := sub_e (k := ks) qbd2 qy hvy (by omega) (by omega)
  rw [hd31] at qvy
  refine Go.step (fun t k => XS.dsubS X_4.here hx rfl (hb hby d4_31) rfl (hd31 ▸ qvy.nn) hd31 k) ?_
  show Go p.tables e below P (T_4.setTop (mkF m 32 #[.val (.ref a), .val (.double ad1), .second, .val (.double ad2), .second, .val (.double bd1), .second, .val (.double bd2), .second, .val (.double d5), .second, .val (.double d13), .second, .val (.double d22), .second, .unset, .unset, .unset, .unset, .unset, .unset, .unset, .unset, .unset, .unset, .unset, .unset, .unset, .unset] [(.double d31)]))
  refine Go.step (fun t k => XS.dstore X_4.here hx rfl (hb hby d4_32) rfl (l' := #[.val (.ref a), .val (.double ad1), .second, .val (.double ad2), .second, .val (.double bd1), .second, .val (.double bd2), .second, .val (.double d5), .second, .val (.double d13), .second, .val (.double d22), .second, .val (.double d31), .second, .unset, .unset, .unset, .unset, .unset, .unset, .unset, .unset, .unset, .unset, .unset, .unset]) rfl k) ?_
  show Go p.tables e below P (T_4.setTop (mkF m 34 #[.val (.ref a), .val (.double ad1), .second, .val (.double ad2), .second, .val (.double bd1), .second, .val (.double bd2), .second, .val (.double d5), .second, .val (.double d13), .second, .val (.double d22), .second, .val (.double d31), .second, .unset, .unset, .unset, .unset, .unset, .unset, .unset, .unset, .unset, .unset, .unset, .unset] []))
  refine Go.step (fun t k => XS.dload X_4.here hx rfl (hb hby d4_34) rfl  k) ?_
  show Go p.tables e below P (T_4.setTop (mkF m 36 #[.val (.ref a), .val (.double ad1), .second, .val (.double ad2), .second, .val (.double bd1), .second, .val (.double bd2), .second, .val (.double d5), .second, .val (.double d13), .second, .val (.double d22), .second, .val (.double d31), .second, .unset, .unset, .unset, .unset, .unset, .unset, .unset, .unset, .unset, .unset, .unset, .unset] [(.double d22)]))
  refine Go.step (fun t k => XS.dload X_4.here hx rfl (hb hby d4_36) rfl  k) ?_
  show Go p.tables e below P (T_4.setTop (mkF m 38 #[.val (.ref a), .val (.double ad1), .second, .val (.double ad2), .second, .val (.double bd1), .second, .val (.double bd2), .second, .val (.double d5), .second, .val (.double d13), .second, .val (.double d22), .second, .val (.double d31), .second, .unset, .unset, .unset, .unset, .unset, .unset, .unset, .unset, .unset, .unset, .unset, .unset] [(.double d5), (.double d22)]))
  obtain ⟨d38, hd38⟩ : ∃ z : UInt64, FP.dsub d22 d5 = z := ⟨_, rfl⟩
  have qdx := sub_e (k := ks) qvx qux hdx (by omega) (by omega)
  rw [hd38] at qdx
  refine Go.step (fun t k => XS.dsubS X_4.here hx rfl (hb hby d4_38) rfl (hd38 ▸ qdx.nn) hd38 k) ?_
  show Go p.tables e below P (T_4.setTop (mkF m 39 #[.val (.ref a), .val (.double ad1), .second, .val (.double ad2), .second, .val (.double bd1), .second, .val (.double bd2), .second, .val (.double d5), .second, .val (.double d13), .second, .val (.double d22), .second, .val (.double d31), .second, .unset, .unset, .unset, .unset, .unset, .unset, .unset, .unset, .unset, .unset, .unset, .unset] [(.double d38)]))
  refine Go.step (fun t k => XS.dstore X_4.here hx rfl (hb hby d4_39) rfl (l' := #[.val (.ref a), .val (.double ad1), .second, .val (.double ad2), .second, .val (.double bd1), .second, .val (.double bd2), .second, .val (.double d5), .second, .val (.double d13), .second, .val (.double d22), .second, .val (.double d31), .second, .val (.double d38), .second, .unset, .unset, .unset, .unset, .unset, .unset, .unset, .unset, .unset, .unset]) rfl k) ?_
  show Go p.tables e below P (T_4.setTop (mkF m 41 #[.val (.ref a), .val (.double ad1), .second, .val (.double ad2), .second, .val (.double bd1), .second, .val (.double bd2), .second, .val (.double d5), .second, .val (.double d13), .second, .val (.double d22), .second, .val (.double d31), .second, .val (.double d38), .second, .unset, .unset, .unset, .unset, .unset, .unset, .unset, .unset, .unset, .unset] []))
  refine Go.step (fun t k => XS.dload X_4.here hx rfl (hb hby d4_41) rfl  k) ?_
  show Go p.tables e below P (T_4.setTop (mkF m 43 #[.val (.ref a), .val (.double ad1), .second, .val (.double ad2), .second, .val (.double bd1), .second, .val (.double bd2), .second, .val (.double d5), .second, .val (.double d13), .second, .val (.double d22), .second, .val (.double d31), .second, .val (.double d38), .second, .unset, .unset, .unset, .unset, .unset, .unset, .unset, .unset, .unset, .unset] [(.double d31)]))
  refine Go.step (fun t k => XS.dload X_4.here hx rfl (hb hby d4_43) rfl  k) ?_
  show Go p.tables e below P (T_4.setTop (mkF m 45 #[.val (.ref a), .val (.double ad1), .second, .val (.double ad2), .second, .val (.double bd1), .second, .val (.double bd2), .second, .val (.double d5), .second, .val (.double d13), .second, .val (.double d22), .second, .val (.double d31), .second, .val (.double d38), .second, .unset, .unset, .unset, .unset, .unset, .unset, .unset, .unset, .unset, .unset] [(.double d13), (.double d31)]))
  obtain ⟨d45, hd45⟩ : ∃ z : UInt64, FP.dsub d31 d13 = z := ⟨_, rfl⟩
  have qdy := sub_e (k := ks) qvy quy hdy (by omega) (by omega)
  rw [hd45] at qdy
  refine Go.step (fun t k => XS.dsubS X_4.here hx rfl (hb hby d4_45) rfl (hd45 ▸ qdy.nn) hd45 k) ?_
  show Go p.tables e below P (T_4.setTop (mkF m 46 #[.val (.ref a), .val (.double ad1), .second, .val (.double ad2), .second, .val (.double bd1), .second, .val (.double bd2), .second, .val (.double d5), .second, .val (.double d13), .second, .val (.double d22), .second, .val (.double d31), .second, .val (.double d38), .second, .unset, .unset, .unset, .unset, .unset, .unset, .unset, .unset, .unset, .unset] [(.double d45)]))
  refine Go.step (fun t k => XS.dstore X_4.here hx rfl (hb hby d4_46) rfl (l' := #[.val (.ref a), .val (.double ad1), .second, .val (.double ad2), .second, .val (.double bd1), .second, .val (.double bd2), .second, .val (.double d5), .second, .val (.double d13), .second, .val (.double d22), .second, .val (.double d31), .second, .val (.double d38), .second, .val (.double d45), .second, .unset, .unset, .unset, .unset, .unset, .unset, .unset, .unset]) rfl k) ?_
  show Go p.tables e below P (T_4.setTop (mkF m 48 #[.val (.ref a), .val (.double ad1), .second, .val (.double ad2), .second, .val (.double bd1), .second, .val (.double bd2), .second, .val (.double d5), .second, .val (.double d13), .second, .val (.double d22), .second, .val (.double d31), .second, .val (.double d38), .second, .val (.double d45), .second, .unset, .unset, .unset, .unset, .unset, .unset, .unset, .unset] []))
  refine Go.step (fun t k => XS.dload X_4.here hx rfl (hb hby d4_48) rfl  k) ?_
  show Go p.tables e below P (T_4.setTop (mkF m 50 #[.val (.ref a), .val (.double ad1), .second, .val (.double ad2), .second, .val (.double bd1), .second, .val (.double bd2), .second, .val (.double d5), .second, .val (.double d13), .second, .val (.double d22), .second, .val (.double d31), .second, .val (.double d38), .second, .val (.double d45), .second, .unset, .unset, .unset, .unset, .unset, .unset, .unset, .unset] [(.double d38)]))
  refine Go.step (fun t k => XS.dload X_4.here hx rfl (hb hby d4_50) rfl  k) ?_
  show Go p.tables e below P (T_4.setTop (mkF m 52 #[.val (.ref a), .val (.double ad1), .second, .val (.double ad2), .second, .val (.double bd1), .second, .val (.double bd2), .second, .val (.double d5), .second, .val (.double d13), .second, .val (.double d22), .second, .val (.double d31), .second, .val (.double d38), .second, .val (.double d45), .second, .unset, .unset, .unset, .unset, .unset, .unset, .unset, .unset] [(.double d38), (.double d38)]))
  obtain ⟨d52, hd52⟩ : ∃ z : UInt64, FP.dmul d38 d38 = z := ⟨_, rfl⟩
  have q52 := mul_e (k := k2) qdx qdx h2 rfl (by omega) (by omega)
  rw [hd52] at q52
  refine Go.step (fun t k => XS.dmulS X_4.here hx rfl (hb hby d4_52) rfl (hd52 ▸ q52.nn) hd52 k) ?_
  show Go p.tables e below P (T_4.setTop (mkF m 53 #[.val (.ref a), .val (.double ad1), .second, .val (.double ad2), .second, .val (.double bd1), .second, .val (.double bd2), .second, .val (.double d5), .second, .val (.double d13), .second, .val (.double d22), .second, .val (.double d31), .second, .val (.double d38), .second, .val (.double d45), .second, .unset, .unset, .unset, .unset, .unset, .unset, .unset, .unset] [(.double d52)]))
  refine Go.step (fun t k => XS.dload X_4.here hx rfl (hb hby d4_53) rfl  k) ?_
  show Go p.tables e below P (T_4.setTop (mkF m 55 #[.val (.ref a), .val (.double ad1), .second, .val (.double ad2), .second, .val (.double bd1), .second, .val (.double bd2), .second, .val (.double d5), .second, .val (.double d13), .second, .val (.double d22), .second, .val (.double d31), .second, .val (.double d38), .second, .val (.double d45), .second, .unset, .unset, .unset, .unset, .unset, .unset, .unset, .unset] [(.double d45), (.double d52)]))
  refine Go.step (fun t k => XS.dload X_4.here hx rfl (hb hby d4_55) rfl  k) ?_
  show Go p.tables e below P (T_4.setTop (mkF m 57 #[.val (.ref a), .val (.double ad1), .second, .val (.double ad2), .second, .val (.double bd1), .second, .val (.double bd2), .second, .val (.double d5), .second, .val (.double d13), .second, .val (.double d22), .second, .val (.double d31), .second, .val (.double d38), .second, .val (.double d45), .second, .unset, .unset, .unset, .unset, .unset, .unset, .unset, .unset] [(.double d45), (.double d45), (.double d52)]))
  obtain ⟨d57, hd57⟩ : ∃ z : UInt64, FP.dmul d45 d45 = z := ⟨_, rfl⟩
  have q57 := mul_e (k := k2) qdy qdy h2 rfl (by omega) (by omega)
  rw [hd57] at q57
  refine Go.step (fun t k => XS.dmulS X_4.here hx rfl (hb hby d4_57) rfl (hd57 ▸ q57.nn) hd57 k) ?_
  show Go p.tables e below P (T_4.setTop (mkF m 58 #[.val (.ref a), .val (.double ad1), .second, .val (.double ad2), .second, .val (.double bd1), .second, .val (.double bd2), .second, .val (.double d5), .second, .val (.double d13), .second, .val (.double d22), .second, .val (.double d31), .second, .val (.double d38), .second, .val (.double d45), .second, .unset, .unset, .unset, .unset, .unset, .unset, .unset, .unset] [(.double d57), (.double d52)]))
  obtain ⟨d58, hd58⟩ : ∃ z : UInt64, FP.dadd d52 d57 = z := ⟨_, rfl⟩
  have qlen := add_e q52 q57 rfl (by omega) (by omega)
  rw [hd58] at qlen
  refine Go.step (fun t k => XS.daddS X_4.here hx rfl (hb hby d4_58) rfl (hd58 ▸ qlen.nn) hd58 k) ?_
  show Go p.tables e below P (T_4.setTop (mkF m 59 #[.val (.ref a), .val (.double ad1), .second, .val (.double ad2), .second, .val (.double bd1), .second, .val (.double bd2), .second, .val (.double d5), .second, .val (.double d13), .second, .val (.double d22), .second, .val (.double d31), .second, .val (.double d38), .second, .val (.double d45), .second, .unset, .unset, .unset, .unset, .unset, .unset, .unset, .unset] [(.double d58)]))
  refine Go.step (fun t k => XS.dstore X_4.here hx rfl (hb hby d4_59) rfl (l' := #[.val (.ref a), .val (.double ad1), .second, .val (.double ad2), .second, .val (.double bd1), .second, .val (.double bd2), .second, .val (.double d5), .second, .val (.double d13), .second, .val (.double d22), .second, .val (.double d31), .second, .val (.double d38), .second, .val (.double d45), .second, .val (.double d58), .second, .unset, .unset, .unset, .unset, .unset, .unset]) rfl k) ?_
  show Go p.tables e below P (T_4.setTop (mkF m 61 #[.val (.ref a), .val (.double ad1), .second, .val (.double ad2), .second, .val (.double bd1), .second, .val (.double bd2), .second, .val (.double d5), .second, .val (.double d13), .second, .val (.double d22), .second, .val (.double d31), .second, .val (.double d38), .second, .val (.double d45), .second, .val (.double d58), .second, .unset, .unset, .unset, .unset, .unset, .unset] []))
  refine Go.step (fun t k => XS.dload X_4.here hx rfl (hb hby d4_61) rfl  k) ?_
  show Go p.tables e below P (T_4.setTop (mkF m 63 #[.val (.ref a), .val (.double ad1), .second, .val (.double ad2), .second, .val (.double bd1), .second, .val (.double bd2), .second, .val (.double d5), .second, .val (.double d13), .second, .val (.double d22), .second, .val (.double d31), .second, .val (.double d38), .second, .val (.double d45), .second, .val (.double d58), .second, .unset, .unset, .unset, .unset, .unset, .unset] [(.double d5)]))
  refine Go.step (fun t k => XS.dload X_4.here hx rfl (hb hby d4_63) rfl  k) ?_
  show Go p.tables e below P (T_4.setTop (mkF m 65 #[.val (.ref a), .val (.double ad1), .second, .val (.double ad2), .second, .val (.double bd1), .second, .val (.double bd2), .second, .val (.double d5), .second, .val (.double d13), .second, .val (.double d22), .second, .val (.double d31), .second, .val (.double d38), .second, .val (.double d45), .second, .val (.double d58), .second, .unset, .unset, .unset, .unset, .unset, .unset] [(.double d38), (.double d5)]))
  obtain ⟨d65, hd65⟩ : ∃ z : UInt64, FP.dmul d5 d38 = z := ⟨_, rfl⟩
  have q65 := mul_e (k := k2) qux qdx h2 rfl (by omega) (by omega)
  rw [hd65] at q65
  refine Go.step (fun t k => XS.dmulS X_4.here hx rfl (hb hby d4_65) rfl (hd65 ▸ q65.nn) hd65 k) ?_
  show Go p.tables e below P (T_4.setTop (mkF m 66 #[.val (.ref a), .val (.double ad1), .second, .val (.double ad2), .second, .val (.double bd1), .second, .val (.double bd2), .second, .val (.double d5), .second, .val (.double d13), .second, .val (.double d22), .second, .val (.double d31), .second, .val (.double d38), .second, .val (.double d45), .second, .val (.double d58), .second, .unset, .unset, .unset, .unset, .unset, .unset] [(.double d65)]))
  refine Go.step (fun t k => XS.dload X_4.here hx rfl (hb hby d4_66) rfl  k) ?_
  show Go p.tables e below P (T_4.setTop (mkF m 68 #[.val (.ref a), .val (.double ad1), .second, .val (.double ad2), .second, .val (.double bd1), .second, .val (.double bd2), .second, .val (.double d5), .second, .val (.double d13), .second, .val (.double d22), .second, .val (.double d31), .second, .val (.double d38), .second, .val (.double d45), .second, .val (.double d58), .second, .unset, .unset, .unset, .unset, .unset, .unset] [(.double d13), (.double d65)]))
  refine Go.step (fun t k => XS.dload X_4.here hx rfl (hb hby d4_68) rfl  k) ?_
  show Go p.tables e below P (T_4.setTop (mkF m 70 #[.val (.ref a), .val (.double ad1), .second, .val (.double ad2), .second, .val (.double bd1), .second, .val (.double bd2), .second, .val (.double d5), .second, .val (.double d13), .second, .val (.double d22), .second, .val (.double d31), .second, .val (.double d38), .second, .val (.double d45), .second, .val (.double d58), .second, .unset, .unset, .unset, .unset, .unset, .unset] [(.double d45), (.double d13), (.double d65)]))
  obtain ⟨d70, hd70⟩ : ∃ z : UInt64, FP.dmul d13 d45 = z := ⟨_, rfl⟩
  have q70 := mul_e (k := k2) quy qdy h2 rfl (by omega) (by omega)
  rw [hd70] at q70
  refine Go.step (fun t k => XS.dmulS X_4.here hx rfl (hb hby d4_70) rfl (hd70 ▸ q70.nn) hd70 k) ?_
  show Go p.tables e below P (T_4.setTop (mkF m 71 #[.val (.ref a), .val (.double ad1), .second, .val (.double ad2), .second, .val (.double bd1), .second, .val (.double bd2), .second, .val (.double d5), .second, .val (.double d13), .second, .val (.double d22), .second, .val (.double d31), .second, .val (.double d38), .second, .val (.double d45), .second, .val (.double d58), .second, .unset, .unset, .unset, .unset, .unset, .unset] [(.double d70), (.double d65)]))
  obtain ⟨d71, hd71⟩ : ∃ z : UInt64, FP.dadd d65 d70 = z := ⟨_, rfl⟩
  have qt := add_e q65 q70 rfl (by omega) (by omega)
  rw [hd71] at qt
  refine Go.step (fun t k => XS.daddS X_4.here hx rfl (hb hby d4_71) rfl (hd71 ▸ qt.nn) hd71 k) ?_
  show Go p.tables e below P (T_4.setTop (mkF m 72 #[.val (.ref a), .val (.double ad1), .second, .val (.double ad2), .second, .val (.double bd1), .second, .val (.double bd2), .second, .val (.double d5), .second, .val (.double d13), .second, .val (.double d22), .second, .val (.double d31), .second, .val (.double d38), .second, .val (.double d45), .second, .val (.double d58), .second, .unset, .unset, .unset, .unset, .unset, .unset] [(.double d71)]))
  obtain ⟨d72, hd72⟩ : ∃ z : UInt64, FP.dneg d71 = z := ⟨_, rfl⟩
  refine Go.step (fun t k => XS.dnegS X_4.here hx rfl (hb hby d4_72) rfl hd72 k) ?_
  show Go p.tables e below P (T_4.setTop (mkF m 73 #[.val (.ref a), .val (.double ad1), .second, .val (.double ad2), .second, .val (.double bd1), .second, .val (.double bd2), .second, .val (.double d5), .second, .val (.double d13), .second, .val (.double d22), .second, .val (.double d31), .second, .val (.double d38), .second, .val (.double d45), .second, .val (.double d58), .second, .unset, .unset, .unset, .unset, .unset, .unset] [(.double d72)]))
  have qal := neg_b qt
  rw [hd72] at qal
  refine Go.step (fun t k => XS.dstore X_4.here hx rfl (hb hby d4_73) rfl (l' := #[.val (.ref a), .val (.double ad1), .second, .val (.double ad2), .second, .val (.double bd1), .second, .val (.double bd2), .second, .val (.double d5), .second, .val (.double d13), .second, .val (.double d22), .second, .val (.double d31), .second, .val (.double d38), .second, .val (.double d45), .second, .val (.double d58), .second, .val (.double d72), .second, .unset, .unset, .unset, .unset]) rfl k) ?_
  show Go p.tables e below P (T_4.setTop (mkF m 75 #[.val (.ref a), .val (.double ad1), .second, .val (.double ad2), .second, .val (.double bd1), .second, .val (.double bd2), .second, .val (.double d5), .second, .val (.double d13), .second, .val (.double d22), .second, .val (.double d31), .second, .val (.double d38), .second, .val (.double d45), .second, .val (.double d58), .second, .val (.double d72), .second, .unset, .unset, .unset, .unset] []))
  refine Go.step (fun t k => XS.dload X_4.here hx rfl (hb hby d4_75) rfl  k) ?_
  show Go p.tables e below P (T_4.setTop (mkF m 77 #[.val (.ref a), .val (.double ad1), .second, .val (.double ad2), .second, .val (.double bd1), .second, .val (.double bd2), .second, .val (.double d5), .second, .val (.double d13), .second, .val (.double d22), .second, .val (.double d31), .second, .val (.double d38), .second, .val (.double d45), .second, .val (.double d58), .second, .val (.double d72), .second, .unset, .unset, .unset, .unset] [(.double d72)]))
  refine Go.step (fun t k => XS.dconst0 X_4.here hx rfl (hb hby d4_77) rfl k) ?_
  show Go p.tables e below P (T_4.setTop (mkF m 78 #[.val (.ref a), .val (.double ad1), .second, .val (.double ad2), .second, .val (.double bd1), .second, .val (.double bd2), .second, .val (.double d5), .second, .val (.double d13), .second, .val (.double d22), .second, .val (.double d31), .second, .val (.double d38), .second, .val (.double d45), .second, .val (.double d58), .second, .val (.double d72), .second, .unset, .unset, .unset, .unset] [(.double FP.dconst0), (.double d72)]))
  refine Go.step (fun t k => XS.dcmpS X_4.here hx rfl (hb hby d4_78) rfl rfl k) ?_
  show Go p.tables e below P (T_4.setTop (mkF m 79 #[.val (.ref a), .val (.double ad1), .second, .val (.double ad2), .second, .val (.double bd1), .second, .val (.double bd2), .second, .val (.double d5), .second, .val (.double d13), .second, .val (.double d22), .second, .val (.double d31), .second, .val (.double d38), .second, .val (.double d45), .second, .val (.double d58), .second, .val (.double d72), .second, .unset, .unset, .unset, .unset] [(.int (cmpValue (FP.dcmp d72 FP.dconst0) .g))]))
  by_cases hc79 : 0 < (-(ux * dx + uy * dy))
  · refine Go.step (fun t k => XS.ifYes X_4.here hx rfl (pc0 := 79) (pc' := 98) rfl (hb hby d4_79) rfl (dcY (cd := .gt) (DE.cmp qal (zero_e k2)) hc79) (by decide) (by decide) k) ?_
    show Go p.tables e below P (T_4.setTop (mkF m 98 #[.val (.ref a), .val (.double ad1), .second, .val (.double ad2), .second, .val (.double bd1), .second, .val (.double bd2), .second, .val (.double d5), .second, .val (.double d13), .second, .val (.double d22), .second, .val (.double d31), .second, .val (.double d38), .second, .val (.double d45), .second, .val (.double d58), .second, .val (.double d72), .second, .unset, .unset, .unset, .unset] []))
    refine Go.step (fun t k => XS.dload X_4.here hx rfl (hb hby d4_98) rfl  k) ?_
    show Go p.tables e below P (T_4.setTop (mkF m 100 #[.val (.ref a), .val (.double ad1), .second, .val (.double ad2), .second, .val (.double bd1), .second, .val (.double bd2), .second, .val (.double d5), .second, .val (.double d13), .second, .val (.double d22), .second, .val (.double d31), .second, .val (.double d38), .second, .val (.double d45), .second, .val (.double d58), .second, .val (.double d72), .second, .unset, .unset, .unset, .unset] [(.double d72)]))
    refine Go.step (fun t k => XS.dload X_4.here hx rfl (hb hby d4_100) rfl  k) ?_
    show Go p.tables e below P (T_4.setTop (mkF m 102 #[.val (.ref a), .val (.double ad1), .second, .val (.double ad2), .second, .val (.double bd1), .second, .val (.double bd2), .second, .val (.double d5), .second, .val (.double d13), .second, .val (.double d22), .second, .val (.double d31), .second, .val (.double d38), .second, .val (.double d45), .second, .val (.double d58), .second, .val (.double d72), .second, .unset, .unset, .unset, .unset] [(.double d58), (.double d72)]))
    refine Go.step (fun t k => XS.dcmpS X_4.here hx rfl (hb hby d4_102) rfl rfl k) ?_
    show Go p.tables e below P (T_4.setTop (mkF m 103 #[.val (.ref a), .val (.double ad1), .second, .val (.double ad2), .second, .val (.double bd1), .second, .val (.double bd2), .second, .val (.double d5), .second, .val (.double d13), .second, .val (.double d22), .second, .val (.double d31), .second, .val (.double d38), .second, .val (.double d45), .second, .val (.double d58), .second, .val (.double d72), .second, .unset, .unset, .unset, .unset] [(.int (cmpValue (FP.dcmp d72 d58) .l))]))
    by_cases hc103 : (-(ux * dx + uy * dy)) < (dx * dx + dy * dy)
    · refine Go.step (fun t k => XS.ifYes X_4.here hx rfl (pc0 := 103) (pc' := 122) rfl (hb hby d4_103) rfl (dcY (cd := .lt) (DE.cmp qal qlen) hc103) (by decide) (by decide) k) ?_
      show Go p.tables e below P (T_4.setTop (mkF m 122 #[.val (.ref a), .val (.double ad1), .second, .val (.double ad2), .second, .val (.double bd1), .second, .val (.double bd2), .second, .val (.double d5), .second, .val (.double d13), .second, .val (.double d22), .second, .val (.double d31), .second, .val (.double d38), .second, .val (.double d45), .second, .val (.double d58), .second, .val (.double d72), .second, .unset, .unset, .unset, .unset] []))
      refine Go.step (fun t k => XS.dload X_4.here hx rfl (hb hby d4_122) rfl  k) ?_
      show Go p.tables e below P (T_4.setTop (mkF m 124 #[.val (.ref a), .val (.double ad1), .second, .val (.double ad2), .second, .val (.double bd1), .second, .val (.double bd2), .second, .val (.double d5), .second, .val (.double d13), .second, .val (.double d22), .second, .val (.double d31), .second, .val (.double d38), .second, .val (.double d45), .second, .val (.double d58), .second, .val (.double d72), .second, .unset, .unset, .unset, .unset] [(.double d5)]))
      refine Go.step (fun t k => XS.dload X_4.here hx rfl (hb hby d4_124) rfl  k) ?_
      show Go p.tables e below P (T_4.setTop (mkF m 126 #[.val (.ref a), .val (.double ad1), .second, .val (.double ad2), .second, .val (.double bd1), .second, .val (.double bd2), .second, .val (.double d5), .second, .val (.double d13), .second, .val (.double d22), .second, .val (.double d31), .second, .val (.double d38), .second, .val (.double d45), .second, .val (.double d58), .second, .val (.double d72), .second, .unset, .unset, .unset, .unset] [(.double d31), (.double d5)]))
      obtain ⟨d126, hd126⟩ : ∃ z : UInt64, FP.dmul d5 d31 = z := ⟨_, rfl⟩
      have q126 := mul_e (k := k2) qux qvy h2 rfl (by omega) (by omega)
      rw [hd126] at q126
      refine Go.step (fun t k => XS.dmulS X_4.here hx rfl (hb hby d4_126) rfl (hd126 ▸ q126.nn) hd126 k) ?_
      show Go p.tables e below P (T_4.setTop (mkF m 127 #[.val (.ref a), .val (.double ad1), .second, .val (.double ad2), .second, .val (.double bd1), .second, .val (.double bd2), .second, .val (.double d5), .second, .val (.double d13), .second, .val (.double d22), .second, .val (.double d31), .second, .val (.double d38), .second, .val (.double d45), .second, .val (.double d58), .second, .val (.double d72), .second, .unset, .unset, .unset, .unset] [(.double d126)]))
      refine Go.step (fun t k => XS.dload X_4.here hx rfl (hb hby d4_127) rfl  k) ?_
      show Go p.tables e below P (T_4.setTop (mkF m 129 #[.val (.ref a), .val (.double ad1), .second, .val (.double ad2), .second, .val (.double bd1), .second, .val (.double bd2), .second, .val (.double d5), .second, .val (.double d13), .second, .val (.double d22), .second, .val (.double d31), .second, .val (.double d38), .second, .val (.double d45), .second, .val (.double d58), .second, .val (.double d72), .second, .unset, .unset, .unset, .unset] [(.double d13), (.double d126)]))
      refine Go.step (fun t k => XS.dload X_4.here hx rfl (hb hby d4_129) rfl  k) ?_
      show Go p.tables e below P (T_4.setTop (mkF m 131 #[.val (.ref a), .val (.double ad1), .second, .val (.double ad2), .second, .val (.double bd1), .second, .val (.double bd2), .second, .val (.double d5), .second, .val (.double d13), .second, .val (.double d22), .second, .val (.double d31), .second, .val (.double d38), .second, .val (.double d45), .second, .val (.double d58), .second, .val (.double d72), .second, .unset, .unset, .unset, .unset] [(.double d22), (.double d13), (.double d126)]))
      obtain ⟨d131, hd131⟩ : ∃ z : UInt64, FP.dmul d13 d22 = z := ⟨_, rfl⟩
      have q131 := mul_e (k := k2) quy qvx h2 rfl (by omega) (by omega)
      rw [hd131] at q131
      refine Go.step (fun t k => XS.dmulS X_4.here hx rfl (hb hby d4_131) rfl (hd131 ▸ q131.nn) hd131 k) ?_
      show Go p.tables e below P (T_4.setTop (mkF m 132 #[.val (.ref a), .val (.double ad1), .second, .val (.double ad2), .second, .val (.double bd1), .second, .val (.double bd2), .second, .val (.double d5), .second, .val (.double d13), .second, .val (.double d22), .second, .val (.double d31), .second, .val (.double d38), .second, .val (.double d45), .second, .val (.double d58), .second, .val (.double d72), .second, .unset, .unset, .unset, .unset] [(.double d131), (.double d126)]))
      obtain ⟨d132, hd132⟩ : ∃ z : UInt64, FP.dsub d126 d131 = z := ⟨_, rfl⟩
      have qcr := sub_e q126 q131 rfl (by omega) (by omega)
      rw [hd132] at qcr
      refine Go.step (fun t k => XS.dsubS X_4.here hx rfl (hb hby d4_132) rfl (hd132 ▸ qcr.nn) hd132 k) ?_
      show Go p.tables e below P (T_4.setTop (mkF m 133 #[.val (.ref a), .val (.double ad1), .second, .val (.double ad2), .second, .val (.double bd1), .second, .val (.double bd2), .second, .val (.double d5), .second, .val (.double d13), .second, .val (.double d22), .second, .val (.double d31), .second, .val (.double d38), .second, .val (.double d45), .second, .val (.double d58), .second, .val (.double d72), .second, .unset, .unset, .unset, .unset] [(.double d132)]))
      have bcr : -((33554432 : Nat) : Int) ≤ (ux * vy - uy * vx) ∧ (ux * vy - uy * vx) ≤ (33554432 : Nat) := by omega
      have mcr := bmul bcr bcr
      refine Go.step (fun t k => XS.dstore X_4.here hx rfl (hb hby d4_133) rfl (l' := #[.val (.ref a), .val (.double ad1), .second, .val (.double ad2), .second, .val (.double bd1), .second, .val (.double bd2), .second, .val (.double d5), .second, .val (.double d13), .second, .val (.double d22), .second, .val (.double d31), .second, .val (.double d38), .second, .val (.double d45), .second, .val (.double d58), .second, .val (.double d72), .second, .unset, .unset, .val (.double d132), .second]) rfl k) ?_
      show Go p.tables e below P (T_4.setTop (mkF m 135 #[.val (.ref a), .val (.double ad1), .second, .val (.double ad2), .second, .val (.double bd1), .second, .val (.double bd2), .second, .val (.double d5), .second, .val (.double d13), .second, .val (.double d22), .second, .val (.double d31), .second, .val (.double d38), .second, .val (.double d45), .second, .val (.double d58), .second, .val (.double d72), .second, .unset, .unset, .val (.double d132), .second] []))
      refine Go.step (fun t k => XS.dload X_4.here hx rfl (hb hby d4_135) rfl  k) ?_
      show Go p.tables e below P (T_4.setTop (mkF m 137 #[.val (.ref a), .val (.double ad1), .second, .val (.double ad2), .second, .val (.double bd1), .second, .val (.double bd2), .second, .val (.double d5), .second, .val (.double d13), .second, .val (.double d22), .second, .val (.double d31), .second, .val (.double d38), .second, .val (.double d45), .second, .val (.double d58), .second, .val (.double d72), .second, .unset, .unset, .val (.double d132), .second] [(.double d132)]))
      refine Go.step (fun t k => XS.dload X_4.here hx rfl (hb hby d4_137) rfl  k) ?_
      show Go p.tables e below P (T_4.setTop (mkF m 139 #[.val (.ref a), .val (.double ad1), .second, .val (.double ad2), .second, .val (.double bd1), .second, .val (.double bd2), .second, .val (.double d5), .second, .val (.double d13), .second, .val (.double d22), .second, .val (.double d31), .second, .val (.double d38), .second, .val (.double d45), .second, .val (.double d58), .second, .val (.double d72), .second, .unset, .unset, .val (.double d132), .second] [(.double d132), (.double d132)]))
      obtain ⟨d139, hd139⟩ : ∃ z : UInt64, FP.dmul d132 d132 = z := ⟨_, rfl⟩
      have qcc := mul_e (k := k4) qcr qcr h4 rfl (by omega) (by omega)
      rw [hd139] at qcc
      refine Go.step (fun t k => XS.dmulS X_4.here hx rfl (hb hby d4_139) rfl (hd139 ▸ qcc.nn) hd139 k) ?_
      show Go p.tables e below P (T_4.setTop (mkF m 140 #[.val (.ref a), .val (.double ad1), .second, .val (.double ad2), .second, .val (.double bd1), .second, .val (.double bd2), .second, .val (.double d5), .second, .val (.double d13), .second, .val (.double d22), .second, .val (.double d31), .second, .val (.double d38), .second, .val (.double d45), .second, .val (.double d58), .second, .val (.double d72), .second, .unset, .unset, .val (.double d132), .second] [(.double d139)]))
      refine Go.step (fun t k => XS.dload X_4.here hx rfl (hb hby d4_140) rfl  k) ?_
      show Go p.tables e below P (T_4.setTop (mkF m 142 #[.val (.ref a), .val (.double ad1), .second, .val (.double ad2), .second, .val (.double bd1), .second, .val (.double bd2), .second, .val (.double d5), .second, .val (.double d13), .second, .val (.double d22), .second, .val (.double d31), .second, .val (.double d38), .second, .val (.double d45), .second, .val (.double d58), .second, .val (.double d72), .second, .unset, .unset, .val (.double d132), .second] [(.double d58), (.double d139)]))
      obtain ⟨d142, hd142⟩ : ∃ z : UInt64, FP.ddiv d139 d58 = z := ⟨_, rfl⟩
      have pos : 0 < zv d58 := by rw [qlen.eq]; exact Int.mul_pos (by omega) (pw_pos _)
      refine Go.step (fun t k => XS.ddivS X_4.here hx rfl (hb hby d4_142) rfl (Jvm.Free.Fl.noNaN64_no.mpr ((FP.Core.notNaN_iff _).mpr (div_zz qcc.1 qlen.1 pos).1)) hd142 k) ?_
      show Go p.tables e below P (T_4.setTop (mkF m 143 #[.val (.ref a), .val (.double ad1), .second, .val (.double ad2), .second, .val (.double bd1), .second, .val (.double bd2), .second, .val (.double d5), .second, .val (.double d13), .second, .val (.double d22), .second, .val (.double d31), .second, .val (.double d38), .second, .val (.double d45), .second, .val (.double d58), .second, .val (.double d72), .second, .unset, .unset, .val (.double d132), .second] [(.double d142)]))
      refine Go.step (fun t k => XS.dstore X_4.here hx rfl (hb hby d4_143) rfl (l' := #[.val (.ref a), .val (.double ad1), .second, .val (.double ad2), .second, .val (.double bd1), .second, .val (.double bd2), .second, .val (.double d5), .second, .val (.double d13), .second, .val (.double d22), .second, .val (.double d31), .second, .val (.double d38), .second, .val (.double d45), .second, .val (.double d58), .second, .val (.double d72), .second, .val (.double d142), .second, .val (.double d132), .second]) rfl k) ?_
      show Go p.tables e below P (T_4.setTop (mkF m 145 #[.val (.ref a), .val (.double ad1), .second, .val (.double ad2), .second, .val (.double bd1), .second, .val (.double bd2), .second, .val (.double d5), .second, .val (.double d13), .second, .val (.double d22), .second, .val (.double d31), .second, .val (.double d38), .second, .val (.double d45), .second, .val (.double d58), .second, .val (.double d72), .second, .val (.double d142), .second, .val (.double d132), .second] []))
      refine Go.step (fun t k => XS.dload X_4.here hx rfl (hb hby d4_145) rfl  k) ?_
      show Go p.tables e below P (T_4.setTop (mkF m 147 #[.val (.ref a), .val (.double ad1), .second, .val (.double ad2), .second, .val (.double bd1), .second, .val (.double bd2), .second, .val (.double d5), .second, .val (.double d13), .second, .val (.double d22), .second, .val (.double d31), .second, .val (.double d38), .second, .val (.double d45), .second, .val (.double d58), .second, .val (.double d72), .second, .val (.double d142), .second, .val (.double d132), .second] [(.double d142)]))
      exact retGo X_4 hx hP Bd.returns hlk rfl (Or.inr (Or.inr (Or.inl ⟨rfl, rfl, _, rfl⟩))) (hb hby d4_147) (by decide) (by decide) (by rw [e_4]; exact ⟨d142, rfl, Or.inr (Or.inr ⟨by omega, by omega, d139, d58, hd142.symm, qcc, qlen⟩), N0, rfl⟩)
    · refine Go.step (fun t k => XS.ifNo X_4.here hx rfl (hb hby d4_103) rfl (dcN (cd := .lt) (DE.cmp qal qlen) hc103) k) ?_
      show Go p.tables e below P (T_4.setTop (mkF m 106 #[.val (.ref a), .val (.double ad1), .second, .val (.double ad2), .second, .val (.double bd1), .second, .val (.double bd2), .second, .val (.double d5), .second, .val (.double d13), .second, .val (.double d22), .second, .val (.double d31), .second, .val (.double d38), .second, .val (.double d45), .second, .val (.double d58), .second, .val (.double d72), .second, .unset, .unset, .unset, .unset] []))
      refine Go.step (fun t k => XS.dload X_4.here hx rfl (hb hby d4_106) rfl  k) ?_
      show Go p.tables e below P (T_4.setTop (mkF m 108 #[.val (.ref a), .val (.double ad1), .second, .val (.double ad2), .second, .val (.double bd1), .second, .val (.double bd2), .second, .val (.double d5), .second, .val (.double d13), .second, .val (.double d22), .second, .val (.double d31), .second, .val (.double d38), .second, .val (.double d45), .second, .val (.double d58), .second, .val (.double d72), .second, .unset, .unset, .unset, .unset] [(.double d22)]))
      refine Go.step (fun t k => XS.dload X_4.here hx rfl (hb hby d4_108) rfl  k) ?_
      show Go p.tables e below P (T_4.setTop (mkF m 110 #[.val (.ref a), .val (.double ad1), .second, .val (.double ad2), .second, .val (.double bd1), .second, .val (.double bd2), .second, .val (.double d5), .second, .val (.double d13), .second, .val (.double d22), .second, .val (.double d31), .second, .val (.double d38), .second, .val (.double d45), .second, .val (.double d58), .second, .val (.double d72), .second, .unset, .unset, .unset, .unset] [(.double d22), (.double d22)]))
      obtain ⟨d110, hd110⟩ : ∃ z : UInt64, FP.dmul d22 d22 = z := ⟨_, rfl⟩
      have q110 := mul_e (k := k2) qvx qvx h2 rfl (by omega) (by omega)
      rw [hd110] at q110
      refine Go.step (fun t k => XS.dmulS X_4.here hx rfl (hb hby d4_110) rfl (hd110 ▸ q110.nn) hd110 k) ?_
      show Go p.tables e below P (T_4.setTop (mkF m 111 #[.val (.ref a), .val (.double ad1), .second, .val (.double ad2), .second, .val (.double bd1), .second, .val (.double bd2), .second, .val (.double d5), .second, .val (.double d13), .second, .val (.double d22), .second, .val (.double d31), .second, .val (.double d38), .second, .val (.double d45), .second, .val (.double d58), .second, .val (.double d72), .second, .unset, .unset, .unset, .unset] [(.double d110)]))
      refine Go.step (fun t k => XS.dload X_4.here hx rfl (hb hby d4_111) rfl  k) ?_
      show Go p.tables e below P (T_4.setTop (mkF m 113 #[.val (.ref a), .val (.double ad1), .second, .val (.double ad2), .second, .val (.double bd1), .second, .val (.double bd2), .second, .val (.double d5), .second, .val (.double d13), .second, .val (.double d22), .second, .val (.double d31), .second, .val (.double d38), .second, .val (.double d45), .second, .val (.double d58), .second, .val (.double d72), .second, .unset, .unset, .unset, .unset] [(.double d31), (.double d110)]))
      refine Go.step (fun t k => XS.dload X_4.here hx rfl (hb hby d4_113) rfl  k) ?_
      show Go p.tables e below P (T_4.setTop (mkF m 115 #[.val (.ref a), .val (.double ad1), .second, .val (.double ad2), .second, .val (.double bd1), .second, .val (.double bd2), .second, .val (.double d5), .second, .val (.double d13), .second, .val (.double d22), .second, .val (.double d31), .second, .val (.double d38), .second, .val (.double d45), .second, .val (.double d58), .second, .val (.double d72), .second, .unset, .unset, .unset, .unset] [(.double d31), (.double d31), (.double d110)]))
      obtain ⟨d115, hd115⟩ : ∃ z : UInt64, FP.dmul d31 d31 = z := ⟨_, rfl⟩
      have q115 := mul_e (k := k2) qvy qvy h2 rfl (by omega) (by omega)
      rw [hd115] at q115
      refine Go.step (fun t k => XS.dmulS X_4.here hx rfl (hb hby d4_115) rfl (hd115 ▸ q115.nn) hd115 k) ?_
      show Go p.tables e below P (T_4.setTop (mkF m 116 #[.val (.ref a), .val (.double ad1), .second, .val (.double ad2), .second, .val (.double bd1), .second, .val (.double bd2), .second, .val (.double d5), .second, .val (.double d13), .second, .val (.double d22), .second, .val (.double d31), .second, .val (.double d38), .second, .val (.double d45), .second, .val (.double d58), .second, .val (.double d72), .second, .unset, .unset, .unset, .unset] [(.double d115), (.double d110)]))
      obtain ⟨d116, hd116⟩ : ∃ z : UInt64, FP.dadd d110 d115 = z := ⟨_, rfl⟩
      have qvv := add_e q110 q115 rfl (by omega) (by omega)
      rw [hd116] at qvv
      refine Go.step (fun t k => XS.daddS X_4.here hx rfl (hb hby d4_116) rfl (hd116 ▸ qvv.nn) hd116 k) ?_
      show Go p.tables e below P (T_4.setTop (mkF m 117 #[.val (.ref a), .val (.double ad1), .second, .val (.double ad2), .second, .val (.double bd1), .second, .val (.double bd2), .second, .val (.double d5), .second, .val (.double d13), .second, .val (.double d22), .second, .val (.double d31), .second, .val (.double d38), .second, .val (.double d45), .second, .val (.double d58), .second, .val (.double d72), .second, .unset, .unset, .unset, .unset] [(.double d116)]))
      refine Go.step (fun t k => XS.dstore X_4.here hx rfl (hb hby d4_117) rfl (l' := #[.val (.ref a), .val (.double ad1), .second, .val (.double ad2), .second, .val (.double bd1), .second, .val (.double bd2), .second, .val (.double d5), .second, .val (.double d13), .second, .val (.double d22), .second, .val (.double d31), .second, .val (.double d38), .second, .val (.double d45), .second, .val (.double d58), .second, .val (.double d72), .second, .val (.double d116), .second, .unset, .unset]) rfl k) ?_
      show Go p.tables e below P (T_4.setTop (mkF m 119 #[.val (.ref a), .val (.double ad1), .second, .val (.double ad2), .second, .val (.double bd1), .second, .val (.double bd2), .second, .val (.double d5), .second, .val (.double d13), .second, .val (.double d22), .second, .val (.double d31), .second, .val (.double d38), .second, .val (.double d45), .second, .val (.double d58), .second, .val (.double d72), .second, .val (.double d116), .second, .unset, .unset] []))
      refine Go.step (fun t k => XS.goto X_4.here hx rfl (pc0 := 119) (pc' := 145) rfl (hb hby d4_119) (by decide) (by decide) k) ?_
      show Go p.tables e below P (T_4.setTop (mkF m 145 #[.val (.ref a), .val (.double ad1), .second, .val (.double ad2), .second, .val (.double bd1), .second, .val (.double bd2), .second, .val (.double d5), .second, .val (.double d13), .second, .val (.double d22), .second, .val (.double d31), .second, .val (.double d38), .second, .val (.double d45), .second, .val (.double d58), .second, .val (.double d72), .second, .val (.double d116), .second, .unset, .unset] []))
      refine Go.step (fun t k => XS.dload X_4.here hx rfl (hb hby d4_145) rfl  k) ?_
      show Go p.tables e below P (T_4.setTop (mkF m 147 #[.val (.ref a), .val (.double ad1), .second, .val (.double ad2), .second, .val (.double bd1), .second, .val (.double bd2), .second, .val (.double d5), .second, .val (.double d13), .second, .val (.double d22), .second, .val (.double d31), .second, .val (.double d38), .second, .val (.double d45), .second, .val (.double d58), .second, .val (.double d72), .second, .val (.double d116), .second, .unset, .unset] [(.double d116)]))
      exact retGo X_4 hx hP Bd.returns hlk rfl (Or.inr (Or.inr (Or.inl ⟨rfl, rfl, _, rfl⟩))) (hb hby d4_147) (by decide) (by decide) (by rw [e_4]; exact ⟨d116, rfl, Or.inr (Or.inl ⟨by omega, by omega, qvv⟩), N0, rfl⟩)
  · refine Go.step (fun t k => XS.ifNo X_4.here hx rfl (hb hby d4_79) rfl (dcN (cd := .gt) (DE.cmp qal (zero_e k2)) hc79) k) ?_
    show Go p.tables e below P (T_4.setTop (mkF m 82 #[.val (.ref a), .val (.double ad1), .second, .val (.double ad2), .second, .val (.double bd1), .second, .val (.double bd2), .second, .val (.double d5), .second, .val (.double d13), .second, .val (.double d22), .second, .val (.double d31), .second, .val (.double d38), .second, .val (.double d45), .second, .val (.double d58), .second, .val (.double d72), .second, .unset, .unset, .unset, .unset] []))
    refine Go.step (fun t k => XS.dload X_4.here hx rfl (hb hby d4_82) rfl  k) ?_
    show Go p.tables e below P (T_4.setTop (mkF m 84 #[.val (.ref a), .val (.double ad1), .second, .val (.double ad2), .second, .val (.double bd1), .second, .val (.double bd2), .second, .val (.double d5), .second, .val (.double d13), .second, .val (.double d22), .second, .val (.double d31), .second, .val (.double d38), .second, .val (.double d45), .second, .val (.double d58), .second, .val (.double d72), .second, .unset, .unset, .unset, .unset] [(.double d5)]))
    refine Go.step (fun t k => XS.dload X_4.here hx rfl (hb hby d4_84) rfl  k) ?_
    show Go p.tables e below P (T_4.setTop (mkF m 86 #[.val (.ref a), .val (.double ad1), .second, .val (.double ad2), .second, .val (.double bd1), .second, .val (.double bd2), .second, .val (.double d5), .second, .val (.double d13), .second, .val (.double d22), .second, .val (.double d31), .second, .val (.double d38), .second, .val (.double d45), .second, .val (.double d58), .second, .val (.double d72), .second, .unset, .unset, .unset, .unset] [(.double d5), (.double d5)]))
    obtain ⟨d86, hd86⟩ : ∃ z : UInt64, FP.dmul d5 d5 = z := ⟨_, rfl⟩
    have q86 := mul_e (k := k2) qux qux h2 rfl (by omega) (by omega)
    rw [hd86] at q86
    refine Go.step (fun t k => XS.dmulS X_4.here hx rfl (hb hby d4_86) rfl (hd86 ▸ q86.nn) hd86 k) ?_
    show Go p.tables e below P (T_4.setTop (mkF m 87 #[.val (.ref a), .val (.double ad1), .second, .val (.double ad2), .second, .val (.double bd1), .second, .val (.double bd2), .second, .val (.double d5), .second, .val (.double d13), .second, .val (.double d22), .second, .val (.double d31), .second, .val (.double d38), .second, .val (.double d45), .second, .val (.double d58), .second, .val (.double d72), .second, .unset, .unset, .unset, .unset] [(.double d86)]))
    refine Go.step (fun t k => XS.dload X_4.here hx rfl (hb hby d4_87) rfl  k) ?_
    show Go p.tables e below P (T_4.setTop (mkF m 89 #[.val (.ref a), .val (.double ad1), .second, .val (.double ad2), .second, .val (.double bd1), .second, .val (.double bd2), .second, .val (.double d5), .second, .val (.double d13), .second, .val (.double d22), .second, .val (.double d31), .second, .val (.double d38), .second, .val (.double d45), .second, .val (.double d58), .second, .val (.double d72), .second, .unset, .unset, .unset, .unset] [(.double d13), (.double d86)]))
    refine Go.step (fun t k => XS.dload X_4.here hx rfl (hb hby d4_89) rfl  k) ?_
    show Go p.tables e below P (T_4.setTop (mkF m 91 #[.val (.ref a), .val (.double ad1), .second, .val (.double ad2), .second, .val (.double bd1), .second, .val (.double bd2), .second, .val (.double d5), .second, .val (.double d13), .second, .val (.double d22), .second, .val (.double d31), .second, .val (.double d38), .second, .val (.double d45), .second, .val (.double d58), .second, .val (.double d72), .second, .unset, .unset, .unset, .unset] [(.double d13), (.double d13), (.double d86)]))
    obtain ⟨d91, hd91⟩ : ∃ z : UInt64, FP.dmul d13 d13 = z := ⟨_, rfl⟩
    have q91 := mul_e (k := k2) quy quy h2 rfl (by omega) (by omega)
    rw [hd91] at q91
    refine Go.step (fun t k => XS.dmulS X_4.here hx rfl (hb hby d4_91) rfl (hd91 ▸ q91.nn) hd91 k) ?_
    show Go p.tables e below P (T_4.setTop (mkF m 92 #[.val (.ref a), .val (.double ad1), .second, .val (.double ad2), .second, .val (.double bd1), .second, .val (.double bd2), .second, .val (.double d5), .second, .val (.double d13), .second, .val (.double d22), .second, .val (.double d31), .second, .val (.double d38), .second, .val (.double d45), .second, .val (.double d58), .second, .val (.double d72), .second, .unset, .unset, .unset, .unset] [(.double d91), (.double d86)]))
    obtain ⟨d92, hd92⟩ : ∃ z : UInt64, FP.dadd d86 d91 = z := ⟨_, rfl⟩
    have quu := add_e q86 q91 rfl (by omega) (by omega)
    rw [hd92] at quu
    refine Go.step (fun t k => XS.daddS X_4.here hx rfl (hb hby d4_92) rfl (hd92 ▸ quu.nn) hd92 k) ?_
    show Go p.tables e below P (T_4.setTop (mkF m 93 #[.val (.ref a), .val (.double ad1), .second, .val (.double ad2), .second, .val (.double bd1), .second, .val (.double bd2), .second, .val (.double d5), .second, .val (.double d13), .second, .val (.double d22), .second, .val (.double d31), .second, .val (.double d38), .second, .val (.double d45), .second, .val (.double d58), .second, .val (.double d72), .second, .unset, .unset, .unset, .unset] [(.double d92)]))
    refine Go.step (fun t k => XS.dstore X_4.here hx rfl (hb hby d4_93) rfl (l' := #[.val (.ref a), .val (.double ad1), .second, .val (.double ad2), .second, .val (.double bd1), .second, .val (.double bd2), .second, .val (.double d5), .second, .val (.double d13), .second, .val (.double d22), .second, .val (.double d31), .second, .val (.double d38), .second, .val (.double d45), .second, .val (.double d58), .second, .val (.double d72), .second, .val (.double d92), .second, .unset, .unset]) rfl k) ?_
    show Go p.tables e below P (T_4.setTop (mkF m 95 #[.val (.ref a), .val (.double ad1), .second, .val (.double ad2), .second, .val (.double bd1), .second, .val (.double bd2), .second, .val (.double d5), .second, .val (.double d13), .second, .val (.double d22), .second, .val (.double d31), .second, .val (.double d38), .second, .val (.double d45), .second, .val (.double d58), .second, .val (.double d72), .second, .val (.double d92), .second, .unset, .unset] []))
    refine Go.step (fun t k => XS.goto X_4.here hx rfl (pc0 := 95) (pc' := 145) rfl (hb hby d4_95) (by decide) (by decide) k) ?_
    show Go p.tables e below P (T_4.setTop (mkF m 145 #[.val (.ref a), .val (.double ad1), .second, .val (.double ad2), .second, .val (.double bd1), .second, .val (.double bd2), .second, .val (.double d5), .second, .val (.double d13), .second, .val (.double d22), .second, .val (.double d31), .second, .val (.double d38), .second, .val (.double d45), .second, .val (.double d58), .second, .val (.double d72), .second, .val (.double d92), .second, .unset, .unset] []))
    refine Go.step (fun t k => XS.dload X_4.here hx rfl (hb hby d4_145) rfl  k) ?_
    show Go p.tables e below P (T_4.setTop (mkF m 147 #[.val (.ref a), .val (.double ad1), .second, .val (.double ad2), .second, .val (.double bd1), .second, .val (.double bd2), .second, .val (.double d5), .second, .val (.double d13), .second, .val (.double d22), .second, .val (.double d31), .second, .val (.double d38), .second, .val (.double d45), .second, .val (.double d58), .second, .val (.double d72), .second, .val (.double d92), .second, .unset, .unset] [(.double d92)]))
    exact retGo X_4 hx hP Bd.returns hlk rfl (Or.inr (Or.inr (Or.inl ⟨rfl, rfl, _, rfl⟩))) (hb hby d4_147) (by decide) (by decide) (by rw [e_4]; exact ⟨d92, rfl, Or.inl ⟨by omega, quu⟩, N0, rfl⟩)
theorem pn_0 : plainName "com/example/geofence/geofence/geometry/CircleSquaredDistancePinLaw" = true := by first | (simp [plainName, overriddenIn]; done) | decide +kernel
theorem ef_0 (m : MethodId) (x0 : Int32) (x1 : Int32) (x2 : Int32) (x3 : Int32) (x4 : Int32) (x5 : Int32) : entryFrame m #[(.int x0), (.int x1), (.int x2), (.int x3), (.int x4), (.int x5)] maxLocals = mkF m 0 #[.val (.int x0), .val (.int x1), .val (.int x2), .val (.int x3), .val (.int x4), .val (.int x5), .unset, .unset, .unset, .unset, .unset, .unset, .unset, .unset, .unset, .unset, .unset, .unset, .unset, .unset, .unset, .unset, .unset, .unset, .unset, .unset, .unset, .unset, .unset, .unset, .unset, .unset, .unset, .unset, .unset, .unset, .unset, .unset, .unset, .unset, .unset, .unset, .unset, .unset, .unset, .unset, .unset, .unset, .unset, .unset] [] := by first | (simp [entryFrame, mkF, argsToLocals, Value.category, maxLocals]; done) | rfl
def Q0 (Z : State) (p1 : Int32) (p2 : Int32) (p3 : Int32) (p4 : Int32) (p5 : Int32) (p6 : Int32) (h0 : Heap) (n0 : Nat) (v : Option Value) (h : Heap) (L : List Loc) : Prop := v = some (.int 1) ∧ Fr n0 L
set_option maxRecDepth 65536 in
set_option maxHeartbeats 40000000 in
theorem rm0 (l : Launch) (Z : State) (a0 : Array Value) (hw : ∀ d ∈ tables_1, d.before a0 Z = true) (ws : List Jvm.Cond) (p1 : Int32) (p2 : Int32) (p3 : Int32) (p4 : Int32) (p5 : Int32) (p6 : Int32) (h0 : Heap) (n0 : Nat) (Z0 : n0 ≤ h0.size) :
    MetFree l x (head1 (Jvm.Cond.code x code maxLocals ret :: ws) room_1) (fun a_ U => a_ = #[(.int p1), (.int p2), (.int p3), (.int p4), (.int p5), (.int p6)] ∧ Z.Warmed39 U.vm ∧ U.heap = h0) (fun _ _ _ _ _ => True) (fun _ U o U' => ∃ v L, o = .returned v ∧ Q0 Z p1 p2 p3 p4 p5 p6 h0 n0 v U'.heap L ∧ FrameEnd U o U' L 16 128) := by
  refine MetFree.of_bodySF (plainFor_of_name pn_0) hisR ?_
  intro p e s m args below meth c s₁ Bd hml0 hP0 hK
  obtain ⟨rfl, hZ, hh⟩ := hP0
  have hx := Bd.exec
  have hby := Bd.bytes
  have hml : c.maxLocals = 50 := hml0
  have hown : s.vm.findClass "com/example/geofence/geofence/geometry/CircleSquaredDistancePinLaw" = some m.cls := findClass_of_methodNamed Bd.named
  have hnm := (name_of_methodNamed Bd.named Bd.method).1
  have X0 : Stand p l e room_1 s m #[(.int p1), (.int p2), (.int p3), (.int p4), (.int p5), (.int p6)] below meth c s₁ [] 0 0 := Stand.of_body Bd
  have e0 : s₁.heap = h0 := by rw [← hh, Bd.state]; rfl
  have N0 := Fr.nil n0
  have hlk : meth.locks = false := BodyLoose.notSynchronized Bd
  refine Go.start (P₀ := fun s₂ o => ∃ v L, o = .returned v ∧ Q0 Z p1 p2 p3 p4 p5 p6 h0 n0 v s₂.heap L ∧ FrameEnd s o s₂ L 16 128) (congrArg s₁.setTop (ef_0 m p1 p2 p3 p4 p5 p6)) ?_
  intro P hP
  show Go p.tables e below P (s₁.setTop (mkF m 0 #[.val (.int p1), .val (.int p2), .val (.int p3), .val (.int p4), .val (.int p5), .val (.int p6), .unset, .unset, .unset, .unset, .unset, .unset, .unset, .unset, .unset, .unset, .unset, .unset, .unset, .unset, .unset, .unset, .unset, .unset, .unset, .unset, .unset, .unset, .unset, .unset, .unset, .unset, .unset, .unset, .unset, .unset, .unset, .unset, .unset, .unset, .unset, .unset, .unset, .unset, .unset, .unset, .unset, .unset, .unset, .unset] []))
  refine Go.step (fun t k => XS.iloadN X0.here hx rfl (hb hby at_0) rfl  k) ?_
  show Go p.tables e below P (s₁.setTop (mkF m 1 #[.val (.int p1), .val (.int p2), .val (.int p3), .val (.int p4), .val (.int p5), .val (.int p6), .unset, .unset, .unset, .unset, .unset, .unset, .unset, .unset, .unset, .unset, .unset, .unset, .unset, .unset, .unset, .unset, .unset, .unset, .unset, .unset, .unset, .unset, .unset, .unset, .unset, .unset, .unset, .unset, .unset, .unset, .unset, .unset, .unset, .unset, .unset, .unset, .unset, .unset, .unset, .unset, .unset, .unset, .unset, .unset] [(.int p1)]))
  obtain ⟨_, _, ⟨T_1, L_1, k_1, n_1⟩, -, X_1, ⟨Lc_1, hQ_1, l_1, y_1, z_1⟩, st_1⟩ := Jvm.LawKit.callS X0 hx (y := (⟨"com/example/geofence/geofence/geometry/CircleSquaredDistancePinLaw", "coord", "(I)J"⟩ : MethodName)) hown (mvT hZ (hw _ (List.mem_of_getElem? (i := 0) rfl))) (mvT hZ (hw _ (List.mem_of_getElem? (i := 1) rfl))) (mvT hZ (hw _ (List.mem_of_getElem? (i := 2) rfl))) (mvT hZ (hw _ (List.mem_of_getElem? (i := 3) rfl))) (by decide) (backOf (W := 0) (rm2 l Z a0 hw [] p1 h0 n0 Z0 ) hZ (hw _ (List.mem_of_getElem? (i := 3) rfl)) (hw _ (List.mem_of_getElem? (i := 2) rfl)) (by decide) (by decide)) (g := (mkF m 1 #[.val (.int p1), .val (.int p2), .val (.int p3), .val (.int p4), .val (.int p5), .val (.int p6), .unset, .unset, .unset, .unset, .unset, .unset, .unset, .unset, .unset, .unset, .unset, .unset, .unset, .unset, .unset, .unset, .unset, .unset, .unset, .unset, .unset, .unset, .unset, .unset, .unset, .unset, .unset, .unset, .unset, .unset, .unset, .unset, .unset, .unset, .unset, .unset, .unset, .unset, .unset, .unset, .unset, .unset, .unset, .unset] [(.int p1)])) rfl (by rw [hml]; rfl) (argsL := [(.int p1)]) (rest := []) (lenOf pd_1 rfl) rfl (by show 2 * 0 + _ ≤ _; exact Nat.le_of_eq rfl) (hb hby at_1) (fun _ _ => ⟨rfl, e0, (by decide : 0 + 0 ≤ _), (by decide : 0 + 0 ≤ _)⟩)
  dsimp only [Pt.U, Pt.locs, Pt.cells, Pt.slots] at X_1 l_1 y_1 z_1 st_1 hQ_1
  subst l_1 y_1 z_1
  obtain ⟨cx, rfl, bcx, N_1q, eh_1⟩ := hQ_1
  have N_1 := Fr.app N0 N_1q
  refine Go.step (fun t k => st_1 t k) ?_
  show Go p.tables e below P (T_1.setTop (mkF m 4 #[.val (.int p1), .val (.int p2), .val (.int p3), .val (.int p4), .val (.int p5), .val (.int p6), .unset, .unset, .unset, .unset, .unset, .unset, .unset, .unset, .unset, .unset, .unset, .unset, .unset, .unset, .unset, .unset, .unset, .unset, .unset, .unset, .unset, .unset, .unset, .unset, .unset, .unset, .unset, .unset, .unset, .unset, .unset, .unset, .unset, .unset, .unset, .unset, .unset, .unset, .unset, .unset, .unset, .unset, .unset, .unset] [(.long cx)]))
  refine Go.step (fun t k => XS.lstore X_1.here hx rfl (hb hby at_4) rfl (l' := #[.val (.int p1), .val (.int p2), .val (.int p3), .val (.int p4), .val (.int p5), .val (.int p6), .val (.long cx), .second, .unset, .unset, .unset, .unset, .unset, .unset, .unset, .unset, .unset, .unset, .unset, .unset, .unset, .unset, .unset, .unset, .unset, .unset, .unset, .unset, .unset, .unset, .unset, .unset, .unset, .unset, .unset, .unset, .unset, .unset, .unset, .unset, .unset, .unset, .unset, .unset, .unset, .unset, .unset, .unset, .unset, .unset]) rfl k) ?_
  show Go p.tables e below P (T_1.setTop (mkF m 6 #[.val (.int p1), .val (.int p2), .val (.int p3), .val (.int p4), .val (.int p5), .val (.int p6), .val (.long cx), .second, .unset, .unset, .unset, .unset, .unset, .unset, .unset, .unset, .unset, .unset, .unset, .unset, .unset, .unset, .unset, .unset, .unset, .unset, .unset, .unset, .unset, .unset, .unset, .unset, .unset, .unset, .unset, .unset, .unset, .unset, .unset, .unset, .unset, .unset, .unset, .unset, .unset, .unset, .unset, .unset, .unset, .unset] []))
  refine Go.step (fun t k => XS.iloadN X_1.here hx rfl (hb hby at_6) rfl  k) ?_
  show Go p.tables e below P (T_1.setTop (mkF m 7 #[.val (.int p1), .val (.int p2), .val (.int p3), .val (.int p4), .val (.int p5), .val (.int p6), .val (.long cx), .second, .unset, .unset, .unset, .unset, .unset, .unset, .unset, .unset, .unset, .unset, .unset, .unset, .unset, .unset, .unset, .unset, .unset, .unset, .unset, .unset, .unset, .unset, .unset, .unset, .unset, .unset, .unset, .unset, .unset, .unset, .unset, .unset, .unset, .unset, .unset, .unset, .unset, .unset, .unset, .unset, .unset, .unset] [(.int p2)]))
  obtain ⟨_, _, ⟨T_2, L_2, k_2, n_2⟩, -, X_2, ⟨Lc_2, hQ_2, l_2, y_2, z_2⟩, st_2⟩ := Jvm.LawKit.callS X_1 hx (y := (⟨"com/example/geofence/geofence/geometry/CircleSquaredDistancePinLaw", "coord", "(I)J"⟩ : MethodName)) hown (mvT hZ (hw _ (List.mem_of_getElem? (i := 0) rfl))) (mvT hZ (hw _ (List.mem_of_getElem? (i := 1) rfl))) (mvT hZ (hw _ (List.mem_of_getElem? (i := 2) rfl))) (mvT hZ (hw _ (List.mem_of_getElem? (i := 3) rfl))) (by decide) (backOf (W := 0) (rm2 l Z a0 hw [] p2 h0 n0 Z0 ) hZ (hw _ (List.mem_of_getElem? (i := 3) rfl)) (hw _ (List.mem_of_getElem? (i := 2) rfl)) (by decide) (by decide)) (g := (mkF m 7 #[.val (.int p1), .val (.int p2), .val (.int p3), .val (.int p4), .val (.int p5), .val (.int p6), .val (.long cx), .second, .unset, .unset, .unset, .unset, .unset, .unset, .unset, .unset, .unset, .unset, .unset, .unset, .unset, .unset, .unset, .unset, .unset, .unset, .unset, .unset, .unset, .unset, .unset, .unset, .unset, .unset, .unset, .unset, .unset, .unset, .unset, .unset, .unset, .unset, .unset, .unset, .unset, .unset, .unset, .unset, .unset, .unset] [(.int p2)])) rfl (by rw [hml]; rfl) (argsL := [(.int p2)]) (rest := []) (lenOf pd_1 rfl) rfl (by show 2 * 0 + _ ≤ _; exact Nat.le_of_eq rfl) (hb hby at_7) (fun _ _ => ⟨rfl, eh_1, (by decide : 0 + 0 ≤ _), (by decide : 0 + 0 ≤ _)⟩)
  dsimp only [Pt.U, Pt.locs, Pt.cells, Pt.slots] at X_2 l_2 y_2 z_2 st_2 hQ_2
  subst l_2 y_2 z_2
  obtain ⟨cy, rfl, bcy, N_2q, eh_2⟩ := hQ_2
  have N_2 := Fr.app N_1 N_2q
  refine Go.step (fun t k => st_2 t k) ?_
  show Go p.tables e below P (T_2.setTop (mkF m 10 #[.val (.int p1), .val (.int p2), .val (.int p3), .val (.int p4), .val (.int p5), .val (.int p6), .val (.long cx), .second, .unset, .unset, .unset, .unset, .unset, .unset, .unset, .unset, .unset, .unset, .unset, .unset, .unset, .unset, .unset, .unset, .unset, .unset, .unset, .unset, .unset, .unset, .unset, .unset, .unset, .unset, .unset, .unset, .unset, .unset, .unset, .unset, .unset, .unset, .unset, .unset, .unset, .unset, .unset, .unset, .unset, .unset] [(.long cy)]))
  refine Go.step (fun t k => XS.lstore X_2.here hx rfl (hb hby at_10) rfl (l' := #[.val (.int p1), .val (.int p2), .val (.int p3), .val (.int p4), .val (.int p5), .val (.int p6), .val (.long cx), .second, .val (.long cy), .second, .unset, .unset, .unset, .unset, .unset, .unset, .unset, .unset, .unset, .unset, .unset, .unset, .unset, .unset, .unset, .unset, .unset, .unset, .unset, .unset, .unset, .unset, .unset, .unset, .unset, .unset, .unset, .unset, .unset, .unset, .unset, .unset, .unset, .unset, .unset, .unset, .unset, .unset, .unset, .unset]) rfl k) ?_
  show Go p.tables e below P (T_2.setTop (mkF m 12 #[.val (.int p1), .val (.int p2), .val (.int p3), .val (.int p4), .val (.int p5), .val (.int p6), .val (.long cx), .second, .val (.long cy), .second, .unset, .unset, .unset, .unset, .unset, .unset, .unset, .unset, .unset, .unset, .unset, .unset, .unset, .unset, .unset, .unset, .unset, .unset, .unset, .unset, .unset, .unset, .unset, .unset, .unset, .unset, .unset, .unset, .unset, .unset, .unset, .unset, .unset, .unset, .unset, .unset, .unset, .unset, .unset, .unset] []))
  refine Go.step (fun t k => XS.iloadN X_2.here hx rfl (hb hby at_12) rfl  k) ?_
  show Go p.tables e below P (T_2.setTop (mkF m 13 #[.val (.int p1), .val (.int p2), .val (.int p3), .val (.int p4), .val (.int p5), .val (.int p6), .val (.long cx), .second, .val (.long cy), .second, .unset, .unset, .unset, .unset, .unset, .unset, .unset, .unset, .unset, .unset, .unset, .unset, .unset, .unset, .unset, .unset, .unset, .unset, .unset, .unset, .unset, .unset, .unset, .unset, .unset, .unset, .unset, .unset, .unset, .unset, .unset, .unset, .unset, .unset, .unset, .unset, .unset, .unset, .unset, .unset] [(.int p3)]))
  obtain ⟨_, _, ⟨T_3, L_3, k_3, n_3⟩, -, X_3, ⟨Lc_3, hQ_3, l_3, y_3, z_3⟩, st_3⟩ := Jvm.LawKit.callS X_2 hx (y := (⟨"com/example/geofence/geofence/geometry/CircleSquaredDistancePinLaw", "coord", "(I)J"⟩ : MethodName)) hown (mvT hZ (hw _ (List.mem_of_getElem? (i := 0) rfl))) (mvT hZ (hw _ (List.mem_of_getElem? (i := 1) rfl))) (mvT hZ (hw _ (List.mem_of_getElem? (i := 2) rfl))) (mvT hZ (hw _ (List.mem_of_getElem? (i := 3) rfl))) (by decide) (backOf (W := 0) (rm2 l Z a0 hw [] p3 h0 n0 Z0 ) hZ (hw _ (List.mem_of_getElem? (i := 3) rfl)) (hw _ (List.mem_of_getElem? (i := 2) rfl)) (by decide) (by decide)) (g := (mkF m 13 #[.val (.int p1), .val (.int p2), .val (.int p3), .val (.int p4), .val (.int p5), .val (.int p6), .val (.long cx), .second, .val (.long cy), .second, .unset, .unset, .unset, .unset, .unset, .unset, .unset, .unset, .unset, .unset, .unset, .unset, .unset, .unset, .unset, .unset, .unset, .unset, .unset, .unset, .unset, .unset, .unset, .unset, .unset, .unset, .unset, .unset, .unset, .unset, .unset, .unset, .unset, .unset, .unset, .unset, .unset, .unset, .unset, .unset] [(.int p3)])) rfl (by rw [hml]; rfl) (argsL := [(.int p3)]) (rest := []) (lenOf pd_1 rfl) rfl (by show 2 * 0 + _ ≤ _; exact Nat.le_of_eq rfl) (hb hby at_13) (fun _ _ => ⟨rfl, eh_2, (by decide : 0 + 0 ≤ _), (by decide : 0 + 0 ≤ _)⟩)
  dsimp only [Pt.U, Pt.locs, Pt.cells, Pt.slots] at X_3 l_3 y_3 z_3 st_3 hQ_3
  subst l_3 y_3 z_3
  obtain ⟨ax, rfl, bax, N_3q, eh_3⟩ := hQ_3
  have N_3 := Fr.app N_2 N_3q
  refine Go.step (fun t k => st_3 t k) ?_
  show Go p.tables e below P (T_3.setTop (mkF m 16 #[.val (.int p1), .val (.int p2), .val (.int p3), .val (.int p4), .val (.int p5), .val (.int p6), .val (.long cx), .second, .val (.long cy), .second, .unset, .unset, .unset, .unset, .unset, .unset, .unset, .unset, .unset, .unset, .unset, .unset, .unset, .unset, .unset, .unset, .unset, .unset, .unset, .unset, .unset, .unset, .unset, .unset, .unset, .unset, .unset, .unset, .unset, .unset, .unset, .unset, .unset, .unset, .unset, .unset, .unset, .unset, .unset, .unset] [(.long ax)]))
  refine Go.step (fun t k => XS.lstore X_3.here hx rfl (hb hby at_16) rfl (l' := #[.val (.int p1), .val (.int p2), .val (.int p3), .val (.int p4), .val (.int p5), .val (.int p6), .val (.long cx), .second, .val (.long cy), .second, .val (.long ax), .second, .unset, .unset, .unset, .unset, .unset, .unset, .unset, .unset, .unset, .unset, .unset, .unset, .unset, .unset, .unset, .unset, .unset, .unset, .unset, .unset, .unset, .unset, .unset, .unset, .unset, .unset, .unset, .unset, .unset, .unset, .unset, .unset, .unset, .unset, .unset, .unset, .unset, .unset]) rfl k) ?_
  show Go p.tables e below P (T_3.setTop (mkF m 18 #[.val (.int p1), .val (.int p2), .val (.int p3), .val (.int p4), .val (.int p5), .val (.int p6), .val (.long cx), .second, .val (.long cy), .second, .val (.long ax), .second, .unset, .unset, .unset, .unset, .unset, .unset, .unset, .unset, .unset, .unset, .unset, .unset, .unset, .unset, .unset, .unset, .unset, .unset, .unset, .unset, .unset, .unset, .unset, .unset, .unset, .unset, .unset, .unset, .unset, .unset, .unset, .unset, .unset, .unset, .unset, .unset, .unset, .unset] []))
  refine Go.step (fun t k => XS.iloadN X_3.here hx rfl (hb hby at_18) rfl  k) ?_
  show Go p.tables e below P (T_3.setTop (mkF m 19 #[.val (.int p1), .val (.int p2), .val (.int p3), .val (.int p4), .val (.int p5), .val (.int p6), .val (.long cx), .second, .val (.long cy), .second, .val (.long ax), .second, .unset, .unset, .unset, .unset, .unset, .unset, .unset, .unset, .unset, .unset, .unset, .unset, .unset, .unset, .unset, .unset, .unset, .unset, .unset, .unset, .unset, .unset, .unset, .unset, .unset, .unset, .unset, .unset, .unset, .unset, .unset, .unset, .unset, .unset, .unset, .unset, .unset, .unset] [(.int p4)]))
  obtain ⟨_, _, ⟨T_4, L_4, k_4, n_4⟩, -, X_4, ⟨Lc_4, hQ_4, l_4, y_4, z_4⟩, st_4⟩ := Jvm.LawKit.callS X_3 hx (y := (⟨"com/example/geofence/geofence/geometry/CircleSquaredDistancePinLaw", "coord", "(I)J"⟩ : MethodName)) hown (mvT hZ (hw _ (List.mem_of_getElem? (i := 0) rfl))) (mvT hZ (hw _ (List.mem_of_getElem? (i := 1) rfl))) (mvT hZ (hw _ (List.mem_of_getElem? (i := 2) rfl))) (mvT hZ (hw _ (List.mem_of_getElem? (i := 3) rfl))) (by decide) (backOf (W := 0) (rm2 l Z a0 hw [] p4 h0 n0 Z0 ) hZ (hw _ (List.mem_of_getElem? (i := 3) rfl)) (hw _ (List.mem_of_getElem? (i := 2) rfl)) (by decide) (by decide)) (g := (mkF m 19 #[.val (.int p1), .val (.int p2), .val (.int p3), .val (.int p4), .val (.int p5), .val (.int p6), .val (.long cx), .second, .val (.long cy), .second, .val (.long ax), .second, .unset, .unset, .unset, .unset, .unset, .unset, .unset, .unset, .unset, .unset, .unset, .unset, .unset, .unset, .unset, .unset, .unset, .unset, .unset, .unset, .unset, .unset, .unset, .unset, .unset, .unset, .unset, .unset, .unset, .unset, .unset, .unset, .unset, .unset, .unset, .unset, .unset, .unset] [(.int p4)])) rfl (by rw [hml]; rfl) (argsL := [(.int p4)]) (rest := []) (lenOf pd_1 rfl) rfl (by show 2 * 0 + _ ≤ _; exact Nat.le_of_eq rfl) (hb hby at_19) (fun _ _ => ⟨rfl, eh_3, (by decide : 0 + 0 ≤ _), (by decide : 0 + 0 ≤ _)⟩)
  dsimp only [Pt.U, Pt.locs, Pt.cells, Pt.slots] at X_4 l_4 y_4 z_4 st_4 hQ_4
  subst l_4 y_4 z_4
  obtain ⟨ay, rfl, bay, N_4q, eh_4⟩ := hQ_4
  have N_4 := Fr.app N_3 N_4q
  refine Go.step (fun t k => st_4 t k) ?_
  show Go p.tables e below P (T_4.setTop (mkF m 22 #[.val (.int p1), .val (.int p2), .val (.int p3), .val (.int p4), .val (.int p5), .val (.int p6), .val (.long cx), .second, .val (.long cy), .second, .val (.long ax), .second, .unset, .unset, .unset, .unset, .unset, .unset, .unset, .unset, .unset, .unset, .unset, .unset, .unset, .unset, .unset, .unset, .unset, .unset, .unset, .unset, .unset, .unset, .unset, .unset, .unset, .unset, .unset, .unset, .unset, .unset, .unset, .unset, .unset, .unset, .unset, .unset, .unset, .unset] [(.long ay)]))
  refine Go.step (fun t k => XS.lstore X_4.here hx rfl (hb hby at_22) rfl (l' := #[.val (.int p1), .val (.int p2), .val (.int p3), .val (.int p4), .val (.int p5), .val (.int p6), .val (.long cx), .second, .val (.long cy), .second, .val (.long ax), .second, .val (.long ay), .second, .unset, .unset, .unset, .unset, .unset, .unset, .unset, .unset, .unset, .unset, .unset, .unset, .unset, .unset, .unset, .unset, .unset, .unset, .unset, .unset, .unset, .unset, .unset, .unset, .unset, .unset, .unset, .unset, .unset, .unset, .unset, .unset, .unset, .unset, .unset, .unset]) rfl k) ?_
  show Go p.tables e below P (T_4.setTop (mkF m 24 #[.val (.int p1), .val (.int p2), .val (.int p3), .val (.int p4), .val (.int p5), .val (.int p6), .val (.long cx), .second, .val (.long cy), .second, .val (.long ax), .second, .val (.long ay), .second, .unset, .unset, .unset, .unset, .unset, .unset, .unset, .unset, .unset, .unset, .unset, .unset, .unset, .unset, .unset, .unset, .unset, .unset, .unset, .unset, .unset, .unset, .unset, .unset, .unset, .unset, .unset, .unset, .unset, .unset, .unset, .unset, .unset, .unset, .unset, .unset] []))
  refine Go.step (fun t k => XS.iload X_4.here hx rfl (hb hby at_24) rfl  k) ?_
  show Go p.tables e below P (T_4.setTop (mkF m 26 #[.val (.int p1), .val (.int p2), .val (.int p3), .val (.int p4), .val (.int p5), .val (.int p6), .val (.long cx), .second, .val (.long cy), .second, .val (.long ax), .second, .val (.long ay), .second, .unset, .unset, .unset, .unset, .unset, .unset, .unset, .unset, .unset, .unset, .unset, .unset, .unset, .unset, .unset, .unset, .unset, .unset, .unset, .unset, .unset, .unset, .unset, .unset, .unset, .unset, .unset, .unset, .unset, .unset, .unset, .unset, .unset, .unset, .unset, .unset] [(.int p5)]))
  obtain ⟨_, _, ⟨T_5, L_5, k_5, n_5⟩, -, X_5, ⟨Lc_5, hQ_5, l_5, y_5, z_5⟩, st_5⟩ := Jvm.LawKit.callS X_4 hx (y := (⟨"com/example/geofence/geofence/geometry/CircleSquaredDistancePinLaw", "coord", "(I)J"⟩ : MethodName)) hown (mvT hZ (hw _ (List.mem_of_getElem? (i := 0) rfl))) (mvT hZ (hw _ (List.mem_of_getElem? (i := 1) rfl))) (mvT hZ (hw _ (List.mem_of_getElem? (i := 2) rfl))) (mvT hZ (hw _ (List.mem_of_getElem? (i := 3) rfl))) (by decide) (backOf (W := 0) (rm2 l Z a0 hw [] p5 h0 n0 Z0 ) hZ (hw _ (List.mem_of_getElem? (i := 3) rfl)) (hw _ (List.mem_of_getElem? (i := 2) rfl)) (by decide) (by decide)) (g := (mkF m 26 #[.val (.int p1), .val (.int p2), .val (.int p3), .val (.int p4), .val (.int p5), .val (.int p6), .val (.long cx), .second, .val (.long cy), .second, .val (.long ax), .second, .val (.long ay), .second, .unset, .unset, .unset, .unset, .unset, .unset, .unset, .unset, .unset, .unset, .unset, .unset, .unset, .unset, .unset, .unset, .unset, .unset, .unset, .unset, .unset, .unset, .unset, .unset, .unset, .unset, .unset, .unset, .unset, .unset, .unset, .unset, .unset, .unset, .unset, .unset] [(.int p5)])) rfl (by rw [hml]; rfl) (argsL := [(.int p5)]) (rest := []) (lenOf pd_1 rfl) rfl (by show 2 * 0 + _ ≤ _; exact Nat.le_of_eq rfl) (hb hby at_26) (fun _ _ => ⟨rfl, eh_4, (by decide : 0 + 0 ≤ _), (by decide : 0 + 0 ≤ _)⟩)
  dsimp only [Pt.U, Pt.locs, Pt.cells, Pt.slots] at X_5 l_5 y_5 z_5 st_5 hQ_5
  subst l_5 y_5 z_5
  obtain ⟨bx, rfl, bbx, N_5q, eh_5⟩ := hQ_5
  have N_5 := Fr.app N_4 N_5q
  refine Go.step (fun t k => st_5 t k) ?_
  show Go p.tables e below P (T_5.setTop (mkF m 29 #[.val (.int p1), .val (.int p2), .val (.int p3), .val (.int p4), .val (.int p5), .val (.int p6), .val (.long cx), .second, .val (.long cy), .second, .val (.long ax), .second, .val (.long ay), .second, .unset, .unset, .unset, .unset, .unset, .unset, .unset, .unset, .unset, .unset, .unset, .unset, .unset, .unset, .unset, .unset, .unset, .unset, .unset, .unset, .unset, .unset, .unset, .unset, .unset, .unset, .unset, .unset, .unset, .unset, .unset, .unset, .unset, .unset, .unset, .unset] [(.long bx)]))
  refine Go.step (fun t k => XS.lstore X_5.here hx rfl (hb hby at_29) rfl (l' := #[.val (.int p1), .val (.int p2), .val (.int p3), .val (.int p4), .val (.int p5), .val (.int p6), .val (.long cx), .second, .val (.long cy), .second, .val (.long ax), .second, .val (.long ay), .second, .val (.long bx), .second, .unset, .unset, .unset, .unset, .unset, .unset, .unset, .unset, .unset, .unset, .unset, .unset, .unset, .unset, .unset, .unset, .unset, .unset, .unset, .unset, .unset, .unset, .unset, .unset, .unset, .unset, .unset, .unset, .unset, .unset, .unset, .unset, .unset, .unset]) rfl k) ?_
  show Go p.tables e below P (T_5.setTop (mkF m 31 #[.val (.int p1), .val (.int p2), .val (.int p3), .val (.int p4), .val (.int p5), .val (.int p6), .val (.long cx), .second, .val (.long cy), .second, .val (.long ax), .second, .val (.long ay), .second, .val (.long bx), .second, .unset, .unset, .unset, .unset, .unset, .unset, .unset, .unset, .unset, .unset, .unset, .unset, .unset, .unset, .unset, .unset, .unset, .unset, .unset, .unset, .unset, .unset, .unset, .unset, .unset, .unset, .unset, .unset, .unset, .unset, .unset, .unset, .unset, .unset] []))
  refine Go.step (fun t k => XS.iload X_5.here hx rfl (hb hby at_31) rfl  k) ?_
  show Go p.tables e below P (T_5.setTop (mkF m 33 #[.val (.int p1), .val (.int p2), .val (.int p3), .val (.int p4), .val (.int p5), .val (.int p6), .val (.long cx), .second, .val (.long cy), .second, .val (.long ax), .second, .val (.long ay), .second, .val (.long bx), .second, .unset, .unset, .unset, .unset, .unset, .unset, .unset, .unset, .unset, .unset, .unset, .unset, .unset, .unset, .unset, .unset, .unset, .unset, .unset, .unset, .unset, .unset, .unset, .unset, .unset, .unset, .unset, .unset, .unset, .unset, .unset, .unset, .unset, .unset] [(.int p6)]))
  obtain ⟨_, _, ⟨T_6, L_6, k_6, n_6⟩, -, X_6, ⟨Lc_6, hQ_6, l_6, y_6, z_6⟩, st_6⟩ := Jvm.LawKit.callS X_5 hx (y := (⟨"com/example/geofence/geofence/geometry/CircleSquaredDistancePinLaw", "coord", "(I)J"⟩ : MethodName)) hown (mvT hZ (hw _ (List.mem_of_getElem? (i := 0) rfl))) (mvT hZ (hw _ (List.mem_of_getElem? (i := 1) rfl))) (mvT hZ (hw _ (List.mem_of_getElem? (i := 2) rfl))) (mvT hZ (hw _ (List.mem_of_getElem? (i := 3) rfl))) (by decide) (backOf (W := 0) (rm2 l Z a0 hw [] p6 h0 n0 Z0 ) hZ (hw _ (List.mem_of_getElem? (i := 3) rfl)) (hw _ (List.mem_of_getElem? (i := 2) rfl)) (by decide) (by decide)) (g := (mkF m 33 #[.val (.int p1), .val (.int p2), .val (.int p3), .val (.int p4), .val (.int p5), .val (.int p6), .val (.long cx), .second, .val (.long cy), .second, .val (.long ax), .second, .val (.long ay), .second, .val (.long bx), .second, .unset, .unset, .unset, .unset, .unset, .unset, .unset, .unset, .unset, .unset, .unset, .unset, .unset, .unset, .unset, .unset, .unset, .unset, .unset, .unset, .unset, .unset, .unset, .unset, .unset, .unset, .unset, .unset, .unset, .unset, .unset, .unset, .unset, .unset] [(.int p6)])) rfl (by rw [hml]; rfl) (argsL := [(.int p6)]) (rest := []) (lenOf pd_1 rfl) rfl (by show 2 * 0 + _ ≤ _; exact Nat.le_of_eq rfl) (hb hby at_33) (fun _ _ => ⟨rfl, eh_5, (by decide : 0 + 0 ≤ _), (by decide : 0 + 0 ≤ _)⟩)
  dsimp only [Pt.U, Pt.locs, Pt.cells, Pt.slots] at X_6 l_6 y_6 z_6 st_6 hQ_6
  subst l_6 y_6 z_6
  obtain ⟨by2, rfl, bby2, N_6q, eh_6⟩ := hQ_6
  have N_6 := Fr.app N_5 N_6q
  refine Go.step (fun t k => st_6 t k) ?_
  show Go p.tables e below P (T_6.setTop (mkF m 36 #[.val (.int p1), .val (.int p2), .val (.int p3), .val (.int p4), .val (.int p5), .val (.int p6), .val (.long cx), .second, .val (.long cy), .second, .val (.long ax), .second, .val (.long ay), .second, .val (.long bx), .second, .unset, .unset, .unset, .unset, .unset, .unset, .unset, .unset, .unset, .unset, .unset, .unset, .unset, .unset, .unset, .unset, .unset, .unset, .unset, .unset, .unset, .unset, .unset, .unset, .unset, .unset, .unset, .unset, .unset, .unset, .unset, .unset, .unset, .unset] [(.long by2)]))
  refine Go.step (fun t k => XS.lstore X_6.here hx rfl (hb hby at_36) rfl (l' := #[.val (.int p1), .val (.int p2), .val (.int p3), .val (.int p4), .val (.int p5), .val (.int p6), .val (.long cx), .second, .val (.long cy), .second, .val (.long ax), .second, .val (.long ay), .second, .val (.long bx), .second, .val (.long by2), .second, .unset, .unset, .unset, .unset, .unset, .unset, .unset, .unset, .unset, .unset, .unset, .unset, .unset, .unset, .unset, .unset, .unset, .unset, .unset, .unset, .unset, .unset, .unset, .unset, .unset, .unset, .unset, .unset, .unset, .unset, .unset, .unset]) rfl k) ?_
  show Go p.tables e below P (T_6.setTop (mkF m 38 #[.val (.int p1), .val (.int p2), .val (.int p3), .val (.int p4), .val (.int p5), .val (.int p6), .val (.long cx), .second, .val (.long cy), .second, .val (.long ax), .second, .val (.long ay), .second, .val (.long bx), .second, .val (.long by2), .second, .unset, .unset, .unset, .unset, .unset, .unset, .unset, .unset, .unset, .unset, .unset, .unset, .unset, .unset, .unset, .unset, .unset, .unset, .unset, .unset, .unset, .unset, .unset, .unset, .unset, .unset, .unset, .unset, .unset, .unset, .unset, .unset] []))
  refine Go.step (fun t k => XS.iloadN X_6.here hx rfl (hb hby at_38) rfl  k) ?_
  show Go p.tables e below P (T_6.setTop (mkF m 39 #[.val (.int p1), .val (.int p2), .val (.int p3), .val (.int p4), .val (.int p5), .val (.int p6), .val (.long cx), .second, .val (.long cy), .second, .val (.long ax), .second, .val (.long ay), .second, .val (.long bx), .second, .val (.long by2), .second, .unset, .unset, .unset, .unset, .unset, .unset, .unset, .unset, .unset, .unset, .unset, .unset, .unset, .unset, .unset, .unset, .unset, .unset, .unset, .unset, .unset, .unset, .unset, .unset, .unset, .unset, .unset, .unset, .unset, .unset, .unset, .unset] [(.int p1)]))
  refine Go.step (fun t k => XS.bipush X_6.here hx rfl (hb hby at_39) k) ?_
  show Go p.tables e below P (T_6.setTop (mkF m 41 #[.val (.int p1), .val (.int p2), .val (.int p3), .val (.int p4), .val (.int p5), .val (.int p6), .val (.long cx), .second, .val (.long cy), .second, .val (.long ax), .second, .val (.long ay), .second, .val (.long bx), .second, .val (.long by2), .second, .unset, .unset, .unset, .unset, .unset, .unset, .unset, .unset, .unset, .unset, .unset, .unset, .unset, .unset, .unset, .unset, .unset, .unset, .unset, .unset, .unset, .unset, .unset, .unset, .unset, .unset, .unset, .unset, .unset, .unset, .unset, .unset] [(.int (30 : Int32)), (.int p1)]))
  obtain ⟨i41, hi41⟩ : ∃ z : Int32, ((p1.toUInt32 >>> ((30 : Int32) &&& 31).toUInt32).toInt32) = z := ⟨_, rfl⟩
  refine Go.step (fun t k => iushr_v X_6.here hx rfl (hb hby at_41) rfl  hi41 k) ?_
  show Go p.tables e below P (T_6.setTop (mkF m 42 #[.val (.int p1), .val (.int p2), .val (.int p3), .val (.int p4), .val (.int p5), .val (.int p6), .val (.long cx), .second, .val (.long cy), .second, .val (.long ax), .second, .val (.long ay), .second, .val (.long bx), .second, .val (.long by2), .second, .unset, .unset, .unset, .unset, .unset, .unset, .unset, .unset, .unset, .unset, .unset, .unset, .unset, .unset, .unset, .unset, .unset, .unset, .unset, .unset, .unset, .unset, .unset, .unset, .unset, .unset, .unset, .unset, .unset, .unset, .unset, .unset] [(.int i41)]))
  refine Go.step (fun t k => XS.istore X_6.here hx rfl (hb hby at_42) rfl (l' := #[.val (.int p1), .val (.int p2), .val (.int p3), .val (.int p4), .val (.int p5), .val (.int p6), .val (.long cx), .second, .val (.long cy), .second, .val (.long ax), .second, .val (.long ay), .second, .val (.long bx), .second, .val (.long by2), .second, .val (.int i41), .unset, .unset, .unset, .unset, .unset, .unset, .unset, .unset, .unset, .unset, .unset, .unset, .unset, .unset, .unset, .unset, .unset, .unset, .unset, .unset, .unset, .unset, .unset, .unset, .unset, .unset, .unset, .unset, .unset, .unset, .unset]) rfl k) ?_
  show Go p.tables e below P (T_6.setTop (mkF m 44 #[.val (.int p1), .val (.int p2), .val (.int p3), .val (.int p4), .val (.int p5), .val (.int p6), .val (.long cx), .second, .val (.long cy), .second, .val (.long ax), .second, .val (.long ay), .second, .val (.long bx), .second, .val (.long by2), .second, .val (.int i41), .unset, .unset, .unset, .unset, .unset, .unset, .unset, .unset, .unset, .unset, .unset, .unset, .unset, .unset, .unset, .unset, .unset, .unset, .unset, .unset, .unset, .unset, .unset, .unset, .unset, .unset, .unset, .unset, .unset, .unset, .unset] []))
  have f41 := c_iushr p1 (30 : Int32) 30 rfl (by decide); rw [hi41] at f41
  have b41 : 0 ≤ i41.toInt ∧ i41.toInt ≤ 3 := by omega
  clear f41
  have J80 : ∀ (sd : UInt64) (ks : Nat), (DE ks 1 sd ∧ 874 ≤ ks ∧ ks ≤ 1274) → Go p.tables e below P (T_6.setTop (mkF m 80 #[.val (.int p1), .val (.int p2), .val (.int p3), .val (.int p4), .val (.int p5), .val (.int p6), .val (.long cx), .second, .val (.long cy), .second, .val (.long ax), .second, .val (.long ay), .second, .val (.long bx), .second, .val (.long by2), .second, .val (.int i41), .unset, .unset, .unset, .unset, .unset, .unset, .unset, .unset, .unset, .unset, .unset, .unset, .unset, .unset, .unset, .unset, .unset, .unset, .unset, .unset, .unset, .unset, .unset, .unset, .unset, .unset, .unset, .unset, .unset, .unset, .unset] [(.double sd)])) := by
    intro sd ks hj_
    show Go p.tables e below P (T_6.setTop (mkF m 80 #[.val (.int p1), .val (.int p2), .val (.int p3), .val (.int p4), .val (.int p5), .val (.int p6), .val (.long cx), .second, .val (.long cy), .second, .val (.long ax), .second, .val (.long ay), .second, .val (.long bx), .second, .val (.long by2), .second, .val (.int i41), .unset, .unset, .unset, .unset, .unset, .unset, .unset, .unset, .unset, .unset, .unset, .unset, .unset, .unset, .unset, .unset, .unset, .unset, .unset, .unset, .unset, .unset, .unset, .unset, .unset, .unset, .unset, .unset, .unset, .unset, .unset] [(.double sd)]))
    obtain ⟨qs, bks⟩ := hj_
    refine Go.step (fun t k => XS.dstore X_6.here hx rfl (hb hby at_80) rfl (l' := #[.val (.int p1), .val (.int p2), .val (.int p3), .val (.int p4), .val (.int p5), .val (.int p6), .val (.long cx), .second, .val (.long cy), .second, .val (.long ax), .second, .val (.long ay), .second, .val (.long bx), .second, .val (.long by2), .second, .val (.int i41), .val (.double sd), .second, .unset, .unset, .unset, .unset, .unset, .unset, .unset, .unset, .unset, .unset, .unset, .unset, .unset, .unset, .unset, .unset, .unset, .unset, .unset, .unset, .unset, .unset, .unset, .unset, .unset, .unset, .unset, .unset, .unset]) rfl k) ?_
    show Go p.tables e below P (T_6.setTop (mkF m 82 #[.val (.int p1), .val (.int p2), .val (.int p3), .val (.int p4), .val (.int p5), .val (.int p6), .val (.long cx), .second, .val (.long cy), .second, .val (.long ax), .second, .val (.long ay), .second, .val (.long bx), .second, .val (.long by2), .second, .val (.int i41), .val (.double sd), .second, .unset, .unset, .unset, .unset, .unset, .unset, .unset, .unset, .unset, .unset, .unset, .unset, .unset, .unset, .unset, .unset, .unset, .unset, .unset, .unset, .unset, .unset, .unset, .unset, .unset, .unset, .unset, .unset, .unset] []))
    refine Go.step (fun t k => XS.iconst X_6.here hx rfl (hb hby at_82) k) ?_
    show Go p.tables e below P (T_6.setTop (mkF m 83 #[.val (.int p1), .val (.int p2), .val (.int p3), .val (.int p4), .val (.int p5), .val (.int p6), .val (.long cx), .second, .val (.long cy), .second, .val (.long ax), .second, .val (.long ay), .second, .val (.long bx), .second, .val (.long by2), .second, .val (.int i41), .val (.double sd), .second, .unset, .unset, .unset, .unset, .unset, .unset, .unset, .unset, .unset, .unset, .unset, .unset, .unset, .unset, .unset, .unset, .unset, .unset, .unset, .unset, .unset, .unset, .unset, .unset, .unset, .unset, .unset, .unset, .unset] [(.int (1 : Int32))]))
    refine Go.step (fun t k => XS.iloadN X_6.here hx rfl (hb hby at_83) rfl  k) ?_
    show Go p.tables e below P (T_6.setTop (mkF m 84 #[.val (.int p1), .val (.int p2), .val (.int p3), .val (.int p4), .val (.int p5), .val (.int p6), .val (.long cx), .second, .val (.long cy), .second, .val (.long ax), .second, .val (.long ay), .second, .val (.long bx), .second, .val (.long by2), .second, .val (.int i41), .val (.double sd), .second, .unset, .unset, .unset, .unset, .unset, .unset, .unset, .unset, .unset, .unset, .unset, .unset, .unset, .unset, .unset, .unset, .unset, .unset, .unset, .unset, .unset, .unset, .unset, .unset, .unset, .unset, .unset, .unset, .unset] [(.int p2), (.int (1 : Int32))]))
    refine Go.step (fun t k => XS.bipush X_6.here hx rfl (hb hby at_84) k) ?_
    show Go p.tables e below P (T_6.setTop (mkF m 86 #[.val (.int p1), .val (.int p2), .val (.int p3), .val (.int p4), .val (.int p5), .val (.int p6), .val (.long cx), .second, .val (.long cy), .second, .val (.long ax), .second, .val (.long ay), .second, .val (.long bx), .second, .val (.long by2), .second, .val (.int i41), .val (.double sd), .second, .unset, .unset, .unset, .unset, .unset, .unset, .unset, .unset, .unset, .unset, .unset, .unset, .unset, .unset, .unset, .unset, .unset, .unset, .unset, .unset, .unset, .unset, .unset, .unset, .unset, .unset, .unset, .unset, .unset] [(.int (28 : Int32)), (.int p2), (.int (1 : Int32))]))
    obtain ⟨i86, hi86⟩ : ∃ z : Int32, ((p2.toUInt32 >>> ((28 : Int32) &&& 31).toUInt32).toInt32) = z := ⟨_, rfl⟩
    refine Go.step (fun t k => iushr_v X_6.here hx rfl (hb hby at_86) rfl  hi86 k) ?_
    show Go p.tables e below P (T_6.setTop (mkF m 87 #[.val (.int p1), .val (.int p2), .val (.int p3), .val (.int p4), .val (.int p5), .val (.int p6), .val (.long cx), .second, .val (.long cy), .second, .val (.long ax), .second, .val (.long ay), .second, .val (.long bx), .second, .val (.long by2), .second, .val (.int i41), .val (.double sd), .second, .unset, .unset, .unset, .unset, .unset, .unset, .unset, .unset, .unset, .unset, .unset, .unset, .unset, .unset, .unset, .unset, .unset, .unset, .unset, .unset, .unset, .unset, .unset, .unset, .unset, .unset, .unset, .unset, .unset] [(.int i86), (.int (1 : Int32))]))
    obtain ⟨i87, hi87⟩ : ∃ z : Int32, (1 : Int32) + i86 = z := ⟨_, rfl⟩
    refine Go.step (fun t k => iadd_v X_6.here hx rfl (hb hby at_87) rfl  hi87 k) ?_
    show Go p.tables e below P (T_6.setTop (mkF m 88 #[.val (.int p1), .val (.int p2), .val (.int p3), .val (.int p4), .val (.int p5), .val (.int p6), .val (.long cx), .second, .val (.long cy), .second, .val (.long ax), .second, .val (.long ay), .second, .val (.long bx), .second, .val (.long by2), .second, .val (.int i41), .val (.double sd), .second, .unset, .unset, .unset, .unset, .unset, .unset, .unset, .unset, .unset, .unset, .unset, .unset, .unset, .unset, .unset, .unset, .unset, .unset, .unset, .unset, .unset, .unset, .unset, .unset, .unset, .unset, .unset, .unset, .unset] [(.int i87)]))
    obtain ⟨d88, hd88⟩ : ∃ z : UInt64, FP.i2d i87 = z := ⟨_, rfl⟩
    refine Go.step (fun t k => XS.i2dS X_6.here hx rfl (hb hby at_88) rfl hd88 k) ?_
    show Go p.tables e below P (T_6.setTop (mkF m 89 #[.val (.int p1), .val (.int p2), .val (.int p3), .val (.int p4), .val (.int p5), .val (.int p6), .val (.long cx), .second, .val (.long cy), .second, .val (.long ax), .second, .val (.long ay), .second, .val (.long bx), .second, .val (.long by2), .second, .val (.int i41), .val (.double sd), .second, .unset, .unset, .unset, .unset, .unset, .unset, .unset, .unset, .unset, .unset, .unset, .unset, .unset, .unset, .unset, .unset, .unset, .unset, .unset, .unset, .unset, .unset, .unset, .unset, .unset, .unset, .unset, .unset, .unset] [(.double d88)]))
    refine Go.step (fun t k => XS.dstore X_6.here hx rfl (hb hby at_89) rfl (l' := #[.val (.int p1), .val (.int p2), .val (.int p3), .val (.int p4), .val (.int p5), .val (.int p6), .val (.long cx), .second, .val (.long cy), .second, .val (.long ax), .second, .val (.long ay), .second, .val (.long bx), .second, .val (.long by2), .second, .val (.int i41), .val (.double sd), .second, .val (.double d88), .second, .unset, .unset, .unset, .unset, .unset, .unset, .unset, .unset, .unset, .unset, .unset, .unset, .unset, .unset, .unset, .unset, .unset, .unset, .unset, .unset, .unset, .unset, .unset, .unset, .unset, .unset, .unset]) rfl k) ?_
    show Go p.tables e below P (T_6.setTop (mkF m 91 #[.val (.int p1), .val (.int p2), .val (.int p3), .val (.int p4), .val (.int p5), .val (.int p6), .val (.long cx), .second, .val (.long cy), .second, .val (.long ax), .second, .val (.long ay), .second, .val (.long bx), .second, .val (.long by2), .second, .val (.int i41), .val (.double sd), .second, .val (.double d88), .second, .unset, .unset, .unset, .unset, .unset, .unset, .unset, .unset, .unset, .unset, .unset, .unset, .unset, .unset, .unset, .unset, .unset, .unset, .unset, .unset, .unset, .unset, .unset, .unset, .unset, .unset, .unset] []))
    obtain ⟨T_7, h_7, X_7, e_7, E_7, A_7, D_7, -, st_7⟩ := newO X_6 hx hZ hown (hw _ (List.mem_of_getElem? (i := 4) rfl)) (hw _ (List.mem_of_getElem? (i := 5) rfl)) (hw _ (List.mem_of_getElem? (i := 6) rfl)) eh_6 (g := (mkF m 91 #[.val (.int p1), .val (.int p2), .val (.int p3), .val (.int p4), .val (.int p5), .val (.int p6), .val (.long cx), .second, .val (.long cy), .second, .val (.long ax), .second, .val (.long ay), .second, .val (.long bx), .second, .val (.long by2), .second, .val (.int i41), .val (.double sd), .second, .val (.double d88), .second, .unset, .unset, .unset, .unset, .unset, .unset, .unset, .unset, .unset, .unset, .unset, .unset, .unset, .unset, .unset, .unset, .unset, .unset, .unset, .unset, .unset, .unset, .unset, .unset, .unset, .unset, .unset] [])) rfl (hb hby at_91) (by decide) (by decide)
    obtain ⟨b_7, g_7⟩ : ∃ z, z = h0.size := ⟨_, rfl⟩
    rw [← g_7] at A_7 D_7 st_7
    have g_b_7 : n0 ≤ b_7 := Nat.le_trans Z0 (Nat.le_of_eq g_7.symm)
    have sz_b_7 : h0.size ≤ b_7 := Nat.le_trans (Keep.refl h0 []).1 (Nat.le_of_eq g_7.symm)
    have F_x_b_7 : Fld Z h_7 b_7 "com/example/geofence/geofence/geometry/Circle" "x" "D" (.double (0 : UInt64)) := D_7 (Or.inr (hw _ (List.mem_of_getElem? (i := 19) rfl))) (ty := .double) (by decide)
    have F_y_b_7 : Fld Z h_7 b_7 "com/example/geofence/geofence/geometry/Circle" "y" "D" (.double (0 : UInt64)) := D_7 (Or.inr (hw _ (List.mem_of_getElem? (i := 21) rfl))) (ty := .double) (by decide)
    have F_radius_b_7 : Fld Z h_7 b_7 "com/example/geofence/geofence/geometry/Circle" "radius" "D" (.double (0 : UInt64)) := D_7 (Or.inr (hw _ (List.mem_of_getElem? (i := 23) rfl))) (ty := .double) (by decide)
    have K_7 : Keep h0 h_7 [] := (Keep.refl h0 []).ext E_7
    have Z_7 : n0 ≤ h_7.size := Nat.le_trans Z0 E_7.1
    refine Go.step (fun t k => st_7 t k) ?_
    show Go p.tables e below P (T_7.setTop (mkF m 94 #[.val (.int p1), .val (.int p2), .val (.int p3), .val (.int p4), .val (.int p5), .val (.int p6), .val (.long cx), .second, .val (.long cy), .second, .val (.long ax), .second, .val (.long ay), .second, .val (.long bx), .second, .val (.long by2), .second, .val (.int i41), .val (.double sd), .second, .val (.double d88), .second, .unset, .unset, .unset, .unset, .unset, .unset, .unset, .unset, .unset, .unset, .unset, .unset, .unset, .unset, .unset, .unset, .unset, .unset, .unset, .unset, .unset, .unset, .unset, .unset, .unset, .unset, .unset] [(.ref b_7)]))
    refine Go.step (fun t k => XS.dup X_7.here hx rfl (hb hby at_94) rfl rfl k) ?_
    show Go p.tables e below P (T_7.setTop (mkF m 95 #[.val (.int p1), .val (.int p2), .val (.int p3), .val (.int p4), .val (.int p5), .val (.int p6), .val (.long cx), .second, .val (.long cy), .second, .val (.long ax), .second, .val (.long ay), .second, .val (.long bx), .second, .val (.long by2), .second, .val (.int i41), .val (.double sd), .second, .val (.double d88), .second, .unset, .unset, .unset, .unset, .unset, .unset, .unset, .unset, .unset, .unset, .unset, .unset, .unset, .unset, .unset, .unset, .unset, .unset, .unset, .unset, .unset, .unset, .unset, .unset, .unset, .unset, .unset] [(.ref b_7), (.ref b_7)]))
    refine Go.step (fun t k => XS.lload X_7.here hx rfl (hb hby at_95) rfl  k) ?_
    show Go p.tables e below P (T_7.setTop (mkF m 97 #[.val (.int p1), .val (.int p2), .val (.int p3), .val (.int p4), .val (.int p5), .val (.int p6), .val (.long cx), .second, .val (.long cy), .second, .val (.long ax), .second, .val (.long ay), .second, .val (.long bx), .second, .val (.long by2), .second, .val (.int i41), .val (.double sd), .second, .val (.double d88), .second, .unset, .unset, .unset, .unset, .unset, .unset, .unset, .unset, .unset, .unset, .unset, .unset, .unset, .unset, .unset, .unset, .unset, .unset, .unset, .unset, .unset, .unset, .unset, .unset, .unset, .unset, .unset] [(.long cx), (.ref b_7), (.ref b_7)]))
    obtain ⟨d97, hd97⟩ : ∃ z : UInt64, FP.l2d cx = z := ⟨_, rfl⟩
    refine Go.step (fun t k => XS.l2dS X_7.here hx rfl (hb hby at_97) rfl hd97 k) ?_
    show Go p.tables e below P (T_7.setTop (mkF m 98 #[.val (.int p1), .val (.int p2), .val (.int p3), .val (.int p4), .val (.int p5), .val (.int p6), .val (.long cx), .second, .val (.long cy), .second, .val (.long ax), .second, .val (.long ay), .second, .val (.long bx), .second, .val (.long by2), .second, .val (.int i41), .val (.double sd), .second, .val (.double d88), .second, .unset, .unset, .unset, .unset, .unset, .unset, .unset, .unset, .unset, .unset, .unset, .unset, .unset, .unset, .unset, .unset, .unset, .unset, .unset, .unset, .unset, .unset, .unset, .unset, .unset, .unset, .unset] [(.double d97), (.ref b_7), (.ref b_7)]))
    have rcx := l2d_e (x := cx) (by omega); rw [hd97] at rcx
    refine Go.step (fun t k => XS.dload X_7.here hx rfl (hb hby at_98) rfl  k) ?_
    show Go p.tables e below P (T_7.setTop (mkF m 100 #[.val (.int p1), .val (.int p2), .val (.int p3), .val (.int p4), .val (.int p5), .val (.int p6), .val (.long cx), .second, .val (.long cy), .second, .val (.long ax), .second, .val (.long ay), .second, .val (.long bx), .second, .val (.long by2), .second, .val (.int i41), .val (.double sd), .second, .val (.double d88), .second, .unset, .unset, .unset, .unset, .unset, .unset, .unset, .unset, .unset, .unset, .unset, .unset, .unset, .unset, .unset, .unset, .unset, .unset, .unset, .unset, .unset, .unset, .unset, .unset, .unset, .unset, .unset] [(.double sd), (.double d97), (.ref b_7), (.ref b_7)]))
    obtain ⟨d100, hd100⟩ : ∃ z : UInt64, FP.dmul d97 sd = z := ⟨_, rfl⟩
    have qcx := mul_e (k := ks) (n := cx.toInt) rcx qs (by omega) (Int.mul_one _) (by omega) (by omega)
    rw [hd100] at qcx
    refine Go.step (fun t k => XS.dmulS X_7.here hx rfl (hb hby at_100) rfl (hd100 ▸ qcx.nn) hd100 k) ?_
    show Go p.tables e below P (T_7.setTop (mkF m 101 #[.val (.int p1), .val (.int p2), .val (.int p3), .val (.int p4), .val (.int p5), .val (.int p6), .val (.long cx), .second, .val (.long cy), .second, .val (.long ax), .second, .val (.long ay), .second, .val (.long bx), .second, .val (.long by2), .second, .val (.int i41), .val (.double sd), .second, .val (.double d88), .second, .unset, .unset, .unset, .unset, .unset, .unset, .unset, .unset, .unset, .unset, .unset, .unset, .unset, .unset, .unset, .unset, .unset, .unset, .unset, .unset, .unset, .unset, .unset, .unset, .unset, .unset, .unset] [(.double d100), (.ref b_7), (.ref b_7)]))
    refine Go.step (fun t k => XS.lload X_7.here hx rfl (hb hby at_101) rfl  k) ?_
    show Go p.tables e below P (T_7.setTop (mkF m 103 #[.val (.int p1), .val (.int p2), .val (.int p3), .val (.int p4), .val (.int p5), .val (.int p6), .val (.long cx), .second, .val (.long cy), .second, .val (.long ax), .second, .val (.long ay), .second, .val (.long bx), .second, .val (.long by2), .second, .val (.int i41), .val (.double sd), .second, .val (.double d88), .second, .unset, .unset, .unset, .unset, .unset, .unset, .unset, .unset, .unset, .unset, .unset, .unset, .unset, .unset, .unset, .unset, .unset, .unset, .unset, .unset, .unset, .unset, .unset, .unset, .unset, .unset, .unset] [(.long cy), (.double d100), (.ref b_7), (.ref b_7)]))
    obtain ⟨d103, hd103⟩ : ∃ z : UInt64, FP.l2d cy = z := ⟨_, rfl⟩
    refine Go.step (fun t k => XS.l2dS X_7.here hx rfl (hb hby at_103) rfl hd103 k) ?_
    show Go p.tables e below P (T_7.setTop (mkF m 104 #[.val (.int p1), .val (.int p2), .val (.int p3), .val (.int p4), .val (.int p5), .val (.int p6), .val (.long cx), .second, .val (.long cy), .second, .val (.long ax), .second, .val (.long ay), .second, .val (.long bx), .second, .val (.long by2), .second, .val (.int i41), .val (.double sd), .second, .val (.double d88), .second, .unset, .unset, .unset, .unset, .unset, .unset, .unset, .unset, .unset, .unset, .unset, .unset, .unset, .unset, .unset, .unset, .unset, .unset, .unset, .unset, .unset, .unset, .unset, .unset, .unset, .unset, .unset] [(.double d103), (.double d100), (.ref b_7), (.ref b_7)]))
    have rcy := l2d_e (x := cy) (by omega); rw [hd103] at rcy
    refine Go.step (fun t k => XS.dload X_7.here hx rfl (hb hby at_104) rfl  k) ?_
    show Go p.tables e below P (T_7.setTop (mkF m 106 #[.val (.int p1), .val (.int p2), .val (.int p3), .val (.int p4), .val (.int p5), .val (.int p6), .val (.long cx), .second, .val (.long cy), .second, .val (.long ax), .second, .val (.long ay), .second, .val (.long bx), .second, .val (.long by2), .second, .val (.int i41), .val (.double sd), .second, .val (.double d88), .second, .unset, .unset, .unset, .unset, .unset, .unset, .unset, .unset, .unset, .unset, .unset, .unset, .unset, .unset, .unset, .unset, .unset, .unset, .unset, .unset, .unset, .unset, .unset, .unset, .unset, .unset, .unset] [(.double sd), (.double d103), (.double d100), (.ref b_7), (.ref b_7)]))
    obtain ⟨d106, hd106⟩ : ∃ z : UInt64, FP.dmul d103 sd = z := ⟨_, rfl⟩
    have qcy := mul_e (k := ks) (n := cy.toInt) rcy qs (by omega) (Int.mul_one _) (by omega) (by omega)
    rw [hd106] at qcy
    refine Go.step (fun t k => XS.dmulS X_7.here hx rfl (hb hby at_106) rfl (hd106 ▸ qcy.nn) hd106 k) ?_
    show Go p.tables e below P (T_7.setTop (mkF m 107 #[.val (.int p1), .val (.int p2), .val (.int p3), .val (.int p4), .val (.int p5), .val (.int p6), .val (.long cx), .second, .val (.long cy), .second, .val (.long ax), .second, .val (.long ay), .second, .val (.long bx), .second, .val (.long by2), .second, .val (.int i41), .val (.double sd), .second, .val (.double d88), .second, .unset, .unset, .unset, .unset, .unset, .unset, .unset, .unset, .unset, .unset, .unset, .unset, .unset, .unset, .unset, .unset, .unset, .unset, .unset, .unset, .unset, .unset, .unset, .unset, .unset, .unset, .unset] [(.double d106), (.double d100), (.ref b_7), (.ref b_7)]))
    refine Go.step (fun t k => XS.dload X_7.here hx rfl (hb hby at_107) rfl  k) ?_
    show Go p.tables e below P (T_7.setTop (mkF m 109 #[.val (.int p1), .val (.int p2), .val (.int p3), .val (.int p4), .val (.int p5), .val (.int p6), .val (.long cx), .second, .val (.long cy), .second, .val (.long ax), .second, .val (.long ay), .second, .val (.long bx), .second, .val (.long by2), .second, .val (.int i41), .val (.double sd), .second, .val (.double d88), .second, .unset, .unset, .unset, .unset, .unset, .unset, .unset, .unset, .unset, .unset, .unset, .unset, .unset, .unset, .unset, .unset, .unset, .unset, .unset, .unset, .unset, .unset, .unset, .unset, .unset, .unset, .unset] [(.double d88), (.double d106), (.double d100), (.ref b_7), (.ref b_7)]))
    obtain ⟨_, _, ⟨T_8, L_8, k_8, n_8⟩, -, X_8, ⟨Lc_8, hQ_8, l_8, y_8, z_8⟩, st_8⟩ := X_7.specialBack hx (y := (⟨"com/example/geofence/geofence/geometry/Circle", "<init>", "(DDD)V"⟩ : MethodName)) rfl hown (mvT hZ (hw _ (List.mem_of_getElem? (i := 7) rfl))) (mvT hZ (hw _ (List.mem_of_getElem? (i := 8) rfl))) (mvT hZ (hw _ (List.mem_of_getElem? (i := 9) rfl))) (by decide) (backOf (W := 1) (rm3 l Z a0 hw [] b_7 d100 d106 d88 h_7 n0 Z_7 A_7 F_x_b_7 F_y_b_7 F_radius_b_7 g_b_7 ) hZ (hw _ (List.mem_of_getElem? (i := 9) rfl)) (hw _ (List.mem_of_getElem? (i := 6) rfl)) (by decide) (by decide)) (g := (mkF m 109 #[.val (.int p1), .val (.int p2), .val (.int p3), .val (.int p4), .val (.int p5), .val (.int p6), .val (.long cx), .second, .val (.long cy), .second, .val (.long ax), .second, .val (.long ay), .second, .val (.long bx), .second, .val (.long by2), .second, .val (.int i41), .val (.double sd), .second, .val (.double d88), .second, .unset, .unset, .unset, .unset, .unset, .unset, .unset, .unset, .unset, .unset, .unset, .unset, .unset, .unset, .unset, .unset, .unset, .unset, .unset, .unset, .unset, .unset, .unset, .unset, .unset, .unset, .unset] [(.double d88), (.double d106), (.double d100), (.ref b_7), (.ref b_7)])) rfl (by rw [hml]; rfl) (Steps.refl _) (a := b_7) (argsL := [(.double d100), (.double d106), (.double d88)]) (rest := [(.ref b_7)]) (lenOf pd_2 rfl) rfl (by show 2 * 0 + _ ≤ _; exact Nat.le_of_eq rfl) (hb hby at_109) (fun _ _ => ⟨rfl, e_7, (by decide : 1 + 0 ≤ _), (by decide : 3 + 0 ≤ _)⟩)
    dsimp only [Pt.U, Pt.locs, Pt.cells, Pt.slots] at X_8 l_8 y_8 z_8 st_8 hQ_8
    subst l_8 y_8 z_8
    obtain ⟨rfl, N_8q, Kc_8, Ee_8, Ff_x__8, Ff_y__8, Ff_radius__8⟩ := hQ_8
    have N_8 := Fr.app N_6 N_8q
    have K_8 : Keep h0 T_8.heap [] := K_7.trans Kc_8 (allS (Or.inr sz_b_7) all0)
    have Z_8 : n0 ≤ T_8.heap.size := Nat.le_trans Z_7 Kc_8.1
    refine Go.tr st_8 ?_
    show Go p.tables e below P (T_8.setTop (mkF m 112 #[.val (.int p1), .val (.int p2), .val (.int p3), .val (.int p4), .val (.int p5), .val (.int p6), .val (.long cx), .second, .val (.long cy), .second, .val (.long ax), .second, .val (.long ay), .second, .val (.long bx), .second, .val (.long by2), .second, .val (.int i41), .val (.double sd), .second, .val (.double d88), .second, .unset, .unset, .unset, .unset, .unset, .unset, .unset, .unset, .unset, .unset, .unset, .unset, .unset, .unset, .unset, .unset, .unset, .unset, .unset, .unset, .unset, .unset, .unset, .unset, .unset, .unset, .unset] [(.ref b_7)]))
    refine Go.step (fun t k => XS.astore X_8.here hx rfl (hb hby at_112) rfl rfl (l' := #[.val (.int p1), .val (.int p2), .val (.int p3), .val (.int p4), .val (.int p5), .val (.int p6), .val (.long cx), .second, .val (.long cy), .second, .val (.long ax), .second, .val (.long ay), .second, .val (.long bx), .second, .val (.long by2), .second, .val (.int i41), .val (.double sd), .second, .val (.double d88), .second, .val (.ref b_7), .unset, .unset, .unset, .unset, .unset, .unset, .unset, .unset, .unset, .unset, .unset, .unset, .unset, .unset, .unset, .unset, .unset, .unset, .unset, .unset, .unset, .unset, .unset, .unset, .unset, .unset]) rfl k) ?_
    show Go p.tables e below P (T_8.setTop (mkF m 114 #[.val (.int p1), .val (.int p2), .val (.int p3), .val (.int p4), .val (.int p5), .val (.int p6), .val (.long cx), .second, .val (.long cy), .second, .val (.long ax), .second, .val (.long ay), .second, .val (.long bx), .second, .val (.long by2), .second, .val (.int i41), .val (.double sd), .second, .val (.double d88), .second, .val (.ref b_7), .unset, .unset, .unset, .unset, .unset, .unset, .unset, .unset, .unset, .unset, .unset, .unset, .unset, .unset, .unset, .unset, .unset, .unset, .unset, .unset, .unset, .unset, .unset, .unset, .unset, .unset] []))
    refine Go.step (fun t k => XS.aload X_8.here hx rfl (hb hby at_114) rfl rfl k) ?_
    show Go p.tables e below P (T_8.setTop (mkF m 116 #[.val (.int p1), .val (.int p2), .val (.int p3), .val (.int p4), .val (.int p5), .val (.int p6), .val (.long cx), .second, .val (.long cy), .second, .val (.long ax), .second, .val (.long ay), .second, .val (.long bx), .second, .val (.long by2), .second, .val (.int i41), .val (.double sd), .second, .val (.double d88), .second, .val (.ref b_7), .unset, .unset, .unset, .unset, .unset, .unset, .unset, .unset, .unset, .unset, .unset, .unset, .unset, .unset, .unset, .unset, .unset, .unset, .unset, .unset, .unset, .unset, .unset, .unset, .unset, .unset] [(.ref b_7)]))
    refine Go.step (fun t k => XS.lload X_8.here hx rfl (hb hby at_116) rfl  k) ?_
    show Go p.tables e below P (T_8.setTop (mkF m 118 #[.val (.int p1), .val (.int p2), .val (.int p3), .val (.int p4), .val (.int p5), .val (.int p6), .val (.long cx), .second, .val (.long cy), .second, .val (.long ax), .second, .val (.long ay), .second, .val (.long bx), .second, .val (.long by2), .second, .val (.int i41), .val (.double sd), .second, .val (.double d88), .second, .val (.ref b_7), .unset, .unset, .unset, .unset, .unset, .unset, .unset, .unset, .unset, .unset, .unset, .unset, .unset, .unset, .unset, .unset, .unset, .unset, .unset, .unset, .unset, .unset, .unset, .unset, .unset, .unset] [(.long ax), (.ref b_7)]))
    obtain ⟨d118, hd118⟩ : ∃ z : UInt64, FP.l2d ax = z := ⟨_, rfl⟩
    refine Go.step (fun t k => XS.l2dS X_8.here hx rfl (hb hby at_118) rfl hd118 k) ?_
    show Go p.tables e below P (T_8.setTop (mkF m 119 #[.val (.int p1), .val (.int p2), .val (.int p3), .val (.int p4), .val (.int p5), .val (.int p6), .val (.long cx), .second, .val (.long cy), .second, .val (.long ax), .second, .val (.long ay), .second, .val (.long bx), .second, .val (.long by2), .second, .val (.int i41), .val (.double sd), .second, .val (.double d88), .second, .val (.ref b_7), .unset, .unset, .unset, .unset, .unset, .unset, .unset, .unset, .unset, .unset, .unset, .unset, .unset, .unset, .unset, .unset, .unset, .unset, .unset, .unset, .unset, .unset, .unset, .unset, .unset, .unset] [(.double d118), (.ref b_7)]))
    have rax := l2d_e (x := ax) (by omega); rw [hd118] at rax
    refine Go.step (fun t k => XS.dload X_8.here hx rfl (hb hby at_119) rfl  k) ?_
    show Go p.tables e below P (T_8.setTop (mkF m 121 #[.val (.int p1), .val (.int p2), .val (.int p3), .val (.int p4), .val (.int p5), .val (.int p6), .val (.long cx), .second, .val (.long cy), .second, .val (.long ax), .second, .val (.long ay), .second, .val (.long bx), .second, .val (.long by2), .second, .val (.int i41), .val (.double sd), .second, .val (.double d88), .second, .val (.ref b_7), .unset, .unset, .unset, .unset, .unset, .unset, .unset, .unset, .unset, .unset, .unset, .unset, .unset, .unset, .unset, .unset, .unset, .unset, .unset, .unset, .unset, .unset, .unset, .unset, .unset, .unset] [(.double sd), (.double d118), (.ref b_7)]))
    obtain ⟨d121, hd121⟩ : ∃ z : UInt64, FP.dmul d118 sd = z := ⟨_, rfl⟩
    have qax := mul_e (k := ks) (n := ax.toInt) rax qs (by omega) (Int.mul_one _) (by omega) (by omega)
    rw [hd121] at qax
    refine Go.step (fun t k => XS.dmulS X_8.here hx rfl (hb hby at_121) rfl (hd121 ▸ qax.nn) hd121 k) ?_
    show Go p.tables e below P (T_8.setTop (mkF m 122 #[.val (.int p1), .val (.int p2), .val (.int p3), .val (.int p4), .val (.int p5), .val (.int p6), .val (.long cx), .second, .val (.long cy), .second, .val (.long ax), .second, .val (.long ay), .second, .val (.long bx), .second, .val (.long by2), .second, .val (.int i41), .val (.double sd), .second, .val (.double d88), .second, .val (.ref b_7), .unset, .unset, .unset, .unset, .unset, .unset, .unset, .unset, .unset, .unset, .unset, .unset, .unset, .unset, .unset, .unset, .unset, .unset, .unset, .unset, .unset, .unset, .unset, .unset, .unset, .unset] [(.double d121), (.ref b_7)]))
    refine Go.step (fun t k => XS.lload X_8.here hx rfl (hb hby at_122) rfl  k) ?_
    show Go p.tables e below P (T_8.setTop (mkF m 124 #[.val (.int p1), .val (.int p2), .val (.int p3), .val (.int p4), .val (.int p5), .val (.int p6), .val (.long cx), .second, .val (.long cy), .second, .val (.long ax), .second, .val (.long ay), .second, .val (.long bx), .second, .val (.long by2), .second, .val (.int i41), .val (.double sd), .second, .val (.double d88), .second, .val (.ref b_7), .unset, .unset, .unset, .unset, .unset, .unset, .unset, .unset, .unset, .unset, .unset, .unset, .unset, .unset, .unset, .unset, .unset, .unset, .unset, .unset, .unset, .unset, .unset, .unset, .unset, .unset] [(.long ay), (.double d121), (.ref b_7)]))
    obtain ⟨d124, hd124⟩ : ∃ z : UInt64, FP.l2d ay = z := ⟨_, rfl⟩
    refine Go.step (fun t k => XS.l2dS X_8.here hx rfl (hb hby at_124) rfl hd124 k) ?_
    show Go p.tables e below P (T_8.setTop (mkF m 125 #[.val (.int p1), .val (.int p2), .val (.int p3), .val (.int p4), .val (.int p5), .val (.int p6), .val (.long cx), .second, .val (.long cy), .second, .val (.long ax), .second, .val (.long ay), .second, .val (.long bx), .second, .val (.long by2), .second, .val (.int i41), .val (.double sd), .second, .val (.double d88), .second, .val (.ref b_7), .unset, .unset, .unset, .unset, .unset, .unset, .unset, .unset, .unset, .unset, .unset, .unset, .unset, .unset, .unset, .unset, .unset, .unset, .unset, .unset, .unset, .unset, .unset, .unset, .unset, .unset] [(.double d124), (.double d121), (.ref b_7)]))
    have ray := l2d_e (x := ay) (by omega); rw [hd124] at ray
    refine Go.step (fun t k => XS.dload X_8.here hx rfl (hb hby at_125) rfl  k) ?_
    show Go p.tables e below P (T_8.setTop (mkF m 127 #[.val (.int p1), .val (.int p2), .val (.int p3), .val (.int p4), .val (.int p5), .val (.int p6), .val (.long cx), .second, .val (.long cy), .second, .val (.long ax), .second, .val (.long ay), .second, .val (.long bx), .second, .val (.long by2), .second, .val (.int i41), .val (.double sd), .second, .val (.double d88), .second, .val (.ref b_7), .unset, .unset, .unset, .unset, .unset, .unset, .unset, .unset, .unset, .unset, .unset, .unset, .unset, .unset, .unset, .unset, .unset, .unset, .unset, .unset, .unset, .unset, .unset, .unset, .unset, .unset] [(.double sd), (.double d124), (.double d121), (.ref b_7)]))
    obtain ⟨d127, hd127⟩ : ∃ z : UInt64, FP.dmul d124 sd = z := ⟨_, rfl⟩
    have qay := mul_e (k := ks) (n := ay.toInt) ray qs (by omega) (Int.mul_one _) (by omega) (by omega)
    rw [hd127] at qay
    refine Go.step (fun t k => XS.dmulS X_8.here hx rfl (hb hby at_127) rfl (hd127 ▸ qay.nn) hd127 k) ?_
    show Go p.tables e below P (T_8.setTop (mkF m 128 #[.val (.int p1), .val (.int p2), .val (.int p3), .val (.int p4), .val (.int p5), .val (.int p6), .val (.long cx), .second, .val (.long cy), .second, .val (.long ax), .second, .val (.long ay), .second, .val (.long bx), .second, .val (.long by2), .second, .val (.int i41), .val (.double sd), .second, .val (.double d88), .second, .val (.ref b_7), .unset, .unset, .unset, .unset, .unset, .unset, .unset, .unset, .unset, .unset, .unset, .unset, .unset, .unset, .unset, .unset, .unset, .unset, .unset, .unset, .unset, .unset, .unset, .unset, .unset, .unset] [(.double d127), (.double d121), (.ref b_7)]))
    refine Go.step (fun t k => XS.lload X_8.here hx rfl (hb hby at_128) rfl  k) ?_
    show Go p.tables e below P (T_8.setTop (mkF m 130 #[.val (.int p1), .val (.int p2), .val (.int p3), .val (.int p4), .val (.int p5), .val (.int p6), .val (.long cx), .second, .val (.long cy), .second, .val (.long ax), .second, .val (.long ay), .second, .val (.long bx), .second, .val (.long by2), .second, .val (.int i41), .val (.double sd), .second, .val (.double d88), .second, .val (.ref b_7), .unset, .unset, .unset, .unset, .unset, .unset, .unset, .unset, .unset, .unset, .unset, .unset, .unset, .unset, .unset, .unset, .unset, .unset, .unset, .unset, .unset, .unset, .unset, .unset, .unset, .unset] [(.long bx), (.double d127), (.double d121), (.ref b_7)]))
    obtain ⟨d130, hd130⟩ : ∃ z : UInt64, FP.l2d bx = z := ⟨_, rfl⟩
    refine Go.step (fun t k => XS.l2dS X_8.here hx rfl (hb hby at_130) rfl hd130 k) ?_
    show Go p.tables e below P (T_8.setTop (mkF m 131 #[.val (.int p1), .val (.int p2), .val (.int p3), .val (.int p4), .val (.int p5), .val (.int p6), .val (.long cx), .second, .val (.long cy), .second, .val (.long ax), .second, .val (.long ay), .second, .val (.long bx), .second, .val (.long by2), .second, .val (.int i41), .val (.double sd), .second, .val (.double d88), .second, .val (.ref b_7), .unset, .unset, .unset, .unset, .unset, .unset, .unset, .unset, .unset, .unset, .unset, .unset, .unset, .unset, .unset, .unset, .unset, .unset, .unset, .unset, .unset, .unset, .unset, .unset, .unset, .unset] [(.double d130), (.double d127), (.double d121), (.ref b_7)]))
    have rbx := l2d_e (x := bx) (by omega); rw [hd130] at rbx
    refine Go.step (fun t k => XS.dload X_8.here hx rfl (hb hby at_131) rfl  k) ?_
    show Go p.tables e below P (T_8.setTop (mkF m 133 #[.val (.int p1), .val (.int p2), .val (.int p3), .val (.int p4), .val (.int p5), .val (.int p6), .val (.long cx), .second, .val (.long cy), .second, .val (.long ax), .second, .val (.long ay), .second, .val (.long bx), .second, .val (.long by2), .second, .val (.int i41), .val (.double sd), .second, .val (.double d88), .second, .val (.ref b_7), .unset, .unset, .unset, .unset, .unset, .unset, .unset, .unset, .unset, .unset, .unset, .unset, .unset, .unset, .unset, .unset, .unset, .unset, .unset, .unset, .unset, .unset, .unset, .unset, .unset, .unset] [(.double sd), (.double d130), (.double d127), (.double d121), (.ref b_7)]))
    obtain ⟨d133, hd133⟩ : ∃ z : UInt64, FP.dmul d130 sd = z := ⟨_, rfl⟩
    have qbx := mul_e (k := ks) (n := bx.toInt) rbx qs (by omega) (Int.mul_one _) (by omega) (by omega)
    rw [hd133] at qbx
    refine Go.step (fun t k => XS.dmulS X_8.here hx rfl (hb hby at_133) rfl (hd133 ▸ qbx.nn) hd133 k) ?_
    show Go p.tables e below P (T_8.setTop (mkF m 134 #[.val (.int p1), .val (.int p2), .val (.int p3), .val (.int p4), .val (.int p5), .val (.int p6), .val (.long cx), .second, .val (.long cy), .second, .val (.long ax), .second, .val (.long ay), .second, .val (.long bx), .second, .val (.long by2), .second, .val (.int i41), .val (.double sd), .second, .val (.double d88), .second, .val (.ref b_7), .unset, .unset, .unset, .unset, .unset, .unset, .unset, .unset, .unset, .unset, .unset, .unset, .unset, .unset, .unset, .unset, .unset, .unset, .unset, .unset, .unset, .unset, .unset, .unset, .unset, .unset] [(.double d133), (.double d127), (.double d121), (.ref b_7)]))
    refine Go.step (fun t k => XS.lload X_8.here hx rfl (hb hby at_134) rfl  k) ?_
    show Go p.tables e below P (T_8.setTop (mkF m 136 #[.val (.int p1), .val (.int p2), .val (.int p3), .val (.int p4), .val (.int p5), .val (.int p6), .val (.long cx), .second, .val (.long cy), .second, .val (.long ax), .second, .val (.long ay), .second, .val (.long bx), .second, .val (.long by2), .second, .val (.int i41), .val (.double sd), .second, .val (.double d88), .second, .val (.ref b_7), .unset, .unset, .unset, .unset, .unset, .unset, .unset, .unset, .unset, .unset, .unset, .unset, .unset, .unset, .unset, .unset, .unset, .unset, .unset, .unset, .unset, .unset, .unset, .unset, .unset, .unset] [(.long by2), (.double d133), (.double d127), (.double d121), (.ref b_7)]))
    obtain ⟨d136, hd136⟩ : ∃ z : UInt64, FP.l2d by2 = z := ⟨_, rfl⟩
    refine Go.step (fun t k => XS.l2dS X_8.here hx rfl (hb hby at_136) rfl hd136 k) ?_
    show Go p.tables e below P (T_8.setTop (mkF m 137 #[.val (.int p1), .val (.int p2), .val (.int p3), .val (.int p4), .val (.int p5), .val (.int p6), .val (.long cx), .second, .val (.long cy), .second, .val (.long ax), .second, .val (.long ay), .second, .val (.long bx), .second, .val (.long by2), .second, .val (.int i41), .val (.double sd), .second, .val (.double d88), .second, .val (.ref b_7), .unset, .unset, .unset, .unset, .unset, .unset, .unset, .unset, .unset, .unset, .unset, .unset, .unset, .unset, .unset, .unset, .unset, .unset, .unset, .unset, .unset, .unset, .unset, .unset, .unset, .unset] [(.double d136), (.double d133), (.double d127), (.double d121), (.ref b_7)]))
    have rby2 := l2d_e (x := by2) (by omega); rw [hd136] at rby2
    refine Go.step (fun t k => XS.dload X_8.here hx rfl (hb hby at_137) rfl  k) ?_
    show Go p.tables e below P (T_8.setTop (mkF m 139 #[.val (.int p1), .val (.int p2), .val (.int p3), .val (.int p4), .val (.int p5), .val (.int p6), .val (.long cx), .second, .val (.long cy), .second, .val (.long ax), .second, .val (.long ay), .second, .val (.long bx), .second, .val (.long by2), .second, .val (.int i41), .val (.double sd), .second, .val (.double d88), .second, .val (.ref b_7), .unset, .unset, .unset, .unset, .unset, .unset, .unset, .unset, .unset, .unset, .unset, .unset, .unset, .unset, .unset, .unset, .unset, .unset, .unset, .unset, .unset, .unset, .unset, .unset, .unset, .unset] [(.double sd), (.double d136), (.double d133), (.double d127), (.double d121), (.ref b_7)]))
    obtain ⟨d139, hd139⟩ : ∃ z : UInt64, FP.dmul d136 sd = z := ⟨_, rfl⟩
    have qby2 := mul_e (k := ks) (n := by2.toInt) rby2 qs (by omega) (Int.mul_one _) (by omega) (by omega)
    rw [hd139] at qby2
    refine Go.step (fun t k => XS.dmulS X_8.here hx rfl (hb hby at_139) rfl (hd139 ▸ qby2.nn) hd139 k) ?_
    show Go p.tables e below P (T_8.setTop (mkF m 140 #[.val (.int p1), .val (.int p2), .val (.int p3), .val (.int p4), .val (.int p5), .val (.int p6), .val (.long cx), .second, .val (.long cy), .second, .val (.long ax), .second, .val (.long ay), .second, .val (.long bx), .second, .val (.long by2), .second, .val (.int i41), .val (.double sd), .second, .val (.double d88), .second, .val (.ref b_7), .unset, .unset, .unset, .unset, .unset, .unset, .unset, .unset, .unset, .unset, .unset, .unset, .unset, .unset, .unset, .unset, .unset, .unset, .unset, .unset, .unset, .unset, .unset, .unset, .unset, .unset] [(.double d139), (.double d133), (.double d127), (.double d121), (.ref b_7)]))
    obtain ⟨k2, h2⟩ : ∃ z, ks + ks = z + 1074 := ⟨ks + ks - 1074, by omega⟩
    obtain ⟨k4, h4⟩ : ∃ z, k2 + k2 = z + 1074 := ⟨k2 + k2 - 1074, by omega⟩
    obtain ⟨ux, hux⟩ : ∃ z, ax.toInt - cx.toInt = z := ⟨_, rfl⟩
    obtain ⟨uy, huy⟩ : ∃ z, ay.toInt - cy.toInt = z := ⟨_, rfl⟩
    obtain ⟨vx, hvx⟩ : ∃ z, bx.toInt - cx.toInt = z := ⟨_, rfl⟩
    obtain ⟨vy, hvy⟩ : ∃ z, by2.toInt - cy.toInt = z := ⟨_, rfl⟩
    obtain ⟨dx, hdx⟩ : ∃ z, vx - ux = z := ⟨_, rfl⟩
    obtain ⟨dy, hdy⟩ : ∃ z, vy - uy = z := ⟨_, rfl⟩
    have bux : -((4096 : Nat) : Int) ≤ ux ∧ ux ≤ (4096 : Nat) := by omega
    have buy : -((4096 : Nat) : Int) ≤ uy ∧ uy ≤ (4096 : Nat) := by omega
    have bvx : -((4096 : Nat) : Int) ≤ vx ∧ vx ≤ (4096 : Nat) := by omega
    have bvy : -((4096 : Nat) : Int) ≤ vy ∧ vy ≤ (4096 : Nat) := by omega
    have bdx : -((8192 : Nat) : Int) ≤ dx ∧ dx ≤ (8192 : Nat) := by omega
    have bdy : -((8192 : Nat) : Int) ≤ dy ∧ dy ≤ (8192 : Nat) := by omega
    obtain ⟨cq_9, kq_9, q_9a, q_9b, q_9c⟩ := isOf hZ rfl (A_7.keep Kc_8)
    obtain ⟨_, _, ⟨T_9, L_9, k_9, n_9⟩, -, X_9, ⟨Lc_9, hQ_9, l_9, y_9, z_9⟩, st_9⟩ := X_8.virtualBack hx (y := (⟨"com/example/geofence/geofence/geometry/Circle", "squaredDistance", "(DDDD)D"⟩ : MethodName)) (z := (⟨"com/example/geofence/geofence/geometry/Circle", "squaredDistance", "(DDDD)D"⟩ : MethodName)) hown (mvT hZ (hw _ (List.mem_of_getElem? (i := 24) rfl))) (mvT hZ (hw _ (List.mem_of_getElem? (i := 25) rfl))) (notFace_of_selects (args := #[]) (mvT hZ (hw _ (List.mem_of_getElem? (i := 27) rfl)))) (mvT hZ (hw _ (List.mem_of_getElem? (i := 27) rfl))) (mvT hZ (hw _ (List.mem_of_getElem? (i := 26) rfl))) (by decide) (backOf (W := 0) (rm4 l Z a0 hw [] b_7 d121 d127 d133 d139 d100 d106 ks k2 k4 cx.toInt cy.toInt ax.toInt ay.toInt bx.toInt by2.toInt ux uy vx vy dx dy T_8.heap n0 Z_8 Ff_x__8 Ff_y__8 qcx qcy qax qay qbx qby2 hux huy hvx hvy hdx hdy bux buy bvx bvy h2 h4 (by omega)) hZ (hw _ (List.mem_of_getElem? (i := 28) rfl)) (hw _ (List.mem_of_getElem? (i := 6) rfl)) (by decide) (by decide)) q_9a q_9c (g := (mkF m 140 #[.val (.int p1), .val (.int p2), .val (.int p3), .val (.int p4), .val (.int p5), .val (.int p6), .val (.long cx), .second, .val (.long cy), .second, .val (.long ax), .second, .val (.long ay), .second, .val (.long bx), .second, .val (.long by2), .second, .val (.int i41), .val (.double sd), .second, .val (.double d88), .second, .val (.ref b_7), .unset, .unset, .unset, .unset, .unset, .unset, .unset, .unset, .unset, .unset, .unset, .unset, .unset, .unset, .unset, .unset, .unset, .unset, .unset, .unset, .unset, .unset, .unset, .unset, .unset, .unset] [(.double d139), (.double d133), (.double d127), (.double d121), (.ref b_7)])) rfl (by rw [hml]; rfl) (Steps.refl _) (argsL := [(.double d121), (.double d127), (.double d133), (.double d139)]) (rest := []) (lenOf pd_3 rfl) rfl (by show 2 * 0 + _ ≤ _; exact Nat.le_of_eq rfl) (hb hby at_140) (fun _ _ => ⟨rfl, rfl, (by decide : 1 + 0 ≤ _), (by decide : 3 + 0 ≤ _)⟩)
    dsimp only [Pt.U, Pt.locs, Pt.cells, Pt.slots] at X_9 l_9 y_9 z_9 st_9 hQ_9
    subst l_9 y_9 z_9
    obtain ⟨got, rfl, hgot, N_9q, eh_9⟩ := hQ_9
    have N_9 := Fr.app N_8 N_9q
    refine Go.tr st_9 ?_
    show Go p.tables e below P (T_9.setTop (mkF m 143 #[.val (.int p1), .val (.int p2), .val (.int p3), .val (.int p4), .val (.int p5), .val (.int p6), .val (.long cx), .second, .val (.long cy), .second, .val (.long ax), .second, .val (.long ay), .second, .val (.long bx), .second, .val (.long by2), .second, .val (.int i41), .val (.double sd), .second, .val (.double d88), .second, .val (.ref b_7), .unset, .unset, .unset, .unset, .unset, .unset, .unset, .unset, .unset, .unset, .unset, .unset, .unset, .unset, .unset, .unset, .unset, .unset, .unset, .unset, .unset, .unset, .unset, .unset, .unset, .unset] [(.double got)]))
    refine Go.step (fun t k => XS.dstore X_9.here hx rfl (hb hby at_143) rfl (l' := #[.val (.int p1), .val (.int p2), .val (.int p3), .val (.int p4), .val (.int p5), .val (.int p6), .val (.long cx), .second, .val (.long cy), .second, .val (.long ax), .second, .val (.long ay), .second, .val (.long bx), .second, .val (.long by2), .second, .val (.int i41), .val (.double sd), .second, .val (.double d88), .second, .val (.ref b_7), .val (.double got), .second, .unset, .unset, .unset, .unset, .unset, .unset, .unset, .unset, .unset, .unset, .unset, .unset, .unset, .unset, .unset, .unset, .unset, .unset, .unset, .unset, .unset, .unset, .unset, .unset]) rfl k) ?_
    show Go p.tables e below P (T_9.setTop (mkF m 145 #[.val (.int p1), .val (.int p2), .val (.int p3), .val (.int p4), .val (.int p5), .val (.int p6), .val (.long cx), .second, .val (.long cy), .second, .val (.long ax), .second, .val (.long ay), .second, .val (.long bx), .second, .val (.long by2), .second, .val (.int i41), .val (.double sd), .second, .val (.double d88), .second, .val (.ref b_7), .val (.double got), .second, .unset, .unset, .unset, .unset, .unset, .unset, .unset, .unset, .unset, .unset, .unset, .unset, .unset, .unset, .unset, .unset, .unset, .unset, .unset, .unset, .unset, .unset, .unset, .unset] []))
    refine Go.step (fun t k => XS.lload X_9.here hx rfl (hb hby at_145) rfl  k) ?_
    show Go p.tables e below P (T_9.setTop (mkF m 147 #[.val (.int p1), .val (.int p2), .val (.int p3), .val (.int p4), .val (.int p5), .val (.int p6), .val (.long cx), .second, .val (.long cy), .second, .val (.long ax), .second, .val (.long ay), .second, .val (.long bx), .second, .val (.long by2), .second, .val (.int i41), .val (.double sd), .second, .val (.double d88), .second, .val (.ref b_7), .val (.double got), .second, .unset, .unset, .unset, .unset, .unset, .unset, .unset, .unset, .unset, .unset, .unset, .unset, .unset, .unset, .unset, .unset, .unset, .unset, .unset, .unset, .unset, .unset, .unset, .unset] [(.long ax)]))
    refine Go.step (fun t k => XS.lload X_9.here hx rfl (hb hby at_147) rfl  k) ?_
    show Go p.tables e below P (T_9.setTop (mkF m 149 #[.val (.int p1), .val (.int p2), .val (.int p3), .val (.int p4), .val (.int p5), .val (.int p6), .val (.long cx), .second, .val (.long cy), .second, .val (.long ax), .second, .val (.long ay), .second, .val (.long bx), .second, .val (.long by2), .second, .val (.int i41), .val (.double sd), .second, .val (.double d88), .second, .val (.ref b_7), .val (.double got), .second, .unset, .unset, .unset, .unset, .unset, .unset, .unset, .unset, .unset, .unset, .unset, .unset, .unset, .unset, .unset, .unset, .unset, .unset, .unset, .unset, .unset, .unset, .unset, .unset] [(.long cx), (.long ax)]))
    obtain ⟨j149, hj149⟩ : ∃ z : Int64, ax - cx = z := ⟨_, rfl⟩
    refine Go.step (fun t k => lsub_v X_9.here hx rfl (hb hby at_149) rfl  hj149 k) ?_
    show Go p.tables e below P (T_9.setTop (mkF m 150 #[.val (.int p1), .val (.int p2), .val (.int p3), .val (.int p4), .val (.int p5), .val (.int p6), .val (.long cx), .second, .val (.long cy), .second, .val (.long ax), .second, .val (.long ay), .second, .val (.long bx), .second, .val (.long by2), .second, .val (.int i41), .val (.double sd), .second, .val (.double d88), .second, .val (.ref b_7), .val (.double got), .second, .unset, .unset, .unset, .unset, .unset, .unset, .unset, .unset, .unset, .unset, .unset, .unset, .unset, .unset, .unset, .unset, .unset, .unset, .unset, .unset, .unset, .unset, .unset, .unset] [(.long j149)]))
    refine Go.step (fun t k => XS.lstore X_9.here hx rfl (hb hby at_150) rfl (l' := #[.val (.int p1), .val (.int p2), .val (.int p3), .val (.int p4), .val (.int p5), .val (.int p6), .val (.long cx), .second, .val (.long cy), .second, .val (.long ax), .second, .val (.long ay), .second, .val (.long bx), .second, .val (.long by2), .second, .val (.int i41), .val (.double sd), .second, .val (.double d88), .second, .val (.ref b_7), .val (.double got), .second, .val (.long j149), .second, .unset, .unset, .unset, .unset, .unset, .unset, .unset, .unset, .unset, .unset, .unset, .unset, .unset, .unset, .unset, .unset, .unset, .unset, .unset, .unset, .unset, .unset]) rfl k) ?_
    show Go p.tables e below P (T_9.setTop (mkF m 152 #[.val (.int p1), .val (.int p2), .val (.int p3), .val (.int p4), .val (.int p5), .val (.int p6), .val (.long cx), .second, .val (.long cy), .second, .val (.long ax), .second, .val (.long ay), .second, .val (.long bx), .second, .val (.long by2), .second, .val (.int i41), .val (.double sd), .second, .val (.double d88), .second, .val (.ref b_7), .val (.double got), .second, .val (.long j149), .second, .unset, .unset, .unset, .unset, .unset, .unset, .unset, .unset, .unset, .unset, .unset, .unset, .unset, .unset, .unset, .unset, .unset, .unset, .unset, .unset, .unset, .unset] []))
    refine Go.step (fun t k => XS.lload X_9.here hx rfl (hb hby at_152) rfl  k) ?_
    show Go p.tables e below P (T_9.setTop (mkF m 154 #[.val (.int p1), .val (.int p2), .val (.int p3), .val (.int p4), .val (.int p5), .val (.int p6), .val (.long cx), .second, .val (.long cy), .second, .val (.long ax), .second, .val (.long ay), .second, .val (.long bx), .second, .val (.long by2), .second, .val (.int i41), .val (.double sd), .second, .val (.double d88), .second, .val (.ref b_7), .val (.double got), .second, .val (.long j149), .second, .unset, .unset, .unset, .unset, .unset, .unset, .unset, .unset, .unset, .unset, .unset, .unset, .unset, .unset, .unset, .unset, .unset, .unset, .unset, .unset, .unset, .unset] [(.long ay)]))
    refine Go.step (fun t k => XS.lload X_9.here hx rfl (hb hby at_154) rfl  k) ?_
    show Go p.tables e below P (T_9.setTop (mkF m 156 #[.val (.int p1), .val (.int p2), .val (.int p3), .val (.int p4), .val (.int p5), .val (.int p6), .val (.long cx), .second, .val (.long cy), .second, .val (.long ax), .second, .val (.long ay), .second, .val (.long bx), .second, .val (.long by2), .second, .val (.int i41), .val (.double sd), .second, .val (.double d88), .second, .val (.ref b_7), .val (.double got), .second, .val (.long j149), .second, .unset, .unset, .unset, .unset, .unset, .unset, .unset, .unset, .unset, .unset, .unset, .unset, .unset, .unset, .unset, .unset, .unset, .unset, .unset, .unset, .unset, .unset] [(.long cy), (.long ay)]))
    obtain ⟨j156, hj156⟩ : ∃ z : Int64, ay - cy = z := ⟨_, rfl⟩
    refine Go.step (fun t k => lsub_v X_9.here hx rfl (hb hby at_156) rfl  hj156 k) ?_
    show Go p.tables e below P (T_9.setTop (mkF m 157 #[.val (.int p1), .val (.int p2), .val (.int p3), .val (.int p4), .val (.int p5), .val (.int p6), .val (.long cx), .second, .val (.long cy), .second, .val (.long ax), .second, .val (.long ay), .second, .val (.long bx), .second, .val (.long by2), .second, .val (.int i41), .val (.double sd), .second, .val (.double d88), .second, .val (.ref b_7), .val (.double got), .second, .val (.long j149), .second, .unset, .unset, .unset, .unset, .unset, .unset, .unset, .unset, .unset, .unset, .unset, .unset, .unset, .unset, .unset, .unset, .unset, .unset, .unset, .unset, .unset, .unset] [(.long j156)]))
    refine Go.step (fun t k => XS.lstore X_9.here hx rfl (hb hby at_157) rfl (l' := #[.val (.int p1), .val (.int p2), .val (.int p3), .val (.int p4), .val (.int p5), .val (.int p6), .val (.long cx), .second, .val (.long cy), .second, .val (.long ax), .second, .val (.long ay), .second, .val (.long bx), .second, .val (.long by2), .second, .val (.int i41), .val (.double sd), .second, .val (.double d88), .second, .val (.ref b_7), .val (.double got), .second, .val (.long j149), .second, .val (.long j156), .second, .unset, .unset, .unset, .unset, .unset, .unset, .unset, .unset, .unset, .unset, .unset, .unset, .unset, .unset, .unset, .unset, .unset, .unset, .unset, .unset]) rfl k) ?_
    show Go p.tables e below P (T_9.setTop (mkF m 159 #[.val (.int p1), .val (.int p2), .val (.int p3), .val (.int p4), .val (.int p5), .val (.int p6), .val (.long cx), .second, .val (.long cy), .second, .val (.long ax), .second, .val (.long ay), .second, .val (.long bx), .second, .val (.long by2), .second, .val (.int i41), .val (.double sd), .second, .val (.double d88), .second, .val (.ref b_7), .val (.double got), .second, .val (.long j149), .second, .val (.long j156), .second, .unset, .unset, .unset, .unset, .unset, .unset, .unset, .unset, .unset, .unset, .unset, .unset, .unset, .unset, .unset, .unset, .unset, .unset, .unset, .unset] []))
    refine Go.step (fun t k => XS.lload X_9.here hx rfl (hb hby at_159) rfl  k) ?_
    show Go p.tables e below P (T_9.setTop (mkF m 161 #[.val (.int p1), .val (.int p2), .val (.int p3), .val (.int p4), .val (.int p5), .val (.int p6), .val (.long cx), .second, .val (.long cy), .second, .val (.long ax), .second, .val (.long ay), .second, .val (.long bx), .second, .val (.long by2), .second, .val (.int i41), .val (.double sd), .second, .val (.double d88), .second, .val (.ref b_7), .val (.double got), .second, .val (.long j149), .second, .val (.long j156), .second, .unset, .unset, .unset, .unset, .unset, .unset, .unset, .unset, .unset, .unset, .unset, .unset, .unset, .unset, .unset, .unset, .unset, .unset, .unset, .unset] [(.long bx)]))
    refine Go.step (fun t k => XS.lload X_9.here hx rfl (hb hby at_161) rfl  k) ?_
    show Go p.tables e below P (T_9.setTop (mkF m 163 #[.val (.int p1), .val (.int p2), .val (.int p3), .val (.int p4), .val (.int p5), .val (.int p6), .val (.long cx), .second, .val (.long cy), .second, .val (.long ax), .second, .val (.long ay), .second, .val (.long bx), .second, .val (.long by2), .second, .val (.int i41), .val (.double sd), .second, .val (.double d88), .second, .val (.ref b_7), .val (.double got), .second, .val (.long j149), .second, .val (.long j156), .second, .unset, .unset, .unset, .unset, .unset, .unset, .unset, .unset, .unset, .unset, .unset, .unset, .unset, .unset, .unset, .unset, .unset, .unset, .unset, .unset] [(.long cx), (.long bx)]))
    obtain ⟨j163, hj163⟩ : ∃ z : Int64, bx - cx = z := ⟨_, rfl⟩
    refine Go.step (fun t k => lsub_v X_9.here hx rfl (hb hby at_163) rfl  hj163 k) ?_
    show Go p.tables e below P (T_9.setTop (mkF m 164 #[.val (.int p1), .val (.int p2), .val (.int p3), .val (.int p4), .val (.int p5), .val (.int p6), .val (.long cx), .second, .val (.long cy), .second, .val (.long ax), .second, .val (.long ay), .second, .val (.long bx), .second, .val (.long by2), .second, .val (.int i41), .val (.double sd), .second, .val (.double d88), .second, .val (.ref b_7), .val (.double got), .second, .val (.long j149), .second, .val (.long j156), .second, .unset, .unset, .unset, .unset, .unset, .unset, .unset, .unset, .unset, .unset, .unset, .unset, .unset, .unset, .unset, .unset, .unset, .unset, .unset, .unset] [(.long j163)]))
    refine Go.step (fun t k => XS.lstore X_9.here hx rfl (hb hby at_164) rfl (l' := #[.val (.int p1), .val (.int p2), .val (.int p3), .val (.int p4), .val (.int p5), .val (.int p6), .val (.long cx), .second, .val (.long cy), .second, .val (.long ax), .second, .val (.long ay), .second, .val (.long bx), .second, .val (.long by2), .second, .val (.int i41), .val (.double sd), .second, .val (.double d88), .second, .val (.ref b_7), .val (.double got), .second, .val (.long j149), .second, .val (.long j156), .second, .val (.long j163), .second, .unset, .unset, .unset, .unset, .unset, .unset, .unset, .unset, .unset, .unset, .unset, .unset, .unset, .unset, .unset, .unset, .unset, .unset]) rfl k) ?_
    show Go p.tables e below P (T_9.setTop (mkF m 166 #[.val (.int p1), .val (.int p2), .val (.int p3), .val (.int p4), .val (.int p5), .val (.int p6), .val (.long cx), .second, .val (.long cy), .second, .val (.long ax), .second, .val (.long ay), .second, .val (.long bx), .second, .val (.long by2), .second, .val (.int i41), .val (.double sd), .second, .val (.double d88), .second, .val (.ref b_7), .val (.double got), .second, .val (.long j149), .second, .val (.long j156), .second, .val (.long j163), .second, .unset, .unset, .unset, .unset, .unset, .unset, .unset, .unset, .unset, .unset, .unset, .unset, .unset, .unset, .unset, .unset, .unset, .unset] []))
    refine Go.step (fun t k => XS.lload X_9.here hx rfl (hb hby at_166) rfl  k) ?_
    show Go p.tables e below P (T_9.setTop (mkF m 168 #[.val (.int p1), .val (.int p2), .val (.int p3), .val (.int p4), .val (.int p5), .val (.int p6), .val (.long cx), .second, .val (.long cy), .second, .val (.long ax), .second, .val (.long ay), .second, .val (.long bx), .second, .val (.long by2), .second, .val (.int i41), .val (.double sd), .second, .val (.double d88), .second, .val (.ref b_7), .val (.double got), .second, .val (.long j149), .second, .val (.long j156), .second, .val (.long j163), .second, .unset, .unset, .unset, .unset, .unset, .unset, .unset, .unset, .unset, .unset, .unset, .unset, .unset, .unset, .unset, .unset, .unset, .unset] [(.long by2)]))
    refine Go.step (fun t k => XS.lload X_9.here hx rfl (hb hby at_168) rfl  k) ?_
    show Go p.tables e below P (T_9.setTop (mkF m 170 #[.val (.int p1), .val (.int p2), .val (.int p3), .val (.int p4), .val (.int p5), .val (.int p6), .val (.long cx), .second, .val (.long cy), .second, .val (.long ax), .second, .val (.long ay), .second, .val (.long bx), .second, .val (.long by2), .second, .val (.int i41), .val (.double sd), .second, .val (.double d88), .second, .val (.ref b_7), .val (.double got), .second, .val (.long j149), .second, .val (.long j156), .second, .val (.long j163), .second, .unset, .unset, .unset, .unset, .unset, .unset, .unset, .unset, .unset, .unset, .unset, .unset, .unset, .unset, .unset, .unset, .unset, .unset] [(.long cy), (.long by2)]))
    obtain ⟨j170, hj170⟩ : ∃ z : Int64, by2 - cy = z := ⟨_, rfl⟩
    refine Go.step (fun t k => lsub_v X_9.here hx rfl (hb hby at_170) rfl  hj170 k) ?_
    show Go p.tables e below P (T_9.setTop (mkF m 171 #[.val (.int p1), .val (.int p2), .val (.int p3), .val (.int p4), .val (.int p5), .val (.int p6), .val (.long cx), .second, .val (.long cy), .second, .val (.long ax), .second, .val (.long ay), .second, .val (.long bx), .second, .val (.long by2), .second, .val (.int i41), .val (.double sd), .second, .val (.double d88), .second, .val (.ref b_7), .val (.double got), .second, .val (.long j149), .second, .val (.long j156), .second, .val (.long j163), .second, .unset, .unset, .unset, .unset, .unset, .unset, .unset, .unset, .unset, .unset, .unset, .unset, .unset, .unset, .unset, .unset, .unset, .unset] [(.long j170)]))
    refine Go.step (fun t k => XS.lstore X_9.here hx rfl (hb hby at_171) rfl (l' := #[.val (.int p1), .val (.int p2), .val (.int p3), .val (.int p4), .val (.int p5), .val (.int p6), .val (.long cx), .second, .val (.long cy), .second, .val (.long ax), .second, .val (.long ay), .second, .val (.long bx), .second, .val (.long by2), .second, .val (.int i41), .val (.double sd), .second, .val (.double d88), .second, .val (.ref b_7), .val (.double got), .second, .val (.long j149), .second, .val (.long j156), .second, .val (.long j163), .second, .val (.long j170), .second, .unset, .unset, .unset, .unset, .unset, .unset, .unset, .unset, .unset, .unset, .unset, .unset, .unset, .unset, .unset, .unset]) rfl k) ?_
    show Go p.tables e below P (T_9.setTop (mkF m 173 #[.val (.int p1), .val (.int p2), .val (.int p3), .val (.int p4), .val (.int p5), .val (.int p6), .val (.long cx), .second, .val (.long cy), .second, .val (.long ax), .second, .val (.long ay), .second, .val (.long bx), .second, .val (.long by2), .second, .val (.int i41), .val (.double sd), .second, .val (.double d88), .second, .val (.ref b_7), .val (.double got), .second, .val (.long j149), .second, .val (.long j156), .second, .val (.long j163), .second, .val (.long j170), .second, .unset, .unset, .unset, .unset, .unset, .unset, .unset, .unset, .unset, .unset, .unset, .unset, .unset, .unset, .unset, .unset] []))
    refine Go.step (fun t k => XS.lload X_9.here hx rfl (hb hby at_173) rfl  k) ?_
    show Go p.tables e below P (T_9.setTop (mkF m 175 #[.val (.int p1), .val (.int p2), .val (.int p3), .val (.int p4), .val (.int p5), .val (.int p6), .val (.long cx), .second, .val (.long cy), .second, .val (.long ax), .second, .val (.long ay), .second, .val (.long bx), .second, .val (.long by2), .second, .val (.int i41), .val (.double sd), .second, .val (.double d88), .second, .val (.ref b_7), .val (.double got), .second, .val (.long j149), .second, .val (.long j156), .second, .val (.long j163), .second, .val (.long j170), .second, .unset, .unset, .unset, .unset, .unset, .unset, .unset, .unset, .unset, .unset, .unset, .unset, .unset, .unset, .unset, .unset] [(.long j163)]))
    refine Go.step (fun t k => XS.lload X_9.here hx rfl (hb hby at_175) rfl  k) ?_
    show Go p.tables e below P (T_9.setTop (mkF m 177 #[.val (.int p1), .val (.int p2), .val (.int p3), .val (.int p4), .val (.int p5), .val (.int p6), .val (.long cx), .second, .val (.long cy), .second, .val (.long ax), .second, .val (.long ay), .second, .val (.long bx), .second, .val (.long by2), .second, .val (.int i41), .val (.double sd), .second, .val (.double d88), .second, .val (.ref b_7), .val (.double got), .second, .val (.long j149), .second, .val (.long j156), .second, .val (.long j163), .second, .val (.long j170), .second, .unset, .unset, .unset, .unset, .unset, .unset, .unset, .unset, .unset, .unset, .unset, .unset, .unset, .unset, .unset, .unset] [(.long j149), (.long j163)]))
    obtain ⟨j177, hj177⟩ : ∃ z : Int64, j163 - j149 = z := ⟨_, rfl⟩
    refine Go.step (fun t k => lsub_v X_9.here hx rfl (hb hby at_177) rfl  hj177 k) ?_
    show Go p.tables e below P (T_9.setTop (mkF m 178 #[.val (.int p1), .val (.int p2), .val (.int p3), .val (.int p4), .val (.int p5), .val (.int p6), .val (.long cx), .second, .val (.long cy), .second, .val (.long ax), .second, .val (.long ay), .second, .val (.long bx), .second, .val (.long by2), .second, .val (.int i41), .val (.double sd), .second, .val (.double d88), .second, .val (.ref b_7), .val (.double got), .second, .val (.long j149), .second, .val (.long j156), .second, .val (.long j163), .second, .val (.long j170), .second, .unset, .unset, .unset, .unset, .unset, .unset, .unset, .unset, .unset, .unset, .unset, .unset, .unset, .unset, .unset, .unset] [(.long j177)]))
    refine Go.step (fun t k => XS.lstore X_9.here hx rfl (hb hby at_178) rfl (l' := #[.val (.int p1), .val (.int p2), .val (.int p3), .val (.int p4), .val (.int p5), .val (.int p6), .val (.long cx), .second, .val (.long cy), .second, .val (.long ax), .second, .val (.long ay), .second, .val (.long bx), .second, .val (.long by2), .second, .val (.int i41), .val (.double sd), .second, .val (.double d88), .second, .val (.ref b_7), .val (.double got), .second, .val (.long j149), .second, .val (.long j156), .second, .val (.long j163), .second, .val (.long j170), .second, .val (.long j177), .second, .unset, .unset, .unset, .unset, .unset, .unset, .unset, .unset, .unset, .unset, .unset, .unset, .unset, .unset]) rfl k) ?_
    show Go p.tables e below P (T_9.setTop (mkF m 180 #[.val (.int p1), .val (.int p2), .val (.int p3), .val (.int p4), .val (.int p5), .val (.int p6), .val (.long cx), .second, .val (.long cy), .second, .val (.long ax), .second, .val (.long ay), .second, .val (.long bx), .second, .val (.long by2), .second, .val (.int i41), .val (.double sd), .second, .val (.double d88), .second, .val (.ref b_7), .val (.double got), .second, .val (.long j149), .second, .val (.long j156), .second, .val (.long j163), .second, .val (.long j170), .second, .val (.long j177), .second, .unset, .unset, .unset, .unset, .unset, .unset, .unset, .unset, .unset, .unset, .unset, .unset, .unset, .unset] []))
    refine Go.step (fun t k => XS.lload X_9.here hx rfl (hb hby at_180) rfl  k) ?_
    show Go p.tables e below P (T_9.setTop (mkF m 182 #[.val (.int p1), .val (.int p2), .val (.int p3), .val (.int p4), .val (.int p5), .val (.int p6), .val (.long cx), .second, .val (.long cy), .second, .val (.long ax), .second, .val (.long ay), .second, .val (.long bx), .second, .val (.long by2), .second, .val (.int i41), .val (.double sd), .second, .val (.double d88), .second, .val (.ref b_7), .val (.double got), .second, .val (.long j149), .second, .val (.long j156), .second, .val (.long j163), .second, .val (.long j170), .second, .val (.long j177), .second, .unset, .unset, .unset, .unset, .unset, .unset, .unset, .unset, .unset, .unset, .unset, .unset, .unset, .unset] [(.long j170)]))
    refine Go.step (fun t k => XS.lload X_9.here hx rfl (hb hby at_182) rfl  k) ?_
    show Go p.tables e below P (T_9.setTop (mkF m 184 #[.val (.int p1), .val (.int p2), .val (.int p3), .val (.int p4), .val (.int p5), .val (.int p6), .val (.long cx), .second, .val (.long cy), .second, .val (.long ax), .second, .val (.long ay), .second, .val (.long bx), .second, .val (.long by2), .second, .val (.int i41), .val (.double sd), .second, .val (.double d88), .second, .val (.ref b_7), .val (.double got), .second, .val (.long j149), .second, .val (.long j156), .second, .val (.long j163), .second, .val (.long j170), .second, .val (.long j177), .second, .unset, .unset, .unset, .unset, .unset, .unset, .unset, .unset, .unset, .unset, .unset, .unset, .unset, .unset] [(.long j156), (.long j170)]))
    obtain ⟨j184, hj184⟩ : ∃ z : Int64, j170 - j156 = z := ⟨_, rfl⟩
    refine Go.step (fun t k => lsub_v X_9.here hx rfl (hb hby at_184) rfl  hj184 k) ?_
    show Go p.tables e below P (T_9.setTop (mkF m 185 #[.val (.int p1), .val (.int p2), .val (.int p3), .val (.int p4), .val (.int p5), .val (.int p6), .val (.long cx), .second, .val (.long cy), .second, .val (.long ax), .second, .val (.long ay), .second, .val (.long bx), .second, .val (.long by2), .second, .val (.int i41), .val (.double sd), .second, .val (.double d88), .second, .val (.ref b_7), .val (.double got), .second, .val (.long j149), .second, .val (.long j156), .second, .val (.long j163), .second, .val (.long j170), .second, .val (.long j177), .second, .unset, .unset, .unset, .unset, .unset, .unset, .unset, .unset, .unset, .unset, .unset, .unset, .unset, .unset] [(.long j184)]))
    refine Go.step (fun t k => XS.lstore X_9.here hx rfl (hb hby at_185) rfl (l' := #[.val (.int p1), .val (.int p2), .val (.int p3), .val (.int p4), .val (.int p5), .val (.int p6), .val (.long cx), .second, .val (.long cy), .second, .val (.long ax), .second, .val (.long ay), .second, .val (.long bx), .second, .val (.long by2), .second, .val (.int i41), .val (.double sd), .second, .val (.double d88), .second, .val (.ref b_7), .val (.double got), .second, .val (.long j149), .second, .val (.long j156), .second, .val (.long j163), .second, .val (.long j170), .second, .val (.long j177), .second, .val (.long j184), .second, .unset, .unset, .unset, .unset, .unset, .unset, .unset, .unset, .unset, .unset, .unset, .unset]) rfl k) ?_
    show Go p.tables e below P (T_9.setTop (mkF m 187 #[.val (.int p1), .val (.int p2), .val (.int p3), .val (.int p4), .val (.int p5), .val (.int p6), .val (.long cx), .second, .val (.long cy), .second, .val (.long ax), .second, .val (.long ay), .second, .val (.long bx), .second, .val (.long by2), .second, .val (.int i41), .val (.double sd), .second, .val (.double d88), .second, .val (.ref b_7), .val (.double got), .second, .val (.long j149), .second, .val (.long j156), .second, .val (.long j163), .second, .val (.long j170), .second, .val (.long j177), .second, .val (.long j184), .second, .unset, .unset, .unset, .unset, .unset, .unset, .unset, .unset, .unset, .unset, .unset, .unset] []))
    refine Go.step (fun t k => XS.lload X_9.here hx rfl (hb hby at_187) rfl  k) ?_
    show Go p.tables e below P (T_9.setTop (mkF m 189 #[.val (.int p1), .val (.int p2), .val (.int p3), .val (.int p4), .val (.int p5), .val (.int p6), .val (.long cx), .second, .val (.long cy), .second, .val (.long ax), .second, .val (.long ay), .second, .val (.long bx), .second, .val (.long by2), .second, .val (.int i41), .val (.double sd), .second, .val (.double d88), .second, .val (.ref b_7), .val (.double got), .second, .val (.long j149), .second, .val (.long j156), .second, .val (.long j163), .second, .val (.long j170), .second, .val (.long j177), .second, .val (.long j184), .second, .unset, .unset, .unset, .unset, .unset, .unset, .unset, .unset, .unset, .unset, .unset, .unset] [(.long j177)]))
    refine Go.step (fun t k => XS.lload X_9.here hx rfl (hb hby at_189) rfl  k) ?_
    show Go p.tables e below P (T_9.setTop (mkF m 191 #[.val (.int p1), .val (.int p2), .val (.int p3), .val (.int p4), .val (.int p5), .val (.int p6), .val (.long cx), .second, .val (.long cy), .second, .val (.long ax), .second, .val (.long ay), .second, .val (.long bx), .second, .val (.long by2), .second, .val (.int i41), .val (.double sd), .second, .val (.double d88), .second, .val (.ref b_7), .val (.double got), .second, .val (.long j149), .second, .val (.long j156), .second, .val (.long j163), .second, .val (.long j170), .second, .val (.long j177), .second, .val (.long j184), .second, .unset, .unset, .unset, .unset, .unset, .unset, .unset, .unset, .unset, .unset, .unset, .unset] [(.long j177), (.long j177)]))
    obtain ⟨j191, hj191⟩ : ∃ z : Int64, j177 * j177 = z := ⟨_, rfl⟩
    refine Go.step (fun t k => lmul_v X_9.here hx rfl (hb hby at_191) rfl  hj191 k) ?_
    show Go p.tables e below P (T_9.setTop (mkF m 192 #[.val (.int p1), .val (.int p2), .val (.int p3), .val (.int p4), .val (.int p5), .val (.int p6), .val (.long cx), .second, .val (.long cy), .second, .val (.long ax), .second, .val (.long ay), .second, .val (.long bx), .second, .val (.long by2), .second, .val (.int i41), .val (.double sd), .second, .val (.double d88), .second, .val (.ref b_7), .val (.double got), .second, .val (.long j149), .second, .val (.long j156), .second, .val (.long j163), .second, .val (.long j170), .second, .val (.long j177), .second, .val (.long j184), .second, .unset, .unset, .unset, .unset, .unset, .unset, .unset, .unset, .unset, .unset, .unset, .unset] [(.long j191)]))
    refine Go.step (fun t k => XS.lload X_9.here hx rfl (hb hby at_192) rfl  k) ?_
    show Go p.tables e below P (T_9.setTop (mkF m 194 #[.val (.int p1), .val (.int p2), .val (.int p3), .val (.int p4), .val (.int p5), .val (.int p6), .val (.long cx), .second, .val (.long cy), .second, .val (.long ax), .second, .val (.long ay), .second, .val (.long bx), .second, .val (.long by2), .second, .val (.int i41), .val (.double sd), .second, .val (.double d88), .second, .val (.ref b_7), .val (.double got), .second, .val (.long j149), .second, .val (.long j156), .second, .val (.long j163), .second, .val (.long j170), .second, .val (.long j177), .second, .val (.long j184), .second, .unset, .unset, .unset, .unset, .unset, .unset, .unset, .unset, .unset, .unset, .unset, .unset] [(.long j184), (.long j191)]))
    refine Go.step (fun t k => XS.lload X_9.here hx rfl (hb hby at_194) rfl  k) ?_
    show Go p.tables e below P (T_9.setTop (mkF m 196 #[.val (.int p1), .val (.int p2), .val (.int p3), .val (.int p4), .val (.int p5), .val (.int p6), .val (.long cx), .second, .val (.long cy), .second, .val (.long ax), .second, .val (.long ay), .second, .val (.long bx), .second, .val (.long by2), .second, .val (.int i41), .val (.double sd), .second, .val (.double d88), .second, .val (.ref b_7), .val (.double got), .second, .val (.long j149), .second, .val (.long j156), .second, .val (.long j163), .second, .val (.long j170), .second, .val (.long j177), .second, .val (.long j184), .second, .unset, .unset, .unset, .unset, .unset, .unset, .unset, .unset, .unset, .unset, .unset, .unset] [(.long j184), (.long j184), (.long j191)]))
    obtain ⟨j196, hj196⟩ : ∃ z : Int64, j184 * j184 = z := ⟨_, rfl⟩
    refine Go.step (fun t k => lmul_v X_9.here hx rfl (hb hby at_196) rfl  hj196 k) ?_
    show Go p.tables e below P (T_9.setTop (mkF m 197 #[.val (.int p1), .val (.int p2), .val (.int p3), .val (.int p4), .val (.int p5), .val (.int p6), .val (.long cx), .second, .val (.long cy), .second, .val (.long ax), .second, .val (.long ay), .second, .val (.long bx), .second, .val (.long by2), .second, .val (.int i41), .val (.double sd), .second, .val (.double d88), .second, .val (.ref b_7), .val (.double got), .second, .val (.long j149), .second, .val (.long j156), .second, .val (.long j163), .second, .val (.long j170), .second, .val (.long j177), .second, .val (.long j184), .second, .unset, .unset, .unset, .unset, .unset, .unset, .unset, .unset, .unset, .unset, .unset, .unset] [(.long j196), (.long j191)]))
    obtain ⟨j197, hj197⟩ : ∃ z : Int64, j191 + j196 = z := ⟨_, rfl⟩
    refine Go.step (fun t k => ladd_v X_9.here hx rfl (hb hby at_197) rfl  hj197 k) ?_
    show Go p.tables e below P (T_9.setTop (mkF m 198 #[.val (.int p1), .val (.int p2), .val (.int p3), .val (.int p4), .val (.int p5), .val (.int p6), .val (.long cx), .second, .val (.long cy), .second, .val (.long ax), .second, .val (.long ay), .second, .val (.long bx), .second, .val (.long by2), .second, .val (.int i41), .val (.double sd), .second, .val (.double d88), .second, .val (.ref b_7), .val (.double got), .second, .val (.long j149), .second, .val (.long j156), .second, .val (.long j163), .second, .val (.long j170), .second, .val (.long j177), .second, .val (.long j184), .second, .unset, .unset, .unset, .unset, .unset, .unset, .unset, .unset, .unset, .unset, .unset, .unset] [(.long j197)]))
    refine Go.step (fun t k => XS.lstore X_9.here hx rfl (hb hby at_198) rfl (l' := #[.val (.int p1), .val (.int p2), .val (.int p3), .val (.int p4), .val (.int p5), .val (.int p6), .val (.long cx), .second, .val (.long cy), .second, .val (.long ax), .second, .val (.long ay), .second, .val (.long bx), .second, .val (.long by2), .second, .val (.int i41), .val (.double sd), .second, .val (.double d88), .second, .val (.ref b_7), .val (.double got), .second, .val (.long j149), .second, .val (.long j156), .second, .val (.long j163), .second, .val (.long j170), .second, .val (.long j177), .second, .val (.long j184), .second, .val (.long j197), .second, .unset, .unset, .unset, .unset, .unset, .unset, .unset, .unset, .unset, .unset]) rfl k) ?_
    show Go p.tables e below P (T_9.setTop (mkF m 200 #[.val (.int p1), .val (.int p2), .val (.int p3), .val (.int p4), .val (.int p5), .val (.int p6), .val (.long cx), .second, .val (.long cy), .second, .val (.long ax), .second, .val (.long ay), .second, .val (.long bx), .second, .val (.long by2), .second, .val (.int i41), .val (.double sd), .second, .val (.double d88), .second, .val (.ref b_7), .val (.double got), .second, .val (.long j149), .second, .val (.long j156), .second, .val (.long j163), .second, .val (.long j170), .second, .val (.long j177), .second, .val (.long j184), .second, .val (.long j197), .second, .unset, .unset, .unset, .unset, .unset, .unset, .unset, .unset, .unset, .unset] []))
    refine Go.step (fun t k => XS.lload X_9.here hx rfl (hb hby at_200) rfl  k) ?_
    show Go p.tables e below P (T_9.setTop (mkF m 202 #[.val (.int p1), .val (.int p2), .val (.int p3), .val (.int p4), .val (.int p5), .val (.int p6), .val (.long cx), .second, .val (.long cy), .second, .val (.long ax), .second, .val (.long ay), .second, .val (.long bx), .second, .val (.long by2), .second, .val (.int i41), .val (.double sd), .second, .val (.double d88), .second, .val (.ref b_7), .val (.double got), .second, .val (.long j149), .second, .val (.long j156), .second, .val (.long j163), .second, .val (.long j170), .second, .val (.long j177), .second, .val (.long j184), .second, .val (.long j197), .second, .unset, .unset, .unset, .unset, .unset, .unset, .unset, .unset, .unset, .unset] [(.long j149)]))
    refine Go.step (fun t k => XS.lload X_9.here hx rfl (hb hby at_202) rfl  k) ?_
    show Go p.tables e below P (T_9.setTop (mkF m 204 #[.val (.int p1), .val (.int p2), .val (.int p3), .val (.int p4), .val (.int p5), .val (.int p6), .val (.long cx), .second, .val (.long cy), .second, .val (.long ax), .second, .val (.long ay), .second, .val (.long bx), .second, .val (.long by2), .second, .val (.int i41), .val (.double sd), .second, .val (.double d88), .second, .val (.ref b_7), .val (.double got), .second, .val (.long j149), .second, .val (.long j156), .second, .val (.long j163), .second, .val (.long j170), .second, .val (.long j177), .second, .val (.long j184), .second, .val (.long j197), .second, .unset, .unset, .unset, .unset, .unset, .unset, .unset, .unset, .unset, .unset] [(.long j177), (.long j149)]))
    obtain ⟨j204, hj204⟩ : ∃ z : Int64, j149 * j177 = z := ⟨_, rfl⟩
    refine Go.step (fun t k => lmul_v X_9.here hx rfl (hb hby at_204) rfl  hj204 k) ?_
    show Go p.tables e below P (T_9.setTop (mkF m 205 #[.val (.int p1), .val (.int p2), .val (.int p3), .val (.int p4), .val (.int p5), .val (.int p6), .val (.long cx), .second, .val (.long cy), .second, .val (.long ax), .second, .val (.long ay), .second, .val (.long bx), .second, .val (.long by2), .second, .val (.int i41), .val (.double sd), .second, .val (.double d88), .second, .val (.ref b_7), .val (.double got), .second, .val (.long j149), .second, .val (.long j156), .second, .val (.long j163), .second, .val (.long j170), .second, .val (.long j177), .second, .val (.long j184), .second, .val (.long j197), .second, .unset, .unset, .unset, .unset, .unset, .unset, .unset, .unset, .unset, .unset] [(.long j204)]))
    refine Go.step (fun t k => XS.lload X_9.here hx rfl (hb hby at_205) rfl  k) ?_
    show Go p.tables e below P (T_9.setTop (mkF m 207 #[.val (.int p1), .val (.int p2), .val (.int p3), .val (.int p4), .val (.int p5), .val (.int p6), .val (.long cx), .second, .val (.long cy), .second, .val (.long ax), .second, .val (.long ay), .second, .val (.long bx), .second, .val (.long by2), .second, .val (.int i41), .val (.double sd), .second, .val (.double d88), .second, .val (.ref b_7), .val (.double got), .second, .val (.long j149), .second, .val (.long j156), .second, .val (.long j163), .second, .val (.long j170), .second, .val (.long j177), .second, .val (.long j184), .second, .val (.long j197), .second, .unset, .unset, .unset, .unset, .unset, .unset, .unset, .unset, .unset, .unset] [(.long j156), (.long j204)]))
    refine Go.step (fun t k => XS.lload X_9.here hx rfl (hb hby at_207) rfl  k) ?_
    show Go p.tables e below P (T_9.setTop (mkF m 209 #[.val (.int p1), .val (.int p2), .val (.int p3), .val (.int p4), .val (.int p5), .val (.int p6), .val (.long cx), .second, .val (.long cy), .second, .val (.long ax), .second, .val (.long ay), .second, .val (.long bx), .second, .val (.long by2), .second, .val (.int i41), .val (.double sd), .second, .val (.double d88), .second, .val (.ref b_7), .val (.double got), .second, .val (.long j149), .second, .val (.long j156), .second, .val (.long j163), .second, .val (.long j170), .second, .val (.long j177), .second, .val (.long j184), .second, .val (.long j197), .second, .unset, .unset, .unset, .unset, .unset, .unset, .unset, .unset, .unset, .unset] [(.long j184), (.long j156), (.long j204)]))
    obtain ⟨j209, hj209⟩ : ∃ z : Int64, j156 * j184 = z := ⟨_, rfl⟩
    refine Go.step (fun t k => lmul_v X_9.here hx rfl (hb hby at_209) rfl  hj209 k) ?_
    show Go p.tables e below P (T_9.setTop (mkF m 210 #[.val (.int p1), .val (.int p2), .val (.int p3), .val (.int p4), .val (.int p5), .val (.int p6), .val (.long cx), .second, .val (.long cy), .second, .val (.long ax), .second, .val (.long ay), .second, .val (.long bx), .second, .val (.long by2), .second, .val (.int i41), .val (.double sd), .second, .val (.double d88), .second, .val (.ref b_7), .val (.double got), .second, .val (.long j149), .second, .val (.long j156), .second, .val (.long j163), .second, .val (.long j170), .second, .val (.long j177), .second, .val (.long j184), .second, .val (.long j197), .second, .unset, .unset, .unset, .unset, .unset, .unset, .unset, .unset, .unset, .unset] [(.long j209), (.long j204)]))
    obtain ⟨j210, hj210⟩ : ∃ z : Int64, j204 + j209 = z := ⟨_, rfl⟩
    refine Go.step (fun t k => ladd_v X_9.here hx rfl (hb hby at_210) rfl  hj210 k) ?_
    show Go p.tables e below P (T_9.setTop (mkF m 211 #[.val (.int p1), .val (.int p2), .val (.int p3), .val (.int p4), .val (.int p5), .val (.int p6), .val (.long cx), .second, .val (.long cy), .second, .val (.long ax), .second, .val (.long ay), .second, .val (.long bx), .second, .val (.long by2), .second, .val (.int i41), .val (.double sd), .second, .val (.double d88), .second, .val (.ref b_7), .val (.double got), .second, .val (.long j149), .second, .val (.long j156), .second, .val (.long j163), .second, .val (.long j170), .second, .val (.long j177), .second, .val (.long j184), .second, .val (.long j197), .second, .unset, .unset, .unset, .unset, .unset, .unset, .unset, .unset, .unset, .unset] [(.long j210)]))
    refine Go.step (fun t k => XS.lstore X_9.here hx rfl (hb hby at_211) rfl (l' := #[.val (.int p1), .val (.int p2), .val (.int p3), .val (.int p4), .val (.int p5), .val (.int p6), .val (.long cx), .second, .val (.long cy), .second, .val (.long ax), .second, .val (.long ay), .second, .val (.long bx), .second, .val (.long by2), .second, .val (.int i41), .val (.double sd), .second, .val (.double d88), .second, .val (.ref b_7), .val (.double got), .second, .val (.long j149), .second, .val (.long j156), .second, .val (.long j163), .second, .val (.long j170), .second, .val (.long j177), .second, .val (.long j184), .second, .val (.long j197), .second, .val (.long j210), .second, .unset, .unset, .unset, .unset, .unset, .unset, .unset, .unset]) rfl k) ?_
    show Go p.tables e below P (T_9.setTop (mkF m 213 #[.val (.int p1), .val (.int p2), .val (.int p3), .val (.int p4), .val (.int p5), .val (.int p6), .val (.long cx), .second, .val (.long cy), .second, .val (.long ax), .second, .val (.long ay), .second, .val (.long bx), .second, .val (.long by2), .second, .val (.int i41), .val (.double sd), .second, .val (.double d88), .second, .val (.ref b_7), .val (.double got), .second, .val (.long j149), .second, .val (.long j156), .second, .val (.long j163), .second, .val (.long j170), .second, .val (.long j177), .second, .val (.long j184), .second, .val (.long j197), .second, .val (.long j210), .second, .unset, .unset, .unset, .unset, .unset, .unset, .unset, .unset] []))
    refine Go.step (fun t k => XS.lload X_9.here hx rfl (hb hby at_213) rfl  k) ?_
    show Go p.tables e below P (T_9.setTop (mkF m 215 #[.val (.int p1), .val (.int p2), .val (.int p3), .val (.int p4), .val (.int p5), .val (.int p6), .val (.long cx), .second, .val (.long cy), .second, .val (.long ax), .second, .val (.long ay), .second, .val (.long bx), .second, .val (.long by2), .second, .val (.int i41), .val (.double sd), .second, .val (.double d88), .second, .val (.ref b_7), .val (.double got), .second, .val (.long j149), .second, .val (.long j156), .second, .val (.long j163), .second, .val (.long j170), .second, .val (.long j177), .second, .val (.long j184), .second, .val (.long j197), .second, .val (.long j210), .second, .unset, .unset, .unset, .unset, .unset, .unset, .unset, .unset] [(.long j149)]))
    refine Go.step (fun t k => XS.lload X_9.here hx rfl (hb hby at_215) rfl  k) ?_
    show Go p.tables e below P (T_9.setTop (mkF m 217 #[.val (.int p1), .val (.int p2), .val (.int p3), .val (.int p4), .val (.int p5), .val (.int p6), .val (.long cx), .second, .val (.long cy), .second, .val (.long ax), .second, .val (.long ay), .second, .val (.long bx), .second, .val (.long by2), .second, .val (.int i41), .val (.double sd), .second, .val (.double d88), .second, .val (.ref b_7), .val (.double got), .second, .val (.long j149), .second, .val (.long j156), .second, .val (.long j163), .second, .val (.long j170), .second, .val (.long j177), .second, .val (.long j184), .second, .val (.long j197), .second, .val (.long j210), .second, .unset, .unset, .unset, .unset, .unset, .unset, .unset, .unset] [(.long j149), (.long j149)]))
    obtain ⟨j217, hj217⟩ : ∃ z : Int64, j149 * j149 = z := ⟨_, rfl⟩
    refine Go.step (fun t k => lmul_v X_9.here hx rfl (hb hby at_217) rfl  hj217 k) ?_
    show Go p.tables e below P (T_9.setTop (mkF m 218 #[.val (.int p1), .val (.int p2), .val (.int p3), .val (.int p4), .val (.int p5), .val (.int p6), .val (.long cx), .second, .val (.long cy), .second, .val (.long ax), .second, .val (.long ay), .second, .val (.long bx), .second, .val (.long by2), .second, .val (.int i41), .val (.double sd), .second, .val (.double d88), .second, .val (.ref b_7), .val (.double got), .second, .val (.long j149), .second, .val (.long j156), .second, .val (.long j163), .second, .val (.long j170), .second, .val (.long j177), .second, .val (.long j184), .second, .val (.long j197), .second, .val (.long j210), .second, .unset, .unset, .unset, .unset, .unset, .unset, .unset, .unset] [(.long j217)]))
    refine Go.step (fun t k => XS.lload X_9.here hx rfl (hb hby at_218) rfl  k) ?_
    show Go p.tables e below P (T_9.setTop (mkF m 220 #[.val (.int p1), .val (.int p2), .val (.int p3), .val (.int p4), .val (.int p5), .val (.int p6), .val (.long cx), .second, .val (.long cy), .second, .val (.long ax), .second, .val (.long ay), .second, .val (.long bx), .second, .val (.long by2), .second, .val (.int i41), .val (.double sd), .second, .val (.double d88), .second, .val (.ref b_7), .val (.double got), .second, .val (.long j149), .second, .val (.long j156), .second, .val (.long j163), .second, .val (.long j170), .second, .val (.long j177), .second, .val (.long j184), .second, .val (.long j197), .second, .val (.long j210), .second, .unset, .unset, .unset, .unset, .unset, .unset, .unset, .unset] [(.long j156), (.long j217)]))
    refine Go.step (fun t k => XS.lload X_9.here hx rfl (hb hby at_220) rfl  k) ?_
    show Go p.tables e below P (T_9.setTop (mkF m 222 #[.val (.int p1), .val (.int p2), .val (.int p3), .val (.int p4), .val (.int p5), .val (.int p6), .val (.long cx), .second, .val (.long cy), .second, .val (.long ax), .second, .val (.long ay), .second, .val (.long bx), .second, .val (.long by2), .second, .val (.int i41), .val (.double sd), .second, .val (.double d88), .second, .val (.ref b_7), .val (.double got), .second, .val (.long j149), .second, .val (.long j156), .second, .val (.long j163), .second, .val (.long j170), .second, .val (.long j177), .second, .val (.long j184), .second, .val (.long j197), .second, .val (.long j210), .second, .unset, .unset, .unset, .unset, .unset, .unset, .unset, .unset] [(.long j156), (.long j156), (.long j217)]))
    obtain ⟨j222, hj222⟩ : ∃ z : Int64, j156 * j156 = z := ⟨_, rfl⟩
    refine Go.step (fun t k => lmul_v X_9.here hx rfl (hb hby at_222) rfl  hj222 k) ?_
    show Go p.tables e below P (T_9.setTop (mkF m 223 #[.val (.int p1), .val (.int p2), .val (.int p3), .val (.int p4), .val (.int p5), .val (.int p6), .val (.long cx), .second, .val (.long cy), .second, .val (.long ax), .second, .val (.long ay), .second, .val (.long bx), .second, .val (.long by2), .second, .val (.int i41), .val (.double sd), .second, .val (.double d88), .second, .val (.ref b_7), .val (.double got), .second, .val (.long j149), .second, .val (.long j156), .second, .val (.long j163), .second, .val (.long j170), .second, .val (.long j177), .second, .val (.long j184), .second, .val (.long j197), .second, .val (.long j210), .second, .unset, .unset, .unset, .unset, .unset, .unset, .unset, .unset] [(.long j222), (.long j217)]))
    obtain ⟨j223, hj223⟩ : ∃ z : Int64, j217 + j222 = z := ⟨_, rfl⟩
    refine Go.step (fun t k => ladd_v X_9.here hx rfl (hb hby at_223) rfl  hj223 k) ?_
    show Go p.tables e below P (T_9.setTop (mkF m 224 #[.val (.int p1), .val (.int p2), .val (.int p3), .val (.int p4), .val (.int p5), .val (.int p6), .val (.long cx), .second, .val (.long cy), .second, .val (.long ax), .second, .val (.long ay), .second, .val (.long bx), .second, .val (.long by2), .second, .val (.int i41), .val (.double sd), .second, .val (.double d88), .second, .val (.ref b_7), .val (.double got), .second, .val (.long j149), .second, .val (.long j156), .second, .val (.long j163), .second, .val (.long j170), .second, .val (.long j177), .second, .val (.long j184), .second, .val (.long j197), .second, .val (.long j210), .second, .unset, .unset, .unset, .unset, .unset, .unset, .unset, .unset] [(.long j223)]))
    refine Go.step (fun t k => XS.lstore X_9.here hx rfl (hb hby at_224) rfl (l' := #[.val (.int p1), .val (.int p2), .val (.int p3), .val (.int p4), .val (.int p5), .val (.int p6), .val (.long cx), .second, .val (.long cy), .second, .val (.long ax), .second, .val (.long ay), .second, .val (.long bx), .second, .val (.long by2), .second, .val (.int i41), .val (.double sd), .second, .val (.double d88), .second, .val (.ref b_7), .val (.double got), .second, .val (.long j149), .second, .val (.long j156), .second, .val (.long j163), .second, .val (.long j170), .second, .val (.long j177), .second, .val (.long j184), .second, .val (.long j197), .second, .val (.long j210), .second, .val (.long j223), .second, .unset, .unset, .unset, .unset, .unset, .unset]) rfl k) ?_
    show Go p.tables e below P (T_9.setTop (mkF m 226 #[.val (.int p1), .val (.int p2), .val (.int p3), .val (.int p4), .val (.int p5), .val (.int p6), .val (.long cx), .second, .val (.long cy), .second, .val (.long ax), .second, .val (.long ay), .second, .val (.long bx), .second, .val (.long by2), .second, .val (.int i41), .val (.double sd), .second, .val (.double d88), .second, .val (.ref b_7), .val (.double got), .second, .val (.long j149), .second, .val (.long j156), .second, .val (.long j163), .second, .val (.long j170), .second, .val (.long j177), .second, .val (.long j184), .second, .val (.long j197), .second, .val (.long j210), .second, .val (.long j223), .second, .unset, .unset, .unset, .unset, .unset, .unset] []))
    refine Go.step (fun t k => XS.lload X_9.here hx rfl (hb hby at_226) rfl  k) ?_
    show Go p.tables e below P (T_9.setTop (mkF m 228 #[.val (.int p1), .val (.int p2), .val (.int p3), .val (.int p4), .val (.int p5), .val (.int p6), .val (.long cx), .second, .val (.long cy), .second, .val (.long ax), .second, .val (.long ay), .second, .val (.long bx), .second, .val (.long by2), .second, .val (.int i41), .val (.double sd), .second, .val (.double d88), .second, .val (.ref b_7), .val (.double got), .second, .val (.long j149), .second, .val (.long j156), .second, .val (.long j163), .second, .val (.long j170), .second, .val (.long j177), .second, .val (.long j184), .second, .val (.long j197), .second, .val (.long j210), .second, .val (.long j223), .second, .unset, .unset, .unset, .unset, .unset, .unset] [(.long j163)]))
    refine Go.step (fun t k => XS.lload X_9.here hx rfl (hb hby at_228) rfl  k) ?_
    show Go p.tables e below P (T_9.setTop (mkF m 230 #[.val (.int p1), .val (.int p2), .val (.int p3), .val (.int p4), .val (.int p5), .val (.int p6), .val (.long cx), .second, .val (.long cy), .second, .val (.long ax), .second, .val (.long ay), .second, .val (.long bx), .second, .val (.long by2), .second, .val (.int i41), .val (.double sd), .second, .val (.double d88), .second, .val (.ref b_7), .val (.double got), .second, .val (.long j149), .second, .val (.long j156), .second, .val (.long j163), .second, .val (.long j170), .second, .val (.long j177), .second, .val (.long j184), .second, .val (.long j197), .second, .val (.long j210), .second, .val (.long j223), .second, .unset, .unset, .unset, .unset, .unset, .unset] [(.long j163), (.long j163)]))
    obtain ⟨j230, hj230⟩ : ∃ z : Int64, j163 * j163 = z := ⟨_, rfl⟩
    refine Go.step (fun t k => lmul_v X_9.here hx rfl (hb hby at_230) rfl  hj230 k) ?_
    show Go p.tables e below P (T_9.setTop (mkF m 231 #[.val (.int p1), .val (.int p2), .val (.int p3), .val (.int p4), .val (.int p5), .val (.int p6), .val (.long cx), .second, .val (.long cy), .second, .val (.long ax), .second, .val (.long ay), .second, .val (.long bx), .second, .val (.long by2), .second, .val (.int i41), .val (.double sd), .second, .val (.double d88), .second, .val (.ref b_7), .val (.double got), .second, .val (.long j149), .second, .val (.long j156), .second, .val (.long j163), .second, .val (.long j170), .second, .val (.long j177), .second, .val (.long j184), .second, .val (.long j197), .second, .val (.long j210), .second, .val (.long j223), .second, .unset, .unset, .unset, .unset, .unset, .unset] [(.long j230)]))
    refine Go.step (fun t k => XS.lload X_9.here hx rfl (hb hby at_231) rfl  k) ?_
    show Go p.tables e below P (T_9.setTop (mkF m 233 #[.val (.int p1), .val (.int p2), .val (.int p3), .val (.int p4), .val (.int p5), .val (.int p6), .val (.long cx), .second, .val (.long cy), .second, .val (.long ax), .second, .val (.long ay), .second, .val (.long bx), .second, .val (.long by2), .second, .val (.int i41), .val (.double sd), .second, .val (.double d88), .second, .val (.ref b_7), .val (.double got), .second, .val (.long j149), .second, .val (.long j156), .second, .val (.long j163), .second, .val (.long j170), .second, .val (.long j177), .second, .val (.long j184), .second, .val (.long j197), .second, .val (.long j210), .second, .val (.long j223), .second, .unset, .unset, .unset, .unset, .unset, .unset] [(.long j170), (.long j230)]))
    refine Go.step (fun t k => XS.lload X_9.here hx rfl (hb hby at_233) rfl  k) ?_
    show Go p.tables e below P (T_9.setTop (mkF m 235 #[.val (.int p1), .val (.int p2), .val (.int p3), .val (.int p4), .val (.int p5), .val (.int p6), .val (.long cx), .second, .val (.long cy), .second, .val (.long ax), .second, .val (.long ay), .second, .val (.long bx), .second, .val (.long by2), .second, .val (.int i41), .val (.double sd), .second, .val (.double d88), .second, .val (.ref b_7), .val (.double got), .second, .val (.long j149), .second, .val (.long j156), .second, .val (.long j163), .second, .val (.long j170), .second, .val (.long j177), .second, .val (.long j184), .second, .val (.long j197), .second, .val (.long j210), .second, .val (.long j223), .second, .unset, .unset, .unset, .unset, .unset, .unset] [(.long j170), (.long j170), (.long j230)]))
    obtain ⟨j235, hj235⟩ : ∃ z : Int64, j170 * j170 = z := ⟨_, rfl⟩
    refine Go.step (fun t k => lmul_v X_9.here hx rfl (hb hby at_235) rfl  hj235 k) ?_
    show Go p.tables e below P (T_9.setTop (mkF m 236 #[.val (.int p1), .val (.int p2), .val (.int p3), .val (.int p4), .val (.int p5), .val (.int p6), .val (.long cx), .second, .val (.long cy), .second, .val (.long ax), .second, .val (.long ay), .second, .val (.long bx), .second, .val (.long by2), .second, .val (.int i41), .val (.double sd), .second, .val (.double d88), .second, .val (.ref b_7), .val (.double got), .second, .val (.long j149), .second, .val (.long j156), .second, .val (.long j163), .second, .val (.long j170), .second, .val (.long j177), .second, .val (.long j184), .second, .val (.long j197), .second, .val (.long j210), .second, .val (.long j223), .second, .unset, .unset, .unset, .unset, .unset, .unset] [(.long j235), (.long j230)]))
    obtain ⟨j236, hj236⟩ : ∃ z : Int64, j230 + j235 = z := ⟨_, rfl⟩
    refine Go.step (fun t k => ladd_v X_9.here hx rfl (hb hby at_236) rfl  hj236 k) ?_
    show Go p.tables e below P (T_9.setTop (mkF m 237 #[.val (.int p1), .val (.int p2), .val (.int p3), .val (.int p4), .val (.int p5), .val (.int p6), .val (.long cx), .second, .val (.long cy), .second, .val (.long ax), .second, .val (.long ay), .second, .val (.long bx), .second, .val (.long by2), .second, .val (.int i41), .val (.double sd), .second, .val (.double d88), .second, .val (.ref b_7), .val (.double got), .second, .val (.long j149), .second, .val (.long j156), .second, .val (.long j163), .second, .val (.long j170), .second, .val (.long j177), .second, .val (.long j184), .second, .val (.long j197), .second, .val (.long j210), .second, .val (.long j223), .second, .unset, .unset, .unset, .unset, .unset, .unset] [(.long j236)]))
    refine Go.step (fun t k => XS.lstore X_9.here hx rfl (hb hby at_237) rfl (l' := #[.val (.int p1), .val (.int p2), .val (.int p3), .val (.int p4), .val (.int p5), .val (.int p6), .val (.long cx), .second, .val (.long cy), .second, .val (.long ax), .second, .val (.long ay), .second, .val (.long bx), .second, .val (.long by2), .second, .val (.int i41), .val (.double sd), .second, .val (.double d88), .second, .val (.ref b_7), .val (.double got), .second, .val (.long j149), .second, .val (.long j156), .second, .val (.long j163), .second, .val (.long j170), .second, .val (.long j177), .second, .val (.long j184), .second, .val (.long j197), .second, .val (.long j210), .second, .val (.long j223), .second, .val (.long j236), .second, .unset, .unset, .unset, .unset]) rfl k) ?_
    show Go p.tables e below P (T_9.setTop (mkF m 239 #[.val (.int p1), .val (.int p2), .val (.int p3), .val (.int p4), .val (.int p5), .val (.int p6), .val (.long cx), .second, .val (.long cy), .second, .val (.long ax), .second, .val (.long ay), .second, .val (.long bx), .second, .val (.long by2), .second, .val (.int i41), .val (.double sd), .second, .val (.double d88), .second, .val (.ref b_7), .val (.double got), .second, .val (.long j149), .second, .val (.long j156), .second, .val (.long j163), .second, .val (.long j170), .second, .val (.long j177), .second, .val (.long j184), .second, .val (.long j197), .second, .val (.long j210), .second, .val (.long j223), .second, .val (.long j236), .second, .unset, .unset, .unset, .unset] []))
    have f149 := c_lsub ax cx; rw [hj149] at f149
    have g149 := rng64 j149
    have v149 : j149.toInt = ux := by omega
    clear f149
    have f156 := c_lsub ay cy; rw [hj156] at f156
    have g156 := rng64 j156
    have v156 : j156.toInt = uy := by omega
    clear f156
    have f163 := c_lsub bx cx; rw [hj163] at f163
    have g163 := rng64 j163
    have v163 : j163.toInt = vx := by omega
    clear f163
    have f170 := c_lsub by2 cy; rw [hj170] at f170
    have g170 := rng64 j170
    have v170 : j170.toInt = vy := by omega
    clear f170
    have f177 := c_lsub j163 j149; rw [hj177, v163, v149] at f177
    have g177 := rng64 j177
    have v177 : j177.toInt = dx := by omega
    clear f177
    have f184 := c_lsub j170 j156; rw [hj184, v170, v156] at f184
    have g184 := rng64 j184
    have v184 : j184.toInt = dy := by omega
    clear f184
    have mux := bmul bux bux
    have muy := bmul buy buy
    have mvx := bmul bvx bvx
    have mvy := bmul bvy bvy
    have mdx := bmul bdx bdx
    have mdy := bmul bdy bdy
    have mud := bmul bux bdx
    have mvd := bmul buy bdy
    have f191 := c_lmul j177 j177; rw [hj191, v177] at f191
    have g191 := rng64 j191
    have v191 : j191.toInt = dx * dx := by omega
    clear f191
    have f196 := c_lmul j184 j184; rw [hj196, v184] at f196
    have g196 := rng64 j196
    have v196 : j196.toInt = dy * dy := by omega
    clear f196
    have f197 := c_ladd j191 j196; rw [hj197, v191, v196] at f197
    have g197 := rng64 j197
    have v197 : j197.toInt = dx * dx + dy * dy := by omega
    clear f197
    have f204 := c_lmul j149 j177; rw [hj204, v149, v177] at f204
    have g204 := rng64 j204
    have v204 : j204.toInt = ux * dx := by omega
    clear f204
    have f209 := c_lmul j156 j184; rw [hj209, v156, v184] at f209
    have g209 := rng64 j209
    have v209 : j209.toInt = uy * dy := by omega
    clear f209
    have f210 := c_ladd j204 j209; rw [hj210, v204, v209] at f210
    have g210 := rng64 j210
    have v210 : j210.toInt = ux * dx + uy * dy := by omega
    clear f210
    have f217 := c_lmul j149 j149; rw [hj217, v149] at f217
    have g217 := rng64 j217
    have v217 : j217.toInt = ux * ux := by omega
    clear f217
    have f222 := c_lmul j156 j156; rw [hj222, v156] at f222
    have g222 := rng64 j222
    have v222 : j222.toInt = uy * uy := by omega
    clear f222
    have f223 := c_ladd j217 j222; rw [hj223, v217, v222] at f223
    have g223 := rng64 j223
    have v223 : j223.toInt = ux * ux + uy * uy := by omega
    clear f223
    have f230 := c_lmul j163 j163; rw [hj230, v163] at f230
    have g230 := rng64 j230
    have v230 : j230.toInt = vx * vx := by omega
    clear f230
    have f235 := c_lmul j170 j170; rw [hj235, v170] at f235
    have g235 := rng64 j235
    have v235 : j235.toInt = vy * vy := by omega
    clear f235
    have f236 := c_ladd j230 j235; rw [hj236, v230, v235] at f236
    have g236 := rng64 j236
    have v236 : j236.toInt = vx * vx + vy * vy := by omega
    clear f236
    refine Go.step (fun t k => XS.dload X_9.here hx rfl (hb hby at_239) rfl  k) ?_
    show Go p.tables e below P (T_9.setTop (mkF m 241 #[.val (.int p1), .val (.int p2), .val (.int p3), .val (.int p4), .val (.int p5), .val (.int p6), .val (.long cx), .second, .val (.long cy), .second, .val (.long ax), .second, .val (.long ay), .second, .val (.long bx), .second, .val (.long by2), .second, .val (.int i41), .val (.double sd), .second, .val (.double d88), .second, .val (.ref b_7), .val (.double got), .second, .val (.long j149), .second, .val (.long j156), .second, .val (.long j163), .second, .val (.long j170), .second, .val (.long j177), .second, .val (.long j184), .second, .val (.long j197), .second, .val (.long j210), .second, .val (.long j223), .second, .val (.long j236), .second, .unset, .unset, .unset, .unset] [(.double sd)]))
    refine Go.step (fun t k => XS.dload X_9.here hx rfl (hb hby at_241) rfl  k) ?_
    show Go p.tables e below P (T_9.setTop (mkF m 243 #[.val (.int p1), .val (.int p2), .val (.int p3), .val (.int p4), .val (.int p5), .val (.int p6), .val (.long cx), .second, .val (.long cy), .second, .val (.long ax), .second, .val (.long ay), .second, .val (.long bx), .second, .val (.long by2), .second, .val (.int i41), .val (.double sd), .second, .val (.double d88), .second, .val (.ref b_7), .val (.double got), .second, .val (.long j149), .second, .val (.long j156), .second, .val (.long j163), .second, .val (.long j170), .second, .val (.long j177), .second, .val (.long j184), .second, .val (.long j197), .second, .val (.long j210), .second, .val (.long j223), .second, .val (.long j236), .second, .unset, .unset, .unset, .unset] [(.double sd), (.double sd)]))
    obtain ⟨s2, hs2⟩ : ∃ z : UInt64, FP.dmul sd sd = z := ⟨_, rfl⟩
    have qs2 := mul_e (k := k2) (n := 1) qs qs h2 rfl (by decide) (by omega)
    rw [hs2] at qs2
    refine Go.step (fun t k => XS.dmulS X_9.here hx rfl (hb hby at_243) rfl (hs2 ▸ qs2.nn) hs2 k) ?_
    show Go p.tables e below P (T_9.setTop (mkF m 244 #[.val (.int p1), .val (.int p2), .val (.int p3), .val (.int p4), .val (.int p5), .val (.int p6), .val (.long cx), .second, .val (.long cy), .second, .val (.long ax), .second, .val (.long ay), .second, .val (.long bx), .second, .val (.long by2), .second, .val (.int i41), .val (.double sd), .second, .val (.double d88), .second, .val (.ref b_7), .val (.double got), .second, .val (.long j149), .second, .val (.long j156), .second, .val (.long j163), .second, .val (.long j170), .second, .val (.long j177), .second, .val (.long j184), .second, .val (.long j197), .second, .val (.long j210), .second, .val (.long j223), .second, .val (.long j236), .second, .unset, .unset, .unset, .unset] [(.double s2)]))
    refine Go.step (fun t k => XS.dstore X_9.here hx rfl (hb hby at_244) rfl (l' := #[.val (.int p1), .val (.int p2), .val (.int p3), .val (.int p4), .val (.int p5), .val (.int p6), .val (.long cx), .second, .val (.long cy), .second, .val (.long ax), .second, .val (.long ay), .second, .val (.long bx), .second, .val (.long by2), .second, .val (.int i41), .val (.double sd), .second, .val (.double d88), .second, .val (.ref b_7), .val (.double got), .second, .val (.long j149), .second, .val (.long j156), .second, .val (.long j163), .second, .val (.long j170), .second, .val (.long j177), .second, .val (.long j184), .second, .val (.long j197), .second, .val (.long j210), .second, .val (.long j223), .second, .val (.long j236), .second, .val (.double s2), .second, .unset, .unset]) rfl k) ?_
    show Go p.tables e below P (T_9.setTop (mkF m 246 #[.val (.int p1), .val (.int p2), .val (.int p3), .val (.int p4), .val (.int p5), .val (.int p6), .val (.long cx), .second, .val (.long cy), .second, .val (.long ax), .second, .val (.long ay), .second, .val (.long bx), .second, .val (.long by2), .second, .val (.int i41), .val (.double sd), .second, .val (.double d88), .second, .val (.ref b_7), .val (.double got), .second, .val (.long j149), .second, .val (.long j156), .second, .val (.long j163), .second, .val (.long j170), .second, .val (.long j177), .second, .val (.long j184), .second, .val (.long j197), .second, .val (.long j210), .second, .val (.long j223), .second, .val (.long j236), .second, .val (.double s2), .second, .unset, .unset] []))
    refine Go.step (fun t k => XS.lload X_9.here hx rfl (hb hby at_246) rfl  k) ?_
    show Go p.tables e below P (T_9.setTop (mkF m 248 #[.val (.int p1), .val (.int p2), .val (.int p3), .val (.int p4), .val (.int p5), .val (.int p6), .val (.long cx), .second, .val (.long cy), .second, .val (.long ax), .second, .val (.long ay), .second, .val (.long bx), .second, .val (.long by2), .second, .val (.int i41), .val (.double sd), .second, .val (.double d88), .second, .val (.ref b_7), .val (.double got), .second, .val (.long j149), .second, .val (.long j156), .second, .val (.long j163), .second, .val (.long j170), .second, .val (.long j177), .second, .val (.long j184), .second, .val (.long j197), .second, .val (.long j210), .second, .val (.long j223), .second, .val (.long j236), .second, .val (.double s2), .second, .unset, .unset] [(.long j210)]))
    refine Go.step (fun t k => XS.lconst X_9.here hx rfl (hb hby at_248) k) ?_
    show Go p.tables e below P (T_9.setTop (mkF m 249 #[.val (.int p1), .val (.int p2), .val (.int p3), .val (.int p4), .val (.int p5), .val (.int p6), .val (.long cx), .second, .val (.long cy), .second, .val (.long ax), .second, .val (.long ay), .second, .val (.long bx), .second, .val (.long by2), .second, .val (.int i41), .val (.double sd), .second, .val (.double d88), .second, .val (.ref b_7), .val (.double got), .second, .val (.long j149), .second, .val (.long j156), .second, .val (.long j163), .second, .val (.long j170), .second, .val (.long j177), .second, .val (.long j184), .second, .val (.long j197), .second, .val (.long j210), .second, .val (.long j223), .second, .val (.long j236), .second, .val (.double s2), .second, .unset, .unset] [(.long (0 : Int64)), (.long j210)]))
    refine Go.step (fun t k => XS.lcmp X_9.here hx rfl (hb hby at_249) rfl k) ?_
    show Go p.tables e below P (T_9.setTop (mkF m 250 #[.val (.int p1), .val (.int p2), .val (.int p3), .val (.int p4), .val (.int p5), .val (.int p6), .val (.long cx), .second, .val (.long cy), .second, .val (.long ax), .second, .val (.long ay), .second, .val (.long bx), .second, .val (.long by2), .second, .val (.int i41), .val (.double sd), .second, .val (.double d88), .second, .val (.ref b_7), .val (.double got), .second, .val (.long j149), .second, .val (.long j156), .second, .val (.long j163), .second, .val (.long j170), .second, .val (.long j177), .second, .val (.long j184), .second, .val (.long j197), .second, .val (.long j210), .second, .val (.long j223), .second, .val (.long j236), .second, .val (.double s2), .second, .unset, .unset] [(.int (lcmpW j210 (0 : Int64)))]))
    by_cases hc250 : j210.toInt < (0 : Int)
    · refine Go.step (fun t k => XS.ifYes X_9.here hx rfl (pc0 := 250) (pc' := 264) rfl (hb hby at_250) rfl (lcY (cd := .lt) hc250) (by decide) (by decide) k) ?_
      show Go p.tables e below P (T_9.setTop (mkF m 264 #[.val (.int p1), .val (.int p2), .val (.int p3), .val (.int p4), .val (.int p5), .val (.int p6), .val (.long cx), .second, .val (.long cy), .second, .val (.long ax), .second, .val (.long ay), .second, .val (.long bx), .second, .val (.long by2), .second, .val (.int i41), .val (.double sd), .second, .val (.double d88), .second, .val (.ref b_7), .val (.double got), .second, .val (.long j149), .second, .val (.long j156), .second, .val (.long j163), .second, .val (.long j170), .second, .val (.long j177), .second, .val (.long j184), .second, .val (.long j197), .second, .val (.long j210), .second, .val (.long j223), .second, .val (.long j236), .second, .val (.double s2), .second, .unset, .unset] []))
      refine Go.step (fun t k => XS.lload X_9.here hx rfl (hb hby at_264) rfl  k) ?_
      show Go p.tables e below P (T_9.setTop (mkF m 266 #[.val (.int p1), .val (.int p2), .val (.int p3), .val (.int p4), .val (.int p5), .val (.int p6), .val (.long cx), .second, .val (.long cy), .second, .val (.long ax), .second, .val (.long ay), .second, .val (.long bx), .second, .val (.long by2), .second, .val (.int i41), .val (.double sd), .second, .val (.double d88), .second, .val (.ref b_7), .val (.double got), .second, .val (.long j149), .second, .val (.long j156), .second, .val (.long j163), .second, .val (.long j170), .second, .val (.long j177), .second, .val (.long j184), .second, .val (.long j197), .second, .val (.long j210), .second, .val (.long j223), .second, .val (.long j236), .second, .val (.double s2), .second, .unset, .unset] [(.long j210)]))
      obtain ⟨j266, hj266⟩ : ∃ z : Int64, -j210 = z := ⟨_, rfl⟩
      refine Go.step (fun t k => lneg_v X_9.here hx rfl (hb hby at_266) rfl hj266 k) ?_
      show Go p.tables e below P (T_9.setTop (mkF m 267 #[.val (.int p1), .val (.int p2), .val (.int p3), .val (.int p4), .val (.int p5), .val (.int p6), .val (.long cx), .second, .val (.long cy), .second, .val (.long ax), .second, .val (.long ay), .second, .val (.long bx), .second, .val (.long by2), .second, .val (.int i41), .val (.double sd), .second, .val (.double d88), .second, .val (.ref b_7), .val (.double got), .second, .val (.long j149), .second, .val (.long j156), .second, .val (.long j163), .second, .val (.long j170), .second, .val (.long j177), .second, .val (.long j184), .second, .val (.long j197), .second, .val (.long j210), .second, .val (.long j223), .second, .val (.long j236), .second, .val (.double s2), .second, .unset, .unset] [(.long j266)]))
      refine Go.step (fun t k => XS.lload X_9.here hx rfl (hb hby at_267) rfl  k) ?_
      show Go p.tables e below P (T_9.setTop (mkF m 269 #[.val (.int p1), .val (.int p2), .val (.int p3), .val (.int p4), .val (.int p5), .val (.int p6), .val (.long cx), .second, .val (.long cy), .second, .val (.long ax), .second, .val (.long ay), .second, .val (.long bx), .second, .val (.long by2), .second, .val (.int i41), .val (.double sd), .second, .val (.double d88), .second, .val (.ref b_7), .val (.double got), .second, .val (.long j149), .second, .val (.long j156), .second, .val (.long j163), .second, .val (.long j170), .second, .val (.long j177), .second, .val (.long j184), .second, .val (.long j197), .second, .val (.long j210), .second, .val (.long j223), .second, .val (.long j236), .second, .val (.double s2), .second, .unset, .unset] [(.long j197), (.long j266)]))
      have f266 := c_lneg j210; rw [hj266] at f266
      have g266 := rng64 j266
      have v266 : j266.toInt = -j210.toInt := by omega
      clear f266
      refine Go.step (fun t k => XS.lcmp X_9.here hx rfl (hb hby at_269) rfl k) ?_
      show Go p.tables e below P (T_9.setTop (mkF m 270 #[.val (.int p1), .val (.int p2), .val (.int p3), .val (.int p4), .val (.int p5), .val (.int p6), .val (.long cx), .second, .val (.long cy), .second, .val (.long ax), .second, .val (.long ay), .second, .val (.long bx), .second, .val (.long by2), .second, .val (.int i41), .val (.double sd), .second, .val (.double d88), .second, .val (.ref b_7), .val (.double got), .second, .val (.long j149), .second, .val (.long j156), .second, .val (.long j163), .second, .val (.long j170), .second, .val (.long j177), .second, .val (.long j184), .second, .val (.long j197), .second, .val (.long j210), .second, .val (.long j223), .second, .val (.long j236), .second, .val (.double s2), .second, .unset, .unset] [(.int (lcmpW j266 j197))]))
      by_cases hc270 : j266.toInt < j197.toInt
      · refine Go.step (fun t k => XS.ifYes X_9.here hx rfl (pc0 := 270) (pc' := 284) rfl (hb hby at_270) rfl (lcY (cd := .lt) hc270) (by decide) (by decide) k) ?_
        show Go p.tables e below P (T_9.setTop (mkF m 284 #[.val (.int p1), .val (.int p2), .val (.int p3), .val (.int p4), .val (.int p5), .val (.int p6), .val (.long cx), .second, .val (.long cy), .second, .val (.long ax), .second, .val (.long ay), .second, .val (.long bx), .second, .val (.long by2), .second, .val (.int i41), .val (.double sd), .second, .val (.double d88), .second, .val (.ref b_7), .val (.double got), .second, .val (.long j149), .second, .val (.long j156), .second, .val (.long j163), .second, .val (.long j170), .second, .val (.long j177), .second, .val (.long j184), .second, .val (.long j197), .second, .val (.long j210), .second, .val (.long j223), .second, .val (.long j236), .second, .val (.double s2), .second, .unset, .unset] []))
        obtain ⟨y, z, hgy, qy, qz⟩ : ∃ y z, got = FP.ddiv y z ∧ DE k4 ((ux * vy - uy * vx) * (ux * vy - uy * vx)) y ∧ DE k2 (dx * dx + dy * dy) z := by rcases hgot with ⟨h, _⟩ | ⟨_, h, _⟩ | ⟨_, _, h⟩; omega; omega; exact h
        have muv := bmul bux bvy
        have mvu := bmul buy bvx
        have bcr : -((33554432 : Nat) : Int) ≤ (ux * vy - uy * vx) ∧ (ux * vy - uy * vx) ≤ (33554432 : Nat) := by omega
        have mcr := bmul bcr bcr
        have lg := lagrange ux uy dx dy
        rw [cross_eq ux uy vx vy dx dy hdx hdy] at lg
        obtain ⟨ln, hln⟩ : ∃ z, (dx * dx + dy * dy) = z := ⟨_, rfl⟩
        obtain ⟨tt, htt⟩ : ∃ z, (ux * dx + uy * dy) = z := ⟨_, rfl⟩
        obtain ⟨u2, hu2⟩ : ∃ z, (ux * ux + uy * uy) = z := ⟨_, rfl⟩
        obtain ⟨cr, hcr⟩ : ∃ z, (ux * vy - uy * vx) = z := ⟨_, rfl⟩
        rw [hln] at v197 qz lg
        rw [htt] at v210 lg
        rw [hu2] at v223 lg
        rw [hcr] at lg qy mcr
        have bln : 0 < ln ∧ ln ≤ 134217728 := by omega
        have btt : -((67108864 : Nat) : Int) ≤ tt ∧ tt ≤ (67108864 : Nat) := by omega
        have bu2 : 0 ≤ u2 ∧ (-((33554432 : Nat) : Int) ≤ u2 ∧ u2 ≤ (33554432 : Nat)) := by have := sq_nonneg ux; have := sq_nonneg uy; omega
        have ml1 := bmul bu2.2 (show -((134217728 : Nat) : Int) ≤ ln ∧ ln ≤ (134217728 : Nat) by omega)
        have ml2 := bmul btt btt
        have cr0 := sq_nonneg cr
        refine Go.step (fun t k => XS.lload X_9.here hx rfl (hb hby at_284) rfl  k) ?_
        show Go p.tables e below P (T_9.setTop (mkF m 286 #[.val (.int p1), .val (.int p2), .val (.int p3), .val (.int p4), .val (.int p5), .val (.int p6), .val (.long cx), .second, .val (.long cy), .second, .val (.long ax), .second, .val (.long ay), .second, .val (.long bx), .second, .val (.long by2), .second, .val (.int i41), .val (.double sd), .second, .val (.double d88), .second, .val (.ref b_7), .val (.double got), .second, .val (.long j149), .second, .val (.long j156), .second, .val (.long j163), .second, .val (.long j170), .second, .val (.long j177), .second, .val (.long j184), .second, .val (.long j197), .second, .val (.long j210), .second, .val (.long j223), .second, .val (.long j236), .second, .val (.double s2), .second, .unset, .unset] [(.long j223)]))
        refine Go.step (fun t k => XS.lload X_9.here hx rfl (hb hby at_286) rfl  k) ?_
        show Go p.tables e below P (T_9.setTop (mkF m 288 #[.val (.int p1), .val (.int p2), .val (.int p3), .val (.int p4), .val (.int p5), .val (.int p6), .val (.long cx), .second, .val (.long cy), .second, .val (.long ax), .second, .val (.long ay), .second, .val (.long bx), .second, .val (.long by2), .second, .val (.int i41), .val (.double sd), .second, .val (.double d88), .second, .val (.ref b_7), .val (.double got), .second, .val (.long j149), .second, .val (.long j156), .second, .val (.long j163), .second, .val (.long j170), .second, .val (.long j177), .second, .val (.long j184), .second, .val (.long j197), .second, .val (.long j210), .second, .val (.long j223), .second, .val (.long j236), .second, .val (.double s2), .second, .unset, .unset] [(.long j197), (.long j223)]))
        obtain ⟨j288, hj288⟩ : ∃ z : Int64, j223 * j197 = z := ⟨_, rfl⟩
        refine Go.step (fun t k => lmul_v X_9.here hx rfl (hb hby at_288) rfl  hj288 k) ?_
        show Go p.tables e below P (T_9.setTop (mkF m 289 #[.val (.int p1), .val (.int p2), .val (.int p3), .val (.int p4), .val (.int p5), .val (.int p6), .val (.long cx), .second, .val (.long cy), .second, .val (.long ax), .second, .val (.long ay), .second, .val (.long bx), .second, .val (.long by2), .second, .val (.int i41), .val (.double sd), .second, .val (.double d88), .second, .val (.ref b_7), .val (.double got), .second, .val (.long j149), .second, .val (.long j156), .second, .val (.long j163), .second, .val (.long j170), .second, .val (.long j177), .second, .val (.long j184), .second, .val (.long j197), .second, .val (.long j210), .second, .val (.long j223), .second, .val (.long j236), .second, .val (.double s2), .second, .unset, .unset] [(.long j288)]))
        refine Go.step (fun t k => XS.lload X_9.here hx rfl (hb hby at_289) rfl  k) ?_
        show Go p.tables e below P (T_9.setTop (mkF m 291 #[.val (.int p1), .val (.int p2), .val (.int p3), .val (.int p4), .val (.int p5), .val (.int p6), .val (.long cx), .second, .val (.long cy), .second, .val (.long ax), .second, .val (.long ay), .second, .val (.long bx), .second, .val (.long by2), .second, .val (.int i41), .val (.double sd), .second, .val (.double d88), .second, .val (.ref b_7), .val (.double got), .second, .val (.long j149), .second, .val (.long j156), .second, .val (.long j163), .second, .val (.long j170), .second, .val (.long j177), .second, .val (.long j184), .second, .val (.long j197), .second, .val (.long j210), .second, .val (.long j223), .second, .val (.long j236), .second, .val (.double s2), .second, .unset, .unset] [(.long j210), (.long j288)]))
        refine Go.step (fun t k => XS.lload X_9.here hx rfl (hb hby at_291) rfl  k) ?_
        show Go p.tables e below P (T_9.setTop (mkF m 293 #[.val (.int p1), .val (.int p2), .val (.int p3), .val (.int p4), .val (.int p5), .val (.int p6), .val (.long cx), .second, .val (.long cy), .second, .val (.long ax), .second, .val (.long ay), .second, .val (.long bx), .second, .val (.long by2), .second, .val (.int i41), .val (.double sd), .second, .val (.double d88), .second, .val (.ref b_7), .val (.double got), .second, .val (.long j149), .second, .val (.long j156), .second, .val (.long j163), .second, .val (.long j170), .second, .val (.long j177), .second, .val (.long j184), .second, .val (.long j197), .second, .val (.long j210), .second, .val (.long j223), .second, .val (.long j236), .second, .val (.double s2), .second, .unset, .unset] [(.long j210), (.long j210), (.long j288)]))
        obtain ⟨j293, hj293⟩ : ∃ z : Int64, j210 * j210 = z := ⟨_, rfl⟩
        refine Go.step (fun t k => lmul_v X_9.here hx rfl (hb hby at_293) rfl  hj293 k) ?_
        show Go p.tables e below P (T_9.setTop (mkF m 294 #[.val (.int p1), .val (.int p2), .val (.int p3), .val (.int p4), .val (.int p5), .val (.int p6), .val (.long cx), .second, .val (.long cy), .second, .val (.long ax), .second, .val (.long ay), .second, .val (.long bx), .second, .val (.long by2), .second, .val (.int i41), .val (.double sd), .second, .val (.double d88), .second, .val (.ref b_7), .val (.double got), .second, .val (.long j149), .second, .val (.long j156), .second, .val (.long j163), .second, .val (.long j170), .second, .val (.long j177), .second, .val (.long j184), .second, .val (.long j197), .second, .val (.long j210), .second, .val (.long j223), .second, .val (.long j236), .second, .val (.double s2), .second, .unset, .unset] [(.long j293), (.long j288)]))
        obtain ⟨j294, hj294⟩ : ∃ z : Int64, j288 - j293 = z := ⟨_, rfl⟩
        refine Go.step (fun t k => lsub_v X_9.here hx rfl (hb hby at_294) rfl  hj294 k) ?_
        show Go p.tables e below P (T_9.setTop (mkF m 295 #[.val (.int p1), .val (.int p2), .val (.int p3), .val (.int p4), .val (.int p5), .val (.int p6), .val (.long cx), .second, .val (.long cy), .second, .val (.long ax), .second, .val (.long ay), .second, .val (.long bx), .second, .val (.long by2), .second, .val (.int i41), .val (.double sd), .second, .val (.double d88), .second, .val (.ref b_7), .val (.double got), .second, .val (.long j149), .second, .val (.long j156), .second, .val (.long j163), .second, .val (.long j170), .second, .val (.long j177), .second, .val (.long j184), .second, .val (.long j197), .second, .val (.long j210), .second, .val (.long j223), .second, .val (.long j236), .second, .val (.double s2), .second, .unset, .unset] [(.long j294)]))
        have f288 := c_lmul j223 j197; rw [hj288, v223, v197] at f288
        have g288 := rng64 j288
        have v288 : j288.toInt = u2 * ln := by omega
        have f293 := c_lmul j210 j210; rw [hj293, v210] at f293
        have g293 := rng64 j293
        have v293 : j293.toInt = tt * tt := by omega
        have f294 := c_lsub j288 j293; rw [hj294, v288, v293] at f294
        have g294 := rng64 j294
        have v294 : j294.toInt = cr * cr := by omega
        clear f288 f293 f294
        obtain ⟨d295, hd295⟩ : ∃ z : UInt64, FP.l2d j294 = z := ⟨_, rfl⟩
        refine Go.step (fun t k => XS.l2dS X_9.here hx rfl (hb hby at_295) rfl hd295 k) ?_
        show Go p.tables e below P (T_9.setTop (mkF m 296 #[.val (.int p1), .val (.int p2), .val (.int p3), .val (.int p4), .val (.int p5), .val (.int p6), .val (.long cx), .second, .val (.long cy), .second, .val (.long ax), .second, .val (.long ay), .second, .val (.long bx), .second, .val (.long by2), .second, .val (.int i41), .val (.double sd), .second, .val (.double d88), .second, .val (.ref b_7), .val (.double got), .second, .val (.long j149), .second, .val (.long j156), .second, .val (.long j163), .second, .val (.long j170), .second, .val (.long j177), .second, .val (.long j184), .second, .val (.long j197), .second, .val (.long j210), .second, .val (.long j223), .second, .val (.long j236), .second, .val (.double s2), .second, .unset, .unset] [(.double d295)]))
        have qn := l2d_e (x := j294) (by omega); rw [hd295, v294] at qn
        refine Go.step (fun t k => XS.lload X_9.here hx rfl (hb hby at_296) rfl  k) ?_
        show Go p.tables e below P (T_9.setTop (mkF m 298 #[.val (.int p1), .val (.int p2), .val (.int p3), .val (.int p4), .val (.int p5), .val (.int p6), .val (.long cx), .second, .val (.long cy), .second, .val (.long ax), .second, .val (.long ay), .second, .val (.long bx), .second, .val (.long by2), .second, .val (.int i41), .val (.double sd), .second, .val (.double d88), .second, .val (.ref b_7), .val (.double got), .second, .val (.long j149), .second, .val (.long j156), .second, .val (.long j163), .second, .val (.long j170), .second, .val (.long j177), .second, .val (.long j184), .second, .val (.long j197), .second, .val (.long j210), .second, .val (.long j223), .second, .val (.long j236), .second, .val (.double s2), .second, .unset, .unset] [(.long j197), (.double d295)]))
        obtain ⟨d298, hd298⟩ : ∃ z : UInt64, FP.l2d j197 = z := ⟨_, rfl⟩
        refine Go.step (fun t k => XS.l2dS X_9.here hx rfl (hb hby at_298) rfl hd298 k) ?_
        show Go p.tables e below P (T_9.setTop (mkF m 299 #[.val (.int p1), .val (.int p2), .val (.int p3), .val (.int p4), .val (.int p5), .val (.int p6), .val (.long cx), .second, .val (.long cy), .second, .val (.long ax), .second, .val (.long ay), .second, .val (.long bx), .second, .val (.long by2), .second, .val (.int i41), .val (.double sd), .second, .val (.double d88), .second, .val (.ref b_7), .val (.double got), .second, .val (.long j149), .second, .val (.long j156), .second, .val (.long j163), .second, .val (.long j170), .second, .val (.long j177), .second, .val (.long j184), .second, .val (.long j197), .second, .val (.long j210), .second, .val (.long j223), .second, .val (.long j236), .second, .val (.double s2), .second, .unset, .unset] [(.double d298), (.double d295)]))
        have ql := l2d_e (x := j197) (by omega); rw [hd298, v197] at ql
        obtain ⟨N_, M_, kk, hN, hk, hx1, hx2⟩ : ∃ (N_ : Int) (M_ kk : Nat), N_.natAbs ≤ 2 ^ 53 ∧ kk + M_ = k2 ∧ M_ ≤ 110 ∧ DE (1074 - M_) N_ (FP.ddiv d295 d298) ∧ DE kk N_ got := by
          by_cases h0 : cr * cr = 0
          · rw [h0] at qn qy
            exact ⟨0, 0, k2, by decide, by omega, by decide, div_e (k := 1074) (n := 0) qn ql bln.1 rfl (Int.zero_mul _) (by decide) (by decide), by rw [hgy]; exact div_e (k := k2) (n := 0) qy qz bln.1 (by omega) (Int.zero_mul _) (by decide) (by omega)⟩
          · obtain ⟨W, hW⟩ : ∃ W : Nat, cr * cr = (W : Int) := ⟨(cr * cr).toNat, by omega⟩
            obtain ⟨M, hM⟩ : ∃ M : Nat, ln = (M : Int) := ⟨ln.toNat, by omega⟩
            obtain ⟨n, m_, a1, a2, a3⟩ := div_norm (W := W) (M := M) (by omega) (by omega) (by omega) (by omega)
            rw [hW] at qn qy
            rw [hM] at ql qz
            exact ⟨n, m_, k2 - m_, by omega, by omega, a2, a3 (k := 1074) qn ql rfl (by decide) (by decide), by rw [hgy]; exact a3 (k := k2) qy qz (by omega) (by omega) (by omega)⟩
        have hx2' := hx2.1
        have hxx : DE (1074 - M_) N_ (FP.ddiv d295 d298) := hx2.1
        obtain ⟨dq, hdq⟩ : ∃ z : UInt64, FP.ddiv d295 d298 = z := ⟨_, rfl⟩
        rw [hdq] at hxx
        refine Go.step (fun t k => XS.ddivS X_9.here hx rfl (hb hby at_299) rfl (hdq ▸ hxx.nn) hdq k) ?_
        show Go p.tables e below P (T_9.setTop (mkF m 300 #[.val (.int p1), .val (.int p2), .val (.int p3), .val (.int p4), .val (.int p5), .val (.int p6), .val (.long cx), .second, .val (.long cy), .second, .val (.long ax), .second, .val (.long ay), .second, .val (.long bx), .second, .val (.long by2), .second, .val (.int i41), .val (.double sd), .second, .val (.double d88), .second, .val (.ref b_7), .val (.double got), .second, .val (.long j149), .second, .val (.long j156), .second, .val (.long j163), .second, .val (.long j170), .second, .val (.long j177), .second, .val (.long j184), .second, .val (.long j197), .second, .val (.long j210), .second, .val (.long j223), .second, .val (.long j236), .second, .val (.double s2), .second, .unset, .unset] [(.double dq)]))
        refine Go.step (fun t k => XS.dload X_9.here hx rfl (hb hby at_300) rfl  k) ?_
        show Go p.tables e below P (T_9.setTop (mkF m 302 #[.val (.int p1), .val (.int p2), .val (.int p3), .val (.int p4), .val (.int p5), .val (.int p6), .val (.long cx), .second, .val (.long cy), .second, .val (.long ax), .second, .val (.long ay), .second, .val (.long bx), .second, .val (.long by2), .second, .val (.int i41), .val (.double sd), .second, .val (.double d88), .second, .val (.ref b_7), .val (.double got), .second, .val (.long j149), .second, .val (.long j156), .second, .val (.long j163), .second, .val (.long j170), .second, .val (.long j177), .second, .val (.long j184), .second, .val (.long j197), .second, .val (.long j210), .second, .val (.long j223), .second, .val (.long j236), .second, .val (.double s2), .second, .unset, .unset] [(.double s2), (.double dq)]))
        obtain ⟨wt, hwt⟩ : ∃ z : UInt64, FP.dmul dq s2 = z := ⟨_, rfl⟩
        have qw := mul_e (k := kk) (n := N_) hxx qs2 (by omega) (Int.mul_one _) hN (by omega)
        rw [hwt] at qw
        refine Go.step (fun t k => XS.dmulS X_9.here hx rfl (hb hby at_302) rfl (hwt ▸ qw.nn) hwt k) ?_
        show Go p.tables e below P (T_9.setTop (mkF m 303 #[.val (.int p1), .val (.int p2), .val (.int p3), .val (.int p4), .val (.int p5), .val (.int p6), .val (.long cx), .second, .val (.long cy), .second, .val (.long ax), .second, .val (.long ay), .second, .val (.long bx), .second, .val (.long by2), .second, .val (.int i41), .val (.double sd), .second, .val (.double d88), .second, .val (.ref b_7), .val (.double got), .second, .val (.long j149), .second, .val (.long j156), .second, .val (.long j163), .second, .val (.long j170), .second, .val (.long j177), .second, .val (.long j184), .second, .val (.long j197), .second, .val (.long j210), .second, .val (.long j223), .second, .val (.long j236), .second, .val (.double s2), .second, .unset, .unset] [(.double wt)]))
        refine Go.step (fun t k => XS.dstore X_9.here hx rfl (hb hby at_303) rfl (l' := #[.val (.int p1), .val (.int p2), .val (.int p3), .val (.int p4), .val (.int p5), .val (.int p6), .val (.long cx), .second, .val (.long cy), .second, .val (.long ax), .second, .val (.long ay), .second, .val (.long bx), .second, .val (.long by2), .second, .val (.int i41), .val (.double sd), .second, .val (.double d88), .second, .val (.ref b_7), .val (.double got), .second, .val (.long j149), .second, .val (.long j156), .second, .val (.long j163), .second, .val (.long j170), .second, .val (.long j177), .second, .val (.long j184), .second, .val (.long j197), .second, .val (.long j210), .second, .val (.long j223), .second, .val (.long j236), .second, .val (.double s2), .second, .val (.double wt), .second]) rfl k) ?_
        show Go p.tables e below P (T_9.setTop (mkF m 305 #[.val (.int p1), .val (.int p2), .val (.int p3), .val (.int p4), .val (.int p5), .val (.int p6), .val (.long cx), .second, .val (.long cy), .second, .val (.long ax), .second, .val (.long ay), .second, .val (.long bx), .second, .val (.long by2), .second, .val (.int i41), .val (.double sd), .second, .val (.double d88), .second, .val (.ref b_7), .val (.double got), .second, .val (.long j149), .second, .val (.long j156), .second, .val (.long j163), .second, .val (.long j170), .second, .val (.long j177), .second, .val (.long j184), .second, .val (.long j197), .second, .val (.long j210), .second, .val (.long j223), .second, .val (.long j236), .second, .val (.double s2), .second, .val (.double wt), .second] []))
        refine Go.step (fun t k => XS.dload X_9.here hx rfl (hb hby at_305) rfl  k) ?_
        show Go p.tables e below P (T_9.setTop (mkF m 307 #[.val (.int p1), .val (.int p2), .val (.int p3), .val (.int p4), .val (.int p5), .val (.int p6), .val (.long cx), .second, .val (.long cy), .second, .val (.long ax), .second, .val (.long ay), .second, .val (.long bx), .second, .val (.long by2), .second, .val (.int i41), .val (.double sd), .second, .val (.double d88), .second, .val (.ref b_7), .val (.double got), .second, .val (.long j149), .second, .val (.long j156), .second, .val (.long j163), .second, .val (.long j170), .second, .val (.long j177), .second, .val (.long j184), .second, .val (.long j197), .second, .val (.long j210), .second, .val (.long j223), .second, .val (.long j236), .second, .val (.double s2), .second, .val (.double wt), .second] [(.double got)]))
        refine Go.step (fun t k => XS.dload X_9.here hx rfl (hb hby at_307) rfl  k) ?_
        show Go p.tables e below P (T_9.setTop (mkF m 309 #[.val (.int p1), .val (.int p2), .val (.int p3), .val (.int p4), .val (.int p5), .val (.int p6), .val (.long cx), .second, .val (.long cy), .second, .val (.long ax), .second, .val (.long ay), .second, .val (.long bx), .second, .val (.long by2), .second, .val (.int i41), .val (.double sd), .second, .val (.double d88), .second, .val (.ref b_7), .val (.double got), .second, .val (.long j149), .second, .val (.long j156), .second, .val (.long j163), .second, .val (.long j170), .second, .val (.long j177), .second, .val (.long j184), .second, .val (.long j197), .second, .val (.long j210), .second, .val (.long j223), .second, .val (.long j236), .second, .val (.double s2), .second, .val (.double wt), .second] [(.double wt), (.double got)]))
        refine Go.step (fun t k => XS.dcmpS X_9.here hx rfl (hb hby at_309) rfl rfl k) ?_
        show Go p.tables e below P (T_9.setTop (mkF m 310 #[.val (.int p1), .val (.int p2), .val (.int p3), .val (.int p4), .val (.int p5), .val (.int p6), .val (.long cx), .second, .val (.long cy), .second, .val (.long ax), .second, .val (.long ay), .second, .val (.long bx), .second, .val (.long by2), .second, .val (.int i41), .val (.double sd), .second, .val (.double d88), .second, .val (.ref b_7), .val (.double got), .second, .val (.long j149), .second, .val (.long j156), .second, .val (.long j163), .second, .val (.long j170), .second, .val (.long j177), .second, .val (.long j184), .second, .val (.long j197), .second, .val (.long j210), .second, .val (.long j223), .second, .val (.long j236), .second, .val (.double s2), .second, .val (.double wt), .second] [(.int (cmpValue (FP.dcmp got wt) .l))]))
        refine Go.step (fun t k => XS.ifNo X_9.here hx rfl (hb hby at_310) rfl (dcN (cd := .ne) (DE.cmp hx2.2 qw) (fun q => q rfl)) k) ?_
        show Go p.tables e below P (T_9.setTop (mkF m 313 #[.val (.int p1), .val (.int p2), .val (.int p3), .val (.int p4), .val (.int p5), .val (.int p6), .val (.long cx), .second, .val (.long cy), .second, .val (.long ax), .second, .val (.long ay), .second, .val (.long bx), .second, .val (.long by2), .second, .val (.int i41), .val (.double sd), .second, .val (.double d88), .second, .val (.ref b_7), .val (.double got), .second, .val (.long j149), .second, .val (.long j156), .second, .val (.long j163), .second, .val (.long j170), .second, .val (.long j177), .second, .val (.long j184), .second, .val (.long j197), .second, .val (.long j210), .second, .val (.long j223), .second, .val (.long j236), .second, .val (.double s2), .second, .val (.double wt), .second] []))
        refine Go.step (fun t k => XS.iconst X_9.here hx rfl (hb hby at_313) k) ?_
        show Go p.tables e below P (T_9.setTop (mkF m 314 #[.val (.int p1), .val (.int p2), .val (.int p3), .val (.int p4), .val (.int p5), .val (.int p6), .val (.long cx), .second, .val (.long cy), .second, .val (.long ax), .second, .val (.long ay), .second, .val (.long bx), .second, .val (.long by2), .second, .val (.int i41), .val (.double sd), .second, .val (.double d88), .second, .val (.ref b_7), .val (.double got), .second, .val (.long j149), .second, .val (.long j156), .second, .val (.long j163), .second, .val (.long j170), .second, .val (.long j177), .second, .val (.long j184), .second, .val (.long j197), .second, .val (.long j210), .second, .val (.long j223), .second, .val (.long j236), .second, .val (.double s2), .second, .val (.double wt), .second] [(.int (1 : Int32))]))
        refine Go.step (fun t k => XS.goto X_9.here hx rfl (pc0 := 314) (pc' := 318) rfl (hb hby at_314) (by decide) (by decide) k) ?_
        show Go p.tables e below P (T_9.setTop (mkF m 318 #[.val (.int p1), .val (.int p2), .val (.int p3), .val (.int p4), .val (.int p5), .val (.int p6), .val (.long cx), .second, .val (.long cy), .second, .val (.long ax), .second, .val (.long ay), .second, .val (.long bx), .second, .val (.long by2), .second, .val (.int i41), .val (.double sd), .second, .val (.double d88), .second, .val (.ref b_7), .val (.double got), .second, .val (.long j149), .second, .val (.long j156), .second, .val (.long j163), .second, .val (.long j170), .second, .val (.long j177), .second, .val (.long j184), .second, .val (.long j197), .second, .val (.long j210), .second, .val (.long j223), .second, .val (.long j236), .second, .val (.double s2), .second, .val (.double wt), .second] [(.int (1 : Int32))]))
        exact retGo X_9 hx hP Bd.returns hlk rfl (Or.inl ⟨rfl, Or.inr (Or.inl rfl), _, rfl⟩) (hb hby at_318) (by decide) (by decide) (by rw [eh_9]; exact ⟨rfl, N_9⟩)
      · refine Go.step (fun t k => XS.ifNo X_9.here hx rfl (hb hby at_270) rfl (lcN (cd := .lt) hc270) k) ?_
        show Go p.tables e below P (T_9.setTop (mkF m 273 #[.val (.int p1), .val (.int p2), .val (.int p3), .val (.int p4), .val (.int p5), .val (.int p6), .val (.long cx), .second, .val (.long cy), .second, .val (.long ax), .second, .val (.long ay), .second, .val (.long bx), .second, .val (.long by2), .second, .val (.int i41), .val (.double sd), .second, .val (.double d88), .second, .val (.ref b_7), .val (.double got), .second, .val (.long j149), .second, .val (.long j156), .second, .val (.long j163), .second, .val (.long j170), .second, .val (.long j177), .second, .val (.long j184), .second, .val (.long j197), .second, .val (.long j210), .second, .val (.long j223), .second, .val (.long j236), .second, .val (.double s2), .second, .unset, .unset] []))
        refine Go.step (fun t k => XS.lload X_9.here hx rfl (hb hby at_273) rfl  k) ?_
        show Go p.tables e below P (T_9.setTop (mkF m 275 #[.val (.int p1), .val (.int p2), .val (.int p3), .val (.int p4), .val (.int p5), .val (.int p6), .val (.long cx), .second, .val (.long cy), .second, .val (.long ax), .second, .val (.long ay), .second, .val (.long bx), .second, .val (.long by2), .second, .val (.int i41), .val (.double sd), .second, .val (.double d88), .second, .val (.ref b_7), .val (.double got), .second, .val (.long j149), .second, .val (.long j156), .second, .val (.long j163), .second, .val (.long j170), .second, .val (.long j177), .second, .val (.long j184), .second, .val (.long j197), .second, .val (.long j210), .second, .val (.long j223), .second, .val (.long j236), .second, .val (.double s2), .second, .unset, .unset] [(.long j236)]))
        obtain ⟨d275, hd275⟩ : ∃ z : UInt64, FP.l2d j236 = z := ⟨_, rfl⟩
        refine Go.step (fun t k => XS.l2dS X_9.here hx rfl (hb hby at_275) rfl hd275 k) ?_
        show Go p.tables e below P (T_9.setTop (mkF m 276 #[.val (.int p1), .val (.int p2), .val (.int p3), .val (.int p4), .val (.int p5), .val (.int p6), .val (.long cx), .second, .val (.long cy), .second, .val (.long ax), .second, .val (.long ay), .second, .val (.long bx), .second, .val (.long by2), .second, .val (.int i41), .val (.double sd), .second, .val (.double d88), .second, .val (.ref b_7), .val (.double got), .second, .val (.long j149), .second, .val (.long j156), .second, .val (.long j163), .second, .val (.long j170), .second, .val (.long j177), .second, .val (.long j184), .second, .val (.long j197), .second, .val (.long j210), .second, .val (.long j223), .second, .val (.long j236), .second, .val (.double s2), .second, .unset, .unset] [(.double d275)]))
        have qa := l2d_e (x := j236) (by omega); rw [hd275, v236] at qa
        refine Go.step (fun t k => XS.dload X_9.here hx rfl (hb hby at_276) rfl  k) ?_
        show Go p.tables e below P (T_9.setTop (mkF m 278 #[.val (.int p1), .val (.int p2), .val (.int p3), .val (.int p4), .val (.int p5), .val (.int p6), .val (.long cx), .second, .val (.long cy), .second, .val (.long ax), .second, .val (.long ay), .second, .val (.long bx), .second, .val (.long by2), .second, .val (.int i41), .val (.double sd), .second, .val (.double d88), .second, .val (.ref b_7), .val (.double got), .second, .val (.long j149), .second, .val (.long j156), .second, .val (.long j163), .second, .val (.long j170), .second, .val (.long j177), .second, .val (.long j184), .second, .val (.long j197), .second, .val (.long j210), .second, .val (.long j223), .second, .val (.long j236), .second, .val (.double s2), .second, .unset, .unset] [(.double s2), (.double d275)]))
        obtain ⟨wt, hwt⟩ : ∃ z : UInt64, FP.dmul d275 s2 = z := ⟨_, rfl⟩
        have qw := mul_e (k := k2) (n := (vx * vx + vy * vy)) qa qs2 (by omega) (Int.mul_one _) (by omega) (by omega)
        rw [hwt] at qw
        refine Go.step (fun t k => XS.dmulS X_9.here hx rfl (hb hby at_278) rfl (hwt ▸ qw.nn) hwt k) ?_
        show Go p.tables e below P (T_9.setTop (mkF m 279 #[.val (.int p1), .val (.int p2), .val (.int p3), .val (.int p4), .val (.int p5), .val (.int p6), .val (.long cx), .second, .val (.long cy), .second, .val (.long ax), .second, .val (.long ay), .second, .val (.long bx), .second, .val (.long by2), .second, .val (.int i41), .val (.double sd), .second, .val (.double d88), .second, .val (.ref b_7), .val (.double got), .second, .val (.long j149), .second, .val (.long j156), .second, .val (.long j163), .second, .val (.long j170), .second, .val (.long j177), .second, .val (.long j184), .second, .val (.long j197), .second, .val (.long j210), .second, .val (.long j223), .second, .val (.long j236), .second, .val (.double s2), .second, .unset, .unset] [(.double wt)]))
        have qg : DE k2 (vx * vx + vy * vy) got := by rcases hgot with ⟨h, _⟩ | ⟨_, _, h⟩ | ⟨_, h, _⟩; omega; exact h; omega
        refine Go.step (fun t k => XS.dstore X_9.here hx rfl (hb hby at_279) rfl (l' := #[.val (.int p1), .val (.int p2), .val (.int p3), .val (.int p4), .val (.int p5), .val (.int p6), .val (.long cx), .second, .val (.long cy), .second, .val (.long ax), .second, .val (.long ay), .second, .val (.long bx), .second, .val (.long by2), .second, .val (.int i41), .val (.double sd), .second, .val (.double d88), .second, .val (.ref b_7), .val (.double got), .second, .val (.long j149), .second, .val (.long j156), .second, .val (.long j163), .second, .val (.long j170), .second, .val (.long j177), .second, .val (.long j184), .second, .val (.long j197), .second, .val (.long j210), .second, .val (.long j223), .second, .val (.long j236), .second, .val (.double s2), .second, .val (.double wt), .second]) rfl k) ?_
        show Go p.tables e below P (T_9.setTop (mkF m 281 #[.val (.int p1), .val (.int p2), .val (.int p3), .val (.int p4), .val (.int p5), .val (.int p6), .val (.long cx), .second, .val (.long cy), .second, .val (.long ax), .second, .val (.long ay), .second, .val (.long bx), .second, .val (.long by2), .second, .val (.int i41), .val (.double sd), .second, .val (.double d88), .second, .val (.ref b_7), .val (.double got), .second, .val (.long j149), .second, .val (.long j156), .second, .val (.long j163), .second, .val (.long j170), .second, .val (.long j177), .second, .val (.long j184), .second, .val (.long j197), .second, .val (.long j210), .second, .val (.long j223), .second, .val (.long j236), .second, .val (.double s2), .second, .val (.double wt), .second] []))
        refine Go.step (fun t k => XS.goto X_9.here hx rfl (pc0 := 281) (pc' := 305) rfl (hb hby at_281) (by decide) (by decide) k) ?_
        show Go p.tables e below P (T_9.setTop (mkF m 305 #[.val (.int p1), .val (.int p2), .val (.int p3), .val (.int p4), .val (.int p5), .val (.int p6), .val (.long cx), .second, .val (.long cy), .second, .val (.long ax), .second, .val (.long ay), .second, .val (.long bx), .second, .val (.long by2), .second, .val (.int i41), .val (.double sd), .second, .val (.double d88), .second, .val (.ref b_7), .val (.double got), .second, .val (.long j149), .second, .val (.long j156), .second, .val (.long j163), .second, .val (.long j170), .second, .val (.long j177), .second, .val (.long j184), .second, .val (.long j197), .second, .val (.long j210), .second, .val (.long j223), .second, .val (.long j236), .second, .val (.double s2), .second, .val (.double wt), .second] []))
        refine Go.step (fun t k => XS.dload X_9.here hx rfl (hb hby at_305) rfl  k) ?_
        show Go p.tables e below P (T_9.setTop (mkF m 307 #[.val (.int p1), .val (.int p2), .val (.int p3), .val (.int p4), .val (.int p5), .val (.int p6), .val (.long cx), .second, .val (.long cy), .second, .val (.long ax), .second, .val (.long ay), .second, .val (.long bx), .second, .val (.long by2), .second, .val (.int i41), .val (.double sd), .second, .val (.double d88), .second, .val (.ref b_7), .val (.double got), .second, .val (.long j149), .second, .val (.long j156), .second, .val (.long j163), .second, .val (.long j170), .second, .val (.long j177), .second, .val (.long j184), .second, .val (.long j197), .second, .val (.long j210), .second, .val (.long j223), .second, .val (.long j236), .second, .val (.double s2), .second, .val (.double wt), .second] [(.double got)]))
        refine Go.step (fun t k => XS.dload X_9.here hx rfl (hb hby at_307) rfl  k) ?_
        show Go p.tables e below P (T_9.setTop (mkF m 309 #[.val (.int p1), .val (.int p2), .val (.int p3), .val (.int p4), .val (.int p5), .val (.int p6), .val (.long cx), .second, .val (.long cy), .second, .val (.long ax), .second, .val (.long ay), .second, .val (.long bx), .second, .val (.long by2), .second, .val (.int i41), .val (.double sd), .second, .val (.double d88), .second, .val (.ref b_7), .val (.double got), .second, .val (.long j149), .second, .val (.long j156), .second, .val (.long j163), .second, .val (.long j170), .second, .val (.long j177), .second, .val (.long j184), .second, .val (.long j197), .second, .val (.long j210), .second, .val (.long j223), .second, .val (.long j236), .second, .val (.double s2), .second, .val (.double wt), .second] [(.double wt), (.double got)]))
        refine Go.step (fun t k => XS.dcmpS X_9.here hx rfl (hb hby at_309) rfl rfl k) ?_
        show Go p.tables e below P (T_9.setTop (mkF m 310 #[.val (.int p1), .val (.int p2), .val (.int p3), .val (.int p4), .val (.int p5), .val (.int p6), .val (.long cx), .second, .val (.long cy), .second, .val (.long ax), .second, .val (.long ay), .second, .val (.long bx), .second, .val (.long by2), .second, .val (.int i41), .val (.double sd), .second, .val (.double d88), .second, .val (.ref b_7), .val (.double got), .second, .val (.long j149), .second, .val (.long j156), .second, .val (.long j163), .second, .val (.long j170), .second, .val (.long j177), .second, .val (.long j184), .second, .val (.long j197), .second, .val (.long j210), .second, .val (.long j223), .second, .val (.long j236), .second, .val (.double s2), .second, .val (.double wt), .second] [(.int (cmpValue (FP.dcmp got wt) .l))]))
        refine Go.step (fun t k => XS.ifNo X_9.here hx rfl (hb hby at_310) rfl (dcN (cd := .ne) (DE.cmp qg qw) (fun q => q rfl)) k) ?_
        show Go p.tables e below P (T_9.setTop (mkF m 313 #[.val (.int p1), .val (.int p2), .val (.int p3), .val (.int p4), .val (.int p5), .val (.int p6), .val (.long cx), .second, .val (.long cy), .second, .val (.long ax), .second, .val (.long ay), .second, .val (.long bx), .second, .val (.long by2), .second, .val (.int i41), .val (.double sd), .second, .val (.double d88), .second, .val (.ref b_7), .val (.double got), .second, .val (.long j149), .second, .val (.long j156), .second, .val (.long j163), .second, .val (.long j170), .second, .val (.long j177), .second, .val (.long j184), .second, .val (.long j197), .second, .val (.long j210), .second, .val (.long j223), .second, .val (.long j236), .second, .val (.double s2), .second, .val (.double wt), .second] []))
        refine Go.step (fun t k => XS.iconst X_9.here hx rfl (hb hby at_313) k) ?_
        show Go p.tables e below P (T_9.setTop (mkF m 314 #[.val (.int p1), .val (.int p2), .val (.int p3), .val (.int p4), .val (.int p5), .val (.int p6), .val (.long cx), .second, .val (.long cy), .second, .val (.long ax), .second, .val (.long ay), .second, .val (.long bx), .second, .val (.long by2), .second, .val (.int i41), .val (.double sd), .second, .val (.double d88), .second, .val (.ref b_7), .val (.double got), .second, .val (.long j149), .second, .val (.long j156), .second, .val (.long j163), .second, .val (.long j170), .second, .val (.long j177), .second, .val (.long j184), .second, .val (.long j197), .second, .val (.long j210), .second, .val (.long j223), .second, .val (.long j236), .second, .val (.double s2), .second, .val (.double wt), .second] [(.int (1 : Int32))]))
        refine Go.step (fun t k => XS.goto X_9.here hx rfl (pc0 := 314) (pc' := 318) rfl (hb hby at_314) (by decide) (by decide) k) ?_
        show Go p.tables e below P (T_9.setTop (mkF m 318 #[.val (.int p1), .val (.int p2), .val (.int p3), .val (.int p4), .val (.int p5), .val (.int p6), .val (.long cx), .second, .val (.long cy), .second, .val (.long ax), .second, .val (.long ay), .second, .val (.long bx), .second, .val (.long by2), .second, .val (.int i41), .val (.double sd), .second, .val (.double d88), .second, .val (.ref b_7), .val (.double got), .second, .val (.long j149), .second, .val (.long j156), .second, .val (.long j163), .second, .val (.long j170), .second, .val (.long j177), .second, .val (.long j184), .second, .val (.long j197), .second, .val (.long j210), .second, .val (.long j223), .second, .val (.long j236), .second, .val (.double s2), .second, .val (.double wt), .second] [(.int (1 : Int32))]))
        exact retGo X_9 hx hP Bd.returns hlk rfl (Or.inl ⟨rfl, Or.inr (Or.inl rfl), _, rfl⟩) (hb hby at_318) (by decide) (by decide) (by rw [eh_9]; exact ⟨rfl, N_9⟩)
    · refine Go.step (fun t k => XS.ifNo X_9.here hx rfl (hb hby at_250) rfl (lcN (cd := .lt) hc250) k) ?_
      show Go p.tables e below P (T_9.setTop (mkF m 253 #[.val (.int p1), .val (.int p2), .val (.int p3), .val (.int p4), .val (.int p5), .val (.int p6), .val (.long cx), .second, .val (.long cy), .second, .val (.long ax), .second, .val (.long ay), .second, .val (.long bx), .second, .val (.long by2), .second, .val (.int i41), .val (.double sd), .second, .val (.double d88), .second, .val (.ref b_7), .val (.double got), .second, .val (.long j149), .second, .val (.long j156), .second, .val (.long j163), .second, .val (.long j170), .second, .val (.long j177), .second, .val (.long j184), .second, .val (.long j197), .second, .val (.long j210), .second, .val (.long j223), .second, .val (.long j236), .second, .val (.double s2), .second, .unset, .unset] []))
      refine Go.step (fun t k => XS.lload X_9.here hx rfl (hb hby at_253) rfl  k) ?_
      show Go p.tables e below P (T_9.setTop (mkF m 255 #[.val (.int p1), .val (.int p2), .val (.int p3), .val (.int p4), .val (.int p5), .val (.int p6), .val (.long cx), .second, .val (.long cy), .second, .val (.long ax), .second, .val (.long ay), .second, .val (.long bx), .second, .val (.long by2), .second, .val (.int i41), .val (.double sd), .second, .val (.double d88), .second, .val (.ref b_7), .val (.double got), .second, .val (.long j149), .second, .val (.long j156), .second, .val (.long j163), .second, .val (.long j170), .second, .val (.long j177), .second, .val (.long j184), .second, .val (.long j197), .second, .val (.long j210), .second, .val (.long j223), .second, .val (.long j236), .second, .val (.double s2), .second, .unset, .unset] [(.long j223)]))
      obtain ⟨d255, hd255⟩ : ∃ z : UInt64, FP.l2d j223 = z := ⟨_, rfl⟩
      refine Go.step (fun t k => XS.l2dS X_9.here hx rfl (hb hby at_255) rfl hd255 k) ?_
      show Go p.tables e below P (T_9.setTop (mkF m 256 #[.val (.int p1), .val (.int p2), .val (.int p3), .val (.int p4), .val (.int p5), .val (.int p6), .val (.long cx), .second, .val (.long cy), .second, .val (.long ax), .second, .val (.long ay), .second, .val (.long bx), .second, .val (.long by2), .second, .val (.int i41), .val (.double sd), .second, .val (.double d88), .second, .val (.ref b_7), .val (.double got), .second, .val (.long j149), .second, .val (.long j156), .second, .val (.long j163), .second, .val (.long j170), .second, .val (.long j177), .second, .val (.long j184), .second, .val (.long j197), .second, .val (.long j210), .second, .val (.long j223), .second, .val (.long j236), .second, .val (.double s2), .second, .unset, .unset] [(.double d255)]))
      have qa := l2d_e (x := j223) (by omega); rw [hd255, v223] at qa
      refine Go.step (fun t k => XS.dload X_9.here hx rfl (hb hby at_256) rfl  k) ?_
      show Go p.tables e below P (T_9.setTop (mkF m 258 #[.val (.int p1), .val (.int p2), .val (.int p3), .val (.int p4), .val (.int p5), .val (.int p6), .val (.long cx), .second, .val (.long cy), .second, .val (.long ax), .second, .val (.long ay), .second, .val (.long bx), .second, .val (.long by2), .second, .val (.int i41), .val (.double sd), .second, .val (.double d88), .second, .val (.ref b_7), .val (.double got), .second, .val (.long j149), .second, .val (.long j156), .second, .val (.long j163), .second, .val (.long j170), .second, .val (.long j177), .second, .val (.long j184), .second, .val (.long j197), .second, .val (.long j210), .second, .val (.long j223), .second, .val (.long j236), .second, .val (.double s2), .second, .unset, .unset] [(.double s2), (.double d255)]))
      obtain ⟨wt, hwt⟩ : ∃ z : UInt64, FP.dmul d255 s2 = z := ⟨_, rfl⟩
      have qw := mul_e (k := k2) (n := (ux * ux + uy * uy)) qa qs2 (by omega) (Int.mul_one _) (by omega) (by omega)
      rw [hwt] at qw
      refine Go.step (fun t k => XS.dmulS X_9.here hx rfl (hb hby at_258) rfl (hwt ▸ qw.nn) hwt k) ?_
      show Go p.tables e below P (T_9.setTop (mkF m 259 #[.val (.int p1), .val (.int p2), .val (.int p3), .val (.int p4), .val (.int p5), .val (.int p6), .val (.long cx), .second, .val (.long cy), .second, .val (.long ax), .second, .val (.long ay), .second, .val (.long bx), .second, .val (.long by2), .second, .val (.int i41), .val (.double sd), .second, .val (.double d88), .second, .val (.ref b_7), .val (.double got), .second, .val (.long j149), .second, .val (.long j156), .second, .val (.long j163), .second, .val (.long j170), .second, .val (.long j177), .second, .val (.long j184), .second, .val (.long j197), .second, .val (.long j210), .second, .val (.long j223), .second, .val (.long j236), .second, .val (.double s2), .second, .unset, .unset] [(.double wt)]))
      have qg : DE k2 (ux * ux + uy * uy) got := by rcases hgot with ⟨_, h⟩ | ⟨h, _⟩ | ⟨h, _⟩; exact h; omega; omega
      refine Go.step (fun t k => XS.dstore X_9.here hx rfl (hb hby at_259) rfl (l' := #[.val (.int p1), .val (.int p2), .val (.int p3), .val (.int p4), .val (.int p5), .val (.int p6), .val (.long cx), .second, .val (.long cy), .second, .val (.long ax), .second, .val (.long ay), .second, .val (.long bx), .second, .val (.long by2), .second, .val (.int i41), .val (.double sd), .second, .val (.double d88), .second, .val (.ref b_7), .val (.double got), .second, .val (.long j149), .second, .val (.long j156), .second, .val (.long j163), .second, .val (.long j170), .second, .val (.long j177), .second, .val (.long j184), .second, .val (.long j197), .second, .val (.long j210), .second, .val (.long j223), .second, .val (.long j236), .second, .val (.double s2), .second, .val (.double wt), .second]) rfl k) ?_
      show Go p.tables e below P (T_9.setTop (mkF m 261 #[.val (.int p1), .val (.int p2), .val (.int p3), .val (.int p4), .val (.int p5), .val (.int p6), .val (.long cx), .second, .val (.long cy), .second, .val (.long ax), .second, .val (.long ay), .second, .val (.long bx), .second, .val (.long by2), .second, .val (.int i41), .val (.double sd), .second, .val (.double d88), .second, .val (.ref b_7), .val (.double got), .second, .val (.long j149), .second, .val (.long j156), .second, .val (.long j163), .second, .val (.long j170), .second, .val (.long j177), .second, .val (.long j184), .second, .val (.long j197), .second, .val (.long j210), .second, .val (.long j223), .second, .val (.long j236), .second, .val (.double s2), .second, .val (.double wt), .second] []))
      refine Go.step (fun t k => XS.goto X_9.here hx rfl (pc0 := 261) (pc' := 305) rfl (hb hby at_261) (by decide) (by decide) k) ?_
      show Go p.tables e below P (T_9.setTop (mkF m 305 #[.val (.int p1), .val (.int p2), .val (.int p3), .val (.int p4), .val (.int p5), .val (.int p6), .val (.long cx), .second, .val (.long cy), .second, .val (.long ax), .second, .val (.long ay), .second, .val (.long bx), .second, .val (.long by2), .second, .val (.int i41), .val (.double sd), .second, .val (.double d88), .second, .val (.ref b_7), .val (.double got), .second, .val (.long j149), .second, .val (.long j156), .second, .val (.long j163), .second, .val (.long j170), .second, .val (.long j177), .second, .val (.long j184), .second, .val (.long j197), .second, .val (.long j210), .second, .val (.long j223), .second, .val (.long j236), .second, .val (.double s2), .second, .val (.double wt), .second] []))
      refine Go.step (fun t k => XS.dload X_9.here hx rfl (hb hby at_305) rfl  k) ?_
      show Go p.tables e below P (T_9.setTop (mkF m 307 #[.val (.int p1), .val (.int p2), .val (.int p3), .val (.int p4), .val (.int p5), .val (.int p6), .val (.long cx), .second, .val (.long cy), .second, .val (.long ax), .second, .val (.long ay), .second, .val (.long bx), .second, .val (.long by2), .second, .val (.int i41), .val (.double sd), .second, .val (.double d88), .second, .val (.ref b_7), .val (.double got), .second, .val (.long j149), .second, .val (.long j156), .second, .val (.long j163), .second, .val (.long j170), .second, .val (.long j177), .second, .val (.long j184), .second, .val (.long j197), .second, .val (.long j210), .second, .val (.long j223), .second, .val (.long j236), .second, .val (.double s2), .second, .val (.double wt), .second] [(.double got)]))
      refine Go.step (fun t k => XS.dload X_9.here hx rfl (hb hby at_307) rfl  k) ?_
      show Go p.tables e below P (T_9.setTop (mkF m 309 #[.val (.int p1), .val (.int p2), .val (.int p3), .val (.int p4), .val (.int p5), .val (.int p6), .val (.long cx), .second, .val (.long cy), .second, .val (.long ax), .second, .val (.long ay), .second, .val (.long bx), .second, .val (.long by2), .second, .val (.int i41), .val (.double sd), .second, .val (.double d88), .second, .val (.ref b_7), .val (.double got), .second, .val (.long j149), .second, .val (.long j156), .second, .val (.long j163), .second, .val (.long j170), .second, .val (.long j177), .second, .val (.long j184), .second, .val (.long j197), .second, .val (.long j210), .second, .val (.long j223), .second, .val (.long j236), .second, .val (.double s2), .second, .val (.double wt), .second] [(.double wt), (.double got)]))
      refine Go.step (fun t k => XS.dcmpS X_9.here hx rfl (hb hby at_309) rfl rfl k) ?_
      show Go p.tables e below P (T_9.setTop (mkF m 310 #[.val (.int p1), .val (.int p2), .val (.int p3), .val (.int p4), .val (.int p5), .val (.int p6), .val (.long cx), .second, .val (.long cy), .second, .val (.long ax), .second, .val (.long ay), .second, .val (.long bx), .second, .val (.long by2), .second, .val (.int i41), .val (.double sd), .second, .val (.double d88), .second, .val (.ref b_7), .val (.double got), .second, .val (.long j149), .second, .val (.long j156), .second, .val (.long j163), .second, .val (.long j170), .second, .val (.long j177), .second, .val (.long j184), .second, .val (.long j197), .second, .val (.long j210), .second, .val (.long j223), .second, .val (.long j236), .second, .val (.double s2), .second, .val (.double wt), .second] [(.int (cmpValue (FP.dcmp got wt) .l))]))
      refine Go.step (fun t k => XS.ifNo X_9.here hx rfl (hb hby at_310) rfl (dcN (cd := .ne) (DE.cmp qg qw) (fun q => q rfl)) k) ?_
      show Go p.tables e below P (T_9.setTop (mkF m 313 #[.val (.int p1), .val (.int p2), .val (.int p3), .val (.int p4), .val (.int p5), .val (.int p6), .val (.long cx), .second, .val (.long cy), .second, .val (.long ax), .second, .val (.long ay), .second, .val (.long bx), .second, .val (.long by2), .second, .val (.int i41), .val (.double sd), .second, .val (.double d88), .second, .val (.ref b_7), .val (.double got), .second, .val (.long j149), .second, .val (.long j156), .second, .val (.long j163), .second, .val (.long j170), .second, .val (.long j177), .second, .val (.long j184), .second, .val (.long j197), .second, .val (.long j210), .second, .val (.long j223), .second, .val (.long j236), .second, .val (.double s2), .second, .val (.double wt), .second] []))
      refine Go.step (fun t k => XS.iconst X_9.here hx rfl (hb hby at_313) k) ?_
      show Go p.tables e below P (T_9.setTop (mkF m 314 #[.val (.int p1), .val (.int p2), .val (.int p3), .val (.int p4), .val (.int p5), .val (.int p6), .val (.long cx), .second, .val (.long cy), .second, .val (.long ax), .second, .val (.long ay), .second, .val (.long bx), .second, .val (.long by2), .second, .val (.int i41), .val (.double sd), .second, .val (.double d88), .second, .val (.ref b_7), .val (.double got), .second, .val (.long j149), .second, .val (.long j156), .second, .val (.long j163), .second, .val (.long j170), .second, .val (.long j177), .second, .val (.long j184), .second, .val (.long j197), .second, .val (.long j210), .second, .val (.long j223), .second, .val (.long j236), .second, .val (.double s2), .second, .val (.double wt), .second] [(.int (1 : Int32))]))
      refine Go.step (fun t k => XS.goto X_9.here hx rfl (pc0 := 314) (pc' := 318) rfl (hb hby at_314) (by decide) (by decide) k) ?_
      show Go p.tables e below P (T_9.setTop (mkF m 318 #[.val (.int p1), .val (.int p2), .val (.int p3), .val (.int p4), .val (.int p5), .val (.int p6), .val (.long cx), .second, .val (.long cy), .second, .val (.long ax), .second, .val (.long ay), .second, .val (.long bx), .second, .val (.long by2), .second, .val (.int i41), .val (.double sd), .second, .val (.double d88), .second, .val (.ref b_7), .val (.double got), .second, .val (.long j149), .second, .val (.long j156), .second, .val (.long j163), .second, .val (.long j170), .second, .val (.long j177), .second, .val (.long j184), .second, .val (.long j197), .second, .val (.long j210), .second, .val (.long j223), .second, .val (.long j236), .second, .val (.double s2), .second, .val (.double wt), .second] [(.int (1 : Int32))]))
      exact retGo X_9 hx hP Bd.returns hlk rfl (Or.inl ⟨rfl, Or.inr (Or.inl rfl), _, rfl⟩) (hb hby at_318) (by decide) (by decide) (by rw [eh_9]; exact ⟨rfl, N_9⟩)
  refine Go.step (fun t k => XS.iload X_6.here hx rfl (hb hby at_44) rfl  k) ?_
  show Go p.tables e below P (T_6.setTop (mkF m 46 #[.val (.int p1), .val (.int p2), .val (.int p3), .val (.int p4), .val (.int p5), .val (.int p6), .val (.long cx), .second, .val (.long cy), .second, .val (.long ax), .second, .val (.long ay), .second, .val (.long bx), .second, .val (.long by2), .second, .val (.int i41), .unset, .unset, .unset, .unset, .unset, .unset, .unset, .unset, .unset, .unset, .unset, .unset, .unset, .unset, .unset, .unset, .unset, .unset, .unset, .unset, .unset, .unset, .unset, .unset, .unset, .unset, .unset, .unset, .unset, .unset, .unset] [(.int i41)]))
  by_cases hc46 : ¬ i41.toInt = 0
  · refine Go.step (fun t k => XS.ifYes X_6.here hx rfl (pc0 := 46) (pc' := 53) rfl (hb hby at_46) rfl (ifY (cd := .ne) hc46) (by decide) (by decide) k) ?_
    show Go p.tables e below P (T_6.setTop (mkF m 53 #[.val (.int p1), .val (.int p2), .val (.int p3), .val (.int p4), .val (.int p5), .val (.int p6), .val (.long cx), .second, .val (.long cy), .second, .val (.long ax), .second, .val (.long ay), .second, .val (.long bx), .second, .val (.long by2), .second, .val (.int i41), .unset, .unset, .unset, .unset, .unset, .unset, .unset, .unset, .unset, .unset, .unset, .unset, .unset, .unset, .unset, .unset, .unset, .unset, .unset, .unset, .unset, .unset, .unset, .unset, .unset, .unset, .unset, .unset, .unset, .unset, .unset] []))
    refine Go.step (fun t k => XS.iload X_6.here hx rfl (hb hby at_53) rfl  k) ?_
    show Go p.tables e below P (T_6.setTop (mkF m 55 #[.val (.int p1), .val (.int p2), .val (.int p3), .val (.int p4), .val (.int p5), .val (.int p6), .val (.long cx), .second, .val (.long cy), .second, .val (.long ax), .second, .val (.long ay), .second, .val (.long bx), .second, .val (.long by2), .second, .val (.int i41), .unset, .unset, .unset, .unset, .unset, .unset, .unset, .unset, .unset, .unset, .unset, .unset, .unset, .unset, .unset, .unset, .unset, .unset, .unset, .unset, .unset, .unset, .unset, .unset, .unset, .unset, .unset, .unset, .unset, .unset, .unset] [(.int i41)]))
    refine Go.step (fun t k => XS.iconst X_6.here hx rfl (hb hby at_55) k) ?_
    show Go p.tables e below P (T_6.setTop (mkF m 56 #[.val (.int p1), .val (.int p2), .val (.int p3), .val (.int p4), .val (.int p5), .val (.int p6), .val (.long cx), .second, .val (.long cy), .second, .val (.long ax), .second, .val (.long ay), .second, .val (.long bx), .second, .val (.long by2), .second, .val (.int i41), .unset, .unset, .unset, .unset, .unset, .unset, .unset, .unset, .unset, .unset, .unset, .unset, .unset, .unset, .unset, .unset, .unset, .unset, .unset, .unset, .unset, .unset, .unset, .unset, .unset, .unset, .unset, .unset, .unset, .unset, .unset] [(.int (1 : Int32)), (.int i41)]))
    by_cases hc56 : ¬ i41.toInt = (1 : Int)
    · refine Go.step (fun t k => XS.icmpYes X_6.here hx rfl (pc0 := 56) (pc' := 65) rfl (hb hby at_56) rfl (icY (cd := .ne) hc56) (by decide) (by decide) k) ?_
      show Go p.tables e below P (T_6.setTop (mkF m 65 #[.val (.int p1), .val (.int p2), .val (.int p3), .val (.int p4), .val (.int p5), .val (.int p6), .val (.long cx), .second, .val (.long cy), .second, .val (.long ax), .second, .val (.long ay), .second, .val (.long bx), .second, .val (.long by2), .second, .val (.int i41), .unset, .unset, .unset, .unset, .unset, .unset, .unset, .unset, .unset, .unset, .unset, .unset, .unset, .unset, .unset, .unset, .unset, .unset, .unset, .unset, .unset, .unset, .unset, .unset, .unset, .unset, .unset, .unset, .unset, .unset, .unset] []))
      refine Go.step (fun t k => XS.iload X_6.here hx rfl (hb hby at_65) rfl  k) ?_
      show Go p.tables e below P (T_6.setTop (mkF m 67 #[.val (.int p1), .val (.int p2), .val (.int p3), .val (.int p4), .val (.int p5), .val (.int p6), .val (.long cx), .second, .val (.long cy), .second, .val (.long ax), .second, .val (.long ay), .second, .val (.long bx), .second, .val (.long by2), .second, .val (.int i41), .unset, .unset, .unset, .unset, .unset, .unset, .unset, .unset, .unset, .unset, .unset, .unset, .unset, .unset, .unset, .unset, .unset, .unset, .unset, .unset, .unset, .unset, .unset, .unset, .unset, .unset, .unset, .unset, .unset, .unset, .unset] [(.int i41)]))
      refine Go.step (fun t k => XS.iconst X_6.here hx rfl (hb hby at_67) k) ?_
      show Go p.tables e below P (T_6.setTop (mkF m 68 #[.val (.int p1), .val (.int p2), .val (.int p3), .val (.int p4), .val (.int p5), .val (.int p6), .val (.long cx), .second, .val (.long cy), .second, .val (.long ax), .second, .val (.long ay), .second, .val (.long bx), .second, .val (.long by2), .second, .val (.int i41), .unset, .unset, .unset, .unset, .unset, .unset, .unset, .unset, .unset, .unset, .unset, .unset, .unset, .unset, .unset, .unset, .unset, .unset, .unset, .unset, .unset, .unset, .unset, .unset, .unset, .unset, .unset, .unset, .unset, .unset, .unset] [(.int (2 : Int32)), (.int i41)]))
      by_cases hc68 : ¬ i41.toInt = (2 : Int)
      · refine Go.step (fun t k => XS.icmpYes X_6.here hx rfl (pc0 := 68) (pc' := 77) rfl (hb hby at_68) rfl (icY (cd := .ne) hc68) (by decide) (by decide) k) ?_
        show Go p.tables e below P (T_6.setTop (mkF m 77 #[.val (.int p1), .val (.int p2), .val (.int p3), .val (.int p4), .val (.int p5), .val (.int p6), .val (.long cx), .second, .val (.long cy), .second, .val (.long ax), .second, .val (.long ay), .second, .val (.long bx), .second, .val (.long by2), .second, .val (.int i41), .unset, .unset, .unset, .unset, .unset, .unset, .unset, .unset, .unset, .unset, .unset, .unset, .unset, .unset, .unset, .unset, .unset, .unset, .unset, .unset, .unset, .unset, .unset, .unset, .unset, .unset, .unset, .unset, .unset, .unset, .unset] []))
        refine Go.step (fun t k => X_6.ldc2DoubleC hx hown (mvT hZ (hw _ (List.mem_of_getElem? (i := 29) rfl))) (g := (mkF m 77 #[.val (.int p1), .val (.int p2), .val (.int p3), .val (.int p4), .val (.int p5), .val (.int p6), .val (.long cx), .second, .val (.long cy), .second, .val (.long ax), .second, .val (.long ay), .second, .val (.long bx), .second, .val (.long by2), .second, .val (.int i41), .unset, .unset, .unset, .unset, .unset, .unset, .unset, .unset, .unset, .unset, .unset, .unset, .unset, .unset, .unset, .unset, .unset, .unset, .unset, .unset, .unset, .unset, .unset, .unset, .unset, .unset, .unset, .unset, .unset, .unset, .unset] [])) rfl (hb hby at_77) t k) ?_
        show Go p.tables e below P (T_6.setTop (mkF m 80 #[.val (.int p1), .val (.int p2), .val (.int p3), .val (.int p4), .val (.int p5), .val (.int p6), .val (.long cx), .second, .val (.long cy), .second, .val (.long ax), .second, .val (.long ay), .second, .val (.long bx), .second, .val (.long by2), .second, .val (.int i41), .unset, .unset, .unset, .unset, .unset, .unset, .unset, .unset, .unset, .unset, .unset, .unset, .unset, .unset, .unset, .unset, .unset, .unset, .unset, .unset, .unset, .unset, .unset, .unset, .unset, .unset, .unset, .unset, .unset, .unset, .unset] [(.double (3706462493325918208 : UInt64))]))
        exact J80 _ 874 ⟨DE.of ⟨_, _, _, rfl⟩ (by decide +kernel), by decide, by decide⟩
      · refine Go.step (fun t k => XS.icmpNo X_6.here hx rfl (hb hby at_68) rfl (icN (cd := .ne) hc68) k) ?_
        show Go p.tables e below P (T_6.setTop (mkF m 71 #[.val (.int p1), .val (.int p2), .val (.int p3), .val (.int p4), .val (.int p5), .val (.int p6), .val (.long cx), .second, .val (.long cy), .second, .val (.long ax), .second, .val (.long ay), .second, .val (.long bx), .second, .val (.long by2), .second, .val (.int i41), .unset, .unset, .unset, .unset, .unset, .unset, .unset, .unset, .unset, .unset, .unset, .unset, .unset, .unset, .unset, .unset, .unset, .unset, .unset, .unset, .unset, .unset, .unset, .unset, .unset, .unset, .unset, .unset, .unset, .unset, .unset] []))
        refine Go.step (fun t k => X_6.ldc2DoubleC hx hown (mvT hZ (hw _ (List.mem_of_getElem? (i := 30) rfl))) (g := (mkF m 71 #[.val (.int p1), .val (.int p2), .val (.int p3), .val (.int p4), .val (.int p5), .val (.int p6), .val (.long cx), .second, .val (.long cy), .second, .val (.long ax), .second, .val (.long ay), .second, .val (.long bx), .second, .val (.long by2), .second, .val (.int i41), .unset, .unset, .unset, .unset, .unset, .unset, .unset, .unset, .unset, .unset, .unset, .unset, .unset, .unset, .unset, .unset, .unset, .unset, .unset, .unset, .unset, .unset, .unset, .unset, .unset, .unset, .unset, .unset, .unset, .unset, .unset] [])) rfl (hb hby at_71) t k) ?_
        show Go p.tables e below P (T_6.setTop (mkF m 74 #[.val (.int p1), .val (.int p2), .val (.int p3), .val (.int p4), .val (.int p5), .val (.int p6), .val (.long cx), .second, .val (.long cy), .second, .val (.long ax), .second, .val (.long ay), .second, .val (.long bx), .second, .val (.long by2), .second, .val (.int i41), .unset, .unset, .unset, .unset, .unset, .unset, .unset, .unset, .unset, .unset, .unset, .unset, .unset, .unset, .unset, .unset, .unset, .unset, .unset, .unset, .unset, .unset, .unset, .unset, .unset, .unset, .unset, .unset, .unset, .unset, .unset] [(.double (5507902344274116608 : UInt64))]))
        refine Go.step (fun t k => XS.goto X_6.here hx rfl (pc0 := 74) (pc' := 80) rfl (hb hby at_74) (by decide) (by decide) k) ?_
        show Go p.tables e below P (T_6.setTop (mkF m 80 #[.val (.int p1), .val (.int p2), .val (.int p3), .val (.int p4), .val (.int p5), .val (.int p6), .val (.long cx), .second, .val (.long cy), .second, .val (.long ax), .second, .val (.long ay), .second, .val (.long bx), .second, .val (.long by2), .second, .val (.int i41), .unset, .unset, .unset, .unset, .unset, .unset, .unset, .unset, .unset, .unset, .unset, .unset, .unset, .unset, .unset, .unset, .unset, .unset, .unset, .unset, .unset, .unset, .unset, .unset, .unset, .unset, .unset, .unset, .unset, .unset, .unset] [(.double (5507902344274116608 : UInt64))]))
        exact J80 _ 1274 ⟨DE.of ⟨_, _, _, rfl⟩ (by decide +kernel), by decide, by decide⟩
    · refine Go.step (fun t k => XS.icmpNo X_6.here hx rfl (hb hby at_56) rfl (icN (cd := .ne) hc56) k) ?_
      show Go p.tables e below P (T_6.setTop (mkF m 59 #[.val (.int p1), .val (.int p2), .val (.int p3), .val (.int p4), .val (.int p5), .val (.int p6), .val (.long cx), .second, .val (.long cy), .second, .val (.long ax), .second, .val (.long ay), .second, .val (.long bx), .second, .val (.long by2), .second, .val (.int i41), .unset, .unset, .unset, .unset, .unset, .unset, .unset, .unset, .unset, .unset, .unset, .unset, .unset, .unset, .unset, .unset, .unset, .unset, .unset, .unset, .unset, .unset, .unset, .unset, .unset, .unset, .unset, .unset, .unset, .unset, .unset] []))
      refine Go.step (fun t k => X_6.ldc2DoubleC hx hown (mvT hZ (hw _ (List.mem_of_getElem? (i := 31) rfl))) (g := (mkF m 59 #[.val (.int p1), .val (.int p2), .val (.int p3), .val (.int p4), .val (.int p5), .val (.int p6), .val (.long cx), .second, .val (.long cy), .second, .val (.long ax), .second, .val (.long ay), .second, .val (.long bx), .second, .val (.long by2), .second, .val (.int i41), .unset, .unset, .unset, .unset, .unset, .unset, .unset, .unset, .unset, .unset, .unset, .unset, .unset, .unset, .unset, .unset, .unset, .unset, .unset, .unset, .unset, .unset, .unset, .unset, .unset, .unset, .unset, .unset, .unset, .unset, .unset] [])) rfl (hb hby at_59) t k) ?_
      show Go p.tables e below P (T_6.setTop (mkF m 62 #[.val (.int p1), .val (.int p2), .val (.int p3), .val (.int p4), .val (.int p5), .val (.int p6), .val (.long cx), .second, .val (.long cy), .second, .val (.long ax), .second, .val (.long ay), .second, .val (.long bx), .second, .val (.long by2), .second, .val (.int i41), .unset, .unset, .unset, .unset, .unset, .unset, .unset, .unset, .unset, .unset, .unset, .unset, .unset, .unset, .unset, .unset, .unset, .unset, .unset, .unset, .unset, .unset, .unset, .unset, .unset, .unset, .unset, .unset, .unset, .unset, .unset] [(.double (4472074429978902528 : UInt64))]))
      refine Go.step (fun t k => XS.goto X_6.here hx rfl (pc0 := 62) (pc' := 80) rfl (hb hby at_62) (by decide) (by decide) k) ?_
      show Go p.tables e below P (T_6.setTop (mkF m 80 #[.val (.int p1), .val (.int p2), .val (.int p3), .val (.int p4), .val (.int p5), .val (.int p6), .val (.long cx), .second, .val (.long cy), .second, .val (.long ax), .second, .val (.long ay), .second, .val (.long bx), .second, .val (.long by2), .second, .val (.int i41), .unset, .unset, .unset, .unset, .unset, .unset, .unset, .unset, .unset, .unset, .unset, .unset, .unset, .unset, .unset, .unset, .unset, .unset, .unset, .unset, .unset, .unset, .unset, .unset, .unset, .unset, .unset, .unset, .unset, .unset, .unset] [(.double (4472074429978902528 : UInt64))]))
      exact J80 _ 1044 ⟨DE.of ⟨_, _, _, rfl⟩ (by decide +kernel), by decide, by decide⟩
  · refine Go.step (fun t k => XS.ifNo X_6.here hx rfl (hb hby at_46) rfl (ifN (cd := .ne) hc46) k) ?_
    show Go p.tables e below P (T_6.setTop (mkF m 49 #[.val (.int p1), .val (.int p2), .val (.int p3), .val (.int p4), .val (.int p5), .val (.int p6), .val (.long cx), .second, .val (.long cy), .second, .val (.long ax), .second, .val (.long ay), .second, .val (.long bx), .second, .val (.long by2), .second, .val (.int i41), .unset, .unset, .unset, .unset, .unset, .unset, .unset, .unset, .unset, .unset, .unset, .unset, .unset, .unset, .unset, .unset, .unset, .unset, .unset, .unset, .unset, .unset, .unset, .unset, .unset, .unset, .unset, .unset, .unset, .unset, .unset] []))
    refine Go.step (fun t k => XS.dconst1 X_6.here hx rfl (hb hby at_49) rfl k) ?_
    show Go p.tables e below P (T_6.setTop (mkF m 50 #[.val (.int p1), .val (.int p2), .val (.int p3), .val (.int p4), .val (.int p5), .val (.int p6), .val (.long cx), .second, .val (.long cy), .second, .val (.long ax), .second, .val (.long ay), .second, .val (.long bx), .second, .val (.long by2), .second, .val (.int i41), .unset, .unset, .unset, .unset, .unset, .unset, .unset, .unset, .unset, .unset, .unset, .unset, .unset, .unset, .unset, .unset, .unset, .unset, .unset, .unset, .unset, .unset, .unset, .unset, .unset, .unset, .unset, .unset, .unset, .unset, .unset] [(.double FP.dconst1)]))
    refine Go.step (fun t k => XS.goto X_6.here hx rfl (pc0 := 50) (pc' := 80) rfl (hb hby at_50) (by decide) (by decide) k) ?_
    show Go p.tables e below P (T_6.setTop (mkF m 80 #[.val (.int p1), .val (.int p2), .val (.int p3), .val (.int p4), .val (.int p5), .val (.int p6), .val (.long cx), .second, .val (.long cy), .second, .val (.long ax), .second, .val (.long ay), .second, .val (.long bx), .second, .val (.long by2), .second, .val (.int i41), .unset, .unset, .unset, .unset, .unset, .unset, .unset, .unset, .unset, .unset, .unset, .unset, .unset, .unset, .unset, .unset, .unset, .unset, .unset, .unset, .unset, .unset, .unset, .unset, .unset, .unset, .unset, .unset, .unset, .unset, .unset] [(.double FP.dconst1)]))
    exact J80 _ 1074 ⟨DE.of ⟨_, _, _, rfl⟩ (by decide +kernel), by decide, by decide⟩
set_option maxRecDepth 65536 in
set_option maxHeartbeats 40000000 in
theorem comes_1 {Post : Tables → Env → Array Value → State → Outcome → State → Prop} (hpost : ∀ tb e args s v u, (limb_1_1.after args s (.returned v) u = true ∧ limb_1_2.after args s (.returned v) u = true ∧ True) → FrameEnd s (.returned v) u (Jvm.fieldLocs frame_1_writes args s ++ Jvm.arrayLocs frame_1_arrays args s ++ Jvm.staticLocs frame_1_statics s) 16 128 → Post tb e args s (.returned v) u) :
    ArmFor flags0 classFile x code maxLocals ret World_1 tables_1 room_1 Calls_1 rest_1 Pre_1 Post := by
  intro l hfl _ _ p e ha hc hk s m args below hf hA hF happ hP
  obtain ⟨hcalls, hrest, hpre⟩ := hP
  obtain ⟨-, -, -, hnamed, -, -, -, hat⟩ := (Spec.applies_iff hf).mp happ
  obtain ⟨hg, hn⟩ := and_e (Cond.before_iff.mp (show (Jvm.Cond.and given_1 narrow_1).before args s = true from hpre))
  obtain ⟨gc, hg0⟩ := and_e hg
  obtain ⟨ga0, hg1⟩ := and_e hg0
  obtain ⟨ga1, hg2⟩ := and_e hg1
  obtain ⟨ga2, hg3⟩ := and_e hg2
  obtain ⟨ga3, hg4⟩ := and_e hg3
  obtain ⟨ga4, hg5⟩ := and_e hg4
  have ga5 := hg5
  obtain ⟨w0, w1, w2, w3, w4, w5, rfl⟩ : ∃ w0 w1 w2 w3 w4 w5 : Value, args = #[w0, w1, w2, w3, w4, w5] := by
    have hs : args.size = 6 := by simpa [Cond.value, given_1] using gc
    obtain ⟨L⟩ := args
    match L, hs with
    | [w0, w1, w2, w3, w4, w5], _ => exact ⟨w0, w1, w2, w3, w4, w5, rfl⟩
  have hw := fun d (hd : d ∈ tables_1) => atoms_spec (ws := Jvm.Cond.code x code maxLocals ret :: tables_1) hat d (List.mem_cons_of_mem _ hd)
  obtain ⟨i0, ei0⟩ := is_v ga0
  obtain rfl : w0 = (.int i0) := Option.some.inj ei0
  obtain ⟨i1, ei1⟩ := is_v ga1
  obtain rfl : w1 = (.int i1) := Option.some.inj ei1
  obtain ⟨i2, ei2⟩ := is_v ga2
  obtain rfl : w2 = (.int i2) := Option.some.inj ei2
  obtain ⟨i3, ei3⟩ := is_v ga3
  obtain rfl : w3 = (.int i3) := Option.some.inj ei3
  obtain ⟨i4, ei4⟩ := is_v ga4
  obtain rfl : w4 = (.int i4) := Option.some.inj ei4
  obtain ⟨i5, ei5⟩ := is_v ga5
  obtain rfl : w5 = (.int i5) := Option.some.inj ei5
  obtain ⟨n, o, h1, h2, h3, _, L, rfl, ⟨rfl, N⟩, hq⟩ := rm0 l s _ hw tables_1 i0 i1 i2 i3 i4 i5 s.heap s.heap.size (Nat.le_refl _) p e ha hc hk s m _ below hf ((Spec.applies_iff_loose hf).mp happ).1 ⟨rfl, State.Warmed39.refl s, rfl⟩ trivial
  refine ⟨n, _, h1, h2, h3, hpost _ _ _ _ _ _ ⟨Cond.after_iff.mpr rfl, Cond.after_iff.mpr (eq_i res_at (Term.int_eval (1)) rfl), trivial⟩ ⟨hq.1, hq.2.1, (hq.2.2.sift fun y hy => Or.inr (N y hy)).mono (by decide) (by decide)⟩⟩
theorem main_1_1 : Claimed_1_1 := comes_1 fun _ _ _ _ _ _ h hF => ⟨h.1, hF⟩
theorem main_1_2 : Claimed_1_2 := comes_1 fun _ _ _ _ _ _ h hF => ⟨h.2.1, hF⟩
end Jvm.Pilot.@@N@@
namespace Jvm.Pilot.@@N@@
open Jvm Jvm.ClassFile Sem Op Lib Jvm.Free Jvm.Stand Jvm.Pilot.@@N@@.Jvm.D
/-! MADE BY PROGRAM (witnessworld.py) out of the Statement's table words and the real class files: 10 classes; the members and pool entries that the words name. The judged class is class 1, her method 2. -/
namespace start1
open Jvm.ClassFile
def u (s : String) : CpInfo := .utf8 (stringToUtf16 s)
/-- a pool by its gaps: so many unusable entries, then the entry; so many at the end -/
def gap : Nat → List CpInfo → List CpInfo
  | 0, r => r
  | n + 1, r => .unusable :: gap n r
def poolList (es : List (Nat × CpInfo)) (last : Nat) : List CpInfo := es.foldr (fun e r => gap e.1 (e.2 :: r)) (gap last [])
def pool (es : List (Nat × CpInfo)) (last : Nat) : Array CpInfo := ⟨poolList es last⟩
def fileOf (pool : Array CpInfo) (this : Nat) (attrs : Array Attribute := #[]) (ms : Array MethodInfo := #[]) (fl : Nat := 33) (sup : Nat := 0) (ifs : Array Nat := #[]) (fds : Array FieldInfo := #[]) : ClassFile where
  minorVersion := 0
  majorVersion := 65
  constantPool := pool
  accessFlags := fl
  thisClass := this
  superClass := sup
  interfaces := ifs
  fields := fds
  methods := ms
  attributes := attrs
def plain (name : String) (sup : Option ClassId) : Class where
  name := name
  kind := .ordinary
  loader := none
  accessFlags := 33
  super := sup
  interfaces := #[]
  cf := none
  fields := #[]
  methods := #[]
  instanceTypes := #[]
  staticTypes := #[]
  resolved := #[]
  callSites := []
  init := .initialized
  statics := none
  mirror := none

def pool0 : Array CpInfo := pool [(5, u "<init>"), (0, u "()V"), (1, .class_ 10), (1, u "java/lang/Object")] 113

def k0c0 : Code := { maxStack := 0, maxLocals := 1, code := object_method_1_code, exceptionTable := #[], attributes := #[] }
def k0m0 : Method := { name := "<init>", desc := "()V", sig := { parameters := [], returnType := none }, accessFlags := 1, code := some k0c0 }
/-- java/lang/Object -/
def k0 : Class := { plain "java/lang/Object" none with
  accessFlags := 33
  interfaces := #[]
  cf := some (fileOf pool0 8 #[] #[{ accessFlags := 1, nameIndex := 5, descriptorIndex := 6, attributes := #[] }] 33 0 #[] #[])
  fields := #[]
  methods := #[k0m0]
  instanceTypes := #[]
  staticTypes := #[]
  resolved := Array.replicate 124 none
  statics := none }

def pool1 : Array CpInfo := pool [(2, .class_ 4), (1, u "java/lang/Object"), (0, u "<init>"), (0, u "()V"), (0, .methodref 8 9), (0, .class_ 10), (0, .nameAndType 11 12), (0, u "com/example/geofence/geofence/geometry/CircleSquaredDistancePinLaw"), (0, u "coord"), (0, u "(I)J"), (0, .double 4472074429978902528), (1, .double 5507902344274116608), (1, .double 3706462493325918208), (1, .class_ 20), (0, u "com/example/geofence/geofence/geometry/Circle"), (0, .methodref 19 22), (0, .nameAndType 5 23), (0, u "(DDD)V"), (0, .methodref 19 25), (0, .nameAndType 26 27), (0, u "squaredDistance"), (0, u "(DDDD)D"), (2, u "law"), (0, u "(IIIIII)Z")] 3

def k1m0 : Method := { name := "<init>", desc := "()V", sig := { parameters := [], returnType := none }, accessFlags := 1, code := none }
def k1c1 : Code := { maxStack := 2, maxLocals := 1, code := method_2_code, exceptionTable := #[], attributes := #[] }
def k1m1 : Method := { name := "coord", desc := "(I)J", sig := { parameters := [.int], returnType := some .long }, accessFlags := 10, code := some k1c1 }
def k1c2 : Code := { maxStack := 11, maxLocals := 50, code := code, exceptionTable := #[], attributes := #[] }
def k1m2 : Method := { name := "law", desc := "(IIIIII)Z", sig := { parameters := [.int, .int, .int, .int, .int, .int], returnType := some .boolean }, accessFlags := 9, code := some k1c2 }
/-- com/example/geofence/geofence/geometry/CircleSquaredDistancePinLaw -/
def k1 : Class := { plain "com/example/geofence/geofence/geometry/CircleSquaredDistancePinLaw" (some 0) with
  accessFlags := 49
  interfaces := #[]
  cf := some (fileOf pool1 8 #[] #[{ accessFlags := 1, nameIndex := 5, descriptorIndex := 6, attributes := #[] }, { accessFlags := 10, nameIndex := 11, descriptorIndex := 12, attributes := #[] }, { accessFlags := 9, nameIndex := 30, descriptorIndex := 31, attributes := #[] }] 49 2 #[] #[])
  fields := #[]
  methods := #[k1m0, k1m1, k1m2]
  instanceTypes := #[]
  staticTypes := #[]
  resolved := Array.replicate 35 none
  statics := none }

def pool2 : Array CpInfo := pool [(1, .methodref 2 3), (0, .class_ 4), (0, .nameAndType 5 6), (0, u "java/lang/Object"), (0, u "<init>"), (0, u "()V"), (0, .class_ 8), (0, u "java/lang/Record")] 13

def k2c0 : Code := { maxStack := 1, maxLocals := 1, code := jdk_30_method_1_code, exceptionTable := #[], attributes := #[] }
def k2m0 : Method := { name := "<init>", desc := "()V", sig := { parameters := [], returnType := none }, accessFlags := 4, code := some k2c0 }
/-- java/lang/Record -/
def k2 : Class := { plain "java/lang/Record" (some 0) with
  accessFlags := 1057
  interfaces := #[]
  cf := some (fileOf pool2 7 #[] #[{ accessFlags := 4, nameIndex := 5, descriptorIndex := 6, attributes := #[] }] 1057 2 #[] #[])
  fields := #[]
  methods := #[k2m0]
  instanceTypes := #[]
  staticTypes := #[]
  resolved := Array.replicate 22 none
  statics := none }

def pool3 : Array CpInfo := pool [(1, .methodref 2 3), (0, .class_ 4), (0, .nameAndType 5 6), (0, u "java/lang/Record"), (0, u "<init>"), (0, u "()V"), (0, .fieldref 8 9), (0, .class_ 10), (0, .nameAndType 11 12), (0, u "com/example/geofence/geofence/geometry/Circle"), (0, u "x"), (0, u "D"), (0, .fieldref 8 14), (0, .nameAndType 15 12), (0, u "y"), (0, .fieldref 8 17), (0, .nameAndType 18 12), (0, u "radius"), (95, u "(DDD)V"), (2, u "UNIT"), (0, u "Lcom/example/geofence/geofence/geometry/Circle;"), (0, u "ROUNDING"), (1, u "FAR"), (0, u "NO"), (0, u "I"), (1, u "OPEN"), (1, u "YES"), (6, u "squaredDistance"), (0, u "(DDDD)D")] 30

def k3c0 : Code := { maxStack := 3, maxLocals := 7, code := prog_10_method_1_code, exceptionTable := #[], attributes := #[] }
def k3m0 : Method := { name := "<init>", desc := "(DDD)V", sig := { parameters := [.double, .double, .double], returnType := none }, accessFlags := 0, code := some k3c0 }
def k3c1 : Code := { maxStack := 6, maxLocals := 29, code := prog_10_method_3_code, exceptionTable := #[], attributes := #[] }
def k3m1 : Method := { name := "squaredDistance", desc := "(DDDD)D", sig := { parameters := [.double, .double, .double, .double], returnType := some .double }, accessFlags := 0, code := some k3c1 }
/-- com/example/geofence/geofence/geometry/Circle -/
def k3 : Class := { plain "com/example/geofence/geofence/geometry/Circle" (some 2) with
  accessFlags := 48
  interfaces := #[]
  cf := some (fileOf pool3 8 #[] #[{ accessFlags := 0, nameIndex := 5, descriptorIndex := 114, attributes := #[] }, { accessFlags := 0, nameIndex := 134, descriptorIndex := 135, attributes := #[] }] 48 2 #[] #[{ accessFlags := 18, nameIndex := 11, descriptorIndex := 12, attributes := #[] }, { accessFlags := 18, nameIndex := 15, descriptorIndex := 12, attributes := #[] }, { accessFlags := 18, nameIndex := 18, descriptorIndex := 12, attributes := #[] }, { accessFlags := 24, nameIndex := 117, descriptorIndex := 118, attributes := #[] }, { accessFlags := 26, nameIndex := 119, descriptorIndex := 12, attributes := #[] }, { accessFlags := 26, nameIndex := 121, descriptorIndex := 12, attributes := #[] }, { accessFlags := 26, nameIndex := 122, descriptorIndex := 123, attributes := #[] }, { accessFlags := 26, nameIndex := 125, descriptorIndex := 123, attributes := #[] }, { accessFlags := 26, nameIndex := 127, descriptorIndex := 123, attributes := #[] }])
  fields := #[{ name := "x", type := .double, accessFlags := 18, slot := 0, constantValue := 0 }, { name := "y", type := .double, accessFlags := 18, slot := 1, constantValue := 0 }, { name := "radius", type := .double, accessFlags := 18, slot := 2, constantValue := 0 }, { name := "UNIT", type := (.object "com/example/geofence/geofence/geometry/Circle"), accessFlags := 24, slot := 0, constantValue := 0 }, { name := "ROUNDING", type := .double, accessFlags := 26, slot := 1, constantValue := 0 }, { name := "FAR", type := .double, accessFlags := 26, slot := 2, constantValue := 0 }, { name := "NO", type := .int, accessFlags := 26, slot := 3, constantValue := 0 }, { name := "OPEN", type := .int, accessFlags := 26, slot := 4, constantValue := 0 }, { name := "YES", type := .int, accessFlags := 26, slot := 5, constantValue := 0 }]
  methods := #[k3m0, k3m1]
  instanceTypes := #[.double, .double, .double]
  staticTypes := #[(.object "com/example/geofence/geofence/geometry/Circle"), .double, .double, .int, .int, .int]
  resolved := Array.replicate 166 none
  statics := none }

def pool4 : Array CpInfo := pool [(1, u "java/lang/Cloneable"), (0, .class_ 1), (0, u "java/lang/Object"), (0, .class_ 3)] 3

/-- java/lang/Cloneable -/
def k4 : Class := { plain "java/lang/Cloneable" (some 0) with
  accessFlags := 1537
  interfaces := #[]
  cf := some (fileOf pool4 2 #[] #[] 1537 4 #[] #[])
  fields := #[]
  methods := #[]
  instanceTypes := #[]
  staticTypes := #[]
  resolved := Array.replicate 8 none
  statics := none }

def pool5 : Array CpInfo := pool [(1, u "java/io/Serializable"), (0, .class_ 1), (0, u "java/lang/Object"), (0, .class_ 3)] 3

/-- java/io/Serializable -/
def k5 : Class := { plain "java/io/Serializable" (some 0) with
  accessFlags := 1537
  interfaces := #[]
  cf := some (fileOf pool5 2 #[] #[] 1537 4 #[] #[])
  fields := #[]
  methods := #[]
  instanceTypes := #[]
  staticTypes := #[]
  resolved := Array.replicate 8 none
  statics := none }

/-- the primitive byte -/
def k6 : Class := { plain "byte" none with kind := .primitive 'B', accessFlags := 0x411 }
/-- [B -/
def k7 : Class := { plain "[B" (some 0) with kind := .array 6 .byte, interfaces := #[4, 5], accessFlags := 1041 }

/-- the primitive int -/
def k8 : Class := { plain "int" none with kind := .primitive 'I', accessFlags := 0x411 }
/-- [I -/
def k9 : Class := { plain "[I" (some 0) with kind := .array 8 .int, interfaces := #[4, 5], accessFlags := 1041 }

def heap : Heap := #[]
def classes : Array Class := #[k0, k1, k2, k3, k4, k5, k6, k7, k8, k9]
def interned : List (Array UInt16 × Addr) := []
def slotsUsed : Nat := 0
def theMethod : MethodId := ⟨1, 2⟩
def args0 : Array Value := #[.int 3, .int 8, .int 5, .int 7, .int 9, .int 11]
def aboutOver (below : List Frame) : State where
  vm := { classes := classes, interned := interned.toArray }
  heap := heap
  slotsUsed := slotsUsed
  threads := #[{ frames := .invoking theMethod args0 :: below }]
def below0 : List Frame := [.native { method := ⟨0, 0⟩, args := #[] }]
def about1 : State := aboutOver below0
def p0 : Program := .bare "" "" ""
def e0 : Env := launch0.env 0 0 0
theorem w_frames : about1.frames = Frame.invoking theMethod args0 :: below0 := rfl
set_option maxRecDepth 65536 in
theorem w_args : argsFit about1.vm theMethod args0 = true := by decide +kernel
set_option maxRecDepth 65536 in
theorem w_heap : heapFits about1 = true := by decide +kernel
set_option maxRecDepth 65536 in
theorem w_runnable : about1.curStatus? = some .runnable := by decide +kernel
set_option maxRecDepth 65536 in
theorem w_alone : about1.alone = true := by decide +kernel
set_option maxRecDepth 65536 in
theorem w_named : about1.methodNamed? x = some theMethod := by decide +kernel
set_option maxRecDepth 65536 in
theorem w_hears : about1.hears theMethod below0 = true := by decide +kernel
set_option maxRecDepth 65536 in
theorem w_ripe : about1.ripe theMethod args0 below0 = true := by decide +kernel
theorem w_running : about1.status = .running := rfl
set_option maxRecDepth 65536 in
theorem w_room : about1.hasRoom e0.platform room_1 = true :=
  launch0.hasRoom_least _ room_1 (by decide +kernel) (by decide +kernel) (by decide +kernel) (by decide +kernel) (by decide +kernel) (by decide +kernel)
theorem allAtoms_all (ts : List Jvm.Cond) (a : Array Jvm.Value) (st : Jvm.State) : (allAtoms ts).before a st = ts.all (fun c => c.before a st) := by
  induction ts with
  | nil => rfl
  | cons c t ih =>
    show (Jvm.Cond.and c (allAtoms t)).before a st = _
    rw [Jvm.Cond.before_and, ih, List.all_cons]
def words1 : List Jvm.Cond := Jvm.Cond.code x code maxLocals ret :: tables_1
/-- a 'code' word, met by the world's own term for the bytes: nothing is compared byte by byte -/
theorem code_word {y : MethodName} {bytes : ByteArray} {mx : Nat} {rt : Option FieldType} {a : Array Value} {s : State} {m : MethodId} {meth : Method} {c : Code} (h1 : s.methodNamed? y = some m) (h2 : s.vm.method? m = some meth) (h3 : meth.code = some c) (h4 : c.code = bytes)
    (h5 : (c.maxLocals == mx && c.exceptionTable.isEmpty && decide (c.maxStack ≤ mostOperands) && decide (meth.sig.returnType = rt) && !meth.locks && decide (parseMethodDescriptor y.desc = some meth.sig)) = true) : (Jvm.Cond.code y bytes mx rt).before a s = true := by
  simp only [Bool.and_eq_true, beq_iff_eq, Bool.not_eq_true', decide_eq_true_eq] at h5
  obtain ⟨⟨⟨⟨⟨g1, g2⟩, g3⟩, g4⟩, g5⟩, g6⟩ := h5
  simp [Cond.before, Cond.holds, Cond.value, h1, h2, h3, h4, g1, g2, g3, g4, g5, g6]
def isCode : Jvm.Cond → Bool
  | .code _ _ _ _ => true
  | _ => false
theorem all_split {L : List Jvm.Cond} {P : Jvm.Cond → Bool} (h1 : L.all (fun c => isCode c || P c) = true) (h2 : ∀ c ∈ L.filter isCode, P c = true) : L.all P = true := by
  refine List.all_eq_true.mpr fun c hc => ?_
  have h := List.all_eq_true.mp h1 c hc
  rcases Bool.eq_false_or_eq_true (isCode c) with hi | hi
  · exact h2 c (List.mem_filter.mpr ⟨hc, hi⟩)
  · simpa [hi] using h
set_option maxRecDepth 65536 in
theorem w_c0 : (Jvm.Cond.code x code maxLocals ret).before args0 about1 = true := code_word (m := ⟨1, 2⟩) (meth := k1m2) (c := k1c2) (by decide +kernel) rfl rfl rfl (by decide +kernel)
set_option maxRecDepth 65536 in
theorem w_c1 : (Jvm.Cond.code ({ cls := "com/example/geofence/geofence/geometry/CircleSquaredDistancePinLaw", name := "coord", desc := "(I)J" } : Jvm.MethodName) method_2_code (1 : Nat) (Option.some Jvm.ClassFile.FieldType.long)).before args0 about1 = true := code_word (m := ⟨1, 1⟩) (meth := k1m1) (c := k1c1) (by decide +kernel) rfl rfl rfl (by decide +kernel)
set_option maxRecDepth 65536 in
theorem w_c2 : (Jvm.Cond.code ({ cls := "com/example/geofence/geofence/geometry/Circle", name := "<init>", desc := "(DDD)V" } : Jvm.MethodName) prog_10_method_1_code (7 : Nat) (Option.none : Option Jvm.ClassFile.FieldType)).before args0 about1 = true := code_word (m := ⟨3, 0⟩) (meth := k3m0) (c := k3c0) (by decide +kernel) rfl rfl rfl (by decide +kernel)
set_option maxRecDepth 65536 in
theorem w_c3 : (Jvm.Cond.code ({ cls := "java/lang/Record", name := "<init>", desc := "()V" } : Jvm.MethodName) jdk_30_method_1_code (1 : Nat) (Option.none : Option Jvm.ClassFile.FieldType)).before args0 about1 = true := code_word (m := ⟨2, 0⟩) (meth := k2m0) (c := k2c0) (by decide +kernel) rfl rfl rfl (by decide +kernel)
set_option maxRecDepth 65536 in
theorem w_c4 : (Jvm.Cond.code ({ cls := "java/lang/Object", name := "<init>", desc := "()V" } : Jvm.MethodName) object_method_1_code (1 : Nat) (Option.none : Option Jvm.ClassFile.FieldType)).before args0 about1 = true := code_word (m := ⟨0, 0⟩) (meth := k0m0) (c := k0c0) (by decide +kernel) rfl rfl rfl (by decide +kernel)
set_option maxRecDepth 65536 in
theorem w_c5 : (Jvm.Cond.code ({ cls := "com/example/geofence/geofence/geometry/Circle", name := "squaredDistance", desc := "(DDDD)D" } : Jvm.MethodName) prog_10_method_3_code (29 : Nat) (Option.some Jvm.ClassFile.FieldType.double)).before args0 about1 = true := code_word (m := ⟨3, 1⟩) (meth := k3m1) (c := k3c1) (by decide +kernel) rfl rfl rfl (by decide +kernel)
def codes1 : List Jvm.Cond := [Jvm.Cond.code x code maxLocals ret, Jvm.Cond.code ({ cls := "com/example/geofence/geofence/geometry/CircleSquaredDistancePinLaw", name := "coord", desc := "(I)J" } : Jvm.MethodName) method_2_code (1 : Nat) (Option.some Jvm.ClassFile.FieldType.long), Jvm.Cond.code ({ cls := "com/example/geofence/geofence/geometry/Circle", name := "<init>", desc := "(DDD)V" } : Jvm.MethodName) prog_10_method_1_code (7 : Nat) (Option.none : Option Jvm.ClassFile.FieldType), Jvm.Cond.code ({ cls := "java/lang/Record", name := "<init>", desc := "()V" } : Jvm.MethodName) jdk_30_method_1_code (1 : Nat) (Option.none : Option Jvm.ClassFile.FieldType), Jvm.Cond.code ({ cls := "java/lang/Object", name := "<init>", desc := "()V" } : Jvm.MethodName) object_method_1_code (1 : Nat) (Option.none : Option Jvm.ClassFile.FieldType), Jvm.Cond.code ({ cls := "com/example/geofence/geofence/geometry/Circle", name := "squaredDistance", desc := "(DDDD)D" } : Jvm.MethodName) prog_10_method_3_code (29 : Nat) (Option.some Jvm.ClassFile.FieldType.double)]
set_option maxRecDepth 65536 in
theorem codes_eq : words1.filter isCode = codes1 := rfl
theorem w_codes : ∀ c ∈ words1.filter isCode, c.before args0 about1 = true := by
  rw [codes_eq]
  intro c hc
  simp only [codes1, List.mem_cons, List.not_mem_nil, or_false] at hc
  rcases hc with rfl | rfl | rfl | rfl | rfl | rfl
  · exact w_c0
  · exact w_c1
  · exact w_c2
  · exact w_c3
  · exact w_c4
  · exact w_c5
set_option maxRecDepth 65536 in
theorem w_t1 : (words1.take 24).all (fun c => isCode c || c.before args0 about1) = true := by decide +kernel
set_option maxRecDepth 65536 in
theorem w_t2 : (words1.drop 24).all (fun c => isCode c || c.before args0 about1) = true := by decide +kernel
theorem w_tables : (allAtoms (Jvm.Cond.code x code maxLocals ret :: tables_1)).before args0 about1 = true := by
  rw [allAtoms_all]
  show words1.all (fun c => c.before args0 about1) = true
  refine all_split ?_ w_codes
  rw [← List.take_append_drop 24 words1, List.all_append, w_t1, w_t2]
  rfl
set_option maxRecDepth 65536 in
theorem w_case : (Jvm.Cond.and given_1 narrow_1).before args0 about1 = true := by decide +kernel
theorem w_applies : (headSpec (Jvm.Cond.code x code maxLocals ret :: tables_1) room_1).applies x e0.platform about1 = true :=
  (Spec.applies_iff w_frames).mpr ⟨w_running, w_runnable, w_alone, w_named, w_hears, w_ripe, w_room, w_tables⟩
theorem atStart : AtStart classFile x code maxLocals ret World_1 tables_1 room_1 Calls_1 rest_1 Pre_1 launch0 p0 e0 about1 theMethod args0 below0 :=
  ⟨lists_1, trivial, launch0.admits_env _ _ _, launch0.least_env, fairChoices_fair.cas, fairChoices_fair.clock, w_frames, w_args, w_heap, w_applies, trivial, trivial, w_case⟩
end start1
theorem witness_1 : WitnessClaimed_1 := ⟨start1.p0, start1.e0, start1.about1, start1.theMethod, start1.args0, start1.below0, start1.atStart⟩
end Jvm.Pilot.@@N@@
