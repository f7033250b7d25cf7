/-
  PLAIN LAWS ON DECIMALS: no Go in sight. The nine-state automaton (9: dead); what it accepts, said by runs of digits; signs and exponents joined.
-/
import Derived.Test.Qxb6619208aDigs
namespace Go.Proofs.Qxb6619208a.Auto
open Digs

/-- One move, on the byte as a number. -/
def stepI (st : Nat) (c : Int) : Nat :=
  match st with
  | 0 => if sgn c then 1 else if dig c then 2 else if c == 46 then 4 else 9
  | 1 => if dig c then 2 else if c == 46 then 4 else 9
  | 2 => if dig c then 2 else if c == 46 then 3 else if ex c then 6 else 9
  | 3 => if dig c then 5 else if ex c then 6 else 9
  | 4 => if dig c then 5 else 9
  | 5 => if dig c then 5 else if ex c then 6 else 9
  | 6 => if sgn c then 7 else if dig c then 8 else 9
  | 7 => if dig c then 8 else 9
  | 8 => if dig c then 8 else 9
  | _ => 9
def step (st : Nat) (c : UInt8) : Nat := stepI st (c.toNat : Int)
def dotB (c : UInt8) : Bool := (c.toNat : Int) == 46
def run (st : Nat) (l : List UInt8) : Nat := l.foldl step st
def fin (st : Nat) : Bool := st == 2 || st == 3 || st == 5 || st == 8
def mid (st : Nat) : Bool := st == 2 || st == 3 || st == 5
def acc (st : Nat) (l : List UInt8) : Bool := fin (run st l)

theorem acc_nil (st : Nat) : acc st [] = fin st := rfl
theorem acc_cons (st : Nat) (c : UInt8) (l : List UInt8) : acc st (c :: l) = acc (step st c) l := rfl
theorem run_cons (st : Nat) (c : UInt8) (l : List UInt8) : run st (c :: l) = run (step st c) l := rfl
theorem run_append (st : Nat) (a b : List UInt8) : run st (a ++ b) = run (run st a) b := by
  unfold run
  rw [List.foldl_append]

/-! ### Which bytes are which -/
theorem dig_excl {c : Int} (h : dig c = true) : sgn c = false ∧ ex c = false ∧ (c == 46) = false := by
  unfold dig at h
  rw [Bool.and_eq_true, decide_eq_true_eq, decide_eq_true_eq] at h
  unfold sgn ex
  refine ⟨?_, ?_, ?_⟩
  · rw [Bool.or_eq_false_iff, beq_eq_false_iff_ne, beq_eq_false_iff_ne]; omega
  · rw [Bool.or_eq_false_iff, beq_eq_false_iff_ne, beq_eq_false_iff_ne]; omega
  · rw [beq_eq_false_iff_ne]; omega
theorem ex_excl {c : Int} (h : ex c = true) : sgn c = false ∧ dig c = false ∧ (c == 46) = false := by
  unfold ex at h
  rw [Bool.or_eq_true, beq_iff_eq, beq_iff_eq] at h
  unfold sgn dig
  refine ⟨?_, ?_, ?_⟩
  · rw [Bool.or_eq_false_iff, beq_eq_false_iff_ne, beq_eq_false_iff_ne]; omega
  · rw [Bool.and_eq_false_iff, decide_eq_false_iff_not, decide_eq_false_iff_not]; omega
  · rw [beq_eq_false_iff_ne]; omega
theorem sgn_excl {c : Int} (h : sgn c = true) : ex c = false ∧ dig c = false ∧ (c == 46) = false := by
  unfold sgn at h
  rw [Bool.or_eq_true, beq_iff_eq, beq_iff_eq] at h
  unfold ex dig
  refine ⟨?_, ?_, ?_⟩
  · rw [Bool.or_eq_false_iff, beq_eq_false_iff_ne, beq_eq_false_iff_ne]; omega
  · rw [Bool.and_eq_false_iff, decide_eq_false_iff_not, decide_eq_false_iff_not]; omega
  · rw [beq_eq_false_iff_ne]; omega
theorem dot_excl {c : Int} (h : (c == 46) = true) : sgn c = false ∧ dig c = false ∧ ex c = false := by
  rw [beq_iff_eq] at h
  subst h
  decide

/-! ### What is accepted from each state -/
def dropSign (l : List UInt8) : List UInt8 := match l with | [] => [] | c :: r => if sgnB c then r else c :: r
def sint (l : List UInt8) : Bool := !(dropSign l).isEmpty && (dropSign l).all digB
def expOk (r : List UInt8) : Bool := match r with | [] => true | c :: r' => exB c && sint r'
def point (r : List UInt8) : Bool := match r with | [] => true | c :: r2 => if dotB c then expOk (r2.dropWhile digB) else expOk (c :: r2)
def decR (r0 : List UInt8) : Bool :=
  match r0.dropWhile digB with
  | [] => (r0.takeWhile digB).length != 0
  | c :: r2 => if dotB c then ((r0.takeWhile digB).length + (r2.takeWhile digB).length != 0) && expOk (r2.dropWhile digB) else ((r0.takeWhile digB).length != 0) && expOk (c :: r2)

theorem dropSign_yes {c : UInt8} (h : sgnB c = true) (r : List UInt8) : dropSign (c :: r) = r := by simp [dropSign, h]
theorem dropSign_no {c : UInt8} (h : sgnB c = false) (r : List UInt8) : dropSign (c :: r) = c :: r := by simp [dropSign, h]
theorem expOk_cons (c : UInt8) (r : List UInt8) : expOk (c :: r) = (exB c && sint r) := rfl
theorem point_yes {c : UInt8} (h : dotB c = true) (r : List UInt8) : point (c :: r) = expOk (r.dropWhile digB) := by simp [point, h]
theorem point_no {c : UInt8} (h : dotB c = false) (r : List UInt8) : point (c :: r) = expOk (c :: r) := by simp [point, h]

theorem acc9 (l : List UInt8) : acc 9 l = false := by
  induction l with
  | nil => rfl
  | cons c l ih => rw [acc_cons]; exact ih

theorem acc8 (l : List UInt8) : acc 8 l = l.all digB := by
  induction l with
  | nil => rfl
  | cons c l ih =>
    rw [acc_cons, List.all_cons]
    cases h : digB c with
    | true =>
      have : step 8 c = 8 := by unfold step stepI; unfold digB at h; simp [h]
      rw [this, ih, Bool.true_and]
    | false =>
      have : step 8 c = 9 := by unfold step stepI; unfold digB at h; simp [h]
      rw [this, acc9, Bool.false_and]

theorem acc7 (l : List UInt8) : acc 7 l = (!l.isEmpty && l.all digB) := by
  cases l with
  | nil => rfl
  | cons c l =>
    rw [acc_cons, List.all_cons]
    cases h : digB c with
    | true =>
      have : step 7 c = 8 := by unfold step stepI; unfold digB at h; simp [h]
      rw [this, acc8]
      simp
    | false =>
      have : step 7 c = 9 := by unfold step stepI; unfold digB at h; simp [h]
      rw [this, acc9]
      simp

theorem acc6 (l : List UInt8) : acc 6 l = sint l := by
  cases l with
  | nil => rfl
  | cons c l =>
    rw [acc_cons]
    unfold sint
    cases h : sgnB c with
    | true =>
      have : step 6 c = 7 := by unfold step stepI; unfold sgnB at h; simp [h]
      rw [this, acc7, dropSign_yes h]
    | false =>
      have e : acc (step 6 c) l = acc 7 (c :: l) := by
        rw [acc_cons]
        congr 1
        unfold step stepI
        unfold sgnB at h
        simp [h]
      rw [e, acc7, dropSign_no h]

theorem acc5 (l : List UInt8) : acc 5 l = expOk (l.dropWhile digB) := by
  induction l with
  | nil => rfl
  | cons c l ih =>
    rw [acc_cons, List.dropWhile_cons]
    cases h : digB c with
    | true =>
      have : step 5 c = 5 := by unfold step stepI; unfold digB at h; simp [h]
      rw [this, ih, if_pos rfl]
    | false =>
      rw [if_neg (by simp), expOk_cons]
      cases h2 : exB c with
      | true =>
        have : step 5 c = 6 := by unfold step stepI; unfold digB at h; unfold exB at h2; simp [h, h2]
        rw [this, acc6, Bool.true_and]
      | false =>
        have : step 5 c = 9 := by unfold step stepI; unfold digB at h; unfold exB at h2; simp [h, h2]
        rw [this, acc9, Bool.false_and]

theorem acc3 (l : List UInt8) : acc 3 l = acc 5 l := by
  cases l with
  | nil => rfl
  | cons c l => rfl

theorem acc4 (l : List UInt8) : acc 4 l = ((l.takeWhile digB).length != 0 && expOk (l.dropWhile digB)) := by
  cases l with
  | nil => rfl
  | cons c l =>
    rw [acc_cons, List.dropWhile_cons, List.takeWhile_cons]
    cases h : digB c with
    | true =>
      have : step 4 c = 5 := by unfold step stepI; unfold digB at h; simp [h]
      rw [this, acc5, if_pos rfl, if_pos rfl]
      simp
    | false =>
      have : step 4 c = 9 := by unfold step stepI; unfold digB at h; simp [h]
      rw [this, acc9, if_neg (by simp), if_neg (by simp)]
      rfl

theorem acc2 (l : List UInt8) : acc 2 l = point (l.dropWhile digB) := by
  induction l with
  | nil => rfl
  | cons c l ih =>
    rw [acc_cons, List.dropWhile_cons]
    cases h : digB c with
    | true =>
      have : step 2 c = 2 := by unfold step stepI; unfold digB at h; simp [h]
      rw [this, ih, if_pos rfl]
    | false =>
      rw [if_neg (by simp)]
      cases h1 : dotB c with
      | true =>
        have : step 2 c = 3 := by unfold step stepI; unfold digB at h; unfold dotB at h1; simp [h, h1]
        rw [this, acc3, acc5, point_yes h1]
      | false =>
        rw [point_no h1, expOk_cons]
        cases h2 : exB c with
        | true =>
          have : step 2 c = 6 := by unfold step stepI; unfold digB at h; unfold dotB at h1; unfold exB at h2; simp [h, h1, h2]
          rw [this, acc6, Bool.true_and]
        | false =>
          have : step 2 c = 9 := by unfold step stepI; unfold digB at h; unfold dotB at h1; unfold exB at h2; simp [h, h1, h2]
          rw [this, acc9, Bool.false_and]

theorem acc1 (l : List UInt8) : acc 1 l = decR l := by
  cases l with
  | nil => rfl
  | cons c l =>
    rw [acc_cons]
    unfold decR
    rw [List.dropWhile_cons, List.takeWhile_cons]
    cases h : digB c with
    | true =>
      have : step 1 c = 2 := by unfold step stepI; unfold digB at h; simp [h]
      rw [this, acc2, if_pos rfl, if_pos rfl]
      unfold point
      cases l.dropWhile digB with
      | nil => simp
      | cons d r =>
        cases hd : dotB d with
        | true =>
          simp [hd]
        | false => simp [hd]
    | false =>
      rw [if_neg (by simp), if_neg (by simp)]
      cases h1 : dotB c with
      | true =>
        have : step 1 c = 4 := by unfold step stepI; unfold digB at h; unfold dotB at h1; simp [h, h1]
        rw [this, acc4]
        simp [h1]
      | false =>
        have : step 1 c = 9 := by unfold step stepI; unfold digB at h; unfold dotB at h1; simp [h, h1]
        rw [this, acc9]
        simp [h1]

theorem acc0_cons {c : UInt8} (h : sgnB c = false) (l : List UInt8) : acc 0 (c :: l) = acc 1 (c :: l) := by
  rw [acc_cons, acc_cons]
  congr 1
  unfold step stepI
  unfold sgnB at h
  simp [h]

theorem acc0 (l : List UInt8) : acc 0 l = decR (dropSign l) := by
  cases l with
  | nil => rfl
  | cons c l =>
    unfold dropSign
    cases h : sgnB c with
    | true =>
      have : step 0 c = 1 := by unfold step stepI; unfold sgnB at h; simp [h]
      rw [acc_cons, this, acc1]
      simp [h]
    | false =>
      rw [acc0_cons h, acc1]
      simp [h]

/-! ### The law on a sign in front -/
def signed (l : List UInt8) : Bool := match l with | [] => false | c :: _ => sgnB c

theorem sign_front {c : UInt8} (h : sgnB c = true) (l : List UInt8) : acc 0 (c :: l) = (acc 0 l && !signed l) := by
  have e : step 0 c = 1 := by unfold step stepI; unfold sgnB at h; simp [h]
  rw [acc_cons, e]
  cases l with
  | nil => rfl
  | cons d l =>
    unfold signed
    cases hd : sgnB d with
    | true =>
      have hx : dig (d.toNat : Int) = false ∧ ((d.toNat : Int) == 46) = false := by
        unfold sgnB at hd
        have := sgn_excl hd
        exact ⟨this.2.1, this.2.2⟩
      have : step 1 d = 9 := by unfold step stepI; simp [hx.1, hx.2]
      rw [acc_cons, this, acc9]
      simp [hd]
    | false =>
      rw [acc0_cons hd]
      simp [hd]

/-! ### The law on an exponent joined -/
def noExp (l : List UInt8) : Bool := l.all fun c => !exB c
def mant (l : List UInt8) : Bool := mid (run 0 l)

theorem step_ex {c : UInt8} (h : exB c = true) (st : Nat) : step st c = if mid st then 6 else 9 := by
  unfold exB at h
  obtain ⟨h1, h2, h3⟩ := ex_excl h
  unfold step
  match st with
  | 0 => simp [stepI, mid, h1, h2, h3]
  | 1 => simp [stepI, mid, h2, h3]
  | 2 => simp [stepI, mid, h, h2, h3]
  | 3 => simp [stepI, mid, h, h2]
  | 4 => simp [stepI, mid, h2]
  | 5 => simp [stepI, mid, h, h2]
  | 6 => simp [stepI, mid, h1, h2]
  | 7 => simp [stepI, mid, h2]
  | 8 => simp [stepI, mid, h2]
  | n + 9 => simp [stepI, mid]

theorem join_exp {c : UInt8} (h : exB c = true) (a b : List UInt8) : acc 0 (a ++ c :: b) = (mant a && sint b) := by
  unfold acc mant
  rw [run_append, run_cons, step_ex h]
  cases hm : mid (run 0 a) with
  | true => rw [if_pos rfl, Bool.true_and, ← acc6]; rfl
  | false => rw [if_neg (by simp), Bool.false_and]; exact acc9 b

theorem step_high (c : UInt8) (st : Nat) (h : 6 ≤ st) : 6 ≤ step st c := by
  unfold step
  match st, h with
  | 6, _ => cases h1 : sgn (c.toNat : Int) <;> cases h2 : dig (c.toNat : Int) <;> simp [stepI, h1, h2]
  | 7, _ => cases h2 : dig (c.toNat : Int) <;> simp [stepI, h2]
  | 8, _ => cases h2 : dig (c.toNat : Int) <;> simp [stepI, h2]
  | n + 9, _ => simp [stepI]

theorem run_high (l : List UInt8) (st : Nat) (h : 6 ≤ st) : 6 ≤ run st l := by
  induction l generalizing st with
  | nil => exact h
  | cons c l ih => rw [run_cons]; exact ih _ (step_high c st h)

theorem exp_high (l : List UInt8) (st : Nat) (h : noExp l = false) : 6 ≤ run st l := by
  induction l generalizing st with
  | nil => cases h
  | cons c l ih =>
    rw [run_cons]
    cases hc : exB c with
    | true =>
      refine run_high l _ ?_
      rw [step_ex hc]
      split <;> omega
    | false =>
      refine ih _ ?_
      unfold noExp at h ⊢
      rw [List.all_cons, hc] at h
      simpa using h

theorem step_low {c : UInt8} (hc : exB c = false) (st : Nat) (h : st ≤ 5 ∨ 9 ≤ st) : step st c ≤ 5 ∨ 9 ≤ step st c := by
  unfold exB at hc
  unfold step
  match st, h with
  | 0, _ => cases h1 : sgn (c.toNat : Int) <;> cases h2 : dig (c.toNat : Int) <;> cases h3 : ((c.toNat : Int) == 46) <;> simp [stepI, h1, h2, h3]
  | 1, _ => cases h2 : dig (c.toNat : Int) <;> cases h3 : ((c.toNat : Int) == 46) <;> simp [stepI, h2, h3]
  | 2, _ => cases h2 : dig (c.toNat : Int) <;> cases h3 : ((c.toNat : Int) == 46) <;> simp [stepI, hc, h2, h3]
  | 3, _ => cases h2 : dig (c.toNat : Int) <;> simp [stepI, hc, h2]
  | 4, _ => cases h2 : dig (c.toNat : Int) <;> simp [stepI, h2]
  | 5, _ => cases h2 : dig (c.toNat : Int) <;> simp [stepI, hc, h2]
  | n + 9, _ => simp [stepI]

theorem run_low (l : List UInt8) (st : Nat) (h : st ≤ 5 ∨ 9 ≤ st) (hn : noExp l = true) : run st l ≤ 5 ∨ 9 ≤ run st l := by
  induction l generalizing st with
  | nil => exact h
  | cons c l ih =>
    unfold noExp at hn
    rw [List.all_cons, Bool.and_eq_true] at hn
    rw [run_cons]
    exact ih _ (step_low (by simpa using hn.1) st h) hn.2

theorem mant_iff (a : List UInt8) : (acc 0 a && noExp a) = mant a := by
  unfold acc mant
  cases hn : noExp a with
  | true =>
    have h := run_low a 0 (by omega) hn
    generalize run 0 a = r at h
    unfold fin mid
    have : (r == 8) = false := beq_eq_false_iff_ne.2 (by omega)
    rw [this]
    simp
  | false =>
    have h := exp_high a 0 hn
    generalize run 0 a = r at h
    unfold mid
    have h2 : (r == 2) = false := beq_eq_false_iff_ne.2 (by omega)
    have h3 : (r == 3) = false := beq_eq_false_iff_ne.2 (by omega)
    have h5 : (r == 5) = false := beq_eq_false_iff_ne.2 (by omega)
    rw [h2, h3, h5]
    simp

end Go.Proofs.Qxb6619208a.Auto
