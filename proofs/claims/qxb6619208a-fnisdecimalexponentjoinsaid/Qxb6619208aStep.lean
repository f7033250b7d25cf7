/-
  WALKS: dzIsSign, dzStep, dzState, dzAccepts, dzMantissaOnly.
-/
import Derived.Test.Qxb6619208aSkip
import Derived.Test.Qxb6619208aIdx
namespace Go.Proofs.Qxb6619208a.Step
open Go.RowKit Digs Auto Idx Skip

theorem sign_any (c : Int) (w : World) : Calls Try.prog 10 #[.int .u8 c] w fun e w' => e = .returned (.bool (sgn c)) ∧ w' = w := by
  cases h : (c == 43) with
  | true =>
    go_enter Try.func10, Try.ntmps10
    go_wp2
    go_ret
    exact ⟨ret_bool (by simp [sgn, h]), rfl⟩
  | false =>
    go_enter Try.func10, Try.ntmps10
    go_wp2
    go_ret
    exact ⟨ret_bool (by simp [sgn, h]), rfl⟩

/-- A byte is a digit, a sign, an e, an E, a point, or none of these. -/
theorem kinds (c : Int) :
    (dig c = true ∧ sgn c = false ∧ (c == 101) = false ∧ (c == 69) = false ∧ (c == 46) = false) ∨
    (dig c = false ∧ sgn c = true ∧ (c == 101) = false ∧ (c == 69) = false ∧ (c == 46) = false) ∨
    (dig c = false ∧ sgn c = false ∧ (c == 101) = true ∧ (c == 69) = false ∧ (c == 46) = false) ∨
    (dig c = false ∧ sgn c = false ∧ (c == 101) = false ∧ (c == 69) = true ∧ (c == 46) = false) ∨
    (dig c = false ∧ sgn c = false ∧ (c == 101) = false ∧ (c == 69) = false ∧ (c == 46) = true) ∨
    (dig c = false ∧ sgn c = false ∧ (c == 101) = false ∧ (c == 69) = false ∧ (c == 46) = false) := by
  unfold dig sgn
  simp only [Bool.and_eq_true, Bool.and_eq_false_iff, Bool.or_eq_true, Bool.or_eq_false_iff, decide_eq_true_eq, decide_eq_false_iff_not, beq_iff_eq, beq_eq_false_iff_ne]
  omega

def code (st : Nat) : Int := if st = 9 then -1 else st

set_option maxHeartbeats 4000000 in
theorem step0 (c : Int) (w : World) : Calls Try.prog 26 #[.int .i64 0, .int .u8 c] w fun e w' => e = .returned (.int .i64 (code (stepI 0 c))) ∧ w' = w := by
  rcases kinds c with ⟨hd, hs, h1, h2, h3⟩ | ⟨hd, hs, h1, h2, h3⟩ | ⟨hd, hs, h1, h2, h3⟩ | ⟨hd, hs, h1, h2, h3⟩ | ⟨hd, hs, h1, h2, h3⟩ | ⟨hd, hs, h1, h2, h3⟩
  all_goals
    go_enter Try.func26, Try.ntmps26
    go_wp2_with (first | (go_at_call 17; refine (digit_any _ _).mono ?_; rintro e w' ⟨rfl, rfl⟩) | (go_at_call 10; refine (sign_any _ _).mono ?_; rintro e w' ⟨rfl, rfl⟩))
    go_ret
    exact ⟨ret_int (by simp [code, stepI, hd, hs, h3]), rfl⟩

set_option maxHeartbeats 4000000 in
theorem step1 (c : Int) (w : World) : Calls Try.prog 26 #[.int .i64 1, .int .u8 c] w fun e w' => e = .returned (.int .i64 (code (stepI 1 c))) ∧ w' = w := by
  rcases kinds c with ⟨hd, hs, h1, h2, h3⟩ | ⟨hd, hs, h1, h2, h3⟩ | ⟨hd, hs, h1, h2, h3⟩ | ⟨hd, hs, h1, h2, h3⟩ | ⟨hd, hs, h1, h2, h3⟩ | ⟨hd, hs, h1, h2, h3⟩
  all_goals
    go_enter Try.func26, Try.ntmps26
    go_wp2_with (first | (go_at_call 17; refine (digit_any _ _).mono ?_; rintro e w' ⟨rfl, rfl⟩) | (go_at_call 10; refine (sign_any _ _).mono ?_; rintro e w' ⟨rfl, rfl⟩))
    go_ret
    exact ⟨ret_int (by simp [code, stepI, hd, h3]), rfl⟩

set_option maxHeartbeats 4000000 in
theorem step2 (c : Int) (w : World) : Calls Try.prog 26 #[.int .i64 2, .int .u8 c] w fun e w' => e = .returned (.int .i64 (code (stepI 2 c))) ∧ w' = w := by
  rcases kinds c with ⟨hd, hs, h1, h2, h3⟩ | ⟨hd, hs, h1, h2, h3⟩ | ⟨hd, hs, h1, h2, h3⟩ | ⟨hd, hs, h1, h2, h3⟩ | ⟨hd, hs, h1, h2, h3⟩ | ⟨hd, hs, h1, h2, h3⟩
  all_goals
    go_enter Try.func26, Try.ntmps26
    go_wp2_with (first | (go_at_call 17; refine (digit_any _ _).mono ?_; rintro e w' ⟨rfl, rfl⟩) | (go_at_call 10; refine (sign_any _ _).mono ?_; rintro e w' ⟨rfl, rfl⟩))
    go_ret
    exact ⟨ret_int (by simp [code, stepI, ex, hd, h1, h2, h3]), rfl⟩

set_option maxHeartbeats 4000000 in
theorem step3 (c : Int) (w : World) : Calls Try.prog 26 #[.int .i64 3, .int .u8 c] w fun e w' => e = .returned (.int .i64 (code (stepI 3 c))) ∧ w' = w := by
  rcases kinds c with ⟨hd, hs, h1, h2, h3⟩ | ⟨hd, hs, h1, h2, h3⟩ | ⟨hd, hs, h1, h2, h3⟩ | ⟨hd, hs, h1, h2, h3⟩ | ⟨hd, hs, h1, h2, h3⟩ | ⟨hd, hs, h1, h2, h3⟩
  all_goals
    go_enter Try.func26, Try.ntmps26
    go_wp2_with (first | (go_at_call 17; refine (digit_any _ _).mono ?_; rintro e w' ⟨rfl, rfl⟩) | (go_at_call 10; refine (sign_any _ _).mono ?_; rintro e w' ⟨rfl, rfl⟩))
    go_ret
    exact ⟨ret_int (by simp [code, stepI, ex, hd, h1, h2]), rfl⟩

set_option maxHeartbeats 4000000 in
theorem step4 (c : Int) (w : World) : Calls Try.prog 26 #[.int .i64 4, .int .u8 c] w fun e w' => e = .returned (.int .i64 (code (stepI 4 c))) ∧ w' = w := by
  rcases kinds c with ⟨hd, hs, h1, h2, h3⟩ | ⟨hd, hs, h1, h2, h3⟩ | ⟨hd, hs, h1, h2, h3⟩ | ⟨hd, hs, h1, h2, h3⟩ | ⟨hd, hs, h1, h2, h3⟩ | ⟨hd, hs, h1, h2, h3⟩
  all_goals
    go_enter Try.func26, Try.ntmps26
    go_wp2_with (first | (go_at_call 17; refine (digit_any _ _).mono ?_; rintro e w' ⟨rfl, rfl⟩) | (go_at_call 10; refine (sign_any _ _).mono ?_; rintro e w' ⟨rfl, rfl⟩))
    go_ret
    exact ⟨ret_int (by simp [code, stepI, hd]), rfl⟩

set_option maxHeartbeats 4000000 in
theorem step5 (c : Int) (w : World) : Calls Try.prog 26 #[.int .i64 5, .int .u8 c] w fun e w' => e = .returned (.int .i64 (code (stepI 5 c))) ∧ w' = w := by
  rcases kinds c with ⟨hd, hs, h1, h2, h3⟩ | ⟨hd, hs, h1, h2, h3⟩ | ⟨hd, hs, h1, h2, h3⟩ | ⟨hd, hs, h1, h2, h3⟩ | ⟨hd, hs, h1, h2, h3⟩ | ⟨hd, hs, h1, h2, h3⟩
  all_goals
    go_enter Try.func26, Try.ntmps26
    go_wp2_with (first | (go_at_call 17; refine (digit_any _ _).mono ?_; rintro e w' ⟨rfl, rfl⟩) | (go_at_call 10; refine (sign_any _ _).mono ?_; rintro e w' ⟨rfl, rfl⟩))
    go_ret
    exact ⟨ret_int (by simp [code, stepI, ex, hd, h1, h2]), rfl⟩

set_option maxHeartbeats 4000000 in
theorem step6 (c : Int) (w : World) : Calls Try.prog 26 #[.int .i64 6, .int .u8 c] w fun e w' => e = .returned (.int .i64 (code (stepI 6 c))) ∧ w' = w := by
  rcases kinds c with ⟨hd, hs, h1, h2, h3⟩ | ⟨hd, hs, h1, h2, h3⟩ | ⟨hd, hs, h1, h2, h3⟩ | ⟨hd, hs, h1, h2, h3⟩ | ⟨hd, hs, h1, h2, h3⟩ | ⟨hd, hs, h1, h2, h3⟩
  all_goals
    go_enter Try.func26, Try.ntmps26
    go_wp2_with (first | (go_at_call 17; refine (digit_any _ _).mono ?_; rintro e w' ⟨rfl, rfl⟩) | (go_at_call 10; refine (sign_any _ _).mono ?_; rintro e w' ⟨rfl, rfl⟩))
    go_ret
    exact ⟨ret_int (by simp [code, stepI, hd, hs]), rfl⟩

set_option maxHeartbeats 4000000 in
theorem step7 (c : Int) (w : World) : Calls Try.prog 26 #[.int .i64 7, .int .u8 c] w fun e w' => e = .returned (.int .i64 (code (stepI 7 c))) ∧ w' = w := by
  rcases kinds c with ⟨hd, hs, h1, h2, h3⟩ | ⟨hd, hs, h1, h2, h3⟩ | ⟨hd, hs, h1, h2, h3⟩ | ⟨hd, hs, h1, h2, h3⟩ | ⟨hd, hs, h1, h2, h3⟩ | ⟨hd, hs, h1, h2, h3⟩
  all_goals
    go_enter Try.func26, Try.ntmps26
    go_wp2_with (first | (go_at_call 17; refine (digit_any _ _).mono ?_; rintro e w' ⟨rfl, rfl⟩) | (go_at_call 10; refine (sign_any _ _).mono ?_; rintro e w' ⟨rfl, rfl⟩))
    go_ret
    exact ⟨ret_int (by simp [code, stepI, hd]), rfl⟩

set_option maxHeartbeats 4000000 in
theorem step8 (c : Int) (w : World) : Calls Try.prog 26 #[.int .i64 8, .int .u8 c] w fun e w' => e = .returned (.int .i64 (code (stepI 8 c))) ∧ w' = w := by
  rcases kinds c with ⟨hd, hs, h1, h2, h3⟩ | ⟨hd, hs, h1, h2, h3⟩ | ⟨hd, hs, h1, h2, h3⟩ | ⟨hd, hs, h1, h2, h3⟩ | ⟨hd, hs, h1, h2, h3⟩ | ⟨hd, hs, h1, h2, h3⟩
  all_goals
    go_enter Try.func26, Try.ntmps26
    go_wp2_with (first | (go_at_call 17; refine (digit_any _ _).mono ?_; rintro e w' ⟨rfl, rfl⟩) | (go_at_call 10; refine (sign_any _ _).mono ?_; rintro e w' ⟨rfl, rfl⟩))
    go_ret
    exact ⟨ret_int (by simp [code, stepI, hd]), rfl⟩

theorem step_any (st : Nat) (h : st ≤ 8) (c : Int) (w : World) : Calls Try.prog 26 #[.int .i64 (st : Int), .int .u8 c] w fun e w' => e = .returned (.int .i64 (code (stepI st c))) ∧ w' = w := by
  match st, h with
  | 0, _ => exact step0 c w
  | 1, _ => exact step1 c w
  | 2, _ => exact step2 c w
  | 3, _ => exact step3 c w
  | 4, _ => exact step4 c w
  | 5, _ => exact step5 c w
  | 6, _ => exact step6 c w
  | 7, _ => exact step7 c w
  | 8, _ => exact step8 c w
  | n + 9, h => omega

theorem step_le (st : Nat) (c : Int) : stepI st c ≤ 9 := by
  unfold stepI
  cases sgn c <;> cases dig c <;> cases (c == 46) <;> cases ex c <;> split <;> decide

theorem step_dead (st : Nat) (h : st ≤ 8) (c : Int) (hn : stepI st c = 9) (w : World) : Calls Try.prog 26 #[.int .i64 (st : Int), .int .u8 c] w fun e w' => e = .returned (.int .i64 (-1)) ∧ w' = w :=
  (step_any st h c w).mono fun e w' ⟨h1, h2⟩ => ⟨by rw [h1, hn]; rfl, h2⟩
theorem step_live (st n : Nat) (h : st ≤ 8) (c : Int) (hn : stepI st c = n) (h8 : n ≤ 8) (w : World) : Calls Try.prog 26 #[.int .i64 (st : Int), .int .u8 c] w fun e w' => e = .returned (.int .i64 (n : Int)) ∧ w' = w :=
  (step_any st h c w).mono fun e w' ⟨h1, h2⟩ => ⟨by rw [h1, hn, code, if_neg (by omega)], h2⟩

theorem run9 (l : List UInt8) : run 9 l = 9 := by
  induction l with
  | nil => rfl
  | cons c l ih => rw [run_cons]; exact ih

/-- The state behind the whole string. -/
def runS (s : ByteArray) : Nat := run 0 s.data.toList

theorem run_snoc (s : ByteArray) (k : Nat) (h : k < s.size) : run 0 (s.data.toList.take (k + 1)) = stepI (run 0 (s.data.toList.take k)) (s[k].toNat : Int) := by
  rw [List.take_succ_eq_append_getElem (by rw [size_list]; exact h), run_append]
  rfl

theorem run_dead (s : ByteArray) (k : Nat) (h : run 0 (s.data.toList.take k) = 9) : runS s = 9 := by
  unfold runS
  rw [← List.take_append_drop k s.data.toList, run_append, h, run9]

theorem run_le (l : List UInt8) : run 0 l ≤ 9 := by
  have go : ∀ l st, st ≤ 9 → run st l ≤ 9 := by
    intro l
    induction l with
    | nil => exact fun st h => h
    | cons c l ih => exact fun st _ => ih _ (step_le st _)
  exact go l 0 (by omega)

set_option maxHeartbeats 400000 in
theorem state_any (s : ByteArray) (hs : s.size ≤ 4194304) (w : World) : Calls Try.prog 23 #[.string s] w fun e w' => e = .returned (.int .i64 (code (runS s))) ∧ w' = w := by
  obtain ⟨r, hr⟩ : ∃ r, r = code (runS s) := ⟨_, rfl⟩
  rw [← hr]
  have HR : Hid (r = code (runS s)) := hr
  clear hr
  go_enter Try.func23, Try.ntmps23
  go_wp2
  go_loop [3, 4] (fun sv v => ∃ k st : Nat, k ≤ s.size ∧ st ≤ 8 ∧ v = .int .i64 k ∧ sv = .int .i64 st ∧ Hid (st = run 0 (s.data.toList.take k))) (fun _ v => s.size - (intOf v).toNat)
  case atStart => exact ⟨0, 0, Nat.zero_le _, by omega, rfl, rfl, rfl⟩
  case round =>
    obtain ⟨k, st, hk, hst, rfl, rfl, hrun⟩ := hrel
    by_cases hlt : k < s.size
    · have hsn := run_snoc s k hlt
      rw [← hrun.out] at hsn
      obtain ⟨n, hn⟩ : ∃ n, n = stepI st (s[k].toNat : Int) := ⟨_, rfl⟩
      rw [← hn] at hsn
      have HN : Hid (stepI st (s[k].toNat : Int) = n) := hn.symm
      have HS : Hid (run 0 (s.data.toList.take (k + 1)) = n) := hsn
      have hle : n ≤ 9 := by rw [hn]; exact step_le _ _
      clear hn hsn
      by_cases h9 : n = 9
      · have H9 : Hid (n = 9) := h9
        clear h9
        go_wp2_with (go_at_call 26; refine (step_dead st hst _ (by rw [HN.out]; exact H9.out) _).mono ?_; rintro e w' ⟨rfl, rfl⟩)
        go_ret
        exact ⟨ret_int (by rw [HR.out, run_dead s (k + 1) (by rw [HS.out]; exact H9.out)]; rfl), rfl⟩
      · have h8 : n ≤ 8 := by omega
        clear h9 hle
        go_wp2_with (go_at_call 26; refine (step_live st n hst _ HN.out h8 _).mono ?_; rintro e w' ⟨rfl, rfl⟩)
        go_round
        case rel => exact ⟨k + 1, n, by omega, h8, by go_num, rfl, HS.out.symm⟩
        case measure => simp [intOf]; omega
    · have hf : Hid (runS s = st) := by
        have := hrun.out
        rw [List.take_of_length_le (by rw [size_list]; omega)] at this
        exact this.symm
      go_wp2
      go_ret
      exact ⟨ret_int (by rw [HR.out, hf.out, code, if_neg (by omega)]), rfl⟩

end Go.Proofs.Qxb6619208a.Step
