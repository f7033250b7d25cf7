/-
  WALKS: dzIsDigit, skipDigits, ZZSkipDigits, dzRunEndOK, the length guards of the two laws on runs.
-/
import Derived.Test.Qxb6619208aProg
import Derived.Test.Qxb6619208aDigs
import Derived.WalkKit
import Derived.WalkSpells
import Derived.WalkLawsBesides
namespace Go.Proofs.Qxb6619208a.Skip
open Go.RowKit Digs

theorem ret_bool {a b : Bool} (h : a = b) : Ending.returned (.bool a) = .returned (.bool b) := by rw [h]
theorem ret_int {k : IntKind} {a b : Int} (h : a = b) : Ending.returned (.int k a) = .returned (.int k b) := by rw [h]
theorem size_list (s : ByteArray) : s.data.toList.length = s.size := by simp

/-- The run's end in a string. -/
def skS (s : ByteArray) (i : Nat) : Nat := sk s.data.toList i
def dgS (s : ByteArray) (i : Nat) : Bool := dg s.data.toList i

theorem dgS_at (s : ByteArray) (k : Nat) (h : k < s.size) : dgS s k = dig (s[k].toNat : Int) := by
  unfold dgS
  rw [dg_at (by rw [size_list]; exact h)]
  rfl
theorem dgS_end (s : ByteArray) (k : Nat) (h : s.size ≤ k) : dgS s k = false := dg_end _ _ (by rw [size_list]; exact h)
theorem dig_yes {c : Int} (h1 : 48 ≤ c) (h2 : c ≤ 57) : dig c = true := by simp [dig, h1, h2]
theorem dig_no {c : Int} (h : c < 48 ∨ 57 < c) : dig c = false := by
  unfold dig
  rw [Bool.and_eq_false_iff, decide_eq_false_iff_not, decide_eq_false_iff_not]
  omega

theorem digit_any (c : Int) (w : World) : Calls Try.prog 17 #[.int .u8 c] w fun e w' => e = .returned (.bool (dig c)) ∧ w' = w := by
  by_cases h : 48 ≤ c
  · go_enter Try.func17, Try.ntmps17
    go_wp2
    go_ret
    exact ⟨ret_bool (by simp [dig, h]), rfl⟩
  · have h' : c < 48 := by omega
    have hd : decide ((48 : Int) ≤ c) = false := decide_eq_false h
    clear h
    go_enter Try.func17, Try.ntmps17
    go_wp2
    go_ret
    exact ⟨ret_bool (by simp [dig]; omega), rfl⟩

set_option maxHeartbeats 400000 in
theorem skip_any (s : ByteArray) (i : Nat) (hs : s.size ≤ 4194304) (w : World) :
    Calls Try.prog 24 #[.string s, .int .i64 (i : Int)] w fun e w' => e = .returned (.int .i64 (skS s i : Int)) ∧ w' = w := by
  obtain ⟨r, hr⟩ : ∃ r, r = skS s i := ⟨_, rfl⟩
  rw [← hr]
  have HR : Hid (r = skS s i) := hr
  clear hr
  go_enter Try.func24, Try.ntmps24
  go_wp2
  go_loop [1] (fun v => ∃ k : Nat, v = .int .i64 k ∧ Hid (skS s k = r)) (fun v => s.size - (intOf v).toNat)
  case atStart => exact ⟨i, rfl, HR.out.symm⟩
  case round =>
    obtain ⟨k, rfl, hk⟩ := hrel
    by_cases hlt : k < s.size
    · by_cases h1 : 48 ≤ (s[k].toNat : Int)
      · by_cases h2 : (s[k].toNat : Int) ≤ 57
        · have hd : Hid (skS s (k + 1) = r) := by
            show skS s (k + 1) = r
            rw [← hk.out]
            exact (sk_yes ((dgS_at s k hlt).trans (dig_yes h1 h2))).symm
          go_wp2
          go_round
          case rel => exact ⟨k + 1, by go_num, hd⟩
          case measure => simp [intOf]; omega
        · have hd : Hid (k = r) := by
            show k = r
            rw [← hk.out]
            exact (sk_no ((dgS_at s k hlt).trans (dig_no (by omega)))).symm
          go_wp2
          go_ret
          exact ⟨ret_int (by rw [hd.out]), rfl⟩
      · have hd : Hid (k = r) := by
          show k = r
          rw [← hk.out]
          exact (sk_no ((dgS_at s k hlt).trans (dig_no (by omega)))).symm
        have t1 : decide ((48 : Int) ≤ (s[k].toNat : Int)) = false := decide_eq_false h1
        go_wp2
        go_ret
        exact ⟨ret_int (by rw [hd.out]), rfl⟩
    · have hd : Hid (k = r) := by
        show k = r
        rw [← hk.out]
        exact (sk_no (dgS_end s k (by omega))).symm
      go_wp2
      go_ret
      exact ⟨ret_int (by rw [hd.out]), rfl⟩

theorem zskip_any (s : ByteArray) (i : Nat) (hs : s.size ≤ 4194304) (w : World) :
    Calls Try.prog 19 #[.string s, .int .i64 (i : Int)] w fun e w' => e = .returned (.int .i64 (skS s i : Int)) ∧ w' = w := by
  go_enter Try.func19, Try.ntmps19
  go_wp2_with (go_at_call 24; refine (skip_any _ _ hs _).mono ?_; rintro e w' ⟨rfl, rfl⟩)
  go_ret
  exact ⟨rfl, rfl⟩

theorem guard21 (s : ByteArray) (i k : Int) (hs : s.size ≤ maxLen) (w : World) :
    Calls Try.prog 21 #[.string s, .int .i64 i, .int .i64 k] w fun e w' => e = .returned (.bool (decide (s.size ≤ 1048576))) ∧ w' = w := by
  unfold maxLen at hs
  by_cases h : s.size ≤ 1048576
  · have HD : Hid (decide (s.size ≤ 1048576) = true) := by simpa [Hid] using h
    go_enter Try.func21, Try.ntmps21
    go_wp2
    go_ret
    exact ⟨ret_bool HD.out.symm, rfl⟩
  · have HD : Hid (decide (s.size ≤ 1048576) = false) := by simpa [Hid] using h
    go_enter Try.func21, Try.ntmps21
    go_wp2
    go_ret
    exact ⟨ret_bool HD.out.symm, rfl⟩

theorem guard18 (a b : ByteArray) (i : Int) (ha : a.size ≤ maxLen) (hb : b.size ≤ maxLen) (w : World) :
    Calls Try.prog 18 #[.string a, .string b, .int .i64 i] w fun e w' => e = .returned (.bool (decide (a.size + b.size ≤ 1048576))) ∧ w' = w := by
  unfold maxLen at ha hb
  by_cases h : a.size + b.size ≤ 1048576
  · have HD : Hid (decide (a.size + b.size ≤ 1048576) = true) := by simpa [Hid] using h
    go_enter Try.func18, Try.ntmps18
    go_wp2
    go_ret
    exact ⟨ret_bool HD.out.symm, rfl⟩
  · have HD : Hid (decide (a.size + b.size ≤ 1048576) = false) := by simpa [Hid] using h
    go_enter Try.func18, Try.ntmps18
    go_wp2
    all_goals go_ret
    all_goals exact ⟨ret_bool HD.out.symm, rfl⟩

set_option maxHeartbeats 400000 in
/-- The run's end is said to be the run's end. -/
theorem runend (s : ByteArray) (i j : Nat) (hs : s.size ≤ 4194304) (hj : Hid (j = skS s i)) (w : World) :
    Calls Try.prog 20 #[.string s, .int .i64 (i : Int), .int .i64 (j : Int)] w fun e w' => e = .returned (.bool true) ∧ w' = w := by
  by_cases hi : s.size ≤ i
  · have he : j = i := by rw [hj.out]; exact sk_past _ _ (by rw [size_list]; exact hi)
    subst he
    clear hj
    go_enter Try.func20, Try.ntmps20
    go_wp2
    go_ret
    exact ⟨ret_bool (by simp), rfl⟩
  · have h1 : i ≤ j := by rw [hj.out]; exact sk_ge _ _
    have h2 : j ≤ s.size := by rw [hj.out, ← size_list]; exact sk_le _ _ (by rw [size_list]; omega)
    have hsp := sk_spec s.data.toList i
    have HS : Hid (∀ k, i ≤ k → k < j → dgS s k = true) := fun k a b => hsp.1 k a (by have := hj.out; unfold skS at this; omega)
    have HE : Hid (dgS s j = false) := by rw [hj.out]; exact hsp.2
    clear hsp hj
    have d1 : decide (j < i) = false := decide_eq_false (by omega)
    have d2 : decide (s.size < j) = false := decide_eq_false (by omega)
    go_enter Try.func20, Try.ntmps20
    go_wp2
    go_loop [7] (fun v => ∃ k : Nat, i ≤ k ∧ k ≤ j ∧ v = .int .i64 k) (fun v => j - (intOf v).toNat)
    case atStart => exact ⟨i, Nat.le_refl _, h1, rfl⟩
    case round =>
      obtain ⟨k, hk1, hk2, rfl⟩ := hrel
      by_cases hkj : k < j
      · have hks : k < s.size := by omega
        have hd : dig (s[k].toNat : Int) = true := by rw [← dgS_at s k hks]; exact HS.out k hk1 hkj
        go_wp2_with (go_at_call 17; refine (digit_any _ _).mono ?_; rintro e w' ⟨rfl, rfl⟩)
        go_round
        case rel => exact ⟨k + 1, by omega, by omega, by go_num⟩
        case measure => simp [intOf]; omega
      · by_cases hje : j = s.size
        · have t1 : ((j : Int) == (s.size : Int)) = true := by simp [hje]
          clear hje
          go_wp2
          go_ret
          exact ⟨ret_bool (by simp), rfl⟩
        · have t1 : ((j : Int) == (s.size : Int)) = false := beq_eq_false_iff_ne.2 (by omega)
          have hjs : j < s.size := by omega
          have hd : dig (s[j].toNat : Int) = false := by rw [← dgS_at s j hjs]; exact HE.out
          clear hje
          go_wp2_with (go_at_call 17; refine (digit_any _ _).mono ?_; rintro e w' ⟨rfl, rfl⟩)
          go_ret
          exact ⟨ret_bool (by simp), rfl⟩

end Go.Proofs.Qxb6619208a.Skip
