/-
  THE TWO LAWS ON RUNS OF DIGITS, WALKED: FnSkipDigitsLanding, FnSkipDigitsJoin.
-/
import Derived.Test.Qxb6619208aSkip
namespace Go.Proofs.Qxb6619208a.SkipLaws
open Go.RowKit Digs Skip

theorem zskip_at (s : ByteArray) (i j : Nat) (hj : Hid (j = skS s i)) (hs : s.size ≤ 4194304) (w : World) :
    Calls Try.prog 19 #[.string s, .int .i64 (i : Int)] w fun e w' => e = .returned (.int .i64 (j : Int)) ∧ w' = w := by
  rw [hj.out]
  exact zskip_any s i hs w

set_option maxHeartbeats 400000 in
theorem landing (s : ByteArray) (i k : Int) (hs : s.size ≤ maxLen) (w : World) :
    Calls Try.prog 7 #[.string s, .int .i64 i, .int .i64 k] w fun e w' => e = .returned (.bool true) ∧ w' = w := by
  have n0 := hs
  unfold maxLen at n0
  by_cases hbig : s.size ≤ 1048576
  · have hd : decide (s.size ≤ 1048576) = true := by simpa using hbig
    by_cases hi : i < 0
    · go_enter Try.func7, Try.ntmps7
      go_wp2_with (go_at_call 21; refine (guard21 _ _ _ hs _).mono ?_; rintro e w' ⟨rfl, rfl⟩)
      go_ret
      exact ⟨rfl, rfl⟩
    · by_cases hk : k < i
      · have hi' : decide (i < 0) = false := decide_eq_false hi
        go_enter Try.func7, Try.ntmps7
        go_wp2_with (go_at_call 21; refine (guard21 _ _ _ hs _).mono ?_; rintro e w' ⟨rfl, rfl⟩)
        go_ret
        exact ⟨rfl, rfl⟩
      · obtain ⟨i, rfl⟩ := Int.eq_ofNat_of_zero_le (show 0 ≤ i by omega)
        obtain ⟨k, rfl⟩ := Int.eq_ofNat_of_zero_le (show 0 ≤ k by omega)
        have hik : i ≤ k := by omega
        clear hi hk
        obtain ⟨j, hj⟩ : ∃ j, j = skS s i := ⟨_, rfl⟩
        obtain ⟨q, hq⟩ : ∃ q, q = skS s k := ⟨_, rfl⟩
        have HJ : Hid (j = skS s i) := hj
        have HQ : Hid (q = skS s k) := hq
        have hjq : j ≤ q := by rw [hj, hq]; exact land_mono hik
        have hkq : k ≤ q := by rw [hq]; exact sk_ge _ _
        have hin : k ≤ j → q = j := fun h => by rw [hq, hj]; rw [hj] at h; exact land_in hik h
        have d1 : decide (k < i) = false := decide_eq_false (by omega)
        clear hj hq
        by_cases hkj : k ≤ j
        · have he := hin hkj
          subst he
          clear hin
          go_enter Try.func7, Try.ntmps7
          go_wp2_with fail
          refine (guard21 _ _ _ hs _).mono ?_
          rintro e w' ⟨rfl, rfl⟩
          go_wp2_with fail
          refine (zskip_at s i q HJ (by omega) _).mono ?_
          rintro e w' ⟨rfl, rfl⟩
          go_wp2_with fail
          refine (zskip_at s k q HQ (by omega) _).mono ?_
          rintro e w' ⟨rfl, rfl⟩
          go_wp2_with fail
          refine (runend s i q (by omega) HJ _).mono ?_
          rintro e w' ⟨rfl, rfl⟩
          go_wp2
          go_ret
          exact ⟨rfl, rfl⟩
        · clear hin
          go_enter Try.func7, Try.ntmps7
          go_wp2_with fail
          refine (guard21 _ _ _ hs _).mono ?_
          rintro e w' ⟨rfl, rfl⟩
          go_wp2_with fail
          refine (zskip_at s i j HJ (by omega) _).mono ?_
          rintro e w' ⟨rfl, rfl⟩
          go_wp2_with fail
          refine (zskip_at s k q HQ (by omega) _).mono ?_
          rintro e w' ⟨rfl, rfl⟩
          go_wp2_with fail
          refine (runend s i j (by omega) HJ _).mono ?_
          rintro e w' ⟨rfl, rfl⟩
          go_wp2
          go_ret
          exact ⟨rfl, rfl⟩
  · have hd : decide (s.size ≤ 1048576) = false := by simpa using hbig
    go_enter Try.func7, Try.ntmps7
    go_wp2_with (go_at_call 21; refine (guard21 _ _ _ hs _).mono ?_; rintro e w' ⟨rfl, rfl⟩)
    go_ret
    exact ⟨rfl, rfl⟩

theorem app_list (a b : ByteArray) : (a ++ b).data.toList = a.data.toList ++ b.data.toList := by simp
theorem app_size (a b : ByteArray) : (a ++ b).size = a.size + b.size := ByteArray.size_append

theorem skS_in {a b : ByteArray} {i : Nat} (h : skS a i < a.size) : skS (a ++ b) i = skS a i := by
  unfold skS at *
  rw [app_list]
  exact join_in (by rw [size_list]; exact h)
theorem skS_on {a b : ByteArray} {i : Nat} (hi : i ≤ a.size) (h : ¬ skS a i < a.size) : skS (a ++ b) i = a.size + skS b 0 := by
  unfold skS at *
  rw [app_list, ← size_list a]
  exact join_on (by rw [size_list]; exact hi) (by rw [size_list]; exact h)
theorem skS_past {a b : ByteArray} {i : Nat} (hi : a.size ≤ i) : skS (a ++ b) i = a.size + skS b (i - a.size) := by
  unfold skS
  rw [app_list, ← size_list a]
  exact join_past (by rw [size_list]; exact hi)

set_option maxHeartbeats 400000 in
theorem join_main (a b : ByteArray) (i : Nat) (ha : a.size ≤ 524288) (hb : b.size ≤ 524288) (w : World) :
    Calls Try.prog 6 #[.string a, .string b, .int .i64 (i : Int)] w fun e w' => e = .returned (.bool true) ∧ w' = w := by
  have m0 : a.size ≤ maxLen := by unfold maxLen; omega
  have m1 : b.size ≤ maxLen := by unfold maxLen; omega
  have hd : decide (a.size + b.size ≤ 1048576) = true := by simp; omega
  have hab : Hid ((a ++ b).size ≤ 4194304) := by show (a ++ b).size ≤ 4194304; rw [app_size]; omega
  obtain ⟨j, hj⟩ : ∃ j, j = skS (a ++ b) i := ⟨_, rfl⟩
  have HJ : Hid (j = skS (a ++ b) i) := hj
  by_cases h1 : i ≤ a.size
  · obtain ⟨q, hq⟩ : ∃ q, q = skS a i := ⟨_, rfl⟩
    have HQ : Hid (q = skS a i) := hq
    by_cases h2 : q < a.size
    · have he : j = q := by rw [hj, hq]; exact skS_in (by rw [← hq]; exact h2)
      subst he
      clear hj hq
      go_enter Try.func6, Try.ntmps6
      go_wp2_with fail
      refine (guard18 _ _ _ m0 m1 _).mono ?_
      rintro e w' ⟨rfl, rfl⟩
      go_wp2_with fail
      refine (zskip_at _ i j HJ hab.out _).mono ?_
      rintro e w' ⟨rfl, rfl⟩
      go_wp2_with fail
      refine (zskip_at _ i j HQ (by omega) _).mono ?_
      rintro e w' ⟨rfl, rfl⟩
      go_wp2_with fail
      refine (runend _ i j hab.out HJ _).mono ?_
      rintro e w' ⟨rfl, rfl⟩
      go_wp2
      go_ret
      exact ⟨rfl, rfl⟩
    · obtain ⟨r, hr⟩ : ∃ r, r = skS b 0 := ⟨_, rfl⟩
      have HR : Hid (r = skS b 0) := hr
      have he : j = a.size + r := by rw [hj, hr]; exact skS_on h1 (by rw [← hq]; exact h2)
      have hr1 : r ≤ b.size := by rw [hr, ← size_list]; exact sk_le _ _ (Nat.zero_le _)
      have t1 : ((j : Int) == (a.size : Int) + (r : Int)) = true := by rw [he]; simp
      clear hj hq hr he
      go_enter Try.func6, Try.ntmps6
      go_wp2_with fail
      refine (guard18 _ _ _ m0 m1 _).mono ?_
      rintro e w' ⟨rfl, rfl⟩
      go_wp2_with fail
      refine (zskip_at _ i j HJ hab.out _).mono ?_
      rintro e w' ⟨rfl, rfl⟩
      go_wp2_with fail
      refine (zskip_at _ i q HQ (by omega) _).mono ?_
      rintro e w' ⟨rfl, rfl⟩
      go_wp2_with fail
      refine (zskip_at _ 0 r HR (by omega) _).mono ?_
      rintro e w' ⟨rfl, rfl⟩
      go_wp2_with fail
      refine (runend _ i j hab.out HJ _).mono ?_
      rintro e w' ⟨rfl, rfl⟩
      go_wp2
      go_ret
      exact ⟨rfl, rfl⟩
  · by_cases h2 : i ≤ a.size + b.size
    · obtain ⟨d, hdd⟩ : ∃ d, d = i - a.size := ⟨_, rfl⟩
      obtain ⟨r, hr⟩ : ∃ r, r = skS b d := ⟨_, rfl⟩
      have HR : Hid (r = skS b d) := hr
      have he : j = a.size + r := by rw [hj, hr, hdd]; exact skS_past (by omega)
      have hr1 : r ≤ b.size := by rw [hr, ← size_list]; exact sk_le _ _ (by rw [size_list]; omega)
      have t1 : ((j : Int) == (a.size : Int) + (r : Int)) = true := by rw [he]; simp
      have t2 : (i : Int) - (a.size : Int) = (d : Int) := by omega
      clear hj hr he hdd
      go_enter Try.func6, Try.ntmps6
      go_wp2_with fail
      refine (guard18 _ _ _ m0 m1 _).mono ?_
      rintro e w' ⟨rfl, rfl⟩
      go_wp2_with fail
      refine (zskip_at _ i j HJ hab.out _).mono ?_
      rintro e w' ⟨rfl, rfl⟩
      go_wp2_with fail
      refine (zskip_at _ d r HR (by omega) _).mono ?_
      rintro e w' ⟨rfl, rfl⟩
      go_wp2_with fail
      refine (runend _ i j hab.out HJ _).mono ?_
      rintro e w' ⟨rfl, rfl⟩
      go_wp2
      go_ret
      exact ⟨rfl, rfl⟩
    · clear hj
      go_enter Try.func6, Try.ntmps6
      go_wp2_with fail
      refine (guard18 _ _ _ m0 m1 _).mono ?_
      rintro e w' ⟨rfl, rfl⟩
      go_wp2_with fail
      refine (zskip_at _ i j HJ hab.out _).mono ?_
      rintro e w' ⟨rfl, rfl⟩
      go_wp2_with fail
      refine (runend _ i j hab.out HJ _).mono ?_
      rintro e w' ⟨rfl, rfl⟩
      go_wp2
      go_ret
      exact ⟨rfl, rfl⟩

/-- What the law lets by without looking. -/
theorem join_by (a b : ByteArray) (i : Int) (ha : a.size ≤ maxLen) (hb : b.size ≤ maxLen) (hby : 524288 < a.size ∨ 524288 < b.size ∨ i < 0) (w : World) :
    Calls Try.prog 6 #[.string a, .string b, .int .i64 i] w fun e w' => e = .returned (.bool true) ∧ w' = w := by
  have n0 := ha
  have n1 := hb
  unfold maxLen at n0 n1
  by_cases h : a.size + b.size ≤ 1048576
  · have hd : decide (a.size + b.size ≤ 1048576) = true := by simpa using h
    rcases (show 524288 < a.size ∨ (a.size ≤ 524288 ∧ 524288 < b.size) ∨ (a.size ≤ 524288 ∧ b.size ≤ 524288 ∧ i < 0) by omega) with h | ⟨h, h'⟩ | ⟨h, h', h''⟩
    all_goals
      go_enter Try.func6, Try.ntmps6
      go_wp2_with (go_at_call 18; refine (guard18 _ _ _ ha hb _).mono ?_; rintro e w' ⟨rfl, rfl⟩)
      go_ret
      exact ⟨rfl, rfl⟩
  · have hd : decide (a.size + b.size ≤ 1048576) = false := by simpa using h
    go_enter Try.func6, Try.ntmps6
    go_wp2_with (go_at_call 18; refine (guard18 _ _ _ ha hb _).mono ?_; rintro e w' ⟨rfl, rfl⟩)
    go_ret
    exact ⟨rfl, rfl⟩

end Go.Proofs.Qxb6619208a.SkipLaws
