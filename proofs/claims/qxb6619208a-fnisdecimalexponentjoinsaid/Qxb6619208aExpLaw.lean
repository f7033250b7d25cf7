/-
  THE LAW ON AN EXPONENT JOINED, WALKED: FnIsDecimalExponentJoin.
-/
import Derived.Test.Qxb6619208aDecLaws
namespace Go.Proofs.Qxb6619208a.ExpLaw
open Go.RowKit Digs Auto Idx Skip Step DecW DecLaws

theorem mant_at (s : ByteArray) (b : Bool) (h : Hid (mantS s = b)) (hs : s.size ≤ 4194304) (w : World) : Calls Try.prog 13 #[.string s] w fun e w' => e = .returned (.bool b) ∧ w' = w := by
  rw [← h.out]
  exact mantissa_any s hs w
theorem sint_at (s : ByteArray) (b : Bool) (h : Hid (sintS s = b)) (hs : s.size ≤ 4194304) (w : World) : Calls Try.prog 14 #[.string s] w fun e w' => e = .returned (.bool b) ∧ w' = w := by
  rw [← h.out]
  exact sint_any s hs w
theorem noexp_at (s : ByteArray) (b : Bool) (h : Hid (noExpS s = b)) (hs : s.size ≤ 4194304) (w : World) : Calls Try.prog 15 #[.string s] w fun e w' => e = .returned (.bool b) ∧ w' = w := by
  rw [← h.out]
  exact noexp_any s hs w

theorem join_acc (c : UInt8) (h : exB c = true) (a b : ByteArray) : accS (a ++ ⟨#[c]⟩ ++ b) = (mantS a && sintS b) := by
  unfold accS mantS sintS
  have e : (a ++ ⟨#[c]⟩ ++ b).data.toList = a.data.toList ++ c :: b.data.toList := by simp
  rw [e]
  exact join_exp h _ _
theorem join_size (c : UInt8) (a b : ByteArray) : (a ++ ⟨#[c]⟩ ++ b).size = a.size + 1 + b.size := by
  rw [ByteArray.size_append, ByteArray.size_append]
  rfl

set_option maxHeartbeats 1000000 in
theorem join_main (a b : ByteArray) (ha : a.size ≤ 524288) (hb : b.size ≤ 524288) (w : World) : Calls Try.prog 4 #[.string a, .string b] w fun e w' => e = .returned (.bool true) ∧ w' = w := by
  have m0 : a.size ≤ maxLen := by unfold maxLen; omega
  have m1 : b.size ≤ maxLen := by unfold maxLen; omega
  have hd : decide (a.size + b.size ≤ 1048576) = true := by simp; omega
  have z1 : Hid ((a ++ ⟨#[101]⟩ ++ b).size ≤ 4194304) := by show (a ++ ⟨#[101]⟩ ++ b).size ≤ 4194304; rw [join_size]; omega
  have z2 : Hid ((a ++ ⟨#[69]⟩ ++ b).size ≤ 4194304) := by show (a ++ ⟨#[69]⟩ ++ b).size ≤ 4194304; rw [join_size]; omega
  have f1 := join_acc 101 (by decide) a b
  have f2 := join_acc 69 (by decide) a b
  have f3 : (accS a && noExpS a) = mantS a := mant_iff a.data.toList
  obtain ⟨sb, hsb⟩ : ∃ x, sintS b = x := ⟨_, rfl⟩
  have HS : Hid (sintS b = sb) := hsb
  rw [hsb] at f1 f2
  clear hsb
  cases hm : mantS a with
  | true =>
    rw [hm] at f1 f2 f3
    rw [Bool.and_eq_true] at f3
    have F1 : Hid (accS (a ++ ⟨#[101]⟩ ++ b) = sb) := by show accS _ = sb; rw [f1]; rfl
    have F2 : Hid (accS (a ++ ⟨#[69]⟩ ++ b) = sb) := by show accS _ = sb; rw [f2]; rfl
    have HA : Hid (accS a = true) := f3.1
    have HN : Hid (noExpS a = true) := f3.2
    have HM : Hid (mantS a = true) := hm
    clear f1 f2 f3 hm
    cases sb
    all_goals
      go_enter Try.func4, Try.ntmps4
      go_wp2_with fail
      refine (guard12 _ _ m0 m1 _).mono ?_
      rintro e w' ⟨rfl, rfl⟩
      go_wp2_with fail
      refine (mant_at _ _ HM (by omega) _).mono ?_
      rintro e w' ⟨rfl, rfl⟩
      go_wp2_with fail
      refine (sint_at _ _ HS (by omega) _).mono ?_
      rintro e w' ⟨rfl, rfl⟩
      go_wp2_with fail
      refine (zdec_at _ _ F1 z1.out _).mono ?_
      rintro e w' ⟨rfl, rfl⟩
      go_wp2_with fail
      refine (zdec_at _ _ F2 z2.out _).mono ?_
      rintro e w' ⟨rfl, rfl⟩
      go_wp2_with fail
      refine (zdec_at _ _ HA (by omega) _).mono ?_
      rintro e w' ⟨rfl, rfl⟩
      go_wp2_with fail
      refine (noexp_at _ _ HN (by omega) _).mono ?_
      rintro e w' ⟨rfl, rfl⟩
      go_wp2_with fail
      refine (sint_at _ _ HS (by omega) _).mono ?_
      rintro e w' ⟨rfl, rfl⟩
      go_wp2
      go_ret
      exact ⟨rfl, rfl⟩
  | false =>
    rw [hm] at f1 f2 f3
    have F1 : Hid (accS (a ++ ⟨#[101]⟩ ++ b) = false) := by show accS _ = false; rw [f1]; rfl
    have F2 : Hid (accS (a ++ ⟨#[69]⟩ ++ b) = false) := by show accS _ = false; rw [f2]; rfl
    have HM : Hid (mantS a = false) := hm
    cases hA : accS a with
    | false =>
      have HA : Hid (accS a = false) := hA
      clear f1 f2 f3 hm hA
      go_enter Try.func4, Try.ntmps4
      go_wp2_with fail
      refine (guard12 _ _ m0 m1 _).mono ?_
      rintro e w' ⟨rfl, rfl⟩
      go_wp2_with fail
      refine (mant_at _ _ HM (by omega) _).mono ?_
      rintro e w' ⟨rfl, rfl⟩
      go_wp2_with fail
      refine (zdec_at _ _ F1 z1.out _).mono ?_
      rintro e w' ⟨rfl, rfl⟩
      go_wp2_with fail
      refine (zdec_at _ _ F2 z2.out _).mono ?_
      rintro e w' ⟨rfl, rfl⟩
      go_wp2_with fail
      refine (zdec_at _ _ HA (by omega) _).mono ?_
      rintro e w' ⟨rfl, rfl⟩
      go_wp2
      go_ret
      exact ⟨rfl, rfl⟩
    | true =>
      rw [hA, Bool.true_and] at f3
      have HA : Hid (accS a = true) := hA
      have HN : Hid (noExpS a = false) := f3
      clear f1 f2 f3 hm hA
      go_enter Try.func4, Try.ntmps4
      go_wp2_with fail
      refine (guard12 _ _ m0 m1 _).mono ?_
      rintro e w' ⟨rfl, rfl⟩
      go_wp2_with fail
      refine (mant_at _ _ HM (by omega) _).mono ?_
      rintro e w' ⟨rfl, rfl⟩
      go_wp2_with fail
      refine (zdec_at _ _ F1 z1.out _).mono ?_
      rintro e w' ⟨rfl, rfl⟩
      go_wp2_with fail
      refine (zdec_at _ _ F2 z2.out _).mono ?_
      rintro e w' ⟨rfl, rfl⟩
      go_wp2_with fail
      refine (zdec_at _ _ HA (by omega) _).mono ?_
      rintro e w' ⟨rfl, rfl⟩
      go_wp2_with fail
      refine (noexp_at _ _ HN (by omega) _).mono ?_
      rintro e w' ⟨rfl, rfl⟩
      go_wp2
      go_ret
      exact ⟨rfl, rfl⟩

/-- What the law lets by without looking. -/
theorem join_by (a b : ByteArray) (ha : a.size ≤ maxLen) (hb : b.size ≤ maxLen) (hby : 524288 < a.size ∨ 524288 < b.size) (w : World) :
    Calls Try.prog 4 #[.string a, .string b] w fun e w' => e = .returned (.bool true) ∧ w' = w := by
  have n0 := ha
  have n1 := hb
  unfold maxLen at n0 n1
  by_cases h : a.size + b.size ≤ 1048576
  · have hd : decide (a.size + b.size ≤ 1048576) = true := by simpa using h
    rcases (show 524288 < a.size ∨ (a.size ≤ 524288 ∧ 524288 < b.size) by omega) with h | ⟨h, h'⟩
    all_goals
      go_enter Try.func4, Try.ntmps4
      go_wp2_with (go_at_call 12; refine (guard12 _ _ ha hb _).mono ?_; rintro e w' ⟨rfl, rfl⟩)
      go_ret
      exact ⟨rfl, rfl⟩
  · have hd : decide (a.size + b.size ≤ 1048576) = false := by simpa using h
    go_enter Try.func4, Try.ntmps4
    go_wp2_with (go_at_call 12; refine (guard12 _ _ ha hb _).mono ?_; rintro e w' ⟨rfl, rfl⟩)
    go_ret
    exact ⟨rfl, rfl⟩

end Go.Proofs.Qxb6619208a.ExpLaw
