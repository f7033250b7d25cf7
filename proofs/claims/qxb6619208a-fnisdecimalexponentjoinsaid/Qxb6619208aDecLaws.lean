/-
  THE TWO LAWS ON DECIMALS, WALKED: FnIsDecimalSignPrefix, FnIsDecimalExponentJoin; and the law's own helpers dzAccepts, dzMantissaOnly, dzSignedInt, dzNoExp.
-/
import Derived.Test.Qxb6619208aDecW
namespace Go.Proofs.Qxb6619208a.DecLaws
open Go.RowKit Digs Auto Idx Skip Step DecW

theorem fin_code (r : Nat) : fin r = (code r == 2 || code r == 3 || code r == 5 || code r == 8) := by
  unfold fin code
  by_cases h : r = 9
  · subst h; rfl
  · rw [if_neg h, Bool.eq_iff_iff]
    simp only [Bool.or_eq_true, beq_iff_eq]
    omega
theorem mid_code (r : Nat) : mid r = (code r == 2 || code r == 3 || code r == 5) := by
  unfold mid code
  by_cases h : r = 9
  · subst h; rfl
  · rw [if_neg h, Bool.eq_iff_iff]
    simp only [Bool.or_eq_true, beq_iff_eq]
    omega

theorem state_at (s : ByteArray) (v : Int) (hv : Hid (v = code (runS s))) (hs : s.size ≤ 4194304) (w : World) : Calls Try.prog 23 #[.string s] w fun e w' => e = .returned (.int .i64 v) ∧ w' = w := by
  rw [hv.out]
  exact state_any s hs w

theorem accepts_any (s : ByteArray) (hs : s.size ≤ 4194304) (w : World) : Calls Try.prog 11 #[.string s] w fun e w' => e = .returned (.bool (accS s)) ∧ w' = w := by
  obtain ⟨v, hv⟩ : ∃ v, v = code (runS s) := ⟨_, rfl⟩
  have HV : Hid (v = code (runS s)) := hv
  have HA : Hid (accS s = (v == 2 || v == 3 || v == 5 || v == 8)) := by rw [hv]; exact fin_code (runS s)
  clear hv
  cases h2 : (v == 2) with
  | true =>
    go_enter Try.func11, Try.ntmps11
    go_wp2_with (go_at_call 23; refine (state_at _ v HV hs _).mono ?_; rintro e w' ⟨rfl, rfl⟩)
    go_ret
    exact ⟨ret_bool (by rw [HA.out, h2]; rfl), rfl⟩
  | false =>
    cases h3 : (v == 3) with
    | true =>
      go_enter Try.func11, Try.ntmps11
      go_wp2_with (go_at_call 23; refine (state_at _ v HV hs _).mono ?_; rintro e w' ⟨rfl, rfl⟩)
      go_ret
      exact ⟨ret_bool (by rw [HA.out, h2, h3]; rfl), rfl⟩
    | false =>
      cases h5 : (v == 5) with
      | true =>
        go_enter Try.func11, Try.ntmps11
        go_wp2_with (go_at_call 23; refine (state_at _ v HV hs _).mono ?_; rintro e w' ⟨rfl, rfl⟩)
        go_ret
        exact ⟨ret_bool (by rw [HA.out, h2, h3, h5]; rfl), rfl⟩
      | false =>
        go_enter Try.func11, Try.ntmps11
        go_wp2_with (go_at_call 23; refine (state_at _ v HV hs _).mono ?_; rintro e w' ⟨rfl, rfl⟩)
        go_ret
        exact ⟨ret_bool (by rw [HA.out, h2, h3, h5]; rfl), rfl⟩

def mantS (s : ByteArray) : Bool := mant s.data.toList

theorem mantissa_any (s : ByteArray) (hs : s.size ≤ 4194304) (w : World) : Calls Try.prog 13 #[.string s] w fun e w' => e = .returned (.bool (mantS s)) ∧ w' = w := by
  obtain ⟨v, hv⟩ : ∃ v, v = code (runS s) := ⟨_, rfl⟩
  have HV : Hid (v = code (runS s)) := hv
  have HA : Hid (mantS s = (v == 2 || v == 3 || v == 5)) := by rw [hv]; exact mid_code (runS s)
  clear hv
  cases h2 : (v == 2) with
  | true =>
    go_enter Try.func13, Try.ntmps13
    go_wp2_with (go_at_call 23; refine (state_at _ v HV hs _).mono ?_; rintro e w' ⟨rfl, rfl⟩)
    go_ret
    exact ⟨ret_bool (by rw [HA.out, h2]; rfl), rfl⟩
  | false =>
    cases h3 : (v == 3) with
    | true =>
      go_enter Try.func13, Try.ntmps13
      go_wp2_with (go_at_call 23; refine (state_at _ v HV hs _).mono ?_; rintro e w' ⟨rfl, rfl⟩)
      go_ret
      exact ⟨ret_bool (by rw [HA.out, h2, h3]; rfl), rfl⟩
    | false =>
      go_enter Try.func13, Try.ntmps13
      go_wp2_with (go_at_call 23; refine (state_at _ v HV hs _).mono ?_; rintro e w' ⟨rfl, rfl⟩)
      go_ret
      exact ⟨ret_bool (by rw [HA.out, h2, h3]; rfl), rfl⟩

/-! ### An optional sign, then digits to the end -/
def sintS (s : ByteArray) : Bool := sint s.data.toList

theorem sint_idx (s : ByteArray) {p q : Nat} (hp : p = sgS s 0) (hq : q = skS s p) : sintS s = ((q != p) && (q == s.size)) := by
  unfold sintS sint
  have e1 : dropSign s.data.toList = s.data.toList.drop p := by rw [hp]; unfold sgS; rw [drop_sg]; rfl
  have hb := sg_le hp (Nat.zero_le _)
  have e2 := len_sk s.data.toList p
  have hge := sk_bd hq hb.2
  have e3 : sk s.data.toList p = q := hq.symm
  rw [e3] at e2
  rw [e1, all_tw, ← e2, List.length_drop, size_list]
  congr 1
  · rw [Bool.eq_iff_iff]; simp only [bne_iff_ne]; omega
  · rw [Bool.eq_iff_iff]; simp only [beq_iff_eq]; omega

theorem sint_bad {s : ByteArray} {p k : Nat} (hp : p = sgS s 0) (hpk : p ≤ k) (hk : k < s.size) (hall : ∀ q, p ≤ q → q < k → dgS s q = true) (hd : dgS s k = false) : sintS s = false := by
  have hq : k = skS s p := (sk_unique hpk hall hd).symm
  rw [sint_idx s hp hq]
  have : (k == s.size) = false := beq_eq_false_iff_ne.2 (by omega)
  rw [this, Bool.and_false]

theorem sint_good {s : ByteArray} {p : Nat} (hp : p = sgS s 0) (hlt : p < s.size) (hall : ∀ q, p ≤ q → q < s.size → dgS s q = true) : sintS s = true := by
  have hq : s.size = skS s p := (sk_unique (by omega) hall (dgS_end s _ (Nat.le_refl _))).symm
  rw [sint_idx s hp hq]
  have : (s.size != p) = true := bne_iff_ne.2 (by omega)
  rw [this]
  simp

theorem sint_none {s : ByteArray} {p : Nat} (hp : p = sgS s 0) (hge : s.size ≤ p) : sintS s = false := by
  have hq : p = skS s p := (sk_no (dgS_end s p hge)).symm
  rw [sint_idx s hp hq]
  simp

set_option maxHeartbeats 1000000 in
theorem sint_any (s : ByteArray) (hs : s.size ≤ 4194304) (w : World) : Calls Try.prog 14 #[.string s] w fun e w' => e = .returned (.bool (sintS s)) ∧ w' = w := by
  obtain ⟨r, hr⟩ : ∃ r, r = sintS s := ⟨_, rfl⟩
  rw [← hr]
  have HR : Hid (r = sintS s) := hr
  clear hr
  by_cases h0 : 0 < s.size
  · have hne : decide (s = ByteArray.empty) = false := decide_eq_false (fun e => by subst e; exact absurd h0 (by decide))
    cases hsg : sgn (s[0].toNat : Int) with
    | true =>
      have hp : Hid (1 = sgS s 0) := (sg_yes (l := s.data.toList) (i := 0) (by rw [size_list]; exact h0) hsg).symm
      by_cases h1 : 1 < s.size
      · have d1 : decide (s.size ≤ 1) = false := decide_eq_false (by omega)
        go_enter Try.func14, Try.ntmps14
        go_wp2_with (go_at_call 10; refine (sign_any _ _).mono ?_; rintro e w' ⟨rfl, rfl⟩)
        go_loop [3] (fun v => ∃ k : Nat, 1 ≤ k ∧ k ≤ s.size ∧ v = .int .i64 k ∧ Hid (∀ q, 1 ≤ q → q < k → dgS s q = true)) (fun v => s.size - (intOf v).toNat)
        case atStart => exact ⟨1, Nat.le_refl _, by omega, rfl, fun q a b => by omega⟩
        case round =>
          obtain ⟨k, hk1, hk2, rfl, hall⟩ := hrel
          by_cases hks : k < s.size
          · cases hd : dig (s[k].toNat : Int) with
            | true =>
              have hd' : Hid (dgS s k = true) := by rw [Hid, dgS_at s k hks, hd]
              go_wp2_with (go_at_call 17; refine (digit_any _ _).mono ?_; rintro e w' ⟨rfl, rfl⟩)
              go_round
              case rel => exact ⟨k + 1, by omega, by omega, by go_num, fun q a b => by
                    by_cases e : q = k
                    · rw [e]; exact hd'.out
                    · exact hall.out q a (by omega)⟩
              case measure => simp [intOf]; omega
            | false =>
              have hd' : Hid (dgS s k = false) := by rw [Hid, dgS_at s k hks, hd]
              go_wp2_with (go_at_call 17; refine (digit_any _ _).mono ?_; rintro e w' ⟨rfl, rfl⟩)
              go_ret
              exact ⟨ret_bool (by rw [HR.out, sint_bad hp.out hk1 hks hall.out hd'.out]), rfl⟩
          · go_wp2
            go_ret
            exact ⟨ret_bool (by rw [HR.out, sint_good hp.out h1 (fun q a b => hall.out q a (by omega))]), rfl⟩
      · go_enter Try.func14, Try.ntmps14
        go_wp2_with (go_at_call 10; refine (sign_any _ _).mono ?_; rintro e w' ⟨rfl, rfl⟩)
        go_ret
        exact ⟨ret_bool (by rw [HR.out, sint_none hp.out (by omega)]), rfl⟩
    | false =>
      have hp : Hid (0 = sgS s 0) := (sg_no (l := s.data.toList) (i := 0) (fun _ => hsg)).symm
      go_enter Try.func14, Try.ntmps14
      go_wp2_with (go_at_call 10; refine (sign_any _ _).mono ?_; rintro e w' ⟨rfl, rfl⟩)
      go_loop [3] (fun v => ∃ k : Nat, k ≤ s.size ∧ v = .int .i64 k ∧ Hid (∀ q, 0 ≤ q → q < k → dgS s q = true)) (fun v => s.size - (intOf v).toNat)
      case atStart => exact ⟨0, Nat.zero_le _, rfl, fun q a b => by omega⟩
      case round =>
        obtain ⟨k, hk2, rfl, hall⟩ := hrel
        by_cases hks : k < s.size
        · cases hd : dig (s[k].toNat : Int) with
          | true =>
            have hd' : Hid (dgS s k = true) := by rw [Hid, dgS_at s k hks, hd]
            go_wp2_with (go_at_call 17; refine (digit_any _ _).mono ?_; rintro e w' ⟨rfl, rfl⟩)
            go_round
            case rel => exact ⟨k + 1, by omega, by go_num, fun q a b => by
                  by_cases e : q = k
                  · rw [e]; exact hd'.out
                  · exact hall.out q a (by omega)⟩
            case measure => simp [intOf]; omega
          | false =>
            have hd' : Hid (dgS s k = false) := by rw [Hid, dgS_at s k hks, hd]
            go_wp2_with (go_at_call 17; refine (digit_any _ _).mono ?_; rintro e w' ⟨rfl, rfl⟩)
            go_ret
            exact ⟨ret_bool (by rw [HR.out, sint_bad hp.out (Nat.zero_le _) hks hall.out hd'.out]), rfl⟩
        · go_wp2
          go_ret
          exact ⟨ret_bool (by rw [HR.out, sint_good hp.out h0 (fun q a b => hall.out q a (by omega))]), rfl⟩
  · have hp : Hid (0 = sgS s 0) := (sg_no (l := s.data.toList) (i := 0) (fun h => by rw [size_list] at h; omega)).symm
    have d0 : decide (0 < s.size) = false := decide_eq_false h0
    have he : decide (s = ByteArray.empty) = true := decide_eq_true (ByteArray.size_eq_zero_iff.1 (by omega))
    go_enter Try.func14, Try.ntmps14
    go_wp2
    all_goals go_ret
    all_goals exact ⟨ret_bool (by rw [HR.out, sint_none hp.out (by omega)]), rfl⟩

/-! ### No e, no E -/
def noExpS (s : ByteArray) : Bool := noExp s.data.toList

theorem noexp_bad {s : ByteArray} {k : Nat} (hk : k < s.size) (h : ex (s[k].toNat : Int) = true) : noExpS s = false := by
  unfold noExpS noExp
  rw [List.all_eq_false]
  exact ⟨s[k], List.getElem_mem _, by simp [exB, h]⟩
theorem noexp_good {s : ByteArray} (h : ∀ k (hk : k < s.size), ex (s[k].toNat : Int) = false) : noExpS s = true := by
  unfold noExpS noExp
  rw [List.all_eq_true]
  intro c hc
  obtain ⟨q, hq, rfl⟩ := List.getElem_of_mem hc
  rw [size_list] at hq
  have := h q hq
  simp [exB]
  exact this

set_option maxHeartbeats 400000 in
theorem noexp_any (s : ByteArray) (hs : s.size ≤ 4194304) (w : World) : Calls Try.prog 15 #[.string s] w fun e w' => e = .returned (.bool (noExpS s)) ∧ w' = w := by
  obtain ⟨r, hr⟩ : ∃ r, r = noExpS s := ⟨_, rfl⟩
  rw [← hr]
  have HR : Hid (r = noExpS s) := hr
  clear hr
  go_enter Try.func15, Try.ntmps15
  go_wp2
  go_loop [3] (fun v => ∃ k : Nat, k ≤ s.size ∧ v = .int .i64 k ∧ Hid (∀ q (hq : q < s.size), q < k → ex (s[q].toNat : Int) = false)) (fun v => s.size - (intOf v).toNat)
  case atStart => exact ⟨0, Nat.zero_le _, rfl, fun q _ b => by omega⟩
  case round =>
    obtain ⟨k, hk, rfl, hall⟩ := hrel
    by_cases hks : k < s.size
    · cases h1 : ((s[k].toNat : Int) == 101) with
      | true =>
        go_wp2
        go_ret
        exact ⟨ret_bool (by rw [HR.out, noexp_bad hks (by simp [ex, h1])]), rfl⟩
      | false =>
        cases h2 : ((s[k].toNat : Int) == 69) with
        | true =>
          go_wp2
          go_ret
          exact ⟨ret_bool (by rw [HR.out, noexp_bad hks (by simp [ex, h2])]), rfl⟩
        | false =>
          have hx : Hid (ex (s[k].toNat : Int) = false) := by simp [Hid, ex, h1, h2]
          go_wp2
          go_round
          case rel => exact ⟨k + 1, by omega, by go_num, fun q hq b => by
                by_cases e : q = k
                · subst e; exact hx.out
                · exact hall.out q hq (by omega)⟩
          case measure => simp [intOf]; omega
    · go_wp2
      go_ret
      exact ⟨ret_bool (by rw [HR.out, noexp_good (fun q hq => hall.out q hq (by omega))]), rfl⟩

/-! ### The guards -/
theorem guard8 (s : ByteArray) (hs : s.size ≤ maxLen) (w : World) : Calls Try.prog 8 #[.string s] w fun e w' => e = .returned (.bool (decide (s.size ≤ 1048576))) ∧ w' = w := by
  unfold maxLen at hs
  by_cases h : s.size ≤ 1048576
  · have HD : Hid (decide (s.size ≤ 1048576) = true) := by simpa [Hid] using h
    go_enter Try.func8, Try.ntmps8
    go_wp2
    go_ret
    exact ⟨ret_bool HD.out.symm, rfl⟩
  · have HD : Hid (decide (s.size ≤ 1048576) = false) := by simpa [Hid] using h
    go_enter Try.func8, Try.ntmps8
    go_wp2
    go_ret
    exact ⟨ret_bool HD.out.symm, rfl⟩

theorem guard12 (a b : ByteArray) (ha : a.size ≤ maxLen) (hb : b.size ≤ maxLen) (w : World) :
    Calls Try.prog 12 #[.string a, .string b] w fun e w' => e = .returned (.bool (decide (a.size + b.size ≤ 1048576))) ∧ w' = w := by
  unfold maxLen at ha hb
  by_cases h : a.size + b.size ≤ 1048576
  · have HD : Hid (decide (a.size + b.size ≤ 1048576) = true) := by simpa [Hid] using h
    go_enter Try.func12, Try.ntmps12
    go_wp2
    go_ret
    exact ⟨ret_bool HD.out.symm, rfl⟩
  · have HD : Hid (decide (a.size + b.size ≤ 1048576) = false) := by simpa [Hid] using h
    go_enter Try.func12, Try.ntmps12
    go_wp2
    all_goals go_ret
    all_goals exact ⟨ret_bool HD.out.symm, rfl⟩

/-! ### The law on a sign in front -/
theorem zdec_at (s : ByteArray) (b : Bool) (h : Hid (accS s = b)) (hs : s.size ≤ 4194304) (w : World) : Calls Try.prog 9 #[.string s] w fun e w' => e = .returned (.bool b) ∧ w' = w := by
  rw [← h.out]
  exact zdec_any s hs w
theorem accepts_at (s : ByteArray) (b : Bool) (h : Hid (accS s = b)) (hs : s.size ≤ 4194304) (w : World) : Calls Try.prog 11 #[.string s] w fun e w' => e = .returned (.bool b) ∧ w' = w := by
  rw [← h.out]
  exact accepts_any s hs w

theorem front_list (c : UInt8) (s : ByteArray) : ((⟨#[c]⟩ : ByteArray) ++ s).data.toList = c :: s.data.toList := by simp
theorem front_acc (c : UInt8) (h : sgnB c = true) (s : ByteArray) : accS (⟨#[c]⟩ ++ s) = (accS s && !signed s.data.toList) := by
  unfold accS
  rw [front_list]
  exact sign_front h _
theorem front_size (c : UInt8) (s : ByteArray) : ((⟨#[c]⟩ : ByteArray) ++ s).size = 1 + s.size := ByteArray.size_append

theorem signed_at {s : ByteArray} (h : 0 < s.size) : signed s.data.toList = sgn (s[0].toNat : Int) := by
  have h' : 0 < s.data.toList.length := by rw [size_list]; exact h
  have e : s.data.toList = s[0] :: s.data.toList.drop 1 := by
    conv => lhs; rw [← List.drop_zero (l := s.data.toList), List.drop_eq_getElem_cons h']
    rfl
  rw [e]
  rfl
theorem signed_none {s : ByteArray} (h : ¬ 0 < s.size) : signed s.data.toList = false := by
  have e : s.data.toList = [] := List.eq_nil_of_length_eq_zero (by rw [size_list]; omega)
  rw [e]
  rfl

set_option maxHeartbeats 1000000 in
theorem prefix_any (s : ByteArray) (hs : s.size ≤ maxLen) (w : World) : Calls Try.prog 3 #[.string s] w fun e w' => e = .returned (.bool true) ∧ w' = w := by
  have n0 := hs
  unfold maxLen at n0
  by_cases hbig : s.size ≤ 1048576
  · have hd : decide (s.size ≤ 1048576) = true := by simpa using hbig
    obtain ⟨g, hg⟩ : ∃ g, accS s = g := ⟨_, rfl⟩
    have HG : Hid (accS s = g) := hg
    have z1 : Hid (((⟨#[45]⟩ : ByteArray) ++ s).size ≤ 4194304) := by show ((⟨#[45]⟩ : ByteArray) ++ s).size ≤ 4194304; rw [front_size]; omega
    have z2 : Hid (((⟨#[43]⟩ : ByteArray) ++ s).size ≤ 4194304) := by show ((⟨#[43]⟩ : ByteArray) ++ s).size ≤ 4194304; rw [front_size]; omega
    have f1 := front_acc 45 (by decide) s
    have f2 := front_acc 43 (by decide) s
    rw [hg] at f1 f2
    clear hg
    by_cases h0 : 0 < s.size
    · rw [signed_at h0] at f1 f2
      cases hsg : sgn (s[0].toNat : Int) with
      | true =>
        rw [hsg] at f1 f2
        have F1 : Hid (accS (⟨#[45]⟩ ++ s) = false) := by show accS _ = false; rw [f1]; simp
        have F2 : Hid (accS (⟨#[43]⟩ ++ s) = false) := by show accS _ = false; rw [f2]; simp
        clear f1 f2
        cases g
        all_goals
          go_enter Try.func3, Try.ntmps3
          go_wp2_with fail
          refine (guard8 _ hs _).mono ?_
          rintro e w' ⟨rfl, rfl⟩
          go_wp2_with fail
          refine (zdec_at _ _ HG (by omega) _).mono ?_
          rintro e w' ⟨rfl, rfl⟩
          go_wp2_with fail
          refine (zdec_at _ _ F1 z1.out _).mono ?_
          rintro e w' ⟨rfl, rfl⟩
          go_wp2_with fail
          refine (zdec_at _ _ F2 z2.out _).mono ?_
          rintro e w' ⟨rfl, rfl⟩
          go_wp2_with fail
          refine (sign_any _ _).mono ?_
          rintro e w' ⟨rfl, rfl⟩
          go_wp2_with fail
          refine (accepts_at _ _ HG (by omega) _).mono ?_
          rintro e w' ⟨rfl, rfl⟩
          go_wp2
          go_ret
          exact ⟨rfl, rfl⟩
      | false =>
        rw [hsg] at f1 f2
        have F1 : Hid (accS (⟨#[45]⟩ ++ s) = g) := by show accS _ = g; rw [f1]; simp
        have F2 : Hid (accS (⟨#[43]⟩ ++ s) = g) := by show accS _ = g; rw [f2]; simp
        clear f1 f2
        cases g
        all_goals
          go_enter Try.func3, Try.ntmps3
          go_wp2_with fail
          refine (guard8 _ hs _).mono ?_
          rintro e w' ⟨rfl, rfl⟩
          go_wp2_with fail
          refine (zdec_at _ _ HG (by omega) _).mono ?_
          rintro e w' ⟨rfl, rfl⟩
          go_wp2_with fail
          refine (zdec_at _ _ F1 z1.out _).mono ?_
          rintro e w' ⟨rfl, rfl⟩
          go_wp2_with fail
          refine (zdec_at _ _ F2 z2.out _).mono ?_
          rintro e w' ⟨rfl, rfl⟩
          go_wp2_with fail
          refine (sign_any _ _).mono ?_
          rintro e w' ⟨rfl, rfl⟩
          go_wp2_with fail
          refine (accepts_at _ _ HG (by omega) _).mono ?_
          rintro e w' ⟨rfl, rfl⟩
          go_wp2
          go_ret
          exact ⟨rfl, rfl⟩
    · rw [signed_none h0] at f1 f2
      have F1 : Hid (accS (⟨#[45]⟩ ++ s) = g) := by show accS _ = g; rw [f1]; simp
      have F2 : Hid (accS (⟨#[43]⟩ ++ s) = g) := by show accS _ = g; rw [f2]; simp
      have d0 : decide (0 < s.size) = false := decide_eq_false h0
      clear f1 f2
      cases g
      all_goals
        go_enter Try.func3, Try.ntmps3
        go_wp2_with fail
        refine (guard8 _ hs _).mono ?_
        rintro e w' ⟨rfl, rfl⟩
        go_wp2_with fail
        refine (zdec_at _ _ HG (by omega) _).mono ?_
        rintro e w' ⟨rfl, rfl⟩
        go_wp2_with fail
        refine (zdec_at _ _ F1 z1.out _).mono ?_
        rintro e w' ⟨rfl, rfl⟩
        go_wp2_with fail
        refine (zdec_at _ _ F2 z2.out _).mono ?_
        rintro e w' ⟨rfl, rfl⟩
        go_wp2_with fail
        refine (accepts_at _ _ HG (by omega) _).mono ?_
        rintro e w' ⟨rfl, rfl⟩
        go_wp2
        go_ret
        exact ⟨rfl, rfl⟩
  · have hd : decide (s.size ≤ 1048576) = false := by simpa using hbig
    go_enter Try.func3, Try.ntmps3
    go_wp2_with (go_at_call 8; refine (guard8 _ hs _).mono ?_; rintro e w' ⟨rfl, rfl⟩)
    go_ret
    exact ⟨rfl, rfl⟩

end Go.Proofs.Qxb6619208a.DecLaws
