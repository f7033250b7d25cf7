/-
  WALKS: isBlank, zzBlank, the length guard of the law on symbols, ValidSymbol.
-/
import Derived.Test.Qxb6619201aProg
import Derived.Test.Qxb6619201aWords
import Derived.WalkKit
import Derived.WalkSpells
import Derived.WalkLawsBesides
namespace Go.Proofs.Qxb6619201a.Sym
open Go.RowKit Words

theorem ret_bool {a b : Bool} (h : a = b) : Ending.returned (.bool a) = .returned (.bool b) := by rw [h]

theorem blank_any (c : Int) (w : World) : Calls Try.prog 25 #[.int .u8 c] w fun e w' => e = .returned (.bool (bl c)) ∧ w' = w := by
  by_cases h : (c == 32) = true
  · go_enter Try.func25, Try.ntmps25
    go_wp2
    go_ret
    exact ⟨by simp [bl, h], rfl⟩
  · have h' : (c == 32) = false := by simpa using h
    go_enter Try.func25, Try.ntmps25
    go_wp2
    go_ret
    exact ⟨by simp [bl, h'], rfl⟩

theorem zblank_any (c : Int) (w : World) : Calls Try.prog 10 #[.int .u8 c] w fun e w' => e = .returned (.bool (bl c)) ∧ w' = w := by
  by_cases h : (c == 32) = true
  · go_enter Try.func10, Try.ntmps10
    go_wp2
    go_ret
    exact ⟨by simp [bl, h], rfl⟩
  · have h' : (c == 32) = false := by simpa using h
    go_enter Try.func10, Try.ntmps10
    go_wp2
    go_ret
    exact ⟨by simp [bl, h'], rfl⟩

theorem guard_any (s : ByteArray) (n : Int) (hs : s.size ≤ maxLen) (w : World) :
    Calls Try.prog 14 #[.string s, .int .u64 n] w fun e w' => e = .returned (.bool (decide (s.size ≤ 1048576))) ∧ w' = w := by
  unfold maxLen at hs
  by_cases h : s.size ≤ 1048576
  · have hd : decide (s.size ≤ 1048576) = true := by simpa using h
    have HD : Hid (decide (s.size ≤ 1048576) = true) := hd
    clear hd
    go_enter Try.func14, Try.ntmps14
    go_wp2
    go_ret
    exact ⟨ret_bool HD.out.symm, rfl⟩
  · have hd : decide (s.size ≤ 1048576) = false := by simpa using h
    have HD : Hid (decide (s.size ≤ 1048576) = false) := hd
    clear hd
    go_enter Try.func14, Try.ntmps14
    go_wp2
    go_ret
    exact ⟨ret_bool HD.out.symm, rfl⟩

/-- A byte that a symbol may hold. -/
def okI (c : Int) : Bool := (decide (65 ≤ c) && decide (c ≤ 90)) || (decide (97 ≤ c) && decide (c ≤ 122)) || (decide (48 ≤ c) && decide (c ≤ 57)) || c == 46 || c == 95 || c == 45
def allOk (l : List UInt8) : Bool := l.all fun c => okI (c.toNat : Int)
def vsym (l : List UInt8) : Bool := decide (1 ≤ l.length) && decide (l.length ≤ 16) && allOk l

theorem take_snoc (s : ByteArray) (k : Nat) (h : k < s.size) : s.data.toList.take (k + 1) = s.data.toList.take k ++ [s[k]] := by
  rw [List.take_succ_eq_append_getElem (by simpa using h)]; rfl

theorem allOk_snoc {s : ByteArray} {k : Nat} (h : k < s.size) (h1 : allOk (s.data.toList.take k) = true) (h2 : okI (s[k].toNat : Int) = true) : allOk (s.data.toList.take (k + 1)) = true := by
  rw [take_snoc s k h]
  unfold allOk at *
  rw [List.all_append, h1]
  simpa using h2

theorem allOk_not {s : ByteArray} {k : Nat} (h : k < s.size) (h2 : okI (s[k].toNat : Int) = false) : vsym s.data.toList = false := by
  unfold vsym allOk
  rw [Bool.and_eq_false_iff]
  right
  rw [List.all_eq_false]
  exact ⟨s[k], List.getElem_mem _, by simp [h2]⟩

theorem ok1 {c : Int} (h : (65 ≤ c ∧ c ≤ 90) ∨ (97 ≤ c ∧ c ≤ 122) ∨ (48 ≤ c ∧ c ≤ 57)) : okI c = true := by
  unfold okI
  simp only [Bool.or_eq_true, Bool.and_eq_true, decide_eq_true_eq, beq_iff_eq]
  omega
theorem ok4 {c : Int} (h : (c == 46) = true) : okI c = true := by simp [okI, h]
theorem ok5 {c : Int} (h : (c == 95) = true) : okI c = true := by simp [okI, h]
theorem ok6 {c : Int} (h : (c == 45) = true) : okI c = true := by simp [okI, h]
theorem okn {c : Int} (h4 : (c == 46) = false) (h5 : (c == 95) = false) (h6 : (c == 45) = false) (h : ¬ (65 ≤ c ∧ c ≤ 90) ∧ ¬ (97 ≤ c ∧ c ≤ 122) ∧ ¬ (48 ≤ c ∧ c ≤ 57)) : okI c = false := by
  unfold okI
  rw [h4, h5, h6, Bool.eq_false_iff]
  simp only [ne_eq, Bool.or_eq_true, Bool.and_eq_true, decide_eq_true_eq]
  simp
  omega

set_option maxHeartbeats 800000 in
theorem valid_any (s : ByteArray) (hs : s.size ≤ maxLen) (w : World) :
    Calls Try.prog 15 #[.string s] w fun e w' => e = .returned (.bool (vsym s.data.toList)) ∧ w' = w := by
  unfold maxLen at hs
  by_cases h0 : s.size = 0
  · have HV : Hid (vsym s.data.toList = false) := by
      have : s.data.toList.length = 0 := by simpa using h0
      simp [Hid, vsym, this]
    have h1 : ((s.size : Int) == 0) = true := by simp [h0]
    clear h0
    go_enter Try.func15, Try.ntmps15
    go_wp2
    go_ret
    exact ⟨ret_bool HV.out.symm, rfl⟩
  · have h1 : ((s.size : Int) == 0) = false := by simp [h0]
    have hp : 0 < s.size := by omega
    clear h0
    by_cases h16 : 16 < s.size
    · have HV : Hid (vsym s.data.toList = false) := by
        have : s.data.toList.length = s.size := by simp
        have h3 : ¬ s.size ≤ 16 := by omega
        simp [Hid, vsym, h3]
      go_enter Try.func15, Try.ntmps15
      go_wp2
      go_ret
      exact ⟨ret_bool HV.out.symm, rfl⟩
    · have h17 : s.size ≤ 16 := by omega
      clear h16
      have HL : Hid (vsym s.data.toList = allOk s.data.toList) := by
        have h3 : 1 ≤ s.size := by omega
        simp [Hid, vsym, h17, h3]
      go_enter Try.func15, Try.ntmps15
      go_wp2
      go_loop [3] (fun i => ∃ k : Nat, k ≤ s.size ∧ i = .int .i64 k ∧ Hid (allOk (s.data.toList.take k) = true)) (fun i => s.size - (intOf i).toNat)
      case atStart => exact ⟨0, Nat.zero_le _, rfl, rfl⟩
      case round =>
        obtain ⟨k, hk, rfl, ha⟩ := hrel
        by_cases hlt : k < s.size
        · go_wp2
          all_goals first
            | (have hok : okI (s[k].toNat : Int) = true := by
                first
                  | (refine ok4 ?_; assumption)
                  | (refine ok5 ?_; assumption)
                  | (refine ok6 ?_; assumption)
                  | (refine ok1 ?_; omega)
               have hR := allOk_snoc hlt ha.out hok
               go_round
               case rel => exact ⟨k + 1, by omega, by go_num, hR⟩
               case measure => simp [intOf]; omega)
            | (have hok : okI (s[k].toNat : Int) = false := okn (by assumption) (by assumption) (by assumption) (by omega)
               have hR := allOk_not hlt hok
               go_ret
               exact ⟨ret_bool hR.symm, rfl⟩)
        · go_wp2
          go_ret
          refine ⟨ret_bool ?_, rfl⟩
          rw [HL.out]
          have := ha.out
          rw [List.take_of_length_le (by simp; omega)] at this
          rw [this]

end Go.Proofs.Qxb6619201a.Sym
