/-
  THE LAW ON SYMBOLS, WALKED: FnValidSymbolBytewiseAndNumerals.
-/
import Derived.Test.Qxb6619201aSplit
import Derived.Test.Qxb6619201aDec
namespace Go.Proofs.Qxb6619201a.SymLaw
open Go.RowKit Words Sym Split Dec

def lenB (n : Nat) : Bool := decide (1 ≤ n) && decide (n ≤ 16)

theorem vsym_eq (s : ByteArray) : vsym s.data.toList = (lenB s.size && allOk s.data.toList) := by
  simp [vsym, lenB]

theorem extract_one (s : ByteArray) (k : Nat) (h : k < s.size) : (s.extract k (k + 1)).data.toList = [s[k]] := by
  rw [ByteArray.data_extract, Array.toList_extract, List.extract_eq_take_drop, show k + 1 - k = 1 from by omega, List.take_one, List.head?_drop, List.getElem?_eq_getElem (by simpa using h)]
  rfl

theorem vsym_one (s : ByteArray) (k : Nat) (h : k < s.size) : vsym (s.extract k (k + 1)).data.toList = okI (s[k].toNat : Int) := by
  rw [extract_one s k h]
  simp [vsym, allOk]

theorem nb_ok (s : ByteArray) (h : allOk s.data.toList = true) (k : Nat) (hk : k < s.size) : nb s.data.toList k = true := by
  rw [nb_at s k hk]
  unfold allOk at h
  rw [List.all_eq_true] at h
  have h1 := h s[k] (List.getElem_mem _)
  generalize (s[k].toNat : Int) = c at h1
  unfold okI at h1
  unfold bl
  simp only [Bool.or_eq_true, Bool.and_eq_true, decide_eq_true_eq, beq_iff_eq] at h1
  simp only [Bool.not_eq_true', Bool.or_eq_false_iff, beq_eq_false_iff_ne]
  omega

theorem wds_sym (s : ByteArray) (h : vsym s.data.toList = true) : wds s s.size = [s] := by
  rw [vsym_eq, Bool.and_eq_true, lenB, Bool.and_eq_true, decide_eq_true_eq] at h
  obtain ⟨⟨h1, _⟩, h2⟩ := h
  rw [wds_word (edge_zero _) (show 0 < s.size by omega) (fun k _ hk => nb_ok s h2 k hk) (nb_end _ _ (by simp)), wds_zero, List.nil_append]
  congr 1
  apply ByteArray.ext
  rw [ByteArray.data_extract]
  simp

theorem dec_law (d : ByteArray) (h1 : 1 ≤ d.size) (h : ∀ c ∈ d.data.toList, 48 ≤ c.toNat ∧ c.toNat ≤ 57) : vsym d.data.toList = decide ((d.size : Int) ≤ 16) := by
  have ha : allOk d.data.toList = true := by
    unfold allOk
    rw [List.all_eq_true]
    intro c hc
    have := h c hc
    exact ok1 (by omega)
  rw [vsym_eq, ha, lenB, Bool.and_true, decide_eq_true h1, Bool.true_and]
  congr 1
  rw [eq_iff_iff]
  omega

theorem valid_at (s : ByteArray) (hs : s.size ≤ maxLen) (b : Bool) (h : Hid (vsym s.data.toList = b)) (w : World) :
    Calls Try.prog 15 #[.string s] w fun e w' => e = .returned (.bool b) ∧ w' = w :=
  (valid_any s hs w).mono fun e w' ⟨h1, h2⟩ => ⟨by rw [h1, h.out], h2⟩

set_option maxHeartbeats 1000000 in
theorem walk_big (s : ByteArray) (n : Int) (hs : s.size ≤ maxLen) (hbig : 65536 < s.size) (w : World) :
    Calls Try.prog 5 #[.string s, .int .u64 n] w fun e w' => e = .returned (.bool true) ∧ Below w.heap.size w w' := by
  have hs' := hs
  unfold maxLen at hs'
  by_cases h : s.size ≤ 1048576
  · have hd : decide (s.size ≤ 1048576) = true := by simpa using h
    go_enter Try.func5, Try.ntmps5
    go_wp2_with (go_at_call 14; refine (guard_any _ _ hs _).mono ?_; rintro e w' ⟨rfl, rfl⟩)
    go_ret
    exact ⟨rfl, Below.refl _ _⟩
  · have hd : decide (s.size ≤ 1048576) = false := by simpa using h
    go_enter Try.func5, Try.ntmps5
    go_wp2_with (go_at_call 14; refine (guard_any _ _ hs _).mono ?_; rintro e w' ⟨rfl, rfl⟩)
    go_ret
    exact ⟨rfl, Below.refl _ _⟩

theorem each_yes {s : ByteArray} {k : Nat} {b e0 : Bool} (hk : k < s.size) (hb : b = (e0 && allOk (s.data.toList.take k))) (hok : okI (s[k].toNat : Int) = true) : b = (e0 && allOk (s.data.toList.take (k + 1))) := by
  rw [take_snoc s k hk, hb]
  congr 1
  unfold allOk
  rw [List.all_append]
  simp [hok]

theorem each_no {s : ByteArray} {k : Nat} {e0 : Bool} (hk : k < s.size) (hok : okI (s[k].toNat : Int) = false) : false = (e0 && allOk (s.data.toList.take (k + 1))) := by
  rw [take_snoc s k hk]
  unfold allOk
  rw [List.all_append]
  simp [hok]

theorem start_eq (n : Nat) (l : List UInt8) (b : Bool) (h : b = true ↔ 1 ≤ n ∧ n ≤ 16) : b = (lenB n && allOk (l.take 0)) := by
  rw [Bool.eq_iff_iff, h]
  simp [lenB, allOk]

set_option maxHeartbeats 1000000 in
theorem walk_not (s : ByteArray) (n : Nat) (hn : n < 18446744073709551616) (hs : s.size ≤ 65536) (hv : Hid (vsym s.data.toList = false)) (w : World) :
    Calls Try.prog 5 #[.string s, .int .u64 (n : Int)] w fun e w' => e = .returned (.bool true) ∧ Below w.heap.size w w' := by
  have hm : s.size ≤ maxLen := by unfold maxLen; omega
  have hd : decide (s.size ≤ 1048576) = true := by simp; omega
  have hE := vsym_eq s
  rw [hv.out] at hE
  have HE : Hid (false = (lenB s.size && allOk s.data.toList)) := hE
  clear hE
  rcases (show s.size = 0 ∨ (1 ≤ s.size ∧ s.size ≤ 16) ∨ 16 < s.size by omega) with h0 | ⟨h0, h1⟩ | h0
  all_goals
    have HL : Hid (lenB s.size = (decide (1 ≤ s.size) && decide (s.size ≤ 16))) := rfl
    go_enter Try.func5, Try.ntmps5
    go_wp2_with (first | (go_at_call 14; refine (guard_any _ _ hm _).mono ?_; rintro e w' ⟨rfl, rfl⟩) | (go_at_call 15; refine (valid_at _ hm _ hv _).mono ?_; rintro e w' ⟨rfl, rfl⟩))
    go_loop [6, 7] (fun e i => ∃ (k : Nat) (b : Bool), k ≤ s.size ∧ i = .int .i64 k ∧ e = .bool b ∧ Hid (b = (lenB s.size && allOk (s.data.toList.take k)))) (fun _ i => s.size - (intOf i).toNat)
    case atStart => exact ⟨0, _, Nat.zero_le _, rfl, rfl, start_eq s.size _ _ (by simp <;> omega)⟩
    case round =>
      obtain ⟨k, b, hk, rfl, rfl, hb⟩ := hrel
      by_cases hlt : k < s.size
      · have hm1 : (s.extract k (k + 1)).size ≤ maxLen := by
          unfold maxLen
          simp only [ByteArray.size_extract]
          omega
        cases hok : okI (s[k].toNat : Int) with
        | true =>
          have hv1 : Hid (vsym (s.extract k (k + 1)).data.toList = okI (s[k].toNat : Int)) := vsym_one s k hlt
          rw [hok] at hv1
          have hok' : Hid (okI (s[k].toNat : Int) = true) := hok
          clear hok
          go_wp2_with (go_at_call 15; refine (valid_at _ hm1 _ hv1 _).mono ?_; rintro e w' ⟨rfl, rfl⟩)
          all_goals
            go_round
            case rel => exact ⟨k + 1, b, by omega, by go_num, rfl, each_yes hlt hb.out hok'.out⟩
            case measure => simp [intOf]; omega
        | false =>
          have hv1 : Hid (vsym (s.extract k (k + 1)).data.toList = okI (s[k].toNat : Int)) := vsym_one s k hlt
          rw [hok] at hv1
          have hok' : Hid (okI (s[k].toNat : Int) = false) := hok
          clear hok
          go_wp2_with (go_at_call 15; refine (valid_at _ hm1 _ hv1 _).mono ?_; rintro e w' ⟨rfl, rfl⟩)
          all_goals
            go_round
            case rel => exact ⟨k + 1, false, by omega, by go_num, rfl, each_no hlt hok'.out⟩
            case measure => simp [intOf]; omega
      · have eb : b = false := by
          have := hb.out
          rw [List.take_of_length_le (by simp; omega)] at this
          rw [this, ← HE.out]
        subst eb
        go_wp2_with fail
        refine (dec_any n hn _).mono ?_
        rintro e w1 ⟨d, rfl, hd1, hd2, hd3, hbel⟩
        have hmd : d.size ≤ maxLen := by unfold maxLen; omega
        have hlaw : Hid (vsym d.data.toList = decide ((d.size : Int) ≤ 16)) := dec_law d hd1 hd3
        clear hd3 HE HL hb
        go_wp2_with (go_at_call 15; refine (valid_at _ hmd _ hlaw _).mono ?_; rintro e w' ⟨rfl, rfl⟩)
        go_ret
        exact ⟨ret_bool (by simp), hbel⟩

theorem make_one (w : World) : (Instr.makeSlice 22 (.int .i64 1) (.int .i64 1)).run Try.prog w = .ok (.slice (some ⟨w.heap.size, 0, none⟩) 1 1) (w.alloc (.cells #[.string ByteArray.empty] 9)) := by kernel_rfl

theorem below_of_grown {w w1 w2 : World} {r : Option Nat} (h : Below w.heap.size w w1) (hg : w1.grownBy w2 r) (hr : ∀ k, r = some k → w.heap.size ≤ k) : Below w.heap.size w w2 :=
  h.grown hg h.size hr

/-- A symbol, split into a new row of one word: it is that word. -/
theorem split_sym (s : ByteArray) (hs : s.size ≤ 65536) (hv : Hid (vsym s.data.toList = true)) (w : World) :
    Calls Try.prog 11 #[.string s, .slice (some ⟨w.heap.size, 0, none⟩) 1 1] (w.alloc (.cells #[.string ByteArray.empty] 9)) fun e w' =>
      e = .returned (.tuple #[.slice (some ⟨w.heap.size, 0, none⟩) 1 1, .int .i64 1]) ∧ w'.cell? ⟨w.heap.size, 0, none⟩ = some (.string s) ∧ Below w.heap.size w w' := by
  have hown : (w.alloc (.cells #[.string ByteArray.empty] 9)).ownsRow w.heap.size 9 1 (.slice (some ⟨w.heap.size, 0, none⟩) 1 1) 1 ([ByteArray.empty].map Value.string) :=
    World.ownsRow_lit w #[.string ByteArray.empty] 1 (Nat.le_refl _) (by unfold maxLen; omega) rfl
  refine (zsplit_blk s (by omega) w.heap.size w.heap.size 1 [ByteArray.empty] _ (by omega) hown).mono ?_
  rintro e w' ⟨rfl, h1, h2⟩
  rw [wds_sym s hv.out] at h1 ⊢
  refine ⟨rfl, ?_, below_of_grown ((Below.refl _ _).alloc (Nat.le_refl _) _) h2 (fun k hk => by simp at hk; omega)⟩
  have := h1.cellAt 0 (by omega)
  rw [this]
  rfl

set_option maxHeartbeats 1000000 in
theorem walk_yes (s : ByteArray) (n : Nat) (hn : n < 18446744073709551616) (hs : s.size ≤ 65536) (hv : Hid (vsym s.data.toList = true)) (w : World) :
    Calls Try.prog 5 #[.string s, .int .u64 (n : Int)] w fun e w' => e = .returned (.bool true) ∧ Below w.heap.size w w' := by
  have hm : s.size ≤ maxLen := by unfold maxLen; omega
  have hd : decide (s.size ≤ 1048576) = true := by simp; omega
  have hE := vsym_eq s
  rw [hv.out] at hE
  obtain ⟨h0, h1⟩ : 1 ≤ s.size ∧ s.size ≤ 16 := by
    have := hE.symm
    rw [Bool.and_eq_true, lenB, Bool.and_eq_true, decide_eq_true_eq, decide_eq_true_eq] at this
    exact this.1
  have HE : Hid (true = (lenB s.size && allOk s.data.toList)) := hE
  clear hE
  have hmk := make_one
  go_enter Try.func5, Try.ntmps5
  go_wp2_with (first | (go_at_call 14; refine (guard_any _ _ hm _).mono ?_; rintro e w' ⟨rfl, rfl⟩) | (go_at_call 15; refine (valid_at _ hm _ hv _).mono ?_; rintro e w' ⟨rfl, rfl⟩))
  go_loop [6, 7] (fun e i => ∃ (k : Nat) (b : Bool), k ≤ s.size ∧ i = .int .i64 k ∧ e = .bool b ∧ Hid (b = (lenB s.size && allOk (s.data.toList.take k)))) (fun _ i => s.size - (intOf i).toNat)
  case atStart => exact ⟨0, _, Nat.zero_le _, rfl, rfl, start_eq s.size _ _ (by simp <;> omega)⟩
  case round =>
    obtain ⟨k, b, hk, rfl, rfl, hb⟩ := hrel
    by_cases hlt : k < s.size
    · have hm1 : (s.extract k (k + 1)).size ≤ maxLen := by
        unfold maxLen
        simp only [ByteArray.size_extract]
        omega
      have hok : okI (s[k].toNat : Int) = true := by
        have := HE.out.symm
        rw [Bool.and_eq_true] at this
        have h2 := this.2
        unfold allOk at h2
        rw [List.all_eq_true] at h2
        exact h2 s[k] (List.getElem_mem _)
      have hv1 : Hid (vsym (s.extract k (k + 1)).data.toList = okI (s[k].toNat : Int)) := vsym_one s k hlt
      rw [hok] at hv1
      have hok' : Hid (okI (s[k].toNat : Int) = true) := hok
      clear hok
      go_wp2_with (go_at_call 15; refine (valid_at _ hm1 _ hv1 _).mono ?_; rintro e w' ⟨rfl, rfl⟩)
      go_round
      case rel => exact ⟨k + 1, b, by omega, by go_num, rfl, each_yes hlt hb.out hok'.out⟩
      case measure => simp [intOf]; omega
    · have eb : b = true := by
        have := hb.out
        rw [List.take_of_length_le (by simp; omega)] at this
        rw [this, ← HE.out]
      subst eb
      clear hb HE
      go_wp2_with fail
      refine (split_sym s hs hv _).mono ?_
      rintro e w1 ⟨rfl, hc, hbel⟩
      go_wp2_with fail
      refine (dec_any n hn _).mono ?_
      rintro e w2 ⟨d, rfl, hd1, hd2, hd3, hbel2⟩
      have hmd : d.size ≤ maxLen := by unfold maxLen; omega
      have hlaw : Hid (vsym d.data.toList = decide ((d.size : Int) ≤ 16)) := dec_law d hd1 hd3
      clear hd3
      go_wp2_with (go_at_call 15; refine (valid_at _ hmd _ hlaw _).mono ?_; rintro e w' ⟨rfl, rfl⟩)
      go_ret
      exact ⟨ret_bool (by simp), hbel.trans (hbel2.mono hbel.size)⟩

end Go.Proofs.Qxb6619201a.SymLaw
