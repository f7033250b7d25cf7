/-
  WALKS: splitWords, ZZSplitWords, over a buffer that the call's own side made.
-/
import Derived.Test.Qxb6619201aSym
namespace Go.Proofs.Qxb6619201a.Split
open Go.RowKit Words Sym

theorem nb_at (s : ByteArray) (k : Nat) (h : k < s.size) : nb s.data.toList k = !bl (s[k].toNat : Int) := by
  unfold nb
  rw [List.getElem?_eq_getElem (by simpa using h)]
  rfl

theorem grown_refl (w : World) (r : Option Nat) : w.grownBy w r := ⟨rfl, rfl, rfl, Nat.le_refl _, fun _ _ _ => rfl⟩

theorem grown_trans {a b c : World} {r : Option Nat} (h : a.grownBy b r) (k : b.grownBy c r) : a.grownBy c r :=
  ⟨k.os.trans h.os, k.tape.trans h.tape, k.output.trans h.output, Nat.le_trans h.size k.size, fun i hi hr => (k.block i (Nat.lt_of_lt_of_le hi h.size) hr).trans (h.block i hi hr)⟩

theorem slot_at (xs ws : List ByteArray) (n j : Nat) (hj : j = ws.length) (h : ws.length < n) (hl : ((laid ws xs).map Value.string).length = n * 1) :
    ((laid ws xs).map Value.string)[j]? = some (.string ((laid ws xs).getD j ByteArray.empty)) := by
  rw [List.length_map, Nat.mul_one] at hl
  rw [List.getElem?_map, List.getElem?_eq_getElem (by omega), List.getD_eq_getElem?_getD, List.getElem?_eq_getElem (by omega)]
  rfl

theorem ret_cut {a : Option Addr} {c k k' : Nat} {x : Value} (h : k = k') : Ending.returned (.tuple #[.slice a k c, x]) = .returned (.tuple #[.slice a k' c, x]) := by rw [h]

/-- A word goes in: what the row is behind the store. -/
theorem stored_word {w w1 : World} {base g n : Nat} {xs : List ByteArray} {s : ByteArray} {k j : Nat} (hW : wds s j = wds s k ++ [s.extract k j]) (hroom : (wds s k).length < n)
    (ho : w1.ownsRow base 9 1 (.slice (some ⟨g, 0, none⟩) n n) n ((laid (wds s k) xs).map Value.string)) (hg : w.grownBy w1 (some g)) :
    (w1.setCell ⟨g, (wds s k).length, none⟩ (.string (s.extract k j))).ownsRow base 9 1 (.slice (some ⟨g, 0, none⟩) n n) n ((laid (wds s j) xs).map Value.string) ∧
    w.grownBy (w1.setCell ⟨g, (wds s k).length, none⟩ (.string (s.extract k j))) (some g) := by
  have h := ho.stored (wds s k).length (.string (s.extract k j))
  have hl := ho.1
  rw [List.length_map, Nat.mul_one, laid_len] at hl
  refine ⟨?_, grown_trans hg h.2⟩
  rw [hW, laid_step _ _ _ (by omega), List.map_set]
  exact h.1

theorem full_word {w1 : World} {base g n : Nat} {xs : List ByteArray} {s : ByteArray} {k j : Nat} (hW : wds s j = wds s k ++ [s.extract k j]) (hroom : ¬ (wds s k).length < n)
    (ho : w1.ownsRow base 9 1 (.slice (some ⟨g, 0, none⟩) n n) n ((laid (wds s k) xs).map Value.string)) :
    w1.ownsRow base 9 1 (.slice (some ⟨g, 0, none⟩) n n) n ((laid (wds s j) xs).map Value.string) := by
  have hl := ho.1
  rw [List.length_map, Nat.mul_one, laid_len] at hl
  rw [hW, laid_full _ _ _ (by omega)]
  exact ho

theorem lt_of_nb {l : List UInt8} {k j : Nat} (hk : nb l k = true) (hj : nb l j = false) (h : k ≤ j) : k < j := by
  rcases Nat.lt_or_ge k j with h' | h'
  · exact h'
  · have e : k = j := by omega
    subst e
    rw [hj] at hk
    cases hk

theorem count_word {s : ByteArray} {k j : Nat} (hW : wds s j = wds s k ++ [s.extract k j]) : (wds s j).length = (wds s k).length + 1 := by rw [hW]; simp

set_option maxHeartbeats 800000 in
theorem split_blk (s : ByteArray) (hs : s.size ≤ 1048576) (base g n : Nat) (xs : List ByteArray) (w : World) (hn : n ≤ 1048576)
    (hown : w.ownsRow base 9 1 (.slice (some ⟨g, 0, none⟩) n n) n (xs.map Value.string)) :
    Calls Try.prog 22 #[.string s, .slice (some ⟨g, 0, none⟩) n n] w fun e w' =>
      e = .returned (.tuple #[.slice (some ⟨g, 0, none⟩) (min (wds s s.size).length n) n, .int .i64 (wds s s.size).length]) ∧
      w'.ownsRow base 9 1 (.slice (some ⟨g, 0, none⟩) n n) n ((laid (wds s s.size) xs).map Value.string) ∧ w.grownBy w' (some g) := by
  go_enter Try.func22, Try.ntmps22
  go_wp2
  go_loopw [6, 7] (fun m i wr => ∃ k : Nat, k ≤ s.size ∧ edge s.data.toList k ∧ i = .int .i64 k ∧ m = .int .i64 (wds s k).length ∧ (wds s k).length ≤ k ∧
      wr.ownsRow base 9 1 (.slice (some ⟨g, 0, none⟩) n n) n ((laid (wds s k) xs).map Value.string) ∧ w.grownBy wr (some g)) (fun _ i _ => s.size - (intOf i).toNat)
  case atStart => exact ⟨0, Nat.zero_le _, edge_zero _, rfl, rfl, Nat.le_refl _, by rw [wds_zero, laid_nil]; exact hown, grown_refl _ _⟩
  case round =>
    obtain ⟨k, hk, hedge, rfl, rfl, hle, hown', hgr⟩ := hrel
    by_cases hlt : k < s.size
    · cases hb : bl (s[k].toNat : Int) with
      | true =>
        have hnb : Hid (nb s.data.toList k = false) := by rw [Hid, nb_at s k hlt, hb]; rfl
        go_wp2_with (go_at_call 25; refine (blank_any _ _).mono ?_; rintro e w' ⟨rfl, rfl⟩)
        go_roundw
        case rel => exact ⟨k + 1, by omega, (step_blank hnb.out).2.2, by go_num, by rw [wds_blank hnb.out], by rw [wds_blank hnb.out]; omega, by rw [wds_blank hnb.out]; exact hown', hgr⟩
        case measure => simp [intOf]; omega
      | false =>
        have hnb : Hid (nb s.data.toList k = true) := by rw [Hid, nb_at s k hlt, hb]; rfl
        go_wp2_with (go_at_call 25; refine (blank_any _ _).mono ?_; rintro e w' ⟨rfl, rfl⟩)
        clear hb
        go_loop [7] (fun i => ∃ j : Nat, k ≤ j ∧ j ≤ s.size ∧ i = .int .i64 j ∧ Hid (∀ p, k ≤ p → p < j → nb s.data.toList p = true)) (fun i => s.size - (intOf i).toNat)
        case atStart => exact ⟨k, Nat.le_refl _, hk, rfl, fun p h1 h2 => by omega⟩
        case round =>
          obtain ⟨j, hkj, hjs, rfl, hall⟩ := hrel
          by_cases hjl : j < s.size
          · cases hbj : bl (s[j].toNat : Int) with
            | false =>
              have hnj : Hid (nb s.data.toList j = true) := by rw [Hid, nb_at s j hjl, hbj]; rfl
              go_wp2_with (go_at_call 25; refine (blank_any _ _).mono ?_; rintro e w' ⟨rfl, rfl⟩)
              go_round
              case rel => exact ⟨j + 1, by omega, by omega, by go_num, fun p h1 h2 => by
                    by_cases e : p = j
                    · rw [e]; exact hnj.out
                    · exact hall.out p h1 (by omega)⟩
              case measure => simp [intOf]; omega
            | true =>
              have hnj : Hid (nb s.data.toList j = false) := by rw [Hid, nb_at s j hjl, hbj]; rfl
              have hlt' : k < j := lt_of_nb hnb.out hnj.out hkj
              by_cases hroom : (wds s k).length < n
              · have hcell := hown'.cellAt (wds s k).length (by omega)
                rw [slot_at xs (wds s k) n _ (by omega) hroom hown'.1] at hcell
                have hfree := hown'.frozenAt (wds s k).length
                go_wp2_with (go_at_call 25; refine (blank_any _ _).mono ?_; rintro e w' ⟨rfl, rfl⟩)
                have hW := wds_word hedge hlt' hall.out hnj.out
                have hR := stored_word hW hroom hown' hgr
                go_roundw
                case rel => exact ⟨j, hjs, (step_word hedge hlt' hall.out hnj.out).2.2, rfl, by rw [count_word hW]; go_num, by rw [count_word hW]; omega, hR.1, hR.2⟩
                case measure => simp [intOf]; omega
              · go_wp2_with (go_at_call 25; refine (blank_any _ _).mono ?_; rintro e w' ⟨rfl, rfl⟩)
                have hW := wds_word hedge hlt' hall.out hnj.out
                have hR := full_word hW hroom hown'
                go_roundw
                case rel => exact ⟨j, hjs, (step_word hedge hlt' hall.out hnj.out).2.2, rfl, by rw [count_word hW]; go_num, by rw [count_word hW]; omega, hR, hgr⟩
                case measure => simp [intOf]; omega
          · have ej : j = s.size := by omega
            have hnj : Hid (nb s.data.toList j = false) := nb_end _ _ (by simp; omega)
            clear ej
            have hlt' : k < j := lt_of_nb hnb.out hnj.out hkj
            by_cases hroom : (wds s k).length < n
            · have hcell := hown'.cellAt (wds s k).length (by omega)
              rw [slot_at xs (wds s k) n _ (by omega) hroom hown'.1] at hcell
              have hfree := hown'.frozenAt (wds s k).length
              go_wp2_with (go_at_call 25; refine (blank_any _ _).mono ?_; rintro e w' ⟨rfl, rfl⟩)
              have hW := wds_word hedge hlt' hall.out hnj.out
              have hR := stored_word hW hroom hown' hgr
              go_roundw
              case rel => exact ⟨j, hjs, (step_word hedge hlt' hall.out hnj.out).2.2, rfl, by rw [count_word hW]; go_num, by rw [count_word hW]; omega, hR.1, hR.2⟩
              case measure => simp [intOf]; omega
            · go_wp2_with (go_at_call 25; refine (blank_any _ _).mono ?_; rintro e w' ⟨rfl, rfl⟩)
              have hW := wds_word hedge hlt' hall.out hnj.out
              have hR := full_word hW hroom hown'
              go_roundw
              case rel => exact ⟨j, hjs, (step_word hedge hlt' hall.out hnj.out).2.2, rfl, by rw [count_word hW]; go_num, by rw [count_word hW]; omega, hR, hgr⟩
              case measure => simp [intOf]; omega
    · have hk' : k = s.size := by omega
      subst hk'
      go_wp2
      all_goals go_ret2
      · exact ⟨ret_cut (by omega), hown', hgr⟩
      · exact ⟨ret_cut (by omega), hown', hgr⟩

set_option maxHeartbeats 800000 in
theorem split_nil (s : ByteArray) (hs : s.size ≤ 1048576) (w : World) :
    Calls Try.prog 22 #[.string s, .slice none 0 0] w fun e w' =>
      e = .returned (.tuple #[.slice none 0 0, .int .i64 (wds s s.size).length]) ∧ w' = w := by
  go_enter Try.func22, Try.ntmps22
  go_wp2
  go_loop [6, 7] (fun m i => ∃ k : Nat, k ≤ s.size ∧ edge s.data.toList k ∧ i = .int .i64 k ∧ m = .int .i64 (wds s k).length ∧ (wds s k).length ≤ k) (fun _ i => s.size - (intOf i).toNat)
  case atStart => exact ⟨0, Nat.zero_le _, edge_zero _, rfl, rfl, Nat.le_refl _⟩
  case round =>
    obtain ⟨k, hk, hedge, rfl, rfl, hle⟩ := hrel
    by_cases hlt : k < s.size
    · cases hb : bl (s[k].toNat : Int) with
      | true =>
        have hnb : Hid (nb s.data.toList k = false) := by rw [Hid, nb_at s k hlt, hb]; rfl
        go_wp2_with (go_at_call 25; refine (blank_any _ _).mono ?_; rintro e w' ⟨rfl, rfl⟩)
        go_round
        case rel => exact ⟨k + 1, by omega, (step_blank hnb.out).2.2, by go_num, by rw [wds_blank hnb.out], by rw [wds_blank hnb.out]; omega⟩
        case measure => simp [intOf]; omega
      | false =>
        have hnb : Hid (nb s.data.toList k = true) := by rw [Hid, nb_at s k hlt, hb]; rfl
        go_wp2_with (go_at_call 25; refine (blank_any _ _).mono ?_; rintro e w' ⟨rfl, rfl⟩)
        clear hb
        go_loop [7] (fun i => ∃ j : Nat, k ≤ j ∧ j ≤ s.size ∧ i = .int .i64 j ∧ Hid (∀ p, k ≤ p → p < j → nb s.data.toList p = true)) (fun i => s.size - (intOf i).toNat)
        case atStart => exact ⟨k, Nat.le_refl _, hk, rfl, fun p h1 h2 => by omega⟩
        case round =>
          obtain ⟨j, hkj, hjs, rfl, hall⟩ := hrel
          by_cases hjl : j < s.size
          · cases hbj : bl (s[j].toNat : Int) with
            | false =>
              have hnj : Hid (nb s.data.toList j = true) := by rw [Hid, nb_at s j hjl, hbj]; rfl
              go_wp2_with (go_at_call 25; refine (blank_any _ _).mono ?_; rintro e w' ⟨rfl, rfl⟩)
              go_round
              case rel => exact ⟨j + 1, by omega, by omega, by go_num, fun p h1 h2 => by
                    by_cases e : p = j
                    · rw [e]; exact hnj.out
                    · exact hall.out p h1 (by omega)⟩
              case measure => simp [intOf]; omega
            | true =>
              have hnj : Hid (nb s.data.toList j = false) := by rw [Hid, nb_at s j hjl, hbj]; rfl
              have hlt' : k < j := lt_of_nb hnb.out hnj.out hkj
              go_wp2_with (go_at_call 25; refine (blank_any _ _).mono ?_; rintro e w' ⟨rfl, rfl⟩)
              have hW := wds_word hedge hlt' hall.out hnj.out
              go_round
              case rel => exact ⟨j, hjs, (step_word hedge hlt' hall.out hnj.out).2.2, rfl, by rw [count_word hW]; go_num, by rw [count_word hW]; omega⟩
              case measure => simp [intOf]; omega
          · have ej : j = s.size := by omega
            have hnj : Hid (nb s.data.toList j = false) := nb_end _ _ (by simp; omega)
            clear ej
            have hlt' : k < j := lt_of_nb hnb.out hnj.out hkj
            go_wp2_with (go_at_call 25; refine (blank_any _ _).mono ?_; rintro e w' ⟨rfl, rfl⟩)
            have hW := wds_word hedge hlt' hall.out hnj.out
            go_round
            case rel => exact ⟨j, hjs, (step_word hedge hlt' hall.out hnj.out).2.2, rfl, by rw [count_word hW]; go_num, by rw [count_word hW]; omega⟩
            case measure => simp [intOf]; omega
    · have hk' : k = s.size := by omega
      subst hk'
      go_wp2
      all_goals go_ret2
      all_goals exact ⟨ret_cut (by omega), rfl⟩

theorem zsplit_blk (s : ByteArray) (hs : s.size ≤ 1048576) (base g n : Nat) (xs : List ByteArray) (w : World) (hn : n ≤ 1048576)
    (hown : w.ownsRow base 9 1 (.slice (some ⟨g, 0, none⟩) n n) n (xs.map Value.string)) :
    Calls Try.prog 11 #[.string s, .slice (some ⟨g, 0, none⟩) n n] w fun e w' =>
      e = .returned (.tuple #[.slice (some ⟨g, 0, none⟩) (min (wds s s.size).length n) n, .int .i64 (wds s s.size).length]) ∧
      w'.ownsRow base 9 1 (.slice (some ⟨g, 0, none⟩) n n) n ((laid (wds s s.size) xs).map Value.string) ∧ w.grownBy w' (some g) := by
  go_enter Try.func11, Try.ntmps11
  go_wp2_with (go_at_call 22; refine (split_blk s hs base g n xs _ hn hown).mono ?_; rintro e w' ⟨rfl, h1, h2⟩)
  go_ret2
  exact ⟨rfl, h1, h2⟩

theorem zsplit_nil (s : ByteArray) (hs : s.size ≤ 1048576) (w : World) :
    Calls Try.prog 11 #[.string s, .slice none 0 0] w fun e w' =>
      e = .returned (.tuple #[.slice none 0 0, .int .i64 (wds s s.size).length]) ∧ w' = w := by
  go_enter Try.func11, Try.ntmps11
  go_wp2_with (go_at_call 22; refine (split_nil s hs _).mono ?_; rintro e w' ⟨rfl, rfl⟩)
  go_ret2
  exact ⟨rfl, rfl⟩

end Go.Proofs.Qxb6619201a.Split
