/-
  WALKS: the length guards over slices of strings (they answer some bool), zzMin, zzCloneStrings; splitWords over whatever row of strings the call's own side owns.
-/
import Derived.Test.Qxb6619201aSplit
namespace Go.Proofs.Qxb6619201a.Strs
open Go.RowKit Words Sym Split

/-- A slice of strings that holds ss (no word on an empty one's address). -/
def SRow (w : World) (a : Option Addr) (ss : List ByteArray) : Prop :=
  0 < ss.length → ∃ b off, a = some ⟨b, off, none⟩ ∧ b < w.heap.size ∧ ∀ i, i < ss.length → w.cell? ⟨b, off + i, none⟩ = some (.string (ss.getD i ByteArray.empty))

theorem SRow.below {w w' : World} {a : Option Addr} {ss : List ByteArray} {B : Nat} (h : SRow w a ss) (hB : w.heap.size ≤ B) (hb : Below B w w') : SRow w' a ss := by
  intro hp
  obtain ⟨b, off, rfl, hlt, hc⟩ := h hp
  exact ⟨b, off, rfl, Nat.lt_of_lt_of_le hlt hb.size, fun i hi => (hb.cell (by exact Nat.lt_of_lt_of_le hlt hB)).trans (hc i hi)⟩

theorem min_any (a b : Nat) (w : World) : Calls Try.prog 12 #[.int .i64 (a : Int), .int .i64 (b : Int)] w fun e w' => w' = w ∧ e = .returned (.int .i64 ((min a b : Nat) : Int)) := by
  by_cases h : a < b
  · have HM : Hid (min a b = a) := by show min a b = a; omega
    go_enter Try.func12, Try.ntmps12
    go_wp2
    go_ret
    exact ⟨rfl, by rw [HM.out]; rfl⟩
  · have HM : Hid (min a b = b) := by show min a b = b; omega
    go_enter Try.func12, Try.ntmps12
    go_wp2
    go_ret
    exact ⟨rfl, by rw [HM.out]; rfl⟩

/-- It answers a bool, and nothing turns. -/
def Bool1 (w : World) (e : Ending) (w' : World) : Prop := w' = w ∧ ∃ b, e = .returned (.bool b)

set_option maxHeartbeats 400000 in
theorem bytes1_any (s : ByteArray) (a : Option Addr) (cap : Nat) (ss : List ByteArray) (w : World) (hr : SRow w a ss) (hs : s.size ≤ maxLen) (hl : ss.length ≤ maxLen) :
    Calls Try.prog 7 #[.string s, .slice a ss.length cap] w (Bool1 w) := by
  unfold maxLen at hs hl
  have HR : Hid (SRow w a ss) := hr
  clear hr
  go_enter Try.func7, Try.ntmps7
  go_wp2
  · go_ret; exact ⟨rfl, _, rfl⟩
  · go_ret; exact ⟨rfl, _, rfl⟩
  · go_ret; exact ⟨rfl, _, rfl⟩
  go_loop [5, 6] (fun z i => ∃ (k : Nat) (t : Int), k ≤ ss.length ∧ i = .int .i64 k ∧ z = .int .i64 t) (fun _ i => ss.length - (intOf i).toNat)
  case atStart => exact ⟨0, _, Nat.zero_le _, rfl, rfl⟩
  case round =>
    obtain ⟨k, t, hk, rfl, rfl⟩ := hrel
    by_cases hlt : k < ss.length
    · obtain ⟨b, off, rfl, _, hc⟩ := HR.out (by omega)
      have hcell := hc k hlt
      clear hc
      obtain ⟨x, hx⟩ : ∃ x, x = ss.getD k ByteArray.empty := ⟨_, rfl⟩
      rw [← hx] at hcell
      clear hx
      go_wp2
      all_goals first
        | (go_round
           case rel => exact ⟨k + 1, _, by omega, by go_num, rfl⟩
           case measure => simp [intOf]; omega)
        | (go_ret; exact ⟨rfl, _, rfl⟩)
    · go_wp2
      go_ret
      exact ⟨rfl, _, rfl⟩

set_option maxHeartbeats 400000 in
theorem big_any (s : ByteArray) (a a' : Option Addr) (cap cap' : Nat) (ss ss' : List ByteArray) (w : World) (hr : SRow w a ss) (hr' : SRow w a' ss') (hs : s.size ≤ 65536) (hl : ss.length ≤ 16384) (hl' : ss'.length ≤ 16384) :
    Calls Try.prog 8 #[.string s, .slice a ss.length cap, .slice a' ss'.length cap'] w (Bool1 w) := by
  have HR : Hid (SRow w a ss) := hr
  have HR' : Hid (SRow w a' ss') := hr'
  clear hr hr'
  go_enter Try.func8, Try.ntmps8
  go_wp2
  go_loop [7, 8] (fun z i => ∃ (k : Nat) (t : Int), k ≤ ss.length ∧ i = .int .i64 k ∧ z = .int .i64 t) (fun _ i => ss.length - (intOf i).toNat)
  case atStart => exact ⟨0, _, Nat.zero_le _, rfl, rfl⟩
  case round =>
    obtain ⟨k, t, hk, rfl, rfl⟩ := hrel
    by_cases hlt : k < ss.length
    · obtain ⟨b, off, rfl, _, hc⟩ := HR.out (by omega)
      have hcell := hc k hlt
      clear hc
      obtain ⟨x, hx⟩ : ∃ x, x = ss.getD k ByteArray.empty := ⟨_, rfl⟩
      rw [← hx] at hcell
      clear hx
      go_wp2
      all_goals first
        | (go_round
           case rel => exact ⟨k + 1, _, by omega, by go_num, rfl⟩
           case measure => simp [intOf]; omega)
        | (go_ret; exact ⟨rfl, _, rfl⟩)
    · go_wp2
      go_loop [7, 9] (fun z i => ∃ (k : Nat) (t : Int), k ≤ ss'.length ∧ i = .int .i64 k ∧ z = .int .i64 t) (fun _ i => ss'.length - (intOf i).toNat)
      case atStart => exact ⟨0, _, Nat.zero_le _, rfl, rfl⟩
      case round =>
        obtain ⟨k, t, hk, rfl, rfl⟩ := hrel
        by_cases hlt : k < ss'.length
        · obtain ⟨b, off, rfl, _, hc⟩ := HR'.out (by omega)
          have hcell := hc k hlt
          clear hc
          obtain ⟨x, hx⟩ : ∃ x, x = ss'.getD k ByteArray.empty := ⟨_, rfl⟩
          rw [← hx] at hcell
          clear hx
          go_wp2
          all_goals first
            | (go_round
               case rel => exact ⟨k + 1, _, by omega, by go_num, rfl⟩
               case measure => simp [intOf]; omega)
            | (go_ret; exact ⟨rfl, _, rfl⟩)
        · go_wp2
          go_ret
          exact ⟨rfl, _, rfl⟩

theorem info9 : (Try.prog.info? 9).map (fun i => (i.zero, i.size, i.bytes)) = some (some (.string ByteArray.empty), 1, 16) := by kernel_rfl
theorem under22 : Try.prog.underlying 22 = some (.slice 9) := by kernel_rfl

/-- 'make([]string, n)'. -/
theorem strs_run (n : Nat) (hn : n ≤ 1048576) (w : World) : ∃ w1, (Instr.makeSlice 22 (.int .i64 (n : Int)) (.int .i64 (n : Int))).run Try.prog w = .ok (.slice (some ⟨w.heap.size, 0, none⟩) n n) w1 ∧
    w1.heap[w.heap.size]? = some (.cells ((List.replicate n ByteArray.empty).map Value.string).toArray 9 (0, 0)) ∧ w.grownBy w1 none := by
  obtain ⟨i, hi, hz0, hz1, hz2⟩ := info_parts info9
  have hr := run_make (P := Try.prog) w 22 9 i _ under22 hi hz0 .i64 .i64 n n (by omega) (by omega) (by rw [hz2]; omega) (by omega)
  rw [hz1] at hr
  simp only [Int.toNat_natCast] at hr
  refine ⟨_, hr, ?_, World.grownBy_alloc w _ none⟩
  rw [heap_alloc_new, List.map_replicate, Nat.mul_one]
  have := toList_madeCells_one (.string ByteArray.empty) n
  congr 2
  apply Array.ext'
  exact this

/-- The copy's block behind k rounds. -/
def Half (g k : Nat) (ss : List ByteArray) (w : World) : Prop := ∃ rest : List ByteArray, rest.length = ss.length - k ∧ w.heap[g]? = some (.cells ((ss.take k ++ rest).map Value.string).toArray 9 (0, 0))

theorem Half.step {g k : Nat} {ss : List ByteArray} {w : World} (h : Half g k ss w) (hk : k < ss.length) : Half g (k + 1) ss (w.setCell ⟨g, k, none⟩ (.string (ss.getD k ByteArray.empty))) ∧
    w.frozen? ⟨g, k, none⟩ = false ∧ ∃ v, w.cell? ⟨g, k, none⟩ = some v := by
  obtain ⟨rest, hl, hb⟩ := h
  cases rest with
  | nil => simp at hl; omega
  | cons x rest =>
    have htk : (ss.take k).length = k := by rw [List.length_take]; omega
    refine ⟨⟨rest, by simp at hl; omega, ?_⟩, frozen_of_row w g k _ 9 hb, ⟨.string x, ?_⟩⟩
    · rw [heap_setCell_same w g k _ 9 _ hb, List.take_succ_eq_append_getElem hk, List.getD_eq_getElem?_getD, List.getElem?_eq_getElem hk]
      congr 2
      apply Array.ext'
      simp only [Array.toList_setIfInBounds, List.map_append, List.map_cons, Option.getD_some, List.map_nil]
      rw [List.set_append_right _ _ (by rw [List.length_map, htk]; exact Nat.le_refl _), List.length_map, htk, Nat.sub_self]
      simp
    · rw [cell_of_row w g k _ 9 (0, 0) hb]
      simp only [List.map_append, List.map_cons, List.getElem?_toArray]
      rw [List.getElem?_append_right (by rw [List.length_map, htk]; exact Nat.le_refl _), List.length_map, htk, Nat.sub_self]
      rfl

set_option maxHeartbeats 400000 in
theorem clone_any (a : Option Addr) (cap : Nat) (ss : List ByteArray) (w : World) (hr : SRow w a ss) (hl : ss.length ≤ 1048576) (hnil : a = none → ss = []) :
    Calls Try.prog 9 #[.slice a ss.length cap] w fun e w' => ∃ ao, e = .returned (.slice ao ss.length ss.length) ∧ w'.ownsRow w.heap.size 9 1 (.slice ao ss.length ss.length) ss.length (ss.map Value.string) ∧ w.grownBy w' none := by
  have hq := Lib.run_eql_slice_nil (P := Try.prog) w 22 9 a ss.length cap 0 0 under22
  cases a with
  | none =>
    have := hnil rfl
    subst this
    have hq0 := Lib.run_eql_slice_nil (P := Try.prog) w 22 9 none 0 cap 0 0 under22
    show Calls Try.prog 9 #[.slice none 0 cap] w _
    go_enter Try.func9, Try.ntmps9
    go_wp2
    go_ret
    exact ⟨none, rfl, World.ownsRow_nil _ _ _ _, grown_refl _ _⟩
  | some a =>
    clear hnil
    have HR : Hid (SRow w (some a) ss) := hr
    clear hr
    obtain ⟨w1, hmk, hb, hgr⟩ := strs_run ss.length hl w
    have HB : Hid (Half w.heap.size 0 ss w1) := ⟨List.replicate ss.length ByteArray.empty, by simp, by simpa using hb⟩
    have HG : Hid (w.grownBy w1 none) := hgr
    clear hb hgr
    go_enter Try.func9, Try.ntmps9
    go_wp2
    clear hmk hq
    go_loopw [4] (fun v wr => ∃ k : Nat, k ≤ ss.length ∧ v = .int .i64 k ∧ Hid (Half w.heap.size k ss wr) ∧ Hid (w.grownBy wr (some w.heap.size))) (fun v _ => ss.length - (intOf v).toNat)
    case atStart => exact ⟨0, Nat.zero_le _, rfl, HB, ⟨HG.out.os, HG.out.tape, HG.out.output, HG.out.size, fun k h1 _ => HG.out.block k h1 (by simp)⟩⟩
    case round =>
      obtain ⟨k, hk, rfl, hh, hg⟩ := hrel
      clear HB HG
      by_cases hlt : k < ss.length
      · obtain ⟨b, off, e, hbw, hc⟩ := HR.out (by omega)
        obtain rfl : a = ⟨b, off, none⟩ := by simpa using e
        obtain ⟨hs1, hs2, v, hs3⟩ := hh.out.step hlt
        have hcell : wr.cell? ⟨b, off + k, none⟩ = some (.string (ss.getD k ByteArray.empty)) := (hg.out.cell (hc k hlt) (by simp; omega))
        clear hc e
        obtain ⟨x, hx⟩ : ∃ x, x = ss.getD k ByteArray.empty := ⟨_, rfl⟩
        rw [← hx] at hcell hs1
        have HS : Hid (Half w.heap.size (k + 1) ss (wr.setCell ⟨w.heap.size, k, none⟩ (.string x))) := hs1
        clear hx hs1
        go_wp2
        go_roundw
        case rel => exact ⟨k + 1, by omega, by go_num, HS, grown_trans hg.out ⟨rfl, rfl, rfl, by simp, fun i _ h => Below.heap_setCell _ _ _ _ (fun e => h (by rw [e]))⟩⟩
        case measure => simp [intOf]; omega
      · go_wp2
        go_ret
        refine ⟨some ⟨w.heap.size, 0, none⟩, rfl, ?_, ⟨hg.out.os, hg.out.tape, hg.out.output, hg.out.size, fun j h1 _ => hg.out.block j h1 (fun e => by have := Option.some.inj e; omega)⟩⟩
        obtain ⟨rest, h1, h2⟩ := hh.out
        have hr0 : rest = [] := List.eq_nil_of_length_eq_zero (by omega)
        subst hr0
        rw [List.append_nil, List.take_of_length_le (by omega)] at h2
        exact ⟨by simp, .inr ⟨w.heap.size, ss.length, _, rfl, Nat.le_refl _, h2, Nat.le_refl _, by unfold maxLen; omega, by simp, List.take_of_length_le (by simp)⟩⟩

/-- splitWords over a row of the call's own, nil or not. -/
theorem zsplit_own (s : ByteArray) (hs : s.size ≤ 1048576) (base n : Nat) (ao : Option Addr) (xs : List ByteArray) (w : World) (hn : n ≤ 1048576)
    (hown : w.ownsRow base 9 1 (.slice ao n n) n (xs.map Value.string)) :
    Calls Try.prog 11 #[.string s, .slice ao n n] w fun e w' =>
      e = .returned (.tuple #[.slice ao (min (wds s s.size).length n) n, .int .i64 (wds s s.size).length]) ∧
      w'.ownsRow base 9 1 (.slice ao n n) n ((laid (wds s s.size) xs).map Value.string) ∧ w.grownBy w' (Value.ownBlock (.slice ao n n)) := by
  rcases hown.2 with ⟨h, rfl⟩ | ⟨g, cap, cur, h, _⟩
  · simp only [Value.slice.injEq, and_self, and_true] at h
    subst h
    refine (zsplit_nil s hs w).mono ?_
    rintro e w' ⟨rfl, rfl⟩
    have hx : xs = [] := List.eq_nil_of_length_eq_zero (by simpa using hown.1)
    subst hx
    exact ⟨ret_cut (by omega), by simpa [laid] using World.ownsRow_nil w' base 9 1, grown_refl _ _⟩
  · simp only [Value.slice.injEq, true_and] at h
    obtain ⟨rfl, rfl⟩ := h
    refine (zsplit_blk s hs base g n xs w hn hown).mono ?_
    rintro e w' ⟨rfl, h1, h2⟩
    exact ⟨rfl, h1, h2⟩

end Go.Proofs.Qxb6619201a.Strs
