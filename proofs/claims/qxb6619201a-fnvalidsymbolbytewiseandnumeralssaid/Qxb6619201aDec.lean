/-
  WALK: zzDecimal.
-/
import Derived.Test.Qxb6619201aSym
namespace Go.Proofs.Qxb6619201a.Dec
open Go.RowKit Words Sym

/-- The block of [20]byte: its cells from p on hold digits. -/
structure Dig (B p : Nat) (zs : List Int) (w : World) : Prop where
  at_ : w.heap[B]? = some (.cells (zs.map (Value.int .u8)).toArray 45 (0, 0))
  len : zs.length = 20
  dig : ∀ j, p ≤ j → j < 20 → 48 ≤ zs.getD j 0 ∧ zs.getD j 0 ≤ 57

theorem Dig.cell {B p : Nat} {zs : List Int} {w : World} (h : Dig B p zs w) (j : Nat) (hj : j < 20) : w.cell? ⟨B, j, none⟩ = some (.int .u8 (zs.getD j 0)) := by
  have e := h.at_
  have hl := h.len
  rw [cell_of_row w B j _ 45 (0, 0) e]
  simp [List.getElem?_eq_getElem (show j < zs.length by omega)]

theorem Dig.free {B p : Nat} {zs : List Int} {w : World} (h : Dig B p zs w) (j : Nat) : w.frozen? ⟨B, j, none⟩ = false := frozen_of_row w B j _ 45 h.at_

theorem Dig.put {B p : Nat} {zs : List Int} {w : World} (h : Dig B (p + 1) zs w) (hp : p ≤ 19) (x : Int) (h1 : 48 ≤ x) (h2 : x ≤ 57) : Dig B p (zs.set p x) (w.setCell ⟨B, p, none⟩ (.int .u8 x)) := by
  refine ⟨?_, by simpa using h.len, fun j a b => ?_⟩
  · rw [heap_setCell_same w B p _ 45 (.int .u8 x) h.at_]
    simp [List.map_set]
  · rw [List.getD_eq_getElem?_getD, List.getElem?_set]
    by_cases e : p = j
    · rw [if_pos e, if_pos (by rw [h.len]; omega)]
      exact ⟨h1, h2⟩
    · rw [if_neg e, ← List.getD_eq_getElem?_getD]
      exact h.dig j (by omega) b

theorem len45 : Try.prog.arrayLen 45 = 20 := by kernel_rfl
theorem under45 : Try.prog.underlying 45 = some (.array (Try.prog.arrayLen 45) (Try.prog.elem 45)) := by kernel_rfl
theorem size45 (w : World) : (sizeOf (Try.prog.elem 45)).run Try.prog w = .ok 1 w := by kernel_rfl
theorem under31 : Try.prog.underlying 31 = some (.slice 5) := by kernel_rfl
theorem under5 : Try.prog.underlying 5 = some (.int .u8) := by kernel_rfl
theorem under9 : Try.prog.underlying 9 = some .string := by kernel_rfl

theorem cut_run (B p : Nat) (hp : p ≤ 19) (w : World) : (Instr.sliceAt 45 (.pointer (some ⟨B, 0, none⟩)) (some (.int .i64 (p : Int))) none none).run Try.prog w = .ok (.slice (some ⟨B, p, none⟩) (20 - p) (20 - p)) w := by
  rw [run_sliceAt_array_l w 45 ⟨B, 0, none⟩ under45 .i64 p (by omega) (by rw [len45]; omega), size45]
  simp only [Result.andThen, slicedAt, len45, Int.toNat_natCast]
  rw [if_neg (by omega)]
  simp [Addr.add]
  omega

/-- The string that is made of the cells from p on. -/
theorem conv_run {B p : Nat} {zs : List Int} {w : World} (h : Dig B p zs w) (hp : p ≤ 19) : ∃ d : ByteArray, 1 ≤ d.size ∧ d.size ≤ 20 ∧ (∀ c ∈ d.data.toList, 48 ≤ c.toNat ∧ c.toNat ≤ 57) ∧
    (convert 31 9 (.slice (some ⟨B, p, none⟩) (20 - p) (20 - p))).run Try.prog w = .ok (.string d) w := by
  have hl := h.len
  refine ⟨strOfNums (zs.drop p), by rw [strOfNums_size, List.length_drop]; omega, by rw [strOfNums_size, List.length_drop]; omega, ?_, ?_⟩
  · intro c hc
    rw [strOfNums_data, List.mem_map] at hc
    obtain ⟨z, hz, rfl⟩ := hc
    obtain ⟨j, hj, rfl⟩ := List.getElem_of_mem hz
    rw [List.length_drop] at hj
    rw [List.getElem_drop]
    have hd := h.dig (p + j) (by omega) (by omega)
    rw [List.getD_eq_getElem?_getD, List.getElem?_eq_getElem (by omega)] at hd
    simp only [Option.getD_some] at hd
    generalize zs[p + j] = z at hd ⊢
    obtain ⟨m, rfl⟩ := Int.eq_ofNat_of_zero_le (show 0 ≤ z by omega)
    simp only [Int.toNat_natCast]
    rw [show (UInt8.ofNat m).toNat = m % 256 from rfl]
    omega
  · refine run_convert_bytes_arg w 31 5 under31 under5 B p (20 - p) (20 - p) (zs.drop p) (by rw [List.length_drop]; omega) (fun i hi => ?_) 9 under9
    rw [h.cell (p + i) (by omega)]
    simp [List.getD_eq_getElem?_getD]

theorem pow_bound {q p n : Nat} (hp : p ≤ 19) (h : q * 10 ^ (19 - p) ≤ n) (hn : n < 18446744073709551616) (hq : 1 ≤ q / 10) : 1 ≤ p ∧ q / 10 * 10 ^ (19 - (p - 1)) ≤ n := by
  have h10 : q / 10 * 10 ≤ q := Nat.div_mul_le_self q 10
  have hp1 : 1 ≤ p := by
    rcases Nat.eq_zero_or_pos p with e | e
    · subst e
      have : 10 * 10 ^ 19 ≤ q * 10 ^ (19 - 0) := Nat.mul_le_mul_right _ (by omega)
      omega
    · exact e
  refine ⟨hp1, ?_⟩
  rw [show 19 - (p - 1) = (19 - p) + 1 from by omega, Nat.pow_succ, Nat.mul_comm (10 ^ (19 - p)) 10, ← Nat.mul_assoc]
  exact Nat.le_trans (Nat.mul_le_mul_right _ h10) h

set_option maxHeartbeats 400000 in
theorem dec_any (n : Nat) (hn : n < 18446744073709551616) (w : World) :
    Calls Try.prog 16 #[.int .u64 (n : Int)] w fun e w' => ∃ d : ByteArray, e = .returned (.string d) ∧ 1 ≤ d.size ∧ d.size ≤ 20 ∧ (∀ c ∈ d.data.toList, 48 ≤ c.toNat ∧ c.toNat ≤ 57) ∧ Below w.heap.size w w' := by
  go_enter Try.func16, Try.ntmps16
  go_wp2
  go_loopw [0, 4] (fun m i wr => ∃ (p q : Nat) (zs : List Int), p ≤ 19 ∧ i = .int .i64 ((p : Int) + 1) ∧ m = .int .u64 (q : Int) ∧ q < 18446744073709551616 ∧ Hid (q * 10 ^ (19 - p) ≤ n) ∧ Dig w.heap.size (p + 1) zs wr ∧ Below w.heap.size w wr) (fun m _ _ => (intOf m).toNat)
  case atStart => exact ⟨19, n, List.replicate 20 0, by omega, rfl, rfl, hn, by simp [Hid], ⟨heap_alloc_new w _, rfl, fun j h1 h2 => by omega⟩, (Below.refl _ _).alloc (Nat.le_refl _) _⟩
  case round =>
    obtain ⟨p, q, zs, hp, rfl, rfl, hq, hqn, hd, hb⟩ := hrel
    have hcell := hd.cell p (by omega)
    have hfree := hd.free p
    have hcut := cut_run w.heap.size p hp
    have hD := hd.put hp (48 + (q : Int) % 10) (by omega) (by omega)
    obtain ⟨d, hd1, hd2, hd3, hconv⟩ := conv_run hD hp
    have HD3 : Hid (∀ c ∈ d.data.toList, 48 ≤ c.toNat ∧ c.toNat ≤ 57) := hd3
    clear hd3
    go_wp2
    · go_ret
      exact ⟨d, rfl, hd1, hd2, HD3.out, hb.setCell (Nat.le_refl _) _⟩
    · have hq0 : ((q : Int) / 10 == 0) = false := by assumption
      have hq1 : 1 ≤ q / 10 := by
        rw [beq_eq_false_iff_ne] at hq0
        omega
      have hP := pow_bound hp hqn.out hn hq1
      go_roundw
      case rel => exact ⟨p - 1, q / 10, zs.set p (48 + (q : Int) % 10), by omega, by have := hP.1; go_num, by go_num, by omega, hP.2, by rw [show p - 1 + 1 = p from by have := hP.1; omega]; exact hD, hb.setCell (Nat.le_refl _) _⟩
      case measure => simp [intOf]; omega

end Go.Proofs.Qxb6619201a.Dec
