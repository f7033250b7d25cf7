/-
  WALKS: (*idTable).home, ZZIdTableHome. WHICH slot the hash gives is nowhere needed: that it is one number of (id, seed, shift), and in range.
-/
import Derived.Test.Qxb6619201aProg
import Derived.WalkKit
import Derived.WalkSpells
import Derived.WalkLawsBesides
import Derived.OpenShut
namespace Go.Proofs.Qxb6619201a.Home
open Go.RowKit

def xs33 (x : Int) : Int := bits .xor .u64 x (x / 8589934592)
def mix (id seed : Int) : Int :=
  xs33 (IntKind.u64.wrap (xs33 (IntKind.u64.wrap (xs33 (bits .xor .u64 (IntKind.u64.wrap id) seed) * 18397679294719823053)) * 14181476777654086739))
/-- The slot where the search for an id begins. -/
def hom (seed : Int) (sh : Nat) (id : Int) : Nat := (mix id seed / 2 ^ sh).toNat

theorem mix_bounds (id seed : Int) : 0 ≤ mix id seed ∧ mix id seed ≤ 18446744073709551615 := bounds_u64 (wf_bits .xor .u64 _ _)

theorem hom_lt (seed : Int) (sh : Nat) (id : Int) (h : sh ≤ 64) : hom seed sh id < 2 ^ (64 - sh) := by
  unfold hom
  obtain ⟨h0, h1⟩ := mix_bounds id seed
  obtain ⟨m, hm⟩ := Int.eq_ofNat_of_zero_le h0
  rw [hm] at h1 ⊢
  have e : ((m : Int) / 2 ^ sh).toNat = m / 2 ^ sh := by
    rw [show ((2 : Int) ^ sh) = ((2 ^ sh : Nat) : Int) from by simp, ← Int.natCast_ediv, Int.toNat_natCast]
  rw [e]
  apply Nat.div_lt_of_lt_mul
  rw [← Nat.pow_add, show sh + (64 - sh) = 64 from by omega]
  have : (2 : Nat) ^ 64 = 18446744073709551616 := by decide
  omega

theorem hom_val (seed : Int) (sh : Nat) (id : Int) (h1 : 1 ≤ sh) (h : sh ≤ 64) : wrap64 (mix id seed / 2 ^ sh) = (hom seed sh id : Int) := by
  have hb := hom_lt seed sh id h
  have hp : 2 ^ (64 - sh) ≤ 2 ^ 63 := Nat.pow_le_pow_right (by decide) (by omega)
  have hn : 0 ≤ mix id seed / 2 ^ sh := Int.ediv_nonneg (mix_bounds id seed).1 (Int.le_of_lt (Int.pow_pos (by decide)))
  have e : (hom seed sh id : Int) = mix id seed / 2 ^ sh := Int.toNat_of_nonneg hn
  have h63 : (2 : Nat) ^ 63 = 9223372036854775808 := by decide
  rw [← e]
  refine IntWalk.wrap64_in _ ⟨?_, ?_⟩ <;> omega

theorem ret_int {k : IntKind} {a b : Int} (h : a = b) : Ending.returned (.int k a) = .returned (.int k b) := by rw [h]

set_option maxHeartbeats 400000 in
theorem home_any (id seed : Int) (b sh : Nat) (w : World) (h2 : w.cell? ⟨b, 2, none⟩ = some (.int .u64 sh)) (h3 : w.cell? ⟨b, 3, none⟩ = some (.int .u64 seed)) (hsh1 : 1 ≤ sh) (hsh2 : sh ≤ 63) :
    Calls Try.prog 23 #[.pointer (some ⟨b, 0, none⟩), .int .i64 id] w fun e w' => e = .returned (.int .i64 (hom seed sh id : Int)) ∧ w' = w := by
  go_enter Try.func23, Try.ntmps23
  go_wp2
  go_ret
  refine ⟨?_, rfl⟩
  rw [← hom_val seed sh id hsh1 (by omega)]
  exact ret_int rfl

set_option maxHeartbeats 400000 in
theorem zhome_any (id seed : Int) (sh : Nat) (w : World) (hsh1 : 1 ≤ sh) (hsh2 : sh ≤ 63) :
    Calls Try.prog 18 #[.int .u64 seed, .int .u64 sh, .int .i64 id] w fun e w' => e = .returned (.int .i64 (hom seed sh id : Int)) ∧ w.grownBy w' none := by
  go_enter Try.func18, Try.ntmps18
  go_wp2_with fail
  refine (home_any id seed w.heap.size sh _ (by rw [cell_of_row _ _ 2 _ 48 (0, 0) (heap_alloc_new w _)]; rfl) (by rw [cell_of_row _ _ 3 _ 48 (0, 0) (heap_alloc_new w _)]; rfl) hsh1 hsh2).mono ?_
  rintro e w' ⟨rfl, rfl⟩
  go_wp2
  go_ret
  exact ⟨rfl, World.grownBy_alloc w _ none⟩

end Go.Proofs.Qxb6619201a.Home
