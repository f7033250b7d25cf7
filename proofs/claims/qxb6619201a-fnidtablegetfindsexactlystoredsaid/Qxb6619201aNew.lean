/-
  WALKS: zzHas, the length guard of the law on the table, ZZNewIdTable.
-/
import Derived.Test.Qxb6619201aGet
import Derived.Deep.QuietTactic
import Derived.RegionTactic
namespace Go.Proofs.Qxb6619201a.New
open Go.RowKit Home Probe Get

/-- A slice of int64 that holds the numbers zs (no word on an empty one's address). -/
def Row (w : World) (a : Option Addr) (zs : List Int) : Prop :=
  0 < zs.length → ∃ b off, a = some ⟨b, off, none⟩ ∧ b < w.heap.size ∧ ∀ i, i < zs.length → w.cell? ⟨b, off + i, none⟩ = some (.int .i64 (zs.getD i 0))

theorem Row.below {w w' : World} {a : Option Addr} {zs : List Int} {B : Nat} (h : Row w a zs) (hB : w.heap.size ≤ B) (hb : Below B w w') : Row w' a zs := by
  intro hp
  obtain ⟨b, off, rfl, hlt, hc⟩ := h hp
  exact ⟨b, off, rfl, Nat.lt_of_lt_of_le hlt hb.size, fun i hi => (hb.cell (by exact Nat.lt_of_lt_of_le hlt hB)).trans (hc i hi)⟩

theorem ret_bool {a b : Bool} (h : a = b) : Ending.returned (.bool a) = .returned (.bool b) := by rw [h]

/-- Does zs hold p? -/
def memB (zs : List Int) (p : Int) : Bool := zs.contains p
theorem contains_yes {zs : List Int} {k : Nat} {p : Int} (hk : k < zs.length) (h : zs.getD k 0 = p) : true = memB zs p := by
  have : p ∈ zs := by rw [← h, getD_at hk]; exact List.getElem_mem _
  simp [memB, this]
theorem contains_no {zs : List Int} {p : Int} (h : ∀ j, j < zs.length → zs.getD j 0 ≠ p) : false = memB zs p := by
  have : p ∉ zs := fun hm => by
    obtain ⟨i, hi, e⟩ := mem_getD.1 hm
    exact h i hi e
  simp [memB, this]

set_option maxHeartbeats 400000 in
theorem has_any (a : Option Addr) (cap : Nat) (zs : List Int) (p : Int) (w : World) (hl : zs.length ≤ 1048576) (hr : Row w a zs) :
    Calls Try.prog 21 #[.slice a zs.length cap, .int .i64 p] w fun e w' => w' = w ∧ e = .returned (.bool (memB zs p)) := by
  have HR : Hid (Row w a zs) := hr
  clear hr
  go_enter Try.func21, Try.ntmps21
  go_wp2
  go_loop [5] (fun i => ∃ k : Nat, k ≤ zs.length ∧ i = .int .i64 k ∧ Hid (∀ j, j < k → zs.getD j 0 ≠ p)) (fun i => zs.length - (intOf i).toNat)
  case atStart => exact ⟨0, Nat.zero_le _, rfl, fun j h => by omega⟩
  case round =>
    obtain ⟨k, hk, rfl, hall⟩ := hrel
    by_cases hlt : k < zs.length
    · obtain ⟨b, off, rfl, _, hc⟩ := HR.out (by omega)
      have hcell := hc k hlt
      clear hc
      obtain ⟨x, hx⟩ : ∃ x, x = zs.getD k 0 := ⟨_, rfl⟩
      rw [← hx] at hcell
      have HX : Hid (x = zs.getD k 0) := hx
      clear hx
      by_cases c : x = p
      · have t1 : (x == p) = true := by simp [c]
        have HC : Hid (x = p) := c
        clear c
        go_wp2
        go_ret
        exact ⟨rfl, ret_bool (contains_yes hlt (by rw [← HX.out]; exact HC.out))⟩
      · have t1 : (x == p) = false := by simp [c]
        have HC : Hid (x ≠ p) := c
        clear c
        go_wp2
        go_round
        case rel => exact ⟨k + 1, by omega, by go_num, fun j hj => by
              by_cases e : j = k
              · rw [e, ← HX.out]; exact HC.out
              · exact hall.out j (by omega)⟩
        case measure => simp [intOf]; omega
    · go_wp2
      go_ret
      exact ⟨rfl, ret_bool (contains_no fun j hj => hall.out j (by omega))⟩

theorem guard_any (a0 a1 : Option Addr) (l0 c0 l1 c1 : Nat) (x s : Int) (h0 : l0 ≤ maxLen) (h1 : l1 ≤ maxLen) (w : World) :
    Calls Try.prog 17 #[.slice a0 l0 c0, .slice a1 l1 c1, .int .u8 x, .int .u64 s] w fun e w' => w' = w ∧ e = .returned (.bool (decide (l0 + l1 ≤ 1048576))) := by
  unfold maxLen at h0 h1
  by_cases h : l0 + l1 ≤ 1048576
  · have HD : Hid (decide (l0 + l1 ≤ 1048576) = true) := by simpa [Hid] using h
    go_enter Try.func17, Try.ntmps17
    go_wp2
    go_ret
    exact ⟨rfl, ret_bool HD.out.symm⟩
  · have HD : Hid (decide (l0 + l1 ≤ 1048576) = false) := by simpa [Hid] using h
    go_enter Try.func17, Try.ntmps17
    go_wp2
    all_goals go_ret
    all_goals exact ⟨rfl, ret_bool HD.out.symm⟩

theorem info56 : (Try.prog.info? 56).map (fun i => (i.zero, i.size, i.bytes)) = some (some (.agg #[.int .i64 0, .pointer none]), 2, 16) := by kernel_rfl
theorem under46 : Try.prog.underlying 46 = some (.slice 56) := by kernel_rfl

/-- The slots' block while it is filled: the first i are as T says, the others empty. -/
structure Sl (B S : Nat) (T : List Int) (i : Nat) (w : World) : Prop where
  blk : ∃ cur, w.heap[B]? = some (.cells cur 56 (0, 0)) ∧ cur.size = S * 2
  id : ∀ j, j < S → w.cell? ⟨B, j * 2, none⟩ = some (.int .i64 (if j < i then T.getD j 0 else 0))
  snd : ∀ j, j < S → ∃ v, w.cell? ⟨B, j * 2 + 1, none⟩ = some v
  order : ∀ j, j < S → j < i → T.getD j 0 ≠ 0 → ∃ b, b ≠ B ∧ w.cell? ⟨B, j * 2 + 1, none⟩ = some (.pointer (some ⟨b, 0, none⟩)) ∧ w.cell? ⟨b, 0, none⟩ = some (.int .i64 (T.getD j 0))

theorem made_run (S : Nat) (hS : S ≤ 131072) (T : List Int) (w : World) : ∃ w1, (Instr.makeSlice 46 (.int .i64 (S : Int)) (.int .i64 (S : Int))).run Try.prog w = .ok (.slice (some ⟨w.heap.size, 0, none⟩) S S) w1 ∧
    Sl w.heap.size S T 0 w1 ∧ w.grownBy w1 none ∧ w.heap.size < w1.heap.size := by
  obtain ⟨i, hi, hz0, hz1, hz2⟩ := info_parts info56
  have hr := run_make (P := Try.prog) w 46 56 i _ under46 hi hz0 .i64 .i64 S S (by omega) (by omega) (by rw [hz2]; omega) (by omega)
  rw [hz1] at hr
  simp only [Int.toNat_natCast] at hr
  refine ⟨_, hr, ?_, World.grownBy_alloc w _ none, by simp⟩
  have hb := heap_alloc_new w (.cells (madeCells (Value.agg #[.int .i64 0, .pointer none]).cells (S * 2)) 56)
  have hc : ∀ o, o < S * 2 → (w.alloc (.cells (madeCells (Value.agg #[.int .i64 0, .pointer none]).cells (S * 2)) 56)).cell? ⟨w.heap.size, o, none⟩ = some (if o % 2 = 0 then .int .i64 0 else .pointer none) := by
    intro o ho
    rw [cell_of_row _ _ o _ 56 (0, 0) hb]
    simp [madeCells, ho, Value.cells]
    rcases (show o % 2 = 0 ∨ o % 2 = 1 by omega) with h | h <;> simp [h]
  refine ⟨⟨_, hb, by rw [size_madeCells]⟩, fun j hj => ?_, fun j hj => ⟨_, hc (j * 2 + 1) (by omega)⟩, fun j _ h => by omega⟩
  rw [hc (j * 2) (by omega)]
  simp

theorem cell_past (w : World) (o : Obj) (a : Addr) (h : a.block < w.heap.size) : (w.alloc o).cell? a = w.cell? a := World.cell?_of_block (Below.heap_alloc w o _ h)
theorem frozen_past (w : World) (o : Obj) (a : Addr) (h : a.block < w.heap.size) : (w.alloc o).frozen? a = w.frozen? a := World.frozen?_of_block (Below.heap_alloc w o _ h)

/-- An empty slot is passed over. -/
theorem Sl.skip {B S : Nat} {T : List Int} {i : Nat} {w : World} (h : Sl B S T i w) (h0 : T.getD i 0 = 0) : Sl B S T (i + 1) w := by
  refine ⟨h.blk, fun j hj => ?_, h.snd, fun j hj hji hne => ?_⟩
  · rw [h.id j hj]
    rcases Nat.lt_trichotomy j i with e | e | e
    · rw [if_pos e, if_pos (by omega)]
    · subst e
      rw [if_neg (by omega), if_pos (by omega), h0]
    · rw [if_neg (by omega), if_neg (by omega)]
  · by_cases e : j = i
    · subst e
      exact absurd h0 hne
    · exact h.order j hj (by omega) hne

/-- A slot is filled: a new order behind it. -/
theorem Sl.put {B S : Nat} {T : List Int} {i : Nat} {w : World} {x : Int} {c : Array Value} (h : Sl B S T i w) (hi : i < S) (hx : x = T.getD i 0) (hB : B < w.heap.size) (hc : c[0]? = some (.int .i64 x)) :
    Sl B S T (i + 1) (((w.setCell ⟨B, i * 2, none⟩ (.int .i64 x)).setCell ⟨B, i * 2 + 1, none⟩ (.pointer (some ⟨w.heap.size, 0, none⟩))).alloc (.cells c 54)).drew := by
  obtain ⟨cur, hb, hcs⟩ := h.blk
  have b1 := heap_setCell_same w B (i * 2) cur 56 (.int .i64 x) hb
  have b2 := heap_setCell_same _ B (i * 2 + 1) _ 56 (.pointer (some ⟨w.heap.size, 0, none⟩)) b1
  have hsz : ((w.setCell ⟨B, i * 2, none⟩ (.int .i64 x)).setCell ⟨B, i * 2 + 1, none⟩ (.pointer (some ⟨w.heap.size, 0, none⟩))).heap.size = w.heap.size := by simp [World.setCell]
  have hoth : ∀ b, b ≠ B → ((w.setCell ⟨B, i * 2, none⟩ (.int .i64 x)).setCell ⟨B, i * 2 + 1, none⟩ (.pointer (some ⟨w.heap.size, 0, none⟩))).heap[b]? = w.heap[b]? := fun b hne => by
    rw [Below.heap_setCell _ _ _ _ (by exact hne), Below.heap_setCell _ _ _ _ (by exact hne)]
  generalize ((w.setCell ⟨B, i * 2, none⟩ (.int .i64 x)).setCell ⟨B, i * 2 + 1, none⟩ (.pointer (some ⟨w.heap.size, 0, none⟩))) = w2 at b2 hsz hoth
  have b3 : (w2.alloc (.cells c 54)).heap[B]? = some (.cells ((cur.setIfInBounds (i * 2) (.int .i64 x)).setIfInBounds (i * 2 + 1) (.pointer (some ⟨w.heap.size, 0, none⟩))) 56 (0, 0)) := by
    rw [Below.heap_alloc _ _ _ (by omega)]; exact b2
  have cell : ∀ o, (w2.alloc (.cells c 54)).drew.cell? ⟨B, o, none⟩ = ((cur.setIfInBounds (i * 2) (.int .i64 x)).setIfInBounds (i * 2 + 1) (.pointer (some ⟨w.heap.size, 0, none⟩)))[o]? := fun o => cell_of_row (w2.alloc (.cells c 54)) B o _ 56 (0, 0) b3
  have old : ∀ o, w.cell? ⟨B, o, none⟩ = cur[o]? := fun o => cell_of_row w B o cur 56 (0, 0) hb
  refine ⟨⟨_, b3, by simpa using hcs⟩, fun j hj => ?_, fun j hj => ?_, fun j hj hji hne => ?_⟩
  · rw [cell, Array.getElem?_setIfInBounds_ne (by omega)]
    by_cases e : j = i
    · subst e
      rw [Array.getElem?_setIfInBounds_self_of_lt (by omega), if_pos (by omega), hx]
    · rw [Array.getElem?_setIfInBounds_ne (by omega), ← old, h.id j hj]
      by_cases e2 : j < i
      · rw [if_pos e2, if_pos (by omega)]
      · rw [if_neg e2, if_neg (by omega)]
  · by_cases e : j = i
    · subst e
      exact ⟨_, by rw [cell, Array.getElem?_setIfInBounds_self_of_lt (by simp; omega)]⟩
    · obtain ⟨v, hv⟩ := h.snd j hj
      exact ⟨v, by rw [cell, Array.getElem?_setIfInBounds_ne (by omega), Array.getElem?_setIfInBounds_ne (by omega), ← old, hv]⟩
  · by_cases e : j = i
    · subst e
      refine ⟨w.heap.size, by omega, by rw [cell, Array.getElem?_setIfInBounds_self_of_lt (by simp; omega)], ?_⟩
      have := World.cell?_alloc_at (w := w2) c 54 w.heap.size 0 hsz.symm
      exact this.trans (by rw [hc, hx])
    · obtain ⟨b, hb1, hb2, hb3⟩ := h.order j hj (by omega) hne
      refine ⟨b, hb1, by rw [cell, Array.getElem?_setIfInBounds_ne (by omega), Array.getElem?_setIfInBounds_ne (by omega), ← old, hb2], ?_⟩
      have hlt := World.block_lt_of_cell? w _ hb3
      have e1 : (w2.alloc (.cells c 54)).heap[b]? = w.heap[b]? := by rw [Below.heap_alloc _ _ _ (by rw [hsz]; exact hlt), hoth b hb1]
      exact (World.cell?_of_block (w := w) (a := ⟨b, 0, none⟩) e1).trans hb3

set_option maxHeartbeats 400000 in
theorem new_any (g S sh n : Nat) (seed : Int) (T : List Int) (w : World) (hS : S ≤ 131072) (hn : n = nz T) (hg : g < w.heap.size) (hc : ∀ i, i < S → w.cell? ⟨g, i, none⟩ = some (.int .i64 (T.getD i 0))) :
    Calls Try.prog 19 #[.slice (some ⟨g, 0, none⟩) S S, .int .i64 n, .int .u64 sh, .int .u64 seed] w fun e w' => ∃ bt bs, e = .returned (.pointer (some ⟨bt, 0, none⟩)) ∧ At bt bs S sh seed T w' ∧ Below w.heap.size w w' := by
  obtain ⟨w1, hmk, hsl, hgr, hsz⟩ := made_run S hS T w
  have HC : Hid (∀ i, i < S → w.cell? ⟨g, i, none⟩ = some (.int .i64 (T.getD i 0))) := hc
  have HN : Hid (n = nz T) := hn
  clear hc hn
  go_enter Try.func19, Try.ntmps19
  go_wp2
  go_loopw [10] (fun v wr => ∃ i : Nat, i ≤ S ∧ v = .int .i64 i ∧ Sl w.heap.size S T i wr ∧ Below w.heap.size w wr ∧ w.heap.size < wr.heap.size) (fun v _ => S - (intOf v).toNat)
  case atStart => exact ⟨0, Nat.zero_le _, rfl, hsl, ⟨hgr.os, hgr.tape, hgr.output, hgr.size, fun k hk => hgr.block k hk (by simp)⟩, hsz⟩
  case round =>
    obtain ⟨i, hi, rfl, hs, hbel, hsize⟩ := hrel
    clear hmk hsl hgr hsz
    by_cases hlt : i < S
    · have hci : wr.cell? ⟨g, i, none⟩ = some (.int .i64 (T.getD i 0)) := (hbel.cell (by exact hg)).trans (HC.out i hlt)
      obtain ⟨x, hx⟩ : ∃ x, x = T.getD i 0 := ⟨_, rfl⟩
      rw [← hx] at hci
      have HX : Hid (x = T.getD i 0) := hx
      clear hx
      by_cases c : x = 0
      · have t1 : (x != 0) = false := by simp [c]
        have H0 : Hid (x = 0) := c
        clear c
        go_wp2
        go_roundw
        case rel => exact ⟨i + 1, by omega, by go_num, hs.skip (by rw [← HX.out]; exact H0.out), hbel, hsize⟩
        case measure => simp [intOf]; omega
      · have t1 : (x != 0) = true := by simp [c]
        clear c
        have hb0 := hs.id i hlt
        rw [if_neg (by omega)] at hb0
        obtain ⟨v, hb1⟩ := hs.snd i hlt
        obtain ⟨cur, hblk, hcur⟩ := hs.blk
        have hf0 := frozen_of_row wr w.heap.size (i * 2) cur 56 hblk
        have hf1 := frozen_of_row wr w.heap.size (i * 2 + 1) cur 56 hblk
        clear hblk
        have hgl : g < wr.heap.size := by omega
        have q0 : ∀ c, (wr.alloc (.cells c 54)).cell? ⟨g, i, none⟩ = some (.int .i64 x) := fun c => by rw [cell_past wr _ _ (by exact hgl)]; exact hci
        have q1 : ∀ c, (wr.alloc (.cells c 54)).cell? ⟨w.heap.size, i * 2, none⟩ = some (.int .i64 0) := fun c => by rw [cell_past wr _ _ (by exact hsize)]; exact hb0
        have q2 : ∀ c, (wr.alloc (.cells c 54)).cell? ⟨w.heap.size, i * 2 + 1, none⟩ = some v := fun c => by rw [cell_past wr _ _ (by exact hsize)]; exact hb1
        have q3 : ∀ c, (wr.alloc (.cells c 54)).frozen? ⟨w.heap.size, i * 2, none⟩ = false := fun c => by rw [frozen_past wr _ _ (by exact hsize)]; exact hf0
        have q4 : ∀ c, (wr.alloc (.cells c 54)).frozen? ⟨w.heap.size, i * 2 + 1, none⟩ = false := fun c => by rw [frozen_past wr _ _ (by exact hsize)]; exact hf1
        go_wp2
        go_region
        go_wp2
        go_roundw
        case rel => exact ⟨i + 1, by omega, by go_num, hs.put hlt HX.out hsize rfl, (((hbel.setCell (Nat.le_refl _) _).setCell (Nat.le_refl _) _).alloc (by simp [World.setCell]; omega) _).drew, by simp [World.setCell]; omega⟩
        case measure => simp [intOf]; omega
    · have ei : i = S := by omega
      subst ei
      go_wp2
      go_ret
      refine ⟨wr.heap.size, w.heap.size, rfl, ?_, hbel.alloc (by omega) _⟩
      have hat : ∀ o, (wr.alloc (.cells #[.slice (some ⟨w.heap.size, 0, none⟩) i i, .int .i64 n, .int .u64 sh, .int .u64 seed] 48)).cell? ⟨wr.heap.size, o, none⟩ = #[.slice (some ⟨w.heap.size, 0, none⟩) i i, .int .i64 n, .int .u64 sh, .int .u64 seed][o]? := fun o => cell_of_row _ _ o _ 48 (0, 0) (heap_alloc_new wr _)
      refine ⟨hat 0, by rw [← HN.out]; exact hat 1, hat 2, hat 3, fun j hj => ?_, fun j hj hne => ?_⟩
      · rw [cell_past wr _ _ (by exact hsize), hs.id j hj, if_pos hj]
      · obtain ⟨b, _, h2, h3⟩ := hs.order j hj hj hne
        have hlt3 := World.block_lt_of_cell? wr _ h3
        exact ⟨b, by rw [cell_past wr _ _ (by exact hsize)]; exact h2, by rw [cell_past wr _ _ hlt3]; exact h3⟩

end Go.Proofs.Qxb6619201a.New
