/-
  WALKS: (*idTable).get, ZZIdTableGet, zzHas.
-/
import Derived.Test.Qxb6619201aHome
import Derived.Test.Qxb6619201aProbe
namespace Go.Proofs.Qxb6619201a.Get
open Go.RowKit Home Probe

/-- An idTable in memory: its four fields at block bt, its S slots (two cells each) at block bs; a slot that is taken points at an order of that id. -/
structure At (bt bs S sh : Nat) (seed : Int) (T : List Int) (w : World) : Prop where
  slots : w.cell? ⟨bt, 0, none⟩ = some (.slice (some ⟨bs, 0, none⟩) S S)
  n : w.cell? ⟨bt, 1, none⟩ = some (.int .i64 (nz T))
  shift : w.cell? ⟨bt, 2, none⟩ = some (.int .u64 sh)
  seed : w.cell? ⟨bt, 3, none⟩ = some (.int .u64 seed)
  id : ∀ i, i < S → w.cell? ⟨bs, i * 2, none⟩ = some (.int .i64 (T.getD i 0))
  order : ∀ i, i < S → T.getD i 0 ≠ 0 → ∃ b, w.cell? ⟨bs, i * 2 + 1, none⟩ = some (.pointer (some ⟨b, 0, none⟩)) ∧ w.cell? ⟨b, 0, none⟩ = some (.int .i64 (T.getD i 0))

/-- What is known of a table's size: a power of two, its mask and its shift fit it. -/
structure Fits (S sh : Nat) : Prop where
  pos : 2 ≤ S
  top : S ≤ 131072
  sh1 : 1 ≤ sh
  sh2 : sh ≤ 63
  mask : ∀ i, i < S → bits .and .i64 ((i : Int) + 1) ((S : Int) - 1) = (((i + 1) % S : Nat) : Int)
  home : ∀ seed id, hom seed sh id < S

theorem fits_of (b : Nat) (h1 : 1 ≤ b) (hb : b ≤ 17) : Fits (2 ^ b) (64 - b) := by
  have hp : 2 ^ b ≤ 2 ^ 17 := Nat.pow_le_pow_right (by decide) hb
  have hq : 2 ^ 1 ≤ 2 ^ b := Nat.pow_le_pow_right (by decide) h1
  have h17 : (2 : Nat) ^ 17 = 131072 := by decide
  refine ⟨by omega, by omega, by omega, by omega, fun i hi => ?_, fun seed id => ?_⟩
  · have h := bits_mask .i64 63 (by decide) (fun n h0 h1 => by rw [IntKind.wrap_i64]; omega) b (by omega) ((i : Int) + 1) (by omega) (by omega)
    rw [show (((2 ^ b : Nat) : Int) - 1) = 2 ^ b - 1 from by simp, h]
    simp
  · have := hom_lt seed (64 - b) id (by omega)
    rwa [show 64 - (64 - b) = b from by omega] at this

set_option maxHeartbeats 400000 in
theorem get_any (k seed : Int) (bt bs S sh : Nat) (T : List Int) (w : World) (hF : Fits S sh)
    (hA : At bt bs S sh seed T w) (hT : Tab S (hom seed sh) T) (hn : nz T ≠ 0) (hz : nz T < S) :
    Calls Try.prog 24 #[.pointer (some ⟨bt, 0, none⟩), .int .i64 k] w fun e w' => w' = w ∧ 
      ((k ∈ T ∧ k ≠ 0 ∧ ∃ o, e = .returned (.pointer (some ⟨o, 0, none⟩)) ∧ w.cell? ⟨o, 0, none⟩ = some (.int .i64 k)) ∨ ((k = 0 ∨ k ∉ T) ∧ e = .returned (.pointer none))) := by
  obtain ⟨e0, he0, hE⟩ := empty_slot (T := T) (by rw [hT.len]; exact hz)
  rw [hT.len] at he0
  have HE : Hid (T.getD e0 0 = 0) := hE
  clear hE
  have h0 := hA.slots
  have h1 := hA.n
  have h2 := hA.shift
  have h3 := hA.seed
  have hn' : ((nz T : Int) == 0) = false := by simp [hn]
  have hS := hF.top
  have hS1 := hF.pos
  have s1 := hF.sh1
  have s2 := hF.sh2
  have hlt := hF.home seed k
  go_enter Try.func24, Try.ntmps24
  go_wp2_with (go_at_call 23; refine (home_any k seed bt sh _ h2 h3 s1 s2).mono ?_; rintro e w' ⟨rfl, rfl⟩)
  go_loop [6] (fun v => ∃ t i : Nat, v = .int .i64 i ∧ i < S ∧ Hid (i = slot S (hom seed sh k) t ∧ ∀ u, u < t → T.getD (slot S (hom seed sh k) u) 0 ≠ 0 ∧ T.getD (slot S (hom seed sh k) u) 0 ≠ k)) (fun v => dist S e0 (intOf v).toNat)
  case atStart => exact ⟨0, hom seed sh k, rfl, hlt, (slot_zero hlt).symm, fun u h => by omega⟩
  case round =>
    obtain ⟨t, i, rfl, hi, hrun⟩ := hrel
    have hid := hA.id i hi
    obtain ⟨i', hi'⟩ : ∃ i', i' = (i + 1) % S := ⟨_, rfl⟩
    have hm := hF.mask i hi
    rw [← hi'] at hm
    have HI : Hid (i' = (i + 1) % S) := hi'
    clear hi'
    obtain ⟨hslot, hahead⟩ := hrun.out
    have HS : Hid (i = slot S (hom seed sh k) t) := hslot
    have HA : Hid (∀ u, u < t → T.getD (slot S (hom seed sh k) u) 0 ≠ 0 ∧ T.getD (slot S (hom seed sh k) u) 0 ≠ k) := hahead
    clear hslot hahead hrun
    obtain ⟨x, hx⟩ : ∃ x, x = T.getD i 0 := ⟨_, rfl⟩
    rw [← hx] at hid
    have HX : Hid (x = T.getD i 0) := hx
    clear hx
    by_cases c0 : x = 0
    · have t0 : (x != 0) = false := by simp [c0]
      have HC : Hid (x = 0) := c0
      clear c0
      go_wp2
      go_ret
      refine ⟨rfl, .inr ⟨?_, rfl⟩⟩
      by_cases hk : k = 0
      · exact .inl hk
      · exact .inr (hT.miss hk (by rw [← HS.out, ← HX.out]; exact HC.out) HA.out)
    · have t0 : (x != 0) = true := by simp [c0]
      have HC : Hid (x ≠ 0) := c0
      clear c0
      by_cases c1 : x = k
      · have t1 : (x == k) = true := by simp [c1]
        have HK : Hid (x = k) := c1
        clear c1
        obtain ⟨o, ho1, ho2⟩ := hA.order i hi (by rw [← HX.out]; exact HC.out)
        rw [← HX.out] at ho2
        go_wp2
        go_ret
        refine ⟨rfl, .inl ⟨?_, ?_, o, rfl, ?_⟩⟩
        · rw [← HK.out, HX.out]
          exact mem_getD.2 ⟨i, by rw [hT.len]; exact hi, rfl⟩
        · rw [← HK.out]; exact HC.out
        · rw [ho2, HK.out]
      · have t1 : (x == k) = false := by simp [c1]
        have HK : Hid (x ≠ k) := c1
        clear c1
        go_wp2
        have hne : i ≠ e0 := fun e => HC.out (by rw [HX.out, e]; exact HE.out)
        go_round
        case rel =>
          refine ⟨t + 1, i', rfl, by rw [HI.out]; exact Nat.mod_lt _ (by omega), ?_, fun u hu => ?_⟩
          · rw [HI.out, HS.out, slot_succ]
          · by_cases e : u = t
            · subst e
              rw [← HS.out, ← HX.out]
              exact ⟨HC.out, HK.out⟩
            · exact HA.out u (by omega)
        case measure =>
          have hd := dist_step he0 hi hne
          rw [← HI.out] at hd
          simpa [intOf] using hd

theorem ret_pair {a b : Int} {c d : Bool} (h1 : a = b) (h2 : c = d) : Ending.returned (.tuple #[.int .i64 a, .bool c]) = .returned (.tuple #[.int .i64 b, .bool d]) := by rw [h1, h2]

/-- An empty table: nothing is looked at. -/
theorem get_none (k seed : Int) (bt bs S sh : Nat) (T : List Int) (w : World) (hA : At bt bs S sh seed T w) (hn : nz T = 0) :
    Calls Try.prog 24 #[.pointer (some ⟨bt, 0, none⟩), .int .i64 k] w fun e w' => w' = w ∧ e = .returned (.pointer none) := by
  have h1 := hA.n
  rw [hn] at h1
  go_enter Try.func24, Try.ntmps24
  go_wp2
  go_ret
  exact ⟨rfl, rfl⟩

/-- Is k stored? -/
def has (T : List Int) (k : Int) : Bool := k != 0 && T.contains k
def gets (T : List Int) (k : Int) : Int := if has T k then k else 0
theorem gets_yes {T : List Int} {k : Int} (h : has T k = true) : k = gets T k := by simp [gets, h]
theorem gets_no {T : List Int} {k : Int} (h : has T k = false) : 0 = gets T k := by simp [gets, h]

set_option maxHeartbeats 400000 in
theorem zget_any (k seed : Int) (bt bs S sh : Nat) (T : List Int) (w : World) (hF : Fits S sh) (hA : At bt bs S sh seed T w) (hT : Tab S (hom seed sh) T) (hz : nz T < S) :
    Calls Try.prog 20 #[.pointer (some ⟨bt, 0, none⟩), .int .i64 k] w fun e w' => w' = w ∧ e = .returned (.tuple #[.int .i64 (gets T k), .bool (has T k)]) := by
  have hno : (k = 0 ∨ k ∉ T) → has T k = false := by
    rintro (h | h)
    · simp [has, h]
    · simp [has, h]
  by_cases hn : nz T = 0
  · have hk : has T k = false := hno (by
      by_cases h : k = 0
      · exact .inl h
      · exact .inr (mem_of_nz hn h))
    have HK : Hid (has T k = false) := hk
    clear hk hno
    go_enter Try.func20, Try.ntmps20
    go_wp2_with (go_at_call 24; refine (get_none k seed bt bs S sh T _ hA hn).mono ?_; rintro e w' ⟨rfl, rfl⟩)
    go_ret2
    exact ⟨rfl, ret_pair (gets_no HK.out) HK.out.symm⟩
  · have HN : Hid ((k = 0 ∨ k ∉ T) → has T k = false) := hno
    clear hno
    go_enter Try.func20, Try.ntmps20
    go_wp2_with fail
    refine (get_any k seed bt bs S sh T _ hF hA hT hn hz).mono ?_
    rintro e w' ⟨rfl, ⟨hm, hk, o, rfl, ho⟩ | ⟨hk, rfl⟩⟩
    · have HK : Hid (has T k = true) := by simp [Hid, has, hm, hk]
      clear HN hk
      go_wp2
      go_ret2
      exact ⟨rfl, ret_pair (gets_yes HK.out) HK.out.symm⟩
    · have HK : Hid (has T k = false) := HN.out hk
      clear HN hk
      go_wp2
      go_ret2
      exact ⟨rfl, ret_pair (gets_no HK.out) HK.out.symm⟩

end Go.Proofs.Qxb6619201a.Get
