/-
  THE LAW ON THE TABLE, WALKED: FnIdTableGetFindsExactlyStored.
-/
import Derived.Test.Qxb6619201aNew
namespace Go.Proofs.Qxb6619201a.IdLaw
open Go.RowKit Home Probe Get New

/-- The block of the ids while they are laid in. -/
def Ids (g : Nat) (T : List Int) (w : World) : Prop := w.heap[g]? = some (.cells (T.map (Value.int .i64)).toArray 2 (0, 0))

theorem Ids.cell {g : Nat} {T : List Int} {w : World} (h : Ids g T w) {i : Nat} (hi : i < T.length) : w.cell? ⟨g, i, none⟩ = some (.int .i64 (T.getD i 0)) := by
  rw [cell_of_row w g i _ 2 (0, 0) h]
  simp [List.getElem?_eq_getElem hi]
theorem Ids.free {g : Nat} {T : List Int} {w : World} (h : Ids g T w) (i : Nat) : w.frozen? ⟨g, i, none⟩ = false := frozen_of_row w g i _ 2 h
theorem Ids.put {g : Nat} {T : List Int} {w : World} (h : Ids g T w) (i : Nat) (x : Int) : Ids g (T.set i x) (w.setCell ⟨g, i, none⟩ (.int .i64 x)) := by
  unfold Ids
  rw [heap_setCell_same w g i _ 2 (.int .i64 x) h]
  simp [List.map_set]
theorem Ids.grown {g : Nat} {T : List Int} {w w' : World} (h : Ids g T w) (hg : w.grownBy w' none) : Ids g T w' := by
  unfold Ids at *
  rw [hg.block g (lt_of_block h) (by simp)]
  exact h

theorem info2 : (Try.prog.info? 2).map (fun i => (i.zero, i.size, i.bytes)) = some (some (.int .i64 0), 1, 8) := by kernel_rfl
theorem under36 : Try.prog.underlying 36 = some (.slice 2) := by kernel_rfl

theorem ids_run (S : Nat) (hS : S ≤ 131072) (w : World) : ∃ w1, (Instr.makeSlice 36 (.int .i64 (S : Int)) (.int .i64 (S : Int))).run Try.prog w = .ok (.slice (some ⟨w.heap.size, 0, none⟩) S S) w1 ∧
    Ids w.heap.size (List.replicate S 0) w1 ∧ Below w.heap.size w w1 ∧ w.heap.size < w1.heap.size := by
  obtain ⟨i, hi, hz0, hz1, hz2⟩ := info_parts info2
  have hr := run_make (P := Try.prog) w 36 2 i _ under36 hi hz0 .i64 .i64 S S (by omega) (by omega) (by rw [hz2]; omega) (by omega)
  rw [hz1] at hr
  simp only [Int.toNat_natCast] at hr
  refine ⟨_, hr, ?_, (Below.refl _ _).alloc (Nat.le_refl _) _, by simp⟩
  unfold Ids
  rw [heap_alloc_new, List.map_replicate, Nat.mul_one]
  have := toList_madeCells_one (.int .i64 0) S
  congr 2
  apply Array.ext'
  exact this

/-- What the table's size and shift are good for. -/
structure Sized (b x S sh n : Nat) : Prop where
  fits : Fits S sh
  pow : wrap64 (2 ^ (b + x)) = (S : Int)
  shift : (64 : Int) - ((b : Int) + (x : Int)) = (sh : Int)
  half : 2 * n ≤ S

theorem wrap_pow (b : Nat) (hb : b ≤ 17) : wrap64 (2 ^ b) = ((2 ^ b : Nat) : Int) := by
  have hp : 2 ^ b ≤ 2 ^ 17 := Nat.pow_le_pow_right (by decide) hb
  have h17 : (2 : Nat) ^ 17 = 131072 := by decide
  rw [show ((2 : Int) ^ b) = ((2 ^ b : Nat) : Int) from by simp]
  generalize 2 ^ b = p at hp
  refine IntWalk.wrap64_in _ ⟨?_, ?_⟩ <;> omega

theorem sized (b x n : Nat) (h1 : 1 ≤ b) (hb : b ≤ 13) (hx : x ≤ 3) (hn : 2 * n ≤ 2 ^ b) : ∃ S sh, Sized b x S sh n := by
  refine ⟨2 ^ (b + x), 64 - (b + x), fits_of (b + x) (by omega) (by omega), wrap_pow (b + x) (by omega), by omega, ?_⟩
  exact Nat.le_trans hn (Nat.pow_le_pow_right (by decide) (by omega))

theorem pow_room {b n : Nat} (hn : n ≤ 4096) (h : 2 ^ b < 2 * n) : b < 13 := by
  rcases Nat.lt_or_ge b 13 with h' | h'
  · exact h'
  · have : 2 ^ 13 ≤ 2 ^ b := Nat.pow_le_pow_right (by decide) h'
    have h13 : (2 : Nat) ^ 13 = 8192 := by decide
    omega

/-- The contracts at a home that is a letter: the hash's own text stays out of the walk. -/
theorem zhome_f (id seed : Int) (sh : Nat) (hf : Int → Nat) (he : Hid (hf = hom seed sh)) (w : World) (hsh1 : 1 ≤ sh) (hsh2 : sh ≤ 63) :
    Calls Try.prog 18 #[.int .u64 seed, .int .u64 sh, .int .i64 id] w fun e w' => e = .returned (.int .i64 (hf id : Int)) ∧ w.grownBy w' none :=
  (zhome_any id seed sh w hsh1 hsh2).mono fun e w' ⟨h1, h2⟩ => ⟨by rw [h1, he.out], h2⟩
theorem zget_yes (k seed : Int) (bt bs S sh : Nat) (hf : Int → Nat) (he : Hid (hf = hom seed sh)) (T : List Int) (w : World) (hF : Fits S sh) (hA : At bt bs S sh seed T w) (hT : Tab S hf T) (hz : nz T < S) (hk : has T k = true) :
    Calls Try.prog 20 #[.pointer (some ⟨bt, 0, none⟩), .int .i64 k] w fun e w' => w' = w ∧ e = .returned (.tuple #[.int .i64 k, .bool true]) :=
  (zget_any k seed bt bs S sh T w hF hA (he.out ▸ hT) hz).mono fun e w' ⟨h1, h2⟩ => ⟨h1, by rw [h2, hk, ← gets_yes hk]⟩
theorem zget_no (k seed : Int) (bt bs S sh : Nat) (hf : Int → Nat) (he : Hid (hf = hom seed sh)) (T : List Int) (w : World) (hF : Fits S sh) (hA : At bt bs S sh seed T w) (hT : Tab S hf T) (hz : nz T < S) (hk : has T k = false) :
    Calls Try.prog 20 #[.pointer (some ⟨bt, 0, none⟩), .int .i64 k] w fun e w' => w' = w ∧ e = .returned (.tuple #[.int .i64 0, .bool false]) :=
  (zget_any k seed bt bs S sh T w hF hA (he.out ▸ hT) hz).mono fun e w' ⟨h1, h2⟩ => ⟨h1, by rw [h2, hk, ← gets_no hk]⟩
theorem has_at (a : Option Addr) (cap : Nat) (zs : List Int) (p : Int) (b : Bool) (w : World) (hl : zs.length ≤ 1048576) (hr : Row w a zs) (hb : memB zs p = b) :
    Calls Try.prog 21 #[.slice a zs.length cap, .int .i64 p] w fun e w' => w' = w ∧ e = .returned (.bool b) :=
  (has_any a cap zs p w hl hr).mono fun e w' ⟨h1, h2⟩ => ⟨h1, by rw [h2, hb]⟩

theorem has_iff {S : Nat} {h : Int → Nat} {ks T : List Int} (H : Ins S h ks ks.length T) (k : Int) (hk : k ≠ 0) : has T k = memB ks k := by
  have hm := H.mem k hk
  rw [List.take_length] at hm
  have hk' : (k != 0) = true := by simp [hk]
  unfold has memB
  rw [hk', Bool.true_and, Bool.eq_iff_iff, List.contains_iff_mem, List.contains_iff_mem]
  exact hm
theorem has_zero (T : List Int) (k : Int) (hk : k = 0) : has T k = false := by simp [has, hk]

set_option maxRecDepth 100000 in
set_option maxHeartbeats 4000000 in
theorem walk_main (a0 a1 : Option Addr) (c0 c1 : Nat) (ks ps : List Int) (x : Nat) (seed : Int) (hx : x ≤ 3) (h0 : ks.length ≤ 4096) (h1 : ps.length ≤ 4096) (w : World) (hr0 : Row w a0 ks) (hr1 : Row w a1 ps) :
    Calls Try.prog 6 #[.slice a0 ks.length c0, .slice a1 ps.length c1, .int .u8 x, .int .u64 seed] w fun e w' => e = .returned (.bool true) ∧ Below w.heap.size w w' := by
  have m0 : ks.length ≤ maxLen := by unfold maxLen; omega
  have m1 : ps.length ≤ maxLen := by unfold maxLen; omega
  have hd : decide (ks.length + ps.length ≤ 1048576) = true := by simp; omega
  have R0 : Hid (Row w a0 ks) := hr0
  have R1 : Hid (Row w a1 ps) := hr1
  clear hr0 hr1
  go_enter Try.func6, Try.ntmps6
  go_wp2_with (go_at_call 17; refine (New.guard_any _ _ _ _ _ _ _ _ m0 m1 _).mono ?_; rintro e w' ⟨rfl, rfl⟩)
  clear m0 m1 hd
  go_loop [9] (fun v => ∃ b : Nat, 1 ≤ b ∧ b ≤ 13 ∧ v = .int .u64 b) (fun v => 14 - (intOf v).toNat)
  case atStart => exact ⟨1, by omega, by omega, rfl⟩
  case round =>
    obtain ⟨b, hb1, hb2, rfl⟩ := hrel
    obtain ⟨p, hp⟩ : ∃ p : Nat, p = 2 ^ b := ⟨_, rfl⟩
    have hw := wrap_pow b (by omega)
    rw [← hp] at hw
    have HP : Hid (p = 2 ^ b) := hp
    clear hp
    by_cases hlt : p < 2 * ks.length
    · go_wp2_with fail
      have hb3 : b < 13 := pow_room h0 (by rw [← HP.out]; exact hlt)
      go_round
      case rel => exact ⟨b + 1, by omega, by omega, by go_num⟩
      case measure => simp [intOf]; omega
    · obtain ⟨S, sh, hSz⟩ := sized b x ks.length hb1 hb2 hx (by rw [← HP.out]; omega)
      have hpow := hSz.pow
      have hshift := hSz.shift
      have hF := hSz.fits
      have hS := hF.top
      have hS1 := hF.pos
      obtain ⟨w1, hmk, hids, hbel, hsz⟩ := ids_run S hS w'
      have hhalf := hSz.half
      obtain ⟨hf, hhf⟩ : ∃ hf, hf = hom seed sh := ⟨_, rfl⟩
      have HF : Hid (hf = hom seed sh) := hhf
      clear hhf
      have hhome : Hid (∀ id, hf id < S) := fun id => by rw [HF.out]; exact hF.home seed id
      go_wp2_with fail
      clear hw HP hpow hshift hmk hSz
      go_loopw [14, 15] (fun cnt j wr => ∃ (jn : Nat) (T : List Int), jn ≤ ks.length ∧ j = .int .i64 jn ∧ cnt = .int .i64 (nz T) ∧ nz T ≤ 4096 ∧ Hid (Ins S hf ks jn T) ∧ Hid (Ids w'.heap.size T wr) ∧ Hid (Below w'.heap.size w' wr) ∧ w'.heap.size < wr.heap.size) (fun _ j _ => ks.length - (intOf j).toNat)
      case atStart => exact ⟨0, List.replicate S 0, Nat.zero_le _, rfl, by rw [nz_zero]; rfl, by rw [nz_zero]; omega, Ins.start _ _ _, hids, hbel, hsz⟩
      case round =>
        obtain ⟨jn, T, hjn, rfl, rfl, hnz, hins, hids, hbel, hsz⟩ := hrel
        by_cases hj : jn < ks.length
        · obtain ⟨bk, off, rfl, hbk, hc⟩ := (R0.out.below (Nat.le_refl _) hbel.out) (by omega)
          have hcell := hc jn hj
          clear hc
          obtain ⟨k, hk⟩ : ∃ k, k = ks.getD jn 0 := ⟨_, rfl⟩
          rw [← hk] at hcell
          have HK : Hid (k = ks.getD jn 0) := hk
          clear hk
          by_cases ck : k = 0
          · have t1 : (k == 0) = true := by simp [ck]
            have H0 : Hid (k = 0) := ck
            clear ck
            go_wp2_with fail
            go_roundw
            case rel => exact ⟨jn + 1, T, by omega, by go_num, rfl, hnz, hins.out.skip hj (by rw [← HK.out]; exact H0.out), hids, hbel, hsz⟩
            case measure => simp [intOf]; omega
          · have t1 : (k == 0) = false := by simp [ck]
            have H0 : Hid (k ≠ 0) := ck
            clear ck
            have hhk : hf k < S := hhome.out k
            go_wp2_with fail
            refine (zhome_f k seed sh hf HF _ hF.sh1 hF.sh2).mono ?_
            rintro e w2 ⟨rfl, hgr⟩
            have hids2 : Hid (Ids w'.heap.size T w2) := hids.out.grown hgr
            have hbel2 : Hid (Below w'.heap.size w' w2) := hbel.out.grown hgr hbel.out.size (by simp)
            have hsz2 : w'.heap.size < w2.heap.size := Nat.lt_of_lt_of_le hsz hgr.size
            clear hgr hids hbel hsz hcell
            go_wp2_with fail
            go_loopw [14, 17, 18, 19] (fun cnt iv pl st ws => ∃ t : Nat, t ≤ S ∧ st = .int .i64 t ∧ Hid (Below w'.heap.size w' ws) ∧ w'.heap.size < ws.heap.size ∧
                ((pl = .bool false ∧ cnt = .int .i64 (nz T) ∧ Hid (Ids w'.heap.size T ws) ∧ ∃ i : Nat, iv = .int .i64 i ∧ i < S ∧ Hid (i = slot S (hf k) t ∧ ∀ u, u < t → T.getD (slot S (hf k) u) 0 ≠ 0 ∧ T.getD (slot S (hf k) u) 0 ≠ k)) ∨
                 (pl = .bool true ∧ ∃ T' : List Int, cnt = .int .i64 (nz T') ∧ nz T' ≤ 4096 ∧ Hid (Ids w'.heap.size T' ws) ∧ Hid (Ins S hf ks (jn + 1) T') ∧ ∃ i : Nat, iv = .int .i64 i)))
              (fun _ _ _ st _ => S - (intOf st).toNat)
            case atStart => exact ⟨0, Nat.zero_le _, rfl, hbel2, hsz2, .inl ⟨rfl, rfl, hids2, hf k, rfl, hhk, (slot_zero hhk).symm, fun u hu => by omega⟩⟩
            case round =>
              obtain ⟨t, ht, rfl, hbel, hsz, ⟨rfl, rfl, hids, i, rfl, hi, hrun⟩ | ⟨rfl, T', rfl, hnz', hids, hins', i, rfl⟩⟩ := hrel
              · have hlenT : Hid (T.length = S) := hins.out.tab.len
                by_cases htS : t < S
                · obtain ⟨y, hy⟩ : ∃ y, y = T.getD i 0 := ⟨_, rfl⟩
                  have hcell := hids.out.cell (i := i) (by rw [hlenT.out]; exact hi)
                  rw [← hy] at hcell
                  have HY : Hid (y = T.getD i 0) := hy
                  clear hy
                  by_cases cy : y = k
                  · have t2 : (y == k) = true := by simp [cy]
                    have H1 : Hid (y = k) := cy
                    clear cy
                    go_wp2_with fail
                    go_roundw
                    case rel => exact ⟨t + 1, by omega, by go_num, hbel, hsz, .inr ⟨rfl, T, rfl, hnz, hids, hins.out.old hj hi (by rw [← HY.out, ← HK.out]; exact H1.out), i, rfl⟩⟩
                    case measure => simp [intOf]; omega
                  · have t2 : (y == k) = false := by simp [cy]
                    have H1 : Hid (y ≠ k) := cy
                    clear cy
                    by_cases cz : y = 0
                    · have t3 : (y == 0) = true := by simp [cz]
                      have H2 : Hid (y = 0) := cz
                      clear cz
                      have hfree := hids.out.free i
                      have hP := hins.out.put (t := t) (by omega) hj (by rw [← HK.out]; exact H0.out) (by rw [← HK.out, ← hrun.out.1, ← HY.out]; exact H2.out) (by rw [← HK.out]; exact fun u hu => (hrun.out.2 u hu).1)
                      rw [← HK.out, ← hrun.out.1] at hP
                      have HP : Hid (Ins S hf ks (jn + 1) (T.set i k) ∧ nz (T.set i k) = nz T + 1) := hP
                      clear hP
                      go_wp2_with fail
                      go_roundw
                      case rel => exact ⟨t + 1, by omega, by go_num, hbel.out.setCell (Nat.le_refl _) _, by simpa [World.setCell] using hsz, .inr ⟨rfl, T.set i k, by rw [HP.out.2]; go_num, by have h1 := HP.out.1.few; omega, hids.out.put i k, HP.out.1, i, rfl⟩⟩
                      case measure => simp [intOf]; omega
                    · have t3 : (y == 0) = false := by simp [cz]
                      have H2 : Hid (y ≠ 0) := cz
                      clear cz
                      obtain ⟨i', hi'⟩ : ∃ i', i' = (i + 1) % S := ⟨_, rfl⟩
                      have hm := hF.mask i hi
                      rw [← hi'] at hm
                      have HI : Hid (i' = (i + 1) % S) := hi'
                      clear hi'
                      go_wp2_with fail
                      go_roundw
                      case rel =>
                        refine ⟨t + 1, by omega, by go_num, hbel, hsz, .inl ⟨rfl, rfl, hids, i', rfl, by rw [HI.out]; exact Nat.mod_lt _ (by omega), by rw [HI.out, hrun.out.1, slot_succ], fun u hu => ?_⟩⟩
                        by_cases e : u = t
                        · subst e
                          rw [← hrun.out.1, ← HY.out]
                          exact ⟨H2.out, H1.out⟩
                        · exact hrun.out.2 u (by omega)
                      case measure => simp [intOf]; omega
                · exact (hins.out.not_round (by omega) hhk (fun u hu => (hrun.out.2 u (by omega)).1)).elim
              · by_cases htS : t < S
                all_goals
                  go_wp2_with fail
                  go_roundw
                  case rel => exact ⟨jn + 1, T', by omega, by go_num, rfl, hnz', hins', hids, hbel, hsz⟩
                  case measure => simp [intOf]; omega
        · have ej : jn = ks.length := by omega
          subst ej
          have hlenT : Hid (T.length = S) := hins.out.tab.len
          have hz : nz T < S := by have := hins.out.few; omega
          go_wp2_with fail
          refine (new_any w'.heap.size S sh (nz T) seed T _ hS rfl hsz (fun i hi => hids.out.cell (by rw [hlenT.out]; exact hi))).mono ?_
          rintro e w3 ⟨bt, bs, rfl, hAt, hbel3⟩
          have B3 : Hid (Below w'.heap.size w' w3) := hbel.out.trans (hbel3.mono (by omega))
          have HA : Hid (At bt bs S sh seed T w3) := hAt
          clear hbel3 hids hbel hsz hAt
          go_wp2_with fail
          go_loop [21] (fun v => ∃ j : Nat, j ≤ ks.length ∧ v = .int .i64 j) (fun v => ks.length - (intOf v).toNat)
          case atStart => exact ⟨0, Nat.zero_le _, rfl⟩
          case round =>
            obtain ⟨j, hj1, rfl⟩ := hrel
            by_cases hj : j < ks.length
            · obtain ⟨bk, off, rfl, hbk, hc⟩ := (R0.out.below (Nat.le_refl _) B3.out) (by omega)
              have hcell := hc j hj
              clear hc
              obtain ⟨k, hk⟩ : ∃ k, k = ks.getD j 0 := ⟨_, rfl⟩
              rw [← hk] at hcell
              by_cases ck : k = 0
              · have t1 : (k == 0) = true := by simp [ck]
                clear ck hk
                go_wp2_with fail
                go_round
                case rel => exact ⟨j + 1, by omega, by go_num⟩
                case measure => simp [intOf]; omega
              · have t1 : (k == 0) = false := by simp [ck]
                have hm : Hid (has T k = true) := by
                  rw [Hid, has_iff hins.out k ck]
                  exact (contains_yes hj hk.symm).symm
                clear ck hk
                go_wp2_with (go_at_call 20; refine (zget_yes k seed bt bs S sh hf HF T _ hF HA.out hins.out.tab hz hm.out).mono ?_; rintro e w' ⟨rfl, rfl⟩)
                go_round
                case rel => exact ⟨j + 1, by omega, by go_num⟩
                case measure => simp [intOf]; omega
            · go_wp2_with fail
              go_loop [25] (fun v => ∃ q : Nat, q ≤ ps.length ∧ v = .int .i64 q) (fun v => ps.length - (intOf v).toNat)
              case atStart => exact ⟨0, Nat.zero_le _, rfl⟩
              case round =>
                obtain ⟨q, hq1, rfl⟩ := hrel
                by_cases hq : q < ps.length
                · obtain ⟨bk, off, rfl, hbk, hc⟩ := (R1.out.below (Nat.le_refl _) B3.out) (by omega)
                  have hcell := hc q hq
                  clear hc
                  obtain ⟨k, hk⟩ : ∃ k, k = ps.getD q 0 := ⟨_, rfl⟩
                  rw [← hk] at hcell
                  have hrow : Hid (Row w3 a0 ks) := R0.out.below (Nat.le_refl _) B3.out
                  by_cases ck : k = 0
                  · have t1 : (k != 0) = false := by simp [ck]
                    have hm : Hid (has T k = false) := has_zero T k ck
                    clear ck hk
                    go_wp2_with (go_at_call 20; refine (zget_no k seed bt bs S sh hf HF T _ hF HA.out hins.out.tab hz hm.out).mono ?_; rintro e w' ⟨rfl, rfl⟩)
                    go_round
                    case rel => exact ⟨q + 1, by omega, by go_num⟩
                    case measure => simp [intOf]; omega
                  · have t1 : (k != 0) = true := by simp [ck]
                    have hm0 := has_iff hins.out k ck
                    cases hb : memB ks k with
                    | true =>
                      have hm : Hid (has T k = true) := by rw [Hid, hm0, hb]
                      have hb' : Hid (memB ks k = true) := hb
                      clear ck hk hm0 hb
                      go_wp2_with (first | (go_at_call 20; refine (zget_yes k seed bt bs S sh hf HF T _ hF HA.out hins.out.tab hz hm.out).mono ?_; rintro e w' ⟨rfl, rfl⟩) | (go_at_call 21; refine (has_at _ _ ks k true _ (by omega) hrow.out hb'.out).mono ?_; rintro e w' ⟨rfl, rfl⟩))
                      go_round
                      case rel => exact ⟨q + 1, by omega, by go_num⟩
                      case measure => simp [intOf]; omega
                    | false =>
                      have hm : Hid (has T k = false) := by rw [Hid, hm0, hb]
                      have hb' : Hid (memB ks k = false) := hb
                      clear ck hk hm0 hb
                      go_wp2_with (first | (go_at_call 20; refine (zget_no k seed bt bs S sh hf HF T _ hF HA.out hins.out.tab hz hm.out).mono ?_; rintro e w' ⟨rfl, rfl⟩) | (go_at_call 21; refine (has_at _ _ ks k false _ (by omega) hrow.out hb'.out).mono ?_; rintro e w' ⟨rfl, rfl⟩))
                      go_round
                      case rel => exact ⟨q + 1, by omega, by go_num⟩
                      case measure => simp [intOf]; omega
                · go_wp2_with fail
                  go_ret
                  exact ⟨rfl, B3.out⟩

set_option maxRecDepth 100000 in
set_option maxHeartbeats 1000000 in
/-- What the law lets by without looking. -/
theorem walk_by (a0 a1 : Option Addr) (l0 c0 l1 c1 : Nat) (x : Nat) (seed : Int) (h0 : l0 ≤ maxLen) (h1 : l1 ≤ maxLen) (hby : 4096 < l0 ∨ 4096 < l1 ∨ 3 < x) (w : World) :
    Calls Try.prog 6 #[.slice a0 l0 c0, .slice a1 l1 c1, .int .u8 x, .int .u64 seed] w fun e w' => e = .returned (.bool true) ∧ Below w.heap.size w w' := by
  have n0 := h0
  have n1 := h1
  unfold maxLen at n0 n1
  by_cases hd : l0 + l1 ≤ 1048576
  · have hd' : decide (l0 + l1 ≤ 1048576) = true := by simpa using hd
    rcases (show 4096 < l0 ∨ (l0 ≤ 4096 ∧ 4096 < l1) ∨ (l0 ≤ 4096 ∧ l1 ≤ 4096 ∧ 3 < x) by omega) with h | ⟨h, h'⟩ | ⟨h, h', h''⟩
    · go_enter Try.func6, Try.ntmps6
      go_wp2_with (go_at_call 17; refine (New.guard_any _ _ _ _ _ _ _ _ h0 h1 _).mono ?_; rintro e w' ⟨rfl, rfl⟩)
      go_ret
      exact ⟨rfl, Below.refl _ _⟩
    · go_enter Try.func6, Try.ntmps6
      go_wp2_with (go_at_call 17; refine (New.guard_any _ _ _ _ _ _ _ _ h0 h1 _).mono ?_; rintro e w' ⟨rfl, rfl⟩)
      go_ret
      exact ⟨rfl, Below.refl _ _⟩
    · go_enter Try.func6, Try.ntmps6
      go_wp2_with (go_at_call 17; refine (New.guard_any _ _ _ _ _ _ _ _ h0 h1 _).mono ?_; rintro e w' ⟨rfl, rfl⟩)
      go_ret
      exact ⟨rfl, Below.refl _ _⟩
  · have hd' : decide (l0 + l1 ≤ 1048576) = false := by simpa using hd
    go_enter Try.func6, Try.ntmps6
    go_wp2_with (go_at_call 17; refine (New.guard_any _ _ _ _ _ _ _ _ h0 h1 _).mono ?_; rintro e w' ⟨rfl, rfl⟩)
    go_ret
    exact ⟨rfl, Below.refl _ _⟩

end Go.Proofs.Qxb6619201a.IdLaw
