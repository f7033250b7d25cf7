/-
  THE LAW ON MAXIMAL RUNS, WALKED: FnSplitWordsMaximalRuns.
-/
import Derived.Test.Qxb6619201aRuns
import Derived.RegionTactic
import Derived.Deep.QuietTactic
import Derived.BigQuiet
namespace Go.Proofs.Qxb6619201a.MaxLaw
open Go.RowKit Words Sym Split Strs Runs

set_option maxRecDepth 100000 in
set_option maxHeartbeats 1000000 in
theorem walk_main (s : ByteArray) (a : Option Addr) (cap : Nat) (ss : List ByteArray) (hs : s.size ≤ 65536) (hl : ss.length ≤ 16384) (hnil : a = none → ss = []) (w : World) (hr : SRow w a ss) :
    Calls Try.prog 3 #[.string s, .slice a ss.length cap] w fun e w' => e = .returned (.bool true) ∧ Below w.heap.size w w' := by
  have HR : Hid (SRow w a ss) := hr
  have HN : Hid (a = none → ss = []) := hnil
  clear hr hnil
  have hm := make8
  go_enter Try.func3, Try.ntmps3
  go_wp2_with fail
  refine (bytes1_any s a cap ss _ HR.out (by unfold maxLen; omega) (by unfold maxLen; omega)).mono ?_
  rintro e w' ⟨rfl, b, rfl⟩
  cases b with
  | false =>
    go_wp2_with fail
    go_ret
    exact ⟨rfl, Below.refl _ _⟩
  | true =>
    go_wp2_with fail
    refine (big_any s a none cap 0 ss [] _ HR.out (fun h => by simp at h) hs hl (by simp)).mono ?_
    rintro e w' ⟨rfl, b, rfl⟩
    cases b with
    | true =>
      go_wp2_with fail
      go_ret
      exact ⟨rfl, Below.refl _ _⟩
    | false =>
      go_wp2_with fail
      refine (clone_any a cap ss _ HR.out (by omega) HN.out).mono ?_
      rintro e w1 ⟨ao, rfl, ho1, hg1⟩
      go_wp2_with fail
      refine (clone_any ao ss.length ss _ (own_row ho1).1 (by omega) (own_row ho1).2).mono ?_
      rintro e w2 ⟨ao2, rfl, ho2, hg2⟩
      have O1 : Hid (w2.ownsRow w'.heap.size 9 1 (.slice ao ss.length ss.length) ss.length (ss.map Value.string)) := ho1.kept hg2 (by cases ao <;> simp [Value.ownBlock])
      have O2 : Hid (w2.ownsRow w1.heap.size 9 1 (.slice ao2 ss.length ss.length) ss.length (ss.map Value.string)) := ho2
      have B2 : Hid (Below w'.heap.size w' w2) := ((Below.refl _ _).grown hg1 (Nat.le_refl _) (by simp)).grown hg2 hg1.size (by simp)
      have h12 : Hid (∀ j, Value.ownBlock (.slice ao ss.length ss.length) = some j → j < w1.heap.size) := fun j hj => (own_blk ho1 hj).2
      clear ho1 ho2 hg1 hg2 HR HN
      go_wp2_with fail
      clear hm
      go_loopw [6, 7, 8] (fun vS vE v wr => ∃ (k gS cS gE cE : Nat) (S E : List Nat), k ≤ s.size ∧ v = .int .i64 k ∧ vS = .slice (some ⟨gS, 0, none⟩) S.length cS ∧ vE = .slice (some ⟨gE, 0, none⟩) E.length cE ∧ S.length ≤ k ∧ E.length ≤ k ∧
          Hid (S = sts s.data.toList k ∧ E = ens s.data.toList k) ∧ Hid (Lists w2.heap.size wr gS cS gE cE S E) ∧ Hid (Below w2.heap.size w2 wr)) (fun _ _ v _ => s.size - (intOf v).toNat)
      case atStart =>
        refine ⟨0, w2.heap.size, 8, w2.heap.size + 1, 8, [], [], Nat.zero_le _, rfl, rfl, rfl, Nat.le_refl _, Nat.le_refl _, ⟨rfl, rfl⟩, ?_, ?_⟩
        · exact ⟨(World.ownsRow_made w2 zeros8 8 (Nat.le_refl _) (by unfold maxLen; omega) rfl).alloc _, by simpa [ints] using World.ownsRow_made (base := w2.heap.size) (e := 3) (size := 1) (w2.alloc (.cells zeros8 3)) zeros8 8 (by simp) (by unfold maxLen; omega) rfl, by omega⟩
        · exact ((Below.refl _ _).alloc (Nat.le_refl _) _).alloc (by simp) _
      case round =>
        obtain ⟨k, gS, cS, gE, cE, S, E, hk, rfl, rfl, rfl, hSl, hEl, hSE, hL, hB⟩ := hrel
        by_cases hlt : k < s.size
        · cases hb : bl (s[k].toNat : Int) with
          | true =>
            have hnb : Hid (nb s.data.toList k = false) := by rw [Hid, nb_at s k hlt, hb]; rfl
            go_wp2_with (go_at_call 10; refine (zblank_any _ _).mono ?_; rintro e w' ⟨rfl, rfl⟩)
            go_roundw
            case rel => exact ⟨k + 1, gS, cS, gE, cE, S, E, by omega, by go_num, rfl, rfl, by omega, by omega, ⟨by rw [hSE.out.1, (step_blank hnb.out).1], by rw [hSE.out.2, (step_blank hnb.out).2.1]⟩, hL, hB⟩
            case measure => simp [intOf]; omega
          | false =>
            have hnb : Hid (nb s.data.toList k = true) := by rw [Hid, nb_at s k hlt, hb]; rfl
            by_cases hk0 : k = 0
            · have t0 : ((k : Int) == 0) = true := by simp [hk0]
              have HS : Hid (sts s.data.toList (k + 1) = sts s.data.toList k ++ [k]) := start_yes hnb.out (.inl hk0)
              clear hk0
              by_cases hke : k + 1 = s.size
              · have t1 : ((k : Int) + 1 == (s.size : Int)) = true := by simp; omega
                have HE : Hid (ens s.data.toList (k + 1) = ens s.data.toList k ++ [k + 1]) := end_yes hnb.out (nb_end _ _ (by rw [size_list]; omega))
                clear hke
                go_wp2_with (first | (go_at_call 10; refine (zblank_any _ _).mono ?_; rintro e w' ⟨rfl, rfl⟩) | (at_builtin; refine app1 _ rfl (.tmp 55) (.tmp 57) rfl w2.heap.size gS cS S k _ rfl rfl rfl hL.out.s (by omega) ?_; intro g1 c1 wS q1 q2 q3) | (at_builtin; refine app1 _ rfl (.tmp 71) (.tmp 74) rfl w2.heap.size gE cE E (k + 1) _ (by omega) rfl rfl (hL.out.addS q1 q2 q3).e (by omega) ?_; intro g2 c2 wE r1 r2 r3))
                have LS := hL.out.addS q1 q2 q3
                have BS := below_add hB.out hL.out.s (Nat.le_refl _) q2
                have LE := LS.addE r1 r2 r3
                have BE := below_add BS LS.e (Nat.le_refl _) r2
                go_roundw
                case rel => exact ⟨k + 1, g1, c1, g2, c2, S ++ [k], E ++ [k + 1], by omega, by go_num, by rw [List.length_append]; rfl, by rw [List.length_append]; rfl, by rw [List.length_append, List.length_singleton]; omega, by rw [List.length_append, List.length_singleton]; omega, ⟨by rw [hSE.out.1]; exact HS.out.symm, by rw [hSE.out.2]; exact HE.out.symm⟩, LE, BE⟩
                case measure => simp [intOf]; omega
              · have t1 : ((k : Int) + 1 == (s.size : Int)) = false := by simp; omega
                have hlt2 : k + 1 < s.size := by omega
                clear hke
                cases hb2 : bl (s[k + 1].toNat : Int) with
                | true =>
                  have HE : Hid (ens s.data.toList (k + 1) = ens s.data.toList k ++ [k + 1]) := end_yes hnb.out (by rw [nb_at s (k + 1) hlt2, hb2]; rfl)
                  go_wp2_with (first | (go_at_call 10; refine (zblank_any _ _).mono ?_; rintro e w' ⟨rfl, rfl⟩) | (at_builtin; refine app1 _ rfl (.tmp 55) (.tmp 57) rfl w2.heap.size gS cS S k _ rfl rfl rfl hL.out.s (by omega) ?_; intro g1 c1 wS q1 q2 q3) | (at_builtin; refine app1 _ rfl (.tmp 71) (.tmp 74) rfl w2.heap.size gE cE E (k + 1) _ (by omega) rfl rfl (hL.out.addS q1 q2 q3).e (by omega) ?_; intro g2 c2 wE r1 r2 r3))
                  have LS := hL.out.addS q1 q2 q3
                  have BS := below_add hB.out hL.out.s (Nat.le_refl _) q2
                  have LE := LS.addE r1 r2 r3
                  have BE := below_add BS LS.e (Nat.le_refl _) r2
                  go_roundw
                  case rel => exact ⟨k + 1, g1, c1, g2, c2, S ++ [k], E ++ [k + 1], by omega, by go_num, by rw [List.length_append]; rfl, by rw [List.length_append]; rfl, by rw [List.length_append, List.length_singleton]; omega, by rw [List.length_append, List.length_singleton]; omega, ⟨by rw [hSE.out.1]; exact HS.out.symm, by rw [hSE.out.2]; exact HE.out.symm⟩, LE, BE⟩
                  case measure => simp [intOf]; omega
                | false =>
                  have HE : Hid (ens s.data.toList (k + 1) = ens s.data.toList k) := end_no (by rw [nb_at s (k + 1) hlt2, hb2]; rfl)
                  go_wp2_with (first | (go_at_call 10; refine (zblank_any _ _).mono ?_; rintro e w' ⟨rfl, rfl⟩) | (at_builtin; refine app1 _ rfl (.tmp 55) (.tmp 57) rfl w2.heap.size gS cS S k _ rfl rfl rfl hL.out.s (by omega) ?_; intro g1 c1 wS q1 q2 q3))
                  have LS := hL.out.addS q1 q2 q3
                  have BS := below_add hB.out hL.out.s (Nat.le_refl _) q2
                  have LE := LS
                  have BE := BS
                  go_roundw
                  case rel => exact ⟨k + 1, g1, c1, gE, cE, S ++ [k], E, by omega, by go_num, by rw [List.length_append]; rfl, rfl, by rw [List.length_append, List.length_singleton]; omega, by omega, ⟨by rw [hSE.out.1]; exact HS.out.symm, by rw [hSE.out.2]; exact HE.out.symm⟩, LE, BE⟩
                  case measure => simp [intOf]; omega
            · have t0 : ((k : Int) == 0) = false := by simp [hk0]
              have hk0' : 0 < k := by omega
              have hlt1 : k - 1 < s.size := by omega
              cases hb1 : bl (s[k - 1].toNat : Int) with
              | true =>
                have HS : Hid (sts s.data.toList (k + 1) = sts s.data.toList k ++ [k]) := start_yes hnb.out (.inr (by rw [nb_at s (k - 1) hlt1, hb1]; rfl))
                clear hk0
                by_cases hke : k + 1 = s.size
                · have t1 : ((k : Int) + 1 == (s.size : Int)) = true := by simp; omega
                  have HE : Hid (ens s.data.toList (k + 1) = ens s.data.toList k ++ [k + 1]) := end_yes hnb.out (nb_end _ _ (by rw [size_list]; omega))
                  clear hke
                  go_wp2_with (first | (go_at_call 10; refine (zblank_any _ _).mono ?_; rintro e w' ⟨rfl, rfl⟩) | (at_builtin; refine app1 _ rfl (.tmp 55) (.tmp 57) rfl w2.heap.size gS cS S k _ rfl rfl rfl hL.out.s (by omega) ?_; intro g1 c1 wS q1 q2 q3) | (at_builtin; refine app1 _ rfl (.tmp 71) (.tmp 74) rfl w2.heap.size gE cE E (k + 1) _ (by omega) rfl rfl (hL.out.addS q1 q2 q3).e (by omega) ?_; intro g2 c2 wE r1 r2 r3))
                  have LS := hL.out.addS q1 q2 q3
                  have BS := below_add hB.out hL.out.s (Nat.le_refl _) q2
                  have LE := LS.addE r1 r2 r3
                  have BE := below_add BS LS.e (Nat.le_refl _) r2
                  go_roundw
                  case rel => exact ⟨k + 1, g1, c1, g2, c2, S ++ [k], E ++ [k + 1], by omega, by go_num, by rw [List.length_append]; rfl, by rw [List.length_append]; rfl, by rw [List.length_append, List.length_singleton]; omega, by rw [List.length_append, List.length_singleton]; omega, ⟨by rw [hSE.out.1]; exact HS.out.symm, by rw [hSE.out.2]; exact HE.out.symm⟩, LE, BE⟩
                  case measure => simp [intOf]; omega
                · have t1 : ((k : Int) + 1 == (s.size : Int)) = false := by simp; omega
                  have hlt2 : k + 1 < s.size := by omega
                  clear hke
                  cases hb2 : bl (s[k + 1].toNat : Int) with
                  | true =>
                    have HE : Hid (ens s.data.toList (k + 1) = ens s.data.toList k ++ [k + 1]) := end_yes hnb.out (by rw [nb_at s (k + 1) hlt2, hb2]; rfl)
                    go_wp2_with (first | (go_at_call 10; refine (zblank_any _ _).mono ?_; rintro e w' ⟨rfl, rfl⟩) | (at_builtin; refine app1 _ rfl (.tmp 55) (.tmp 57) rfl w2.heap.size gS cS S k _ rfl rfl rfl hL.out.s (by omega) ?_; intro g1 c1 wS q1 q2 q3) | (at_builtin; refine app1 _ rfl (.tmp 71) (.tmp 74) rfl w2.heap.size gE cE E (k + 1) _ (by omega) rfl rfl (hL.out.addS q1 q2 q3).e (by omega) ?_; intro g2 c2 wE r1 r2 r3))
                    have LS := hL.out.addS q1 q2 q3
                    have BS := below_add hB.out hL.out.s (Nat.le_refl _) q2
                    have LE := LS.addE r1 r2 r3
                    have BE := below_add BS LS.e (Nat.le_refl _) r2
                    go_roundw
                    case rel => exact ⟨k + 1, g1, c1, g2, c2, S ++ [k], E ++ [k + 1], by omega, by go_num, by rw [List.length_append]; rfl, by rw [List.length_append]; rfl, by rw [List.length_append, List.length_singleton]; omega, by rw [List.length_append, List.length_singleton]; omega, ⟨by rw [hSE.out.1]; exact HS.out.symm, by rw [hSE.out.2]; exact HE.out.symm⟩, LE, BE⟩
                    case measure => simp [intOf]; omega
                  | false =>
                    have HE : Hid (ens s.data.toList (k + 1) = ens s.data.toList k) := end_no (by rw [nb_at s (k + 1) hlt2, hb2]; rfl)
                    go_wp2_with (first | (go_at_call 10; refine (zblank_any _ _).mono ?_; rintro e w' ⟨rfl, rfl⟩) | (at_builtin; refine app1 _ rfl (.tmp 55) (.tmp 57) rfl w2.heap.size gS cS S k _ rfl rfl rfl hL.out.s (by omega) ?_; intro g1 c1 wS q1 q2 q3))
                    have LS := hL.out.addS q1 q2 q3
                    have BS := below_add hB.out hL.out.s (Nat.le_refl _) q2
                    have LE := LS
                    have BE := BS
                    go_roundw
                    case rel => exact ⟨k + 1, g1, c1, gE, cE, S ++ [k], E, by omega, by go_num, by rw [List.length_append]; rfl, rfl, by rw [List.length_append, List.length_singleton]; omega, by omega, ⟨by rw [hSE.out.1]; exact HS.out.symm, by rw [hSE.out.2]; exact HE.out.symm⟩, LE, BE⟩
                    case measure => simp [intOf]; omega
              | false =>
                have HS : Hid (sts s.data.toList (k + 1) = sts s.data.toList k) := start_no hk0 (by rw [nb_at s (k - 1) hlt1, hb1]; rfl)
                clear hk0
                by_cases hke : k + 1 = s.size
                · have t1 : ((k : Int) + 1 == (s.size : Int)) = true := by simp; omega
                  have HE : Hid (ens s.data.toList (k + 1) = ens s.data.toList k ++ [k + 1]) := end_yes hnb.out (nb_end _ _ (by rw [size_list]; omega))
                  clear hke
                  go_wp2_with (first | (go_at_call 10; refine (zblank_any _ _).mono ?_; rintro e w' ⟨rfl, rfl⟩) | (at_builtin; refine app1 _ rfl (.tmp 71) (.tmp 74) rfl w2.heap.size gE cE E (k + 1) _ (by omega) rfl rfl hL.out.e (by omega) ?_; intro g2 c2 wE r1 r2 r3))
                  have LS := hL.out
                  have BS := hB.out
                  have LE := LS.addE r1 r2 r3
                  have BE := below_add BS LS.e (Nat.le_refl _) r2
                  go_roundw
                  case rel => exact ⟨k + 1, gS, cS, g2, c2, S, E ++ [k + 1], by omega, by go_num, rfl, by rw [List.length_append]; rfl, by omega, by rw [List.length_append, List.length_singleton]; omega, ⟨by rw [hSE.out.1]; exact HS.out.symm, by rw [hSE.out.2]; exact HE.out.symm⟩, LE, BE⟩
                  case measure => simp [intOf]; omega
                · have t1 : ((k : Int) + 1 == (s.size : Int)) = false := by simp; omega
                  have hlt2 : k + 1 < s.size := by omega
                  clear hke
                  cases hb2 : bl (s[k + 1].toNat : Int) with
                  | true =>
                    have HE : Hid (ens s.data.toList (k + 1) = ens s.data.toList k ++ [k + 1]) := end_yes hnb.out (by rw [nb_at s (k + 1) hlt2, hb2]; rfl)
                    go_wp2_with (first | (go_at_call 10; refine (zblank_any _ _).mono ?_; rintro e w' ⟨rfl, rfl⟩) | (at_builtin; refine app1 _ rfl (.tmp 71) (.tmp 74) rfl w2.heap.size gE cE E (k + 1) _ (by omega) rfl rfl hL.out.e (by omega) ?_; intro g2 c2 wE r1 r2 r3))
                    have LS := hL.out
                    have BS := hB.out
                    have LE := LS.addE r1 r2 r3
                    have BE := below_add BS LS.e (Nat.le_refl _) r2
                    go_roundw
                    case rel => exact ⟨k + 1, gS, cS, g2, c2, S, E ++ [k + 1], by omega, by go_num, rfl, by rw [List.length_append]; rfl, by omega, by rw [List.length_append, List.length_singleton]; omega, ⟨by rw [hSE.out.1]; exact HS.out.symm, by rw [hSE.out.2]; exact HE.out.symm⟩, LE, BE⟩
                    case measure => simp [intOf]; omega
                  | false =>
                    have HE : Hid (ens s.data.toList (k + 1) = ens s.data.toList k) := end_no (by rw [nb_at s (k + 1) hlt2, hb2]; rfl)
                    go_wp2_with (go_at_call 10; refine (zblank_any _ _).mono ?_; rintro e w' ⟨rfl, rfl⟩)
                    have LS := hL.out
                    have BS := hB.out
                    have LE := LS
                    have BE := BS
                    go_roundw
                    case rel => exact ⟨k + 1, gS, cS, gE, cE, S, E, by omega, by go_num, rfl, rfl, by omega, by omega, ⟨by rw [hSE.out.1]; exact HS.out.symm, by rw [hSE.out.2]; exact HE.out.symm⟩, LE, BE⟩
                    case measure => simp [intOf]; omega
        · have ek : k = s.size := by omega
          subst ek
          obtain ⟨ws, hws⟩ : ∃ ws, ws = wds s s.size := ⟨_, rfl⟩
          have hed : edge s.data.toList s.size := by rw [← size_list]; exact edge_end _
          have hlenw : ws.length = S.length := by rw [hws, wds_len s _ hed, hSE.out.1]
          have hlenE : E.length = S.length := by rw [hSE.out.1, hSE.out.2, len_eq _ _ hed]
          obtain ⟨m, hm⟩ : ∃ m, m = min ws.length ss.length := ⟨_, rfl⟩
          have HM : Hid (m = min ws.length ss.length) := hm
          have hm1 : m ≤ ss.length := by omega
          have hm2 : m ≤ S.length := by omega
          have hm3 : m ≤ E.length := by omega
          have hm4 : Hid (m < ss.length → ws.length = m) := fun h => by omega
          have tlen : ((ws.length : Int) != (S.length : Int)) = false := by simp [hlenw]
          have HW : Hid (ws = wds s s.size) := hws
          have HL : Hid (ws.length = S.length) := hlenw
          have HX : Hid (E.length = S.length) := hlenE
          have hwl : ws.length ≤ 65536 := by omega
          clear hws hlenw hlenE hm
          have HO1 : Hid (wr.ownsRow w'.heap.size 9 1 (.slice ao ss.length ss.length) ss.length (ss.map Value.string)) := own_below O1.out (Nat.le_refl _) hB.out
          have HO2 : Hid (wr.ownsRow w1.heap.size 9 1 (.slice ao2 ss.length ss.length) ss.length (ss.map Value.string)) := own_below O2.out (Nat.le_refl _) hB.out
          go_wp2_with fail
          refine (zsplit_w s (by omega) w'.heap.size ao ss ws m _ (by omega) HW HM HO1.out).mono ?_
          rintro e w4 ⟨rfl, hw1, hg3⟩
          have L4 : Hid (Lists w2.heap.size w4 gS cS gE cE S E) := by
            have h1 := own_lt hL.out.s
            have h2 := own_lt hL.out.e
            have n1 : Value.ownBlock (.slice ao ss.length ss.length) ≠ some gS := fun e => by have := (own_blk O1.out e).2; omega
            have n2 : Value.ownBlock (.slice ao ss.length ss.length) ≠ some gE := fun e => by have := (own_blk O1.out e).2; omega
            exact ⟨hL.out.s.kept hg3 (.inr (Ne.symm n1)), hL.out.e.kept hg3 (.inr (Ne.symm n2)), hL.out.ne⟩
          have O24 : Hid (w4.ownsRow w1.heap.size 9 1 (.slice ao2 ss.length ss.length) ss.length (ss.map Value.string)) := by
            refine HO2.out.kept hg3 ?_
            cases h2 : Value.ownBlock (.slice ao2 ss.length ss.length) with
            | none => exact .inl rfl
            | some j2 =>
              refine .inr fun e => ?_
              have h3 := (own_blk O2.out h2).1
              have h4 := h12.out j2 e.symm
              omega
          have O14 : Hid (w4.ownsRow w'.heap.size 9 1 (.slice ao ss.length ss.length) ss.length ((laid ws ss).map Value.string)) := hw1
          have B4 : Hid (Below w'.heap.size w' w4) := (B2.out.trans (hB.out.mono B2.out.size)).grown hg3 (Nat.le_trans B2.out.size hB.out.size) (fun j e => (own_blk O1.out e).1)
          clear hw1 hg3 HO1 HO2 O1 O2 B2 hB hL h12
          go_wp2_with (go_at_call 12; refine (min_at _ _ m HM _).mono ?_; rintro e w9 ⟨rfl, rfl⟩)
          go_loopw [12] (fun v wq => ∃ j : Nat, j ≤ m ∧ v = .int .i64 j ∧ Hid (Lists w2.heap.size wq gS cS gE cE S E) ∧ Hid (wq.ownsRow w'.heap.size 9 1 (.slice ao ss.length ss.length) ss.length ((laid ws ss).map Value.string)) ∧
              Hid (wq.ownsRow w1.heap.size 9 1 (.slice ao2 ss.length ss.length) ss.length (ss.map Value.string)) ∧ Hid (Below w'.heap.size w' wq)) (fun v _ => m - (intOf v).toNat)
          case atStart => exact ⟨0, Nat.zero_le _, rfl, L4, O14, O24, B4⟩
          case round =>
            obtain ⟨j, hj, rfl, hL, hO1, hO2, hB⟩ := hrel
            clear L4 O14 O24 B4
            by_cases hjm : j < m
            · obtain ⟨g, rfl⟩ := own_form hO1.out (by omega)
              obtain ⟨pq1, pq2⟩ := bounds s.data.toList j (by rw [size_list, ← hSE.out.1]; omega)
              rw [size_list, ← hSE.out.1, ← hSE.out.2] at pq1
              rw [size_list, ← hSE.out.2] at pq2
              have hword := word_at s s.size j (by rw [← hSE.out.1]; omega) (by rw [← hSE.out.2]; omega)
              rw [← HW.out, ← hSE.out.1, ← hSE.out.2, ← laid_lt ws ss j (by rw [HL.out]; omega) (by omega)] at hword
              have c1 := int_cell hL.out.s (j := j) (by omega) (by omega)
              have c2 := int_cell hL.out.e (j := j) (by omega) (by omega)
              have c3 := str_cell hO1.out (j := j) (by omega) hword
              clear hword
              generalize S.getD j 0 = p at pq1 c1 c3
              generalize E.getD j 0 = q at pq1 pq2 c2 c3
              have i1 : (j : Int) < (S.length : Int) := by omega
              have i2 : (j : Int) < (E.length : Int) := by omega
              have i3 : (p : Int) ≤ (q : Int) := by omega
              have i4 : (q : Int) ≤ (s.size : Int) := by omega
              go_wp2
              go_region
              go_wp2
              go_roundw
              case rel => exact ⟨j + 1, by omega, by go_num, ⟨hL.out.s, hL.out.e, hL.out.ne⟩, hO1.out, hO2.out, hB.out.drew⟩
              case measure => simp [intOf]; omega
            · go_wp2
              go_loopw [14] (fun v wq => ∃ q : Nat, m ≤ q ∧ q ≤ ss.length ∧ v = .int .i64 q ∧ Hid (wq.ownsRow w'.heap.size 9 1 (.slice ao ss.length ss.length) ss.length ((laid ws ss).map Value.string)) ∧
                  Hid (wq.ownsRow w1.heap.size 9 1 (.slice ao2 ss.length ss.length) ss.length (ss.map Value.string)) ∧ Hid (Below w'.heap.size w' wq)) (fun v _ => ss.length - (intOf v).toNat)
              case atStart => exact ⟨m, Nat.le_refl _, hm1, rfl, hO1, hO2, hB⟩
              case round =>
                clear hL hO1 hO2 hB
                obtain ⟨q, hq0, hq1, rfl, hO1, hO2, hB⟩ := hrel
                by_cases hqn : q < ss.length
                · obtain ⟨g, rfl⟩ := own_form hO1.out (by omega)
                  obtain ⟨g2, rfl⟩ := own_form hO2.out (by omega)
                  have hw := hm4.out (by omega)
                  have hx2 : ss[q]? = some ss[q] := List.getElem?_eq_getElem hqn
                  have c1 := str_cell hO1.out (j := q) hqn ((laid_ge ws ss q (by omega)).trans hx2)
                  have c2 := str_cell hO2.out (j := q) hqn hx2
                  clear hx2 hw
                  generalize ss[q] = x at c1 c2
                  have i1 : (q : Int) < (ss.length : Int) := by omega
                  go_wp2
                  go_region
                  go_wp2
                  go_roundw
                  case rel => exact ⟨q + 1, by omega, by omega, by go_num, hO1.out, hO2.out, hB.out.drew⟩
                  case measure => simp [intOf]; omega
                · go_wp2
                  go_ret
                  exact ⟨rfl, hB.out⟩

set_option maxRecDepth 100000 in
set_option maxHeartbeats 1000000 in
/-- What the law lets by without looking. -/
theorem walk_by (s : ByteArray) (a : Option Addr) (cap : Nat) (ss : List ByteArray) (hs : s.size ≤ maxLen) (hl : ss.length ≤ maxLen) (hby : 65536 < s.size ∨ 16384 < ss.length) (w : World) (hr : SRow w a ss) :
    Calls Try.prog 3 #[.string s, .slice a ss.length cap] w fun e w' => e = .returned (.bool true) ∧ Below w.heap.size w w' := by
  have HR : Hid (SRow w a ss) := hr
  clear hr
  have n0 := hs
  have n1 := hl
  unfold maxLen at n0 n1
  rcases (show 65536 < s.size ∨ (s.size ≤ 65536 ∧ 16384 < ss.length) by omega) with h | ⟨h, h'⟩
  all_goals
    go_enter Try.func3, Try.ntmps3
    go_wp2_with fail
    refine (bytes1_any s a cap ss _ HR.out hs hl).mono ?_
    rintro e w' ⟨rfl, b, rfl⟩
    cases b with
    | false =>
      go_wp2_with fail
      go_ret
      exact ⟨rfl, Below.refl _ _⟩
    | true =>
      go_wp2_with fail
      go_ret
      exact ⟨rfl, Below.refl _ _⟩

end Go.Proofs.Qxb6619201a.MaxLaw
