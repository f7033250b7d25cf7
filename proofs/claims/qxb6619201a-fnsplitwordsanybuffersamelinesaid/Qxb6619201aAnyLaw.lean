/-
  THE LAW ON TWO BUFFERS, WALKED: FnSplitWordsAnyBufferSameLine.
-/
import Derived.Test.Qxb6619201aAny
import Derived.RegionTactic
import Derived.Deep.QuietTactic
import Derived.BigQuiet
namespace Go.Proofs.Qxb6619201a.AnyLaw
open Go.RowKit Words Sym Split Strs Runs Any

theorem zblank_no (c : Int) (h : bl c = false) (w : World) : Calls Try.prog 10 #[.int .u8 c] w fun e w' => e = .returned (.bool false) ∧ w' = w :=
  (zblank_any c w).mono fun e w' ⟨h1, h2⟩ => ⟨by rw [h1, h], h2⟩

set_option maxRecDepth 100000 in
set_option maxHeartbeats 2000000 in
theorem walk_main (s : ByteArray) (a b : Option Addr) (capA capB : Nat) (sa sb : List ByteArray) (hs : s.size ≤ 65536) (hla : sa.length ≤ 16384) (hlb : sb.length ≤ 16384) (hna : a = none → sa = []) (hnb : b = none → sb = []) (w : World) (hra : SRow w a sa) (hrb : SRow w b sb) :
    Calls Try.prog 4 #[.string s, .slice a sa.length capA, .slice b sb.length capB] w fun e w' => e = .returned (.bool true) ∧ Below w.heap.size w w' := by
  have HRA : Hid (SRow w a sa) := hra
  have HRB : Hid (SRow w b sb) := hrb
  have HNA : Hid (a = none → sa = []) := hna
  have HNB : Hid (b = none → sb = []) := hnb
  clear hra hrb hna hnb
  go_enter Try.func4, Try.ntmps4
  go_wp2_with fail
  refine (bytes2_any s a b capA capB sa sb _ HRA.out HRB.out (by unfold maxLen; omega) (by unfold maxLen; omega) (by unfold maxLen; omega)).mono ?_
  rintro e w0 ⟨rfl, q, rfl⟩
  cases q with
  | false =>
    go_wp2_with fail
    go_ret
    exact ⟨rfl, Below.refl _ _⟩
  | true =>
    go_wp2_with fail
    refine (big_any s a b capA capB sa sb _ HRA.out HRB.out hs hla hlb).mono ?_
    rintro e w0 ⟨rfl, q, rfl⟩
    cases q with
    | true =>
      go_wp2_with fail
      go_ret
      exact ⟨rfl, Below.refl _ _⟩
    | false =>
      go_wp2_with fail
      refine (clone_any a capA sa _ HRA.out (by omega) HNA.out).mono ?_
      rintro e w1 ⟨aA, rfl, ho1, hg1⟩
      have HRB1 : Hid (SRow w1 b sb) := HRB.out.below (Nat.le_refl _) ((Below.refl _ _).grown hg1 (Nat.le_refl _) (by simp))
      go_wp2_with fail
      refine (clone_any b capB sb _ HRB1.out (by omega) HNB.out).mono ?_
      rintro e w2 ⟨aB, rfl, ho2, hg2⟩
      have OA : Hid (w2.ownsRow w0.heap.size 9 1 (.slice aA sa.length sa.length) sa.length (sa.map Value.string)) := ho1.kept hg2 (by cases aA <;> simp [Value.ownBlock])
      have OB : Hid (w2.ownsRow w1.heap.size 9 1 (.slice aB sb.length sb.length) sb.length (sb.map Value.string)) := ho2
      have B2 : Hid (Below w0.heap.size w0 w2) := ((Below.refl _ _).grown hg1 (Nat.le_refl _) (by simp)).grown hg2 hg1.size (by simp)
      have h12 : Hid (∀ j, Value.ownBlock (.slice aA sa.length sa.length) = some j → j < w1.heap.size) := fun j hj => (own_blk ho1 hj).2
      have hsz : Hid (w0.heap.size ≤ w1.heap.size) := hg1.size
      clear ho1 ho2 hg1 hg2 HRA HRB HNA HNB HRB1
      have hap : Hid (∀ j, Value.ownBlock (.slice aB sb.length sb.length) = some j → Value.ownBlock (.slice aA sa.length sa.length) ≠ some j) := fun j h1 h2 => by
        have h3 := (own_blk OB.out h1).1
        have h4 := h12.out j h2
        omega
      obtain ⟨ws, hws⟩ : ∃ ws, ws = wds s s.size := ⟨_, rfl⟩
      have hed : edge s.data.toList s.size := by rw [← size_list]; exact edge_end _
      have hwl : ws.length ≤ 65536 := by rw [hws, wds_len s _ hed]; exact Nat.le_trans (sts_le _ _) hs
      obtain ⟨mA, hmA⟩ : ∃ m, m = min ws.length sa.length := ⟨_, rfl⟩
      obtain ⟨mB, hmB⟩ : ∃ m, m = min ws.length sb.length := ⟨_, rfl⟩
      obtain ⟨mC, hmC⟩ : ∃ m, m = min mA mB := ⟨_, rfl⟩
      have a1 : mA ≤ sa.length := by omega
      have a2 : Hid (mA ≤ ws.length) := by show mA ≤ ws.length; omega
      have b1 : mB ≤ sb.length := by omega
      have b2 : Hid (mB ≤ ws.length) := by show mB ≤ ws.length; omega
      have c1 : mC ≤ mA := by omega
      have c2 : mC ≤ mB := by omega
      have HW : Hid (ws = wds s s.size) := hws
      have HMA : Hid (mA = min ws.length sa.length) := hmA
      have HMB : Hid (mB = min ws.length sb.length) := hmB
      have HMC : Hid (mC = min mA mB) := hmC
      have HFL : Hid (flat ws = kept s.data.toList ∧ ∀ w ∈ ws, 0 < w.size ∧ ∀ c ∈ w.data.toList, nbB c = true) := by rw [hws]; exact flat_all s
      clear hws hmA hmB hmC
      go_wp2_with fail
      refine (zsplit_w s (by omega) w0.heap.size aA sa ws mA _ (by omega) HW HMA OA.out).mono ?_
      rintro e w3 ⟨rfl, hw1, hg3⟩
      have OA3 : Hid (w3.ownsRow w0.heap.size 9 1 (.slice aA sa.length sa.length) sa.length ((laid ws sa).map Value.string)) := hw1
      have OB3 : Hid (w3.ownsRow w1.heap.size 9 1 (.slice aB sb.length sb.length) sb.length (sb.map Value.string)) := by
        refine OB.out.kept hg3 ?_
        cases h2 : Value.ownBlock (.slice aB sb.length sb.length) with
        | none => exact .inl rfl
        | some j2 => exact .inr fun e => hap.out j2 h2 e.symm
      have B3 : Hid (Below w0.heap.size w0 w3) := B2.out.grown hg3 B2.out.size (fun j e => (own_blk OA.out e).1)
      clear hw1 hg3 OA OB B2
      go_wp2_with fail
      refine (zsplit_w s (by omega) w1.heap.size aB sb ws mB _ (by omega) HW HMB OB3.out).mono ?_
      rintro e w4 ⟨rfl, hw1, hg4⟩
      have OA4 : Hid (w4.ownsRow w0.heap.size 9 1 (.slice aA sa.length sa.length) sa.length ((laid ws sa).map Value.string)) := by
        refine OA3.out.kept hg4 ?_
        cases h2 : Value.ownBlock (.slice aA sa.length sa.length) with
        | none => exact .inl rfl
        | some j2 => exact .inr fun e => hap.out j2 e.symm h2
      have OB4 : Hid (w4.ownsRow w1.heap.size 9 1 (.slice aB sb.length sb.length) sb.length ((laid ws sb).map Value.string)) := hw1
      have B4 : Hid (Below w0.heap.size w0 w4) := B3.out.grown hg4 B3.out.size (fun j e => Nat.le_trans hsz.out (own_blk OB3.out e).1)
      clear hw1 hg4 OA3 OB3 B3 h12 hap hsz
      go_wp2_with fail
      refine (min_at _ _ mA HMA _).mono ?_
      rintro e w9 ⟨rfl, rfl⟩
      go_wp2_with fail
      refine (min_at _ _ mB HMB _).mono ?_
      rintro e w9 ⟨rfl, rfl⟩
      go_wp2_with fail
      refine (min_at _ _ mC HMC _).mono ?_
      rintro e w9 ⟨rfl, rfl⟩
      go_wp2_with fail
      go_loopw [12] (fun v wq => ∃ j : Nat, j ≤ mC ∧ v = .int .i64 j ∧ Hid (wq.ownsRow w0.heap.size 9 1 (.slice aA sa.length sa.length) sa.length ((laid ws sa).map Value.string)) ∧
          Hid (wq.ownsRow w1.heap.size 9 1 (.slice aB sb.length sb.length) sb.length ((laid ws sb).map Value.string)) ∧ Hid (Below w0.heap.size w0 wq)) (fun v _ => mC - (intOf v).toNat)
      case atStart => exact ⟨0, Nat.zero_le _, rfl, OA4, OB4, B4⟩
      case round =>
        clear OA4 OB4 B4
        obtain ⟨j, hj, rfl, hOA, hOB, hB⟩ := hrel
        by_cases hjm : j < mC
        · obtain ⟨gA, rfl⟩ := own_form hOA.out (by omega)
          obtain ⟨gB, rfl⟩ := own_form hOB.out (by omega)
          have hjw : j < ws.length := by have := a2.out; omega
          have hx : ws[j]? = some ws[j] := List.getElem?_eq_getElem hjw
          have k1 := str_cell hOA.out (j := j) (by omega) ((laid_lt ws sa j hjw (by omega)).trans hx)
          have k2 := str_cell hOB.out (j := j) (by omega) ((laid_lt ws sb j hjw (by omega)).trans hx)
          clear hx
          generalize ws[j] = x at k1 k2
          have i1 : (j : Int) < (mA : Int) := by omega
          have i2 : (j : Int) < (mB : Int) := by omega
          go_wp2
          go_region
          go_wp2
          go_roundw
          case rel => exact ⟨j + 1, by omega, by go_num, hOA.out, hOB.out, hB.out.drew⟩
          case measure => simp [intOf]; omega
        · obtain ⟨w5, rfl⟩ : ∃ x, x = wr := ⟨_, rfl⟩
          obtain ⟨wk, hmk, hk0, hbk⟩ := kept_run0 s.size hs w5
          have HK0 : Hid (wk.ownsRow w5.heap.size 5 1 (.slice (some ⟨w5.heap.size, 0, none⟩) 0 s.size) 0 []) := hk0
          have HBK : Hid (Below w5.heap.size w5 wk) := hbk
          clear hk0 hbk
          by_cases hgt : mA < mB
          · go_wp2_with fail
            clear hmk
            have HO : Hid (w5.ownsRow w1.heap.size 9 1 (.slice aB sb.length sb.length) sb.length ((laid ws sb).map Value.string)) := hOB
            go_loopw [14, 15] (fun vK v wq => ∃ (i gK cK : Nat) (K : List UInt8), i ≤ s.size ∧ v = .int .i64 i ∧ vK = .slice (some ⟨gK, 0, none⟩) K.length cK ∧ K.length ≤ i ∧ Hid (K = kept (s.data.toList.take i)) ∧
                Hid (wq.ownsRow w5.heap.size 5 1 (.slice (some ⟨gK, 0, none⟩) K.length cK) K.length (byts K)) ∧ Hid (Below w5.heap.size w5 wq)) (fun _ v _ => s.size - (intOf v).toNat)
            case atStart => exact ⟨0, w5.heap.size, s.size, [], Nat.zero_le _, rfl, rfl, Nat.le_refl _, rfl, HK0.out, HBK⟩
            case round =>
              clear HK0 HBK
              obtain ⟨i, gK, cK, K, hi, rfl, rfl, hKl, hK, hKo, hKb⟩ := hrel
              by_cases hlt : i < s.size
              · have hnx := kept_next s i hlt
                cases hb : bl (s[i].toNat : Int) with
                | true =>
                  rw [hb, if_pos rfl, List.append_nil] at hnx
                  have HX : Hid (kept (s.data.toList.take (i + 1)) = kept (s.data.toList.take i)) := hnx
                  clear hnx
                  go_wp2_with (go_at_call 10; refine (zblank_any _ _).mono ?_; rintro e w9 ⟨rfl, rfl⟩)
                  go_roundw
                  case rel => exact ⟨i + 1, gK, cK, K, by omega, by go_num, rfl, by omega, by rw [HX.out]; exact hK, hKo, hKb⟩
                  case measure => simp [intOf]; omega
                | false =>
                  rw [hb, if_neg (by simp)] at hnx
                  have HX : Hid (kept (s.data.toList.take (i + 1)) = kept (s.data.toList.take i) ++ [s[i]]) := hnx
                  clear hnx
                  go_wp2_with (first | (go_at_call 10; refine (zblank_any _ _).mono ?_; rintro e w9 ⟨rfl, rfl⟩) | (at_builtin; refine app_byte _ rfl (.tmp 117) (.tmp 121) rfl w5.heap.size gK cK K s[i] _ rfl rfl rfl hKo.out (by omega) ?_; intro g1 c1 wS q1 q2))
                  have BS := below_byte hKb.out hKo.out (Nat.le_refl _) q2
                  go_roundw
                  case rel => exact ⟨i + 1, g1, c1, K ++ [s[i]], by omega, by go_num, by rw [List.length_append]; rfl, by rw [List.length_append, List.length_singleton]; omega, by show K ++ [s[i]] = _; rw [HX.out, ← hK.out], q1, BS⟩
                  case measure => simp [intOf]; omega
              · have ei : i = s.size := by omega
                subst ei
                obtain ⟨w6, rfl⟩ : ∃ x, x = wr := ⟨_, rfl⟩
                have hKf : Hid (K = flat ws) := by
                  have h1 := hK.out
                  rw [List.take_of_length_le (by rw [size_list]; exact Nat.le_refl _)] at h1
                  rw [h1]
                  exact HFL.out.1.symm
                clear hK
                have HO2 : Hid (w6.ownsRow w1.heap.size 9 1 (.slice aB sb.length sb.length) sb.length ((laid ws sb).map Value.string)) := own_below HO.out (Nat.le_refl _) hKb.out
                have HB2 : Hid (Below w0.heap.size w0 w6) := hB.out.trans (hKb.out.mono hB.out.size)
                clear HO hKb hB hOA hOB
                go_wp2_with fail
                go_loopw [16, 17] (fun vp v wq => ∃ j p : Nat, j ≤ mB ∧ v = .int .i64 j ∧ vp = .int .i64 p ∧ p ≤ K.length ∧ Hid (p = upto ws j) ∧ Hid (wq.ownsRow w5.heap.size 5 1 (.slice (some ⟨gK, 0, none⟩) K.length cK) K.length (byts K)) ∧
                    Hid (wq.ownsRow w1.heap.size 9 1 (.slice aB sb.length sb.length) sb.length ((laid ws sb).map Value.string)) ∧ Hid (Below w0.heap.size w0 wq)) (fun _ v _ => mB - (intOf v).toNat)
                case atStart => exact ⟨0, 0, Nat.zero_le _, rfl, rfl, Nat.zero_le _, rfl, hKo, HO2, HB2⟩
                case round =>
                  clear HO2 HB2 hKo
                  obtain ⟨j, p, hj, rfl, rfl, hp, hpu, hKo, hO, hB⟩ := hrel
                  by_cases hjm : j < mB
                  · obtain ⟨gR, rfl⟩ := own_form hO.out (by omega)
                    have hjw : j < ws.length := by have := b2.out; omega
                    have hx : ws[j]? = some ws[j] := List.getElem?_eq_getElem hjw
                    have k1 := str_cell hO.out (j := j) (by omega) ((laid_lt ws sb j hjw (by omega)).trans hx)
                    clear hx
                    obtain ⟨x, hxw⟩ : ∃ x, x = ws[j] := ⟨_, rfl⟩
                    rw [← hxw] at k1
                    have HP := HFL.out.2 x (by rw [hxw]; exact List.getElem_mem _)
                    have hpos : 0 < x.size := HP.1
                    have HNB : Hid (∀ c ∈ x.data.toList, nbB c = true) := HP.2
                    have HG : Hid (∀ i (hi : i < x.size), K[p + i]? = some x[i]) := by
                      intro i hi
                      rw [hKf.out, hpu.out]
                      subst hxw
                      exact flat_get ws j i hjw hi
                    have HUP : Hid (upto ws (j + 1) = p + x.size) := by
                      show upto ws (j + 1) = p + x.size
                      rw [hpu.out, hxw]
                      exact upto_succ ws j hjw
                    have hroom : p + x.size ≤ K.length := by
                      rw [← HUP.out, hKf.out]
                      exact upto_le ws (j + 1)
                    clear hxw HP
                    have t0 : ((x.size : Int) == 0) = false := beq_eq_false_iff_ne.2 (by omega)
                    go_wp2_with fail
                    go_loopw [16, 19] (fun vp v wq => ∃ i q : Nat, i ≤ x.size ∧ v = .int .i64 i ∧ vp = .int .i64 q ∧ q ≤ K.length ∧ Hid (q = p + i) ∧ Hid (wq.ownsRow w5.heap.size 5 1 (.slice (some ⟨gK, 0, none⟩) K.length cK) K.length (byts K)) ∧
                        Hid (wq.ownsRow w1.heap.size 9 1 (.slice (some ⟨gR, 0, none⟩) sb.length sb.length) sb.length ((laid ws sb).map Value.string)) ∧ Hid (Below w0.heap.size w0 wq)) (fun _ v _ => x.size - (intOf v).toNat)
                    case atStart => exact ⟨0, p, Nat.zero_le _, rfl, rfl, hp, rfl, hKo, hO, hB⟩
                    case round =>
                      clear hKo hO hB k1
                      obtain ⟨i, q, hi, rfl, rfl, hq, hqi, hKo, hO, hB⟩ := hrel
                      by_cases hix : i < x.size
                      · have hqK : q < K.length := by have := hqi.out; omega
                        have hc := HG.out i hix
                        rw [← hqi.out] at hc
                        have k2 := byte_cell hKo.out (j := q) hqK hc
                        clear hc
                        have hb : bl (x[i].toNat : Int) = false := by
                          have h1 := HNB.out x[i] (List.getElem_mem _)
                          unfold nbB at h1
                          simpa using h1
                        have hd : decide ((K.length : Int) ≤ (q : Int)) = false := decide_eq_false (by omega)
                        have i1 : (q : Int) < (K.length : Int) := by omega
                        have i2 : (i : Int) < (x.size : Int) := by omega
                        go_wp2
                        go_quiet ((go_at_call 10; exact Calls.quiet_of_same (zblank_no _ hb _)))
                        go_wp2
                        go_roundw
                        case rel => exact ⟨i + 1, q + 1, by omega, by go_num, by go_num, by omega, by show q + 1 = p + (i + 1); rw [hqi.out]; rfl, hKo.out, hO.out, below_drewN hB.out _⟩
                        case measure => simp [intOf]; omega
                      · have hqe : Hid (q = p + x.size) := by show q = p + x.size; have := hqi.out; omega
                        go_wp2
                        go_roundw
                        case rel => exact ⟨j + 1, q, by omega, by go_num, rfl, hq, by show q = upto ws (j + 1); rw [hqe.out, HUP.out], hKo, hO, hB⟩
                        case measure => simp [intOf]; omega
                  · by_cases hall : mB = ws.length
                    · have t1 : ((mB : Int) == (ws.length : Int)) = true := by rw [hall]; simp
                      have hpe : p = K.length := by
                        rw [hpu.out, hKf.out]
                        exact upto_all ws j (by omega)
                      have t2 : ((p : Int) != (K.length : Int)) = false := by rw [hpe]; simp
                      clear hall hpe
                      go_wp2
                      go_ret
                      exact ⟨rfl, hB.out⟩
                    · have t1 : ((mB : Int) == (ws.length : Int)) = false := beq_eq_false_iff_ne.2 (by omega)
                      clear hall
                      go_wp2
                      go_ret
                      exact ⟨rfl, hB.out⟩
          · go_wp2_with fail
            clear hmk
            have HO : Hid (w5.ownsRow w0.heap.size 9 1 (.slice aA sa.length sa.length) sa.length ((laid ws sa).map Value.string)) := hOA
            go_loopw [14, 15] (fun vK v wq => ∃ (i gK cK : Nat) (K : List UInt8), i ≤ s.size ∧ v = .int .i64 i ∧ vK = .slice (some ⟨gK, 0, none⟩) K.length cK ∧ K.length ≤ i ∧ Hid (K = kept (s.data.toList.take i)) ∧
                Hid (wq.ownsRow w5.heap.size 5 1 (.slice (some ⟨gK, 0, none⟩) K.length cK) K.length (byts K)) ∧ Hid (Below w5.heap.size w5 wq)) (fun _ v _ => s.size - (intOf v).toNat)
            case atStart => exact ⟨0, w5.heap.size, s.size, [], Nat.zero_le _, rfl, rfl, Nat.le_refl _, rfl, HK0.out, HBK⟩
            case round =>
              clear HK0 HBK
              obtain ⟨i, gK, cK, K, hi, rfl, rfl, hKl, hK, hKo, hKb⟩ := hrel
              by_cases hlt : i < s.size
              · have hnx := kept_next s i hlt
                cases hb : bl (s[i].toNat : Int) with
                | true =>
                  rw [hb, if_pos rfl, List.append_nil] at hnx
                  have HX : Hid (kept (s.data.toList.take (i + 1)) = kept (s.data.toList.take i)) := hnx
                  clear hnx
                  go_wp2_with (go_at_call 10; refine (zblank_any _ _).mono ?_; rintro e w9 ⟨rfl, rfl⟩)
                  go_roundw
                  case rel => exact ⟨i + 1, gK, cK, K, by omega, by go_num, rfl, by omega, by rw [HX.out]; exact hK, hKo, hKb⟩
                  case measure => simp [intOf]; omega
                | false =>
                  rw [hb, if_neg (by simp)] at hnx
                  have HX : Hid (kept (s.data.toList.take (i + 1)) = kept (s.data.toList.take i) ++ [s[i]]) := hnx
                  clear hnx
                  go_wp2_with (first | (go_at_call 10; refine (zblank_any _ _).mono ?_; rintro e w9 ⟨rfl, rfl⟩) | (at_builtin; refine app_byte _ rfl (.tmp 117) (.tmp 121) rfl w5.heap.size gK cK K s[i] _ rfl rfl rfl hKo.out (by omega) ?_; intro g1 c1 wS q1 q2))
                  have BS := below_byte hKb.out hKo.out (Nat.le_refl _) q2
                  go_roundw
                  case rel => exact ⟨i + 1, g1, c1, K ++ [s[i]], by omega, by go_num, by rw [List.length_append]; rfl, by rw [List.length_append, List.length_singleton]; omega, by show K ++ [s[i]] = _; rw [HX.out, ← hK.out], q1, BS⟩
                  case measure => simp [intOf]; omega
              · have ei : i = s.size := by omega
                subst ei
                obtain ⟨w6, rfl⟩ : ∃ x, x = wr := ⟨_, rfl⟩
                have hKf : Hid (K = flat ws) := by
                  have h1 := hK.out
                  rw [List.take_of_length_le (by rw [size_list]; exact Nat.le_refl _)] at h1
                  rw [h1]
                  exact HFL.out.1.symm
                clear hK
                have HO2 : Hid (w6.ownsRow w0.heap.size 9 1 (.slice aA sa.length sa.length) sa.length ((laid ws sa).map Value.string)) := own_below HO.out (Nat.le_refl _) hKb.out
                have HB2 : Hid (Below w0.heap.size w0 w6) := hB.out.trans (hKb.out.mono hB.out.size)
                clear HO hKb hB hOA hOB
                go_wp2_with fail
                go_loopw [16, 17] (fun vp v wq => ∃ j p : Nat, j ≤ mA ∧ v = .int .i64 j ∧ vp = .int .i64 p ∧ p ≤ K.length ∧ Hid (p = upto ws j) ∧ Hid (wq.ownsRow w5.heap.size 5 1 (.slice (some ⟨gK, 0, none⟩) K.length cK) K.length (byts K)) ∧
                    Hid (wq.ownsRow w0.heap.size 9 1 (.slice aA sa.length sa.length) sa.length ((laid ws sa).map Value.string)) ∧ Hid (Below w0.heap.size w0 wq)) (fun _ v _ => mA - (intOf v).toNat)
                case atStart => exact ⟨0, 0, Nat.zero_le _, rfl, rfl, Nat.zero_le _, rfl, hKo, HO2, HB2⟩
                case round =>
                  clear HO2 HB2 hKo
                  obtain ⟨j, p, hj, rfl, rfl, hp, hpu, hKo, hO, hB⟩ := hrel
                  by_cases hjm : j < mA
                  · obtain ⟨gR, rfl⟩ := own_form hO.out (by omega)
                    have hjw : j < ws.length := by have := a2.out; omega
                    have hx : ws[j]? = some ws[j] := List.getElem?_eq_getElem hjw
                    have k1 := str_cell hO.out (j := j) (by omega) ((laid_lt ws sa j hjw (by omega)).trans hx)
                    clear hx
                    obtain ⟨x, hxw⟩ : ∃ x, x = ws[j] := ⟨_, rfl⟩
                    rw [← hxw] at k1
                    have HP := HFL.out.2 x (by rw [hxw]; exact List.getElem_mem _)
                    have hpos : 0 < x.size := HP.1
                    have HNB : Hid (∀ c ∈ x.data.toList, nbB c = true) := HP.2
                    have HG : Hid (∀ i (hi : i < x.size), K[p + i]? = some x[i]) := by
                      intro i hi
                      rw [hKf.out, hpu.out]
                      subst hxw
                      exact flat_get ws j i hjw hi
                    have HUP : Hid (upto ws (j + 1) = p + x.size) := by
                      show upto ws (j + 1) = p + x.size
                      rw [hpu.out, hxw]
                      exact upto_succ ws j hjw
                    have hroom : p + x.size ≤ K.length := by
                      rw [← HUP.out, hKf.out]
                      exact upto_le ws (j + 1)
                    clear hxw HP
                    have t0 : ((x.size : Int) == 0) = false := beq_eq_false_iff_ne.2 (by omega)
                    go_wp2_with fail
                    go_loopw [16, 19] (fun vp v wq => ∃ i q : Nat, i ≤ x.size ∧ v = .int .i64 i ∧ vp = .int .i64 q ∧ q ≤ K.length ∧ Hid (q = p + i) ∧ Hid (wq.ownsRow w5.heap.size 5 1 (.slice (some ⟨gK, 0, none⟩) K.length cK) K.length (byts K)) ∧
                        Hid (wq.ownsRow w0.heap.size 9 1 (.slice (some ⟨gR, 0, none⟩) sa.length sa.length) sa.length ((laid ws sa).map Value.string)) ∧ Hid (Below w0.heap.size w0 wq)) (fun _ v _ => x.size - (intOf v).toNat)
                    case atStart => exact ⟨0, p, Nat.zero_le _, rfl, rfl, hp, rfl, hKo, hO, hB⟩
                    case round =>
                      clear hKo hO hB k1
                      obtain ⟨i, q, hi, rfl, rfl, hq, hqi, hKo, hO, hB⟩ := hrel
                      by_cases hix : i < x.size
                      · have hqK : q < K.length := by have := hqi.out; omega
                        have hc := HG.out i hix
                        rw [← hqi.out] at hc
                        have k2 := byte_cell hKo.out (j := q) hqK hc
                        clear hc
                        have hb : bl (x[i].toNat : Int) = false := by
                          have h1 := HNB.out x[i] (List.getElem_mem _)
                          unfold nbB at h1
                          simpa using h1
                        have hd : decide ((K.length : Int) ≤ (q : Int)) = false := decide_eq_false (by omega)
                        have i1 : (q : Int) < (K.length : Int) := by omega
                        have i2 : (i : Int) < (x.size : Int) := by omega
                        go_wp2
                        go_quiet ((go_at_call 10; exact Calls.quiet_of_same (zblank_no _ hb _)))
                        go_wp2
                        go_roundw
                        case rel => exact ⟨i + 1, q + 1, by omega, by go_num, by go_num, by omega, by show q + 1 = p + (i + 1); rw [hqi.out]; rfl, hKo.out, hO.out, below_drewN hB.out _⟩
                        case measure => simp [intOf]; omega
                      · have hqe : Hid (q = p + x.size) := by show q = p + x.size; have := hqi.out; omega
                        go_wp2
                        go_roundw
                        case rel => exact ⟨j + 1, q, by omega, by go_num, rfl, hq, by show q = upto ws (j + 1); rw [hqe.out, HUP.out], hKo, hO, hB⟩
                        case measure => simp [intOf]; omega
                  · by_cases hall : mA = ws.length
                    · have t1 : ((mA : Int) == (ws.length : Int)) = true := by rw [hall]; simp
                      have hpe : p = K.length := by
                        rw [hpu.out, hKf.out]
                        exact upto_all ws j (by omega)
                      have t2 : ((p : Int) != (K.length : Int)) = false := by rw [hpe]; simp
                      clear hall hpe
                      go_wp2
                      go_ret
                      exact ⟨rfl, hB.out⟩
                    · have t1 : ((mA : Int) == (ws.length : Int)) = false := beq_eq_false_iff_ne.2 (by omega)
                      clear hall
                      go_wp2
                      go_ret
                      exact ⟨rfl, hB.out⟩

set_option maxRecDepth 100000 in
set_option maxHeartbeats 1000000 in
/-- What the law lets by without looking. -/
theorem walk_by (s : ByteArray) (a b : Option Addr) (capA capB : Nat) (sa sb : List ByteArray) (hs : s.size ≤ maxLen) (hla : sa.length ≤ maxLen) (hlb : sb.length ≤ maxLen) (hby : 65536 < s.size ∨ 16384 < sa.length ∨ 16384 < sb.length) (w : World) (hra : SRow w a sa) (hrb : SRow w b sb) :
    Calls Try.prog 4 #[.string s, .slice a sa.length capA, .slice b sb.length capB] w fun e w' => e = .returned (.bool true) ∧ Below w.heap.size w w' := by
  have HRA : Hid (SRow w a sa) := hra
  have HRB : Hid (SRow w b sb) := hrb
  clear hra hrb
  have n0 := hs
  have n1 := hla
  have n2 := hlb
  unfold maxLen at n0 n1 n2
  rcases (show 65536 < s.size ∨ (s.size ≤ 65536 ∧ 16384 < sa.length) ∨ (s.size ≤ 65536 ∧ sa.length ≤ 16384 ∧ 16384 < sb.length) by omega) with h | ⟨h, h'⟩ | ⟨h, h', h''⟩
  all_goals
    go_enter Try.func4, Try.ntmps4
    go_wp2_with fail
    refine (bytes2_any s a b capA capB sa sb _ HRA.out HRB.out hs hla hlb).mono ?_
    rintro e w0 ⟨rfl, q, rfl⟩
    cases q with
    | false =>
      go_wp2_with fail
      go_ret
      exact ⟨rfl, Below.refl _ _⟩
    | true =>
      go_wp2_with fail
      go_ret
      exact ⟨rfl, Below.refl _ _⟩

end Go.Proofs.Qxb6619201a.AnyLaw
