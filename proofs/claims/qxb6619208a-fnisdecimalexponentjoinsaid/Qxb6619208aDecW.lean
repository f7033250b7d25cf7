/-
  WALKS: skipSign, isDecimal, ZZIsDecimal: isDecimal answers as the automaton does.
-/
import Derived.Test.Qxb6619208aStep
namespace Go.Proofs.Qxb6619208a.DecW
open Go.RowKit Digs Auto Idx Skip Step

def sgS (s : ByteArray) (i : Nat) : Nat := sg s.data.toList i

theorem sgn_yes {c : Int} (h : (c == 43) = true ∨ (c == 45) = true) : sgn c = true := by
  rcases h with h | h <;> simp [sgn, h]
theorem sgn_no {c : Int} (h1 : (c == 43) = false) (h2 : (c == 45) = false) : sgn c = false := by simp [sgn, h1, h2]

set_option maxHeartbeats 400000 in
theorem skipsign_any (s : ByteArray) (i : Nat) (iv : Int) (hiv : iv = (i : Int)) (r : Nat) (hr : Hid (r = sgS s i)) (hs : s.size ≤ 4194304) (w : World) :
    Calls Try.prog 25 #[.string s, .int .i64 iv] w fun e w' => e = .returned (.int .i64 (r : Int)) ∧ w' = w := by
  subst hiv
  by_cases hlt : i < s.size
  · cases h1 : ((s[i].toNat : Int) == 43) with
    | true =>
      have he : Hid (r = i + 1) := by
        show r = i + 1
        rw [hr.out]
        exact sg_yes (by rw [size_list]; exact hlt) (sgn_yes (.inl h1))
      go_enter Try.func25, Try.ntmps25
      go_wp2
      go_ret
      exact ⟨ret_int (by rw [he.out]; rfl), rfl⟩
    | false =>
      cases h2 : ((s[i].toNat : Int) == 45) with
      | true =>
        have he : Hid (r = i + 1) := by
          show r = i + 1
          rw [hr.out]
          exact sg_yes (by rw [size_list]; exact hlt) (sgn_yes (.inr h2))
        go_enter Try.func25, Try.ntmps25
        go_wp2
        go_ret
        exact ⟨ret_int (by rw [he.out]; rfl), rfl⟩
      | false =>
        have he : Hid (r = i) := by
          show r = i
          rw [hr.out]
          exact sg_no (fun _ => sgn_no h1 h2)
        go_enter Try.func25, Try.ntmps25
        go_wp2
        go_ret
        exact ⟨ret_int (by rw [he.out]), rfl⟩
  · have he : Hid (r = i) := by
      show r = i
      rw [hr.out]
      exact sg_no (fun h => by rw [size_list] at h; omega)
    have hd : decide (i < s.size) = false := decide_eq_false hlt
    go_enter Try.func25, Try.ntmps25
    go_wp2
    go_ret
    exact ⟨ret_int (by rw [he.out]), rfl⟩

theorem skip_at (s : ByteArray) (i : Nat) (iv : Int) (hiv : iv = (i : Int)) (r : Nat) (hr : Hid (r = skS s i)) (hs : s.size ≤ 4194304) (w : World) :
    Calls Try.prog 24 #[.string s, .int .i64 iv] w fun e w' => e = .returned (.int .i64 (r : Int)) ∧ w' = w := by
  subst hiv
  rw [hr.out]
  exact skip_any s i hs w

/-- What the whole comes to. -/
def accS (s : ByteArray) : Bool := acc 0 s.data.toList

theorem S_dot {s : ByteArray} {i j k : Nat} (hi : i = sgS s 0) (hj : j = skS s i) (hlt : j < s.size) (hdot : ((s[j].toNat : Int) == 46) = true) (hk : k = skS s (j + 1)) :
    accS s = (((j - i) + (k - (j + 1)) != 0) && expOk (s.data.toList.drop k)) := dec_dot hi hj (by rw [size_list]; exact hlt) hdot hk
theorem S_plain {s : ByteArray} {i j : Nat} (hi : i = sgS s 0) (hj : j = skS s i) (hdot : ∀ h : j < s.size, ((s[j].toNat : Int) == 46) = false) : accS s = ((j - i != 0) && expOk (s.data.toList.drop j)) :=
  dec_plain hi hj (fun h => hdot (by rw [size_list] at h; exact h))
theorem S_exp {s : ByteArray} {j p q : Nat} (hlt : j < s.size) (hex : ex (s[j].toNat : Int) = true) (hp : p = sgS s (j + 1)) (hq : q = skS s p) : expOk (s.data.toList.drop j) = ((q != p) && (q == s.size)) := by
  rw [← size_list]
  exact exp_yes (by rw [size_list]; exact hlt) hex hp hq
theorem S_noexp {s : ByteArray} {j : Nat} (hj : j ≤ s.size) (hex : ∀ h : j < s.size, ex (s[j].toNat : Int) = false) : expOk (s.data.toList.drop j) = (j == s.size) := by
  rw [← size_list]
  exact exp_no (by rw [size_list]; exact hj) (fun h => hex (by rw [size_list] at h; exact h))
theorem sg_le {s : ByteArray} {i r : Nat} (h : r = sgS s i) (hi : i ≤ s.size) : i ≤ r ∧ r ≤ s.size := by
  rw [h, ← size_list]
  exact sg_bounds _ _ (by rw [size_list]; exact hi)
theorem sk_bd {s : ByteArray} {i r : Nat} (h : r = skS s i) (hi : i ≤ s.size) : i ≤ r ∧ r ≤ s.size := by
  rw [h]
  exact ⟨sk_ge _ _, by rw [← size_list]; exact sk_le _ _ (by rw [size_list]; exact hi)⟩
theorem bne_nat (a b : Nat) : (a != b) = ((a : Int) != (b : Int)) := by
  rw [Bool.eq_iff_iff]; simp only [bne_iff_ne]; omega

set_option maxHeartbeats 8000000 in
theorem dec_any (s : ByteArray) (hs : s.size ≤ 4194304) (w : World) : Calls Try.prog 22 #[.string s] w fun e w' => e = .returned (.bool (accS s)) ∧ w' = w := by
  obtain ⟨i, hi⟩ : ∃ i, i = sgS s 0 := ⟨_, rfl⟩
  obtain ⟨j, hj⟩ : ∃ j, j = skS s i := ⟨_, rfl⟩
  have bi := sg_le hi (Nat.zero_le _)
  have bj := sk_bd hj bi.2
  have HI : Hid (i = sgS s 0) := hi
  have HJ : Hid (j = skS s i) := hj
  obtain ⟨bi1, bi2⟩ := bi
  obtain ⟨bj1, bj2⟩ := bj
  clear bi1
  by_cases hjs : j < s.size
  · cases hdot : ((s[j].toNat : Int) == 46) with
    | true =>
      obtain ⟨k, hk⟩ : ∃ k, k = skS s (j + 1) := ⟨_, rfl⟩
      have bk := sk_bd hk hjs
      obtain ⟨bk1, bk2⟩ := bk
      have HK : Hid (k = skS s (j + 1)) := hk
      have HACC : Hid (accS s = (((j - i) + (k - (j + 1)) != 0) && expOk (s.data.toList.drop k))) := S_dot hi hj hjs hdot hk
      clear hi hj hk
      by_cases hm : (j - i) + (k - (j + 1)) = 0
      · have HF : Hid (accS s = false) := by show accS s = false; rw [HACC.out, hm]; rfl
        have tm : ((j : Int) - (i : Int) + ((k : Int) - ((j : Int) + 1)) == 0) = true := beq_iff_eq.2 (by omega)
        clear hm HACC
        go_enter Try.func22, Try.ntmps22
        go_wp2_with fail
        refine (skipsign_any s 0 _ rfl i HI hs _).mono ?_
        rintro e w' ⟨rfl, rfl⟩
        go_wp2_with fail
        refine (skip_at s i _ rfl j HJ hs _).mono ?_
        rintro e w' ⟨rfl, rfl⟩
        go_wp2_with fail
        refine (skip_at s (j + 1) _ (by omega) k HK hs _).mono ?_
        rintro e w' ⟨rfl, rfl⟩
        go_wp2
        go_ret
        exact ⟨ret_bool HF.out.symm, rfl⟩
      · have HA : Hid (accS s = expOk (s.data.toList.drop k)) := by
          show accS s = expOk (s.data.toList.drop k)
          have : ((j - i) + (k - (j + 1)) != 0) = true := bne_iff_ne.2 hm
          rw [HACC.out, this, Bool.true_and]
        have tm : ((j : Int) - (i : Int) + ((k : Int) - ((j : Int) + 1)) == 0) = false := beq_eq_false_iff_ne.2 (by omega)
        clear hm HACC
        by_cases hJ : k < s.size
        · cases he1 : ((s[k].toNat : Int) == 101) with
          | true =>
            obtain ⟨p, hp⟩ : ∃ p, p = sgS s (k + 1) := ⟨_, rfl⟩
            obtain ⟨q, hq⟩ : ∃ q, q = skS s p := ⟨_, rfl⟩
            have HE := S_exp hJ (by simp [ex, he1]) hp hq
            have bp := sg_le hp (by omega)
            have bq := sk_bd hq bp.2
            have HP : Hid (p = sgS s (k + 1)) := hp
            have HQ : Hid (q = skS s p) := hq
            clear hp hq
            by_cases hqp : q = p
            · have tq : ((q : Int) == (p : Int)) = true := beq_iff_eq.2 (by omega)
              have HG : Hid (accS s = false) := by show accS s = false; rw [HA.out, HE, hqp]; simp
              clear HE HA hqp
              go_enter Try.func22, Try.ntmps22
              go_wp2_with fail
              refine (skipsign_any s 0 _ rfl i HI hs _).mono ?_
              rintro e w' ⟨rfl, rfl⟩
              go_wp2_with fail
              refine (skip_at s i _ rfl j HJ hs _).mono ?_
              rintro e w' ⟨rfl, rfl⟩
              go_wp2_with fail
              refine (skip_at s (j + 1) _ (by omega) k HK hs _).mono ?_
              rintro e w' ⟨rfl, rfl⟩
              go_wp2_with fail
              refine (skipsign_any s (k + 1) _ (by omega) p HP hs _).mono ?_
              rintro e w' ⟨rfl, rfl⟩
              go_wp2_with fail
              refine (skip_at s p _ rfl q HQ hs _).mono ?_
              rintro e w' ⟨rfl, rfl⟩
              go_wp2
              go_ret
              exact ⟨ret_bool HG.out.symm, rfl⟩
            · have tq : ((q : Int) == (p : Int)) = false := beq_eq_false_iff_ne.2 (by omega)
              have HG : Hid (accS s = ((q : Int) == (s.size : Int))) := by
                show accS s = ((q : Int) == (s.size : Int))
                have : (q != p) = true := bne_iff_ne.2 hqp
                rw [HA.out, HE, this, Bool.true_and, Bool.eq_iff_iff, beq_iff_eq, beq_iff_eq]
                omega
              clear HE HA hqp
              go_enter Try.func22, Try.ntmps22
              go_wp2_with fail
              refine (skipsign_any s 0 _ rfl i HI hs _).mono ?_
              rintro e w' ⟨rfl, rfl⟩
              go_wp2_with fail
              refine (skip_at s i _ rfl j HJ hs _).mono ?_
              rintro e w' ⟨rfl, rfl⟩
              go_wp2_with fail
              refine (skip_at s (j + 1) _ (by omega) k HK hs _).mono ?_
              rintro e w' ⟨rfl, rfl⟩
              go_wp2_with fail
              refine (skipsign_any s (k + 1) _ (by omega) p HP hs _).mono ?_
              rintro e w' ⟨rfl, rfl⟩
              go_wp2_with fail
              refine (skip_at s p _ rfl q HQ hs _).mono ?_
              rintro e w' ⟨rfl, rfl⟩
              go_wp2
              go_ret
              exact ⟨ret_bool HG.out.symm, rfl⟩
          | false =>
            cases he2 : ((s[k].toNat : Int) == 69) with
            | true =>
              obtain ⟨p, hp⟩ : ∃ p, p = sgS s (k + 1) := ⟨_, rfl⟩
              obtain ⟨q, hq⟩ : ∃ q, q = skS s p := ⟨_, rfl⟩
              have HE := S_exp hJ (by simp [ex, he2]) hp hq
              have bp := sg_le hp (by omega)
              have bq := sk_bd hq bp.2
              have HP : Hid (p = sgS s (k + 1)) := hp
              have HQ : Hid (q = skS s p) := hq
              clear hp hq
              by_cases hqp : q = p
              · have tq : ((q : Int) == (p : Int)) = true := beq_iff_eq.2 (by omega)
                have HG : Hid (accS s = false) := by show accS s = false; rw [HA.out, HE, hqp]; simp
                clear HE HA hqp
                go_enter Try.func22, Try.ntmps22
                go_wp2_with fail
                refine (skipsign_any s 0 _ rfl i HI hs _).mono ?_
                rintro e w' ⟨rfl, rfl⟩
                go_wp2_with fail
                refine (skip_at s i _ rfl j HJ hs _).mono ?_
                rintro e w' ⟨rfl, rfl⟩
                go_wp2_with fail
                refine (skip_at s (j + 1) _ (by omega) k HK hs _).mono ?_
                rintro e w' ⟨rfl, rfl⟩
                go_wp2_with fail
                refine (skipsign_any s (k + 1) _ (by omega) p HP hs _).mono ?_
                rintro e w' ⟨rfl, rfl⟩
                go_wp2_with fail
                refine (skip_at s p _ rfl q HQ hs _).mono ?_
                rintro e w' ⟨rfl, rfl⟩
                go_wp2
                go_ret
                exact ⟨ret_bool HG.out.symm, rfl⟩
              · have tq : ((q : Int) == (p : Int)) = false := beq_eq_false_iff_ne.2 (by omega)
                have HG : Hid (accS s = ((q : Int) == (s.size : Int))) := by
                  show accS s = ((q : Int) == (s.size : Int))
                  have : (q != p) = true := bne_iff_ne.2 hqp
                  rw [HA.out, HE, this, Bool.true_and, Bool.eq_iff_iff, beq_iff_eq, beq_iff_eq]
                  omega
                clear HE HA hqp
                go_enter Try.func22, Try.ntmps22
                go_wp2_with fail
                refine (skipsign_any s 0 _ rfl i HI hs _).mono ?_
                rintro e w' ⟨rfl, rfl⟩
                go_wp2_with fail
                refine (skip_at s i _ rfl j HJ hs _).mono ?_
                rintro e w' ⟨rfl, rfl⟩
                go_wp2_with fail
                refine (skip_at s (j + 1) _ (by omega) k HK hs _).mono ?_
                rintro e w' ⟨rfl, rfl⟩
                go_wp2_with fail
                refine (skipsign_any s (k + 1) _ (by omega) p HP hs _).mono ?_
                rintro e w' ⟨rfl, rfl⟩
                go_wp2_with fail
                refine (skip_at s p _ rfl q HQ hs _).mono ?_
                rintro e w' ⟨rfl, rfl⟩
                go_wp2
                go_ret
                exact ⟨ret_bool HG.out.symm, rfl⟩
            | false =>
              have HE := S_noexp (s := s) (j := k) (by omega) (fun _ => by simp [ex, he1, he2])
              have HF : Hid (accS s = (k == s.size)) := by show accS s = (k == s.size); rw [HA.out]; exact HE
              have te : ((k : Int) == (s.size : Int)) = false := beq_eq_false_iff_ne.2 (by omega)
              have HG : Hid (accS s = false) := by show accS s = false; rw [HF.out]; exact beq_eq_false_iff_ne.2 (by omega)
              clear HE HF HA
              go_enter Try.func22, Try.ntmps22
              go_wp2_with fail
              refine (skipsign_any s 0 _ rfl i HI hs _).mono ?_
              rintro e w' ⟨rfl, rfl⟩
              go_wp2_with fail
              refine (skip_at s i _ rfl j HJ hs _).mono ?_
              rintro e w' ⟨rfl, rfl⟩
              go_wp2_with fail
              refine (skip_at s (j + 1) _ (by omega) k HK hs _).mono ?_
              rintro e w' ⟨rfl, rfl⟩
              go_wp2
              go_ret
              exact ⟨ret_bool HG.out.symm, rfl⟩
        · have eJ : k = s.size := by omega
          have HE := S_noexp (s := s) (j := k) (by omega) (fun h => absurd h hJ)
          have te : ((k : Int) == (s.size : Int)) = true := beq_iff_eq.2 (by omega)
          have HG : Hid (accS s = true) := by show accS s = true; rw [HA.out, HE]; exact beq_iff_eq.2 eJ
          have dJ : decide (k < s.size) = false := decide_eq_false hJ
          clear HE HA eJ
          go_enter Try.func22, Try.ntmps22
          go_wp2_with fail
          refine (skipsign_any s 0 _ rfl i HI hs _).mono ?_
          rintro e w' ⟨rfl, rfl⟩
          go_wp2_with fail
          refine (skip_at s i _ rfl j HJ hs _).mono ?_
          rintro e w' ⟨rfl, rfl⟩
          go_wp2_with fail
          refine (skip_at s (j + 1) _ (by omega) k HK hs _).mono ?_
          rintro e w' ⟨rfl, rfl⟩
          go_wp2
          go_ret
          exact ⟨ret_bool HG.out.symm, rfl⟩
    | false =>
      have HACC : Hid (accS s = ((j - i != 0) && expOk (s.data.toList.drop j))) := S_plain hi hj (fun _ => hdot)
      clear hi hj
      by_cases hm : j - i = 0
      · have HF : Hid (accS s = false) := by show accS s = false; rw [HACC.out, hm]; rfl
        have tm : ((j : Int) - (i : Int) == 0) = true := beq_iff_eq.2 (by omega)
        clear hm HACC
        go_enter Try.func22, Try.ntmps22
        go_wp2_with fail
        refine (skipsign_any s 0 _ rfl i HI hs _).mono ?_
        rintro e w' ⟨rfl, rfl⟩
        go_wp2_with fail
        refine (skip_at s i _ rfl j HJ hs _).mono ?_
        rintro e w' ⟨rfl, rfl⟩
        go_wp2
        go_ret
        exact ⟨ret_bool HF.out.symm, rfl⟩
      · have HA : Hid (accS s = expOk (s.data.toList.drop j)) := by
          show accS s = expOk (s.data.toList.drop j)
          have : (j - i != 0) = true := bne_iff_ne.2 hm
          rw [HACC.out, this, Bool.true_and]
        have tm : ((j : Int) - (i : Int) == 0) = false := beq_eq_false_iff_ne.2 (by omega)
        clear hm HACC
        by_cases hJ : j < s.size
        · cases he1 : ((s[j].toNat : Int) == 101) with
          | true =>
            obtain ⟨p, hp⟩ : ∃ p, p = sgS s (j + 1) := ⟨_, rfl⟩
            obtain ⟨q, hq⟩ : ∃ q, q = skS s p := ⟨_, rfl⟩
            have HE := S_exp hJ (by simp [ex, he1]) hp hq
            have bp := sg_le hp (by omega)
            have bq := sk_bd hq bp.2
            have HP : Hid (p = sgS s (j + 1)) := hp
            have HQ : Hid (q = skS s p) := hq
            clear hp hq
            by_cases hqp : q = p
            · have tq : ((q : Int) == (p : Int)) = true := beq_iff_eq.2 (by omega)
              have HG : Hid (accS s = false) := by show accS s = false; rw [HA.out, HE, hqp]; simp
              clear HE HA hqp
              go_enter Try.func22, Try.ntmps22
              go_wp2_with fail
              refine (skipsign_any s 0 _ rfl i HI hs _).mono ?_
              rintro e w' ⟨rfl, rfl⟩
              go_wp2_with fail
              refine (skip_at s i _ rfl j HJ hs _).mono ?_
              rintro e w' ⟨rfl, rfl⟩
              go_wp2_with fail
              refine (skipsign_any s (j + 1) _ (by omega) p HP hs _).mono ?_
              rintro e w' ⟨rfl, rfl⟩
              go_wp2_with fail
              refine (skip_at s p _ rfl q HQ hs _).mono ?_
              rintro e w' ⟨rfl, rfl⟩
              go_wp2
              go_ret
              exact ⟨ret_bool HG.out.symm, rfl⟩
            · have tq : ((q : Int) == (p : Int)) = false := beq_eq_false_iff_ne.2 (by omega)
              have HG : Hid (accS s = ((q : Int) == (s.size : Int))) := by
                show accS s = ((q : Int) == (s.size : Int))
                have : (q != p) = true := bne_iff_ne.2 hqp
                rw [HA.out, HE, this, Bool.true_and, Bool.eq_iff_iff, beq_iff_eq, beq_iff_eq]
                omega
              clear HE HA hqp
              go_enter Try.func22, Try.ntmps22
              go_wp2_with fail
              refine (skipsign_any s 0 _ rfl i HI hs _).mono ?_
              rintro e w' ⟨rfl, rfl⟩
              go_wp2_with fail
              refine (skip_at s i _ rfl j HJ hs _).mono ?_
              rintro e w' ⟨rfl, rfl⟩
              go_wp2_with fail
              refine (skipsign_any s (j + 1) _ (by omega) p HP hs _).mono ?_
              rintro e w' ⟨rfl, rfl⟩
              go_wp2_with fail
              refine (skip_at s p _ rfl q HQ hs _).mono ?_
              rintro e w' ⟨rfl, rfl⟩
              go_wp2
              go_ret
              exact ⟨ret_bool HG.out.symm, rfl⟩
          | false =>
            cases he2 : ((s[j].toNat : Int) == 69) with
            | true =>
              obtain ⟨p, hp⟩ : ∃ p, p = sgS s (j + 1) := ⟨_, rfl⟩
              obtain ⟨q, hq⟩ : ∃ q, q = skS s p := ⟨_, rfl⟩
              have HE := S_exp hJ (by simp [ex, he2]) hp hq
              have bp := sg_le hp (by omega)
              have bq := sk_bd hq bp.2
              have HP : Hid (p = sgS s (j + 1)) := hp
              have HQ : Hid (q = skS s p) := hq
              clear hp hq
              by_cases hqp : q = p
              · have tq : ((q : Int) == (p : Int)) = true := beq_iff_eq.2 (by omega)
                have HG : Hid (accS s = false) := by show accS s = false; rw [HA.out, HE, hqp]; simp
                clear HE HA hqp
                go_enter Try.func22, Try.ntmps22
                go_wp2_with fail
                refine (skipsign_any s 0 _ rfl i HI hs _).mono ?_
                rintro e w' ⟨rfl, rfl⟩
                go_wp2_with fail
                refine (skip_at s i _ rfl j HJ hs _).mono ?_
                rintro e w' ⟨rfl, rfl⟩
                go_wp2_with fail
                refine (skipsign_any s (j + 1) _ (by omega) p HP hs _).mono ?_
                rintro e w' ⟨rfl, rfl⟩
                go_wp2_with fail
                refine (skip_at s p _ rfl q HQ hs _).mono ?_
                rintro e w' ⟨rfl, rfl⟩
                go_wp2
                go_ret
                exact ⟨ret_bool HG.out.symm, rfl⟩
              · have tq : ((q : Int) == (p : Int)) = false := beq_eq_false_iff_ne.2 (by omega)
                have HG : Hid (accS s = ((q : Int) == (s.size : Int))) := by
                  show accS s = ((q : Int) == (s.size : Int))
                  have : (q != p) = true := bne_iff_ne.2 hqp
                  rw [HA.out, HE, this, Bool.true_and, Bool.eq_iff_iff, beq_iff_eq, beq_iff_eq]
                  omega
                clear HE HA hqp
                go_enter Try.func22, Try.ntmps22
                go_wp2_with fail
                refine (skipsign_any s 0 _ rfl i HI hs _).mono ?_
                rintro e w' ⟨rfl, rfl⟩
                go_wp2_with fail
                refine (skip_at s i _ rfl j HJ hs _).mono ?_
                rintro e w' ⟨rfl, rfl⟩
                go_wp2_with fail
                refine (skipsign_any s (j + 1) _ (by omega) p HP hs _).mono ?_
                rintro e w' ⟨rfl, rfl⟩
                go_wp2_with fail
                refine (skip_at s p _ rfl q HQ hs _).mono ?_
                rintro e w' ⟨rfl, rfl⟩
                go_wp2
                go_ret
                exact ⟨ret_bool HG.out.symm, rfl⟩
            | false =>
              have HE := S_noexp (s := s) (j := j) (by omega) (fun _ => by simp [ex, he1, he2])
              have HF : Hid (accS s = (j == s.size)) := by show accS s = (j == s.size); rw [HA.out]; exact HE
              have te : ((j : Int) == (s.size : Int)) = false := beq_eq_false_iff_ne.2 (by omega)
              have HG : Hid (accS s = false) := by show accS s = false; rw [HF.out]; exact beq_eq_false_iff_ne.2 (by omega)
              clear HE HF HA
              go_enter Try.func22, Try.ntmps22
              go_wp2_with fail
              refine (skipsign_any s 0 _ rfl i HI hs _).mono ?_
              rintro e w' ⟨rfl, rfl⟩
              go_wp2_with fail
              refine (skip_at s i _ rfl j HJ hs _).mono ?_
              rintro e w' ⟨rfl, rfl⟩
              go_wp2
              go_ret
              exact ⟨ret_bool HG.out.symm, rfl⟩
        · exact absurd hjs hJ
  · have HACC : Hid (accS s = ((j - i != 0) && expOk (s.data.toList.drop j))) := S_plain hi hj (fun h => absurd h hjs)
    have dj : decide (j < s.size) = false := decide_eq_false hjs
    clear hi hj
    by_cases hm : j - i = 0
    · have HF : Hid (accS s = false) := by show accS s = false; rw [HACC.out, hm]; rfl
      have tm : ((j : Int) - (i : Int) == 0) = true := beq_iff_eq.2 (by omega)
      clear hm HACC
      go_enter Try.func22, Try.ntmps22
      go_wp2_with fail
      refine (skipsign_any s 0 _ rfl i HI hs _).mono ?_
      rintro e w' ⟨rfl, rfl⟩
      go_wp2_with fail
      refine (skip_at s i _ rfl j HJ hs _).mono ?_
      rintro e w' ⟨rfl, rfl⟩
      go_wp2
      go_ret
      exact ⟨ret_bool HF.out.symm, rfl⟩
    · have eJ : j = s.size := by omega
      have HE := S_noexp (s := s) (j := j) (by omega) (fun h => absurd h hjs)
      have te : ((j : Int) == (s.size : Int)) = true := beq_iff_eq.2 (by omega)
      have HG : Hid (accS s = true) := by
        show accS s = true
        have : (j - i != 0) = true := bne_iff_ne.2 hm
        rw [HACC.out, this, Bool.true_and, HE]
        exact beq_iff_eq.2 eJ
      have tm : ((j : Int) - (i : Int) == 0) = false := beq_eq_false_iff_ne.2 (by omega)
      clear hm HACC HE eJ
      go_enter Try.func22, Try.ntmps22
      go_wp2_with fail
      refine (skipsign_any s 0 _ rfl i HI hs _).mono ?_
      rintro e w' ⟨rfl, rfl⟩
      go_wp2_with fail
      refine (skip_at s i _ rfl j HJ hs _).mono ?_
      rintro e w' ⟨rfl, rfl⟩
      go_wp2
      go_ret
      exact ⟨ret_bool HG.out.symm, rfl⟩

theorem zdec_any (s : ByteArray) (hs : s.size ≤ 4194304) (w : World) : Calls Try.prog 9 #[.string s] w fun e w' => e = .returned (.bool (accS s)) ∧ w' = w := by
  go_enter Try.func9, Try.ntmps9
  go_wp2_with (go_at_call 22; refine (dec_any _ hs _).mono ?_; rintro e w' ⟨rfl, rfl⟩)
  go_ret
  exact ⟨rfl, rfl⟩

end Go.Proofs.Qxb6619208a.DecW
