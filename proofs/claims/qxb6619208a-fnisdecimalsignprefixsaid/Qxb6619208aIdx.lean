/-
  PLAIN: the decimal automaton's answer, said by the places that isDecimal reckons. No Go in sight.
-/
import Derived.Test.Qxb6619208aAuto
namespace Go.Proofs.Qxb6619208a.Idx
open Digs Auto

/-- Past a sign at place i. -/
def sg (l : List UInt8) (i : Nat) : Nat := match l[i]? with | some c => if sgnB c then i + 1 else i | none => i

theorem sg_yes {l : List UInt8} {i : Nat} (h : i < l.length) (hs : sgnB l[i] = true) : sg l i = i + 1 := by
  unfold sg
  rw [List.getElem?_eq_getElem h]
  simp [hs]
theorem sg_no {l : List UInt8} {i : Nat} (h : ∀ h : i < l.length, sgnB l[i] = false) : sg l i = i := by
  unfold sg
  rcases Nat.lt_or_ge i l.length with h' | h'
  · rw [List.getElem?_eq_getElem h']
    simp [h h']
  · rw [List.getElem?_eq_none h']
theorem sg_bounds (l : List UInt8) (i : Nat) (hi : i ≤ l.length) : i ≤ sg l i ∧ sg l i ≤ l.length := by
  unfold sg
  rcases Nat.lt_or_ge i l.length with h' | h'
  · rw [List.getElem?_eq_getElem h']
    simp only
    split <;> omega
  · rw [List.getElem?_eq_none h']
    simp only
    omega

theorem drop_sg (l : List UInt8) (i : Nat) : l.drop (sg l i) = dropSign (l.drop i) := by
  rcases Nat.lt_or_ge i l.length with h' | h'
  · rw [List.drop_eq_getElem_cons h']
    cases hs : sgnB l[i] with
    | true => rw [dropSign_yes hs, sg_yes h' hs]
    | false => rw [dropSign_no hs, sg_no (fun _ => hs), List.drop_eq_getElem_cons h']
  · rw [sg_no (fun h => by omega), List.drop_of_length_le h']
    rfl

theorem drop_tw (L : List UInt8) : L.drop (L.takeWhile digB).length = L.dropWhile digB := by
  conv => lhs; arg 2; rw [← List.takeWhile_append_dropWhile (p := digB) (l := L)]
  rw [List.drop_left' rfl]

theorem drop_sk (l : List UInt8) (i : Nat) : l.drop (sk l i) = (l.drop i).dropWhile digB := by
  unfold sk
  rw [← List.drop_drop, drop_tw]

theorem len_sk (l : List UInt8) (i : Nat) : sk l i - i = ((l.drop i).takeWhile digB).length := by
  unfold sk
  omega

theorem dec_dot {l : List UInt8} {i j k : Nat} (hi : i = sg l 0) (hj : j = sk l i) (hlt : j < l.length) (hdot : dotB l[j] = true) (hk : k = sk l (j + 1)) :
    acc 0 l = (((j - i) + (k - (j + 1)) != 0) && expOk (l.drop k)) := by
  have e1 : l.drop i = dropSign l := by rw [hi, drop_sg]; rfl
  have e2 : (dropSign l).dropWhile digB = l[j] :: l.drop (j + 1) := by rw [← e1, ← drop_sk, ← hj, List.drop_eq_getElem_cons hlt]
  have e3 : ((dropSign l).takeWhile digB).length = j - i := by rw [← e1, ← len_sk, ← hj]
  have e4 : ((l.drop (j + 1)).takeWhile digB).length = k - (j + 1) := by rw [← len_sk, ← hk]
  have e5 : (l.drop (j + 1)).dropWhile digB = l.drop k := by rw [← drop_sk, ← hk]
  rw [acc0]
  unfold decR
  rw [e2]
  simp only [hdot, if_true, e3, e4, e5]

theorem dec_plain {l : List UInt8} {i j : Nat} (hi : i = sg l 0) (hj : j = sk l i) (hdot : ∀ h : j < l.length, dotB l[j] = false) : acc 0 l = ((j - i != 0) && expOk (l.drop j)) := by
  have e1 : l.drop i = dropSign l := by rw [hi, drop_sg]; rfl
  have e2 : (dropSign l).dropWhile digB = l.drop j := by rw [← e1, ← drop_sk, ← hj]
  have e3 : ((dropSign l).takeWhile digB).length = j - i := by rw [← e1, ← len_sk, ← hj]
  rw [acc0]
  unfold decR
  rw [e2]
  rcases Nat.lt_or_ge j l.length with h' | h'
  · rw [List.drop_eq_getElem_cons h']
    simp only [hdot h', e3]
    rfl
  · rw [List.drop_of_length_le h']
    simp only [e3]
    simp [expOk]

theorem all_tw (r : List UInt8) : (!r.isEmpty && r.all digB) = ((r.takeWhile digB).length != 0 && ((r.takeWhile digB).length == r.length)) := by
  have h : r.all digB = ((r.takeWhile digB).length == r.length) := by
    induction r with
    | nil => rfl
    | cons c r ih =>
      rw [List.all_cons, List.takeWhile_cons]
      cases hc : digB c with
      | true =>
        rw [if_pos rfl, Bool.true_and, ih]
        simp
      | false =>
        rw [if_neg (by simp), Bool.false_and]
        simp
  rw [h]
  cases r with
  | nil => rfl
  | cons c r =>
    rw [List.takeWhile_cons]
    cases hc : digB c with
    | true => simp
    | false => simp

theorem exp_yes {l : List UInt8} {j p q : Nat} (hlt : j < l.length) (hex : exB l[j] = true) (hp : p = sg l (j + 1)) (hq : q = sk l p) : expOk (l.drop j) = ((q != p) && (q == l.length)) := by
  rw [List.drop_eq_getElem_cons hlt, expOk_cons, hex, Bool.true_and]
  unfold sint
  have e1 : dropSign (l.drop (j + 1)) = l.drop p := by rw [hp, drop_sg]
  have hb := sg_bounds l (j + 1) hlt
  rw [← hp] at hb
  have e2 := len_sk l p
  rw [← hq] at e2
  have hge := sk_ge l p
  rw [← hq] at hge
  rw [e1, all_tw, ← e2, List.length_drop]
  congr 1
  · rw [Bool.eq_iff_iff]; simp only [bne_iff_ne]; omega
  · rw [Bool.eq_iff_iff]; simp only [beq_iff_eq]; omega

theorem exp_no {l : List UInt8} {j : Nat} (hj : j ≤ l.length) (hex : ∀ h : j < l.length, exB l[j] = false) : expOk (l.drop j) = (j == l.length) := by
  rcases Nat.lt_or_ge j l.length with h' | h'
  · rw [List.drop_eq_getElem_cons h', expOk_cons, hex h', Bool.false_and]
    symm
    rw [beq_eq_false_iff_ne]
    omega
  · rw [List.drop_of_length_le h']
    symm
    show (j == l.length) = true
    rw [beq_iff_eq]
    omega

end Go.Proofs.Qxb6619208a.Idx
