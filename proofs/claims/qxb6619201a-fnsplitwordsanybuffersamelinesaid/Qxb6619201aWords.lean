/-
  PLAIN LAWS ON THE WORDS OF A LINE: no Go in sight. A blank is a space or a tab; a word is a maximal run of bytes that are none.
  'sts l k', 'ens l k': where the words of l begin and end, looked for among the first k places. 'edge l i': place i lies inside no word.
-/
namespace Go.Proofs.Qxb6619201a.Words

/-- A byte, as a number, is a blank. -/
def bl (c : Int) : Bool := c == 32 || c == 9
/-- Place i of l holds a byte that is no blank. -/
def nb (l : List UInt8) (i : Nat) : Bool := match l[i]? with | some c => !bl (c.toNat : Int) | none => false
def isS (l : List UInt8) (i : Nat) : Bool := nb l i && (i == 0 || !nb l (i - 1))
def isE (l : List UInt8) (i : Nat) : Bool := nb l i && !nb l (i + 1)
def sts (l : List UInt8) (k : Nat) : List Nat := (List.range k).filter (isS l)
def ens (l : List UInt8) (k : Nat) : List Nat := ((List.range k).filter (isE l)).map (· + 1)
def edge (l : List UInt8) (i : Nat) : Prop := i = 0 ∨ nb l i = false ∨ nb l (i - 1) = false

theorem nb_end (l : List UInt8) (i : Nat) (h : l.length ≤ i) : nb l i = false := by
  unfold nb
  rw [List.getElem?_eq_none h]

theorem nb_lt {l : List UInt8} {i : Nat} (h : nb l i = true) : i < l.length := by
  rcases Nat.lt_or_ge i l.length with h' | h'
  · exact h'
  · rw [nb_end l i h'] at h; cases h

theorem sts_succ (l : List UInt8) (k : Nat) : sts l (k + 1) = if isS l k then sts l k ++ [k] else sts l k := by
  unfold sts
  rw [List.range_succ, List.filter_append]
  by_cases h : isS l k <;> simp [h]

theorem ens_succ (l : List UInt8) (k : Nat) : ens l (k + 1) = if isE l k then ens l k ++ [k + 1] else ens l k := by
  unfold ens
  rw [List.range_succ, List.filter_append]
  by_cases h : isE l k <;> simp [h]

theorem step_blank {l : List UInt8} {i : Nat} (h : nb l i = false) : sts l (i + 1) = sts l i ∧ ens l (i + 1) = ens l i ∧ edge l (i + 1) := by
  rw [sts_succ, ens_succ]
  refine ⟨by simp [isS, h], by simp [isE, h], .inr (.inr (by simpa using h))⟩

theorem inside {l : List UInt8} {i : Nat} (hi : edge l i) (h0 : nb l i = true) (m : Nat) (hm : ∀ k, i ≤ k → k ≤ i + m → nb l k = true) :
    sts l (i + m + 1) = sts l i ++ [i] ∧ ens l (i + m) = ens l i := by
  induction m with
  | zero =>
    refine ⟨?_, rfl⟩
    rw [Nat.add_zero, sts_succ]
    have : isS l i = true := by
      unfold isS
      rcases hi with h | h | h
      · subst h; simp [h0]
      · rw [h0] at h; cases h
      · simp [h0, h]
    rw [if_pos this]
  | succ m ih =>
    obtain ⟨a, b⟩ := ih (fun k h1 h2 => hm k h1 (by omega))
    have e1 := hm (i + m) (by omega) (by omega)
    have e2 := hm (i + (m + 1)) (by omega) (by omega)
    constructor
    · rw [sts_succ, show i + (m + 1) = i + m + 1 from rfl, a, if_neg]
      simp [isS, e1]
    · rw [show i + (m + 1) = i + m + 1 from rfl, ens_succ, b, if_neg]
      simp only [isE, Bool.and_eq_true, Bool.not_eq_true', not_and]
      intro _
      rw [show i + m + 1 = i + (m + 1) from rfl, e2]
      simp

theorem step_word {l : List UInt8} {i j : Nat} (hi : edge l i) (hij : i < j) (hm : ∀ k, i ≤ k → k < j → nb l k = true) (hj : nb l j = false) :
    sts l j = sts l i ++ [i] ∧ ens l j = ens l i ++ [j] ∧ edge l j := by
  obtain ⟨m, rfl⟩ : ∃ m, j = i + m + 1 := ⟨j - i - 1, by omega⟩
  obtain ⟨a, b⟩ := inside hi (hm i (by omega) (by omega)) m (fun k h1 h2 => hm k h1 (by omega))
  refine ⟨a, ?_, .inr (.inl hj)⟩
  rw [ens_succ, b, if_pos]
  simp [isE, hj, hm (i + m) (by omega) (by omega)]

/-- The run that begins at i ends somewhere. -/
theorem run_end (l : List UInt8) (m i : Nat) (hm : l.length ≤ i + m) (h : nb l i = true) : ∃ j, i < j ∧ j ≤ l.length ∧ (∀ k, i ≤ k → k < j → nb l k = true) ∧ nb l j = false := by
  induction m generalizing i with
  | zero => have := nb_lt h; omega
  | succ m ih =>
    by_cases h1 : nb l (i + 1) = true
    · obtain ⟨j, a, b, c, d⟩ := ih (i + 1) (by omega) h1
      refine ⟨j, by omega, b, fun k h2 h3 => ?_, d⟩
      by_cases e : k = i
      · rw [e]; exact h
      · exact c k (by omega) h3
    · refine ⟨i + 1, by omega, by have := nb_lt h; omega, fun k h2 h3 => ?_, by simpa using h1⟩
      rw [show k = i from by omega]; exact h

/-- As many ends as starts, but for the word that place k lies in. -/
theorem len_sts (l : List UInt8) (k : Nat) : (sts l k).length = (ens l k).length + if k ≠ 0 ∧ nb l (k - 1) = true ∧ nb l k = true then 1 else 0 := by
  induction k with
  | zero => simp [sts, ens]
  | succ k ih =>
    rw [sts_succ, ens_succ]
    have hS : isS l k = (nb l k && (k == 0 || !nb l (k - 1))) := rfl
    have hE : isE l k = (nb l k && !nb l (k + 1)) := rfl
    rw [hS, hE]
    simp only [Nat.add_sub_cancel]
    by_cases h0 : k = 0
    · subst h0
      cases nb l 0 <;> cases nb l (0 + 1) <;> simp_all
    · cases hk : nb l k <;> cases hk1 : nb l (k + 1) <;> cases hkm : nb l (k - 1) <;> simp_all

theorem len_eq (l : List UInt8) (k : Nat) (h : edge l k) : (sts l k).length = (ens l k).length := by
  rw [len_sts, if_neg, Nat.add_zero]
  rintro ⟨a, b, c⟩
  rcases h with h | h | h
  · exact a h
  · rw [c] at h; cases h
  · rw [b] at h; cases h

/-- The words that lie among the first k places. -/
def wds (s : ByteArray) (k : Nat) : List ByteArray := List.zipWith (fun a b => s.extract a b) (sts s.data.toList k) (ens s.data.toList k)

theorem wds_zero (s : ByteArray) : wds s 0 = [] := rfl

theorem wds_len (s : ByteArray) (k : Nat) (h : edge s.data.toList k) : (wds s k).length = (sts s.data.toList k).length := by
  unfold wds
  rw [List.length_zipWith, len_eq _ _ h, Nat.min_self]

theorem wds_blank {s : ByteArray} {i : Nat} (h : nb s.data.toList i = false) : wds s (i + 1) = wds s i := by
  unfold wds
  rw [(step_blank h).1, (step_blank h).2.1]

theorem wds_word {s : ByteArray} {i j : Nat} (hi : edge s.data.toList i) (hij : i < j) (hm : ∀ k, i ≤ k → k < j → nb s.data.toList k = true) (hj : nb s.data.toList j = false) :
    wds s j = wds s i ++ [s.extract i j] := by
  unfold wds
  rw [(step_word hi hij hm hj).1, (step_word hi hij hm hj).2.1, List.zipWith_append (len_eq _ _ hi)]
  rfl

theorem edge_zero (l : List UInt8) : edge l 0 := .inl rfl
theorem edge_end (l : List UInt8) : edge l l.length := .inr (.inl (nb_end l _ (Nat.le_refl _)))

theorem sts_le (l : List UInt8) (k : Nat) : (sts l k).length ≤ k := by
  unfold sts
  exact Nat.le_trans (List.length_filter_le _ _) (by simp)

/-! ### The row that the words are laid into -/
/-- 'row' with the words ws laid over its head, as far as they go in. -/
def laid {α : Type} (ws row : List α) : List α := ws.take row.length ++ row.drop ws.length

theorem laid_len {α : Type} (ws row : List α) : (laid ws row).length = row.length := by
  simp [laid]
  omega

theorem laid_nil {α : Type} (row : List α) : laid [] row = row := by simp [laid]

theorem laid_full {α : Type} (ws row : List α) (x : α) (h : row.length ≤ ws.length) : laid (ws ++ [x]) row = laid ws row := by
  unfold laid
  rw [List.take_append_of_le_length h, List.drop_of_length_le (by simp; omega), List.drop_of_length_le h]

theorem laid_step {α : Type} (ws row : List α) (x : α) (h : ws.length < row.length) : laid (ws ++ [x]) row = (laid ws row).set ws.length x := by
  apply List.ext_getElem?
  intro i
  unfold laid
  rw [List.take_of_length_le (by simp; omega), List.take_of_length_le (by omega)]
  rcases Nat.lt_trichotomy i ws.length with hi | hi | hi
  · rw [List.getElem?_set_ne (by omega), List.append_assoc, List.getElem?_append_left hi, List.getElem?_append_left hi]
  · subst hi
    rw [List.getElem?_set_self (by simp; omega), List.append_assoc, List.getElem?_append_right (Nat.le_refl _)]
    simp
  · rw [List.getElem?_set_ne (by omega), List.getElem?_append_right (by simp; omega), List.getElem?_append_right (by omega)]
    simp only [List.length_append, List.length_cons, List.length_nil, List.getElem?_drop]
    congr 1
    omega

end Go.Proofs.Qxb6619201a.Words
