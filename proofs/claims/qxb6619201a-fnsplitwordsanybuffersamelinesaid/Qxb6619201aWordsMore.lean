/-
  MORE PLAIN LAWS ON THE WORDS OF A LINE: no Go in sight: where each word lies; all words together spell the line's bytes that are no blanks.
-/
import Derived.Test.Qxb6619201aWords
namespace Go.Proofs.Qxb6619201a.Words

/-- From place to place, as splitWords goes: over one blank, or over one word. -/
theorem edge_ind {l : List UInt8} (P : Nat → Prop) (h0 : P 0) (hb : ∀ i, i < l.length → edge l i → nb l i = false → P i → P (i + 1))
    (hw : ∀ i j, edge l i → i < j → j ≤ l.length → (∀ k, i ≤ k → k < j → nb l k = true) → nb l j = false → P i → P j) : P l.length := by
  have go : ∀ m i, l.length ≤ i + m → i ≤ l.length → edge l i → P i → P l.length := by
    intro m
    induction m with
    | zero =>
      intro i h1 h2 _ hp
      have e : i = l.length := by omega
      rw [← e]
      exact hp
    | succ m ih =>
      intro i h1 h2 he hp
      by_cases hi : i < l.length
      · cases hn : nb l i with
        | false => exact ih (i + 1) (by omega) (by omega) (step_blank hn).2.2 (hb i hi he hn hp)
        | true =>
          obtain ⟨j, a, b, c, d⟩ := run_end l l.length i (by omega) hn
          exact ih j (by omega) b (step_word he a c d).2.2 (hw i j he a b c d hp)
      · have e : i = l.length := by omega
        rw [← e]
        exact hp
  exact go l.length 0 (by omega) (Nat.zero_le _) (edge_zero l) h0

theorem getD_snoc (l : List Nat) (x j : Nat) (hj : j < l.length + 1) : (l ++ [x]).getD j 0 = if j < l.length then l.getD j 0 else x := by
  rw [List.getD_eq_getElem?_getD]
  by_cases h : j < l.length
  · rw [if_pos h, List.getElem?_append_left h, List.getD_eq_getElem?_getD]
  · rw [if_neg h, List.getElem?_append_right (by omega), show j - l.length = 0 from by omega]
    rfl

/-- Each word begins ahead of its end, and ends inside the line. -/
theorem bounds (l : List UInt8) : ∀ j, j < (sts l l.length).length → (sts l l.length).getD j 0 < (ens l l.length).getD j 0 ∧ (ens l l.length).getD j 0 ≤ l.length := by
  refine edge_ind (l := l) (fun i => ∀ j, j < (sts l i).length → (sts l i).getD j 0 < (ens l i).getD j 0 ∧ (ens l i).getD j 0 ≤ l.length) ?_ ?_ ?_
  · intro j hj
    simp [sts] at hj
  · intro i _ _ hn hp j hj
    rw [(step_blank hn).1] at hj ⊢
    rw [(step_blank hn).2.1]
    exact hp j hj
  · intro i q he hiq hq hrun hn hp j hj
    obtain ⟨e1, e2, _⟩ := step_word he hiq hrun hn
    have hlen := len_eq l i he
    rw [e1, List.length_append, List.length_singleton] at hj
    rw [e1, e2, getD_snoc _ _ _ hj, getD_snoc _ _ _ (by omega), ← hlen]
    by_cases h : j < (sts l i).length
    · rw [if_pos h, if_pos h]
      exact hp j h
    · rw [if_neg h, if_neg h]
      exact ⟨hiq, hq⟩

/-- Word j is what lies between its two places. -/
theorem word_at (s : ByteArray) (k j : Nat) (hS : j < (sts s.data.toList k).length) (hE : j < (ens s.data.toList k).length) :
    (wds s k)[j]? = some (s.extract ((sts s.data.toList k).getD j 0) ((ens s.data.toList k).getD j 0)) := by
  unfold wds
  rw [List.getElem?_zipWith, List.getElem?_eq_getElem hS, List.getElem?_eq_getElem hE, List.getD_eq_getElem?_getD, List.getElem?_eq_getElem hS, List.getD_eq_getElem?_getD, List.getElem?_eq_getElem hE]
  rfl

theorem laid_lt {α : Type} (ws row : List α) (j : Nat) (h1 : j < ws.length) (h2 : j < row.length) : (laid ws row)[j]? = ws[j]? := by
  unfold laid
  rw [List.getElem?_append_left (by rw [List.length_take]; omega), List.getElem?_take, if_pos h2]

theorem laid_ge {α : Type} (ws row : List α) (j : Nat) (h1 : ws.length ≤ j) : (laid ws row)[j]? = row[j]? := by
  unfold laid
  by_cases h : row.length ≤ ws.length
  · rw [List.getElem?_eq_none (by simp; omega), List.getElem?_eq_none (by omega)]
  · rw [List.take_of_length_le (by omega), List.getElem?_append_right h1, List.getElem?_drop]
    congr 1
    omega

/-! ### All words together -/
/-- A byte is no blank. -/
def nbB (c : UInt8) : Bool := !bl (c.toNat : Int)
/-- The bytes of the words, one behind the other. -/
def flat (ws : List ByteArray) : List UInt8 := ws.flatMap fun w => w.data.toList
def kept (l : List UInt8) : List UInt8 := l.filter nbB

theorem nb_get {l : List UInt8} {i : Nat} (h : i < l.length) : nb l i = nbB l[i] := by
  unfold nb nbB
  rw [List.getElem?_eq_getElem h]

theorem kept_snoc (l : List UInt8) (i : Nat) (h : i < l.length) : kept (l.take (i + 1)) = kept (l.take i) ++ if nb l i then [l[i]] else [] := by
  unfold kept
  rw [List.take_succ_eq_append_getElem h, List.filter_append, nb_get h]
  cases h' : nbB l[i] <;> simp [h']

theorem kept_run (l : List UInt8) (i m : Nat) (h : i + m ≤ l.length) (hr : ∀ k, i ≤ k → k < i + m → nb l k = true) : kept (l.take (i + m)) = kept (l.take i) ++ (l.drop i).take m := by
  induction m with
  | zero => simp
  | succ m ih =>
    rw [show i + (m + 1) = i + m + 1 from rfl, kept_snoc l (i + m) (by omega), ih (by omega) (fun k a b => hr k a (by omega)), hr (i + m) (by omega) (by omega), if_pos rfl, List.append_assoc]
    congr 1
    rw [List.take_succ_eq_append_getElem (by rw [List.length_drop]; omega), List.getElem_drop]

theorem extract_list (s : ByteArray) (a b : Nat) : (s.extract a b).data.toList = (s.data.toList.drop a).take (b - a) := by
  rw [ByteArray.data_extract, Array.toList_extract, List.extract_eq_take_drop]

theorem size_list (s : ByteArray) : s.data.toList.length = s.size := by simp

/-- Together they spell the line's bytes that are no blanks; each is not empty and holds no blank. -/
theorem flat_all (s : ByteArray) : flat (wds s s.size) = kept s.data.toList ∧ ∀ w ∈ wds s s.size, 0 < w.size ∧ ∀ c ∈ w.data.toList, nbB c = true := by
  have h := edge_ind (l := s.data.toList) (fun i => flat (wds s i) = kept (s.data.toList.take i) ∧ ∀ w ∈ wds s i, 0 < w.size ∧ ∀ c ∈ w.data.toList, nbB c = true) ?_ ?_ ?_
  · rw [size_list, List.take_of_length_le (by rw [size_list]; exact Nat.le_refl _)] at h
    exact h
  · exact ⟨rfl, fun w hw => by cases hw⟩
  · rintro i hi _ hn ⟨h1, h2⟩
    rw [wds_blank hn]
    refine ⟨?_, h2⟩
    rw [h1, kept_snoc _ _ hi, hn]
    simp
  · rintro i j he hij hj hrun hn ⟨h1, h2⟩
    rw [wds_word he hij hrun hn]
    obtain ⟨m, rfl⟩ : ∃ m, j = i + m := ⟨j - i, by omega⟩
    refine ⟨?_, fun w hw => ?_⟩
    · rw [kept_run _ _ _ hj hrun, ← h1]
      unfold flat
      rw [List.flatMap_append]
      congr 1
      simp only [List.flatMap_cons, List.flatMap_nil, List.append_nil]
      rw [extract_list, show i + m - i = m from by omega]
    · rw [List.mem_append, List.mem_singleton] at hw
      rcases hw with hw | rfl
      · exact h2 w hw
      · refine ⟨by rw [← size_list, extract_list, List.length_take, List.length_drop]; omega, fun c hc => ?_⟩
        rw [extract_list, show i + m - i = m from by omega] at hc
        obtain ⟨q, hq, rfl⟩ := List.getElem_of_mem hc
        rw [List.length_take, List.length_drop] at hq
        rw [List.getElem_take, List.getElem_drop, ← nb_get (by omega)]
        exact hrun (i + q) (by omega) (by omega)

end Go.Proofs.Qxb6619201a.Words
