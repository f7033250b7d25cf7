/-
  PLAIN LAWS ON RUNS OF DIGITS: no Go in sight. 'sk l i': where the run of digits that begins at place i ends.
-/
namespace Go.Proofs.Qxb6619208a.Digs

/-- A byte, as a number, is a decimal digit; a sign; e or E. -/
def dig (c : Int) : Bool := decide (48 ≤ c) && decide (c ≤ 57)
def sgn (c : Int) : Bool := c == 43 || c == 45
def ex (c : Int) : Bool := c == 101 || c == 69
def digB (c : UInt8) : Bool := dig (c.toNat : Int)
def sgnB (c : UInt8) : Bool := sgn (c.toNat : Int)
def exB (c : UInt8) : Bool := ex (c.toNat : Int)

/-- Place i of l holds a digit. -/
def dg (l : List UInt8) (i : Nat) : Bool := match l[i]? with | some c => digB c | none => false
def sk (l : List UInt8) (i : Nat) : Nat := i + ((l.drop i).takeWhile digB).length

theorem dg_end (l : List UInt8) (i : Nat) (h : l.length ≤ i) : dg l i = false := by
  unfold dg
  rw [List.getElem?_eq_none h]

theorem dg_at {l : List UInt8} {i : Nat} (h : i < l.length) : dg l i = digB l[i] := by
  unfold dg
  rw [List.getElem?_eq_getElem h]

theorem dg_lt {l : List UInt8} {i : Nat} (h : dg l i = true) : i < l.length := by
  rcases Nat.lt_or_ge i l.length with h' | h'
  · exact h'
  · rw [dg_end l i h'] at h; cases h

theorem sk_no {l : List UInt8} {i : Nat} (h : dg l i = false) : sk l i = i := by
  unfold sk
  rcases Nat.lt_or_ge i l.length with h' | h'
  · rw [dg_at h'] at h
    rw [List.drop_eq_getElem_cons h', List.takeWhile_cons, h]
    rfl
  · rw [List.drop_of_length_le h']
    rfl

theorem sk_yes {l : List UInt8} {i : Nat} (h : dg l i = true) : sk l i = sk l (i + 1) := by
  unfold sk
  have h' := dg_lt h
  rw [dg_at h'] at h
  rw [List.drop_eq_getElem_cons h', List.takeWhile_cons, h, if_pos rfl, List.length_cons]
  omega

theorem sk_ge (l : List UInt8) (i : Nat) : i ≤ sk l i := by unfold sk; omega

theorem sk_le (l : List UInt8) (i : Nat) (h : i ≤ l.length) : sk l i ≤ l.length := by
  unfold sk
  have := (List.takeWhile_prefix digB (l := l.drop i)).length_le
  rw [List.length_drop] at this
  omega

/-- The end of the run is known by what it is. -/
theorem sk_unique {l : List UInt8} {i j : Nat} (hij : i ≤ j) (hd : ∀ k, i ≤ k → k < j → dg l k = true) (hj : dg l j = false) : sk l i = j := by
  obtain ⟨m, rfl⟩ : ∃ m, j = i + m := ⟨j - i, by omega⟩
  clear hij
  induction m generalizing i with
  | zero => exact sk_no hj
  | succ m ih =>
    rw [sk_yes (hd i (by omega) (by omega))]
    have := ih (i := i + 1) (fun k h1 h2 => hd k (by omega) (by omega)) (by rw [show i + 1 + m = i + (m + 1) from by omega]; exact hj)
    rw [this]
    omega

theorem sk_spec (l : List UInt8) (i : Nat) : (∀ k, i ≤ k → k < sk l i → dg l k = true) ∧ dg l (sk l i) = false := by
  have go : ∀ m i, l.length ≤ i + m → (∀ k, i ≤ k → k < sk l i → dg l k = true) ∧ dg l (sk l i) = false := by
    intro m
    induction m with
    | zero =>
      intro i h
      have h0 := dg_end l i h
      rw [sk_no h0]
      exact ⟨fun k a b => by omega, h0⟩
    | succ m ih =>
      intro i h
      cases hd : dg l i with
      | false =>
        rw [sk_no hd]
        exact ⟨fun k a b => by omega, hd⟩
      | true =>
        rw [sk_yes hd]
        obtain ⟨a, b⟩ := ih (i + 1) (by omega)
        refine ⟨fun k h1 h2 => ?_, b⟩
        by_cases e : k = i
        · rw [e]; exact hd
        · exact a k (by omega) h2
  exact go l.length i (by omega)

theorem sk_past (l : List UInt8) (i : Nat) (h : l.length ≤ i) : sk l i = i := sk_no (dg_end l i h)

/-! ### The law on landing -/
theorem land_in {l : List UInt8} {i k : Nat} (h1 : i ≤ k) (h2 : k ≤ sk l i) : sk l k = sk l i :=
  sk_unique h2 (fun q a b => (sk_spec l i).1 q (by omega) b) (sk_spec l i).2

theorem land_mono {l : List UInt8} {i k : Nat} (h1 : i ≤ k) : sk l i ≤ sk l k := by
  by_cases h : k ≤ sk l i
  · rw [land_in h1 h]; exact Nat.le_refl _
  · have := sk_ge l k
    omega

/-! ### The law on joining -/
theorem dg_left {a b : List UInt8} {k : Nat} (h : k < a.length) : dg (a ++ b) k = dg a k := by
  unfold dg
  rw [List.getElem?_append_left h]
theorem dg_right {a b : List UInt8} {k : Nat} (h : a.length ≤ k) : dg (a ++ b) k = dg b (k - a.length) := by
  unfold dg
  rw [List.getElem?_append_right h]

theorem join_in {a b : List UInt8} {i : Nat} (h : sk a i < a.length) : sk (a ++ b) i = sk a i :=
  sk_unique (sk_ge a i) (fun k h1 h2 => by rw [dg_left (by omega)]; exact (sk_spec a i).1 k h1 h2) (by rw [dg_left h]; exact (sk_spec a i).2)

theorem join_on {a b : List UInt8} {i : Nat} (hi : i ≤ a.length) (h : ¬ sk a i < a.length) : sk (a ++ b) i = a.length + sk b 0 := by
  have hle := sk_le a i hi
  refine sk_unique (by omega) (fun k h1 h2 => ?_) ?_
  · by_cases hk : k < a.length
    · rw [dg_left hk]
      exact (sk_spec a i).1 k h1 (by omega)
    · rw [dg_right (by omega)]
      exact (sk_spec b 0).1 _ (by omega) (by omega)
  · rw [dg_right (by omega), show a.length + sk b 0 - a.length = sk b 0 from by omega]
    exact (sk_spec b 0).2

theorem join_past {a b : List UInt8} {i : Nat} (hi : a.length ≤ i) : sk (a ++ b) i = a.length + sk b (i - a.length) := by
  have := sk_ge b (i - a.length)
  refine sk_unique (by omega) (fun k h1 h2 => ?_) ?_
  · rw [dg_right (by omega)]
    exact (sk_spec b (i - a.length)).1 _ (by omega) (by omega)
  · rw [dg_right (by omega), show a.length + sk b (i - a.length) - a.length = sk b (i - a.length) from by omega]
    exact (sk_spec b (i - a.length)).2

end Go.Proofs.Qxb6619208a.Digs
