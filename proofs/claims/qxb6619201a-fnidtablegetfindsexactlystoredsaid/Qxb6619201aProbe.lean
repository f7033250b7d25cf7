/-
  PLAIN LAWS ON A TABLE WITH LINEAR PROBING: no Go in sight. S slots, 0 an empty one; 'h k': the slot where the search for k begins; 'slot S a t': the slot t steps behind a, round the table's end.
-/
namespace Go.Proofs.Qxb6619201a.Probe

def slot (S a t : Nat) : Nat := (a + t) % S
/-- How many slots are taken. -/
def nz (T : List Int) : Nat := (T.filter fun x => x != 0).length

/-- Whatever is stored lies on its own road: from its home on, every slot ahead of it is taken. -/
structure Tab (S : Nat) (h : Int → Nat) (T : List Int) : Prop where
  len : T.length = S
  path : ∀ k, k ≠ 0 → k ∈ T → ∃ t, T.getD (slot S (h k) t) 0 = k ∧ ∀ u, u < t → T.getD (slot S (h k) u) 0 ≠ 0

theorem slot_lt {S : Nat} (a t : Nat) (h : 0 < S) : slot S a t < S := Nat.mod_lt _ h
theorem slot_zero {S a : Nat} (h : a < S) : slot S a 0 = a := Nat.mod_eq_of_lt h
theorem slot_succ (S a t : Nat) : (slot S a t + 1) % S = slot S a (t + 1) := by
  unfold slot
  rw [Nat.mod_add_mod, Nat.add_assoc]

theorem reach {S a e : Nat} (ha : a < S) (he : e < S) : ∃ u, u < S ∧ slot S a u = e := by
  unfold slot
  rcases Nat.lt_or_ge e a with h | h
  · refine ⟨e + S - a, by omega, ?_⟩
    rw [show a + (e + S - a) = e + S from by omega, Nat.add_mod_right, Nat.mod_eq_of_lt he]
  · exact ⟨e - a, by omega, by rw [show a + (e - a) = e from by omega, Nat.mod_eq_of_lt he]⟩

theorem getD_at {T : List Int} {i : Nat} (h : i < T.length) : T.getD i 0 = T[i] := by
  rw [List.getD_eq_getElem?_getD, List.getElem?_eq_getElem h]
  rfl

theorem getD_set (T : List Int) (e i : Nat) (k : Int) (he : e < T.length) : (T.set e k).getD i 0 = if e = i then k else T.getD i 0 := by
  rw [List.getD_eq_getElem?_getD, List.getElem?_set]
  by_cases h : e = i
  · subst h
    simp [he]
  · rw [if_neg h, if_neg h, List.getD_eq_getElem?_getD]

theorem empty_slot {T : List Int} (h : nz T < T.length) : ∃ e, e < T.length ∧ T.getD e 0 = 0 := by
  induction T with
  | nil => simp [nz] at h
  | cons x T ih =>
    by_cases hx : x = 0
    · exact ⟨0, by simp, by simp [hx]⟩
    · have h' : nz T < T.length := by
        have : (x != 0) = true := by simp [hx]
        simp [nz, this] at h
        simpa [nz] using h
      obtain ⟨e, h1, h2⟩ := ih h'
      exact ⟨e + 1, by simpa using h1, by simpa using h2⟩

theorem nz_set {T : List Int} {e : Nat} {k : Int} (he : e < T.length) (h0 : T.getD e 0 = 0) (hk : k ≠ 0) : nz (T.set e k) = nz T + 1 := by
  induction T generalizing e with
  | nil => simp at he
  | cons x T ih =>
    cases e with
    | zero =>
      have hx : x = 0 := by simpa using h0
      subst hx
      have : (k != 0) = true := by simp [hk]
      simp [nz, this]
    | succ e =>
      have := ih (e := e) (by simpa using he) (by simpa using h0)
      by_cases hx : x = 0
      · subst hx
        simpa [nz] using this
      · have hx' : (x != 0) = true := by simp [hx]
        simp only [nz, List.set_cons_succ, List.filter_cons, hx', if_true, List.length_cons] at this ⊢
        omega

theorem nz_zero (n : Nat) : nz (List.replicate n 0) = 0 := by
  simp [nz]

theorem mem_of_nz {T : List Int} (h : nz T = 0) {k : Int} (hk : k ≠ 0) : k ∉ T := by
  intro hm
  have : k ∈ T.filter fun x => x != 0 := List.mem_filter.2 ⟨hm, by simp [hk]⟩
  unfold nz at h
  rw [List.length_eq_zero_iff] at h
  rw [h] at this
  cases this

theorem mem_getD {T : List Int} {k : Int} : k ∈ T ↔ ∃ i, i < T.length ∧ T.getD i 0 = k := by
  rw [List.mem_iff_getElem]
  constructor
  · rintro ⟨i, h, e⟩
    exact ⟨i, h, by rw [getD_at h, e]⟩
  · rintro ⟨i, h, e⟩
    exact ⟨i, h, by rw [← getD_at h, e]⟩

theorem mem_put {T : List Int} {e : Nat} {k q : Int} (he : e < T.length) (h0 : T.getD e 0 = 0) (hq : q ≠ 0) : q ∈ T.set e k ↔ q = k ∨ q ∈ T := by
  rw [mem_getD, mem_getD]
  constructor
  · rintro ⟨i, hi, h⟩
    rw [getD_set _ _ _ _ he] at h
    split at h
    · exact .inl h.symm
    · exact .inr ⟨i, by simpa using hi, h⟩
  · rintro (h | ⟨i, hi, h⟩)
    · exact ⟨e, by simpa using he, by rw [getD_set _ _ _ _ he, if_pos rfl, h]⟩
    · refine ⟨i, by simpa using hi, ?_⟩
      rw [getD_set _ _ _ _ he, if_neg, h]
      intro e'
      subst e'
      exact hq (h.symm.trans h0)

/-- A new key goes into the first empty slot of its road. -/
theorem Tab.put {S : Nat} {h : Int → Nat} {T : List Int} (H : Tab S h T) (hS : 0 < S) {k : Int} (hk : k ≠ 0) {t : Nat} (h0 : T.getD (slot S (h k) t) 0 = 0) (hu : ∀ u, u < t → T.getD (slot S (h k) u) 0 ≠ 0) :
    Tab S h (T.set (slot S (h k) t) k) := by
  have he : slot S (h k) t < T.length := by rw [H.len]; exact slot_lt _ _ hS
  refine ⟨by simpa using H.len, fun q hq hm => ?_⟩
  have keep : ∀ x, T.getD x 0 ≠ 0 → (T.set (slot S (h k) t) k).getD x 0 ≠ 0 := by
    intro x hx
    rw [getD_set _ _ _ _ he]
    split
    · exact hk
    · exact hx
  rw [mem_put he h0 hq] at hm
  by_cases e : q = k
  · subst e
    exact ⟨t, by rw [getD_set _ _ _ _ he, if_pos rfl], fun u hut => keep _ (hu u hut)⟩
  · rcases hm with hm | hm
    · exact absurd hm e
    · obtain ⟨t', h1, h2⟩ := H.path q hq hm
      refine ⟨t', ?_, fun u hut => keep _ (h2 u hut)⟩
      rw [getD_set _ _ _ _ he, if_neg, h1]
      intro e'
      rw [← e', h0] at h1
      exact hq h1.symm

/-- The search comes to an empty slot: what it did not meet is not there. -/
theorem Tab.miss {S : Nat} {h : Int → Nat} {T : List Int} (H : Tab S h T) {k : Int} (hk : k ≠ 0) {t : Nat} (h0 : T.getD (slot S (h k) t) 0 = 0)
    (hu : ∀ u, u < t → T.getD (slot S (h k) u) 0 ≠ 0 ∧ T.getD (slot S (h k) u) 0 ≠ k) : k ∉ T := by
  intro hm
  obtain ⟨t', h1, h2⟩ := H.path k hk hm
  rcases Nat.lt_trichotomy t' t with h | h | h
  · exact (hu t' h).2 h1
  · subst h
    rw [h0] at h1
    exact hk h1.symm
  · exact h2 t h h0

/-- The steps from slot i to slot e, round the table's end. -/
def dist (S e i : Nat) : Nat := if i ≤ e then e - i else e + S - i

theorem dist_step {S e i : Nat} (he : e < S) (hi : i < S) (hne : i ≠ e) : dist S e ((i + 1) % S) < dist S e i := by
  unfold dist
  by_cases h : i + 1 = S
  · rw [h, Nat.mod_self, if_pos (Nat.zero_le _), if_neg (by omega)]
    omega
  · rw [Nat.mod_eq_of_lt (by omega)]
    split <;> split <;> omega

/-- What holds of the table when the first j keys are in. -/
structure Ins (S : Nat) (h : Int → Nat) (keys : List Int) (j : Nat) (T : List Int) : Prop where
  tab : Tab S h T
  few : nz T ≤ j
  mem : ∀ k, k ≠ 0 → (k ∈ T ↔ k ∈ keys.take j)

theorem Ins.start (S : Nat) (h : Int → Nat) (keys : List Int) : Ins S h keys 0 (List.replicate S 0) := by
  refine ⟨⟨by simp, fun k hk hm => absurd (List.eq_of_mem_replicate hm) hk⟩, by rw [nz_zero]; omega, fun k hk => ?_⟩
  simp
  exact fun _ => hk

theorem take_next {keys : List Int} {j : Nat} (hj : j < keys.length) (q : Int) : q ∈ keys.take (j + 1) ↔ q ∈ keys.take j ∨ q = keys.getD j 0 := by
  rw [List.take_succ_eq_append_getElem hj, List.mem_append, List.mem_singleton, getD_at hj]

theorem Ins.skip {S : Nat} {h : Int → Nat} {keys T : List Int} {j : Nat} (H : Ins S h keys j T) (hj : j < keys.length) (h0 : keys.getD j 0 = 0) : Ins S h keys (j + 1) T := by
  refine ⟨H.tab, by have := H.few; omega, fun k hk => ?_⟩
  rw [take_next hj, H.mem k hk, h0]
  simp [hk]

theorem Ins.old {S : Nat} {h : Int → Nat} {keys T : List Int} {j i : Nat} (H : Ins S h keys j T) (hj : j < keys.length) (hi : i < S) (he : T.getD i 0 = keys.getD j 0) : Ins S h keys (j + 1) T := by
  refine ⟨H.tab, by have := H.few; omega, fun k hk => ?_⟩
  rw [take_next hj, ← H.mem k hk]
  constructor
  · exact .inl
  · rintro (h' | rfl)
    · exact h'
    · exact mem_getD.2 ⟨i, by rw [H.tab.len]; exact hi, he⟩

theorem Ins.put {S : Nat} {h : Int → Nat} {keys T : List Int} {j t : Nat} (H : Ins S h keys j T) (hS : 0 < S) (hj : j < keys.length) (hk0 : keys.getD j 0 ≠ 0)
    (h0 : T.getD (slot S (h (keys.getD j 0)) t) 0 = 0) (hu : ∀ u, u < t → T.getD (slot S (h (keys.getD j 0)) u) 0 ≠ 0) :
    Ins S h keys (j + 1) (T.set (slot S (h (keys.getD j 0)) t) (keys.getD j 0)) ∧ nz (T.set (slot S (h (keys.getD j 0)) t) (keys.getD j 0)) = nz T + 1 := by
  have he : slot S (h (keys.getD j 0)) t < T.length := by rw [H.tab.len]; exact slot_lt _ _ hS
  have hn := nz_set he h0 hk0
  refine ⟨⟨H.tab.put hS hk0 h0 hu, by have := H.few; omega, fun k hk => ?_⟩, hn⟩
  rw [mem_put he h0 hk, take_next hj, H.mem k hk]
  exact Or.comm

/-- The search for a place cannot go once round: some slot is empty. -/
theorem Ins.not_round {S : Nat} {h : Int → Nat} {keys T : List Int} {j : Nat} (H : Ins S h keys j T) (hS : j < S) {a : Nat} (ha : a < S) (hu : ∀ u, u < S → T.getD (slot S a u) 0 ≠ 0) : False := by
  have hl := H.tab.len
  have hf := H.few
  obtain ⟨e, he, h0⟩ := empty_slot (T := T) (by omega)
  obtain ⟨u, hu1, hu2⟩ := reach ha (show e < S by omega)
  exact hu u hu1 (by rw [hu2]; exact h0)

end Go.Proofs.Qxb6619201a.Probe
