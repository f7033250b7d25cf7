/-
  FOR THE LAW ON MAXIMAL RUNS: its two lists of places in memory; an append of one place; one place more, plainly.
-/
import Derived.Test.Qxb6619201aStrs
import Derived.Test.Qxb6619201aWordsMore
import Derived.Deep.AppendLies
namespace Go.Proofs.Qxb6619201a.Runs
open Go.RowKit Words Sym Split Strs

/-- A list of places, as Go's ints. -/
def ints (l : List Nat) : List Value := l.map fun (i : Nat) => Value.int .i64 (i : Int)

theorem info3 : (Try.prog.info? 3).map (fun i => (i.zero, i.size, i.bytes)) = some (some (.int .i64 0), 1, 8) := by kernel_rfl
theorem under26 : Try.prog.underlying 26 = some (.slice 3) := by kernel_rfl

def zeros8 : Array Value := #[.int .i64 0, .int .i64 0, .int .i64 0, .int .i64 0, .int .i64 0, .int .i64 0, .int .i64 0, .int .i64 0]
theorem make8 (w : World) : (Instr.makeSlice 26 (.int .i64 0) (.int .i64 8)).run Try.prog w = .ok (.slice (some ⟨w.heap.size, 0, none⟩) 0 8) (w.alloc (.cells zeros8 3)) := by kernel_rfl

/-- A row of strings of the call's own, as a slice that can be read. -/
theorem own_row {w : World} {base : Nat} {ao : Option Addr} {ss : List ByteArray} (h : w.ownsRow base 9 1 (.slice ao ss.length ss.length) ss.length (ss.map Value.string)) : SRow w ao ss ∧ (ao = none → ss = []) := by
  rcases h.2 with ⟨h1, h2⟩ | ⟨g, cap, cur, h1, hb, hg, _⟩
  · refine ⟨fun hp => by omega, fun _ => List.eq_nil_of_length_eq_zero h2⟩
  · simp only [Value.slice.injEq, true_and] at h1
    obtain ⟨rfl, rfl⟩ := h1
    refine ⟨fun hp => ⟨g, 0, rfl, lt_of_block hg, fun i hi => ?_⟩, fun e => by cases e⟩
    rw [Nat.zero_add, h.cellAt i (by omega), List.getElem?_map, List.getElem?_eq_getElem hi, List.getD_eq_getElem?_getD, List.getElem?_eq_getElem hi]
    rfl

/-- What is owned below H stays owned while nothing below H turns. -/
theorem own_below {w w' : World} {base H : Nat} {e : TypeId} {v : Value} {n : Nat} {xs : List Value} (h : w.ownsRow base e 1 v n xs) (hH : w.heap.size ≤ H) (hb : Below H w w') : w'.ownsRow base e 1 v n xs := by
  refine ⟨h.1, ?_⟩
  rcases h.2 with h' | ⟨g, cap, cur, hv, hbg, hg, hr⟩
  · exact .inl h'
  · exact .inr ⟨g, cap, cur, hv, hbg, by rw [hb.block g (Nat.lt_of_lt_of_le (lt_of_block hg) hH)]; exact hg, hr⟩

/-- The two lists of places, in rows of their own. -/
structure Lists (H : Nat) (w : World) (gS cS gE cE : Nat) (S E : List Nat) : Prop where
  s : w.ownsRow H 3 1 (.slice (some ⟨gS, 0, none⟩) S.length cS) S.length (ints S)
  e : w.ownsRow H 3 1 (.slice (some ⟨gE, 0, none⟩) E.length cE) E.length (ints E)
  ne : gS ≠ gE

theorem own_lt {w : World} {base g n c : Nat} {e : TypeId} {xs : List Value} (h : w.ownsRow base e 1 (.slice (some ⟨g, 0, none⟩) n c) n xs) : base ≤ g ∧ g < w.heap.size := by
  rcases h.2 with ⟨h1, _⟩ | ⟨g', cap, cur, h1, hb, hg, _⟩
  · cases h1
  · simp only [Value.slice.injEq, Option.some.injEq, Addr.mk.injEq, and_true, true_and] at h1
    obtain ⟨rfl, rfl⟩ := h1
    exact ⟨hb, lt_of_block hg⟩

/-- One place more at a list's end: what the append of one new element leaves. -/
theorem app1 {ops : Array Oper} {rest : List Oper} {o : Oper} {a : Act} {Q : Exit → Act → World → Prop} (w : World) (hgd : o.guard = none) (s x : Operand)
    (ho : o.op = .call { callee := .builtin .append, args := #[s, x], argTypes := #[26, 26] }) (H g c : Nat) (L : List Nat) (k : Nat) (xv : Int) (hxv : xv = (k : Int))
    (hs : a.eval s = .slice (some ⟨g, 0, none⟩) L.length c) (hx : a.eval x = .slice (some ⟨w.heap.size, 0, none⟩) 1 1)
    (hown : w.ownsRow H 3 1 (.slice (some ⟨g, 0, none⟩) L.length c) L.length (ints L)) (hL : L.length ≤ 65536)
    (h : ∀ g' c' w', w'.ownsRow H 3 1 (.slice (some ⟨g', 0, none⟩) (L ++ [k]).length c') (L ++ [k]).length (ints (L ++ [k])) → w.grownBy w' (some g) → (g' = g ∨ w.heap.size < g') → wpList Try.prog ops Q rest (a.put o.dst (.slice (some ⟨g', 0, none⟩) (L.length + 1) c')) w') :
    wpList Try.prog ops Q (o :: rest) a (w.alloc (.cells #[.int .i64 xv] 3)) := by
  subst hxv
  obtain ⟨i0, hi, hz0, hz1, hz2⟩ := info_parts info3
  have hlt := own_lt hown
  refine wpList_append_lies _ hgd s x 26 ho H 3 i0 (.int .i64 0) 1 8 under26 hi hz0 hz1 hz2 rfl (by decide) _ _ (ints L) hs (hown.alloc _) ⟨w.heap.size, 0, none⟩ 1 1 [.int .i64 (k : Int)] hx rfl ?_ ?_ (by decide) (by unfold maxLen; omega) (by omega) ?_ _ rfl ?_
  · exact World.news_of_block (cs := #[.int .i64 (k : Int)]) (heap_alloc_new w _)
  · intro u hu
    rw [List.mem_singleton] at hu
    subst hu
    rfl
  · simp
    omega
  · intro g' c' w' h1 h2 h3 _
    refine h g' c' w' ?_ ?_ ?_
    · have e1 : (L ++ [k]).length = L.length + 1 := by simp
      have e2 : ints (L ++ [k]) = ints L ++ [.int .i64 (k : Int)] := by simp [ints]
      rw [e1, e2]
      exact h1
    · exact grown_trans (World.grownBy_alloc w (.cells #[.int .i64 (k : Int)] 3) (some g)) h2
    · rcases h3 with h3 | h3
      · left
        simp [Value.ownBlock] at h3
        exact h3.symm
      · right
        rw [h3]
        simp

theorem Lists.addS {H : Nat} {w w' : World} {gS cS gE cE g' c' k : Nat} {S E : List Nat} (h : Lists H w gS cS gE cE S E)
    (h1 : w'.ownsRow H 3 1 (.slice (some ⟨g', 0, none⟩) (S ++ [k]).length c') (S ++ [k]).length (ints (S ++ [k]))) (h2 : w.grownBy w' (some gS)) (h3 : g' = gS ∨ w.heap.size < g') : Lists H w' g' c' gE cE (S ++ [k]) E := by
  have hne := h.ne
  have hlt := (own_lt h.e).2
  refine ⟨h1, h.e.kept h2 (.inr ?_), ?_⟩
  · simp only [Value.ownBlock, ne_eq, Option.some.injEq]
    omega
  · omega

theorem Lists.addE {H : Nat} {w w' : World} {gS cS gE cE g' c' k : Nat} {S E : List Nat} (h : Lists H w gS cS gE cE S E)
    (h1 : w'.ownsRow H 3 1 (.slice (some ⟨g', 0, none⟩) (E ++ [k]).length c') (E ++ [k]).length (ints (E ++ [k]))) (h2 : w.grownBy w' (some gE)) (h3 : g' = gE ∨ w.heap.size < g') : Lists H w' gS cS g' c' S (E ++ [k]) := by
  have hne := h.ne
  have hlt := (own_lt h.s).2
  refine ⟨h.s.kept h2 (.inr ?_), h1, ?_⟩
  · simp only [Value.ownBlock, ne_eq, Option.some.injEq]
    omega
  · omega

theorem below_add {H : Nat} {w0 w w' : World} {base g n c : Nat} {xs : List Value} (hb : Below H w0 w) (h : w.ownsRow base 3 1 (.slice (some ⟨g, 0, none⟩) n c) n xs) (hH : H ≤ base) (h2 : w.grownBy w' (some g)) : Below H w0 w' := by
  have := own_lt h
  exact hb.grown h2 (by omega) (fun j e => by have := Option.some.inj e; omega)

/-! ### Plain: one place more -/
theorem start_yes {l : List UInt8} {k : Nat} (h : nb l k = true) (h0 : k = 0 ∨ nb l (k - 1) = false) : sts l (k + 1) = sts l k ++ [k] := by
  rw [sts_succ, if_pos]
  rcases h0 with h0 | h0
  · subst h0; simp [isS, h]
  · simp [isS, h, h0]
theorem start_no {l : List UInt8} {k : Nat} (h0 : k ≠ 0) (h1 : nb l (k - 1) = true) : sts l (k + 1) = sts l k := by
  rw [sts_succ, if_neg]
  simp [isS, h0, h1]
theorem end_yes {l : List UInt8} {k : Nat} (h : nb l k = true) (h0 : nb l (k + 1) = false) : ens l (k + 1) = ens l k ++ [k + 1] := by
  rw [ens_succ, if_pos]
  simp [isE, h, h0]
theorem end_no {l : List UInt8} {k : Nat} (h0 : nb l (k + 1) = true) : ens l (k + 1) = ens l k := by
  rw [ens_succ, if_neg]
  simp [isE, h0]

/-! ### Behind splitWords -/
theorem own_blk {w : World} {base : Nat} {e : TypeId} {v : Value} {n : Nat} {xs : List Value} (h : w.ownsRow base e 1 v n xs) {j : Nat} (hj : v.ownBlock = some j) : base ≤ j ∧ j < w.heap.size := by
  rcases h.2 with ⟨h1, _⟩ | ⟨g', cap, cur, h1, hb, hg, _⟩
  · rw [h1] at hj; cases hj
  · rw [h1] at hj
    have e : g' = j := by simpa [Value.ownBlock] using hj
    subst e
    exact ⟨hb, lt_of_block hg⟩

theorem zsplit_w (s : ByteArray) (hs : s.size ≤ 1048576) (base : Nat) (ao : Option Addr) (ss ws : List ByteArray) (m : Nat) (w : World) (hn : ss.length ≤ 1048576) (hws : Hid (ws = wds s s.size)) (hm : Hid (m = min ws.length ss.length))
    (hown : w.ownsRow base 9 1 (.slice ao ss.length ss.length) ss.length (ss.map Value.string)) :
    Calls Try.prog 11 #[.string s, .slice ao ss.length ss.length] w fun e w' => e = .returned (.tuple #[.slice ao m ss.length, .int .i64 ws.length]) ∧
      w'.ownsRow base 9 1 (.slice ao ss.length ss.length) ss.length ((laid ws ss).map Value.string) ∧ w.grownBy w' (Value.ownBlock (.slice ao ss.length ss.length)) := by
  rw [hm.out, hws.out]
  exact zsplit_own s hs base ss.length ao ss w hn hown

theorem min_at (a b m : Nat) (h : Hid (m = min a b)) (w : World) : Calls Try.prog 12 #[.int .i64 (a : Int), .int .i64 (b : Int)] w fun e w' => w' = w ∧ e = .returned (.int .i64 (m : Int)) := by
  rw [h.out]
  exact min_any a b w

/-- A cell of a row of strings. -/
theorem str_cell {w : World} {base g n c : Nat} {xs : List ByteArray} (h : w.ownsRow base 9 1 (.slice (some ⟨g, 0, none⟩) n c) n (xs.map Value.string)) {j : Nat} (hj : j < n) {x : ByteArray} (hx : xs[j]? = some x) : w.cell? ⟨g, j, none⟩ = some (.string x) := by
  rw [h.cellAt j (by omega), List.getElem?_map, hx]
  rfl
theorem int_cell {w : World} {base g n c : Nat} {L : List Nat} (h : w.ownsRow base 3 1 (.slice (some ⟨g, 0, none⟩) n c) n (ints L)) {j : Nat} (hj : j < n) (hl : j < L.length) : w.cell? ⟨g, j, none⟩ = some (.int .i64 ((L.getD j 0 : Nat) : Int)) := by
  rw [h.cellAt j (by omega), ints, List.getElem?_map, List.getElem?_eq_getElem hl, List.getD_eq_getElem?_getD, List.getElem?_eq_getElem hl]
  rfl
theorem own_form {w : World} {base n : Nat} {e : TypeId} {ao : Option Addr} {xs : List Value} (h : w.ownsRow base e 1 (.slice ao n n) n xs) (hn : 0 < n) : ∃ g, ao = some ⟨g, 0, none⟩ := by
  rcases h.2 with ⟨h1, h2⟩ | ⟨g, cap, cur, h1, _⟩
  · omega
  · simp only [Value.slice.injEq, true_and] at h1
    exact ⟨g, h1.1⟩

end Go.Proofs.Qxb6619201a.Runs
