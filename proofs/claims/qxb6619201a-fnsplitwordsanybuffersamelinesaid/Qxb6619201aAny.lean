/-
  FOR THE LAW ON TWO BUFFERS: its length guard; the row of kept bytes; plain facts on the words' bytes, one behind the other.
-/
import Derived.Test.Qxb6619201aRuns
namespace Go.Proofs.Qxb6619201a.Any
open Go.RowKit Words Sym Split Strs Runs

set_option maxHeartbeats 1000000 in
theorem bytes2_any (s : ByteArray) (a a' : Option Addr) (cap cap' : Nat) (ss ss' : List ByteArray) (w : World) (hr : SRow w a ss) (hr' : SRow w a' ss') (hs : s.size ≤ maxLen) (hl : ss.length ≤ maxLen) (hl' : ss'.length ≤ maxLen) :
    Calls Try.prog 13 #[.string s, .slice a ss.length cap, .slice a' ss'.length cap'] w (Bool1 w) := by
  unfold maxLen at hs hl hl'
  have HR : Hid (SRow w a ss) := hr
  have HR' : Hid (SRow w a' ss') := hr'
  clear hr hr'
  go_enter Try.func13, Try.ntmps13
  go_wp2
  · go_ret; exact ⟨rfl, _, rfl⟩
  · go_ret; exact ⟨rfl, _, rfl⟩
  · go_ret; exact ⟨rfl, _, rfl⟩
  go_loop [7, 8] (fun z i => ∃ (k : Nat) (t : Int), k ≤ ss.length ∧ i = .int .i64 k ∧ z = .int .i64 t) (fun _ i => ss.length - (intOf i).toNat)
  case atStart => exact ⟨0, _, Nat.zero_le _, rfl, rfl⟩
  case round =>
    obtain ⟨k, t, hk, rfl, rfl⟩ := hrel
    by_cases hlt : k < ss.length
    · obtain ⟨b, off, rfl, _, hc⟩ := HR.out (by omega)
      have hcell := hc k hlt
      clear hc
      obtain ⟨x, hx⟩ : ∃ x, x = ss.getD k ByteArray.empty := ⟨_, rfl⟩
      rw [← hx] at hcell
      clear hx
      go_wp2
      all_goals first
        | (go_round
           case rel => exact ⟨k + 1, _, by omega, by go_num, rfl⟩
           case measure => simp [intOf]; omega)
        | (go_ret; exact ⟨rfl, _, rfl⟩)
    · go_wp2
      · go_ret; exact ⟨rfl, _, rfl⟩
      · go_ret; exact ⟨rfl, _, rfl⟩
      go_loop [7, 9] (fun z i => ∃ (k : Nat) (t : Int), k ≤ ss'.length ∧ i = .int .i64 k ∧ z = .int .i64 t) (fun _ i => ss'.length - (intOf i).toNat)
      case atStart => exact ⟨0, _, Nat.zero_le _, rfl, rfl⟩
      case round =>
        obtain ⟨k, t, hk, rfl, rfl⟩ := hrel
        by_cases hlt : k < ss'.length
        · obtain ⟨b, off, rfl, _, hc⟩ := HR'.out (by omega)
          have hcell := hc k hlt
          clear hc
          obtain ⟨x, hx⟩ : ∃ x, x = ss'.getD k ByteArray.empty := ⟨_, rfl⟩
          rw [← hx] at hcell
          clear hx
          go_wp2
          all_goals first
            | (go_round
               case rel => exact ⟨k + 1, _, by omega, by go_num, rfl⟩
               case measure => simp [intOf]; omega)
            | (go_ret; exact ⟨rfl, _, rfl⟩)
        · go_wp2
          go_ret
          exact ⟨rfl, _, rfl⟩

/-! ### The kept bytes in memory -/
def byts (K : List UInt8) : List Value := K.map fun (c : UInt8) => Value.int .u8 (c.toNat : Int)
theorem info5 : (Try.prog.info? 5).map (fun i => (i.zero, i.size, i.bytes)) = some (some (.int .u8 0), 1, 1) := by kernel_rfl
theorem under31 : Try.prog.underlying 31 = some (.slice 5) := by kernel_rfl

/-- 'make([]byte, 0, n)'. -/
theorem kept_run0 (n : Nat) (hn : n ≤ 65536) (w : World) : ∃ w1, (Instr.makeSlice 31 (.int .i64 0) (.int .i64 (n : Int))).run Try.prog w = .ok (.slice (some ⟨w.heap.size, 0, none⟩) 0 n) w1 ∧
    w1.ownsRow w.heap.size 5 1 (.slice (some ⟨w.heap.size, 0, none⟩) 0 n) 0 [] ∧ Below w.heap.size w w1 := by
  obtain ⟨i, hi, hz0, hz1, hz2⟩ := info_parts info5
  have hr := run_make (P := Try.prog) w 31 5 i _ under31 hi hz0 .i64 .i64 0 n (by omega) (by omega) (by rw [hz2]; omega) (by omega)
  rw [hz1] at hr
  simp only [Int.toNat_natCast, Int.toNat_zero] at hr
  exact ⟨_, hr, World.ownsRow_made w _ n (Nat.le_refl _) (by unfold maxLen; omega) (by rw [size_madeCells]), (Below.refl _ _).alloc (Nat.le_refl _) _⟩

theorem app_byte {ops : Array Oper} {rest : List Oper} {o : Oper} {a : Act} {Q : Exit → Act → World → Prop} (w : World) (hgd : o.guard = none) (s x : Operand)
    (ho : o.op = .call { callee := .builtin .append, args := #[s, x], argTypes := #[31, 31] }) (H g c : Nat) (L : List UInt8) (k : UInt8) (xv : Int) (hxv : xv = (k.toNat : Int))
    (hs : a.eval s = .slice (some ⟨g, 0, none⟩) L.length c) (hx : a.eval x = .slice (some ⟨w.heap.size, 0, none⟩) 1 1)
    (hown : w.ownsRow H 5 1 (.slice (some ⟨g, 0, none⟩) L.length c) L.length (byts L)) (hL : L.length ≤ 65536)
    (h : ∀ g' c' w', w'.ownsRow H 5 1 (.slice (some ⟨g', 0, none⟩) (L ++ [k]).length c') (L ++ [k]).length (byts (L ++ [k])) → w.grownBy w' (some g) → wpList Try.prog ops Q rest (a.put o.dst (.slice (some ⟨g', 0, none⟩) (L.length + 1) c')) w') :
    wpList Try.prog ops Q (o :: rest) a (w.alloc (.cells #[.int .u8 xv] 5)) := by
  subst hxv
  obtain ⟨i0, hi, hz0, hz1, hz2⟩ := info_parts info5
  have hlt := own_lt hown
  refine wpList_append_lies _ hgd s x 31 ho H 5 i0 (.int .u8 0) 1 1 under31 hi hz0 hz1 hz2 rfl (by decide) _ _ (byts L) hs (hown.alloc _) ⟨w.heap.size, 0, none⟩ 1 1 [.int .u8 (k.toNat : Int)] hx rfl ?_ ?_ (by decide) (by unfold maxLen; omega) (by omega) ?_ _ rfl ?_
  · exact World.news_of_block (cs := #[.int .u8 (k.toNat : Int)]) (heap_alloc_new w _)
  · intro u hu
    rw [List.mem_singleton] at hu
    subst hu
    rfl
  · simp
    omega
  · intro g' c' w' h1 h2 _ _
    refine h g' c' w' ?_ ?_
    · have e1 : (L ++ [k]).length = L.length + 1 := by simp
      have e2 : byts (L ++ [k]) = byts L ++ [.int .u8 (k.toNat : Int)] := by simp [byts]
      rw [e1, e2]
      exact h1
    · exact grown_trans (World.grownBy_alloc w (.cells #[.int .u8 (k.toNat : Int)] 5) (some g)) h2

theorem below_byte {H : Nat} {w0 w w' : World} {base g n c : Nat} {xs : List Value} (hb : Below H w0 w) (h : w.ownsRow base 5 1 (.slice (some ⟨g, 0, none⟩) n c) n xs) (hH : H ≤ base) (h2 : w.grownBy w' (some g)) : Below H w0 w' := by
  have := own_lt h
  exact hb.grown h2 (by omega) (fun j e => by have := Option.some.inj e; omega)

theorem byte_cell {w : World} {base g n c : Nat} {K : List UInt8} (h : w.ownsRow base 5 1 (.slice (some ⟨g, 0, none⟩) n c) n (byts K)) {j : Nat} (hj : j < n) {x : UInt8} (hx : K[j]? = some x) : w.cell? ⟨g, j, none⟩ = some (.int .u8 (x.toNat : Int)) := by
  rw [h.cellAt j (by omega), byts, List.getElem?_map, hx]
  rfl

/-! ### Plain: the words' bytes -/
theorem kept_next (s : ByteArray) (i : Nat) (h : i < s.size) : kept (s.data.toList.take (i + 1)) = kept (s.data.toList.take i) ++ if bl (s[i].toNat : Int) then [] else [s[i]] := by
  rw [kept_snoc _ i (by rw [size_list]; exact h), nb_at s i h]
  cases hb : bl (s[i].toNat : Int)
  · rfl
  · rfl

theorem kept_len (l : List UInt8) (i : Nat) : (kept (l.take i)).length ≤ i := by
  unfold kept
  exact Nat.le_trans (List.length_filter_le _ _) (List.length_take_le _ _)

/-- How many bytes the first j words have. -/
def upto (ws : List ByteArray) (j : Nat) : Nat := (flat (ws.take j)).length

theorem upto_zero (ws : List ByteArray) : upto ws 0 = 0 := rfl

theorem flat_append (a b : List ByteArray) : flat (a ++ b) = flat a ++ flat b := by
  unfold flat
  rw [List.flatMap_append]

theorem upto_succ (ws : List ByteArray) (j : Nat) (h : j < ws.length) : upto ws (j + 1) = upto ws j + ws[j].size := by
  unfold upto
  rw [List.take_succ_eq_append_getElem h, flat_append, List.length_append]
  congr 1
  simp [flat]

theorem upto_all (ws : List ByteArray) (j : Nat) (h : ws.length ≤ j) : upto ws j = (flat ws).length := by
  unfold upto
  rw [List.take_of_length_le h]

theorem flat_get (ws : List ByteArray) (j i : Nat) (h : j < ws.length) (hi : i < ws[j].size) : (flat ws)[upto ws j + i]? = some (ws[j])[i] := by
  have e : flat ws = flat (ws.take j) ++ (ws[j].data.toList ++ flat (ws.drop (j + 1))) := by
    have h2 : flat ws = flat (ws.take j) ++ flat (ws.drop j) := by rw [← flat_append, List.take_append_drop]
    rw [h2, List.drop_eq_getElem_cons h]
    rfl
  rw [e]
  unfold upto
  rw [List.getElem?_append_right (by omega), show (flat (ws.take j)).length + i - (flat (ws.take j)).length = i from by omega, List.getElem?_append_left (by rw [size_list]; exact hi), List.getElem?_eq_getElem (by rw [size_list]; exact hi)]
  rfl

theorem upto_le (ws : List ByteArray) (j : Nat) : upto ws j ≤ (flat ws).length := by
  unfold upto
  conv => rhs; rw [← List.take_append_drop j ws, flat_append, List.length_append]
  omega

end Go.Proofs.Qxb6619201a.Any
