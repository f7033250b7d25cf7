/-
  'Rows.FnSplitWordsAnyBufferSameLineSaid', PROVED. The frame follows the shells that a program of the kit wrote for this seat's other laws, with two slices of strings among the arguments; the walk lies in Qxb6619201aAnyLaw.
-/
import Derived.Test.Qxb6619201aRows
import Derived.Test.Qxb6619201aAnyLaw
import Derived.WalkKit
import Derived.ProofKit
import Derived.OpenShut
import Derived.ShutString
import Derived.SliceStrings
import Derived.ChangeOld
import Derived.Below
namespace Go.Proofs.Qxb6619201a.fnSplitWordsAnyBufferSameLine
open Go.ChangeShapes Go.WideShapes Go.ChangeAt Go.RowKit
open Go.ChangeMaps (open_string shut_string)
set_option linter.unusedVariables false

theorem own : ownKnob Try.prog.godebug = none := by kernel_rfl
theorem laidOut : laidOutB Try.prog = true := by kernel_rfl

/-- WHAT THE WALK IS TOLD OF A SLICE OF STRINGS THAT CAME IN: it is nil; or it leads to a row of 'cap' cells, the strings 'zs' (the first 'len' are its elements). -/
def IsStrs (w : World) (a : Option Addr) (len cap : Nat) (zs : List ByteArray) : Prop :=
  (a = none ∧ len = 0 ∧ cap = 0 ∧ zs = []) ∨
  ∃ x, a = some x ∧ len ≤ cap ∧ cap ≤ maxLen ∧ zs.length = cap ∧ (∀ i, i < zs.length → w.cell? (x.add i) = some (.string (zs.getD i ByteArray.empty)))

theorem strs_at {w : World} {a : Addr} {zs : List ByteArray} (h : ∀ i, i < zs.length → w.cell? (a.add i) = some (.string (zs.getD i ByteArray.empty))) (hp : 0 < zs.length) :
    ∃ b off, a = ⟨b, off, none⟩ ∧ ∀ j, j < zs.length → w.cell? ⟨b, off + j, none⟩ = some (.string (zs.getD j ByteArray.empty)) := by
  obtain ⟨b, off, spot⟩ := a
  have hspot : spot = none := by simpa [Addr.add] using World.cell?_spot (h 0 hp)
  subst hspot
  refine ⟨b, off, rfl, fun j hj => ?_⟩
  have hadd : (⟨b, off, none⟩ : Addr).add j = ⟨b, off + j, none⟩ := by unfold Addr.add; split <;> simp_all
  rw [← hadd]
  exact h j hj

theorem row_of {w : World} {a : Option Addr} {len cap : Nat} {zs : List ByteArray} (h : IsStrs w a len cap zs) : len = (zs.take len).length ∧ len ≤ maxLen ∧ Strs.SRow w a (zs.take len) ∧ (a = none → zs.take len = []) := by
  rcases h with ⟨rfl, rfl, rfl, rfl⟩ | ⟨x, rfl, hl, hm, hz, hc⟩
  · exact ⟨rfl, Nat.zero_le _, fun h => by simp at h, fun _ => rfl⟩
  · have hlen : (zs.take len).length = len := by rw [List.length_take]; omega
    refine ⟨hlen.symm, Nat.le_trans hl hm, fun hp => ?_, fun e => by cases e⟩
    rw [hlen] at hp
    obtain ⟨b, off, rfl, hc'⟩ := strs_at hc (by omega)
    refine ⟨b, off, rfl, World.block_lt_of_cell? w _ (hc' 0 (by omega)), fun i hi => ?_⟩
    rw [hlen] at hi
    rw [hc' i (by omega), List.getD_eq_getElem?_getD, List.getD_eq_getElem?_getD, List.getElem?_take, if_pos hi]

theorem walk (a0 : ByteArray) (a1 : Option Addr) (len1 cap1 : Nat) (z1 : List ByteArray) (a2 : Option Addr) (len2 cap2 : Nat) (z2 : List ByteArray) (w : World) (w0 : a0.size ≤ maxLen) (w1 : IsStrs w a1 len1 cap1 z1) (w2 : IsStrs w a2 len2 cap2 z2) :
    Calls Try.prog 4 #[.string a0, .slice a1 len1 cap1, .slice a2 len2 cap2] w fun e w' => e = .returned (.bool true) ∧ Below w.heap.size w w' := by
  obtain ⟨e1, m1, r1, n1⟩ := row_of w1
  obtain ⟨e2, m2, r2, n2⟩ := row_of w2
  by_cases h : 65536 < a0.size ∨ 16384 < (z1.take len1).length ∨ 16384 < (z2.take len2).length
  · have := AnyLaw.walk_by a0 a1 a2 cap1 cap2 (z1.take len1) (z2.take len2) w0 (by omega) (by omega) h w r1 r2
    rw [← e1, ← e2] at this
    exact this
  · have := AnyLaw.walk_main a0 a1 a2 cap1 cap2 (z1.take len1) (z2.take len2) (by omega) (by omega) (by omega) n1 n2 w r1 r2
    rw [← e1, ← e2] at this
    exact this

/-! ### THE ROW's STEP -/
set_option maxRecDepth 100000 in
theorem lifted (os : Os) (started : os.Started) (H : Type) (enc : TypeId × Value → H) :
    ReturnsInHanded {} Try.checked os 4 .any (Rows.fnSplitWordsAnyBufferSameLineSpec.pre6 enc Try.prog Try.f4 Rows.fnSplitWordsAnyBufferSameLineRow.domain false) (Rows.fnSplitWordsAnyBufferSameLineSpec.post enc Try.prog Try.f4 false true false false) := by
  refine returnsInHanded_of_change (C := Try.checked) own started (by kernel_rfl) Try.func4
    (ChangeSpec.witness6 (enc := enc) (C := Try.checked) false ⟨#[], #[.string ByteArray.empty, .slice none 0 0, .slice none 0 0], []⟩ 8 (by kernel_rfl) (by kernel_rfl) (by kernel_rfl) (by kernel_rfl)) ?_
  intro W base args ds gs before hval0 hW hcnd _
  have hval : ∀ (j : Nat) t v, Try.f4.params[j]? = some t → args[j]? = some v → Value.okWide Try.prog W .any base t v := hval0
  have hW' := hW
  obtain ⟨p, q, hA0, hV, rfl, hfz, hnd⟩ := hW
  have hA : DataW.TrodAll enc Try.prog W 0 (fun _ => true) true Try.f4.params.toList args.toList ds p := hA0
  rw [Try.params4] at hA hval
  obtain ⟨v0, vs0, d0, ds0, p0, q0, hargs, rfl, rfl, h0, r0⟩ := trodAll_cons hA
  obtain ⟨v1, vs1, d1, ds1, p1, q1, rfl, rfl, rfl, h1, r1⟩ := trodAll_cons r0
  obtain ⟨v2, vs2, d2, ds2, p2, q2, rfl, rfl, rfl, h2, r2⟩ := trodAll_cons r1
  obtain ⟨rfl, rfl, rfl⟩ := trodAll_nil r2
  obtain rfl : args = #[v0, v1, v2] := by cases args; simp_all
  obtain ⟨rfl, rfl⟩ := trodVars_none hV
  obtain ⟨a0, rfl, rfl, rfl, w0⟩ := open_string Try.underlying9 (hval 0 9 v0 rfl rfl) h0
  obtain ⟨a1, len1, cap1, rfl⟩ := okWide_slice Try.underlying22 (hval 1 22 v1 rfl rfl)
  have k1 := h1
  have lt1 : ∀ x ∈ p1, x.block < W.heap.size := by obtain ⟨m, hm⟩ := k1; exact DataW.trod_lt m _ _ _ hm
  obtain ⟨z1, w1⟩ : ∃ zs, IsStrs W a1 len1 cap1 zs := by
    obtain ⟨fuel, hf⟩ := h1
    rcases open_strings Try.underlying22 Try.underlying9 (by kernel_rfl) hf with ⟨hcs, _⟩ | ⟨x, l, c, zs, hcs, _, hl, hm, hz, _, hcell, hwz⟩
    · simp [Value.cells] at hcs
      obtain ⟨rfl, rfl, rfl⟩ := hcs
      exact ⟨[], .inl ⟨rfl, rfl, rfl, rfl⟩⟩
    · simp [Value.cells] at hcs
      obtain ⟨rfl, rfl, rfl⟩ := hcs
      exact ⟨zs, .inr ⟨_, rfl, hl, hm, by simpa using hz, hcell⟩⟩
  obtain ⟨a2, len2, cap2, rfl⟩ := okWide_slice Try.underlying22 (hval 2 22 v2 rfl rfl)
  have k2 := h2
  have lt2 : ∀ x ∈ p2, x.block < W.heap.size := by obtain ⟨m, hm⟩ := k2; exact DataW.trod_lt m _ _ _ hm
  obtain ⟨z2, w2⟩ : ∃ zs, IsStrs W a2 len2 cap2 zs := by
    obtain ⟨fuel, hf⟩ := h2
    rcases open_strings Try.underlying22 Try.underlying9 (by kernel_rfl) hf with ⟨hcs, _⟩ | ⟨x, l, c, zs, hcs, _, hl, hm, hz, _, hcell, hwz⟩
    · simp [Value.cells] at hcs
      obtain ⟨rfl, rfl, rfl⟩ := hcs
      exact ⟨[], .inl ⟨rfl, rfl, rfl, rfl⟩⟩
    · simp [Value.cells] at hcs
      obtain ⟨rfl, rfl, rfl⟩ := hcs
      exact ⟨zs, .inr ⟨_, rfl, hl, hm, by simpa using hz, hcell⟩⟩
  clear hA0 hval0
  refine (walk a0 a1 len1 cap1 z1 a2 len2 cap2 z2 W w0 w1 w2).mono fun e W' ⟨he, bel⟩ => ?_
  subst he
  exact ⟨_, rfl, _, _, _, [], _, [], hW', trodAll_mk1 (shut_bool Try.underlying4 _), (trodAll_cons_mk (shut_string Try.underlying9 w0) (trodAll_cons_mk (Below.trod laidOut (by kernel_rfl) (of_decide_eq_true (by kernel_rfl)) k1 bel lt1) (trodAll_cons_mk (Below.trod laidOut (by kernel_rfl) (of_decide_eq_true (by kernel_rfl)) k2 bel lt2) trodAll_mk0))), rfl, bel.frame _, fun h => by cases h⟩

theorem over : Rows.fnSplitWordsAnyBufferSameLineRow.holds Try.pinned (OpenSpec.ofChange Rows.fnSplitWordsAnyBufferSameLineSpec) :=
  OpenClaim.holds_of_wide 4 Try.f4 rfl rfl rfl rfl rfl rfl rfl ⟨rfl, rfl, rfl, rfl, rfl⟩ rfl rfl rfl rfl rfl (by kernel_rfl) Try.func4 (by kernel_rfl)
    (of_decide_eq_true (by kernel_rfl)) (by unfold Func.isWrapper; first | (rw [if_pos (by decide +kernel)]; kernel_rfl) | (rw [if_neg (by decide +kernel)]; exact ⟨rfl, rfl⟩))
    (fun os started H enc _ => lifted os started H enc)

/-- ████ THE STATEMENT ████ -/
theorem proved : Rows.FnSplitWordsAnyBufferSameLineSaid := over
#print axioms proved
end Go.Proofs.Qxb6619201a.fnSplitWordsAnyBufferSameLine
