/-
  THE ROW OF 'Rows.FnParamNumbersQuestionMarksInOrderSaid': the frame is the guide's template for a law with slices among her arguments, at this function's number and types; slices of strings are opened by the guide's own law.
-/
import Derived.Test.Qxb6001671aRows
import Derived.Test.Qxb6001671aHead
import Derived.Test.Qxb6001671aPw
import Derived.ProofKit
import Derived.OpenShut
import Derived.ShutString
import Derived.ChangeOld
import Derived.Below
import Derived.SliceStrings
namespace Go.Proofs.Qxb6001671a.fnParamNumbersQuestionMarksInOrder
open Go.ChangeShapes Go.WideShapes Go.ChangeAt Go.RowKit
set_option linter.unusedVariables false

theorem Try.cells9 : Try.prog.cellsOf 9 = 1 := by kernel_rfl

section
variable {H : Type} {enc : TypeId × Value → H} {W : World} {base : Nat}
/-- A slice of strings. -/
theorem view_strings {a : Option Addr} {n c : Nat} {d : DataW H} {p : List MemPlace} (h : DataW.Trod enc Try.prog W base (fun _ => true) true 38 (.slice a n c) d p) :
    ∃ ss, prm.View Value.string W a n c ss ∧ n ≤ maxLen ∧ ∀ s ∈ ss, s.size ≤ maxLen := by
  obtain ⟨fuel, hf⟩ := h
  rcases open_strings Try.underlying38 Try.underlying9 Try.cells9 hf with ⟨hcs, _⟩ | ⟨x, l, k, zs, hcs, _, hl, hm, hz, _, hcell, hwz⟩
  · simp [Value.cells] at hcs
    obtain ⟨rfl, rfl, rfl⟩ := hcs
    exact ⟨[], ⟨rfl, fun _ => ⟨rfl, rfl⟩, Nat.le_refl _, fun _ h => by cases h⟩, Nat.zero_le _, fun s hs => by cases hs⟩
  · simp [Value.cells] at hcs
    obtain ⟨rfl, rfl, rfl⟩ := hcs
    have hz' : zs.length = c := by simpa using hz
    refine ⟨zs.take n, ⟨by simp; omega, (fun h => by cases h), hl, fun a ha => ?_⟩, Nat.le_trans hl hm, fun s hs => ?_⟩
    · cases ha
      intro j hj
      have hj' : j < zs.length := by simp at hj; omega
      rw [hcell j hj']
      simp [List.getD, hj']
    · exact hwz s (List.mem_of_mem_take hs)
end

/-! ### THE ROW's STEP -/
set_option maxRecDepth 100000 in
theorem lifted (os : Os) (started : os.Started) (H : Type) (enc : TypeId × Value → H) :
    ReturnsInHanded {} Try.checked os 9 .any (Rows.fnParamNumbersQuestionMarksInOrderSpec.pre6 enc Try.prog Try.f9 Rows.fnParamNumbersQuestionMarksInOrderRow.domain false) (Rows.fnParamNumbersQuestionMarksInOrderSpec.post enc Try.prog Try.f9 false true false false) := by
  refine returnsInHanded_of_change (C := Try.checked) own started (by kernel_rfl) Try.func9
    (ChangeSpec.witness6 (enc := enc) (C := Try.checked) false ⟨#[], #[.slice none 0 0, .slice none 0 0], []⟩ 8 (by kernel_rfl) (by kernel_rfl) (by kernel_rfl) (by kernel_rfl)) ?_
  intro W base args ds gs before hval0 hW hcnd _
  have hval : ∀ (j : Nat) t v, Try.f9.params[j]? = some t → args[j]? = some v → Value.okWide Try.prog W .any base t v := hval0
  have hW' := hW
  obtain ⟨p, q, hA0, hV, rfl, hfz, hnd⟩ := hW
  have hA : DataW.TrodAll enc Try.prog W 0 (fun _ => true) true Try.f9.params.toList args.toList ds p := hA0
  rw [Try.params9] at hA hval
  obtain ⟨v0, vs0, d0, ds0, p0, q0, hargs, rfl, rfl, h0, r0⟩ := trodAll_cons hA
  obtain ⟨v1, vs1, d1, ds1, p1, q1, rfl, rfl, rfl, h1, r1⟩ := trodAll_cons r0
  obtain ⟨rfl, rfl, rfl⟩ := trodAll_nil r1
  obtain rfl : args = #[v0, v1] := by cases args; simp_all
  obtain ⟨rfl, rfl⟩ := trodVars_none hV
  have k0 := h0
  have k1 := h1
  have lt0 : ∀ x ∈ p0, x.block < W.heap.size := by obtain ⟨m, hm⟩ := k0; exact DataW.trod_lt m _ _ _ hm
  have lt1 : ∀ x ∈ p1, x.block < W.heap.size := by obtain ⟨m, hm⟩ := k1; exact DataW.trod_lt m _ _ _ hm
  obtain ⟨a0, n0, c0, rfl⟩ := okWide_slice Try.underlying38 (hval 0 38 v0 rfl rfl)
  obtain ⟨a1, n1, c1, rfl⟩ := okWide_slice Try.underlying38 (hval 1 38 v1 rfl rfl)
  obtain ⟨ps, view0, m0, s0⟩ := view_strings h0
  obtain ⟨qs, view1, m1, s1⟩ := view_strings h1
  clear hA0 hval0
  refine (prm.law_any a0 a1 n0 n1 c0 c1 ps qs W m0 m1 view0 view1 s0 s1).mono fun e W' ⟨he, bel⟩ => ?_
  subst he
  exact ⟨_, rfl, _, _, _, [], _, [], hW', trodAll_mk1 (shut_bool Try.underlying4 _), (trodAll_cons_mk (Below.trod laid_out (by kernel_rfl) (of_decide_eq_true (by kernel_rfl)) k0 bel lt0) (trodAll_cons_mk (Below.trod laid_out (by kernel_rfl) (of_decide_eq_true (by kernel_rfl)) k1 bel lt1) trodAll_mk0)), rfl, bel.frame _, fun h => by cases h⟩

theorem closed : joinedFacts Try.prog 9 Try.f9 Rows.fnParamNumbersQuestionMarksInOrderSpec Rows.fnParamNumbersQuestionMarksInOrderRow = true :=
  facts_of (by kernel_rfl) laid_out maps_rowed (by kernel_rfl) (by kernel_rfl) (by kernel_rfl) no_stops (by kernel_rfl) no_knobs (by kernel_rfl) (by kernel_rfl) (by kernel_rfl) (by kernel_rfl) (by kernel_rfl) (by kernel_rfl) (by kernel_rfl) (by kernel_rfl) (by kernel_rfl) (by kernel_rfl) (by kernel_rfl) (by kernel_rfl) (by kernel_rfl)
    plain_keys rfl rfl stops_heard may_enter lifts_final rfl make_cut rfl rfl (by kernel_rfl) (by kernel_rfl) (by kernel_rfl)

theorem over : Rows.fnParamNumbersQuestionMarksInOrderRow.holds Try.pinned (OpenSpec.ofChange Rows.fnParamNumbersQuestionMarksInOrderSpec) :=
  OpenClaim.holds_of_wide 9 Try.f9 rfl rfl rfl rfl rfl rfl rfl ⟨rfl, rfl, rfl, rfl, rfl⟩ rfl rfl rfl rfl rfl (by kernel_rfl) Try.func9 closed
    (of_decide_eq_true (by kernel_rfl)) (by unfold Func.isWrapper; first | (rw [if_pos (by decide +kernel)]; kernel_rfl) | (rw [if_neg (by decide +kernel)]; exact ⟨rfl, rfl⟩))
    (fun os started H enc _ => lifted os started H enc)

/-- ████ THE STATEMENT ████ -/
theorem proved : Rows.FnParamNumbersQuestionMarksInOrderSaid := over
#print axioms proved
end Go.Proofs.Qxb6001671a.fnParamNumbersQuestionMarksInOrder
