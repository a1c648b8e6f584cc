/-
  THE ROW OF 'Rows.FnOrderedSwapSymmetricSaid': the frame is the guide's template for a law with slices among her arguments, at this function's number and types; an array of four and slices of bools are opened by hand.
-/
import Derived.Test.Qxb6001671aRows
import Derived.Test.Qxb6001671aHead
import Derived.Test.Qxb6001671aOw
import Derived.ProofKit
import Derived.OpenShut
import Derived.ShutString
import Derived.ChangeOld
import Derived.Below
import Derived.Deep.Grids
namespace Go.Proofs.Qxb6001671a.fnOrderedSwapSymmetric
open Go.ChangeShapes Go.WideShapes Go.ChangeAt Go.RowKit Go.Deep
set_option linter.unusedVariables false

theorem Try.cells63 : Try.prog.cellsOf 63 = 4 := by kernel_rfl
theorem Try.cells2 : Try.prog.cellsOf 2 = 1 := by kernel_rfl
theorem Try.cells53 : Try.prog.cellsOf 53 = 1 := by kernel_rfl
theorem Try.cells4 : Try.prog.cellsOf 4 = 1 := by kernel_rfl

theorem four {cs : Array Value} (h : cs.size = 4) : ∃ a b c d, cs = #[a, b, c, d] := by
  obtain ⟨l⟩ := cs
  match l, h with
  | [a, b, c, d], _ => exact ⟨a, b, c, d, rfl⟩

theorem okWide_array {P : Program} {w : World} {r : Reach} {base : Nat} {t e : TypeId} {n : Nat} {v : Value} (ht : P.underlying t = some (.array n e)) (h : Value.okWide P w r base t v) : ∃ cs, v = .agg cs ∧ cs.size = P.cellsOf t := by
  simp only [Value.okWide, ht] at h
  obtain ⟨cs, h1, h2, _⟩ := h
  exact ⟨cs, h1, h2⟩
section
variable {H : Type} {enc : TypeId × Value → H} {W : World} {base b0 : Nat} {r : Reach}
set_option maxRecDepth 100000 in
/-- The array of four integers. -/
theorem open_results {v : Value} {d : DataW H} {p : List MemPlace} (hv : Value.okWide Try.prog W r b0 63 v) (h : DataW.Trod enc Try.prog W base (fun _ => true) true 63 v d p) :
    ∃ r0 r1 r2 r3 : Int, v = .agg #[.int .i64 r0, .int .i64 r1, .int .i64 r2, .int .i64 r3] := by
  obtain ⟨cs, rfl, hs⟩ := okWide_array Try.underlying63 hv
  rw [Try.cells63] at hs
  obtain ⟨a, b, c, e, rfl⟩ := four hs
  obtain ⟨fuel, hf⟩ := h
  obtain ⟨y0, y1, y2, y3, n, _, t0, t1, t2, t3⟩ := trod_array4 (P := Try.prog) Try.underlying63 Try.cells2 (by simpa [Value.cells] using hf)
  obtain ⟨r0, e0, _⟩ := DataW.trod_int Try.underlying2 t0
  obtain ⟨r1, e1, _⟩ := DataW.trod_int Try.underlying2 t1
  obtain ⟨r2, e2, _⟩ := DataW.trod_int Try.underlying2 t2
  obtain ⟨r3, e3, _⟩ := DataW.trod_int Try.underlying2 t3
  simp only [List.cons.injEq, and_true] at e0 e1 e2 e3
  subst e0 e1 e2 e3
  exact ⟨r0, r1, r2, r3, rfl⟩
/-- A slice of int8. -/
theorem view_ints {a : Option Addr} {n c : Nat} {d : DataW H} {p : List MemPlace} (h : DataW.Trod enc Try.prog W base (fun _ => true) true 64 (.slice a n c) d p) :
    ∃ os, ord.View (Value.int .i8) W a n c os ∧ n ≤ maxLen := by
  obtain ⟨fuel, hf⟩ := h
  rcases open_ints Try.underlying64 Try.underlying53 Try.cells53 hf with ⟨hcs, _⟩ | ⟨x, l, k, zs, hcs, _, hl, hm, hz, _, hcell, hwz⟩
  · simp [Value.cells] at hcs
    obtain ⟨rfl, rfl, rfl⟩ := hcs
    exact ⟨[], ⟨rfl, fun _ => ⟨rfl, rfl⟩, Nat.le_refl _, fun _ h => by cases h⟩, Nat.zero_le _⟩
  · simp [Value.cells] at hcs
    obtain ⟨rfl, rfl, rfl⟩ := hcs
    have hz' : zs.length = c := by simpa using hz
    refine ⟨zs.take n, ⟨by simp; omega, (fun h => by cases h), hl, fun a ha => ?_⟩, Nat.le_trans hl hm⟩
    cases ha
    intro j hj
    have hj' : j < zs.length := by simp at hj; omega
    rw [hcell j hj']
    simp [List.getD, hj']
/-- A slice of bools. -/
theorem view_bools {a : Option Addr} {n c : Nat} {d : DataW H} {p : List MemPlace} (h : DataW.Trod enc Try.prog W base (fun _ => true) true 65 (.slice a n c) d p) :
    ∃ bs, ord.View Value.bool W a n c bs ∧ n ≤ maxLen := by
  obtain ⟨fuel, hf⟩ := h
  rcases open_bools Try.underlying65 Try.underlying4 Try.cells4 hf with ⟨hcs, _⟩ | ⟨x, l, k, B, hcs, _, hl, hm, _, hcell⟩
  · simp [Value.cells] at hcs
    obtain ⟨rfl, rfl, rfl⟩ := hcs
    exact ⟨[], ⟨rfl, fun _ => ⟨rfl, rfl⟩, Nat.le_refl _, fun _ h => by cases h⟩, Nat.zero_le _⟩
  · simp [Value.cells] at hcs
    obtain ⟨rfl, rfl, rfl⟩ := hcs
    refine ⟨(List.range n).map B, ⟨by simp, (fun h => by cases h), hl, fun a ha => ?_⟩, Nat.le_trans hl hm⟩
    cases ha
    intro j hj
    have hj' : j < n := by simpa using hj
    rw [hcell j (by omega)]
    simp
end

/-! ### THE ROW's STEP -/
set_option maxRecDepth 100000 in
theorem lifted (os : Os) (started : os.Started) (H : Type) (enc : TypeId × Value → H) :
    ReturnsInHanded {} Try.checked os 12 .any (Rows.fnOrderedSwapSymmetricSpec.pre6 enc Try.prog Try.f12 Rows.fnOrderedSwapSymmetricRow.domain false) (Rows.fnOrderedSwapSymmetricSpec.post enc Try.prog Try.f12 false true false false) := by
  refine returnsInHanded_of_change (C := Try.checked) own started (by kernel_rfl) Try.func12
    (ChangeSpec.witness6 (enc := enc) (C := Try.checked) false ⟨#[], #[.agg #[.int .i64 0, .int .i64 0, .int .i64 0, .int .i64 0], .slice none 0 0, .bool false, .slice none 0 0, .bool false, .slice none 0 0], []⟩ 8 (by kernel_rfl) (by kernel_rfl) (by kernel_rfl) (by kernel_rfl)) ?_
  intro W base args ds gs before hval0 hW hcnd _
  have hval : ∀ (j : Nat) t v, Try.f12.params[j]? = some t → args[j]? = some v → Value.okWide Try.prog W .any base t v := hval0
  have hW' := hW
  obtain ⟨p, q, hA0, hV, rfl, hfz, hnd⟩ := hW
  have hA : DataW.TrodAll enc Try.prog W 0 (fun _ => true) true Try.f12.params.toList args.toList ds p := hA0
  rw [Try.params12] at hA hval
  obtain ⟨v0, vs0, d0, ds0, p0, q0, hargs, rfl, rfl, h0, r0⟩ := trodAll_cons hA
  obtain ⟨v1, vs1, d1, ds1, p1, q1, rfl, rfl, rfl, h1, r1⟩ := trodAll_cons r0
  obtain ⟨v2, vs2, d2, ds2, p2, q2, rfl, rfl, rfl, h2, r2⟩ := trodAll_cons r1
  obtain ⟨v3, vs3, d3, ds3, p3, q3, rfl, rfl, rfl, h3, r3⟩ := trodAll_cons r2
  obtain ⟨v4, vs4, d4, ds4, p4, q4, rfl, rfl, rfl, h4, r4⟩ := trodAll_cons r3
  obtain ⟨v5, vs5, d5, ds5, p5, q5, rfl, rfl, rfl, h5, r5⟩ := trodAll_cons r4
  obtain ⟨rfl, rfl, rfl⟩ := trodAll_nil r5
  obtain rfl : args = #[v0, v1, v2, v3, v4, v5] := by cases args; simp_all
  obtain ⟨rfl, rfl⟩ := trodVars_none hV
  have k0 := h0
  have k1 := h1
  have k3 := h3
  have k5 := h5
  have lt0 : ∀ x ∈ p0, x.block < W.heap.size := by obtain ⟨m, hm⟩ := k0; exact DataW.trod_lt m _ _ _ hm
  have lt1 : ∀ x ∈ p1, x.block < W.heap.size := by obtain ⟨m, hm⟩ := k1; exact DataW.trod_lt m _ _ _ hm
  have lt3 : ∀ x ∈ p3, x.block < W.heap.size := by obtain ⟨m, hm⟩ := k3; exact DataW.trod_lt m _ _ _ hm
  have lt5 : ∀ x ∈ p5, x.block < W.heap.size := by obtain ⟨m, hm⟩ := k5; exact DataW.trod_lt m _ _ _ hm
  obtain ⟨ra, rb, rc, rd, rfl⟩ := open_results (hval 0 63 v0 rfl rfl) h0
  obtain ⟨a1, n1, c1, rfl⟩ := okWide_slice Try.underlying64 (hval 1 64 v1 rfl rfl)
  obtain ⟨x, rfl, rfl, rfl⟩ := open_bool Try.underlying4 (hval 2 4 v2 rfl rfl) h2
  obtain ⟨a3, n3, c3, rfl⟩ := okWide_slice Try.underlying65 (hval 3 65 v3 rfl rfl)
  obtain ⟨y, rfl, rfl, rfl⟩ := open_bool Try.underlying4 (hval 4 4 v4 rfl rfl) h4
  obtain ⟨a5, n5, c5, rfl⟩ := okWide_slice Try.underlying65 (hval 5 65 v5 rfl rfl)
  obtain ⟨zs, view1, m1⟩ := view_ints h1
  obtain ⟨xs3, view3, m3⟩ := view_bools h3
  obtain ⟨bs, view5, m5⟩ := view_bools h5
  clear hA0 hval0
  refine (ord.law_any ra rb rc rd a1 a3 a5 n1 n3 n5 c1 c3 c5 zs xs3 bs x y W m1 m3 m5 view1 view3 view5).mono fun e W' ⟨he, bel⟩ => ?_
  subst he
  exact ⟨_, rfl, _, _, _, [], _, [], hW', trodAll_mk1 (shut_bool Try.underlying4 _), (trodAll_cons_mk (Below.trod laid_out (by kernel_rfl) (of_decide_eq_true (by kernel_rfl)) k0 bel lt0) (trodAll_cons_mk (Below.trod laid_out (by kernel_rfl) (of_decide_eq_true (by kernel_rfl)) k1 bel lt1) (trodAll_cons_mk (shut_bool Try.underlying4 _) (trodAll_cons_mk (Below.trod laid_out (by kernel_rfl) (of_decide_eq_true (by kernel_rfl)) k3 bel lt3) (trodAll_cons_mk (shut_bool Try.underlying4 _) (trodAll_cons_mk (Below.trod laid_out (by kernel_rfl) (of_decide_eq_true (by kernel_rfl)) k5 bel lt5) trodAll_mk0)))))), rfl, bel.frame _, fun h => by cases h⟩

theorem closed : joinedFacts Try.prog 12 Try.f12 Rows.fnOrderedSwapSymmetricSpec Rows.fnOrderedSwapSymmetricRow = true :=
  facts_of (by kernel_rfl) laid_out maps_rowed (by kernel_rfl) (by kernel_rfl) (by kernel_rfl) no_stops (by kernel_rfl) no_knobs (by kernel_rfl) (by kernel_rfl) (by kernel_rfl) (by kernel_rfl) (by kernel_rfl) (by kernel_rfl) (by kernel_rfl) (by kernel_rfl) (by kernel_rfl) (by kernel_rfl) (by kernel_rfl) (by kernel_rfl) (by kernel_rfl)
    plain_keys rfl rfl stops_heard may_enter lifts_final rfl make_cut rfl rfl (by kernel_rfl) (by kernel_rfl) (by kernel_rfl)

theorem over : Rows.fnOrderedSwapSymmetricRow.holds Try.pinned (OpenSpec.ofChange Rows.fnOrderedSwapSymmetricSpec) :=
  OpenClaim.holds_of_wide 12 Try.f12 rfl rfl rfl rfl rfl rfl rfl ⟨rfl, rfl, rfl, rfl, rfl⟩ rfl rfl rfl rfl rfl (by kernel_rfl) Try.func12 closed
    (of_decide_eq_true (by kernel_rfl)) (by unfold Func.isWrapper; first | (rw [if_pos (by decide +kernel)]; kernel_rfl) | (rw [if_neg (by decide +kernel)]; exact ⟨rfl, rfl⟩))
    (fun os started H enc _ => lifted os started H enc)

/-- ████ THE STATEMENT ████ -/
theorem proved : Rows.FnOrderedSwapSymmetricSaid := over
#print axioms proved
end Go.Proofs.Qxb6001671a.fnOrderedSwapSymmetric
