/-
  THE SHELL OF A PROOF OF 'Rows.FnKleeneLogicSaid' ('example.com/chronorow/chronorow/zzlaws_root_g1.FnKleeneLogic'), WRITTEN BY PROGRAM (proof-skeleton.mjs) off the guide's own print for that function. Not trusted: Lean checks it.
  The hole is filled; the frame is the guide's template at this function's number and types; 'closed' takes the closed facts one by one (Head).
-/
import Derived.Test.Qxb6001671aRows
import Derived.Test.Qxb6001671aHead
import Derived.WalkKit
import Derived.ProofKit
import Derived.OpenShut
import Derived.ShutString
namespace Go.Proofs.Qxb6001671a.fnKleeneLogic
open Go.ChangeShapes Go.WideShapes Go.ChangeAt Go.RowKit
open Go.ChangeMaps (open_string shut_string)
set_option linter.unusedVariables false      -- a walk need not use every 'w<i>' (that an integer argument fits its kind)

/-! ### THE 54 INPUTS WITHIN THE TABLE, each walked: the operands 0, 1, 2 and both connectives -/
set_option maxHeartbeats 2000000 in
theorem at_0_true (b c : Int) (hb : b = 0 ∨ b = 1 ∨ b = 2) (hc : c = 0 ∨ c = 1 ∨ c = 2) (w : World) :
    Calls Try.prog 10 #[.int .i8 0, .int .i8 b, .int .i8 c, .bool true] w fun e w' => e = .returned (.bool true) ∧ w' = w := by
  rcases hb with rfl | rfl | rfl <;> rcases hc with rfl | rfl | rfl
  all_goals
    go_enter Try.func10, Try.ntmps10
    go_wp2
    go_ret
    exact ⟨rfl, rfl⟩

set_option maxHeartbeats 2000000 in
theorem at_1_true (b c : Int) (hb : b = 0 ∨ b = 1 ∨ b = 2) (hc : c = 0 ∨ c = 1 ∨ c = 2) (w : World) :
    Calls Try.prog 10 #[.int .i8 1, .int .i8 b, .int .i8 c, .bool true] w fun e w' => e = .returned (.bool true) ∧ w' = w := by
  rcases hb with rfl | rfl | rfl <;> rcases hc with rfl | rfl | rfl
  all_goals
    go_enter Try.func10, Try.ntmps10
    go_wp2
    go_ret
    exact ⟨rfl, rfl⟩

set_option maxHeartbeats 2000000 in
theorem at_2_true (b c : Int) (hb : b = 0 ∨ b = 1 ∨ b = 2) (hc : c = 0 ∨ c = 1 ∨ c = 2) (w : World) :
    Calls Try.prog 10 #[.int .i8 2, .int .i8 b, .int .i8 c, .bool true] w fun e w' => e = .returned (.bool true) ∧ w' = w := by
  rcases hb with rfl | rfl | rfl <;> rcases hc with rfl | rfl | rfl
  all_goals
    go_enter Try.func10, Try.ntmps10
    go_wp2
    go_ret
    exact ⟨rfl, rfl⟩

set_option maxHeartbeats 2000000 in
theorem at_0_false (b c : Int) (hb : b = 0 ∨ b = 1 ∨ b = 2) (hc : c = 0 ∨ c = 1 ∨ c = 2) (w : World) :
    Calls Try.prog 10 #[.int .i8 0, .int .i8 b, .int .i8 c, .bool false] w fun e w' => e = .returned (.bool true) ∧ w' = w := by
  rcases hb with rfl | rfl | rfl <;> rcases hc with rfl | rfl | rfl
  all_goals
    go_enter Try.func10, Try.ntmps10
    go_wp2
    go_ret
    exact ⟨rfl, rfl⟩

set_option maxHeartbeats 2000000 in
theorem at_1_false (b c : Int) (hb : b = 0 ∨ b = 1 ∨ b = 2) (hc : c = 0 ∨ c = 1 ∨ c = 2) (w : World) :
    Calls Try.prog 10 #[.int .i8 1, .int .i8 b, .int .i8 c, .bool false] w fun e w' => e = .returned (.bool true) ∧ w' = w := by
  rcases hb with rfl | rfl | rfl <;> rcases hc with rfl | rfl | rfl
  all_goals
    go_enter Try.func10, Try.ntmps10
    go_wp2
    go_ret
    exact ⟨rfl, rfl⟩

set_option maxHeartbeats 2000000 in
theorem at_2_false (b c : Int) (hb : b = 0 ∨ b = 1 ∨ b = 2) (hc : c = 0 ∨ c = 1 ∨ c = 2) (w : World) :
    Calls Try.prog 10 #[.int .i8 2, .int .i8 b, .int .i8 c, .bool false] w fun e w' => e = .returned (.bool true) ∧ w' = w := by
  rcases hb with rfl | rfl | rfl <;> rcases hc with rfl | rfl | rfl
  all_goals
    go_enter Try.func10, Try.ntmps10
    go_wp2
    go_ret
    exact ⟨rfl, rfl⟩

/-! ### STEP 1: THE WALK: the Go text returns true. 'Grown w w'': the world has at most new blocks (Derived/RowKit3.lean). Part the cases AHEAD of 'go_enter' where a test parts the walk; take each callee by a contract of your own. -/
theorem walk (a0 : Int) (a1 : Int) (a2 : Int) (a3 : Bool) (w0 : (Lit.int .i8 a0).wf = true) (w1 : (Lit.int .i8 a1).wf = true) (w2 : (Lit.int .i8 a2).wf = true) (w : World) :
    Calls Try.prog 10 #[.int .i8 a0, .int .i8 a1, .int .i8 a2, .bool a3] w fun e w' => e = .returned (.bool true) ∧ Grown w w' := by
  by_cases l0 : a0 < 0
  · go_enter Try.func10, Try.ntmps10
    go_wp2
    go_ret
    exact ⟨rfl, Grown.refl _⟩
  by_cases g0 : 2 < a0
  · go_enter Try.func10, Try.ntmps10
    go_wp2
    go_ret
    exact ⟨rfl, Grown.refl _⟩
  by_cases l1 : a1 < 0
  · go_enter Try.func10, Try.ntmps10
    go_wp2
    go_ret
    exact ⟨rfl, Grown.refl _⟩
  by_cases g1 : 2 < a1
  · go_enter Try.func10, Try.ntmps10
    go_wp2
    go_ret
    exact ⟨rfl, Grown.refl _⟩
  by_cases l2 : a2 < 0
  · go_enter Try.func10, Try.ntmps10
    go_wp2
    go_ret
    exact ⟨rfl, Grown.refl _⟩
  by_cases g2 : 2 < a2
  · go_enter Try.func10, Try.ntmps10
    go_wp2
    go_ret
    exact ⟨rfl, Grown.refl _⟩
  have h0 : a0 = 0 ∨ a0 = 1 ∨ a0 = 2 := by omega
  have h1 : a1 = 0 ∨ a1 = 1 ∨ a1 = 2 := by omega
  have h2 : a2 = 0 ∨ a2 = 1 ∨ a2 = 2 := by omega
  have fin : ∀ (e : Ending) (w' : World), (e = .returned (.bool true) ∧ w' = w) → e = .returned (.bool true) ∧ Grown w w' := fun e w' ⟨he, hw⟩ => ⟨he, hw ▸ Grown.refl _⟩
  cases a3
  · rcases h0 with rfl | rfl | rfl
    · exact (at_0_false a1 a2 h1 h2 w).mono fin
    · exact (at_1_false a1 a2 h1 h2 w).mono fin
    · exact (at_2_false a1 a2 h1 h2 w).mono fin
  · rcases h0 with rfl | rfl | rfl
    · exact (at_0_true a1 a2 h1 h2 w).mono fin
    · exact (at_1_true a1 a2 h1 h2 w).mono fin
    · exact (at_2_true a1 a2 h1 h2 w).mono fin

/-! ### THE ROW's STEP: WRITTEN OUT: LEAVE IT -/
set_option maxRecDepth 100000 in
theorem lifted (os : Os) (started : os.Started) (H : Type) (enc : TypeId × Value → H) :
    ReturnsInHanded {} Try.checked os 10 .any (Rows.fnKleeneLogicSpec.pre6 enc Try.prog Try.f10 Rows.fnKleeneLogicRow.domain false) (Rows.fnKleeneLogicSpec.post enc Try.prog Try.f10 false true false false) := by
  refine returnsInHanded_of_change (C := Try.checked) own started (by kernel_rfl) Try.func10
    (ChangeSpec.witness6 (enc := enc) (C := Try.checked) false ⟨#[], #[.int .i8 0, .int .i8 0, .int .i8 0, .bool false], []⟩ 8 (by kernel_rfl) (by kernel_rfl) (by kernel_rfl) (by kernel_rfl)) ?_
  intro W base args ds gs before hval0 hW hcnd _
  have hval : ∀ (j : Nat) t v, Try.f10.params[j]? = some t → args[j]? = some v → Value.okWide Try.prog W .any base t v := hval0
  have hW' := hW
  obtain ⟨p, q, hA0, hV, rfl, hfz, hnd⟩ := hW
  have hA : DataW.TrodAll enc Try.prog W 0 (fun _ => true) true Try.f10.params.toList args.toList ds p := hA0
  rw [Try.params10] at hA hval
  obtain ⟨v0, vs0, d0, ds0, p0, q0, hargs, rfl, rfl, h0, r0⟩ := trodAll_cons hA
  obtain ⟨v1, vs1, d1, ds1, p1, q1, rfl, rfl, rfl, h1, r1⟩ := trodAll_cons r0
  obtain ⟨v2, vs2, d2, ds2, p2, q2, rfl, rfl, rfl, h2, r2⟩ := trodAll_cons r1
  obtain ⟨v3, vs3, d3, ds3, p3, q3, rfl, rfl, rfl, h3, r3⟩ := trodAll_cons r2
  obtain ⟨rfl, rfl, rfl⟩ := trodAll_nil r3
  obtain rfl : args = #[v0, v1, v2, v3] := by cases args; simp_all
  obtain ⟨rfl, rfl⟩ := trodVars_none hV
  obtain ⟨a0, rfl, rfl, rfl, w0⟩ := open_int Try.underlying53 (hval 0 53 v0 rfl rfl) h0
  obtain ⟨a1, rfl, rfl, rfl, w1⟩ := open_int Try.underlying53 (hval 1 53 v1 rfl rfl) h1
  obtain ⟨a2, rfl, rfl, rfl, w2⟩ := open_int Try.underlying53 (hval 2 53 v2 rfl rfl) h2
  obtain ⟨a3, rfl, rfl, rfl⟩ := open_bool Try.underlying4 (hval 3 4 v3 rfl rfl) h3
  clear hA0 hval0
  simp only [List.append_nil] at hW'
  refine (walk a0 a1 a2 a3 w0 w1 w2 W).mono fun e W' ⟨he, hg⟩ => ?_
  subst he
  exact ⟨_, rfl, post_of_same (pa := []) (pv := []) hW' (fun _ _ _ => (trodAll_cons_mk (shut_bool Try.underlying4 _) trodAll_mk0)) (fun sp _ => (trodAll_cons_mk (shut_int Try.underlying53 w0) (trodAll_cons_mk (shut_int Try.underlying53 w1) (trodAll_cons_mk (shut_int Try.underlying53 w2) (trodAll_cons_mk (shut_bool Try.underlying4 _) trodAll_mk0))))) (fun _ _ => rfl) rfl
    (hg.frame _) hg.2.1 (ok_one (by kernel_rfl) rfl (okWide_bool_mk Try.underlying4 _))⟩

theorem closed : joinedFacts Try.prog 10 Try.f10 Rows.fnKleeneLogicSpec Rows.fnKleeneLogicRow = true :=
  facts_of (by kernel_rfl) laid_out maps_rowed (by kernel_rfl) (by kernel_rfl) (by kernel_rfl) no_stops (by kernel_rfl) no_knobs (by kernel_rfl) (by kernel_rfl) (by kernel_rfl) (by kernel_rfl) (by kernel_rfl) (by kernel_rfl) (by kernel_rfl) (by kernel_rfl) (by kernel_rfl) (by kernel_rfl) (by kernel_rfl) (by kernel_rfl) (by kernel_rfl)
    plain_keys rfl rfl stops_heard may_enter lifts_final rfl make_cut rfl rfl (by kernel_rfl) (by kernel_rfl) (by kernel_rfl)

theorem over : Rows.fnKleeneLogicRow.holds Try.pinned (OpenSpec.ofChange Rows.fnKleeneLogicSpec) :=
  OpenClaim.holds_of_wide 10 Try.f10 rfl rfl rfl rfl rfl rfl rfl ⟨rfl, rfl, rfl, rfl, rfl⟩ rfl rfl rfl rfl rfl (by kernel_rfl) Try.func10 closed
    (of_decide_eq_true (by kernel_rfl)) (by unfold Func.isWrapper; first | (rw [if_pos (by decide +kernel)]; kernel_rfl) | (rw [if_neg (by decide +kernel)]; exact ⟨rfl, rfl⟩))
    (fun os started H enc _ => lifted os started H enc)

/-- ████ THE STATEMENT ████ -/
theorem proved : Rows.FnKleeneLogicSaid :=
  over
#print axioms proved
end Go.Proofs.Qxb6001671a.fnKleeneLogic
