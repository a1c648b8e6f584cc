/-
  THE SHELL OF A PROOF OF 'Rows.FnIsPairAgreesWithComparisonSaid' ('example.com/chronorow/chronorow/zzlaws_internal_sqlparse_g1.FnIsPairAgreesWithComparison'), WRITTEN BY PROGRAM (proof-skeleton.mjs) off the guide's own print for that function. Not trusted: Lean checks it.
  The hole is filled; the frame is the guide's template at this function's number and types; 'closed' takes the closed facts one by one (Head).
-/
import Derived.Test.Qxb6001671aRows
import Derived.Test.Qxb6001671aHead
import Derived.WalkKit
import Derived.Test.Qxb6001671aPair
import Derived.WalkSpells
import Derived.Lib.Strings
import Derived.WalkLawsBesides
import Derived.ProofKit
import Derived.OpenShut
import Derived.ShutString
namespace Go.Proofs.Qxb6001671a.fnIsPairAgreesWithComparison
open Go.ChangeShapes Go.WideShapes Go.ChangeAt Go.RowKit
open Go.ChangeMaps (open_string shut_string)
set_option linter.unusedVariables false      -- a walk need not use every 'w<i>' (that an integer argument fits its kind)

theorem take_two : ∀ (l : List UInt8) (h : 2 ≤ l.length), l.take 2 = [l[0]'(by omega), l[1]'(by omega)]
  | a :: b :: l, _ => by simp
  | [_], h => by simp at h
  | [], h => by simp at h
theorem head_two (s : ByteArray) (h : 2 ≤ s.size) : (s.extract 0 2).toList = [s[0]'(by omega), s[1]'(by omega)] := by
  rw [Lib.extract_toList, List.drop_zero]
  exact take_two s.data.toList h

/-! ### STEP 1: THE WALK: the Go text returns true. 'Grown w w'': the world has at most new blocks (Derived/RowKit3.lean). Part the cases AHEAD of 'go_enter' where a test parts the walk; take each callee by a contract of your own. -/
theorem walk (a0 : ByteArray) (w0 : a0.size ≤ maxLen) (w : World) :
    Calls Try.prog 7 #[.string a0] w fun e w' => e = .returned (.bool true) ∧ Grown w w' := by
  unfold maxLen at w0
  by_cases hb : (1048576 : Int) < a0.size
  · go_enter Try.func7, Try.ntmps7
    go_wp2
    go_ret
    exact ⟨rfl, Grown.refl _⟩
  · by_cases h2 : 2 ≤ a0.size
    · have H : Hid ((a0.extract 0 2).toList = [a0[0]'(by omega), a0[1]'(by omega)]) := head_two a0 h2
      go_enter Try.func7, Try.ntmps7
      go_wp2_with (first
        | (go_at_call 25; go_in)
        | (go_at_call 26; refine (pair.zzComparison_any _ _ _ H.out _).mono ?_; rintro e w' ⟨⟨op, rfl⟩, rfl⟩)
        | (go_at_call 27; refine (pair.zzArithmeticOp_any _ _ _ H.out _).mono ?_; rintro e w' ⟨⟨op, rfl⟩, rfl⟩)
        | (go_at_call 28; refine (pair.isPair_any _ _ (by unfold maxLen; omega) (by omega)).mono ?_; rintro e w' ⟨rfl, rfl⟩))
      go_ret
      exact ⟨by simp, Grown.refl _⟩
    · go_enter Try.func7, Try.ntmps7
      go_wp2
      go_ret
      exact ⟨rfl, Grown.refl _⟩

/-! ### THE ROW's STEP: WRITTEN OUT: LEAVE IT -/
set_option maxRecDepth 100000 in
theorem lifted (os : Os) (started : os.Started) (H : Type) (enc : TypeId × Value → H) :
    ReturnsInHanded {} Try.checked os 7 .any (Rows.fnIsPairAgreesWithComparisonSpec.pre6 enc Try.prog Try.f7 Rows.fnIsPairAgreesWithComparisonRow.domain false) (Rows.fnIsPairAgreesWithComparisonSpec.post enc Try.prog Try.f7 false true false false) := by
  refine returnsInHanded_of_change (C := Try.checked) own started (by kernel_rfl) Try.func7
    (ChangeSpec.witness6 (enc := enc) (C := Try.checked) false ⟨#[], #[.string ByteArray.empty], []⟩ 8 (by kernel_rfl) (by kernel_rfl) (by kernel_rfl) (by kernel_rfl)) ?_
  intro W base args ds gs before hval0 hW hcnd _
  have hval : ∀ (j : Nat) t v, Try.f7.params[j]? = some t → args[j]? = some v → Value.okWide Try.prog W .any base t v := hval0
  have hW' := hW
  obtain ⟨p, q, hA0, hV, rfl, hfz, hnd⟩ := hW
  have hA : DataW.TrodAll enc Try.prog W 0 (fun _ => true) true Try.f7.params.toList args.toList ds p := hA0
  rw [Try.params7] at hA hval
  obtain ⟨v0, vs0, d0, ds0, p0, q0, hargs, rfl, rfl, h0, r0⟩ := trodAll_cons hA
  obtain ⟨rfl, rfl, rfl⟩ := trodAll_nil r0
  obtain rfl : args = #[v0] := by cases args; simp_all
  obtain ⟨rfl, rfl⟩ := trodVars_none hV
  obtain ⟨a0, rfl, rfl, rfl, w0⟩ := open_string Try.underlying9 (hval 0 9 v0 rfl rfl) h0
  clear hA0 hval0
  simp only [List.append_nil] at hW'
  refine (walk a0 w0 W).mono fun e W' ⟨he, hg⟩ => ?_
  subst he
  exact ⟨_, rfl, post_of_same (pa := []) (pv := []) hW' (fun _ _ _ => (trodAll_cons_mk (shut_bool Try.underlying4 _) trodAll_mk0)) (fun sp _ => (trodAll_cons_mk (shut_string Try.underlying9 w0) trodAll_mk0)) (fun _ _ => rfl) rfl
    (hg.frame _) hg.2.1 (ok_one (by kernel_rfl) rfl (okWide_bool_mk Try.underlying4 _))⟩

theorem closed : joinedFacts Try.prog 7 Try.f7 Rows.fnIsPairAgreesWithComparisonSpec Rows.fnIsPairAgreesWithComparisonRow = true :=
  facts_of (by kernel_rfl) laid_out maps_rowed (by kernel_rfl) (by kernel_rfl) (by kernel_rfl) no_stops (by kernel_rfl) no_knobs (by kernel_rfl) (by kernel_rfl) (by kernel_rfl) (by kernel_rfl) (by kernel_rfl) (by kernel_rfl) (by kernel_rfl) (by kernel_rfl) (by kernel_rfl) (by kernel_rfl) (by kernel_rfl) (by kernel_rfl) (by kernel_rfl)
    plain_keys rfl rfl stops_heard may_enter lifts_final rfl make_cut rfl rfl (by kernel_rfl) (by kernel_rfl) (by kernel_rfl)

theorem over : Rows.fnIsPairAgreesWithComparisonRow.holds Try.pinned (OpenSpec.ofChange Rows.fnIsPairAgreesWithComparisonSpec) :=
  OpenClaim.holds_of_wide 7 Try.f7 rfl rfl rfl rfl rfl rfl rfl ⟨rfl, rfl, rfl, rfl, rfl⟩ rfl rfl rfl rfl rfl (by kernel_rfl) Try.func7 closed
    (of_decide_eq_true (by kernel_rfl)) (by unfold Func.isWrapper; first | (rw [if_pos (by decide +kernel)]; kernel_rfl) | (rw [if_neg (by decide +kernel)]; exact ⟨rfl, rfl⟩))
    (fun os started H enc _ => lifted os started H enc)

/-- ████ THE STATEMENT ████ -/
theorem proved : Rows.FnIsPairAgreesWithComparisonSaid :=
  over
#print axioms proved
end Go.Proofs.Qxb6001671a.fnIsPairAgreesWithComparison
