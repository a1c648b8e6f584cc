/-
  FnParamNumbersQuestionMarksInOrder AT EVERY INPUT: the ways out ahead of the law, and the law.
-/
import Derived.Test.Qxb6001671aPl
namespace Go.Proofs.Qxb6001671a.prm
open Go.RowKit
set_option linter.unusedVariables false

set_option maxRecDepth 100000 in
set_option maxHeartbeats 1000000 in
theorem law_any (po vo : Option Addr) (n m c d : Nat) (ps vs : List ByteArray) (w : World) (hn : n ≤ maxLen) (hm : m ≤ maxLen) (vP : View Value.string w po n c ps) (vV : View Value.string w vo m d vs) (hps : ∀ s ∈ ps, s.size ≤ maxLen) (hvs : ∀ s ∈ vs, s.size ≤ maxLen) :
    Calls Try.prog 9 #[.slice po n c, .slice vo m d] w fun e w' => e = .returned (.bool true) ∧ Below w.heap.size w w' := by
  have Hc : Hid _ := bytes_any po vo n m c d ps vs w hn hm vP vV hps hvs
  by_cases h1 : (65536 : Int) < n
  · clear vP vV hps hvs hn hm
    go_enter Try.func9, Try.ntmps9
    go_wp2_with fail
    refine Calls.mono Hc.out ?_
    rintro e w1 ⟨⟨b, rfl⟩, rfl⟩
    cases b
    all_goals
      go_wp2
      go_ret
      exact ⟨rfl, Below.refl _ _⟩
  by_cases h2 : (65536 : Int) < m
  · clear vP vV hps hvs hn hm
    go_enter Try.func9, Try.ntmps9
    go_wp2_with fail
    refine Calls.mono Hc.out ?_
    rintro e w1 ⟨⟨b, rfl⟩, rfl⟩
    cases b
    all_goals
      go_wp2
      go_ret
      exact ⟨rfl, Below.refl _ _⟩
  exact law_main po vo n m c d ps vs w (by omega) (by omega) vP vV hps hvs
end Go.Proofs.Qxb6001671a.prm
