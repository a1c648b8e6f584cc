/-
  FnOrderedSwapSymmetric AT EVERY INPUT: the ways out ahead of the law, and the law.
-/
import Derived.Test.Qxb6001671aOl
namespace Go.Proofs.Qxb6001671a.ord
open Go.RowKit
set_option linter.unusedVariables false

set_option maxRecDepth 100000 in
set_option maxHeartbeats 1000000 in
theorem law_any (r0 r1 r2 r3 : Int) (oo ao bo : Option Addr) (n na nb c1 c2 c3 : Nat) (os : List Int) (an bn : List Bool) (x y : Bool) (w : World) (hn : n ≤ maxLen) (hna : na ≤ maxLen) (hnb : nb ≤ maxLen)
    (vO : View (Value.int .i8) w oo n c1 os) (vA : View Value.bool w ao na c2 an) (vB : View Value.bool w bo nb c3 bn) :
    Calls Try.prog 12 #[.agg #[.int .i64 r0, .int .i64 r1, .int .i64 r2, .int .i64 r3], .slice oo n c1, .bool x, .slice ao na c2, .bool y, .slice bo nb c3] w fun e w' => e = .returned (.bool true) ∧ Below w.heap.size w w' := by
  by_cases htot : (n : Int) + na + nb ≤ 1048576
  · by_cases h1 : (65536 : Int) < n
    · go_enter Try.func12, Try.ntmps12
      go_wp2_with fail
      refine (bytes_yes _ _ _ _ _ _ _ _ _ _ _ _ _ htot r0 r1 r2 r3 rfl).mono ?_
      rintro e w1 ⟨rfl, hb1⟩
      have hb0 : Below w.heap.size w w1 := below_here ((Below.refl _ _).alloc (Nat.le_refl _) _) (Nat.le_refl _) hb1
      go_wp2
      go_ret
      exact ⟨rfl, hb0⟩
    by_cases h2 : (65536 : Int) < na
    · go_enter Try.func12, Try.ntmps12
      go_wp2_with fail
      refine (bytes_yes _ _ _ _ _ _ _ _ _ _ _ _ _ htot r0 r1 r2 r3 rfl).mono ?_
      rintro e w1 ⟨rfl, hb1⟩
      have hb0 : Below w.heap.size w w1 := below_here ((Below.refl _ _).alloc (Nat.le_refl _) _) (Nat.le_refl _) hb1
      go_wp2
      go_ret
      exact ⟨rfl, hb0⟩
    by_cases h3 : (65536 : Int) < nb
    · go_enter Try.func12, Try.ntmps12
      go_wp2_with fail
      refine (bytes_yes _ _ _ _ _ _ _ _ _ _ _ _ _ htot r0 r1 r2 r3 rfl).mono ?_
      rintro e w1 ⟨rfl, hb1⟩
      have hb0 : Below w.heap.size w w1 := below_here ((Below.refl _ _).alloc (Nat.le_refl _) _) (Nat.le_refl _) hb1
      go_wp2
      go_ret
      exact ⟨rfl, hb0⟩
    by_cases h4 : na = n
    · by_cases h5 : nb = n
      · subst h4; subst h5
        exact law_main r0 r1 r2 r3 oo ao bo nb c1 c2 c3 os an bn x y w (by omega) vO vA vB
      · have e4 : ((na : Int) != (n : Int)) = false := by simp [h4]
        have e5 : ((nb : Int) != (n : Int)) = true := by simp; omega
        clear h4 h5 vO vA vB
        go_enter Try.func12, Try.ntmps12
        go_wp2_with fail
        refine (bytes_yes _ _ _ _ _ _ _ _ _ _ _ _ _ htot r0 r1 r2 r3 rfl).mono ?_
        rintro e w1 ⟨rfl, hb1⟩
        have hb0 : Below w.heap.size w w1 := below_here ((Below.refl _ _).alloc (Nat.le_refl _) _) (Nat.le_refl _) hb1
        go_wp2
        go_ret
        exact ⟨rfl, hb0⟩
    · have e4 : ((na : Int) != (n : Int)) = true := by simp; omega
      clear h4 vO vA vB
      go_enter Try.func12, Try.ntmps12
      go_wp2_with fail
      refine (bytes_yes _ _ _ _ _ _ _ _ _ _ _ _ _ htot r0 r1 r2 r3 rfl).mono ?_
      rintro e w1 ⟨rfl, hb1⟩
      have hb0 : Below w.heap.size w w1 := below_here ((Below.refl _ _).alloc (Nat.le_refl _) _) (Nat.le_refl _) hb1
      go_wp2
      go_ret
      exact ⟨rfl, hb0⟩
  · go_enter Try.func12, Try.ntmps12
    go_wp2_with fail
    refine (bytes_no _ _ _ _ _ _ _ _ _ _ _ _ _ hn hna hnb (by omega) r0 r1 r2 r3 rfl).mono ?_
    rintro e w1 ⟨rfl, hb1⟩
    have hb0 : Below w.heap.size w w1 := below_here ((Below.refl _ _).alloc (Nat.le_refl _) _) (Nat.le_refl _) hb1
    go_wp2
    go_ret
    exact ⟨rfl, hb0⟩
end Go.Proofs.Qxb6001671a.ord
