/-
  THE WALKS OF FnEqualIsReflexive's CALLEES (2): 'equal' at a leaf against itself.
-/
import Derived.Test.Qxb6001697aE1
import Derived.Maps.RangeRun
namespace Go.Proofs.Qxb6001697a
open Go.RowKit
set_option linter.unusedVariables false

/-- From world w on, the value is equal to itself: 'equal' answers true, and turns nothing that lay there. -/
def EqSelf (w : World) (v : Value) : Prop := ∀ w', Below w.heap.size w w' → Calls Try.prog 53 #[v, v] w' fun e w'' => e = .returned (.bool true) ∧ Below w'.heap.size w' w''
theorem EqSelf.keep {w w1 : World} {v : Value} (h : EqSelf w v) (hb : Below w.heap.size w w1) : EqSelf w1 v := fun w' hb' => h w' (below_here hb (Nat.le_refl _) hb')

section
variable (typ : Int) (s : ByteArray) (neg : Bool) (d : ByteArray) (ex : Int) (b : Bool) (so : Option Addr) (sn sc : Nat) (mo : Option Nat) (lo : Option Addr) (ln lc : Nat) (xs : List ByteArray) (w : World)
set_option maxRecDepth 100000 in
set_option maxHeartbeats 1000000 in
theorem equal_bool : Calls Try.prog 53 #[.agg (attrC 3 s neg d ex b so sn sc mo lo ln lc).toArray, .agg (attrC 3 s neg d ex b so sn sc mo lo ln lc).toArray] w fun e w' => e = .returned (.bool true) ∧ Below w.heap.size w w' := by
  unfold attrC
  go_enter Try.func53, Try.ntmps53
  go_wp2_with fail
  go_ret
  exact ⟨by simp, (Pair.new w _ _ 47).below⟩
set_option maxRecDepth 100000 in
set_option maxHeartbeats 1000000 in
theorem equal_null : Calls Try.prog 53 #[.agg (attrC 4 s neg d ex b so sn sc mo lo ln lc).toArray, .agg (attrC 4 s neg d ex b so sn sc mo lo ln lc).toArray] w fun e w' => e = .returned (.bool true) ∧ Below w.heap.size w w' := by
  unfold attrC
  go_enter Try.func53, Try.ntmps53
  go_wp2_with fail
  go_ret
  exact ⟨rfl, (Pair.new w _ _ 47).below⟩
set_option maxRecDepth 100000 in
set_option maxHeartbeats 1000000 in
theorem equal_num (h0 : -9223372036854775808 ≤ ex) (h1 : ex ≤ 9223372036854775807) : Calls Try.prog 53 #[.agg (attrC 1 s neg d ex b so sn sc mo lo ln lc).toArray, .agg (attrC 1 s neg d ex b so sn sc mo lo ln lc).toArray] w fun e w' => e = .returned (.bool true) ∧ Below w.heap.size w w' := by
  unfold attrC
  go_enter Try.func53, Try.ntmps53
  have Hb : Hid _ := (Pair.new w #[.int .i64 1, .string s, .bool neg, .string d, .int .i64 ex, .bool b, .slice so sn sc, .map mo, .slice lo ln lc] #[.int .i64 1, .string s, .bool neg, .string d, .int .i64 ex, .bool b, .slice so sn sc, .map mo, .slice lo ln lc] 47).below
  go_wp2_with (first | (go_at_call 49; refine (compare_self _ _ _ _ h0 h1).mono ?_; rintro e w2 ⟨rfl, hb2⟩))
  go_ret
  exact ⟨rfl, below_here Hb.out (Nat.le_refl _) hb2⟩
set_option maxRecDepth 100000 in
set_option maxHeartbeats 1000000 in
theorem equal_str (h0 : -9223372036854775808 ≤ typ) (h1 : typ ≤ 9223372036854775807) (n1 : typ ≠ 1) (n3 : typ ≠ 3) (n4 : typ ≠ 4) (n5 : typ ≠ 5) (n6 : typ ≠ 6) (n7 : typ ≠ 7) (n8 : typ ≠ 8) (n9 : typ ≠ 9) :
    Calls Try.prog 53 #[.agg (attrC typ s neg d ex b so sn sc mo lo ln lc).toArray, .agg (attrC typ s neg d ex b so sn sc mo lo ln lc).toArray] w fun e w' => e = .returned (.bool true) ∧ Below w.heap.size w w' := by
  unfold attrC
  go_enter Try.func53, Try.ntmps53
  go_wp2_with fail
  go_ret
  exact ⟨by simp, (Pair.new w _ _ 47).below⟩
set_option maxRecDepth 100000 in
set_option maxHeartbeats 2000000 in
theorem equal_set (ht : typ = 5 ∨ typ = 6 ∨ typ = 7) (hv : View Value.string w so sn sc xs) (hn : sn ≤ 64) :
    Calls Try.prog 53 #[.agg (attrC typ s neg d ex b so sn sc mo lo ln lc).toArray, .agg (attrC typ s neg d ex b so sn sc mo lo ln lc).toArray] w fun e w' => e = .returned (.bool true) ∧ Below w.heap.size w w' := by
  have HV : Hid _ := hv
  clear hv
  have bP0 := Pair.new w (attrC typ s neg d ex b so sn sc mo lo ln lc).toArray (attrC typ s neg d ex b so sn sc mo lo ln lc).toArray 47
  obtain ⟨W, HW⟩ : ∃ W, Hid (W = (w.alloc (.cells (attrC typ s neg d ex b so sn sc mo lo ln lc).toArray 47)).alloc (.cells (attrC typ s neg d ex b so sn sc mo lo ln lc).toArray 47)) := ⟨_, rfl⟩
  have HA : Hid (∀ i (hi : i < xs.length) w', View Value.string w' so sn sc xs → Calls Try.prog 61 #[.agg (attrC typ s neg d ex b so sn sc mo lo ln lc).toArray, .string xs[i]] w' fun e w'' => e = .returned (.bool true) ∧ Below w'.heap.size w' w'') :=
    fun i hi w' hv' => hasElement_in typ s neg d ex b so sn sc mo lo ln lc xs w' hv' hn i hi
  rw [← HW.out] at bP0
  unfold attrC at *
  have HP : Hid _ := bP0
  clear bP0
  rcases ht with rfl | rfl | rfl
  all_goals
    go_enter Try.func53, Try.ntmps53
    go_wp2_with fail
    rw [← HW.out]
    go_loopw [50] (fun v wr => ∃ k : Nat, k ≤ sn ∧ v = .int .i64 k ∧ Below W.heap.size W wr) (fun v _ => sn - (intOf v).toNat)
    case atStart => exact ⟨0, Nat.zero_le _, rfl, Below.refl _ _⟩
    case round =>
      obtain ⟨k, hk, rfl, hb⟩ := hrel
      have bP := HP.out.keep hb
      by_cases hlt : k < sn
      · have HV2 : Hid _ := (HV.out.keep bP.below)
        obtain ⟨bb, off, hx, rfl, hc⟩ := HV2.out.at hlt
        have hkI : (k : Int) < (sn : Int) := by omega
        obtain ⟨y, Hy⟩ : ∃ y, Hid (y = xs[k]) := ⟨xs[k], rfl⟩
        rw [← Hy.out] at hc
        have a0 := bP.fst.cell (j := 0) rfl
        have a1 := bP.fst.cell (j := 1) rfl
        have a2 := bP.fst.cell (j := 2) rfl
        have a3 := bP.fst.cell (j := 3) rfl
        have a4 := bP.fst.cell (j := 4) rfl
        have a5 := bP.fst.cell (j := 5) rfl
        have a6 := bP.fst.cell (j := 6) rfl
        have a7 := bP.fst.cell (j := 7) rfl
        have a8 := bP.fst.cell (j := 8) rfl
        clear bP
        go_wp2_with (first | (go_at_call 61; rw [Hy.out]; refine (HA.out k hx _ HV2.out).mono ?_; rintro e w2 ⟨rfl, hb2⟩))
        go_roundw
        case rel => exact ⟨k + 1, by omega, by go_num, below_here hb (Nat.le_refl _) hb2⟩
        case measure => simp [intOf]; omega
      · have bel := bP.below
        clear bP
        go_wp2_with fail
        go_ret
        exact ⟨rfl, bel⟩
end
end Go.Proofs.Qxb6001697a
