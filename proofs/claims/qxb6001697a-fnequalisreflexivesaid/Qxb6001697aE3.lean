/-
  THE WALKS OF FnEqualIsReflexive's CALLEES (3): 'equal' at a list against itself, its elements being so.
-/
import Derived.Test.Qxb6001697aE2
namespace Go.Proofs.Qxb6001697a
open Go.RowKit
set_option linter.unusedVariables false

/-- A list's elements: nine cells each, each equal to itself from w on. -/
def ListOk (w : World) (lo : Option Addr) (n : Nat) : Prop := ∀ k, k < n → ∃ g a0 a1 a2 a3 a4 a5 a6 a7 a8, lo = some ⟨g, 0, none⟩ ∧ g < w.heap.size ∧
  w.cell? ⟨g, k * 9, none⟩ = some a0 ∧ w.cell? ⟨g, k * 9 + 1, none⟩ = some a1 ∧ w.cell? ⟨g, k * 9 + 2, none⟩ = some a2 ∧ w.cell? ⟨g, k * 9 + 3, none⟩ = some a3 ∧ w.cell? ⟨g, k * 9 + 4, none⟩ = some a4 ∧
  w.cell? ⟨g, k * 9 + 5, none⟩ = some a5 ∧ w.cell? ⟨g, k * 9 + 6, none⟩ = some a6 ∧ w.cell? ⟨g, k * 9 + 7, none⟩ = some a7 ∧ w.cell? ⟨g, k * 9 + 8, none⟩ = some a8 ∧ EqSelf w (.agg #[a0, a1, a2, a3, a4, a5, a6, a7, a8])
theorem ListOk.keep {w w' : World} {lo : Option Addr} {n : Nat} (h : ListOk w lo n) (hb : Below w.heap.size w w') : ListOk w' lo n := by
  intro k hk
  obtain ⟨g, a0, a1, a2, a3, a4, a5, a6, a7, a8, e, lt, c0, c1, c2, c3, c4, c5, c6, c7, c8, q⟩ := h k hk
  have c := fun (i : Nat) (v : Value) (hc : w.cell? ⟨g, i, none⟩ = some v) => (hb.cell (p := ⟨g, i, none⟩) lt).trans hc
  exact ⟨g, a0, a1, a2, a3, a4, a5, a6, a7, a8, e, Nat.lt_of_lt_of_le lt hb.size, c _ _ c0, c _ _ c1, c _ _ c2, c _ _ c3, c _ _ c4, c _ _ c5, c _ _ c6, c _ _ c7, c _ _ c8, q.keep hb⟩

section
variable (s : ByteArray) (neg : Bool) (d : ByteArray) (ex : Int) (b : Bool) (so : Option Addr) (sn sc : Nat) (mo : Option Nat) (lo : Option Addr) (ln lc : Nat) (w : World)
set_option maxRecDepth 100000 in
set_option maxHeartbeats 2000000 in
theorem equal_list (hn : ln ≤ 64) (hl : ListOk w lo ln) :
    Calls Try.prog 53 #[.agg (attrC 9 s neg d ex b so sn sc mo lo ln lc).toArray, .agg (attrC 9 s neg d ex b so sn sc mo lo ln lc).toArray] w fun e w' => e = .returned (.bool true) ∧ Below w.heap.size w w' := by
  have HL : Hid (ListOk w lo ln) := hl
  clear hl
  have bP0 := Pair.new w (attrC 9 s neg d ex b so sn sc mo lo ln lc).toArray (attrC 9 s neg d ex b so sn sc mo lo ln lc).toArray 47
  obtain ⟨W, HW⟩ : ∃ W, Hid (W = (w.alloc (.cells (attrC 9 s neg d ex b so sn sc mo lo ln lc).toArray 47)).alloc (.cells (attrC 9 s neg d ex b so sn sc mo lo ln lc).toArray 47)) := ⟨_, rfl⟩
  rw [← HW.out] at bP0
  unfold attrC at *
  have HP : Hid _ := bP0
  clear bP0
  go_enter Try.func53, Try.ntmps53
  go_wp2_with fail
  rw [← HW.out]
  clear HW
  go_loopw [103] (fun v wr => ∃ k : Nat, k ≤ ln ∧ v = .int .i64 k ∧ Below W.heap.size W wr) (fun v _ => ln - (intOf v).toNat)
  case atStart => exact ⟨0, Nat.zero_le _, rfl, Below.refl _ _⟩
  case round =>
    obtain ⟨k, hk, rfl, hb⟩ := hrel
    have bP := HP.out.keep hb
    by_cases hlt : k < ln
    · obtain ⟨g, a0, a1, a2, a3, a4, a5, a6, a7, a8, rfl, lt, c0, c1, c2, c3, c4, c5, c6, c7, c8, q⟩ := ListOk.keep HL.out bP.below k hlt
      have HQ : Hid (EqSelf wr (.agg #[a0, a1, a2, a3, a4, a5, a6, a7, a8])) := q
      have hkI : (k : Int) < (ln : Int) := by omega
      have p8 := bP.fst.cell (j := 8) rfl
      have q8 := bP.snd.cell (j := 8) rfl
      have HB : Hid _ := hb
      have HX : Hid _ := bP
      have HT : Hid (g < wr.heap.size) := lt
      clear bP q hb lt
      go_wp2_with fail
      go_region_held3 (fun w' => w'.cell? ⟨w.heap.size, 8, none⟩ = some (.slice (some ⟨g, 0, none⟩) ln lc) ∧ w'.cell? ⟨w.heap.size + 1, 8, none⟩ = some (.slice (some ⟨g, 0, none⟩) ln lc) ∧
          w'.cell? ⟨g, k * 9, none⟩ = some a0 ∧ w'.cell? ⟨g, k * 9 + 1, none⟩ = some a1 ∧ w'.cell? ⟨g, k * 9 + 2, none⟩ = some a2 ∧ w'.cell? ⟨g, k * 9 + 3, none⟩ = some a3 ∧ w'.cell? ⟨g, k * 9 + 4, none⟩ = some a4 ∧
          w'.cell? ⟨g, k * 9 + 5, none⟩ = some a5 ∧ w'.cell? ⟨g, k * 9 + 6, none⟩ = some a6 ∧ w'.cell? ⟨g, k * 9 + 7, none⟩ = some a7 ∧ w'.cell? ⟨g, k * 9 + 8, none⟩ = some a8) (go_keep)
        (first | (go_at_call 53; refine (HQ.out wr.drew (Below.refl _ _).drew).mono ?_; rintro e w2 ⟨rfl, hb2⟩
                  have hb3 : Below wr.heap.size wr w2 := ⟨hb2.os, hb2.tape, hb2.output, hb2.size, hb2.block⟩
                  have kX := HX.out.keep hb3
                  have p8 := kX.fst.cell (j := 8) rfl
                  have q8 := kX.snd.cell (j := 8) rfl
                  have c0 := (hb3.cell (p := ⟨g, k * 9, none⟩) HT.out).trans c0
                  have c1 := (hb3.cell (p := ⟨g, k * 9 + 1, none⟩) HT.out).trans c1
                  have c2 := (hb3.cell (p := ⟨g, k * 9 + 2, none⟩) HT.out).trans c2
                  have c3 := (hb3.cell (p := ⟨g, k * 9 + 3, none⟩) HT.out).trans c3
                  have c4 := (hb3.cell (p := ⟨g, k * 9 + 4, none⟩) HT.out).trans c4
                  have c5 := (hb3.cell (p := ⟨g, k * 9 + 5, none⟩) HT.out).trans c5
                  have c6 := (hb3.cell (p := ⟨g, k * 9 + 6, none⟩) HT.out).trans c6
                  have c7 := (hb3.cell (p := ⟨g, k * 9 + 7, none⟩) HT.out).trans c7
                  have c8 := (hb3.cell (p := ⟨g, k * 9 + 8, none⟩) HT.out).trans c8
                  have HB3 : Hid _ := hb3
                  clear hb2 hb3 kX))
      go_wp2_with fail
      go_roundw
      case rel => exact ⟨k + 1, by omega, by go_num, below_here HB.out (Nat.le_refl _) HB3.out⟩
      case measure => simp [intOf]; omega
    · have bel := bP.below
      clear bP
      go_wp2_with fail
      go_ret
      exact ⟨rfl, bel⟩
end
end Go.Proofs.Qxb6001697a
