/-
  THE WALKS OF FnEqualIsReflexive's CALLEES (11): the guards: zzStringsBytes, zzLeafBytes, zzLeavesBytes, zzLeavesSmall: some number, some bool.
-/
import Derived.Test.Qxb6001697aF4
namespace Go.Proofs.Qxb6001697a
open Go.RowKit
set_option linter.unusedVariables false

/-- Some int or other is handed back. -/
def SomeInt (e : Ending) : Prop := ∃ z : Int, e = .returned (.int .i64 z)
theorem SomeInt.mk (z : Int) : SomeInt (.returned (.int .i64 z)) := ⟨z, rfl⟩
/-- Some bool or other is handed back. -/
def SomeBool (e : Ending) : Prop := ∃ b, e = .returned (.bool b)
theorem SomeBool.mk (b : Bool) : SomeBool (.returned (.bool b)) := ⟨b, rfl⟩

set_option maxRecDepth 100000 in
set_option maxHeartbeats 1000000 in
theorem stringsBytes_any (ao : Option Addr) (n c : Nat) (xs : List ByteArray) (w : World) (hn : n ≤ maxLen) (hv : View Value.string w ao n c xs) :
    Calls Try.prog 24 #[.slice ao n c] w fun e w' => SomeInt e ∧ w = w' := by
  unfold maxLen at hn
  have HV := hid hv
  clear hv
  go_enter Try.func24, Try.ntmps24
  go_wp2
  go_loop [3, 4] (fun z i => ∃ (k : Nat) (y : Int), k ≤ n ∧ i = .int .i64 k ∧ z = .int .i64 y) (fun _ i => n - (intOf i).toNat)
  case atStart => exact ⟨0, _, Nat.zero_le _, rfl, rfl⟩
  case round =>
    obtain ⟨k, y, hk, rfl, rfl⟩ := hrel
    by_cases hlt : k < n
    · obtain ⟨b, off, hx, rfl, hc⟩ := HV.out.at hlt
      have hkI : (k : Int) < (n : Int) := by omega
      go_wp2
      go_round
      case rel => exact ⟨k + 1, _, by omega, by go_num, rfl⟩
      case measure => simp [intOf]; omega
    · go_wp2
      go_ret
      exact ⟨SomeInt.mk _, rfl⟩
set_option maxRecDepth 100000 in
set_option maxHeartbeats 1000000 in
theorem leafBytes_any (l : Lf) (w : World) (h : l.Ok w) : Calls Try.prog 33 #[l.val] w fun e w' => SomeInt e ∧ Below w.heap.size w w' := by
  unfold Lf.val
  have HO := hid h
  clear h
  go_enter Try.func33, Try.ntmps33
  go_wp2_with fail
  obtain ⟨W, HW⟩ : ∃ W, Hid (W = w.alloc (.cells #[.int .i64 l.typ, .string l.s, .bool l.neg, .string l.d, .int .i64 l.ex, .bool l.b, .slice l.so l.sn l.sc] 59)) := ⟨_, rfl⟩
  have bel : Below w.heap.size w W := by rw [HW.out]; exact (Below.refl _ _).alloc (Nat.le_refl _) _
  have x1 : Blk W w.heap.size 59 [.int .i64 l.typ, .string l.s, .bool l.neg, .string l.d, .int .i64 l.ex, .bool l.b, .slice l.so l.sn l.sc] := by rw [HW.out]; exact Blk.new w 59 _
  rw [← HW.out]
  clear HW
  have a1 := x1.cell (j := 1) rfl
  have a3 := x1.cell (j := 3) rfl
  have a6 := x1.cell (j := 6) rfl
  have HO2 := hid (HO.out.keep bel)
  have HB := hid bel
  clear x1 HO bel
  go_region_held3 (fun w' => w'.cell? ⟨w.heap.size, 1, none⟩ = some (.string l.s) ∧ w'.cell? ⟨w.heap.size, 3, none⟩ = some (.string l.d) ∧ w'.cell? ⟨w.heap.size, 6, none⟩ = some (.slice l.so l.sn l.sc)) (go_keep)
    (first | (go_at_call 24; refine (stringsBytes_any _ _ _ l.xs W.drew HO2.out.n1 (HO2.out.view.keep (Below.refl _ _).drew)).mono ?_; rintro e w2 ⟨⟨z, rfl⟩, hw⟩; obtain rfl := hw.symm))
  go_wp2_with fail
  go_ret
  exact ⟨SomeInt.mk _, HB.out.drew⟩
set_option maxRecDepth 100000 in
set_option maxHeartbeats 1000000 in
theorem leavesBytes_any (ao : Option Addr) (n c m : Nat) (w : World) (hn : n ≤ maxLen) (hin : InLeaves w ao n m) :
    Calls Try.prog 34 #[.slice ao n c] w fun e w' => SomeInt e ∧ Below w.heap.size w w' := by
  unfold maxLen at hn
  have HI := hid hin
  clear hin
  go_enter Try.func34, Try.ntmps34
  go_wp2_with fail
  go_loopw [3, 4] (fun z i wr => ∃ (k : Nat) (y : Int), k ≤ n ∧ i = .int .i64 k ∧ z = .int .i64 y ∧ Below w.heap.size w wr) (fun _ i _ => n - (intOf i).toNat)
  case atStart => exact ⟨0, _, Nat.zero_le _, rfl, rfl, Below.refl _ _⟩
  case round =>
    obtain ⟨k, y, hk, rfl, rfl, hb⟩ := hrel
    have HB := hid hb
    clear hb
    by_cases hlt : k < n
    · obtain ⟨b, off, l, rfl, hL, hO, -⟩ := HI.out.keep HB.out k hlt
      have hkI : (k : Int) < (n : Int) := by omega
      have c0 := hL.c0
      have c1 := hL.c1
      have c2 := hL.c2
      have c3 := hL.c3
      have c4 := hL.c4
      have c5 := hL.c5
      have c6 := hL.c6
      have HO := hid hO
      clear hL hO
      go_wp2_with fail
      refine (leafBytes_any l _ HO.out).mono ?_
      rintro e w2 ⟨⟨z, rfl⟩, hb2⟩
      have HB2 := hid (below_here HB.out (Nat.le_refl _) hb2)
      clear hb2 c0 c1 c2 c3 c4 c5 c6
      go_wp2_with fail
      go_roundw
      case rel => exact ⟨k + 1, _, by omega, by go_num, rfl, HB2.out⟩
      case measure => simp [intOf]; omega
    · go_wp2_with fail
      go_ret
      exact ⟨SomeInt.mk _, HB.out⟩
/-- What zzLeavesSmall answers: where true, every set is short. -/
def SmallBool (w : World) (ao : Option Addr) (n : Nat) (e : Ending) : Prop := ∃ b, e = .returned (.bool b) ∧ (b = true → InLeaves w ao n 64)
set_option maxRecDepth 100000 in
set_option maxHeartbeats 1000000 in
theorem leavesSmall_any (ao : Option Addr) (n c m : Nat) (w0 w : World) (hn : n ≤ maxLen) (hin : InLeaves w0 ao n m) (hb0 : Below w0.heap.size w0 w) :
    Calls Try.prog 35 #[.slice ao n c] w fun e w' => SmallBool w0 ao n e ∧ w = w' := by
  unfold maxLen at hn
  have HI := hid hin
  have HB0 := hid hb0
  clear hin hb0
  go_enter Try.func35, Try.ntmps35
  go_wp2_with fail
  go_loop [3] (fun i => ∃ (k : Nat), k ≤ n ∧ i = .int .i64 k ∧ Hid (InLeaves w0 ao k 64)) (fun i => n - (intOf i).toNat)
  case atStart => exact ⟨0, Nat.zero_le _, rfl, fun k hk => absurd hk (by omega)⟩
  case round =>
    obtain ⟨k, hk, rfl, HS⟩ := hrel
    by_cases hlt : k < n
    · obtain ⟨b, off, l, rfl, hL, hO, -⟩ := HI.out k hlt
      have hkI : (k : Int) < (n : Int) := by omega
      have c6 := (hL.keep HB0.out).c6
      have hs := hO.n1
      unfold maxLen at hs
      have HO := hid hO
      have HLL := hid hL
      clear hL hO
      by_cases h64 : (64 : Int) < l.sn
      · go_wp2_with fail
        go_ret
        exact ⟨⟨false, rfl, fun h => by cases h⟩, rfl⟩
      · have HS' : Hid (InLeaves w0 (some ⟨b, off, none⟩) (k + 1) 64) := fun j hj => by
          by_cases e : j = k
          · subst e; exact ⟨b, off, l, rfl, HLL.out, HO.out, by omega⟩
          · exact HS.out j (by omega)
        clear HS
        go_wp2_with fail
        go_round
        case rel => exact ⟨k + 1, by omega, by go_num, HS'⟩
        case measure => simp [intOf]; omega
    · have ek : k = n := by omega
      subst ek
      go_wp2_with fail
      go_ret
      exact ⟨⟨true, rfl, fun _ => HS.out⟩, rfl⟩
end Go.Proofs.Qxb6001697a
