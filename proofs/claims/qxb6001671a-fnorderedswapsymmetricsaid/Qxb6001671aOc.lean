/-
  THE WALKS OF FnOrderedSwapSymmetric's CALLEES (1): cloneI8, cloneBool, zzFromStates: a slice read, a new one filled.
-/
import Derived.Test.Qxb6001671aRows
import Derived.Test.Qxb6001671aBlk
import Derived.Lib.SliceRun
namespace Go.Proofs.Qxb6001671a.ord
open Go.RowKit
set_option linter.unusedVariables false

theorem Try.info53 : (Try.prog.info? 53).map (fun i => (i.zero, i.size, i.bytes)) = some (some (.int .i8 0), 1, 1) := by kernel_rfl
theorem Try.info4 : (Try.prog.info? 4).map (fun i => (i.zero, i.size, i.bytes)) = some (some (.bool false), 1, 1) := by kernel_rfl
theorem Try.info5 : (Try.prog.info? 5).map (fun i => (i.zero, i.size, i.bytes)) = some (some (.int .u8 0), 1, 1) := by kernel_rfl
theorem Try.info2 : (Try.prog.info? 2).map (fun i => (i.zero, i.size, i.bytes)) = some (some (.int .i64 0), 1, 8) := by kernel_rfl
theorem Try.info91 : (Try.prog.info? 91).map (fun i => (i.zero, i.size, i.bytes)) = some (some (.int .u8 0), 1, 1) := by kernel_rfl

/-- A slice's elements, read at its address. -/
def Reads {α : Type} (f : α → Value) (w : World) (a : Addr) (xs : List α) : Prop := ∀ j (h : j < xs.length), w.cell? (a.add j) = some (f xs[j])
theorem Reads.at {α : Type} {f : α → Value} {w : World} {a : Addr} {xs : List α} (h : Reads f w a xs) {k : Nat} (hk : k < xs.length) : ∃ b off, a = ⟨b, off, none⟩ ∧ b < w.heap.size := by
  obtain ⟨b, off, spot⟩ := a
  have hspot : spot = none := by simpa [Addr.add] using World.cell?_spot (h 0 (by omega))
  have h0 := h k hk
  subst hspot
  refine ⟨b, off, rfl, ?_⟩
  rw [Addr.add_lit] at h0
  exact World.block_lt_of_cell? _ _ h0
theorem Reads.get {α : Type} {f : α → Value} {w : World} {b off : Nat} {xs : List α} (h : Reads f w ⟨b, off, none⟩ xs) {k : Nat} (hk : k < xs.length) : w.cell? ⟨b, off + k, none⟩ = some (f xs[k]) := by
  have h0 := h k hk
  rw [Addr.add_lit] at h0
  exact h0

theorem cloneI8_nil (w : World) : Calls Try.prog 47 #[.slice none 0 0] w fun e w' => e = .returned (.slice none 0 0) ∧ w' = w := by
  have q64 : ∀ (w : World) (a : Option Addr) (n c n' c' : Nat), (binOp .eql 64 (.slice a n c) (.slice none n' c')).run Try.prog w = .ok (.bool a.isNone) w := fun w a n c n' c' => Lib.run_eql_slice_nil w _ _ a n c n' c' Try.underlying64
  go_enter Try.func47, Try.ntmps47
  go_wp2
  go_ret
  exact ⟨rfl, rfl⟩

set_option maxRecDepth 100000 in
set_option maxHeartbeats 1000000 in
theorem cloneI8_any (a : Addr) (c : Nat) (xs : List Int) (w : World) (hn : xs.length ≤ 1048576) (hr : Reads (Value.int .i8) w a xs) :
    Calls Try.prog 47 #[.slice (some a) xs.length c] w fun e w' => e = .returned (.slice (some ⟨w.heap.size, 0, none⟩) xs.length xs.length) ∧ Blk w' w.heap.size 53 (xs.map (Value.int .i8)) ∧ Below w.heap.size w w' := by
  have q64 : ∀ (w : World) (a : Option Addr) (n c n' c' : Nat), (binOp .eql 64 (.slice a n c) (.slice none n' c')).run Try.prog w = .ok (.bool a.isNone) w := fun w a n c n' c' => Lib.run_eql_slice_nil w _ _ a n c n' c' Try.underlying64
  have hmk := fun (wx : World) => run_make_n (P := Try.prog) Try.underlying64 Try.info53 rfl xs.length (by omega) (by unfold maxLen; omega) wx
  go_enter Try.func47, Try.ntmps47
  go_wp2
  go_loopw [12] (fun i wr => ∃ k : Nat, k ≤ xs.length ∧ i = .int .i64 k ∧ Blk wr w.heap.size 53 (half (Value.int .i8) (.int .i8 0) xs k) ∧ Below w.heap.size w wr) (fun i _ => xs.length - (intOf i).toNat)
  case atStart => exact ⟨0, Nat.zero_le _, rfl, by rw [half_zero]; exact Blk.made w 53 _ _, (Below.refl _ _).alloc (Nat.le_refl _) _⟩
  case round =>
    obtain ⟨k, hk, rfl, hblk, hbel⟩ := hrel
    by_cases hlt : k < xs.length
    · obtain ⟨b, off, rfl, hbw⟩ := hr.at hlt
      have hc := hr.get hlt
      have hc' : wr.cell? ⟨b, off + k, none⟩ = some (.int .i8 xs[k]) := (hbel.cell (p := ⟨b, off + k, none⟩) hbw).trans hc
      have hd := hblk.cell (half_get (Value.int .i8) (.int .i8 0) hlt)
      have hf := hblk.free k
      have hblk' := hblk.set k (.int .i8 xs[k])
      rw [half_set (Value.int .i8) (.int .i8 0) hlt] at hblk'
      have hbel' : Below w.heap.size w (wr.setCell ⟨w.heap.size, k, none⟩ (.int .i8 xs[k])) := hbel.setCell (Nat.le_refl _) _
      have hkI : (k : Int) < (xs.length : Int) := by omega
      clear hc hblk
      go_wp2
      go_roundw
      case rel => exact ⟨k + 1, by omega, by go_num, hblk', hbel'⟩
      case measure => simp [intOf]; omega
    · go_wp2
      go_ret
      rw [half_full _ _ _ (by omega)] at hblk
      exact ⟨rfl, hblk, hbel⟩
theorem cloneBool_nil (w : World) : Calls Try.prog 48 #[.slice none 0 0] w fun e w' => e = .returned (.slice none 0 0) ∧ w' = w := by
  have q65 : ∀ (w : World) (a : Option Addr) (n c n' c' : Nat), (binOp .eql 65 (.slice a n c) (.slice none n' c')).run Try.prog w = .ok (.bool a.isNone) w := fun w a n c n' c' => Lib.run_eql_slice_nil w _ _ a n c n' c' Try.underlying65
  go_enter Try.func48, Try.ntmps48
  go_wp2
  go_ret
  exact ⟨rfl, rfl⟩

set_option maxRecDepth 100000 in
set_option maxHeartbeats 1000000 in
theorem cloneBool_any (a : Addr) (c : Nat) (xs : List Bool) (w : World) (hn : xs.length ≤ 1048576) (hr : Reads Value.bool w a xs) :
    Calls Try.prog 48 #[.slice (some a) xs.length c] w fun e w' => e = .returned (.slice (some ⟨w.heap.size, 0, none⟩) xs.length xs.length) ∧ Blk w' w.heap.size 4 (xs.map Value.bool) ∧ Below w.heap.size w w' := by
  have q65 : ∀ (w : World) (a : Option Addr) (n c n' c' : Nat), (binOp .eql 65 (.slice a n c) (.slice none n' c')).run Try.prog w = .ok (.bool a.isNone) w := fun w a n c n' c' => Lib.run_eql_slice_nil w _ _ a n c n' c' Try.underlying65
  have hmk := fun (wx : World) => run_make_n (P := Try.prog) Try.underlying65 Try.info4 rfl xs.length (by omega) (by unfold maxLen; omega) wx
  go_enter Try.func48, Try.ntmps48
  go_wp2
  go_loopw [12] (fun i wr => ∃ k : Nat, k ≤ xs.length ∧ i = .int .i64 k ∧ Blk wr w.heap.size 4 (half Value.bool (.bool false) xs k) ∧ Below w.heap.size w wr) (fun i _ => xs.length - (intOf i).toNat)
  case atStart => exact ⟨0, Nat.zero_le _, rfl, by rw [half_zero]; exact Blk.made w 4 _ _, (Below.refl _ _).alloc (Nat.le_refl _) _⟩
  case round =>
    obtain ⟨k, hk, rfl, hblk, hbel⟩ := hrel
    by_cases hlt : k < xs.length
    · obtain ⟨b, off, rfl, hbw⟩ := hr.at hlt
      have hc := hr.get hlt
      have hc' : wr.cell? ⟨b, off + k, none⟩ = some (.bool xs[k]) := (hbel.cell (p := ⟨b, off + k, none⟩) hbw).trans hc
      have hd := hblk.cell (half_get Value.bool (.bool false) hlt)
      have hf := hblk.free k
      have hblk' := hblk.set k (.bool xs[k])
      rw [half_set Value.bool (.bool false) hlt] at hblk'
      have hbel' : Below w.heap.size w (wr.setCell ⟨w.heap.size, k, none⟩ (.bool xs[k])) := hbel.setCell (Nat.le_refl _) _
      have hkI : (k : Int) < (xs.length : Int) := by omega
      clear hc hblk
      go_wp2
      go_roundw
      case rel => exact ⟨k + 1, by omega, by go_num, hblk', hbel'⟩
      case measure => simp [intOf]; omega
    · go_wp2
      go_ret
      rw [half_full _ _ _ (by omega)] at hblk
      exact ⟨rfl, hblk, hbel⟩
set_option maxRecDepth 100000 in
set_option maxHeartbeats 1000000 in
theorem fromStates_any (a : Addr) (c : Nat) (xs : List Int) (w : World) (hn : xs.length ≤ 1048576) (hr : Reads (Value.int .u8) w a xs) :
    Calls Try.prog 65 #[.slice (some a) xs.length c] w fun e w' => e = .returned (.slice (some ⟨w.heap.size, 0, none⟩) xs.length xs.length) ∧ Blk w' w.heap.size 5 (xs.map (Value.int .u8)) ∧ Below w.heap.size w w' := by
  have q96 : ∀ (w : World) (a : Option Addr) (n c n' c' : Nat), (binOp .eql 96 (.slice a n c) (.slice none n' c')).run Try.prog w = .ok (.bool a.isNone) w := fun w a n c n' c' => Lib.run_eql_slice_nil w _ _ a n c n' c' Try.underlying96
  have hmk := fun (wx : World) => run_make_n (P := Try.prog) Try.underlying27 Try.info5 rfl xs.length (by omega) (by unfold maxLen; omega) wx
  go_enter Try.func65, Try.ntmps65
  go_wp2
  go_loopw [12] (fun i wr => ∃ k : Nat, k ≤ xs.length ∧ i = .int .i64 k ∧ Blk wr w.heap.size 5 (half (Value.int .u8) (.int .u8 0) xs k) ∧ Below w.heap.size w wr) (fun i _ => xs.length - (intOf i).toNat)
  case atStart => exact ⟨0, Nat.zero_le _, rfl, by rw [half_zero]; exact Blk.made w 5 _ _, (Below.refl _ _).alloc (Nat.le_refl _) _⟩
  case round =>
    obtain ⟨k, hk, rfl, hblk, hbel⟩ := hrel
    by_cases hlt : k < xs.length
    · obtain ⟨b, off, rfl, hbw⟩ := hr.at hlt
      have hc := hr.get hlt
      have hc' : wr.cell? ⟨b, off + k, none⟩ = some (.int .u8 xs[k]) := (hbel.cell (p := ⟨b, off + k, none⟩) hbw).trans hc
      have hd := hblk.cell (half_get (Value.int .u8) (.int .u8 0) hlt)
      have hf := hblk.free k
      have hblk' := hblk.set k (.int .u8 xs[k])
      rw [half_set (Value.int .u8) (.int .u8 0) hlt] at hblk'
      have hbel' : Below w.heap.size w (wr.setCell ⟨w.heap.size, k, none⟩ (.int .u8 xs[k])) := hbel.setCell (Nat.le_refl _) _
      have hkI : (k : Int) < (xs.length : Int) := by omega
      clear hc hblk
      go_wp2
      go_roundw
      case rel => exact ⟨k + 1, by omega, by go_num, hblk', hbel'⟩
      case measure => simp [intOf]; omega
    · go_wp2
      go_ret
      rw [half_full _ _ _ (by omega)] at hblk
      exact ⟨rfl, hblk, hbel⟩
end Go.Proofs.Qxb6001671a.ord
