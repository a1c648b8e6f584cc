/-
  THE WALKS OF FnParamNumbersQuestionMarksInOrder's CALLEES (1): zzCloneStrings, zzBytes.
-/
import Derived.Test.Qxb6001671aRows
import Derived.Test.Qxb6001671aBlk
import Derived.Lib.SliceRun
import Derived.Lib.Strings
import Derived.Lib.AppendStr
namespace Go.Proofs.Qxb6001671a.prm
open Go.RowKit
set_option linter.unusedVariables false

theorem Try.info9 : (Try.prog.info? 9).map (fun i => (i.zero, i.size, i.bytes)) = some (some (.string ⟨#[]⟩), 1, 16) := by kernel_rfl
theorem Try.info5 : (Try.prog.info? 5).map (fun i => (i.zero, i.size, i.bytes)) = some (some (.int .u8 0), 1, 1) := by kernel_rfl
theorem Try.info21 : (Try.prog.info? 21).map (fun i => (i.zero, i.size, i.bytes)) = some (some (.int .i32 0), 1, 4) := by kernel_rfl
theorem Try.info48 : (Try.prog.info? 48).map (fun i => (i.zero, i.size, i.bytes)) = some (some (.agg #[.int .i64 0, .string ⟨#[]⟩, .int .i64 0]), 3, 32) := by kernel_rfl
theorem Try.info81 : (Try.prog.info? 81).map (fun i => (i.zero, i.size, i.bytes)) = some (some (.agg #[.int .i32 0, .int .i32 0, .int .u8 0, .bool false]), 4, 12) := by kernel_rfl

/-- A slice's elements, read at its address. -/
def Reads {α : Type} (f : α → Value) (w : World) (a : Addr) (xs : List α) : Prop := ∀ j (h : j < xs.length), w.cell? (a.add j) = some (f xs[j])
theorem Reads.at {α : Type} {f : α → Value} {w : World} {a : Addr} {xs : List α} (h : Reads f w a xs) {k : Nat} (hk : k < xs.length) : ∃ b off, a = ⟨b, off, none⟩ ∧ b < w.heap.size := by
  obtain ⟨b, off, spot⟩ := a
  have hspot : spot = none := by simpa [Addr.add] using World.cell?_spot (h 0 (by omega))
  have h0 := h k hk
  subst hspot
  refine ⟨b, off, rfl, ?_⟩
  rw [Addr.add_lit] at h0
  exact World.block_lt_of_cell? _ _ h0
theorem Reads.get {α : Type} {f : α → Value} {w : World} {b off : Nat} {xs : List α} (h : Reads f w ⟨b, off, none⟩ xs) {k : Nat} (hk : k < xs.length) : w.cell? ⟨b, off + k, none⟩ = some (f xs[k]) := by
  have h0 := h k hk
  rw [Addr.add_lit] at h0
  exact h0
theorem Reads.keep {α : Type} {f : α → Value} {w w' : World} {a : Addr} {xs : List α} (h : Reads f w a xs) (hb : Below w.heap.size w w') : Reads f w' a xs := by
  intro j hj
  obtain ⟨b, off, rfl, hlt⟩ := h.at hj
  have h0 := h j hj
  rw [Addr.add_lit] at h0 ⊢
  exact (hb.cell (p := ⟨b, off + j, none⟩) hlt).trans h0
/-- A slice that came in: nil, or its elements read at its address. -/
structure View {α : Type} (f : α → Value) (w : World) (ao : Option Addr) (n c : Nat) (xs : List α) : Prop where
  len : xs.length = n
  nil : ao = none → n = 0 ∧ c = 0
  cap : n ≤ c
  reads : ∀ a, ao = some a → Reads f w a xs
theorem View.keep {α : Type} {f : α → Value} {w w' : World} {ao : Option Addr} {n c : Nat} {xs : List α} (h : View f w ao n c xs) (hb : Below w.heap.size w w') : View f w' ao n c xs :=
  ⟨h.len, h.nil, h.cap, fun a ha => (h.reads a ha).keep hb⟩
/-- At an index within: where the element lies. -/
theorem View.at {α : Type} {f : α → Value} {w : World} {ao : Option Addr} {n c k : Nat} {xs : List α} (h : View f w ao n c xs) (hk : k < n) :
    ∃ (b off : Nat) (hx : k < xs.length), ao = some ⟨b, off, none⟩ ∧ w.cell? ⟨b, off + k, none⟩ = some (f xs[k]) := by
  have hx : k < xs.length := by rw [h.len]; exact hk
  cases ao with
  | none => have := (h.nil rfl).1; omega
  | some a =>
    obtain ⟨b, off, rfl, _⟩ := (h.reads a rfl).at hx
    exact ⟨b, off, hx, rfl, (h.reads _ rfl).get hx⟩

theorem cloneStrings_nil (w : World) : Calls Try.prog 31 #[.slice none 0 0] w fun e w' => e = .returned (.slice none 0 0) ∧ w' = w := by
  have q : ∀ (w : World) (a : Option Addr) (n c n' c' : Nat), (binOp .eql 38 (.slice a n c) (.slice none n' c')).run Try.prog w = .ok (.bool a.isNone) w := fun w a n c n' c' => Lib.run_eql_slice_nil w _ _ a n c n' c' Try.underlying38
  go_enter Try.func31, Try.ntmps31
  go_wp2
  go_ret
  exact ⟨rfl, rfl⟩

set_option maxRecDepth 100000 in
set_option maxHeartbeats 1000000 in
theorem cloneStrings_any (a : Addr) (c : Nat) (xs : List ByteArray) (w : World) (hn : xs.length ≤ 1048576) (hr : Reads Value.string w a xs) :
    Calls Try.prog 31 #[.slice (some a) xs.length c] w fun e w' => e = .returned (.slice (some ⟨w.heap.size, 0, none⟩) xs.length xs.length) ∧ Blk w' w.heap.size 9 (xs.map Value.string) ∧ Below w.heap.size w w' := by
  have q : ∀ (w : World) (a : Option Addr) (n c n' c' : Nat), (binOp .eql 38 (.slice a n c) (.slice none n' c')).run Try.prog w = .ok (.bool a.isNone) w := fun w a n c n' c' => Lib.run_eql_slice_nil w _ _ a n c n' c' Try.underlying38
  have hmk := fun (wx : World) => run_make_n (P := Try.prog) Try.underlying38 Try.info9 rfl xs.length (by omega) (by unfold maxLen; omega) wx
  go_enter Try.func31, Try.ntmps31
  go_wp2
  go_loopw [4] (fun i wr => ∃ k : Nat, k ≤ xs.length ∧ i = .int .i64 k ∧ Blk wr w.heap.size 9 (half Value.string (.string ⟨#[]⟩) xs k) ∧ Below w.heap.size w wr) (fun i _ => xs.length - (intOf i).toNat)
  case atStart => exact ⟨0, Nat.zero_le _, rfl, by rw [half_zero]; exact Blk.made w 9 _ _, (Below.refl _ _).alloc (Nat.le_refl _) _⟩
  case round =>
    obtain ⟨k, hk, rfl, hblk, hbel⟩ := hrel
    by_cases hlt : k < xs.length
    · obtain ⟨b, off, rfl, hbw⟩ := hr.at hlt
      have hc := hr.get hlt
      have hc' : wr.cell? ⟨b, off + k, none⟩ = some (.string xs[k]) := (hbel.cell (p := ⟨b, off + k, none⟩) hbw).trans hc
      have hd := hblk.cell (half_get Value.string (.string ⟨#[]⟩) hlt)
      have hf := hblk.free k
      have hblk' := hblk.set k (.string xs[k])
      rw [half_set Value.string (.string ⟨#[]⟩) hlt] at hblk'
      have hbel' : Below w.heap.size w (wr.setCell ⟨w.heap.size, k, none⟩ (.string xs[k])) := hbel.setCell (Nat.le_refl _) _
      have hkI : (k : Int) < (xs.length : Int) := by omega
      clear hc hblk
      go_wp2
      go_roundw
      case rel => exact ⟨k + 1, by omega, by go_num, hblk', hbel'⟩
      case measure => simp [intOf]; omega
    · go_wp2
      go_ret
      rw [half_full _ _ _ (by omega)] at hblk
      exact ⟨rfl, hblk, hbel⟩
theorem cloneStrings_view (oo : Option Addr) (n c : Nat) (xs : List ByteArray) (w : World) (hn : n ≤ 1048576) (hv : View Value.string w oo n c xs) :
    Calls Try.prog 31 #[.slice oo n c] w fun e w' => ∃ oo' c' g, e = .returned (.slice oo' n c') ∧ n ≤ c' ∧ (0 < n → oo' = some ⟨g, 0, none⟩ ∧ Blk w' g 9 (xs.map Value.string)) ∧ Below w.heap.size w w' := by
  obtain ⟨rfl, h2, h3, h4⟩ := hv
  cases oo with
  | none =>
    obtain ⟨e1, e2⟩ := h2 rfl
    rw [e1, e2]
    exact (cloneStrings_nil w).mono fun e w' ⟨he, hw⟩ => ⟨none, 0, 0, he, Nat.le_refl _, fun h => absurd h (by omega), by rw [hw]; exact Below.refl _ _⟩
  | some a => exact (cloneStrings_any a c xs w hn (h4 a rfl)).mono fun e w' ⟨he, hb, hw⟩ => ⟨_, _, _, he, Nat.le_refl _, fun _ => ⟨rfl, hb⟩, hw⟩

/-- Some bool or other is handed back. -/
def SomeBool (e : Ending) : Prop := ∃ b, e = .returned (.bool b)
theorem SomeBool.mk (b : Bool) : SomeBool (.returned (.bool b)) := ⟨b, rfl⟩

set_option maxRecDepth 100000 in
set_option maxHeartbeats 1000000 in
theorem bytes_any (ao bo : Option Addr) (n m c d : Nat) (ps vs : List ByteArray) (w : World) (hn : n ≤ maxLen) (hm : m ≤ maxLen) (vP : View Value.string w ao n c ps) (vV : View Value.string w bo m d vs) (hps : ∀ s ∈ ps, s.size ≤ maxLen) (hvs : ∀ s ∈ vs, s.size ≤ maxLen) :
    Calls Try.prog 30 #[.slice ao n c, .slice bo m d] w fun e w' => SomeBool e ∧ w = w' := by
  unfold maxLen at hn hm
  have HP : Hid _ := vP
  have HV : Hid _ := vV
  have Hps : Hid _ := hps
  have Hvs : Hid _ := hvs
  clear vP vV hps hvs
  by_cases h1 : (1048576 : Int) < n
  · go_enter Try.func30, Try.ntmps30
    go_wp2
    go_ret
    exact ⟨SomeBool.mk _, rfl⟩
  have d1 : decide ((1048576 : Int) < n) = false := by simp; omega
  go_enter Try.func30, Try.ntmps30
  go_wp2
  go_loop [5, 6] (fun z i => ∃ (k : Nat) (y : Int), k ≤ n ∧ i = .int .i64 k ∧ z = .int .i64 y ∧ 0 ≤ y ∧ y ≤ 1048576) (fun _ i => n - (intOf i).toNat)
  case atStart => exact ⟨0, _, Nat.zero_le _, rfl, rfl, by omega, by omega⟩
  case round =>
    obtain ⟨k, y, hk, rfl, rfl, hy0, hy1⟩ := hrel
    by_cases hlt : k < n
    · obtain ⟨b, off, hx, rfl, hc⟩ := HP.out.at hlt
      have hkI : (k : Int) < (n : Int) := by omega
      by_cases l1 : (1048576 : Int) < ps[k].size
      · go_wp2
        go_ret
        exact ⟨SomeBool.mk _, rfl⟩
      · by_cases l2 : (1048576 : Int) < y + ps[k].size
        · go_wp2
          go_ret
          exact ⟨SomeBool.mk _, rfl⟩
        · go_wp2
          go_round
          case rel => exact ⟨k + 1, _, by omega, by go_num, rfl, by omega, by omega⟩
          case measure => simp [intOf]; omega
    · by_cases h2 : (1048576 : Int) < m
      · go_wp2
        go_ret
        exact ⟨SomeBool.mk _, rfl⟩
      · by_cases h3 : (1048576 : Int) < y + m
        · go_wp2
          go_ret
          exact ⟨SomeBool.mk _, rfl⟩
        · have d2 : decide ((1048576 : Int) < m) = false := by simp; omega
          have d3 : decide ((1048576 : Int) < y + m) = false := by simp; omega
          go_wp2
          go_loop [5, 7] (fun z i => ∃ (k : Nat) (y : Int), k ≤ m ∧ i = .int .i64 k ∧ z = .int .i64 y ∧ 0 ≤ y ∧ y ≤ 1048576) (fun _ i => m - (intOf i).toNat)
          case atStart => exact ⟨0, _, Nat.zero_le _, rfl, rfl, by omega, by omega⟩
          case round =>
            obtain ⟨k2, y2, hk2, rfl, rfl, hz0, hz1⟩ := hrel
            by_cases hlt2 : k2 < m
            · obtain ⟨b2, off2, hx2, rfl, hc2⟩ := HV.out.at hlt2
              have hkI2 : (k2 : Int) < (m : Int) := by omega
              by_cases l1 : (1048576 : Int) < vs[k2].size
              · go_wp2
                go_ret
                exact ⟨SomeBool.mk _, rfl⟩
              · by_cases l2 : (1048576 : Int) < y2 + vs[k2].size
                · go_wp2
                  go_ret
                  exact ⟨SomeBool.mk _, rfl⟩
                · go_wp2
                  go_round
                  case rel => exact ⟨k2 + 1, _, by omega, by go_num, rfl, by omega, by omega⟩
                  case measure => simp [intOf]; omega
            · go_wp2
              go_ret
              exact ⟨SomeBool.mk _, rfl⟩
end Go.Proofs.Qxb6001671a.prm
