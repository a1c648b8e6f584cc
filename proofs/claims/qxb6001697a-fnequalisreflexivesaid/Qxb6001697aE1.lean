/-
  THE WALKS OF FnEqualIsReflexive's CALLEES (1): cmp.Compare, strings.Compare, sign, compare, hasElement: each at a value against itself.
-/
import Derived.Test.Qxb6001697aRows
import Derived.Test.Qxb6001697aBlk
import Derived.Lib.SliceRun
import Derived.Lib.Strings
import Derived.Lib.Bytealg
import Derived.Shelf.Small.Strs
import Derived.Deep.RegionHeld3
namespace Go.Proofs.Qxb6001697a
open Go.RowKit
set_option linter.unusedVariables false

/-- A slice's elements, read at its address. -/
def Reads {α : Type} (f : α → Value) (w : World) (a : Addr) (xs : List α) : Prop := ∀ j (h : j < xs.length), w.cell? (a.add j) = some (f xs[j])
theorem Reads.at {α : Type} {f : α → Value} {w : World} {a : Addr} {xs : List α} (h : Reads f w a xs) {k : Nat} (hk : k < xs.length) : ∃ b off, a = ⟨b, off, none⟩ ∧ b < w.heap.size := by
  obtain ⟨b, off, spot⟩ := a
  have hspot : spot = none := by simpa [Addr.add] using World.cell?_spot (h 0 (by omega))
  have h0 := h k hk
  subst hspot
  refine ⟨b, off, rfl, ?_⟩
  rw [Addr.add_lit] at h0
  exact World.block_lt_of_cell? _ _ h0
theorem Reads.get {α : Type} {f : α → Value} {w : World} {b off : Nat} {xs : List α} (h : Reads f w ⟨b, off, none⟩ xs) {k : Nat} (hk : k < xs.length) : w.cell? ⟨b, off + k, none⟩ = some (f xs[k]) := by
  have h0 := h k hk
  rw [Addr.add_lit] at h0
  exact h0
theorem Reads.keep {α : Type} {f : α → Value} {w w' : World} {a : Addr} {xs : List α} (h : Reads f w a xs) (hb : Below w.heap.size w w') : Reads f w' a xs := by
  intro j hj
  obtain ⟨b, off, rfl, hlt⟩ := h.at hj
  have h0 := h j hj
  rw [Addr.add_lit] at h0 ⊢
  exact (hb.cell (p := ⟨b, off + j, none⟩) hlt).trans h0
/-- A slice that came in: nil, or its elements read at its address. -/
structure View {α : Type} (f : α → Value) (w : World) (ao : Option Addr) (n c : Nat) (xs : List α) : Prop where
  len : xs.length = n
  nil : ao = none → n = 0 ∧ c = 0
  cap : n ≤ c
  reads : ∀ a, ao = some a → Reads f w a xs
theorem View.keep {α : Type} {f : α → Value} {w w' : World} {ao : Option Addr} {n c : Nat} {xs : List α} (h : View f w ao n c xs) (hb : Below w.heap.size w w') : View f w' ao n c xs :=
  ⟨h.len, h.nil, h.cap, fun a ha => (h.reads a ha).keep hb⟩
/-- At an index within: where the element lies. -/
theorem View.at {α : Type} {f : α → Value} {w : World} {ao : Option Addr} {n c k : Nat} {xs : List α} (h : View f w ao n c xs) (hk : k < n) :
    ∃ (b off : Nat) (hx : k < xs.length), ao = some ⟨b, off, none⟩ ∧ w.cell? ⟨b, off + k, none⟩ = some (f xs[k]) := by
  have hx : k < xs.length := by rw [h.len]; exact hk
  cases ao with
  | none => have := (h.nil rfl).1; omega
  | some a =>
    obtain ⟨b, off, rfl, _⟩ := (h.reads a rfl).at hx
    exact ⟨b, off, hx, rfl, (h.reads _ rfl).get hx⟩

/-- An attribute value's cells. -/
def attrC (typ : Int) (s : ByteArray) (neg : Bool) (d : ByteArray) (ex : Int) (b : Bool) (so : Option Addr) (sn sc : Nat) (mo : Option Nat) (lo : Option Addr) (ln lc : Nat) : List Value :=
  [.int .i64 typ, .string s, .bool neg, .string d, .int .i64 ex, .bool b, .slice so sn sc, .map mo, .slice lo ln lc]

theorem compareInt_self (x : Int) (w : World) (h0 : -9223372036854775808 ≤ x) (h1 : x ≤ 9223372036854775807) :
    Calls Try.prog 58 #[.int .i64 x, .int .i64 x] w fun e w' => e = .returned (.int .i64 0) ∧ w = w' := by
  go_enter Try.func58, Try.ntmps58
  go_wp2
  go_ret
  exact ⟨rfl, rfl⟩
theorem compareBytes_self : ∀ l : List UInt8, Lib.compareBytes l l = 0
  | [] => by simp [Lib.compareBytes]
  | a :: l => by
    rw [Lib.compareBytes, if_neg (by exact UInt8.lt_irrefl a), if_neg (by exact UInt8.lt_irrefl a)]
    exact compareBytes_self l
set_option maxRecDepth 100000 in
set_option maxHeartbeats 1000000 in
theorem compareString_self (s : ByteArray) (w : World) :
    Calls Try.prog 63 #[.string s, .string s] w fun e w' => e = .returned (.int .i64 0) ∧ w = w' := by
  go_enter Try.func63, Try.ntmps63
  go_wp2
  rw [run_callFunc_extern Try.func64 (by kernel_rfl) (by kernel_rfl) (by kernel_rfl) (e := Extern.BytealgCompare.compare) (by kernel_rfl), Lib.run_compareString, compareBytes_self]
  simp only [Result.andThen]
  rw [Oper.upon_value]
  go_wp2
  go_ret
  exact ⟨rfl, rfl⟩
theorem compareStr_self (s : ByteArray) (w : World) :
    Calls Try.prog 59 #[.string s, .string s] w fun e w' => e = .returned (.int .i64 0) ∧ w = w' := by
  go_enter Try.func59, Try.ntmps59
  go_wp2_with fail
  refine (compareString_self s w).mono ?_
  rintro e w1 ⟨rfl, rfl⟩
  go_wp2
  go_ret
  exact ⟨rfl, rfl⟩
/-- What sign answers. -/
def sgn (neg : Bool) (d : ByteArray) : Int := if d.toList.isEmpty = true then 0 else if neg = true then -1 else 1
theorem sgn_lo (neg : Bool) (d : ByteArray) : -1 ≤ sgn neg d := by unfold sgn; split <;> (try split) <;> omega
theorem sgn_hi (neg : Bool) (d : ByteArray) : sgn neg d ≤ 1 := by unfold sgn; split <;> (try split) <;> omega
theorem sign_any (neg : Bool) (d : ByteArray) (x : Int) (w : World) :
    Calls Try.prog 57 #[.agg #[.bool neg, .string d, .int .i64 x]] w fun e w' => e = .returned (.int .i64 (sgn neg d)) ∧ Below w.heap.size w w' := by
  by_cases hd : d.toList.isEmpty = true
  · have hs : sgn neg d = 0 := by rw [sgn, if_pos hd]
    rw [hs]
    go_enter Try.func57, Try.ntmps57
    go_wp2
    go_ret
    exact ⟨rfl, (Below.refl _ _).alloc (Nat.le_refl _) _⟩
  · cases neg
    · have hs : sgn false d = 1 := by rw [sgn, if_neg hd]; rfl
      rw [hs]
      go_enter Try.func57, Try.ntmps57
      go_wp2
      go_ret
      exact ⟨rfl, (Below.refl _ _).alloc (Nat.le_refl _) _⟩
    · have hs : sgn true d = -1 := by rw [sgn, if_neg hd]; rfl
      rw [hs]
      go_enter Try.func57, Try.ntmps57
      go_wp2
      go_ret
      exact ⟨rfl, (Below.refl _ _).alloc (Nat.le_refl _) _⟩

/-- Two boxes of the call's own, laid one behind the other, and kept. -/
structure Pair (w W : World) (e : TypeId) (c1 c2 : List Value) : Prop where
  fst : Blk W w.heap.size e c1
  snd : Blk W (w.heap.size + 1) e c2
  below : Below w.heap.size w W
theorem Pair.keep {w W W' : World} {e : TypeId} {c1 c2 : List Value} (h : Pair w W e c1 c2) (hb : Below W.heap.size W W') : Pair w W' e c1 c2 :=
  ⟨h.fst.keep hb h.fst.lt, h.snd.keep hb h.snd.lt, below_here h.below (Nat.le_refl _) hb⟩
theorem Pair.drew {w W : World} {e : TypeId} {c1 c2 : List Value} (h : Pair w W e c1 c2) : Pair w W.drew e c1 c2 := ⟨h.fst.drew, h.snd.drew, h.below.drew⟩
theorem Pair.new (w : World) (c1 c2 : Array Value) (e : TypeId) : Pair w ((w.alloc (.cells c1 e)).alloc (.cells c2 e)) e c1.toList c2.toList := by
  have h2 := Blk.newA (w.alloc (.cells c1 e)) e c2
  rw [show (w.alloc (.cells c1 e)).heap.size = w.heap.size + 1 by simp] at h2
  exact ⟨(Blk.newA w e c1).alloc _, h2, ((Below.refl _ _).alloc (Nat.le_refl _) _).alloc (by simp) _⟩

set_option maxRecDepth 100000 in
set_option maxHeartbeats 1000000 in
theorem compare_self (neg : Bool) (d : ByteArray) (x : Int) (w : World) (h0 : -9223372036854775808 ≤ x) (h1 : x ≤ 9223372036854775807) :
    Calls Try.prog 49 #[.agg #[.bool neg, .string d, .int .i64 x], .agg #[.bool neg, .string d, .int .i64 x]] w fun e w' => e = .returned (.int .i64 0) ∧ Below w.heap.size w w' := by
  have lo := sgn_lo neg d
  have hi := sgn_hi neg d
  go_enter Try.func49, Try.ntmps49
  go_wp2_with fail
  obtain ⟨W, HW⟩ : ∃ W, Hid (W = (w.alloc (.cells #[.bool neg, .string d, .int .i64 x] 45)).alloc (.cells #[.bool neg, .string d, .int .i64 x] 45)) := ⟨_, rfl⟩
  have bP : Pair w W 45 [.bool neg, .string d, .int .i64 x] [.bool neg, .string d, .int .i64 x] := by rw [HW.out]; exact Pair.new w _ _ 45
  rw [← HW.out]
  clear HW
  have a0 := bP.fst.cell (j := 0) rfl
  have a1 := bP.fst.cell (j := 1) rfl
  have a2 := bP.fst.cell (j := 2) rfl
  have b0 := bP.snd.cell (j := 0) rfl
  have b1 := bP.snd.cell (j := 1) rfl
  have b2 := bP.snd.cell (j := 2) rfl
  have HP : Hid _ := bP
  clear bP
  go_region_held3 (fun w' => w'.cell? ⟨w.heap.size, 0, none⟩ = some (.bool neg) ∧ w'.cell? ⟨w.heap.size, 1, none⟩ = some (.string d) ∧ w'.cell? ⟨w.heap.size, 2, none⟩ = some (.int .i64 x) ∧ w'.cell? ⟨w.heap.size + 1, 0, none⟩ = some (.bool neg) ∧ w'.cell? ⟨w.heap.size + 1, 1, none⟩ = some (.string d) ∧ w'.cell? ⟨w.heap.size + 1, 2, none⟩ = some (.int .i64 x)) (go_keep)
    (first | (go_at_call 57; refine (sign_any _ _ _ _).mono ?_; rintro e w2 ⟨rfl, hb2⟩
              have tP : Pair w w2 45 [.bool neg, .string d, .int .i64 x] [.bool neg, .string d, .int .i64 x] := by
                first | exact HP.out.drew.keep hb2 | exact HP.out.keep hb2
              have a0 := tP.fst.cell (j := 0) rfl
              have a1 := tP.fst.cell (j := 1) rfl
              have a2 := tP.fst.cell (j := 2) rfl
              have b0 := tP.snd.cell (j := 0) rfl
              have b1 := tP.snd.cell (j := 1) rfl
              have b2 := tP.snd.cell (j := 2) rfl
              have HP : Hid _ := tP
              clear tP hb2))
  all_goals
    have bel := HP.out.below
    by_cases hz : sgn neg d = 0
    · go_wp2_with (first | (go_at_call 58; refine (compareInt_self _ _ (by omega) (by omega)).mono ?_; rintro e w3 ⟨rfl, hw⟩; obtain rfl := hw.symm))
      go_ret
      exact ⟨rfl, bel⟩
    · cases neg
      all_goals
        go_wp2_with (first | (go_at_call 58; refine (compareInt_self _ _ (by omega) (by omega)).mono ?_; rintro e w3 ⟨rfl, hw⟩; obtain rfl := hw.symm) | (go_at_call 59; refine (compareStr_self _ _).mono ?_; rintro e w3 ⟨rfl, hw⟩; obtain rfl := hw.symm))
        go_ret
        exact ⟨rfl, bel⟩

set_option maxRecDepth 100000 in
set_option maxHeartbeats 1000000 in
theorem hasElement_in (typ : Int) (s : ByteArray) (neg : Bool) (d : ByteArray) (ex : Int) (b : Bool) (so : Option Addr) (sn sc : Nat) (mo : Option Nat) (lo : Option Addr) (ln lc : Nat) (xs : List ByteArray) (w : World)
    (hv : View Value.string w so sn sc xs) (hn : sn ≤ 64) (i : Nat) (hi : i < xs.length) :
    Calls Try.prog 61 #[.agg (attrC typ s neg d ex b so sn sc mo lo ln lc).toArray, .string xs[i]] w fun e w' => e = .returned (.bool true) ∧ Below w.heap.size w w' := by
  have HV : Hid _ := hv
  obtain ⟨x, Hx⟩ : ∃ x, Hid (x = xs[i]) := ⟨xs[i], rfl⟩
  have hin : i < sn := by rw [← hv.len]; exact hi
  clear hv
  rw [← Hx.out]
  unfold attrC
  go_enter Try.func61, Try.ntmps61
  go_wp2
  have bel : Below w.heap.size w (w.alloc (.cells #[.int .i64 typ, .string s, .bool neg, .string d, .int .i64 ex, .bool b, .slice so sn sc, .map mo, .slice lo ln lc] 47)) := (Below.refl _ _).alloc (Nat.le_refl _) _
  obtain ⟨W, HW⟩ : ∃ W, Hid (W = w.alloc (.cells #[.int .i64 typ, .string s, .bool neg, .string d, .int .i64 ex, .bool b, .slice so sn sc, .map mo, .slice lo ln lc] 47)) := ⟨w.alloc (.cells #[.int .i64 typ, .string s, .bool neg, .string d, .int .i64 ex, .bool b, .slice so sn sc, .map mo, .slice lo ln lc] 47), rfl⟩
  rw [← HW.out] at bel ⊢
  have HV' : Hid _ := HV.out.keep bel
  clear HV HW
  go_loop [10] (fun v => ∃ k : Nat, k ≤ i ∧ v = .int .i64 k) (fun v => sn - (intOf v).toNat)
  case atStart => exact ⟨0, Nat.zero_le _, rfl⟩
  case round =>
    obtain ⟨k, hk, rfl⟩ := hrel
    obtain ⟨bb, off, hx, rfl, hc⟩ := HV'.out.at (show k < sn by omega)
    have hkI : (k : Int) < (sn : Int) := by omega
    obtain ⟨y, Hy⟩ : ∃ y, Hid (y = xs[k]) := ⟨xs[k], rfl⟩
    rw [← Hy.out] at hc
    by_cases hxy : (y.toList == x.toList) = true
    · go_wp2
      go_ret
      exact ⟨rfl, bel⟩
    · have hki : k ≠ i := by
        rintro rfl
        exact hxy (by rw [Hy.out, Hx.out]; simp)
      go_wp2
      go_round
      case rel => exact ⟨k + 1, by omega, by go_num⟩
      case measure => simp [intOf]; omega
end Go.Proofs.Qxb6001697a
