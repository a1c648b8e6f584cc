/-
  THE WALKS OF FnIsPairAgreesWithComparison's CALLEES: comparison, arithmeticOp at a text of two bytes, and isPair.
-/
import Derived.Test.Qxb6001671aRows
import Derived.WalkKit
import Derived.WalkSpells
import Derived.WalkLawsBesides
namespace Go.Proofs.Qxb6001671a.pair
open Go.RowKit

/-- The two bytes of a two-character operator. -/
def isP (a b : Int) : Bool := (a == 60 && (b == 61 || b == 62)) || ((a == 62 || a == 33) && b == 61)

theorem two_beq (l : List UInt8) (x y p q : UInt8) (h : l = [x, y]) : (l == [p, q]) = (((x.toNat : Int) == p.toNat) && ((y.toNat : Int) == q.toNat)) := by
  subst h
  rw [Bool.eq_iff_iff]
  simp
  rw [← UInt8.toNat_inj, ← UInt8.toNat_inj]
  omega
theorem one_beq (l : List UInt8) (x y p : UInt8) (h : l = [x, y]) : (l == [p]) = false := by
  subst h
  simp

set_option maxHeartbeats 400000 in
theorem comparison_any (t : ByteArray) (x y : UInt8) (h : t.toList = [x, y]) (w : World) :
    Calls Try.prog 53 #[.int .u8 6, .string t] w fun e w' => (∃ op, e = .returned (.tuple #[.string op, .bool (isP x.toNat y.toNat)])) ∧ w' = w := by
  have f1 := one_beq t.toList x y 61 h
  have f2 := two_beq t.toList x y 60 62 h
  have f3 := one_beq t.toList x y 60 h
  have f4 := two_beq t.toList x y 60 61 h
  have f5 := one_beq t.toList x y 62 h
  have f6 := two_beq t.toList x y 62 61 h
  have f7 := two_beq t.toList x y 33 61 h
  clear h
  have hP : isP x.toNat y.toNat = ((t.toList == [60, 62]) || (t.toList == [60, 61]) || (t.toList == [62, 61]) || (t.toList == [33, 61])) := by
    rw [f2, f4, f6, f7]
    simp only [isP]
    generalize (x.toNat : Int) = a
    generalize (y.toNat : Int) = b
    rw [Bool.eq_iff_iff]
    simp
    omega
  clear f2 f4 f6 f7
  cases f2 : (t.toList == [60, 62])
  · cases f4 : (t.toList == [60, 61])
    · cases f6 : (t.toList == [62, 61])
      · cases f7 : (t.toList == [33, 61])
        all_goals
          rw [f2, f4, f6, f7] at hP
          have HP : Hid (isP x.toNat y.toNat = _) := hP
          clear hP
          go_enter Try.func53, Try.ntmps53
          go_wp2
          go_ret2
          exact ⟨⟨_, by rw [HP.out]; rfl⟩, rfl⟩
      · rw [f2, f4, f6] at hP
        have HP : Hid (isP x.toNat y.toNat = _) := hP
        clear hP
        go_enter Try.func53, Try.ntmps53
        go_wp2
        go_ret2
        exact ⟨⟨_, by rw [HP.out]; rfl⟩, rfl⟩
    · rw [f2, f4] at hP
      have HP : Hid (isP x.toNat y.toNat = _) := hP
      clear hP
      go_enter Try.func53, Try.ntmps53
      go_wp2
      go_ret2
      exact ⟨⟨_, by rw [HP.out]; rfl⟩, rfl⟩
  · rw [f2] at hP
    have HP : Hid (isP x.toNat y.toNat = _) := hP
    clear hP
    go_enter Try.func53, Try.ntmps53
    go_wp2
    go_ret2
    exact ⟨⟨_, by rw [HP.out]; rfl⟩, rfl⟩

set_option maxHeartbeats 400000 in
theorem zzComparison_any (t : ByteArray) (x y : UInt8) (h : t.toList = [x, y]) (w : World) :
    Calls Try.prog 26 #[.int .u8 6, .string t] w fun e w' => (∃ op, e = .returned (.tuple #[.string op, .bool (isP x.toNat y.toNat)])) ∧ w' = w := by
  have H : Hid (t.toList = [x, y]) := h
  clear h
  go_enter Try.func26, Try.ntmps26
  go_wp2_with fail
  refine (comparison_any t x y H.out w).mono ?_
  rintro e w' ⟨⟨op, rfl⟩, rfl⟩
  go_wp2
  go_ret2
  exact ⟨⟨_, rfl⟩, rfl⟩

set_option maxHeartbeats 400000 in
theorem zzArithmeticOp_any (t : ByteArray) (x y : UInt8) (h : t.toList = [x, y]) (w : World) :
    Calls Try.prog 27 #[.int .u8 6, .string t] w fun e w' => (∃ op, e = .returned (.tuple #[.string op, .int .i64 0])) ∧ w' = w := by
  have f1 := one_beq t.toList x y 43 h
  have f2 := one_beq t.toList x y 45 h
  have f3 := one_beq t.toList x y 42 h
  have f4 := one_beq t.toList x y 37 h
  clear h
  go_enter Try.func27, Try.ntmps27
  go_wp2
  go_ret2
  exact ⟨⟨_, rfl⟩, rfl⟩

set_option maxHeartbeats 400000 in
theorem isPair_any (s : ByteArray) (w : World) (hs : s.size ≤ maxLen) (h2 : 2 ≤ s.size) :
    Calls Try.prog 28 #[.string s] w fun e w' => e = .returned (.bool (isP (s[0]'(by omega)).toNat (s[1]'(by omega)).toNat)) ∧ w' = w := by
  unfold maxLen at hs
  go_enter Try.func28, Try.ntmps28
  go_wp2
  all_goals
    go_ret
    refine ⟨?_, rfl⟩
    simp_all [isP]

set_option maxHeartbeats 400000 in
theorem isPair_short (s : ByteArray) (w : World) (h2 : s.size < 2) :
    Calls Try.prog 28 #[.string s] w fun e w' => e = .returned (.bool false) ∧ w' = w := by
  go_enter Try.func28, Try.ntmps28
  go_wp2
  go_ret
  exact ⟨rfl, rfl⟩
end Go.Proofs.Qxb6001671a.pair
