/-
  THE WALKS OF FnIsReservedExactlyKeywords's CALLEES (1): zzLowerASCII, zzFoldEqual, zzKeyword.
-/
import Derived.Test.Qxb6001671aRows
import Derived.Test.Qxb6001671aKwPlain
import Derived.WalkKit
import Derived.WalkSpells
import Derived.WalkLawsBesides
import Derived.Lib.Strings
import Derived.Deep.QuietTactic
import Derived.BigQuiet
namespace Go.Proofs.Qxb6001671a.kw
open Go.RowKit
set_option linter.unusedVariables false

theorem ret_bool {a b : Bool} (h : a = b) : Ending.returned (.bool a) = .returned (.bool b) := by rw [h]
theorem ret_int {k : IntKind} {a b : Int} (h : a = b) : Ending.returned (.int k a) = .returned (.int k b) := by rw [h]

set_option maxHeartbeats 400000 in
theorem lower_any (c : UInt8) (w : World) :
    Calls Try.prog 51 #[.int .u8 c.toNat] w fun e w' => e = .returned (.int .u8 (lowN c.toNat : Nat)) ∧ w' = w := by
  have hb := byte_lt c
  have hi : (c.toNat : Int) < 256 := by omega
  obtain ⟨r, Hr⟩ : ∃ r : Int, Hid (r = ((lowN c.toNat : Nat) : Int)) := ⟨_, rfl⟩
  rw [← Hr.out]
  by_cases h1 : (65 : Int) ≤ c.toNat
  · by_cases h2 : (c.toNat : Int) ≤ 90
    · have HE : Hid (r = (c.toNat : Int) + 32) := by
        rw [Hid, Hr.out, lowN, if_pos (by omega)]; omega
      go_enter Try.func51, Try.ntmps51
      go_wp2
      go_ret
      exact ⟨ret_int HE.out.symm, rfl⟩
    · have HE : Hid (r = (c.toNat : Int)) := by
        rw [Hid, Hr.out, lowN, if_neg (by omega)]
      go_enter Try.func51, Try.ntmps51
      go_wp2
      go_ret
      exact ⟨ret_int HE.out.symm, rfl⟩
  · have HE : Hid (r = (c.toNat : Int)) := by
      rw [Hid, Hr.out, lowN, if_neg (by omega)]
    go_enter Try.func51, Try.ntmps51
    go_wp2
    go_ret
    exact ⟨ret_int HE.out.symm, rfl⟩

theorem low_take (a b : ByteArray) (k : Nat) (ha : k < a.size) (hb : k < b.size) (h : lowL (a.data.toList.take k) = lowL (b.data.toList.take k)) (hc : lowN a[k].toNat = lowN b[k].toNat) :
    lowL (a.data.toList.take (k + 1)) = lowL (b.data.toList.take (k + 1)) := by
  have ea : a.data.toList.take (k + 1) = a.data.toList.take k ++ [a[k]] := by
    rw [List.take_succ_eq_append_getElem (by simpa using ha)]; rfl
  have eb : b.data.toList.take (k + 1) = b.data.toList.take k ++ [b[k]] := by
    rw [List.take_succ_eq_append_getElem (by simpa using hb)]; rfl
  rw [ea, eb]
  simp only [lowL, List.map_append, List.map_cons, List.map_nil] at h ⊢
  rw [h, hc]
theorem low_miss (a b : ByteArray) (k : Nat) (ha : k < a.size) (hb : k < b.size) (hc : ¬ lowN a[k].toNat = lowN b[k].toNat) : (lowL a.data.toList == lowL b.data.toList) = false := by
  rw [beq_eq_false_iff_ne]
  intro h
  apply hc
  have h1 := congrArg (fun l => l[k]?) h
  have ea : a.data.toList[k]? = some a[k] := List.getElem?_eq_getElem (l := a.data.toList) (by simpa using ha)
  have eb : b.data.toList[k]? = some b[k] := List.getElem?_eq_getElem (l := b.data.toList) (by simpa using hb)
  simp only [lowL, List.getElem?_map, ea, eb, Option.map_some, Option.some.injEq] at h1
  exact h1

set_option maxHeartbeats 400000 in
theorem foldEqual_any (a b : ByteArray) (w : World) (ha : a.size ≤ maxLen) (hb : b.size ≤ maxLen) :
    Calls Try.prog 16 #[.string a, .string b] w fun e w' => e = .returned (.bool (lowL a.data.toList == lowL b.data.toList)) ∧ ∃ n, w' = w.drewN n := by
  unfold maxLen at ha hb
  by_cases hl : a.size = b.size
  · have Hl : Hid (a.size = b.size) := hl
    have hl' : ((a.size : Int) != (b.size : Int)) = false := by simp [hl]
    have h1 : a.size ≤ b.size := by omega
    clear hl
    go_enter Try.func16, Try.ntmps16
    go_wp2
    go_loopw [5] (fun i wr => ∃ k : Nat, k ≤ a.size ∧ i = .int .i64 k ∧ Hid (lowL (a.data.toList.take k) = lowL (b.data.toList.take k)) ∧ Hid (∃ n, wr = w.drewN n)) (fun i _ => a.size - (intOf i).toNat)
    case atStart => exact ⟨0, Nat.zero_le _, rfl, rfl, 0, rfl⟩
    case round =>
      obtain ⟨k, hk, rfl, hlow, HW⟩ := hrel
      by_cases hlt : k < a.size
      · have hltb : k < b.size := by omega
        have hltI : (k : Int) < (a.size : Int) := by omega
        have hltbI : (k : Int) < (b.size : Int) := by omega
        go_wp2_with fail
        go_quiet ((go_at_call 51; exact Calls.quiet_of_same (lower_any _ _)))
        have HW' : Hid (∃ n, wr.drewN nq = w.drewN n) := by
          obtain ⟨n, hn⟩ := HW.out
          exact ⟨n + nq, by rw [hn, World.drewN_drewN]⟩
        by_cases hc : lowN a[k].toNat = lowN b[k].toNat
        · have HC : Hid (lowL (a.data.toList.take (k + 1)) = lowL (b.data.toList.take (k + 1))) := low_take a b k hlt hltb hlow.out hc
          have hc' : (((lowN a[k].toNat : Nat) : Int) != ((lowN b[k].toNat : Nat) : Int)) = false := by simp [hc]
          clear hc
          go_wp2
          go_roundw
          case rel => exact ⟨k + 1, by omega, by go_num, HC, HW'⟩
          case measure => simp [intOf]; omega
        · have HC : Hid ((lowL a.data.toList == lowL b.data.toList) = false) := low_miss a b k hlt hltb hc
          have hc' : (((lowN a[k].toNat : Nat) : Int) != ((lowN b[k].toNat : Nat) : Int)) = true := by simp; omega
          clear hc
          go_wp2
          go_ret
          exact ⟨ret_bool HC.out.symm, HW'⟩
      · go_wp2_with fail
        go_ret
        have h2 := hlow.out
        rw [List.take_of_length_le (by simp; omega), List.take_of_length_le (by have := Hl.out; simp; omega)] at h2
        exact ⟨ret_bool (by rw [h2]; simp), HW⟩
  · have hl' : ((a.size : Int) != (b.size : Int)) = true := by simp; omega
    go_enter Try.func16, Try.ntmps16
    go_wp2
    go_ret
    refine ⟨ret_bool ?_, 0, rfl⟩
    symm
    rw [beq_eq_false_iff_ne]
    intro h
    have h2 := congrArg List.length h
    simp only [lowL, List.length_map] at h2
    exact hl h2

theorem below18 (k : Nat) (h : k < 18) : k = 0 ∨ k = 1 ∨ k = 2 ∨ k = 3 ∨ k = 4 ∨ k = 5 ∨ k = 6 ∨ k = 7 ∨ k = 8 ∨ k = 9 ∨ k = 10 ∨ k = 11 ∨ k = 12 ∨ k = 13 ∨ k = 14 ∨ k = 15 ∨ k = 16 ∨ k = 17 := by omega
set_option maxHeartbeats 2000000 in
theorem keyword_any (k : Nat) (h : k < 18) (w : World) :
    Calls Try.prog 17 #[.int .i64 k] w fun e w' => e = .returned (.string ⟨(kwAt k).toArray⟩) ∧ w' = w := by
  rcases below18 k h with rfl | rfl | rfl | rfl | rfl | rfl | rfl | rfl | rfl | rfl | rfl | rfl | rfl | rfl | rfl | rfl | rfl | rfl
  all_goals
    clear h
    go_enter Try.func17, Try.ntmps17
    go_wp2
    go_ret
    exact ⟨rfl, rfl⟩
end Go.Proofs.Qxb6001671a.kw
