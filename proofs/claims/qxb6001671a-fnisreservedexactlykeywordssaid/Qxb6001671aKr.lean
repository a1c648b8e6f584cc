/-
  THE WALKS OF FnIsReservedExactlyKeywords's CALLEES (2): isReserved.
-/
import Derived.Test.Qxb6001671aKw
import Derived.Laws.IdiomStrings
namespace Go.Proofs.Qxb6001671a.kw
open Go.RowKit
set_option linter.unusedVariables false

theorem isKw_true (l K : List UInt8) (hK : K ∈ kws) (h : (l == K) = true) : isKw l = true := List.any_eq_true.2 ⟨K, hK, h⟩
theorem reserved_short (l : List UInt8) (h : l.length ≤ 16) : reserved l = isKw (upL l) := by rw [reserved, if_neg (by omega)]
theorem reserved_long (l : List UInt8) (h : 16 < l.length) : reserved l = false := by rw [reserved, if_pos h]

/-- The array of sixteen bytes, its first k in upper case. -/
def Row (w : World) (B : Nat) (l : List UInt8) (k : Nat) : Prop :=
  ∃ cur : Array Value, w.heap[B]? = some (.cells cur 110 (0, 0)) ∧ cur.size = 16 ∧ ∀ j c, j < k → l[j]? = some c → cur[j]? = some (.int .u8 ((upB c).toNat : Int))
theorem Row.cell {w : World} {B : Nat} {l : List UInt8} {k : Nat} (h : Row w B l k) (j : Nat) (hj : j < 16) : ∃ v, w.cell? ⟨B, j, none⟩ = some v := by
  obtain ⟨cur, hg, hs, _⟩ := h
  exact ⟨cur[j], by rw [cell_of_row w B j cur 110 (0, 0) hg]; simp [hs, hj]⟩
theorem Row.free {w : World} {B : Nat} {l : List UInt8} {k : Nat} (h : Row w B l k) (j : Nat) : w.frozen? ⟨B, j, none⟩ = false := by
  obtain ⟨cur, hg, hs, _⟩ := h
  exact frozen_of_row w B j cur 110 hg
theorem Row.put {w : World} {B : Nat} {l : List UInt8} {k : Nat} (h : Row w B l k) (u : Value) : Row (w.setCell ⟨B, k, none⟩ u) B l k := by
  obtain ⟨cur, hg, hs, hc⟩ := h
  refine ⟨_, heap_setCell_same w B k cur 110 u hg, by simpa using hs, fun j c hj hl => ?_⟩
  rw [Array.getElem?_setIfInBounds_ne (by omega)]
  exact hc j c hj hl
theorem Row.step {w : World} {B : Nat} {l : List UInt8} {k : Nat} (h : Row w B l k) (hk : k < 16) (c : UInt8) (hl : l[k]? = some c) (n : Int) (hn : n = ((upB c).toNat : Int)) : Row (w.setCell ⟨B, k, none⟩ (.int .u8 n)) B l (k + 1) := by
  obtain ⟨cur, hg, hs, hc⟩ := h
  refine ⟨_, heap_setCell_same w B k cur 110 _ hg, by simpa using hs, fun j d hj hd => ?_⟩
  by_cases e : j = k
  · subst e
    rw [hl] at hd
    cases hd
    rw [Array.getElem?_setIfInBounds_self_of_lt (by omega), hn]
  · rw [Array.getElem?_setIfInBounds_ne (by omega)]
    exact hc j d (by omega) hd
theorem Row.start (w : World) (l : List UInt8) (cs : Array Value) (hs : cs.size = 16) : Row (w.alloc (.cells cs 110)) w.heap.size l 0 :=
  ⟨cs, heap_alloc_new w _, hs, fun j c hj => absurd hj (by omega)⟩
theorem Row.cells {w : World} {B : Nat} {l : List UInt8} (h : Row w B l l.length) : ∀ j (hj : j < (upL l).length), w.cell? ((⟨B, 0, none⟩ : Addr).add j) = some (.int .u8 ((upL l)[j].toNat : Int)) := by
  intro j hj
  obtain ⟨cur, hg, hs, hc⟩ := h
  have hj' : j < l.length := by simpa [upL] using hj
  rw [Addr.add_lit, Nat.zero_add, cell_of_row w B j cur 110 (0, 0) hg, hc j l[j] hj' (List.getElem?_eq_getElem hj')]
  simp [upL]

set_option maxRecDepth 100000 in
set_option maxHeartbeats 4000000 in
theorem isReserved_any (s : ByteArray) (w : World) (hs : s.size ≤ maxLen) :
    Calls Try.prog 52 #[.string s] w fun e w' => e = .returned (.bool (reserved s.data.toList)) ∧ Below w.heap.size w w' := by
  unfold maxLen at hs
  obtain ⟨r, Hr⟩ : ∃ r : Bool, Hid (r = reserved s.data.toList) := ⟨_, rfl⟩
  rw [← Hr.out]
  have hlen : s.data.toList.length = s.size := rfl
  by_cases h16 : s.size ≤ 16
  · have HS : Hid (s.data.toList.length ≤ 16) := by rw [Hid, hlen]; exact h16
    clear hlen
    go_enter Try.func52, Try.ntmps52
    go_wp2
    go_loopw [10] (fun i wr => ∃ k : Nat, k ≤ s.size ∧ i = .int .i64 k ∧ Row wr w.heap.size s.data.toList k ∧ Below w.heap.size w wr) (fun i _ => s.size - (intOf i).toNat)
    case atStart => exact ⟨0, Nat.zero_le _, rfl, Row.start w _ _ rfl, (Below.refl _ _).alloc (Nat.le_refl _) _⟩
    case round =>
      obtain ⟨k, hk, rfl, hrow, hbel⟩ := hrel
      by_cases hlt : k < s.size
      · obtain ⟨v0, hv0⟩ := hrow.cell k (by omega)
        have hf0 := hrow.free k
        have HL : Hid (s.data.toList[k]? = some s[k]) := List.getElem?_eq_getElem (l := s.data.toList) hlt
        have hbt := byte_lt s[k]
        by_cases h97 : (97 : Int) ≤ s[k].toNat
        · by_cases h122 : (s[k].toNat : Int) ≤ 122
          · have HE : Hid ((s[k].toNat : Int) - 32 = ((upB s[k]).toNat : Int)) := by
              rw [Hid, upB_toNat, upN, if_pos (by omega)]; omega
            go_wp2
            go_roundw
            case rel => exact ⟨k + 1, by omega, by go_num, (hrow.put _).step (by omega) s[k] HL.out _ HE.out, (hbel.setCell (Nat.le_refl _) _).setCell (Nat.le_refl _) _⟩
            case measure => simp [intOf]; omega
          · have HE : Hid ((s[k].toNat : Int) = ((upB s[k]).toNat : Int)) := by
              rw [Hid, upB_toNat, upN, if_neg (by omega)]
            go_wp2
            go_roundw
            case rel => exact ⟨k + 1, by omega, by go_num, hrow.step (by omega) s[k] HL.out _ HE.out, hbel.setCell (Nat.le_refl _) _⟩
            case measure => simp [intOf]; omega
        · have HE : Hid ((s[k].toNat : Int) = ((upB s[k]).toNat : Int)) := by
            rw [Hid, upB_toNat, upN, if_neg (by omega)]
          go_wp2
          go_roundw
          case rel => exact ⟨k + 1, by omega, by go_num, hrow.step (by omega) s[k] HL.out _ HE.out, hbel.setCell (Nat.le_refl _) _⟩
          case measure => simp [intOf]; omega
      have ek : k = s.data.toList.length := by show k = s.size; omega
      obtain ⟨U, HU0⟩ : ∃ U : ByteArray, Hid (U = ⟨(upL s.data.toList).toArray⟩) := ⟨_, rfl⟩
      have HU : Hid (U.toList = upL s.data.toList) := by rw [Hid, HU0.out, Lib.toList_data]
      have hcv := run_convert_bytes_back (P := Try.prog) wr 27 9 5 ⟨w.heap.size, 0, none⟩ 16 (upL s.data.toList) Try.underlying27 Try.underlying5 Try.underlying9 (Row.cells (by rw [← ek]; exact hrow))
      have el : (upL s.data.toList).length = s.size := by simp [upL]
      rw [← HU0.out, el] at hcv
      clear el ek
      by_cases h0 : (U.toList == [65, 78, 68]) = true
      · have HR : Hid (r = true) := by rw [Hid, Hr.out, reserved_short _ HS.out]; exact isKw_true _ [65, 78, 68] (by decide) (by rw [HU.out] at h0; exact h0)
        go_wp2
        go_ret
        exact ⟨ret_bool HR.out.symm, hbel⟩
      replace h0 : (U.toList == [65, 78, 68]) = false := by simpa using h0
      by_cases h1 : (U.toList == [66, 69, 84, 87, 69, 69, 78]) = true
      · have HR : Hid (r = true) := by rw [Hid, Hr.out, reserved_short _ HS.out]; exact isKw_true _ [66, 69, 84, 87, 69, 69, 78] (by decide) (by rw [HU.out] at h1; exact h1)
        go_wp2
        go_ret
        exact ⟨ret_bool HR.out.symm, hbel⟩
      replace h1 : (U.toList == [66, 69, 84, 87, 69, 69, 78]) = false := by simpa using h1
      by_cases h2 : (U.toList == [67, 82, 69, 65, 84, 69]) = true
      · have HR : Hid (r = true) := by rw [Hid, Hr.out, reserved_short _ HS.out]; exact isKw_true _ [67, 82, 69, 65, 84, 69] (by decide) (by rw [HU.out] at h2; exact h2)
        go_wp2
        go_ret
        exact ⟨ret_bool HR.out.symm, hbel⟩
      replace h2 : (U.toList == [67, 82, 69, 65, 84, 69]) = false := by simpa using h2
      by_cases h3 : (U.toList == [68, 69, 70, 65, 85, 76, 84]) = true
      · have HR : Hid (r = true) := by rw [Hid, Hr.out, reserved_short _ HS.out]; exact isKw_true _ [68, 69, 70, 65, 85, 76, 84] (by decide) (by rw [HU.out] at h3; exact h3)
        go_wp2
        go_ret
        exact ⟨ret_bool HR.out.symm, hbel⟩
      replace h3 : (U.toList == [68, 69, 70, 65, 85, 76, 84]) = false := by simpa using h3
      by_cases h4 : (U.toList == [70, 82, 79, 77]) = true
      · have HR : Hid (r = true) := by rw [Hid, Hr.out, reserved_short _ HS.out]; exact isKw_true _ [70, 82, 79, 77] (by decide) (by rw [HU.out] at h4; exact h4)
        go_wp2
        go_ret
        exact ⟨ret_bool HR.out.symm, hbel⟩
      replace h4 : (U.toList == [70, 82, 79, 77]) = false := by simpa using h4
      by_cases h5 : (U.toList == [73, 78]) = true
      · have HR : Hid (r = true) := by rw [Hid, Hr.out, reserved_short _ HS.out]; exact isKw_true _ [73, 78] (by decide) (by rw [HU.out] at h5; exact h5)
        go_wp2
        go_ret
        exact ⟨ret_bool HR.out.symm, hbel⟩
      replace h5 : (U.toList == [73, 78]) = false := by simpa using h5
      by_cases h6 : (U.toList == [73, 78, 83, 69, 82, 84]) = true
      · have HR : Hid (r = true) := by rw [Hid, Hr.out, reserved_short _ HS.out]; exact isKw_true _ [73, 78, 83, 69, 82, 84] (by decide) (by rw [HU.out] at h6; exact h6)
        go_wp2
        go_ret
        exact ⟨ret_bool HR.out.symm, hbel⟩
      replace h6 : (U.toList == [73, 78, 83, 69, 82, 84]) = false := by simpa using h6
      by_cases h7 : (U.toList == [73, 78, 84, 79]) = true
      · have HR : Hid (r = true) := by rw [Hid, Hr.out, reserved_short _ HS.out]; exact isKw_true _ [73, 78, 84, 79] (by decide) (by rw [HU.out] at h7; exact h7)
        go_wp2
        go_ret
        exact ⟨ret_bool HR.out.symm, hbel⟩
      replace h7 : (U.toList == [73, 78, 84, 79]) = false := by simpa using h7
      by_cases h8 : (U.toList == [73, 83]) = true
      · have HR : Hid (r = true) := by rw [Hid, Hr.out, reserved_short _ HS.out]; exact isKw_true _ [73, 83] (by decide) (by rw [HU.out] at h8; exact h8)
        go_wp2
        go_ret
        exact ⟨ret_bool HR.out.symm, hbel⟩
      replace h8 : (U.toList == [73, 83]) = false := by simpa using h8
      by_cases h9 : (U.toList == [75, 69, 89]) = true
      · have HR : Hid (r = true) := by rw [Hid, Hr.out, reserved_short _ HS.out]; exact isKw_true _ [75, 69, 89] (by decide) (by rw [HU.out] at h9; exact h9)
        go_wp2
        go_ret
        exact ⟨ret_bool HR.out.symm, hbel⟩
      replace h9 : (U.toList == [75, 69, 89]) = false := by simpa using h9
      by_cases h10 : (U.toList == [78, 79, 84]) = true
      · have HR : Hid (r = true) := by rw [Hid, Hr.out, reserved_short _ HS.out]; exact isKw_true _ [78, 79, 84] (by decide) (by rw [HU.out] at h10; exact h10)
        go_wp2
        go_ret
        exact ⟨ret_bool HR.out.symm, hbel⟩
      replace h10 : (U.toList == [78, 79, 84]) = false := by simpa using h10
      by_cases h11 : (U.toList == [78, 85, 76, 76]) = true
      · have HR : Hid (r = true) := by rw [Hid, Hr.out, reserved_short _ HS.out]; exact isKw_true _ [78, 85, 76, 76] (by decide) (by rw [HU.out] at h11; exact h11)
        go_wp2
        go_ret
        exact ⟨ret_bool HR.out.symm, hbel⟩
      replace h11 : (U.toList == [78, 85, 76, 76]) = false := by simpa using h11
      by_cases h12 : (U.toList == [79, 82]) = true
      · have HR : Hid (r = true) := by rw [Hid, Hr.out, reserved_short _ HS.out]; exact isKw_true _ [79, 82] (by decide) (by rw [HU.out] at h12; exact h12)
        go_wp2
        go_ret
        exact ⟨ret_bool HR.out.symm, hbel⟩
      replace h12 : (U.toList == [79, 82]) = false := by simpa using h12
      by_cases h13 : (U.toList == [80, 82, 73, 77, 65, 82, 89]) = true
      · have HR : Hid (r = true) := by rw [Hid, Hr.out, reserved_short _ HS.out]; exact isKw_true _ [80, 82, 73, 77, 65, 82, 89] (by decide) (by rw [HU.out] at h13; exact h13)
        go_wp2
        go_ret
        exact ⟨ret_bool HR.out.symm, hbel⟩
      replace h13 : (U.toList == [80, 82, 73, 77, 65, 82, 89]) = false := by simpa using h13
      by_cases h14 : (U.toList == [83, 69, 76, 69, 67, 84]) = true
      · have HR : Hid (r = true) := by rw [Hid, Hr.out, reserved_short _ HS.out]; exact isKw_true _ [83, 69, 76, 69, 67, 84] (by decide) (by rw [HU.out] at h14; exact h14)
        go_wp2
        go_ret
        exact ⟨ret_bool HR.out.symm, hbel⟩
      replace h14 : (U.toList == [83, 69, 76, 69, 67, 84]) = false := by simpa using h14
      by_cases h15 : (U.toList == [84, 65, 66, 76, 69]) = true
      · have HR : Hid (r = true) := by rw [Hid, Hr.out, reserved_short _ HS.out]; exact isKw_true _ [84, 65, 66, 76, 69] (by decide) (by rw [HU.out] at h15; exact h15)
        go_wp2
        go_ret
        exact ⟨ret_bool HR.out.symm, hbel⟩
      replace h15 : (U.toList == [84, 65, 66, 76, 69]) = false := by simpa using h15
      by_cases h16 : (U.toList == [86, 65, 76, 85, 69, 83]) = true
      · have HR : Hid (r = true) := by rw [Hid, Hr.out, reserved_short _ HS.out]; exact isKw_true _ [86, 65, 76, 85, 69, 83] (by decide) (by rw [HU.out] at h16; exact h16)
        go_wp2
        go_ret
        exact ⟨ret_bool HR.out.symm, hbel⟩
      replace h16 : (U.toList == [86, 65, 76, 85, 69, 83]) = false := by simpa using h16
      by_cases h17 : (U.toList == [87, 72, 69, 82, 69]) = true
      · have HR : Hid (r = true) := by rw [Hid, Hr.out, reserved_short _ HS.out]; exact isKw_true _ [87, 72, 69, 82, 69] (by decide) (by rw [HU.out] at h17; exact h17)
        go_wp2
        go_ret
        exact ⟨ret_bool HR.out.symm, hbel⟩
      replace h17 : (U.toList == [87, 72, 69, 82, 69]) = false := by simpa using h17
      have HR : Hid (r = false) := by
        rw [Hid, Hr.out, reserved_short _ HS.out, ← HU.out]
        simp only [isKw, kws, List.any_cons, List.any_nil, h0, h1, h2, h3, h4, h5, h6, h7, h8, h9, h10, h11, h12, h13, h14, h15, h16, h17, Bool.or_false]
      go_wp2
      go_ret
      exact ⟨ret_bool HR.out.symm, hbel⟩
  · have HE : Hid (r = false) := by rw [Hid, Hr.out, reserved_long _ (by rw [hlen]; omega)]
    clear hlen
    go_enter Try.func52, Try.ntmps52
    go_wp2
    go_ret
    exact ⟨ret_bool HE.out.symm, (Below.refl _ _).alloc (Nat.le_refl _) _⟩
end Go.Proofs.Qxb6001671a.kw
