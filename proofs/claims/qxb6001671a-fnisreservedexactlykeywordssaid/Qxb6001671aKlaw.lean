/-
  THE WALKS OF FnIsReservedExactlyKeywords (3): zzFlipCase, and the law out of its callees' contracts.
-/
import Derived.Test.Qxb6001671aKr
namespace Go.Proofs.Qxb6001671a.kw
open Go.RowKit
set_option linter.unusedVariables false

theorem Try.info5 : (Try.prog.info? 5).map (fun i => (i.zero, i.size, i.bytes)) = some (some (.int .u8 0), 1, 1) := by kernel_rfl
/-- Behind k rounds of the flip: the first k bytes flipped, zeros behind. -/
def half (l : List UInt8) (k : Nat) : List Value := ((flipL (l.take k)).map fun c => Value.int .u8 (c.toNat : Int)) ++ List.replicate (l.length - k) (.int .u8 0)
theorem half_step (l : List UInt8) (k : Nat) (h : k < l.length) (n : Int) (hn : n = ((flipB l[k]).toNat : Int)) : (half l k).set k (.int .u8 n) = half l (k + 1) := by
  have hl : (flipL (l.take k)).length = k := by simp [flipL]; omega
  unfold half
  rw [List.set_append_right _ _ (by simp [hl]), List.take_succ_eq_append_getElem h]
  obtain ⟨m, hm⟩ : ∃ m, l.length - k = m + 1 := ⟨l.length - k - 1, by omega⟩
  have hm' : l.length - (k + 1) = m := by omega
  rw [hm, hm', List.replicate_succ]
  simp only [List.length_map, hl, Nat.sub_self, List.set_cons_zero, hn]
  simp only [flipL, List.map_append, List.map_cons, List.map_nil, List.append_assoc, List.singleton_append]

theorem flip_cell (l : List UInt8) (k : Nat) (h : k < l.length) : (half l k)[k]? = some (.int .u8 0) := by
  have hl : (flipL (l.take k)).length = k := by simp [flipL]; omega
  unfold half
  rw [List.getElem?_append_right (by simp [hl]), List.length_map, hl, Nat.sub_self, List.getElem?_replicate, if_pos (by omega)]

set_option maxRecDepth 100000 in
set_option maxHeartbeats 1000000 in
theorem flip_any (s : ByteArray) (w : World) (hs : s.size ≤ 1048576) :
    Calls Try.prog 19 #[.string s] w fun e w' => e = .returned (.string ⟨(flipL s.data.toList).toArray⟩) ∧ Below w.heap.size w w' := by
  obtain ⟨i0, hi, hz0, hz1, hz2⟩ := info_parts Try.info5
  have hlen : s.data.toList.length = s.size := rfl
  obtain ⟨F, HF⟩ : ∃ F : ByteArray, Hid (F = ⟨(flipL s.data.toList).toArray⟩) := ⟨_, rfl⟩
  rw [← HF.out]
  have Hlen : Hid (s.data.toList.length = s.size) := hlen
  clear hlen
  go_enter Try.func19, Try.ntmps19
  go_wp2_with (at_make; refine wpList_make_full _ rfl _ _ 27 rfl w.heap.size 5 i0 (.int .u8 0) 1 Try.underlying27 hi hz0 hz1 _ _ _ _ s.size rfl rfl rfl rfl (by rw [hz2]; omega) (by unfold maxLen; omega) (Nat.le_refl _) ?_)
  intro w1 own1 grow1
  have hb1 : Below w.heap.size w w1 := (Below.refl _ _).grown grow1 (Nat.le_refl _) (by intro k h; cases h)
  have HO1 : Hid (w1.ownsRow w.heap.size 5 1 (.slice (some ⟨w.heap.size, 0, none⟩) s.size s.size) s.size (half s.data.toList 0)) := by
    rw [Hid]
    have e : (madeCells #[Value.int .u8 0] s.size).toList = half s.data.toList 0 := by
      rw [toList_madeCells_one]
      simp [half, flipL]
    rw [← e]; exact own1
  clear own1 grow1
  go_wp2
  go_loopw [4] (fun i wr => ∃ k : Nat, k ≤ s.size ∧ i = .int .i64 k ∧ Hid (wr.ownsRow w.heap.size 5 1 (.slice (some ⟨w.heap.size, 0, none⟩) s.size s.size) s.size (half s.data.toList k)) ∧ Below w.heap.size w wr) (fun i _ => s.size - (intOf i).toNat)
  case atStart => exact ⟨0, Nat.zero_le _, rfl, HO1, hb1⟩
  case round =>
    obtain ⟨k, hk, rfl, hown, hbel⟩ := hrel
    by_cases hlt : k < s.size
    · have hv0 := hown.out.cellAt k (by omega)
      rw [flip_cell s.data.toList k hlt] at hv0
      have hf0 := hown.out.frozenAt k
      have hbt := byte_lt s[k]
      have hbtI : (s[k].toNat : Int) < 256 := by omega
      have hlt' : (k : Int) < (s.size : Int) := by omega
      obtain ⟨n, Hn⟩ : ∃ n : Int, Hid (n = ((flipB s[k]).toNat : Int)) := ⟨((flipB s[k]).toNat : Int), rfl⟩
      have hst := hown.out.stored k (.int .u8 n)
      rw [half_step s.data.toList k hlt n Hn.out] at hst
      have HST : Hid ((wr.setCell ⟨w.heap.size, k, none⟩ (.int .u8 n)).ownsRow w.heap.size 5 1 (.slice (some ⟨w.heap.size, 0, none⟩) s.size s.size) s.size (half s.data.toList (k + 1))) := hst.1
      have hbel' : Below w.heap.size w (wr.setCell ⟨w.heap.size, k, none⟩ (.int .u8 n)) := hbel.setCell (Nat.le_refl _) _
      clear hst hown
      by_cases h97 : (97 : Int) ≤ s[k].toNat
      · by_cases h122 : (s[k].toNat : Int) ≤ 122
        · have HE : Hid (n = (s[k].toNat : Int) - 32) := by
            rw [Hid, Hn.out, flipB_toNat, flipN, if_pos (by omega)]; omega
          rw [HE.out] at HST hbel'
          go_wp2
          go_roundw
          case rel => exact ⟨k + 1, by omega, by go_num, HST, hbel'⟩
          case measure => simp [intOf]; omega
        · have HE : Hid (n = (s[k].toNat : Int)) := by
            rw [Hid, Hn.out, flipB_toNat, flipN, if_neg (by omega), if_neg (by omega)]
          rw [HE.out] at HST hbel'
          go_wp2
          go_roundw
          case rel => exact ⟨k + 1, by omega, by go_num, HST, hbel'⟩
          case measure => simp [intOf]; omega
      · by_cases h65 : (65 : Int) ≤ s[k].toNat
        · by_cases h90 : (s[k].toNat : Int) ≤ 90
          · have HE : Hid (n = (s[k].toNat : Int) + 32) := by
              rw [Hid, Hn.out, flipB_toNat, flipN, if_neg (by omega), if_pos (by omega)]; omega
            rw [HE.out] at HST hbel'
            go_wp2
            go_roundw
            case rel => exact ⟨k + 1, by omega, by go_num, HST, hbel'⟩
            case measure => simp [intOf]; omega
          · have HE : Hid (n = (s[k].toNat : Int)) := by
              rw [Hid, Hn.out, flipB_toNat, flipN, if_neg (by omega), if_neg (by omega)]
            rw [HE.out] at HST hbel'
            go_wp2
            go_roundw
            case rel => exact ⟨k + 1, by omega, by go_num, HST, hbel'⟩
            case measure => simp [intOf]; omega
        · have HE : Hid (n = (s[k].toNat : Int)) := by
            rw [Hid, Hn.out, flipB_toNat, flipN, if_neg (by omega), if_neg (by omega)]
          rw [HE.out] at HST hbel'
          go_wp2
          go_roundw
          case rel => exact ⟨k + 1, by omega, by go_num, HST, hbel'⟩
          case measure => simp [intOf]; omega
    · have el : (flipL s.data.toList).length = s.size := by simp [flipL]
      have hcv := run_convert_bytes_back (P := Try.prog) wr 27 9 5 ⟨w.heap.size, 0, none⟩ s.size (flipL s.data.toList) Try.underlying27 Try.underlying5 Try.underlying9 (fun j hj => by
        rw [Addr.add_lit, Nat.zero_add, hown.out.cellAt j (by rw [el] at hj; omega)]
        unfold half
        rw [List.take_of_length_le (by rw [Hlen.out]; omega), List.getElem?_append_left (by simpa using hj)]
        simp [hj])
      rw [← HF.out, el] at hcv
      clear el
      go_wp2
      go_ret
      exact ⟨rfl, hbel⟩

set_option maxHeartbeats 400000 in
theorem zzIsReserved_any (s : ByteArray) (w : World) (hs : s.size ≤ maxLen) :
    Calls Try.prog 18 #[.string s] w fun e w' => e = .returned (.bool (reserved s.data.toList)) ∧ Below w.heap.size w w' := by
  go_enter Try.func18, Try.ntmps18
  go_wp2_with fail
  refine (isReserved_any s w hs).mono ?_
  rintro e w1 ⟨rfl, hb1⟩
  go_wp2
  go_ret
  exact ⟨rfl, hb1⟩

theorem below_drewN {B : Nat} {w wr : World} (h : Below B w wr) (n : Nat) : Below B w (wr.drewN n) := h.trans ⟨rfl, rfl, rfl, Nat.le_refl _, fun _ _ => rfl⟩
theorem kw_size (k : Nat) (h : k < 18) : (ByteArray.mk (kwAt k).toArray).size ≤ maxLen := by
  rcases below18 k h with rfl | rfl | rfl | rfl | rfl | rfl | rfl | rfl | rfl | rfl | rfl | rfl | rfl | rfl | rfl | rfl | rfl | rfl
  all_goals (show _ ≤ 9223372036854775807; decide)

set_option maxRecDepth 100000 in
set_option maxHeartbeats 1000000 in
theorem law_any (s : ByteArray) (w : World) (hs : s.size ≤ maxLen) :
    Calls Try.prog 4 #[.string s] w fun e w' => e = .returned (.bool true) ∧ Below w.heap.size w w' := by
  have Hs : Hid (s.size ≤ maxLen) := hs
  unfold maxLen at hs
  by_cases hb : (1048576 : Int) < s.size
  · go_enter Try.func4, Try.ntmps4
    go_wp2
    go_ret
    exact ⟨rfl, Below.refl _ _⟩
  · go_enter Try.func4, Try.ntmps4
    go_wp2_with (go_at_call 15; go_in)
    go_loopw [3, 4] (fun d i wr => ∃ k : Nat, k ≤ 18 ∧ i = .int .i64 k ∧ d = .bool (wantTo s.data.toList k) ∧ Below w.heap.size w wr) (fun _ i _ => 18 - (intOf i).toNat)
    case atStart => exact ⟨0, Nat.zero_le _, rfl, rfl, Below.refl _ _⟩
    case round =>
      obtain ⟨k, hk, rfl, rfl, hbel⟩ := hrel
      by_cases hlt : k < 18
      · obtain ⟨K, HK⟩ : ∃ K : ByteArray, Hid (K = ⟨(kwAt k).toArray⟩) := ⟨_, rfl⟩
        have HST : Hid (wantTo s.data.toList (k + 1) = (wantTo s.data.toList k || (lowL s.data.toList == lowL K.data.toList))) := by
          rw [Hid, want_step _ _ hlt, HK.out]
        have HKs : Hid (K.size ≤ maxLen) := by rw [Hid, HK.out]; exact kw_size k hlt
        go_wp2_with fail
        refine (keyword_any k hlt _).mono ?_
        rintro e w1 ⟨rfl, hw⟩
        obtain rfl := hw.symm
        rw [← HK.out]
        go_wp2_with fail
        refine (foldEqual_any s K _ Hs.out HKs.out).mono ?_
        rintro e w1 ⟨rfl, n, hw⟩
        have hb1 : Below w.heap.size w w1 := by rw [hw]; exact below_drewN hbel n
        clear hw
        cases hc : (lowL s.data.toList == lowL K.data.toList)
        · rw [hc, Bool.or_false] at HST
          clear hc
          go_wp2
          go_roundw
          case rel => exact ⟨k + 1, by omega, by go_num, by rw [HST.out], hb1⟩
          case measure => simp [intOf]; omega
        · rw [hc, Bool.or_true] at HST
          clear hc
          go_wp2
          go_roundw
          case rel => exact ⟨k + 1, by omega, by go_num, by rw [HST.out], hb1⟩
          case measure => simp [intOf]; omega
      · obtain ⟨r, Hr⟩ : ∃ r : Bool, Hid (wantTo s.data.toList k = r) := ⟨_, rfl⟩
        have HR1 : Hid (reserved s.data.toList = r) := by
          rw [Hid, reserved_want, ← Hr.out]
          congr 1
          omega
        have HR2 : Hid (reserved (flipL s.data.toList) = r) := by rw [Hid, reserved_flip]; exact HR1.out
        rw [Hr.out]
        clear Hr
        go_wp2_with fail
        refine (zzIsReserved_any s _ Hs.out).mono ?_
        rintro e w1 ⟨rfl, hb1⟩
        have hb1' : Below w.heap.size w w1 := hbel.trans (hb1.mono hbel.size)
        rw [HR1.out]
        go_wp2_with fail
        refine (flip_any s _ (by omega)).mono ?_
        rintro e w2 ⟨rfl, hb2⟩
        have hb2' : Below w.heap.size w w2 := hb1'.trans (hb2.mono hb1'.size)
        go_wp2_with fail
        refine (zzIsReserved_any _ _ (by show (flipL s.data.toList).toArray.size ≤ _; have := Hs.out; simp [flipL]; exact this)).mono ?_
        rintro e w3 ⟨rfl, hb3⟩
        have hb3' : Below w.heap.size w w3 := hb2'.trans (hb3.mono hb2'.size)
        have e3 : reserved (ByteArray.mk (flipL s.data.toList).toArray).data.toList = r := HR2.out
        rw [e3]
        clear e3
        go_wp2
        go_ret
        exact ⟨by simp, hb3'⟩
end Go.Proofs.Qxb6001671a.kw
