/-
  THE WALKS OF FnEqualIsReflexive's CALLEES (12): zzBytes: some bool.
-/
import Derived.Test.Qxb6001697aG1
namespace Go.Proofs.Qxb6001697a
open Go.RowKit
set_option linter.unusedVariables false

set_option maxRecDepth 100000 in
set_option maxHeartbeats 8000000 in
theorem bytes_any (l : Lf) (ao ko : Option Addr) (n c m kn kc : Nat) (ks : List ByteArray) (w : World) (h : l.Ok w) (hn : n ≤ maxLen) (hin : InLeaves w ao n m) (hkn : kn ≤ maxLen) (hv : View Value.string w ko kn kc ks) (hks : ∀ s ∈ ks, s.size ≤ maxLen) :
    Calls Try.prog 32 #[l.val, .slice ao n c, .slice ko kn kc] w fun e w' => SomeBool e ∧ Below w.heap.size w w' := by
  unfold Lf.val
  have s1 := h.s1
  have d1 := h.d1
  have n1 := h.n1
  unfold maxLen at hn hkn s1 d1 n1
  have HO := hid h
  have HI := hid hin
  have HV := hid hv
  have HK := hid hks
  clear h hin hv hks
  go_enter Try.func32, Try.ntmps32
  obtain ⟨W, HW⟩ : ∃ W, Hid (W = w.alloc (.cells #[.int .i64 l.typ, .string l.s, .bool l.neg, .string l.d, .int .i64 l.ex, .bool l.b, .slice l.so l.sn l.sc] 59)) := ⟨_, rfl⟩
  have bel : Below w.heap.size w W := by rw [HW.out]; exact (Below.refl _ _).alloc (Nat.le_refl _) _
  have x1 : Blk W w.heap.size 59 [.int .i64 l.typ, .string l.s, .bool l.neg, .string l.d, .int .i64 l.ex, .bool l.b, .slice l.so l.sn l.sc] := by rw [HW.out]; exact Blk.new w 59 _
  have HB := hid bel
  have HX := hid x1
  have HO2 := hid (HO.out.keep bel)
  have HI2 := hid (HI.out.keep bel)
  have HV2 := hid (HV.out.keep bel)
  clear bel x1 HO HI HV
  go_wp2
  all_goals try (rw [← HW.out]; go_ret; exact ⟨SomeBool.mk _, HB.out⟩)
  rw [← HW.out]
  have a6 := HX.out.cell (j := 6) rfl
  clear HX
  go_loop [7, 8] (fun z i => ∃ (k : Nat) (y : Int), k ≤ l.sn ∧ i = .int .i64 k ∧ z = .int .i64 y ∧ 0 ≤ y ∧ y ≤ 1048576) (fun _ i => l.sn - (intOf i).toNat)
  case atStart => exact ⟨0, _, Nat.zero_le _, rfl, rfl, by omega, by omega⟩
  case round =>
    obtain ⟨k, y, hk, rfl, rfl, hy0, hy1⟩ := hrel
    by_cases hlt : k < l.sn
    · obtain ⟨b, off, hx, eso, hc⟩ := HO2.out.view.at hlt
      rw [eso] at a6
      have hkI : (k : Int) < (l.sn : Int) := by omega
      have hz := HO2.out.strs _ (List.getElem_mem hx)
      unfold maxLen at hz
      go_wp2
      · go_ret
        exact ⟨SomeBool.mk _, HB.out⟩
      · go_ret
        exact ⟨SomeBool.mk _, HB.out⟩
      · go_round
        case rel => exact ⟨k + 1, _, by omega, by go_num, rfl, by omega, by omega⟩
        case measure => simp [intOf]; omega
    · go_wp2
      all_goals try (go_ret; exact ⟨SomeBool.mk _, HB.out⟩)
      clear a6
      go_loop [7, 9] (fun z i => ∃ (k : Nat) (y : Int), k ≤ n ∧ i = .int .i64 k ∧ z = .int .i64 y ∧ 0 ≤ y ∧ y ≤ 1048576) (fun _ i => n - (intOf i).toNat)
      case atStart => exact ⟨0, _, Nat.zero_le _, rfl, rfl, by omega, by omega⟩
      case round =>
        obtain ⟨k2, y2, hk2, rfl, rfl, hz0, hz1⟩ := hrel
        by_cases hlt2 : k2 < n
        · obtain ⟨b2, off2, l2, eao, hL2, hO2, -⟩ := HI2.out k2 hlt2
          subst eao
          have hkI2 : (k2 : Int) < (n : Int) := by omega
          have c1 := hL2.c1
          have c3 := hL2.c3
          have c6 := hL2.c6
          have s2 := hO2.s1
          have d2 := hO2.d1
          have n2 := hO2.n1
          unfold maxLen at s2 d2 n2
          have HO3 := hid hO2
          clear hL2 hO2
          go_wp2
          all_goals try (go_ret; exact ⟨SomeBool.mk _, HB.out⟩)
          go_loop [7, 10] (fun z i => ∃ (k : Nat) (y : Int), k ≤ l2.sn ∧ i = .int .i64 k ∧ z = .int .i64 y ∧ 0 ≤ y ∧ y ≤ 1048576) (fun _ i => l2.sn - (intOf i).toNat)
          case atStart => exact ⟨0, _, Nat.zero_le _, rfl, rfl, by omega, by omega⟩
          case round =>
            obtain ⟨k3, y3, hk3, rfl, rfl, hv0, hv1⟩ := hrel
            by_cases hlt3 : k3 < l2.sn
            · obtain ⟨b3, off3, hx3, eso3, hc3⟩ := HO3.out.view.at hlt3
              rw [eso3] at c6
              have hkI3 : (k3 : Int) < (l2.sn : Int) := by omega
              have hz3 := HO3.out.strs _ (List.getElem_mem hx3)
              unfold maxLen at hz3
              go_wp2
              · go_ret
                exact ⟨SomeBool.mk _, HB.out⟩
              · go_ret
                exact ⟨SomeBool.mk _, HB.out⟩
              · go_round
                case rel => exact ⟨k3 + 1, _, by omega, by go_num, rfl, by omega, by omega⟩
                case measure => simp [intOf]; omega
            · go_wp2
              go_round
              case rel => exact ⟨k2 + 1, _, by omega, by go_num, rfl, by omega, by omega⟩
              case measure => simp [intOf]; omega
        · go_wp2
          all_goals try (go_ret; exact ⟨SomeBool.mk _, HB.out⟩)
          go_loop [7, 11] (fun z i => ∃ (k : Nat) (y : Int), k ≤ kn ∧ i = .int .i64 k ∧ z = .int .i64 y ∧ 0 ≤ y ∧ y ≤ 1048576) (fun _ i => kn - (intOf i).toNat)
          case atStart => exact ⟨0, _, Nat.zero_le _, rfl, rfl, by omega, by omega⟩
          case round =>
            obtain ⟨k4, y4, hk4, rfl, rfl, hu0, hu1⟩ := hrel
            by_cases hlt4 : k4 < kn
            · obtain ⟨b4, off4, hx4, eso4, hc4⟩ := HV2.out.at hlt4
              subst eso4
              have hkI4 : (k4 : Int) < (kn : Int) := by omega
              have hz4 := HK.out _ (List.getElem_mem hx4)
              unfold maxLen at hz4
              go_wp2
              · go_ret
                exact ⟨SomeBool.mk _, HB.out⟩
              · go_ret
                exact ⟨SomeBool.mk _, HB.out⟩
              · go_round
                case rel => exact ⟨k4 + 1, _, by omega, by go_num, rfl, by omega, by omega⟩
                case measure => simp [intOf]; omega
            · go_wp2
              go_ret
              exact ⟨SomeBool.mk _, HB.out⟩
end Go.Proofs.Qxb6001697a
