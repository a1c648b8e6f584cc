/-
  THE WALK OF FnQuoteEndFindsClosingQuote OUT OF ITS CALLEES' CONTRACTS.
-/
import Derived.Test.Qxb6001671aQend
namespace Go.Proofs.Qxb6001671a.quote
open Go.RowKit

set_option maxHeartbeats 400000 in
theorem bytes_no (a b c : ByteArray) (q : Int) (w : World) (ha : a.size ≤ maxLen) (hb : b.size ≤ maxLen) (hc : c.size ≤ maxLen) (h : (1048576 : Int) < a.size + b.size + c.size) :
    Calls Try.prog 20 #[.string a, .int .u8 q, .string b, .string c] w fun e w' => e = .returned (.bool false) ∧ w' = w := by
  unfold maxLen at ha hb hc
  go_enter Try.func20, Try.ntmps20
  go_wp2
  all_goals
    go_ret
    exact ⟨rfl, rfl⟩
set_option maxHeartbeats 400000 in
theorem bytes_yes (a b c : ByteArray) (q : Int) (w : World) (h : (a.size : Int) + b.size + c.size ≤ 1048576) :
    Calls Try.prog 20 #[.string a, .int .u8 q, .string b, .string c] w fun e w' => e = .returned (.bool true) ∧ w' = w := by
  go_enter Try.func20, Try.ntmps20
  go_wp2
  go_ret
  exact ⟨rfl, rfl⟩

theorem byte_of (n : Int) (h : (Lit.int .u8 n).wf = true) : ∃ b : UInt8, n = (b.toNat : Int) := by
  have hmin : IntKind.u8.min = 0 := rfl
  have hmax : IntKind.u8.max = 255 := rfl
  simp only [Lit.wf, Bool.and_eq_true, decide_eq_true_eq] at h
  refine ⟨UInt8.ofNat n.toNat, ?_⟩
  rw [UInt8.toNat_ofNat']
  omega

theorem strCells_eq (s : ByteArray) : Lib.strCells s = bytesV s.data.toList := rfl
theorem size_list (s : ByteArray) : s.data.toList.length = s.size := rfl
/-- A row that owns something is no nil slice: its shape. -/
theorem own_shape {w : World} {B : Nat} {v : Value} {n : Nat} {xs : List Value} (h : w.ownsRow B 5 1 v n xs) (hn : 0 < n) : ∃ g cap, v = .slice (some ⟨g, 0, none⟩) n cap := by
  rcases h.2 with ⟨_, h0⟩ | ⟨g, cap, _, hv, _⟩
  · omega
  · exact ⟨g, cap, hv⟩

theorem head_ne (T : ByteArray) (qb : UInt8) (hT : ∀ h : 0 < T.size, ((T[0].toNat : Int) == (qb.toNat : Int)) = false) : ∀ c, T.data.toList.head? = some c → c ≠ qb := by
  intro c hc e
  rw [List.head?_eq_getElem?] at hc
  obtain ⟨hn, e0⟩ := at_of T 0 c hc
  have h := hT hn
  rw [e0, e] at h
  simp at h

set_option maxRecDepth 100000 in
set_option maxHeartbeats 4000000 in
theorem law_main (P B T : ByteArray) (qb : UInt8) (w : World) (hsz : (P.size : Int) + B.size + T.size ≤ 1048576) (hT : ∀ h : 0 < T.size, ((T[0].toNat : Int) == (qb.toNat : Int)) = false) :
    Calls Try.prog 5 #[.string P, .int .u8 qb.toNat, .string B, .string T] w fun e w' => e = .returned (.bool true) ∧ Below w.heap.size w w' := by
  obtain ⟨i0, hi, hz0, hz1, hz2⟩ := info_parts Try.info5
  have HT : Hid (∀ c, T.data.toList.head? = some c → c ≠ qb) := head_ne T qb hT
  obtain ⟨q, Hq⟩ : ∃ q : Int, Hid (q = (qb.toNat : Int)) := ⟨_, rfl⟩
  have eq : (qb.toNat : Int) = q := Hq.out.symm
  rw [eq] at hT ⊢
  clear eq
  have hel := (esc_len q B.data.toList).2
  rw [size_list] at hel
  obtain ⟨L4, H4⟩ : ∃ L, Hid (L = P.data.toList ++ [qb] ++ esc q B.data.toList) := ⟨_, rfl⟩
  obtain ⟨L5, H5⟩ : ∃ L, Hid (L = L4 ++ [qb]) := ⟨_, rfl⟩
  obtain ⟨L6, H6⟩ : ∃ L, Hid (L = L5 ++ T.data.toList) := ⟨_, rfl⟩
  have hl4 : L4.length ≤ 3145730 := by rw [H4.out]; simp; omega
  have hl5 : 0 < L5.length := by rw [H5.out]; simp
  have hl5' : L5.length ≤ 3145731 := by rw [H5.out]; simp; omega
  have hl6 : 0 < L6.length := by rw [H6.out]; simp; omega
  have hl6' : L6.length ≤ 4194308 := by rw [H6.out]; simp; omega
  have HR : Hid (L5.length = P.data.toList.length + 1 + (esc qb.toNat B.data.toList).length + 1) := by rw [Hid, H5.out, H4.out, Hq.out]; simp; omega
  have HD : Hid (has q B.data.toList = has qb.toNat B.data.toList) := by rw [Hid, Hq.out]
  have HL : Hid ((ByteArray.mk L6.toArray).data.toList = P.data.toList ++ qb :: (esc qb.toNat B.data.toList ++ qb :: T.data.toList)) := by rw [Hid, H6.out, H5.out, H4.out, Hq.out]; simp
  have hT2 : (¬ 0 < T.size) ∨ ∃ h : 0 < T.size, ((T[0].toNat : Int) == q) = false := by
    by_cases hT0 : 0 < T.size
    · exact .inr ⟨hT0, hT hT0⟩
    · exact .inl hT0
  clear hT
  rcases hT2 with hT0 | ⟨hT0, hTn⟩
  all_goals
    go_enter Try.func5, Try.ntmps5
    go_wp2_with (first
      | (go_at_call 20; refine (bytes_yes _ _ _ _ _ hsz).mono ?_; rintro e w' ⟨rfl, hw⟩; obtain rfl := hw.symm)
      | (at_make; refine wpList_make_own _ rfl _ _ 27 rfl w.heap.size 5 i0 (.int .u8 0) 1 Try.underlying27 hi hz0 hz1 _ _ _ (P.size + 2 * B.size + T.size + 2) rfl rfl (by omega) (by rw [hz2]; omega) (by unfold maxLen; omega) (Nat.le_refl _) ?_))
    intro w1 own1 grow1
    have hb1 : Below w.heap.size w w1 := (Below.refl _ _).grown grow1 (Nat.le_refl _) (by intro k h; cases h)
    have HO1 : Hid (w1.ownsRow w.heap.size 5 1 (.slice (some ⟨w.heap.size, 0, none⟩) 0 (P.size + 2 * B.size + T.size + 2)) 0 []) := own1
    have hs1 := hb1.size
    clear own1 grow1
    go_wp2_with (at_builtin; refine Lib.wpList_append_own_string _ rfl (.tmp 62) (.tmp 63) 27 9 rfl w.heap.size 5 i0 Try.underlying27 Try.underlying9 hi hz0 hz1 hz2 _ _ _ rfl HO1.out P rfl (by unfold maxLen; omega) (by omega) hs1 ?_)
    intro v2 w2 own2 grow2 _
    have hb2 : Below w.heap.size w w2 := hb1.grown grow2 hs1 (fun j hj => (HO1.out.lt j hj).1)
    have HO2 : Hid (w2.ownsRow w.heap.size 5 1 v2 P.data.toList.length (bytesV P.data.toList)) := own_cast own2 (by rw [size_list]) (by rw [strCells_eq])
    have hs2 := hb2.size
    clear own2 grow2 HO1
    go_wp2_with (at_builtin; refine wpList_append_own _ rfl (.tmp 65) (.tmp 67) 27 rfl w.heap.size 5 i0 (.int .u8 0) 1 1 Try.underlying27 hi hz0 hz1 hz2 rfl (by decide) _ _ _ rfl (HO2.out.alloc _) ⟨w2.heap.size, 0, none⟩ 1 1 [.int .u8 q] rfl rfl (cell_one_new _ _ _) (by intro u hu; simp at hu; subst hu; rfl) (by rw [size_list]; unfold maxLen; omega) (by rw [size_list]; omega) (by simp; omega) ?_)
    intro v3 w3 own3 grow3 _
    have hb3 : Below w.heap.size w w3 := (hb2.alloc hs2 _).grown grow3 (by simp; omega) (fun j hj => (HO2.out.lt j hj).1)
    have HO3 : Hid (w3.ownsRow w.heap.size 5 1 v3 (P.data.toList ++ [qb]).length (bytesV (P.data.toList ++ [qb]))) := own_cast own3 (by simp) (by rw [bytesV_append, Hq.out]; rfl)
    have hs3 := hb3.size
    clear own3 grow3 HO2
    go_wp2_with fail
    refine (appendEscaped_any w.heap.size v3 (P.data.toList ++ [qb]) q B w3 (by omega) (by simp; omega) hs3 HO3.out).mono ?_
    rintro e w4 ⟨v4, rfl, own4, hb4'⟩
    have hb4 : Below w.heap.size w w4 := hb3.trans hb4'
    have HO4 : Hid (w4.ownsRow w.heap.size 5 1 v4 L4.length (bytesV L4)) := own_cast own4 (by rw [H4.out]) (by rw [H4.out])
    have hs4 := hb4.size
    clear own4 hb4' HO3
    go_wp2_with (at_builtin; refine wpList_append_own _ rfl (.tmp 73) (.tmp 75) 27 rfl w.heap.size 5 i0 (.int .u8 0) 1 1 Try.underlying27 hi hz0 hz1 hz2 rfl (by decide) _ _ _ rfl (HO4.out.alloc _) ⟨w4.heap.size, 0, none⟩ 1 1 [.int .u8 q] rfl rfl (cell_one_new _ _ _) (by intro u hu; simp at hu; subst hu; rfl) (by unfold maxLen; omega) (by omega) (by simp; omega) ?_)
    intro v5 w5 own5 grow5 _
    have hb5 : Below w.heap.size w w5 := (hb4.alloc hs4 _).grown grow5 (by simp; omega) (fun j hj => (HO4.out.lt j hj).1)
    have HO5 : Hid (w5.ownsRow w.heap.size 5 1 v5 L5.length (bytesV L5)) := own_cast own5 (by rw [H5.out]; simp) (by rw [H5.out, bytesV_append, Hq.out]; rfl)
    have hs5 := hb5.size
    clear own5 grow5 HO4
    obtain ⟨g5, c5, hv5⟩ := own_shape HO5.out (by omega)
    rw [hv5] at HO5 ⊢
    clear hv5
    go_wp2_with (at_builtin; refine Lib.wpList_append_own_string _ rfl (.tmp 79) (.tmp 80) 27 9 rfl w.heap.size 5 i0 Try.underlying27 Try.underlying9 hi hz0 hz1 hz2 _ _ _ rfl HO5.out T rfl (by unfold maxLen; omega) (by omega) hs5 ?_)
    intro v6 w6 own6 grow6 _
    have hb6 : Below w.heap.size w w6 := hb5.grown grow6 hs5 (fun j hj => (HO5.out.lt j hj).1)
    have HO6 : Hid (w6.ownsRow w.heap.size 5 1 v6 L6.length (bytesV L6)) := own_cast own6 (by rw [H6.out]; simp) (by rw [H6.out, bytesV_append, strCells_eq])
    clear own6 grow6 HO5
    obtain ⟨g6, c6, hv6⟩ := own_shape HO6.out (by omega)
    rw [hv6] at HO6 ⊢
    clear hv6
    have hcv := run_convert_bytes_back (P := Try.prog) w6 27 9 5 ⟨g6, 0, none⟩ c6 L6 Try.underlying27 Try.underlying5 Try.underlying9 (fun j hj => HO6.out.cells (g := g6) rfl j _ (by simp [bytesV, hj]))
    go_wp2_with fail
    refine (quoteEnd_any ⟨L6.toArray⟩ P.data.toList B.data.toList T.data.toList qb w6 P.size L5.length (has q B.data.toList) rfl HR.out HD.out (by show L6.toArray.size ≤ _; simp; omega) HL.out HT.out).mono ?_
    rintro e w7 ⟨rfl, hw7⟩
    obtain rfl := hw7.symm
    go_wp2_with fail
    refine (hasByte_any B q _ (by unfold maxLen; omega)).mono ?_
    rintro e w8 ⟨rfl, hw8⟩
    obtain rfl := hw8.symm
    go_wp2
    go_ret
    exact ⟨by simp, hb6⟩

theorem law_any (P B T : ByteArray) (q : Int) (w : World) (hP : P.size ≤ maxLen) (hB : B.size ≤ maxLen) (hT : T.size ≤ maxLen) (hq : (Lit.int .u8 q).wf = true) :
    Calls Try.prog 5 #[.string P, .int .u8 q, .string B, .string T] w fun e w' => e = .returned (.bool true) ∧ Below w.heap.size w w' := by
  obtain ⟨qb, rfl⟩ := byte_of q hq
  by_cases hsz : (P.size : Int) + B.size + T.size ≤ 1048576
  · by_cases ht : ∀ h : 0 < T.size, ((T[0].toNat : Int) == (qb.toNat : Int)) = false
    · exact law_main P B T qb w hsz ht
    · have h2 : ∃ h : 0 < T.size, ((T[0].toNat : Int) == (qb.toNat : Int)) = true := by
        by_cases h0 : 0 < T.size
        · refine ⟨h0, ?_⟩
          cases hc : ((T[0].toNat : Int) == (qb.toNat : Int))
          · exact absurd (fun _ => hc) ht
          · rfl
        · exact absurd (fun h => absurd h h0) ht
      obtain ⟨h0, h1⟩ := h2
      clear ht hP hB hT hq
      go_enter Try.func5, Try.ntmps5
      go_wp2_with (go_at_call 20; refine (bytes_yes _ _ _ _ _ hsz).mono ?_; rintro e w' ⟨rfl, hw⟩; obtain rfl := hw.symm)
      go_ret
      exact ⟨rfl, Below.refl _ _⟩
  · go_enter Try.func5, Try.ntmps5
    go_wp2_with (go_at_call 20; refine (bytes_no _ _ _ _ _ hP hB hT (by omega)).mono ?_; rintro e w' ⟨rfl, hw⟩; obtain rfl := hw.symm)
    go_ret
    exact ⟨rfl, Below.refl _ _⟩
end Go.Proofs.Qxb6001671a.quote
