/-
  THE WALKS OF FnQuoteEndFindsClosingQuote's CALLEES: zzHasByte, zzAppendEscaped, QuoteEnd.
-/
import Derived.Test.Qxb6001671aRows
import Derived.WalkKit
import Derived.WalkSpells
import Derived.WalkLawsBesides
import Derived.Lib.Strings
import Derived.Lib.AppendStr
namespace Go.Proofs.Qxb6001671a.quote
open Go.RowKit

/-! ### The plain functions -/
/-- A text with every q doubled. -/
def esc (q : Int) : List UInt8 → List UInt8
  | [] => []
  | c :: l => if (c.toNat : Int) == q then c :: c :: esc q l else c :: esc q l
def has (q : Int) (l : List UInt8) : Bool := l.any fun c => (c.toNat : Int) == q

theorem esc_append (q : Int) (a b : List UInt8) : esc q (a ++ b) = esc q a ++ esc q b := by
  induction a with
  | nil => rfl
  | cons c a ih => simp only [List.cons_append, esc, ih]; split <;> simp
theorem esc_len (q : Int) (a : List UInt8) : a.length ≤ (esc q a).length ∧ (esc q a).length ≤ 2 * a.length := by
  induction a with
  | nil => simp [esc]
  | cons c a ih => simp only [esc]; split <;> simp <;> omega
theorem take_snoc (s : ByteArray) (k : Nat) (h : k < s.size) : s.data.toList.take (k + 1) = s.data.toList.take k ++ [s[k]] := by
  rw [List.take_succ_eq_append_getElem (by simpa using h)]; rfl
theorem has_snoc (q : Int) (l : List UInt8) (c : UInt8) : has q (l ++ [c]) = (has q l || ((c.toNat : Int) == q)) := by simp [has]

theorem has_hit (q : Int) (s : ByteArray) (k : Nat) (h : k < s.size) (hq : ((s[k].toNat : Int) == q) = true) : has q s.data.toList = true := by
  simp only [has, List.any_eq_true]
  exact ⟨s[k], List.getElem_mem (l := s.data.toList) (by simpa using h), hq⟩
theorem ret_bool {a b : Bool} (h : a = b) : Ending.returned (.bool a) = .returned (.bool b) := by rw [h]

/-! ### zzHasByte -/
set_option maxHeartbeats 400000 in
theorem hasByte_any (s : ByteArray) (q : Int) (w : World) (hs : s.size ≤ maxLen) :
    Calls Try.prog 23 #[.string s, .int .u8 q] w fun e w' => e = .returned (.bool (has q s.data.toList)) ∧ w' = w := by
  unfold maxLen at hs
  go_enter Try.func23, Try.ntmps23
  go_wp2
  go_loop [5] (fun i => ∃ k : Nat, k ≤ s.size ∧ i = .int .i64 k ∧ Hid (has q (s.data.toList.take k) = false)) (fun i => s.size - (intOf i).toNat)
  case atStart => exact ⟨0, Nat.zero_le _, rfl, rfl⟩
  case round =>
    obtain ⟨k, hk, rfl, hno⟩ := hrel
    by_cases hlt : k < s.size
    · have HS : Hid (has q (s.data.toList.take (k + 1)) = ((s[k].toNat : Int) == q)) := by
        have h1 := has_snoc q (s.data.toList.take k) s[k]
        rw [← take_snoc s k hlt, hno.out, Bool.false_or] at h1
        exact h1
      go_wp2
      · go_ret
        exact ⟨ret_bool (has_hit q s k hlt (by assumption)).symm, rfl⟩
      · go_round
        case rel => exact ⟨k + 1, by omega, by go_num, by rw [Hid, HS.out]; assumption⟩
        case measure => simp [intOf]; omega
    · go_wp2
      go_ret
      have h1 := hno.out
      rw [List.take_of_length_le (by simp; omega)] at h1
      exact ⟨ret_bool h1.symm, rfl⟩

/-! ### zzAppendEscaped: the bytes of the body, every q doubled, behind what the slice owns -/
theorem Try.info5 : (Try.prog.info? 5).map (fun i => (i.zero, i.size, i.bytes)) = some (some (.int .u8 0), 1, 1) := by kernel_rfl
/-- Bytes as cells. -/
def bytesV (l : List UInt8) : List Value := l.map fun c => .int .u8 (c.toNat : Int)
theorem bytesV_append (a b : List UInt8) : bytesV (a ++ b) = bytesV a ++ bytesV b := by simp [bytesV]

theorem own_cast {w : World} {B : Nat} {v : Value} {n n' : Nat} {xs xs' : List Value} (h : w.ownsRow B 5 1 v n xs) (hn : n = n') (hx : xs = xs') : w.ownsRow B 5 1 v n' xs' := by
  subst hn; subst hx; exact h
theorem esc_step (q : Int) (s : ByteArray) (k : Nat) (h : k < s.size) : esc q (s.data.toList.take (k + 1)) = esc q (s.data.toList.take k) ++ (if ((s[k].toNat : Int) == q) then [s[k], s[k]] else [s[k]]) := by
  rw [take_snoc s k h, esc_append]
  congr 1

set_option maxRecDepth 100000 in
set_option maxHeartbeats 1000000 in
theorem appendEscaped_any (B : Nat) (v : Value) (xs : List UInt8) (q : Int) (s : ByteArray) (w : World) (hs : s.size ≤ 1048576) (hx : xs.length ≤ 4194304)
    (hB : B ≤ w.heap.size) (hown : w.ownsRow B 5 1 v xs.length (bytesV xs)) :
    Calls Try.prog 21 #[v, .int .u8 q, .string s] w fun e w' => ∃ v', e = .returned v' ∧ w'.ownsRow B 5 1 v' (xs ++ esc q s.data.toList).length (bytesV (xs ++ esc q s.data.toList)) ∧ Below B w w' := by
  obtain ⟨i0, hi, hz0, hz1, hz2⟩ := info_parts Try.info5
  have H0 : Hid (w.ownsRow B 5 1 v xs.length (bytesV xs)) := hown
  clear hown
  go_enter Try.func21, Try.ntmps21
  go_wp2
  go_loopw [0, 7] (fun u i wr => ∃ k : Nat, k ≤ s.size ∧ i = .int .i64 k ∧ Hid (wr.ownsRow B 5 1 u (xs ++ esc q (s.data.toList.take k)).length (bytesV (xs ++ esc q (s.data.toList.take k)))) ∧ Below B w wr)
    (fun _ i _ => s.size - (intOf i).toNat)
  case atStart => exact ⟨0, Nat.zero_le _, rfl, by simpa [esc] using H0, Below.refl _ _⟩
  case round =>
    obtain ⟨k, hk, rfl, hrow, hbel⟩ := hrel
    have hBr : B ≤ wr.heap.size := Nat.le_trans hB hbel.size
    have hel := (esc_len q (s.data.toList.take k)).2
    have htl : (s.data.toList.take k).length ≤ k := List.length_take_le _ _
    by_cases hlt : k < s.size
    · have HE : Hid (esc q (s.data.toList.take (k + 1)) = esc q (s.data.toList.take k) ++ (if ((s[k].toNat : Int) == q) then [s[k], s[k]] else [s[k]])) := esc_step q s k hlt
      by_cases hq : ((s[k].toNat : Int) == q) = true
      · go_wp2_with (first
          | (at_builtin; refine wpList_append_own _ rfl (.tmp 14) (.tmp 18) 27 rfl B 5 i0 (.int .u8 0) 1 1 Try.underlying27 hi hz0 hz1 hz2 rfl (by decide) _ _ _ rfl (hrow.out.alloc _) ⟨wr.heap.size, 0, none⟩ 1 1 [.int .u8 (s[k].toNat : Int)] rfl rfl ?c1 ?c2 ?c3 ?c4 ?c5 ?_))
        case c1 => exact cell_one_new _ _ _
        case c2 => intro u hu; simp at hu; subst hu; rfl
        case c3 => simp only [List.length_append, maxLen]; omega
        case c4 => simp only [List.length_append]; omega
        case c5 => simp; omega
        intro v1 w1 hown1 hgrow1 _
        have hb1 : Below B w w1 := (hbel.alloc hBr _).grown hgrow1 (by simp; omega) (fun j hj => (hrow.out.lt j hj).1)
        have HO1 : Hid (w1.ownsRow B 5 1 v1 ((xs.length + (esc q (s.data.toList.take k)).length) + 1) (bytesV (xs ++ esc q (s.data.toList.take k)) ++ [.int .u8 (s[k].toNat : Int)])) := hown1
        have hBr1 : B ≤ w1.heap.size := Nat.le_trans hB hb1.size
        clear hown1 hgrow1 hrow
        go_wp2_with (first
          | (at_builtin; refine wpList_append_own _ rfl (.tmp 25) (.tmp 27) 27 rfl B 5 i0 (.int .u8 0) 1 1 Try.underlying27 hi hz0 hz1 hz2 rfl (by decide) _ _ _ rfl (HO1.out.alloc _) ⟨w1.heap.size, 0, none⟩ 1 1 [.int .u8 q] rfl rfl ?d1 ?d2 ?d3 ?d4 ?d5 ?_))
        case d1 => exact cell_one_new _ _ _
        case d2 => intro u hu; simp at hu; subst hu; rfl
        case d3 => simp only [maxLen]; omega
        case d4 => omega
        case d5 => simp; omega
        intro v2 w2 hown2 hgrow2 _
        have hb2 : Below B w w2 := (hb1.alloc hBr1 _).grown hgrow2 (by simp; omega) (fun j hj => (HO1.out.lt j hj).1)
        have HO2 : Hid (w2.ownsRow B 5 1 v2 (xs ++ esc q (s.data.toList.take (k + 1))).length (bytesV (xs ++ esc q (s.data.toList.take (k + 1))))) := by
          have eq : (s[k].toNat : Int) = q := by simpa using hq
          refine own_cast hown2 ?_ ?_
          · rw [HE.out, if_pos hq]; simp; omega
          · rw [HE.out, if_pos hq, ← List.append_assoc, bytesV_append (xs ++ esc q _) [s[k], s[k]]]; simp [bytesV, eq]
        clear hown2 hgrow2 HO1
        go_wp2
        go_roundw
        case rel => exact ⟨k + 1, by omega, by go_num, HO2, hb2⟩
        case measure => simp [intOf]; omega
      · have hq' : ((s[k].toNat : Int) == q) = false := by simpa using hq
        go_wp2_with (first
          | (at_builtin; refine wpList_append_own _ rfl (.tmp 14) (.tmp 18) 27 rfl B 5 i0 (.int .u8 0) 1 1 Try.underlying27 hi hz0 hz1 hz2 rfl (by decide) _ _ _ rfl (hrow.out.alloc _) ⟨wr.heap.size, 0, none⟩ 1 1 [.int .u8 (s[k].toNat : Int)] rfl rfl ?e1 ?e2 ?e3 ?e4 ?e5 ?_))
        case e1 => exact cell_one_new _ _ _
        case e2 => intro u hu; simp at hu; subst hu; rfl
        case e3 => simp only [List.length_append, maxLen]; omega
        case e4 => simp only [List.length_append]; omega
        case e5 => simp; omega
        intro v1 w1 hown1 hgrow1 _
        have hb1 : Below B w w1 := (hbel.alloc hBr _).grown hgrow1 (by simp; omega) (fun j hj => (hrow.out.lt j hj).1)
        have HO2 : Hid (w1.ownsRow B 5 1 v1 (xs ++ esc q (s.data.toList.take (k + 1))).length (bytesV (xs ++ esc q (s.data.toList.take (k + 1))))) := by
          refine own_cast hown1 ?_ ?_
          · rw [HE.out, if_neg hq]; simp; omega
          · rw [HE.out, if_neg hq, ← List.append_assoc, bytesV_append (xs ++ esc q _) [s[k]]]; simp [bytesV]
        clear hown1 hgrow1 hrow
        go_wp2
        go_roundw
        case rel => exact ⟨k + 1, by omega, by go_num, HO2, hb1⟩
        case measure => simp [intOf]; omega
    · go_wp2_with fail
      go_ret
      have h1 := hrow.out
      rw [List.take_of_length_le (by simp; omega)] at h1
      exact ⟨_, rfl, h1, hbel⟩

/-! ### QuoteEnd at a quoted text -/
theorem at_of (S : ByteArray) (n : Nat) (c : UInt8) (h : S.data.toList[n]? = some c) : ∃ hn : n < S.size, S[n] = c := by
  obtain ⟨hn, e⟩ := List.getElem?_eq_some_iff.1 h
  exact ⟨by simpa using hn, e⟩
/-- What stands at the place that the body's first k bytes come to. -/
theorem place (S : ByteArray) (P B T : List UInt8) (qb : UInt8) (k j : Nat) (hS : S.data.toList = P ++ qb :: (esc qb.toNat B ++ qb :: T)) :
    S.data.toList[P.length + 1 + (esc qb.toNat (B.take k)).length + j]? = (esc qb.toNat (B.drop k) ++ qb :: T)[j]? := by
  have e : esc qb.toNat B = esc qb.toNat (B.take k) ++ esc qb.toNat (B.drop k) := by rw [← esc_append, List.take_append_drop]
  have e2 : S.data.toList = (P ++ qb :: esc qb.toNat (B.take k)) ++ (esc qb.toNat (B.drop k) ++ qb :: T) := by rw [hS, e]; simp
  rw [e2, List.getElem?_append_right (by simp; omega)]
  congr 1
  simp
  omega

/-- The byte at the place of the body's k-th: not the quote. -/
theorem at_plain (S : ByteArray) (P B T : List UInt8) (qb : UInt8) (k p n : Nat) (hp : p < S.size) (HQ : S[p] = qb) (hS : S.data.toList = P ++ qb :: (esc qb.toNat B ++ qb :: T)) (hk : k < B.length)
    (Hn : n = P.length + 1 + (esc qb.toNat (B.take k)).length) (hne : B[k] ≠ qb) :
    ∃ hn : n < S.size, ((S[n].toNat : Int) != (S[p].toNat : Int)) = true ∧ n + 1 = P.length + 1 + (esc qb.toNat (B.take (k + 1))).length ∧ has qb.toNat (B.take (k + 1)) = has qb.toNat (B.take k) := by
  have h0 := place S P B T qb k 0 hS
  have hc : ((B[k].toNat : Int) == (qb.toNat : Int)) = false := by
    simp; intro h; exact hne (UInt8.toNat_inj.1 (by omega))
  have hd : esc qb.toNat (B.drop k) = B[k] :: esc qb.toNat (B.drop (k + 1)) := by
    rw [List.drop_eq_getElem_cons hk, esc, if_neg (by simp [hc])]
  rw [hd, Nat.add_zero, ← Hn] at h0
  obtain ⟨hn, e⟩ := at_of S n B[k] (by simpa using h0)
  refine ⟨hn, ?_, ?_, ?_⟩
  · rw [e, HQ]; simpa using hc
  · rw [List.take_succ_eq_append_getElem hk, esc_append, Hn]; simp [esc, hc]; omega
  · rw [List.take_succ_eq_append_getElem hk, has_snoc, hc, Bool.or_false]
/-- The byte at the place of the body's k-th: the quote, doubled. -/
theorem at_quote (S : ByteArray) (P B T : List UInt8) (qb : UInt8) (k p n : Nat) (hp : p < S.size) (HQ : S[p] = qb) (hS : S.data.toList = P ++ qb :: (esc qb.toNat B ++ qb :: T)) (hk : k < B.length)
    (Hn : n = P.length + 1 + (esc qb.toNat (B.take k)).length) (he : B[k] = qb) :
    ∃ (hn : n < S.size) (hn1 : n + 1 < S.size), ((S[n].toNat : Int) != (S[p].toNat : Int)) = false ∧ ((S[n + 1].toNat : Int) == (S[p].toNat : Int)) = true ∧ n + 1 + 1 = P.length + 1 + (esc qb.toNat (B.take (k + 1))).length ∧ has qb.toNat (B.take (k + 1)) = true := by
  have h0 := place S P B T qb k 0 hS
  have h1 := place S P B T qb k 1 hS
  have hc : ((B[k].toNat : Int) == (qb.toNat : Int)) = true := by simp [he]
  have hd : esc qb.toNat (B.drop k) = B[k] :: B[k] :: esc qb.toNat (B.drop (k + 1)) := by
    rw [List.drop_eq_getElem_cons hk, esc, if_pos hc]
  rw [hd, Nat.add_zero, ← Hn] at h0
  rw [hd, ← Hn] at h1
  obtain ⟨hn, e⟩ := at_of S n B[k] (by simpa using h0)
  obtain ⟨hn1, e1⟩ := at_of S (n + 1) B[k] (by simpa using h1)
  refine ⟨hn, hn1, ?_, ?_, ?_, ?_⟩
  · rw [e, HQ, he]; simp
  · rw [e1, HQ, he]; simp
  · rw [List.take_succ_eq_append_getElem hk, esc_append, Hn]; simp [esc, hc]; omega
  · rw [List.take_succ_eq_append_getElem hk, has_snoc, hc, Bool.or_true]
/-- Behind the body: the closing quote, and no quote behind it. -/
theorem at_close (S : ByteArray) (P B T : List UInt8) (qb : UInt8) (k p n : Nat) (hp : p < S.size) (HQ : S[p] = qb) (hS : S.data.toList = P ++ qb :: (esc qb.toNat B ++ qb :: T)) (hT : ∀ c, T.head? = some c → c ≠ qb) (hk : ¬ k < B.length)
    (Hn : n = P.length + 1 + (esc qb.toNat (B.take k)).length) :
    ∃ hn : n < S.size, ((S[n].toNat : Int) != (S[p].toNat : Int)) = false ∧ (∀ hn1 : n + 1 < S.size, ((S[n + 1].toNat : Int) == (S[p].toNat : Int)) = false) := by
  have h0 := place S P B T qb k 0 hS
  have h1 := place S P B T qb k 1 hS
  have hd : esc qb.toNat (B.drop k) = [] := by rw [List.drop_eq_nil_of_le (by omega)]; rfl
  rw [hd, Nat.add_zero, ← Hn] at h0
  rw [hd, ← Hn] at h1
  obtain ⟨hn, e⟩ := at_of S n qb (by simpa using h0)
  refine ⟨hn, by rw [e, HQ]; simp, fun hn1 => ?_⟩
  have h2 : S.data.toList[n + 1]? = some S[n + 1] := List.getElem?_eq_getElem (l := S.data.toList) (by simpa using hn1)
  rw [h2] at h1
  have h3 := hT S[n + 1] (by rw [List.head?_eq_getElem?]; simpa using h1.symm)
  rw [HQ]
  simp
  intro h; exact h3 (UInt8.toNat_inj.1 (by omega))

set_option maxRecDepth 100000 in
set_option maxHeartbeats 1000000 in
theorem quoteEnd_any (S : ByteArray) (P B T : List UInt8) (qb : UInt8) (w : World) (p r : Nat) (d0 : Bool) (hpl : p = P.length) (hr : r = P.length + 1 + (esc qb.toNat B).length + 1) (hd0 : d0 = has qb.toNat B)
    (hs : S.size ≤ 8388608) (hS : S.data.toList = P ++ qb :: (esc qb.toNat B ++ qb :: T)) (hT : ∀ c, T.head? = some c → c ≠ qb) :
    Calls Try.prog 22 #[.string S, .int .i64 p] w fun e w' => e = .returned (.tuple #[.int .i64 r, .bool d0, .bool true]) ∧ w' = w := by
  have Hp : Hid (p = P.length) := hpl
  have Hr : Hid (r = P.length + 1 + (esc qb.toNat B).length + 1) := hr
  have Hd0 : Hid (d0 = has qb.toNat B) := hd0
  clear hpl hr hd0
  have hp0 : S.data.toList[p]? = some qb := by rw [hS, Hp.out]; simp
  obtain ⟨hp, eq⟩ := at_of S p qb hp0
  have HQ : Hid (S[p] = qb) := eq
  have HS : Hid (S.data.toList = P ++ qb :: (esc qb.toNat B ++ qb :: T)) := hS
  have HT : Hid (∀ c, T.head? = some c → c ≠ qb) := hT
  clear hp0 eq hS hT
  go_enter Try.func22, Try.ntmps22
  go_wp2
  go_loop [5, 8] (fun d i => ∃ k n : Nat, k ≤ B.length ∧ Hid (n = P.length + 1 + (esc qb.toNat (B.take k)).length) ∧ i = .int .i64 n ∧ d = .bool (has qb.toNat (B.take k))) (fun _ i => S.size - (intOf i).toNat)
  case atStart => exact ⟨0, p + 1, Nat.zero_le _, by rw [Hid, Hp.out]; simp [esc], by go_num, rfl⟩
  case round =>
    obtain ⟨k, n, hk, Hn, rfl, rfl⟩ := hrel
    by_cases hlt : k < B.length
    · by_cases he : B[k] = qb
      · obtain ⟨hn, hn1, t1, t2, e1, e2⟩ := at_quote S P B T qb k p n hp HQ.out HS.out hlt Hn.out he
        have E1 : Hid (n + 1 + 1 = P.length + 1 + (esc qb.toNat (B.take (k + 1))).length) := e1
        have E2 : Hid (has qb.toNat (B.take (k + 1)) = true) := e2
        clear e1 e2 he
        go_wp2
        go_round
        case rel => exact ⟨k + 1, n + 1 + 1, by omega, E1, by go_num, by rw [E2.out]⟩
        case measure => simp [intOf]; omega
      · obtain ⟨hn, t1, e1, e2⟩ := at_plain S P B T qb k p n hp HQ.out HS.out hlt Hn.out he
        have E1 : Hid (n + 1 = P.length + 1 + (esc qb.toNat (B.take (k + 1))).length) := e1
        have E2 : Hid (has qb.toNat (B.take (k + 1)) = has qb.toNat (B.take k)) := e2
        clear e1 e2 he
        go_wp2
        go_round
        case rel => exact ⟨k + 1, n + 1, by omega, E1, by go_num, by rw [E2.out]⟩
        case measure => simp [intOf]; omega
    · obtain ⟨hn, t1, t2⟩ := at_close S P B T qb k p n hp HQ.out HS.out HT.out hlt Hn.out
      have E1 : Hid ((r : Int) = (n : Int) + 1) := by
        have h := Hn.out
        rw [List.take_of_length_le (by omega)] at h
        rw [Hid, Hr.out, h]; omega
      have E2 : Hid (d0 = has qb.toNat (B.take k)) := by rw [Hid, List.take_of_length_le (by omega)]; exact Hd0.out
      by_cases hn1 : n + 1 < S.size
      · have t3 := t2 hn1
        clear t2
        go_wp2
        go_ret3
        exact ⟨by rw [E1.out, E2.out]; rfl, rfl⟩
      · clear t2
        go_wp2
        go_ret3
        exact ⟨by rw [E1.out, E2.out]; rfl, rfl⟩
end Go.Proofs.Qxb6001671a.quote
