/-
  THE WALK OF FnParamNumbersQuestionMarksInOrder OUT OF ITS CALLEES' CONTRACTS.
-/
import Derived.Test.Qxb6001671aPq
namespace Go.Proofs.Qxb6001671a.prm
open Go.RowKit
set_option linter.unusedVariables false

/-- Bytes as cells. -/
def bytesV (l : List UInt8) : List Value := l.map fun c => .int .u8 (c.toNat : Int)
theorem bytesV_append (a b : List UInt8) : bytesV (a ++ b) = bytesV a ++ bytesV b := by simp [bytesV]
theorem own_cast {w : World} {B : Nat} {v : Value} {n n' : Nat} {xs xs' : List Value} (h : w.ownsRow B 5 1 v n xs) (hn : n = n') (hx : xs = xs') : w.ownsRow B 5 1 v n' xs' := by
  subst hn; subst hx; exact h
theorem own_other {w : World} {B e size G l y : Nat} {xs : List Value} (h : w.ownsRow B e size (.slice (some ⟨G, 0, none⟩) l y) l xs) {g j : Nat} (hne : g ≠ G) (v : Value) : (w.setCell ⟨g, j, none⟩ v).ownsRow B e size (.slice (some ⟨G, 0, none⟩) l y) l xs :=
  h.kept (grown_set (grown_refl w _) j v) (.inr (by intro hx; simp [Value.ownBlock] at hx; exact hne hx.symm))
/-- What loop 3 has laid behind k rounds. -/
structure Laid (w3 wr : World) (G n y k l : Nat) (ps : List ByteArray) : Prop where
  len : l = (cat ps k).length
  own : wr.ownsRow G 5 1 (.slice (some ⟨G, 0, none⟩) l y) l (bytesV (cat ps k))
  pos : NumBlk .i32 wr (G + 1) 21 (n + 1) k fun j => (cat ps j).length
  fin : NumBlk .i32 wr (G + 1 + 1) 21 (n + 1) k fun j => (cat ps (j + 1)).length
  kinds : NumBlk .u8 wr (G + 1 + 1 + 1) 5 (n + 1) k fun j => if j < n then 6 else 0
  below : Below G w3 wr
theorem Laid.start (w3 : World) (n y : Nat) (ps : List ByteArray) (hy : y ≤ maxLen) :
    Laid w3 ((((w3.alloc (.cells (madeCells #[.int .u8 0] y) 5)).alloc (.cells (madeCells #[.int .i32 0] (n + 1)) 21)).alloc (.cells (madeCells #[.int .i32 0] (n + 1)) 21)).alloc (.cells (madeCells #[.int .u8 0] (n + 1)) 5)) w3.heap.size n y 0 0 ps := by
  have s1 : (w3.alloc (.cells (madeCells #[.int .u8 0] y) 5)).heap.size = w3.heap.size + 1 := by simp
  have s2 : ((w3.alloc (.cells (madeCells #[.int .u8 0] y) 5)).alloc (.cells (madeCells #[.int .i32 0] (n + 1)) 21)).heap.size = w3.heap.size + 1 + 1 := by simp
  have s3 : (((w3.alloc (.cells (madeCells #[.int .u8 0] y) 5)).alloc (.cells (madeCells #[.int .i32 0] (n + 1)) 21)).alloc (.cells (madeCells #[.int .i32 0] (n + 1)) 21)).heap.size = w3.heap.size + 1 + 1 + 1 := by simp
  refine ⟨rfl, ?_, ?_, ?_, ?_, ?_⟩
  · exact (((World.ownsRow_made w3 _ y (Nat.le_refl _) hy (by rw [size_madeCells, Nat.mul_one])).alloc _).alloc _).alloc _
  · have h := NumBlk.made .i32 (w3.alloc (.cells (madeCells #[.int .u8 0] y) 5)) 21 (.int .i32 0) (n + 1) fun j => (cat ps j).length
    rw [s1] at h
    exact (h.alloc _).alloc _
  · have h := NumBlk.made .i32 ((w3.alloc (.cells (madeCells #[.int .u8 0] y) 5)).alloc (.cells (madeCells #[.int .i32 0] (n + 1)) 21)) 21 (.int .i32 0) (n + 1) fun j => (cat ps (j + 1)).length
    rw [s2] at h
    exact h.alloc _
  · have h := NumBlk.made .u8 (((w3.alloc (.cells (madeCells #[.int .u8 0] y) 5)).alloc (.cells (madeCells #[.int .i32 0] (n + 1)) 21)).alloc (.cells (madeCells #[.int .i32 0] (n + 1)) 21)) 5 (.int .u8 0) (n + 1) fun j => if j < n then 6 else 0
    rw [s3] at h
    exact h
  · exact ((((Below.refl _ _).alloc (Nat.le_refl _) _).alloc (by simp) _).alloc (by simp; omega) _).alloc (by simp; omega) _

theorem Laid.step {w3 wr wA : World} {G n y k l : Nat} {ps : List ByteArray} (h : Laid w3 wr G n y k l ps) (hk : k < n) (hx : k < ps.length) (s : ByteArray) (hs : s = ps[k])
    (own : wA.ownsRow G 5 1 (.slice (some ⟨G, 0, none⟩) (l + s.size) y) (l + s.size) (bytesV (cat ps k) ++ Lib.strCells s)) (gr : (wr.setCell ⟨G + 1, k, none⟩ (.int .i32 l)).grownBy wA (some G)) (e : Int) (he : e = (l : Int) + s.size) :
    Laid w3 ((wA.setCell ⟨G + 1 + 1, k, none⟩ (.int .i32 e)).setCell ⟨G + 1 + 1 + 1, k, none⟩ (.int .u8 6)) G n y (k + 1) (l + s.size) ps := by
  have hlen : (cat ps (k + 1)).length = l + s.size := by rw [cat_len_succ ps k hx, h.len, hs]
  refine ⟨hlen.symm, ?_, ?_, ?_, ?_, ?_⟩
  · refine own_other (own_other (own_cast own rfl ?_) (by omega) _) (by omega) _
    rw [cat_succ ps k hx, bytesV_append, hs]; rfl
  · refine ((((h.pos.step (by omega) l ?_).grown gr ?_).other ⟨G + 1 + 1, k, none⟩ (by simp) _).other ⟨G + 1 + 1 + 1, k, none⟩ (by simp) _)
    · rw [h.len]
    · intro e; simp at e
  · refine (((h.fin.other ⟨G + 1, k, none⟩ (by simp) _).grown gr ?_).step (by omega) e ?_).other ⟨G + 1 + 1 + 1, k, none⟩ (by simp) _
    · intro e; simp at e; omega
    · rw [he, hlen]; omega
  · refine (((h.kinds.other ⟨G + 1, k, none⟩ (by simp; omega) _).grown gr ?_).other ⟨G + 1 + 1, k, none⟩ (by simp) _).step (by omega) 6 ?_
    · intro e; simp at e; omega
    · rw [if_pos hk]
  · have b1 : Below G w3 (wr.setCell ⟨G + 1, k, none⟩ (.int .i32 l)) := h.below.setCell (by simp) _
    have b2 : Below G w3 wA := b1.grown gr (by have := h.pos.lt; simp [World.setCell]; omega) (fun j hj => by simp at hj; omega)
    exact (b2.setCell (by simp; omega) _).setCell (by simp; omega) _

theorem Laid.last {w3 wr : World} {G n y l : Nat} {ps : List ByteArray} (h : Laid w3 wr G n y n l ps) (hn : ps.length = n) :
    ∀ W, W = ((wr.setCell ⟨G + 1, n, none⟩ (.int .i32 l)).setCell ⟨G + 1 + 1, n, none⟩ (.int .i32 l)).setCell ⟨G + 1 + 1 + 1, n, none⟩ (.int .u8 0) →
      W.ownsRow G 5 1 (.slice (some ⟨G, 0, none⟩) l y) l (bytesV (cat ps n)) ∧ NumBlk .i32 W (G + 1) 21 (n + 1) (n + 1) (fun j => (cat ps j).length) ∧ NumBlk .i32 W (G + 1 + 1) 21 (n + 1) (n + 1) (fun j => (cat ps (j + 1)).length) ∧
      NumBlk .u8 W (G + 1 + 1 + 1) 5 (n + 1) (n + 1) (fun j => if j < n then 6 else 0) ∧ Below G w3 W := by
  rintro W rfl
  have hcp : cat ps (n + 1) = cat ps n := by rw [cat_past ps (n + 1) (by omega), hn]
  refine ⟨?_, ?_, ?_, ?_, ?_⟩
  · exact own_other (own_other (own_other h.own (by omega) _) (by omega) _) (by omega) _
  · exact ((h.pos.step (by omega) l (by rw [h.len])).other ⟨G + 1 + 1, n, none⟩ (by simp) _).other ⟨G + 1 + 1 + 1, n, none⟩ (by simp) _
  · exact ((h.fin.other ⟨G + 1, n, none⟩ (by simp) _).step (by omega) l (by rw [hcp, h.len])).other ⟨G + 1 + 1 + 1, n, none⟩ (by simp) _
  · exact ((h.kinds.other ⟨G + 1, n, none⟩ (by simp; omega) _).other ⟨G + 1 + 1, n, none⟩ (by simp) _).step (by omega) 0 (by rw [if_neg (by omega)])
  · exact ((h.below.setCell (by simp) _).setCell (by simp; omega) _).setCell (by simp; omega) _
/-- What loop 4 has done behind k rounds. -/
structure St (w7 wr : World) (S : ByteArray) (gP gT gL n k q : Nat) (ps : List ByteArray) : Prop where
  num : q = marks ps k
  par : Blk wr gP 83 (PS S gT (n + 1) k q)
  own : wr.ownsRow gL 48 3 (.slice (some ⟨gL, 0, none⟩) q n) q (litCells q)
  below : Below gP w7 wr

theorem below_grown {B : Nat} {a w w' : World} {g : Nat} (h : Below B a w) (hg : w.grownBy w' (some g)) (hB : B ≤ w.heap.size) (hr : B ≤ g) : Below B a w' := h.grown hg hB (fun k hk => by cases hk; exact hr)
/-- A round that finds a mark. -/
theorem St.yes {w7 wr wa wb : World} {S : ByteArray} {gP gT gL n k q : Nat} {ps : List ByteArray} (h : St w7 wr S gP gT gL n k q ps) (hL : gP < gL) (hx : k < ps.length) (hm : (ps[k].toList == [63]) = true)
    (hP : Blk wa gP 83 (PS S gT (n + 1) (k + 1 : Nat) (q + 1 : Nat))) (hg : wr.grownBy wa (some gP)) (o1 o2 : Obj)
    (own : wb.ownsRow gL 48 3 (.slice (some ⟨gL, 0, none⟩) (q + 1) n) (q + 1) (litCells q ++ [.int .i64 4, .string ⟨#[]⟩, .int .i64 q])) (gr : ((wa.alloc o1).alloc o2).grownBy wb (some gL)) :
    St w7 wb S gP gT gL n (k + 1) (q + 1) ps := by
  have hlt := h.par.lt
  have hs := hg.size
  refine ⟨by rw [marks_yes ps k hx hm, ← h.num], ?_, by rw [litCells_succ]; exact own, ?_⟩
  · exact ((hP.alloc o1).alloc o2).grown gr (by intro e; cases e; omega)
  · have b1 : Below gP w7 wa := below_grown h.below hg (by omega) (Nat.le_refl _)
    have b2 : Below gP w7 ((wa.alloc o1).alloc o2) := (b1.alloc (by omega) _).alloc (by simp; omega) _
    exact below_grown b2 gr (by simp; omega) (by omega)
/-- A round that finds none. -/
theorem St.no {w7 wr wa wb : World} {S : ByteArray} {gP gT gL n k q : Nat} {ps : List ByteArray} (h : St w7 wr S gP gT gL n k q ps) (hL : gP < gL) (hx : k < ps.length) (hm : (ps[k].toList == [63]) = false)
    (ha : Below wr.heap.size wr wa) (o1 : Obj) (hP : Blk wb gP 83 (PS S gT (n + 1) (k + 1 : Nat) q)) (hg : (wa.alloc o1).grownBy wb (some gP)) :
    St w7 wb S gP gT gL n (k + 1) q ps := by
  have hlt := h.par.lt
  have hs := ha.size
  have hg' : wr.grownBy wb (some gP) := grown_trans (grown_of_below (ha.alloc ha.size o1) _) hg
  refine ⟨by rw [marks_no ps k hx hm, ← h.num], hP, ?_, ?_⟩
  · exact h.own.kept hg' (.inr (by intro e; simp [Value.ownBlock] at e; omega))
  · exact below_grown h.below hg' (by omega) (Nat.le_refl _)

set_option maxRecDepth 100000 in
set_option maxHeartbeats 8000000 in
theorem law_main (po vo : Option Addr) (n m c d : Nat) (ps vs : List ByteArray) (w : World) (hn : n ≤ 65536) (hm : m ≤ 65536) (vP : View Value.string w po n c ps) (vV : View Value.string w vo m d vs) (hps : ∀ s ∈ ps, s.size ≤ maxLen) (hvs : ∀ s ∈ vs, s.size ≤ maxLen) :
    Calls Try.prog 9 #[.slice po n c, .slice vo m d] w fun e w' => e = .returned (.bool true) ∧ Below w.heap.size w w' := by
  have HP : Hid _ := vP
  have HV : Hid _ := vV
  have Hps : Hid _ := hps
  have Hvs : Hid _ := hvs
  clear vP vV hps hvs
  have d1 : decide ((65536 : Int) < (n : Int)) = false := by simp; omega
  have d2 : decide ((65536 : Int) < (m : Int)) = false := by simp; omega
  go_enter Try.func9, Try.ntmps9
  go_wp2_with fail
  refine (bytes_any po vo n m c d ps vs w (by unfold maxLen; omega) (by unfold maxLen; omega) HP.out HV.out Hps.out Hvs.out).mono ?_
  rintro e w1 ⟨⟨b, rfl⟩, rfl⟩
  cases b
  · go_wp2
    go_ret
    exact ⟨rfl, Below.refl _ _⟩
  go_wp2_with fail
  go_loop [5, 6] (fun s i => ∃ k z : Nat, k ≤ n ∧ i = .int .i64 k ∧ s = .int .i64 z ∧ z ≤ 4194304 ∧ Hid (16 * n + (cat ps k).length ≤ z ∧ (0 < k → z ≤ 1048576))) (fun _ i => n - (intOf i).toNat)
  case atStart => exact ⟨0, 16 * n + 16 * m, Nat.zero_le _, rfl, by go_num, by omega, ⟨by rw [cat_zero]; simp, by omega⟩⟩
  case round =>
    obtain ⟨k, z, hk, rfl, rfl, hz, HZ⟩ := hrel
    by_cases hlt : k < n
    · obtain ⟨b, off, hx, rfl, hc⟩ := HP.out.at hlt
      have hkI : (k : Int) < (n : Int) := by omega
      obtain ⟨s, Hs⟩ : ∃ s, Hid (s = ps[k]) := ⟨ps[k], rfl⟩
      rw [← Hs.out] at hc
      by_cases l1 : (1048576 : Int) < s.size
      · go_wp2
        go_ret
        exact ⟨rfl, Below.refl _ _⟩
      · by_cases l2 : (1048576 : Int) < z + s.size
        · go_wp2
          go_ret
          exact ⟨rfl, Below.refl _ _⟩
        · have HZ' : Hid (16 * n + (cat ps (k + 1)).length ≤ z + s.size ∧ (0 < k + 1 → z + s.size ≤ 1048576)) := by
            have h1 := cat_len_succ ps k hx
            have h2 := HZ.out.1
            rw [← Hs.out] at h1
            exact ⟨by omega, by omega⟩
          clear Hs hx HZ
          go_wp2
          go_round
          case rel => exact ⟨k + 1, z + s.size, by omega, by go_num, by go_num, by omega, HZ'⟩
          case measure => simp [intOf]; omega
    · have ek : k = n := by omega
      have Hcat : Hid ((cat ps ps.length).length ≤ 1048576 ∧ 16 * n + (cat ps ps.length).length ≤ z) := by
        have hl := HP.out.len
        have h := HZ.out
        rw [ek, ← hl] at h
        refine ⟨?_, by rw [← hl]; exact h.1⟩
        by_cases h0 : 0 < ps.length
        · have := h.2 h0; omega
        · have e0 : ps.length = 0 := by omega
          rw [e0, cat_zero]; simp
      clear ek HZ
      go_wp2_with fail
      go_loop [5, 7] (fun s i => ∃ k z : Nat, k ≤ m ∧ i = .int .i64 k ∧ s = .int .i64 z ∧ z ≤ 4194304 ∧ Hid (16 * n + (cat ps ps.length).length ≤ z)) (fun _ i => m - (intOf i).toNat)
      case atStart => exact ⟨0, z, Nat.zero_le _, rfl, rfl, hz, Hcat.out.2⟩
      case round =>
        obtain ⟨k2, y, hk2, rfl, rfl, hy, HY⟩ := hrel
        by_cases hlt2 : k2 < m
        · obtain ⟨b, off, hx, rfl, hc⟩ := HV.out.at hlt2
          have hkI : (k2 : Int) < (m : Int) := by omega
          obtain ⟨s, Hs⟩ : ∃ s, Hid (s = vs[k2]) := ⟨vs[k2], rfl⟩
          rw [← Hs.out] at hc
          by_cases l1 : (1048576 : Int) < s.size
          · go_wp2
            go_ret
            exact ⟨rfl, Below.refl _ _⟩
          · by_cases l2 : (1048576 : Int) < y + s.size
            · go_wp2
              go_ret
              exact ⟨rfl, Below.refl _ _⟩
            · have HY' : Hid (16 * n + (cat ps ps.length).length ≤ y + s.size) := by
                have h2 := HY.out
                rw [Hid]; omega
              clear Hs hx HY
              go_wp2
              go_round
              case rel => exact ⟨k2 + 1, y + s.size, by omega, by go_num, by go_num, by omega, HY'⟩
              case measure => simp [intOf]; omega
        · have HC : Hid ((cat ps ps.length).length ≤ 1048576) := Hcat.out.1
          clear Hcat
          go_wp2_with fail
          refine (cloneStrings_view _ _ _ ps _ (by omega) HP.out).mono ?_
          rintro e w2 ⟨po', c', gp, rfl, hc1, hp2, hb2⟩
          go_wp2_with fail
          refine (cloneStrings_view _ _ _ vs _ (by omega) (HV.out.keep hb2)).mono ?_
          rintro e w3 ⟨vo', d', gv, rfl, hc2, hv3, hb3⟩
          have hb3' : Below w.heap.size w w3 := below_here hb2 (Nat.le_refl _) hb3
          have HP3 : Hid (0 < n → po' = some ⟨gp, 0, none⟩ ∧ Blk w3 gp 9 (ps.map Value.string)) := fun h => ⟨(hp2 h).1, (hp2 h).2.keep hb3 (hp2 h).2.lt⟩
          have HV3 : Hid (0 < m → vo' = some ⟨gv, 0, none⟩ ∧ Blk w3 gv 9 (vs.map Value.string)) := hv3
          clear hp2 hv3 hb2 hb3
          obtain ⟨i0, hi, hz0, hz1, hz2⟩ := info_parts Try.info5
          have m0 := fun (wx : World) => run_make_wide (P := Try.prog) Try.underlying27 Try.info5 0 y (Nat.zero_le _) (by omega) (by unfold maxLen; omega) wx
          have m1 := fun (wx : World) => run_make_n (P := Try.prog) Try.underlying41 Try.info21 rfl (n + 1) (by omega) (by unfold maxLen; omega) wx
          have m2 := fun (wx : World) => run_make_n (P := Try.prog) Try.underlying27 Try.info5 rfl (n + 1) (by omega) (by unfold maxLen; omega) wx
          have en : ((n + 1 : Nat) : Int) = (n : Int) + 1 := by omega
          simp only [Value.cells, Nat.mul_one, Int.ofNat_zero] at m0
          rw [en] at m1 m2
          clear en
          go_wp2_with fail
          clear m0 m1 m2
          have hL := Laid.start w3 n y ps (by unfold maxLen; omega)
          obtain ⟨W4, HW4⟩ : ∃ W, Hid (W = (((w3.alloc (.cells (madeCells #[.int .u8 0] y) 5)).alloc (.cells (madeCells #[.int .i32 0] (n + 1)) 21)).alloc (.cells (madeCells #[.int .i32 0] (n + 1)) 21)).alloc (.cells (madeCells #[.int .u8 0] (n + 1)) 5)) := ⟨_, rfl⟩
          rw [← HW4.out] at hL ⊢
          clear HW4
          obtain ⟨G, HG⟩ : ∃ G, Hid (G = w3.heap.size) := ⟨_, rfl⟩
          rw [← HG.out] at hL ⊢
          go_loopw [9, 13] (fun v i wr => ∃ k l : Nat, k ≤ n ∧ i = .int .i64 k ∧ v = .slice (some ⟨G, 0, none⟩) l y ∧ l ≤ 1048576 ∧ Laid w3 wr G n y k l ps) (fun _ i _ => n - (intOf i).toNat)
          case atStart => exact ⟨0, 0, Nat.zero_le _, rfl, rfl, by omega, hL⟩
          case round =>
            obtain ⟨k3, l, hk3, rfl, rfl, hl, hLd⟩ := hrel
            by_cases hlt3 : k3 < n
            · have hx : k3 < ps.length := by rw [HP.out.len]; exact hlt3
              obtain ⟨rfl, hgp⟩ := HP3.out (by omega)
              have lgp : gp < G := by rw [HG.out]; exact hgp.lt
              obtain ⟨s, Hs⟩ : ∃ s, Hid (s = ps[k3]) := ⟨ps[k3], rfl⟩
              have hcs : wr.cell? ⟨gp, k3, none⟩ = some (.string s) := (hgp.keep hLd.below lgp).cell (by rw [Hs.out]; simp [hx])
              have hls : l + s.size ≤ 1048576 := by
                have h1 := cat_len_succ ps k3 hx
                have h2 := cat_mono ps (k3 + 1) ps.length (by omega)
                have h3 := HC.out
                rw [← Hs.out] at h1
                have h4 := hLd.len
                omega
              have hyl : l + s.size ≤ y := by
                have h1 := cat_len_succ ps k3 hx
                have h2 := cat_mono ps (k3 + 1) ps.length (by omega)
                have h3 := HY.out
                rw [← Hs.out] at h1
                have h4 := hLd.len
                omega
              have hy0 : 0 < y := by have h3 := HY.out; omega
              have hkI : (k3 : Int) < (n : Int) + 1 := by omega
              have hkI' : (k3 : Int) < (n : Int) := by omega
              obtain ⟨v1, t1⟩ := hLd.pos.there k3 (by omega)
              obtain ⟨v2, t2⟩ := hLd.fin.there k3 (by omega)
              obtain ⟨v3, t3⟩ := hLd.kinds.there k3 (by omega)
              have f1 := hLd.pos.free k3
              have f2 := hLd.fin.free k3
              have f3 := hLd.kinds.free k3
              have HLd : Hid (Laid w3 wr G n y k3 l ps) := hLd
              clear hLd hgp
              go_wp2_with (at_builtin; refine Lib.wpList_append_fits_string _ rfl (.tmp 115) (.tmp 119) 27 9 rfl G 5 i0 Try.underlying27 Try.underlying9 hi hz1 (some ⟨G, 0, none⟩) l y (bytesV (cat ps k3)) rfl (own_other HLd.out.own (by omega) _) s rfl hy0 hyl ?_)
              intro wA ownA grA
              have grA' : (wr.setCell ⟨G + 1, k3, none⟩ (.int .i32 l)).grownBy wA (some G) := grA
              have nb2 := (HLd.out.fin.other ⟨G + 1, k3, none⟩ (by simp) (.int .i32 l)).grown grA' (by intro e; simp at e; omega)
              have nb3 := (HLd.out.kinds.other ⟨G + 1, k3, none⟩ (by simp; omega) (.int .i32 l)).grown grA' (by intro e; simp at e; omega)
              obtain ⟨v2', u2⟩ := nb2.there k3 (by omega)
              obtain ⟨v3', u3⟩ := nb3.there k3 (by omega)
              have g2 := nb2.free k3
              have g3 := nb3.free k3
              have HST : Hid (∀ e, e = (l : Int) + s.size → Laid w3 ((wA.setCell ⟨G + 1 + 1, k3, none⟩ (.int .i32 e)).setCell ⟨G + 1 + 1 + 1, k3, none⟩ (.int .u8 6)) G n y (k3 + 1) (l + s.size) ps) := fun e he => HLd.out.step hlt3 hx s Hs.out ownA grA' e he
              clear HLd ownA grA grA' Hs nb2 nb3 t1 t2 t3 f1 f2 f3 hcs
              go_wp2
              go_roundw
              case rel => exact ⟨k3 + 1, l + s.size, by omega, by go_num, rfl, by omega, HST.out _ rfl⟩
              case measure => simp [intOf]; omega
            · have ek : k3 = n := by omega
              rw [ek] at hLd ⊢
              clear ek
              have hLast := hLd.last HP.out.len
              have hll := hLd.len
              have HLL : Hid (l = (cat ps n).length) := hll
              obtain ⟨v1, t1⟩ := hLd.pos.there n (by omega)
              obtain ⟨v2, t2⟩ := hLd.fin.there n (by omega)
              obtain ⟨v3, t3⟩ := hLd.kinds.there n (by omega)
              have f1 := hLd.pos.free n
              have f2 := hLd.fin.free n
              have f3 := hLd.kinds.free n
              have hkI : (n : Int) < (n : Int) + 1 := by omega
              obtain ⟨W5, HW5⟩ : ∃ W, Hid (W = ((wr.setCell ⟨G + 1, n, none⟩ (.int .i32 l)).setCell ⟨G + 1 + 1, n, none⟩ (.int .i32 l)).setCell ⟨G + 1 + 1 + 1, n, none⟩ (.int .u8 0)) := ⟨_, rfl⟩
              obtain ⟨own5, pos5, fin5, kin5, bel5⟩ := hLast W5 HW5.out
              obtain ⟨S, HS⟩ : ∃ S : ByteArray, Hid (S = ⟨(cat ps n).toArray⟩) := ⟨_, rfl⟩
              have hcv := run_convert_bytes_back (P := Try.prog) W5 27 9 5 ⟨G, 0, none⟩ y (cat ps n) Try.underlying27 Try.underlying5 Try.underlying9 (fun j hj => own5.cells (g := G) rfl j _ (by simp [bytesV, hj]))
              rw [← HLL.out, ← HS.out, HW5.out] at hcv
              clear hll hLast hLd own5
              go_wp2_with fail
              rw [← HW5.out]
              refine (newParser_any S (G + 1) (G + 1 + 1) (G + 1 + 1 + 1) (n + 1) (fun j => (cat ps j).length) (fun j => (cat ps (j + 1)).length) (fun j => if j < n then 6 else 0) W5 (by omega) pos5.lt fin5.lt kin5.lt pos5.nums fin5.nums kin5.nums).mono ?_
              rintro e w6 ⟨rfl, par6, tok6, bel6, siz6⟩
              have lG5 : G < W5.heap.size := by have := pos5.lt; omega
              clear pos5 fin5 kin5 hcv HW5 t1 t2 t3 f1 f2 f3
              have b6 : Below G w3 w6 := bel5.trans (bel6.mono (Nat.le_of_lt lG5))
              obtain ⟨gT, HgT⟩ : ∃ g, Hid (g = W5.heap.size) := ⟨_, rfl⟩
              rw [← HgT.out] at par6 tok6 siz6 ⊢
              obtain ⟨gP, HgP⟩ : ∃ g, Hid (g = gT + 1) := ⟨_, rfl⟩
              rw [← HgP.out] at par6 ⊢
              have lTP : gT < gP := by rw [HgP.out]; omega
              have lGT : G < gT := by rw [HgT.out]; exact lG5
              have siz6' : w6.heap.size = gP + 1 := by rw [siz6, HgP.out]
              have HSz : Hid (w6.heap.size = gP + 1) := siz6'
              have hSsz : S.size ≤ 1048576 := by
                rw [HS.out]
                show (cat ps n).toArray.size ≤ _
                have := HC.out
                rw [HP.out.len] at this
                simpa using this
              have HCut : Hid (∀ k (h : k < ps.length), (cat ps k).length ≤ (cat ps (k + 1)).length ∧ (cat ps (k + 1)).length ≤ S.size ∧ (S.extract (cat ps k).length (cat ps (k + 1)).length).toList = ps[k].toList) := by
                intro k h
                have hl := HP.out.len
                refine ⟨cat_mono ps k (k + 1) (by omega), ?_, ?_⟩
                · rw [HS.out]
                  show _ ≤ (cat ps n).toArray.size
                  have := cat_mono ps (k + 1) n (by omega)
                  simpa using this
                · rw [HS.out, ← hl]; exact cut ps k h
              have HTok : Hid (TokBlk w6 gT (n + 1) (n + 1) (fun j => (cat ps j).length) (fun j => (cat ps (j + 1)).length) (fun j => if j < n then 6 else 0)) := tok6
              have HPar : Hid (Blk w6 gP 83 (PS S gT (n + 1) 0 0)) := par6
              clear siz6 siz6' par6 tok6 bel5 bel6
              obtain ⟨i8, hi8, hy0', hy1, hy2⟩ := info_parts Try.info48
              have m4 := fun (wx : World) => run_make_wide (P := Try.prog) Try.underlying44 Try.info48 0 n (Nat.zero_le _) (by omega) (by unfold maxLen; omega) wx
              simp only [Value.cells, Int.ofNat_zero] at m4
              go_wp2_with fail
              clear m4
              have own7 := World.ownsRow_made (base := w6.heap.size) (e := 48) (size := 3) w6 (madeCells #[.int .i64 0, .string ⟨#[]⟩, .int .i64 0] (n * 3)) n (Nat.le_refl _) (by unfold maxLen; omega) (by rw [size_madeCells])
              have hSt := St.mk (w7 := w6.alloc (.cells (madeCells #[.int .i64 0, .string ⟨#[]⟩, .int .i64 0] (n * 3)) 48)) (S := S) (gP := gP) (gT := gT) (gL := w6.heap.size) (n := n) (k := 0) (q := 0) (ps := ps) rfl (HPar.out.alloc _) own7 (Below.refl _ _)
              have b7 : Below G w3 (w6.alloc (.cells (madeCells #[.int .i64 0, .string ⟨#[]⟩, .int .i64 0] (n * 3)) 48)) := b6.alloc (by rw [HSz.out]; omega) _
              have tok7 : TokBlk (w6.alloc (.cells (madeCells #[.int .i64 0, .string ⟨#[]⟩, .int .i64 0] (n * 3)) 48)) gT (n + 1) (n + 1) (fun j => (cat ps j).length) (fun j => (cat ps (j + 1)).length) (fun j => if j < n then 6 else 0) := HTok.out.keep ((Below.refl w6.heap.size w6).alloc (Nat.le_refl _) _) (by rw [HSz.out]; omega)
              obtain ⟨W7, HW7⟩ : ∃ W, Hid (W = w6.alloc (.cells (madeCells #[.int .i64 0, .string ⟨#[]⟩, .int .i64 0] (n * 3)) 48)) := ⟨_, rfl⟩
              rw [← HW7.out] at hSt b7 tok7 ⊢
              rw [HSz.out] at hSt ⊢
              obtain ⟨gL, HgL⟩ : ∃ g, Hid (g = gP + 1) := ⟨_, rfl⟩
              rw [← HgL.out] at hSt ⊢
              have lPL : gP < gL := by rw [HgL.out]; omega
              have HT7 : Hid _ := tok7
              clear own7 HW7 tok7 HTok HPar b6
              go_loopw [15, 16] (fun v i wr => ∃ k q : Nat, k ≤ n ∧ q ≤ k ∧ i = .int .i64 k ∧ v = .slice (some ⟨gL, 0, none⟩) q n ∧ St W7 wr S gP gT gL n k q ps) (fun _ i _ => n - (intOf i).toNat)
              case atStart => exact ⟨0, 0, Nat.zero_le _, Nat.le_refl _, rfl, rfl, hSt⟩
              case round =>
                obtain ⟨k4, q, hk4, hq4, rfl, rfl, hSt4⟩ := hrel
                have lP4 := hSt4.par.lt
                have tkb := TokBlk.keep HT7.out hSt4.below lTP
                by_cases hlt4 : k4 < n
                · have hx : k4 < ps.length := by rw [HP.out.len]; exact hlt4
                  obtain ⟨rfl, hgp⟩ := HP3.out (by omega)
                  have lgp : gp < G := by rw [HG.out]; exact hgp.lt
                  have b4 : Below G w3 wr := b7.trans (hSt4.below.mono (by omega))
                  obtain ⟨s, Hs⟩ : ∃ s, Hid (s = ps[k4]) := ⟨ps[k4], rfl⟩
                  have hps4 : Blk wr gp 9 (ps.map Value.string) := hgp.keep b4 lgp
                  obtain ⟨c1, c2, c3⟩ := HCut.out k4 hx
                  rw [← Hs.out] at c3
                  obtain ⟨pa, Hpa⟩ : ∃ a, Hid (a = (cat ps k4).length) := ⟨(cat ps k4).length, rfl⟩
                  obtain ⟨pb, Hpb⟩ : ∃ a, Hid (a = (cat ps (k4 + 1)).length) := ⟨(cat ps (k4 + 1)).length, rfl⟩
                  have tk := tkb.tok k4 (by omega)
                  simp only [if_pos hlt4] at tk
                  rw [← Hpa.out] at c1 c3 tk
                  rw [← Hpb.out] at c1 c2 c3 tk
                  have Hc3 : Hid ((S.extract pa pb).toList = s.toList) := c3
                  have HSt : Hid (St W7 wr S gP gT gL n k4 q ps) := hSt4
                  clear c3 Hpa Hpb hSt4 tkb
                  cases hmk : (s.toList == [63])
                  · have hm : (ps[k4].toList == [63]) = false := by rw [← Hs.out]; exact hmk
                    have Hm : Hid ((ps[k4].toList == [63]) = false) := hm
                    clear hm
                    go_wp2_with fail
                    refine (at_any S gP gT (n + 1) k4 q wr HSt.out.par).mono ?_
                    rintro e wx ⟨rfl, rfl⟩
                    go_wp2_with fail
                    refine (zzParam_other S gP gT (n + 1) k4 pa pb q wr (by omega) (by omega) HSt.out.par tk c1 c2 hSsz (by rw [Hc3.out]; exact hmk)).mono ?_
                    rintro e wa ⟨rfl, belA⟩
                    have hsA := belA.size
                    have lgpA : gp < wa.heap.size := by omega
                    have hcs : wa.cell? ⟨gp, k4, none⟩ = some (.string s) := (hps4.keep belA (by omega)).cell (by rw [Hs.out]; simp [hx])
                    have HbelA : Hid (Below wr.heap.size wr wa) := belA
                    have hkI : (k4 : Int) < (n : Int) := by omega
                    clear belA hps4 hgp
                    obtain ⟨o1, Ho1⟩ : ∃ o, Hid (o = Obj.cells #[.int .i64 0, .string ⟨#[]⟩, .int .i64 0] 48) := ⟨_, rfl⟩
                    have HparA : Hid (Blk (wa.alloc o1) gP 83 (PS S gT (n + 1) k4 q)) := (HSt.out.par.keep HbelA.out lP4).alloc o1
                    have HtkA : Hid (Tok (wa.alloc o1) gT k4 pa pb 6) := tk.keep (HbelA.out.alloc hsA o1)
                    clear tk
                    rw [Ho1.out] at HparA HtkA
                    go_wp2_with fail
                    refine (at_any S gP gT (n + 1) k4 q _ HparA.out).mono ?_
                    rintro e wx ⟨rfl, rfl⟩
                    go_wp2_with fail
                    refine (zzPunct_yes S s gP gT (n + 1) k4 pa pb q _ (by omega) (by omega) HparA.out HtkA.out c1 c2 hSsz (by rw [Hc3.out]; simp)).mono ?_
                    rintro e wb ⟨rfl, parB, grB⟩
                    have HStB : Hid (St W7 wb S gP gT gL n (k4 + 1) q ps) := HSt.out.no lPL hx Hm.out HbelA.out _ parB grB
                    clear parB grB HparA HtkA HbelA HSt Hm Hs hcs Hc3 c1 c2 Ho1
                    go_wp2_with fail
                    refine (at_any S gP gT (n + 1) (k4 + 1 : Nat) q wb HStB.out.par).mono ?_
                    rintro e wx ⟨rfl, rfl⟩
                    go_wp2_with fail
                    refine (params_any S gP gT (n + 1) (k4 + 1 : Nat) q wb HStB.out.par).mono ?_
                    rintro e wx ⟨rfl, rfl⟩
                    go_wp2
                    go_roundw
                    case rel => exact ⟨k4 + 1, q, by omega, by omega, by go_num, rfl, HStB.out⟩
                    case measure => simp [intOf]; omega
                  · have hm : (ps[k4].toList == [63]) = true := by rw [← Hs.out]; exact hmk
                    have Hm : Hid ((ps[k4].toList == [63]) = true) := hm
                    clear hm
                    go_wp2_with fail
                    refine (at_any S gP gT (n + 1) k4 q wr HSt.out.par).mono ?_
                    rintro e wx ⟨rfl, rfl⟩
                    go_wp2_with fail
                    refine (zzParam_yes S gP gT (n + 1) k4 pa pb q wr (by omega) (by omega) (by omega) HSt.out.par tk c1 c2 hSsz (by rw [Hc3.out]; exact hmk)).mono ?_
                    rintro e wa ⟨rfl, parA, grA⟩
                    have hcs : wa.cell? ⟨gp, k4, none⟩ = some (.string s) := (hps4.grown grA (by intro e; cases e; omega)).cell (by rw [Hs.out]; simp [hx])
                    have hsA := grA.size
                    have ownA : Hid (wa.ownsRow gL 48 3 (.slice (some ⟨gL, 0, none⟩) q n) q (litCells q)) := HSt.out.own.kept grA (.inr (by intro e; simp [Value.ownBlock] at e; omega))
                    have HparA : Hid (Blk wa gP 83 (PS S gT (n + 1) (k4 + 1 : Nat) (q + 1 : Nat))) := parA
                    have HgrA : Hid (wr.grownBy wa (some gP)) := grA
                    clear parA grA hps4 hgp tk
                    have hkI : (k4 : Int) < (n : Int) := by omega
                    have lgpA : gp < wa.heap.size := by omega
                    go_wp2_with (at_builtin; refine wpList_append_fits _ rfl (.tmp 190) (.tmp 192) 44 rfl gL 48 i8 3 Try.underlying44 hi8 hy1 gL q n (litCells q) rfl ((ownA.out.alloc _).alloc _) ⟨wa.heap.size + 1, 0, none⟩ 1 1 [.int .i64 4, .string ⟨#[]⟩, .int .i64 q] rfl rfl ?c1 ?c2 ?c3 ?_)
                    case c1 =>
                      have hb := Blk.new (wa.alloc (.cells #[.int .i64 4, .string ⟨#[]⟩, .int .i64 q] 48)) 48 [.int .i64 4, .string ⟨#[]⟩, .int .i64 q]
                      have es : (wa.alloc (.cells #[.int .i64 4, .string ⟨#[]⟩, .int .i64 q] 48)).heap.size = wa.heap.size + 1 := by simp
                      rw [es] at hb
                      intro j u hj
                      rw [Addr.add_lit, Nat.zero_add]
                      exact hb.cell hj
                    case c2 =>
                      intro u hu
                      simp only [List.mem_cons, List.not_mem_nil, or_false] at hu
                      rcases hu with rfl | rfl | rfl <;> rfl
                    case c3 => omega
                    intro wb ownB grB
                    have HStB : Hid (St W7 wb S gP gT gL n (k4 + 1) (q + 1) ps) := HSt.out.yes lPL hx Hm.out HparA.out HgrA.out _ _ ownB grB
                    clear ownB grB HparA HgrA ownA HSt Hm Hs hcs Hc3 c1 c2
                    go_wp2_with fail
                    refine (at_any S gP gT (n + 1) (k4 + 1 : Nat) (q + 1 : Nat) wb HStB.out.par).mono ?_
                    rintro e wx ⟨rfl, rfl⟩
                    go_wp2_with fail
                    refine (params_any S gP gT (n + 1) (k4 + 1 : Nat) (q + 1 : Nat) wb HStB.out.par).mono ?_
                    rintro e wx ⟨rfl, rfl⟩
                    go_wp2
                    go_roundw
                    case rel => exact ⟨k4 + 1, q + 1, by omega, by omega, by go_num, rfl, HStB.out⟩
                    case measure => simp [intOf]; omega
                · have ek : k4 = n := by omega
                  rw [ek] at hSt4 ⊢
                  have tk := tkb.tok n (by omega)
                  simp only [if_neg (Nat.lt_irrefl n)] at tk
                  have b4 : Below G w3 wr := b7.trans (hSt4.below.mono (by omega))
                  have bw : Below w.heap.size w wr := hb3'.trans (b4.mono (by rw [HG.out]; exact hb3'.size))
                  have HSt : Hid (St W7 wr S gP gT gL n n q ps) := hSt4
                  clear ek hSt4 tkb
                  go_wp2_with fail
                  refine (zzParam_end S gP gT (n + 1) n q _ _ wr (by omega) (by omega) HSt.out.par tk).mono ?_
                  rintro e wa ⟨rfl, belA⟩
                  clear tk
                  have hsA := belA.size
                  have hparA := (HSt.out.par.keep belA lP4).alloc (.cells #[.int .i64 0, .string ⟨#[]⟩, .int .i64 0] 48)
                  have bwA : Below w.heap.size w (wa.alloc (.cells #[.int .i64 0, .string ⟨#[]⟩, .int .i64 0] 48)) := (below_here bw (Nat.le_refl _) belA).alloc (Nat.le_trans bw.size hsA) _
                  have b4A : Below G w3 (wa.alloc (.cells #[.int .i64 0, .string ⟨#[]⟩, .int .i64 0] 48)) := (b4.trans (belA.mono (by omega))).alloc (by omega) _
                  have ownA : (wa.alloc (.cells #[.int .i64 0, .string ⟨#[]⟩, .int .i64 0] 48)).ownsRow gL 48 3 (.slice (some ⟨gL, 0, none⟩) q n) q (litCells q) := (HSt.out.own.kept (grown_of_below belA none) (.inr (by simp [Value.ownBlock]))).alloc _
                  have hqn : q ≤ n := Nat.le_trans hq4 hk4
                  go_wp2_with fail
                  obtain ⟨Wq, HWq⟩ : ∃ W, Hid (W = wa.alloc (.cells #[.int .i64 0, .string ⟨#[]⟩, .int .i64 0] 48)) := ⟨_, rfl⟩
                  rw [← HWq.out] at hparA bwA b4A ownA ⊢
                  refine (at_any S gP gT (n + 1) n q Wq hparA).mono ?_
                  rintro e wx ⟨rfl, rfl⟩
                  go_wp2_with fail
                  refine (params_any S gP gT (n + 1) n q Wq hparA).mono ?_
                  rintro e wx ⟨rfl, rfl⟩
                  have lLq : gL < Wq.heap.size := (ownA.lt gL rfl).2
                  have HOwn : Hid _ := ownA
                  clear hparA ownA HSt belA HWq b4 bw hsA
                  by_cases hmq : (m : Int) < q
                  · go_wp2
                    go_ret
                    exact ⟨rfl, bwA⟩
                  · have m5 := fun (wx : World) => run_make_wide (P := Try.prog) Try.underlying44 Try.info48 m m (Nat.le_refl _) (by omega) (by unfold maxLen; omega) wx
                    simp only [Value.cells] at m5
                    have d5 : decide ((m : Int) < (q : Int)) = false := by simp; omega
                    have d6 : decide (m < q) = false := by simp; omega
                    go_wp2_with fail
                    clear m5
                    obtain ⟨gV, HgV⟩ : ∃ g, Hid (g = Wq.heap.size) := ⟨_, rfl⟩
                    rw [← HgV.out]
                    have lGq : G < gV := by rw [HgV.out]; omega
                    have lLV : gL < gV := by rw [HgV.out]; exact lLq
                    go_loopw [22] (fun i wr => ∃ k : Nat, k ≤ m ∧ i = .int .i64 k ∧ ValBlk wr gV m k vs ∧ Below gV Wq wr) (fun i _ => m - (intOf i).toNat)
                    case atStart => exact ⟨0, Nat.zero_le _, rfl, ⟨_, by rw [HgV.out]; exact Blk.newA Wq 48 _, by simp [size_madeCells], fun j _ hj => absurd hj (by omega)⟩, by rw [HgV.out]; exact (Below.refl _ _).alloc (Nat.le_refl _) _⟩
                    case round =>
                      obtain ⟨k5, hk5, rfl, hvb, hbv⟩ := hrel
                      by_cases hlt5 : k5 < m
                      · have hx : k5 < vs.length := by rw [HV.out.len]; exact hlt5
                        obtain ⟨rfl, hgv⟩ := HV3.out (by omega)
                        have lgv : gv < G := by rw [HG.out]; exact hgv.lt
                        have hcs : wr.cell? ⟨gv, k5, none⟩ = some (.string vs[k5]) := ((hgv.keep b4A lgv).keep hbv (by omega)).cell (by simp [hx])
                        obtain ⟨v0, t0⟩ := hvb.there (k5 * 3) (by omega)
                        obtain ⟨v1, t1⟩ := hvb.there (k5 * 3 + 1) (by omega)
                        obtain ⟨v2, t2⟩ := hvb.there (k5 * 3 + 2) (by omega)
                        have f0 := hvb.free (k5 * 3)
                        have f1 := hvb.free (k5 * 3 + 1)
                        have f2 := hvb.free (k5 * 3 + 2)
                        have HST : Hid _ := hvb.step hlt5 hx
                        have hkI : (k5 : Int) < (m : Int) := by omega
                        clear hvb hgv
                        go_wp2
                        go_roundw
                        case rel => exact ⟨k5 + 1, by omega, by go_num, HST.out, ((hbv.setCell (Nat.le_refl _) _).setCell (Nat.le_refl _) _).setCell (Nat.le_refl _) _⟩
                        case measure => simp [intOf]; omega
                      · have ek5 : k5 = m := by omega
                        rw [ek5] at hvb ⊢
                        obtain ⟨W8, HW8⟩ : ∃ W, Hid (W = wr) := ⟨_, rfl⟩
                        rw [← HW8.out] at hvb hbv ⊢
                        have bw8 : Below w.heap.size w W8 := bwA.trans (hbv.mono (by rw [HgV.out]; exact bwA.size))
                        have own8 : W8.ownsRow gL 48 3 (.slice (some ⟨gL, 0, none⟩) q n) q (litCells q) := World.ownsRow.kept HOwn.out (grown_of_below (w := Wq) (by rw [← HgV.out]; exact hbv) none) (.inr (by simp [Value.ownBlock]))
                        have HOwn8 : Hid (W8.ownsRow gL 48 3 (.slice (some ⟨gL, 0, none⟩) q n) q (litCells q)) := own8
                        have HV8 : Hid (ValBlk W8 gV m m vs) := hvb
                        have b48 : Below G w3 W8 := b4A.trans (hbv.mono (by omega))
                        have lV8 : gV < W8.heap.size := by
                          obtain ⟨cs, hb, _⟩ := hvb
                          exact hb.lt
                        clear own8 hvb hbv ek5 HW8 HOwn
                        go_wp2_with fail
                        go_loopw [23] (fun i wr => ∃ k : Nat, k ≤ q ∧ i = .int .i64 k ∧ Below W8.heap.size W8 wr) (fun i _ => q - (intOf i).toNat)
                        case atStart => exact ⟨0, Nat.zero_le _, rfl, Below.refl _ _⟩
                        case round =>
                          obtain ⟨k6, hk6, rfl, hb6⟩ := hrel
                          by_cases hlt6 : k6 < q
                          · have hm6 : k6 < m := by omega
                            have hx : k6 < vs.length := by rw [HV.out.len]; exact hm6
                            obtain ⟨rfl, hgv⟩ := HV3.out (by omega)
                            have lgv : gv < G := by rw [HG.out]; exact hgv.lt
                            obtain ⟨t, Ht⟩ : ∃ t, Hid (t = vs[k6]) := ⟨vs[k6], rfl⟩
                            obtain ⟨q0, q1, q2⟩ := litCells_get q k6 hlt6
                            have y0 : wr.cell? ⟨gL, k6 * 3, none⟩ = some (.int .i64 4) := (hb6.cell (p := ⟨gL, k6 * 3, none⟩) (by simp; omega)).trans ((World.ownsRow.cellAt HOwn8.out (k6 * 3) (by omega)).trans q0)
                            have y1 : wr.cell? ⟨gL, k6 * 3 + 1, none⟩ = some (.string ⟨#[]⟩) := (hb6.cell (p := ⟨gL, k6 * 3 + 1, none⟩) (by simp; omega)).trans ((World.ownsRow.cellAt HOwn8.out (k6 * 3 + 1) (by omega)).trans q1)
                            have y2 : wr.cell? ⟨gL, k6 * 3 + 2, none⟩ = some (.int .i64 (k6 : Int)) := (hb6.cell (p := ⟨gL, k6 * 3 + 2, none⟩) (by simp; omega)).trans ((World.ownsRow.cellAt HOwn8.out (k6 * 3 + 2) (by omega)).trans q2)
                            have vv : wr.cell? ⟨gV, k6 * 3, none⟩ = some (.int .i64 3) ∧ wr.cell? ⟨gV, k6 * 3 + 1, none⟩ = some (.string t) ∧ wr.cell? ⟨gV, k6 * 3 + 2, none⟩ = some (.int .i64 0) := by
                              obtain ⟨cs, hb, _, hc⟩ := ValBlk.keep HV8.out hb6 lV8
                              obtain ⟨e0, e1, e2⟩ := hc k6 hx hm6
                              rw [Ht.out]
                              exact ⟨hb.cell e0, hb.cell e1, hb.cell e2⟩
                            have hgv8 : Blk wr gv 9 (vs.map Value.string) := (hgv.keep b48 lgv).keep hb6 (by omega)
                            have lgv6 : gv < wr.heap.size := hgv8.lt
                            have HG6 : Hid (Blk wr gv 9 (vs.map Value.string)) := hgv8
                            have hkI : (k6 : Int) < (q : Int) := by omega
                            have hkm : (k6 : Int) < (m : Int) := by omega
                            have hs6 := hb6.size
                            clear q0 q1 q2 hgv hgv8
                            go_wp2_with fail
                            refine (zzLiteral_any gV m k6 t wr (by omega) hm6 vv.1 vv.2.1 vv.2.2).mono ?_
                            rintro e wz ⟨rfl, hbz⟩
                            have hcs : wz.cell? ⟨gv, k6, none⟩ = some (.string t) := (Blk.keep HG6.out hbz lgv6).cell (by rw [Ht.out]; simp [hx])
                            have lgvz : gv < wz.heap.size := Nat.lt_of_lt_of_le lgv6 hbz.size
                            have hbz' : Below W8.heap.size W8 wz := below_here hb6 (Nat.le_refl _) hbz
                            clear y0 y1 y2 vv Ht HG6
                            go_wp2
                            go_quiet (fail)
                            go_wp2
                            go_roundw
                            case rel => exact ⟨k6 + 1, by omega, by go_num, below_drewN (hbz'.alloc hbz'.size _) nq⟩
                            case measure => simp [intOf]; omega
                          · go_wp2
                            go_ret
                            exact ⟨rfl, below_here bw8 (Nat.le_refl _) hb6⟩
end Go.Proofs.Qxb6001671a.prm
