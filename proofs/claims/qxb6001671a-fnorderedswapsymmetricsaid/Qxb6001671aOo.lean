/-
  THE WALKS OF FnOrderedSwapSymmetric's CALLEES (2): comparisonInts.ordered.
-/
import Derived.Test.Qxb6001671aOc
namespace Go.Proofs.Qxb6001671a.ord
open Go.RowKit
set_option linter.unusedVariables false

/-- The result of an order. -/
def pick (r0 r1 r2 o : Int) : Int := if o = -1 then r0 else if o = 0 then r1 else r2
/-- The states. -/
def stOf (a b : Bool) : Int := if a || b then 1 else 0
def states (x y : Bool) (an bn : List Bool) : List Int := if !x && !y then List.replicate an.length 0 else (an.zip bn).map fun p => stOf p.1 p.2

set_option maxRecDepth 100000 in
set_option maxHeartbeats 1000000 in
theorem ordered_any (B : Nat) (r0 r1 r2 r3 : Int) (os : List Int) (an bn : List Bool) (oo ao bo : Option Addr) (c1 c2 c3 gO gP gQ gA gB gX gN gS : Nat) (x y : Bool) (w : World)
    (hn : os.length ≤ 65536) (ha : an.length = os.length) (hb : bn.length = os.length) (h1 : os.length ≤ c1) (h2 : os.length ≤ c2) (h3 : os.length ≤ c3)
    (h3v : ∀ k (h : k < os.length), os[k] = -1 ∨ os[k] = 0 ∨ os[k] = 1)
    (hO : 0 < os.length → oo = some ⟨gO, 0, none⟩ ∧ Blk w gO 53 (os.map (Value.int .i8)) ∧ ao = some ⟨gP, 0, none⟩ ∧ Blk w gP 4 (an.map Value.bool) ∧ bo = some ⟨gQ, 0, none⟩ ∧ Blk w gQ 4 (bn.map Value.bool) ∧ gO < B ∧ gP < B ∧ gQ < B)
    (hX : Blk w gX 100 [.slice (some ⟨gN, 0, none⟩) os.length os.length, .slice (some ⟨gS, 0, none⟩) os.length os.length, .bool false, .int .i64 0, .int .u8 0])
    (hA4 : w.cell? ⟨gA, 4, none⟩ = some (.slice ao os.length c2)) (hA5 : w.cell? ⟨gA, 5, none⟩ = some (.bool x)) (hB4 : w.cell? ⟨gB, 4, none⟩ = some (.slice bo os.length c3)) (hB5 : w.cell? ⟨gB, 5, none⟩ = some (.bool y))
    (hN : Blk w gN 2 (List.replicate os.length (.int .i64 0))) (hS : Blk w gS 91 (List.replicate os.length (.int .u8 0)))
    (dN : B ≤ gN) (dS : B ≤ gS) (dX : B ≤ gX) (dNS : gN < gS ∨ gS < gN) (dNX : gN < gX) (dSX : gS < gX) (dXA : gX < gA) (dXB : gX < gB) (dB : B ≤ w.heap.size) :
    Calls Try.prog 64 #[.agg #[.int .i64 r0, .int .i64 r1, .int .i64 r2, .int .i64 r3], .slice oo os.length c1, .pointer (some ⟨gA, 0, none⟩), .pointer (some ⟨gB, 0, none⟩), .pointer (some ⟨gX, 0, none⟩)] w fun e w' =>
      e = .returned (.tuple #[]) ∧ Blk w' gN 2 (os.map fun o => .int .i64 (pick r0 r1 r2 o)) ∧ Blk w' gS 91 ((states x y an bn).map (Value.int .u8)) ∧
        Blk w' gX 100 [.slice (some ⟨gN, 0, none⟩) os.length os.length, .slice (some ⟨gS, 0, none⟩) os.length os.length, .bool (!x && !y), .int .i64 0, .int .u8 0] ∧ Below B w w' := by
  have HO : Hid _ := hO
  have HV : Hid _ := h3v
  have HLa : Hid _ := ha
  have HLb : Hid _ := hb
  clear hO h3v ha hb
  obtain ⟨W, HW⟩ : ∃ W, Hid (W = w.alloc (.cells #[.int .i64 r0, .int .i64 r1, .int .i64 r2, .int .i64 r3] 107)) := ⟨_, rfl⟩
  have gX1 := hX.alloc (.cells #[.int .i64 r0, .int .i64 r1, .int .i64 r2, .int .i64 r3] 107)
  have gN1 := hN.alloc (.cells #[.int .i64 r0, .int .i64 r1, .int .i64 r2, .int .i64 r3] 107)
  have gS1 := hS.alloc (.cells #[.int .i64 r0, .int .i64 r1, .int .i64 r2, .int .i64 r3] 107)
  rw [← HW.out] at gX1 gN1 gS1
  have gK1 : Blk W w.heap.size 107 [.int .i64 r0, .int .i64 r1, .int .i64 r2, .int .i64 r3] := by rw [HW.out]; exact Blk.new w 107 _
  have A4 : W.cell? ⟨gA, 4, none⟩ = some (.slice ao os.length c2) := by rw [HW.out]; exact Lib.cell?_alloc_some _ hA4
  have A5 : W.cell? ⟨gA, 5, none⟩ = some (.bool x) := by rw [HW.out]; exact Lib.cell?_alloc_some _ hA5
  have B4 : W.cell? ⟨gB, 4, none⟩ = some (.slice bo os.length c3) := by rw [HW.out]; exact Lib.cell?_alloc_some _ hB4
  have B5 : W.cell? ⟨gB, 5, none⟩ = some (.bool y) := by rw [HW.out]; exact Lib.cell?_alloc_some _ hB5
  have lA : gA < w.heap.size := World.block_lt_of_cell? _ _ hA4
  have lB : gB < w.heap.size := World.block_lt_of_cell? _ _ hB4
  have bW : Below B w W := by rw [HW.out]; exact (Below.refl _ _).alloc dB _
  have dW : B ≤ W.heap.size := Nat.le_trans dB bW.size
  have hX0 : (w.alloc (.cells #[.int .i64 r0, .int .i64 r1, .int .i64 r2, .int .i64 r3] 107)).cell? ⟨gX, 0, none⟩ = some (.slice (some ⟨gN, 0, none⟩) os.length os.length) := (hX.alloc _).cell rfl
  clear hX hA4 hA5 hB4 hB5 hN hS
  go_enter Try.func64, Try.ntmps64
  go_wp2
  rw [← HW.out]
  clear hX0
  go_loopw [29] (fun i wr => ∃ k : Nat, k ≤ os.length ∧ i = .int .i64 k ∧ Blk wr gN 2 (half (fun o => .int .i64 (pick r0 r1 r2 o)) (.int .i64 0) os k) ∧ W.grownBy wr (some gN)) (fun i _ => os.length - (intOf i).toNat)
  case atStart => exact ⟨0, Nat.zero_le _, rfl, by rw [half_zero]; exact gN1, grown_refl _ _⟩
  case round =>
    obtain ⟨k, hk, rfl, hblk, hgr⟩ := hrel
    by_cases hlt : k < os.length
    · obtain ⟨rfl, bO, rfl, bP, rfl, bQ, lO, lP, lQ⟩ := HO.out (by omega)
      obtain ⟨o, Ho⟩ : ∃ o, Hid (o = os[k]) := ⟨os[k], rfl⟩
      have hc : wr.cell? ⟨gO, k, none⟩ = some (.int .i8 o) := by
        refine ((bO.keep bW lO).grown hgr ?_).cell ?_
        · intro h; cases h; omega
        · rw [Ho.out]; simp [hlt]
      have hd := hblk.cell (half_get (fun o => .int .i64 (pick r0 r1 r2 o)) (.int .i64 0) hlt)
      have hf := hblk.free k
      have gK2 : Blk wr w.heap.size 107 [.int .i64 r0, .int .i64 r1, .int .i64 r2, .int .i64 r3] := gK1.grown hgr (by intro h; cases h; omega)
      have hkI : (k : Int) < (os.length : Int) := by omega
      have hst : Hid (∀ v, v = pick r0 r1 r2 o → Blk (wr.setCell ⟨gN, k, none⟩ (.int .i64 v)) gN 2 (half (fun o => .int .i64 (pick r0 r1 r2 o)) (.int .i64 0) os (k + 1)) ∧ W.grownBy (wr.setCell ⟨gN, k, none⟩ (.int .i64 v)) (some gN)) := by
        intro v hv
        have h := hblk.set k (.int .i64 v)
        rw [hv, Ho.out, half_set (fun o => .int .i64 (pick r0 r1 r2 o)) (.int .i64 0) hlt] at h
        rw [hv, Ho.out]
        exact ⟨h, grown_set hgr k _⟩
      have k0 : wr.cell? ⟨w.heap.size, 0, none⟩ = some (.int .i64 r0) := gK2.cell rfl
      have k1 : wr.cell? ⟨w.heap.size, 1, none⟩ = some (.int .i64 r1) := gK2.cell rfl
      have k2 : wr.cell? ⟨w.heap.size, 2, none⟩ = some (.int .i64 r2) := gK2.cell rfl
      have hv3 : o = -1 ∨ o = 0 ∨ o = 1 := by rw [Ho.out]; exact HV.out k hlt
      clear hblk hgr gK2
      have b0 : bits BinOp.and IntKind.i8 0 3 = 0 := by kernel_rfl
      have b1 : bits BinOp.and IntKind.i8 1 3 = 1 := by kernel_rfl
      have b2 : bits BinOp.and IntKind.i8 2 3 = 2 := by kernel_rfl
      rcases hv3 with rfl | rfl | rfl
      · go_wp2
        go_roundw
        case rel => exact ⟨k + 1, by omega, by go_num, (hst.out _ rfl).1, (hst.out _ rfl).2⟩
        case measure => simp [intOf]; omega
      · go_wp2
        go_roundw
        case rel => exact ⟨k + 1, by omega, by go_num, (hst.out _ rfl).1, (hst.out _ rfl).2⟩
        case measure => simp [intOf]; omega
      · go_wp2
        go_roundw
        case rel => exact ⟨k + 1, by omega, by go_num, (hst.out _ rfl).1, (hst.out _ rfl).2⟩
        case measure => simp [intOf]; omega
    · have hb := bW.grown hgr dW (fun j hj => by cases hj; exact dN)
      have gX2 := gX1.grown hgr (by intro h; cases h; omega)
      have gS2 := gS1.grown hgr (by intro h; cases h; omega)
      have A4' := grown_cell hgr A4 (by omega)
      have A5' := grown_cell hgr A5 (by omega)
      have B4' := grown_cell hgr B4 (by omega)
      have B5' := grown_cell hgr B5 (by omega)
      rw [half_full _ _ _ (by omega)] at hblk
      have x1 : wr.cell? ⟨gX, 1, none⟩ = some (.slice (some ⟨gS, 0, none⟩) os.length os.length) := gX2.cell rfl
      have x2 : wr.cell? ⟨gX, 2, none⟩ = some (.bool false) := gX2.cell rfl
      have f2 := gX2.free 2
      have gX3 : Hid (∀ p, Blk (wr.setCell ⟨gX, 2, none⟩ (.bool p)) gX 100 [.slice (some ⟨gN, 0, none⟩) os.length os.length, .slice (some ⟨gS, 0, none⟩) os.length os.length, .bool p, .int .i64 0, .int .u8 0]) := fun p => gX2.set 2 (.bool p)
      have gS3 : Hid (∀ p, Blk (wr.setCell ⟨gX, 2, none⟩ (.bool p)) gS 91 (List.replicate os.length (.int .u8 0))) := fun p => gS2.other ⟨gX, 2, none⟩ (by simp; omega) (.bool p)
      have gN3 : Hid (∀ p, Blk (wr.setCell ⟨gX, 2, none⟩ (.bool p)) gN 2 (os.map fun o => .int .i64 (pick r0 r1 r2 o))) := fun p => hblk.other ⟨gX, 2, none⟩ (by simp; omega) (.bool p)
      have hb3 : Hid (∀ p, Below B w (wr.setCell ⟨gX, 2, none⟩ (.bool p))) := fun p => hb.setCell dX _
      clear gX1 gN1 gS1 A4 A5 B4 B5 hblk gX2 gS2 gK1 hgr hb
      by_cases hp : x = false ∧ y = false
      · obtain ⟨rfl, rfl⟩ := hp
        have hst : Hid ((states false false an bn).map (Value.int .u8) = List.replicate os.length (.int .u8 0)) := by
          rw [Hid, states, if_pos (by decide), HLa.out]; simp
        go_wp2
        refine bodyPost_ret (results_none rfl _ _ _) rfl ?_
        refine ⟨rfl, gN3.out _, ?_, gX3.out _, hb3.out _⟩
        rw [hst.out]
        exact gS3.out _
      · have hst : Hid ((states x y an bn).map (Value.int .u8) = (an.zip bn).map (fun p => .int .u8 (stOf p.1 p.2))) := by
          rw [Hid, states, if_neg (by simpa using hp), List.map_map]; rfl
        have hpf : Hid ((!x && !y) = false) := by rw [Hid]; simpa using hp
        have hxy : x = true ∨ (x = false ∧ y = true) := by
          cases x
          · cases y
            · exact absurd ⟨rfl, rfl⟩ hp
            · exact .inr ⟨rfl, rfl⟩
          · exact .inl rfl
        have hzl : Hid ((an.zip bn).length = os.length) := by rw [Hid, List.length_zip, HLa.out, HLb.out]; simp
        clear hp
        have fin : Hid (∀ wz, (wr.setCell ⟨gX, 2, none⟩ (.bool false)).grownBy wz (some gS) → Blk wz gS 91 (half (fun p => .int .u8 (stOf p.1 p.2)) (.int .u8 0) (an.zip bn) os.length) →
            Blk wz gN 2 (os.map fun o => .int .i64 (pick r0 r1 r2 o)) ∧ Blk wz gS 91 ((states x y an bn).map (Value.int .u8)) ∧
            Blk wz gX 100 [.slice (some ⟨gN, 0, none⟩) os.length os.length, .slice (some ⟨gS, 0, none⟩) os.length os.length, .bool (!x && !y), .int .i64 0, .int .u8 0] ∧ Below B w wz) := by
          intro wz hgz hbz
          rw [half_full _ _ _ (by rw [hzl.out]; exact Nat.le_refl _), ← hst.out] at hbz
          rw [hpf.out]
          exact ⟨(gN3.out _).grown hgz (by intro h; cases h; omega), hbz, (gX3.out _).grown hgz (by intro h; cases h; omega), (hb3.out _).grown hgz (Nat.le_trans dB (hb3.out _).size) (fun j hj => by cases hj; exact dS)⟩
        obtain ⟨V, HV4⟩ : ∃ V, Hid (V = wr.setCell ⟨gX, 2, none⟩ (.bool false)) := ⟨_, rfl⟩
        have gS4 := gS3.out false
        have hb4 := hb3.out false
        rw [← HV4.out] at gS4 hb4 fin
        clear gX3 gS3 gN3 hb3 hst hpf
        rcases hxy with rfl | ⟨rfl, rfl⟩
        all_goals
          go_wp2
          go_quiet (fail)
          go_wp2
          go_loopw [83] (fun i wz => ∃ k : Nat, k ≤ os.length ∧ i = .int .i64 k ∧ Blk wz gS 91 (half (fun p => .int .u8 (stOf p.1 p.2)) (.int .u8 0) (an.zip bn) k) ∧ V.grownBy wz (some gS)) (fun i _ => os.length - (intOf i).toNat)
          case atStart => exact ⟨0, Nat.zero_le _, rfl, by rw [half_zero, hzl.out]; rw [HV4.out] at gS4; exact gS4, by rw [HV4.out]; exact ⟨rfl, rfl, rfl, Nat.le_refl _, fun _ _ _ => rfl⟩⟩
          case round =>
            obtain ⟨k, hk, rfl, hblk, hgr⟩ := hrel
            by_cases hlt : k < os.length
            · obtain ⟨rfl, bO, rfl, bP, rfl, bQ, lO, lP, lQ⟩ := HO.out (by omega)
              have hka : k < an.length := by rw [HLa.out]; exact hlt
              have hkb : k < bn.length := by rw [HLb.out]; exact hlt
              have hkz : k < (an.zip bn).length := by rw [hzl.out]; exact hlt
              obtain ⟨pa, Ha⟩ : ∃ o, Hid (o = an[k]) := ⟨an[k], rfl⟩
              obtain ⟨pb, Hb⟩ : ∃ o, Hid (o = bn[k]) := ⟨bn[k], rfl⟩
              have hca : wr.cell? ⟨gP, k, none⟩ = some (.bool pa) := by
                refine ((bP.keep hb4 lP).grown hgr ?_).cell ?_
                · intro h; cases h; omega
                · rw [Ha.out]; simp [hka]
              have hcb : wr.cell? ⟨gQ, k, none⟩ = some (.bool pb) := by
                refine ((bQ.keep hb4 lQ).grown hgr ?_).cell ?_
                · intro h; cases h; omega
                · rw [Hb.out]; simp [hkb]
              have hd := hblk.cell (half_get (fun p => .int .u8 (stOf p.1 p.2)) (.int .u8 0) hkz)
              have hf := hblk.free k
              have hkI : (k : Int) < (os.length : Int) := by omega
              have hst : Hid (∀ v, v = stOf pa pb → Blk (wr.setCell ⟨gS, k, none⟩ (.int .u8 v)) gS 91 (half (fun p => .int .u8 (stOf p.1 p.2)) (.int .u8 0) (an.zip bn) (k + 1)) ∧ V.grownBy (wr.setCell ⟨gS, k, none⟩ (.int .u8 v)) (some gS)) := by
                intro v hv
                have h := hblk.set k (.int .u8 v)
                have e : (fun p : Bool × Bool => Value.int .u8 (stOf p.1 p.2)) (an.zip bn)[k] = .int .u8 v := by rw [hv, Ha.out, Hb.out]; simp
                rw [← e, half_set (fun p : Bool × Bool => Value.int .u8 (stOf p.1 p.2)) (.int .u8 0) hkz] at h
                rw [← e]
                exact ⟨h, grown_set hgr k _⟩
              clear hblk hgr Ha Hb hka hkb hkz
              cases pa <;> cases pb
              all_goals
                go_wp2
                go_roundw
                case rel => exact ⟨k + 1, by omega, by go_num, (hst.out _ rfl).1, (hst.out _ rfl).2⟩
                case measure => simp [intOf]; omega
            · go_wp2
              go_end0
              have ek : k = os.length := by omega
              rw [ek] at hblk
              exact ⟨rfl, fin.out _ hgr hblk⟩
end Go.Proofs.Qxb6001671a.ord
