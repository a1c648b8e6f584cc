/-
  THE WALK OF FnOrderedSwapSymmetric OUT OF ITS CALLEES' CONTRACTS.
-/
import Derived.Test.Qxb6001671aOz
namespace Go.Proofs.Qxb6001671a.ord
open Go.RowKit
set_option linter.unusedVariables false

/-- A slice that came in, or a clone of one: nil, or its elements read at its address. -/
structure View {α : Type} (f : α → Value) (w : World) (ao : Option Addr) (n c : Nat) (xs : List α) : Prop where
  len : xs.length = n
  nil : ao = none → n = 0 ∧ c = 0
  cap : n ≤ c
  reads : ∀ a, ao = some a → Reads f w a xs
theorem Reads.keep {α : Type} {f : α → Value} {w w' : World} {a : Addr} {xs : List α} (h : Reads f w a xs) (hb : Below w.heap.size w w') : Reads f w' a xs := by
  intro j hj
  obtain ⟨b, off, rfl, hlt⟩ := h.at hj
  have h0 := h j hj
  rw [Addr.add_lit] at h0 ⊢
  exact (hb.cell (p := ⟨b, off + j, none⟩) hlt).trans h0
theorem View.keep {α : Type} {f : α → Value} {w w' : World} {ao : Option Addr} {n c : Nat} {xs : List α} (h : View f w ao n c xs) (hb : Below w.heap.size w w') : View f w' ao n c xs :=
  ⟨h.len, h.nil, h.cap, fun a ha => (h.reads a ha).keep hb⟩

theorem cloneI8_view (oo : Option Addr) (n c : Nat) (xs : List Int) (w : World) (hn : n ≤ 1048576) (hv : View (Value.int .i8) w oo n c xs) :
    Calls Try.prog 47 #[.slice oo n c] w fun e w' => ∃ oo' c' g, e = .returned (.slice oo' n c') ∧ n ≤ c' ∧ (0 < n → oo' = some ⟨g, 0, none⟩ ∧ Blk w' g 53 (xs.map (Value.int .i8))) ∧ Below w.heap.size w w' := by
  obtain ⟨rfl, h2, h3, h4⟩ := hv
  cases oo with
  | none =>
    obtain ⟨e1, e2⟩ := h2 rfl
    rw [e1, e2]
    exact (cloneI8_nil w).mono fun e w' ⟨he, hw⟩ => ⟨none, 0, 0, he, Nat.le_refl _, fun h => absurd h (by omega), by rw [hw]; exact Below.refl _ _⟩
  | some a => exact (cloneI8_any a c xs w hn (h4 a rfl)).mono fun e w' ⟨he, hb, hw⟩ => ⟨_, _, _, he, Nat.le_refl _, fun _ => ⟨rfl, hb⟩, hw⟩
theorem cloneBool_view (oo : Option Addr) (n c : Nat) (xs : List Bool) (w : World) (hn : n ≤ 1048576) (hv : View Value.bool w oo n c xs) :
    Calls Try.prog 48 #[.slice oo n c] w fun e w' => ∃ oo' c' g, e = .returned (.slice oo' n c') ∧ n ≤ c' ∧ (0 < n → oo' = some ⟨g, 0, none⟩ ∧ Blk w' g 4 (xs.map Value.bool)) ∧ Below w.heap.size w w' := by
  obtain ⟨rfl, h2, h3, h4⟩ := hv
  cases oo with
  | none =>
    obtain ⟨e1, e2⟩ := h2 rfl
    rw [e1, e2]
    exact (cloneBool_nil w).mono fun e w' ⟨he, hw⟩ => ⟨none, 0, 0, he, Nat.le_refl _, fun h => absurd h (by omega), by rw [hw]; exact Below.refl _ _⟩
  | some a => exact (cloneBool_any a c xs w hn (h4 a rfl)).mono fun e w' ⟨he, hb, hw⟩ => ⟨_, _, _, he, Nat.le_refl _, fun _ => ⟨rfl, hb⟩, hw⟩

set_option maxHeartbeats 400000 in
theorem bytes_no (rs : Value) (oo ao bo : Option Addr) (n a b c1 c2 c3 : Nat) (x y : Bool) (w : World) (hn : n ≤ maxLen) (ha : a ≤ maxLen) (hb : b ≤ maxLen) (h : (1048576 : Int) < n + a + b) (r0 r1 r2 r3 : Int) (hr : rs = .agg #[.int .i64 r0, .int .i64 r1, .int .i64 r2, .int .i64 r3]) :
    Calls Try.prog 46 #[rs, .slice oo n c1, .bool x, .slice ao a c2, .bool y, .slice bo b c3] w fun e w' => e = .returned (.bool false) ∧ Below w.heap.size w w' := by
  subst hr
  unfold maxLen at hn ha hb
  go_enter Try.func46, Try.ntmps46
  go_wp2
  all_goals
    go_ret
    exact ⟨rfl, by repeat (first | exact Below.refl _ _ | exact (Below.refl _ _).alloc (Nat.le_refl _) _)⟩
set_option maxHeartbeats 400000 in
theorem bytes_yes (rs : Value) (oo ao bo : Option Addr) (n a b c1 c2 c3 : Nat) (x y : Bool) (w : World) (h : (n : Int) + a + b ≤ 1048576) (r0 r1 r2 r3 : Int) (hr : rs = .agg #[.int .i64 r0, .int .i64 r1, .int .i64 r2, .int .i64 r3]) :
    Calls Try.prog 46 #[rs, .slice oo n c1, .bool x, .slice ao a c2, .bool y, .slice bo b c3] w fun e w' => e = .returned (.bool true) ∧ Below w.heap.size w w' := by
  subst hr
  go_enter Try.func46, Try.ntmps46
  go_wp2
  go_ret
  exact ⟨rfl, by repeat (first | exact Below.refl _ _ | exact (Below.refl _ _).alloc (Nat.le_refl _) _)⟩

theorem zzOrdered_n (m : Nat) (r0 r1 r2 r3 : Int) (os : List Int) (an bn : List Bool) (oo ao bo : Option Addr) (c1 c2 c3 gO gP gQ : Nat) (x y : Bool) (w : World)
    (hl : os.length = m) (hn : m ≤ 65536) (ha : an.length = m) (hb : bn.length = m) (h1 : m ≤ c1) (h2 : m ≤ c2) (h3 : m ≤ c3)
    (h3v : ∀ k (h : k < os.length), os[k] = -1 ∨ os[k] = 0 ∨ os[k] = 1)
    (hO : 0 < os.length → oo = some ⟨gO, 0, none⟩ ∧ Blk w gO 53 (os.map (Value.int .i8)) ∧ ao = some ⟨gP, 0, none⟩ ∧ Blk w gP 4 (an.map Value.bool) ∧ bo = some ⟨gQ, 0, none⟩ ∧ Blk w gQ 4 (bn.map Value.bool)) :
    Calls Try.prog 49 #[.agg #[.int .i64 r0, .int .i64 r1, .int .i64 r2, .int .i64 r3], .slice oo m c1, .bool x, .slice ao m c2, .bool y, .slice bo m c3] w fun e w' =>
      ∃ gN gF, e = .returned (.tuple #[.slice (some ⟨gN, 0, none⟩) m m, .slice (some ⟨gF, 0, none⟩) m m, .bool (!x && !y)]) ∧
        Blk w' gN 2 (os.map fun o => .int .i64 (pick r0 r1 r2 o)) ∧ Blk w' gF 5 ((states x y an bn).map (Value.int .u8)) ∧ Below w.heap.size w w' := by
  subst hl
  exact zzOrdered_any r0 r1 r2 r3 os an bn oo ao bo c1 c2 c3 gO gP gQ x y w hn ha hb h1 h2 h3 h3v hO
theorem pick_swap (r0 r1 r2 o : Int) (h : o = -1 ∨ o = 0 ∨ o = 1) : pick r2 r1 r0 (-o) = pick r0 r1 r2 o := by
  rcases h with rfl | rfl | rfl <;> simp [pick]
theorem states_swap (x y : Bool) (an bn : List Bool) (h : bn.length = an.length) : states y x bn an = states x y an bn := by
  have e : ∀ (l m : List Bool), (m.zip l).map (fun p : Bool × Bool => stOf p.1 p.2) = (l.zip m).map (fun p => stOf p.1 p.2) := by
    intro l
    induction l with
    | nil => intro m; cases m <;> rfl
    | cons a l ih =>
      intro m
      cases m with
      | nil => rfl
      | cons b m => simp only [List.zip_cons_cons, List.map_cons, ih]; cases a <;> cases b <;> rfl
  unfold states
  rw [e, h]
  cases x <;> cases y <;> rfl

set_option maxRecDepth 100000 in
set_option maxHeartbeats 4000000 in
theorem law_main (r0 r1 r2 r3 : Int) (oo ao bo : Option Addr) (m c1 c2 c3 : Nat) (os : List Int) (an bn : List Bool) (x y : Bool) (w : World) (hm : m ≤ 65536)
    (vO : View (Value.int .i8) w oo m c1 os) (vA : View Value.bool w ao m c2 an) (vB : View Value.bool w bo m c3 bn) :
    Calls Try.prog 12 #[.agg #[.int .i64 r0, .int .i64 r1, .int .i64 r2, .int .i64 r3], .slice oo m c1, .bool x, .slice ao m c2, .bool y, .slice bo m c3] w fun e w' => e = .returned (.bool true) ∧ Below w.heap.size w w' := by
  have HvO : Hid _ := vO
  have HvA : Hid _ := vA
  have HvB : Hid _ := vB
  clear vO vA vB
  have e1 : ((m : Int) != (m : Int)) = false := by simp
  have d1 : decide ((65536 : Int) < (m : Int)) = false := by simp; omega
  have d2 : decide ((1048576 : Int) < (m : Int) + (m : Int) + (m : Int)) = false := by simp; omega
  go_enter Try.func12, Try.ntmps12
  go_wp2_with fail
  refine (bytes_yes _ _ _ _ _ _ _ _ _ _ _ _ _ (by omega) r0 r1 r2 r3 rfl).mono ?_
  rintro e w1 ⟨rfl, hb1⟩
  have hb0 : Below w.heap.size w w1 := below_here ((Below.refl _ _).alloc (Nat.le_refl _) _) (Nat.le_refl _) hb1
  have hbx : Blk w1 w.heap.size 63 [.int .i64 r0, .int .i64 r1, .int .i64 r2, .int .i64 r3] := (Blk.new w 63 _).keep hb1 (by simp)
  clear hb1
  go_wp2_with fail
  go_loop [14] (fun i => ∃ k : Nat, k ≤ m ∧ i = .int .i64 k ∧ Hid (∀ j (h : j < os.length), j < k → os[j] = -1 ∨ os[j] = 0 ∨ os[j] = 1)) (fun i => m - (intOf i).toNat)
  case atStart => exact ⟨0, Nat.zero_le _, rfl, fun j _ h => absurd h (by omega)⟩
  case round =>
    obtain ⟨k, hk, rfl, hok⟩ := hrel
    by_cases hlt : k < m
    · have hko : k < os.length := by rw [HvO.out.len]; exact hlt
      obtain ⟨a, rfl⟩ : ∃ a, oo = some a := by
        cases oo with
        | none => have := (HvO.out.nil rfl).1; omega
        | some a => exact ⟨a, rfl⟩
      obtain ⟨b, off, rfl, hbw⟩ := (HvO.out.reads _ rfl).at hko
      obtain ⟨o, Ho⟩ : ∃ o, Hid (o = os[k]) := ⟨os[k], rfl⟩
      have hc : w1.cell? ⟨b, off + k, none⟩ = some (.int .i8 o) := by
        rw [Ho.out]; exact ((HvO.out.keep hb0).reads _ rfl).get hko
      have hkI : (k : Int) < (m : Int) := by omega
      by_cases l1 : o < -1
      · go_wp2
        go_ret
        exact ⟨rfl, hb0⟩
      · by_cases l2 : 1 < o
        · go_wp2
          go_ret
          exact ⟨rfl, hb0⟩
        · have hok' : Hid (∀ j (h : j < os.length), j < k + 1 → os[j] = -1 ∨ os[j] = 0 ∨ os[j] = 1) := by
            intro j h hj
            by_cases e : j = k
            · subst e; have := Ho.out; omega
            · exact hok.out j h (by omega)
          clear Ho hok
          go_wp2
          go_round
          case rel => exact ⟨k + 1, by omega, by go_num, hok'⟩
          case measure => simp [intOf]; omega
    · have HV : Hid (∀ j (h : j < os.length), os[j] = -1 ∨ os[j] = 0 ∨ os[j] = 1) := fun j h => hok.out j h (by have := HvO.out.len; omega)
      clear hok
      go_wp2_with fail
      refine (cloneI8_view _ _ _ os _ (by omega) (HvO.out.keep hb0)).mono ?_
      rintro e w2 ⟨oo', c1', gO, rfl, hc1, hO, hb2⟩
      have hb2' : Below w.heap.size w w2 := below_here hb0 (Nat.le_refl _) hb2
      go_wp2_with fail
      refine (cloneBool_view _ _ _ an _ (by omega) (HvA.out.keep hb2')).mono ?_
      rintro e w3 ⟨ao', c2', gP, rfl, hc2, hP, hb3⟩
      have hb3' : Below w.heap.size w w3 := below_here hb2' (Nat.le_refl _) hb3
      go_wp2_with fail
      refine (cloneBool_view _ _ _ bn _ (by omega) (HvB.out.keep hb3')).mono ?_
      rintro e w4 ⟨bo', c3', gQ, rfl, hc3, hQ, hb4⟩
      have hb4' : Below w.heap.size w w4 := below_here hb3' (Nat.le_refl _) hb4
      have s2 := hb2.size
      have s3 := hb3.size
      have s4 := hb4.size
      have HO4 : Hid (0 < os.length → oo' = some ⟨gO, 0, none⟩ ∧ Blk w4 gO 53 (os.map (Value.int .i8)) ∧ ao' = some ⟨gP, 0, none⟩ ∧ Blk w4 gP 4 (an.map Value.bool) ∧ bo' = some ⟨gQ, 0, none⟩ ∧ Blk w4 gQ 4 (bn.map Value.bool)) := by
        intro h
        have hm0 : 0 < m := by rw [← HvO.out.len]; exact h
        obtain ⟨q1, q2⟩ := hO hm0
        obtain ⟨q3, q4⟩ := hP hm0
        obtain ⟨q5, q6⟩ := hQ hm0
        exact ⟨q1, (q2.keep hb3 q2.lt).keep hb4 (Nat.lt_of_lt_of_le q2.lt s3), q3, q4.keep hb4 q4.lt, q5, q6⟩
      have hbx4 : Blk w4 w.heap.size 63 [.int .i64 r0, .int .i64 r1, .int .i64 r2, .int .i64 r3] := ((hbx.keep hb2 hbx.lt).keep hb3 (by have := hbx.lt; omega)).keep hb4 (by have := hbx.lt; omega)
      clear hO hP hQ hb2 hb3 hb4 hb2' hb3' hb0 hbx
      have hmk := fun (wx : World) => run_make_n (P := Try.prog) Try.underlying64 Try.info53 rfl m (by omega) (by unfold maxLen; omega) wx
      go_wp2_with fail
      clear hmk
      obtain ⟨G, HG⟩ : ∃ G, Hid (G = w4.heap.size) := ⟨_, rfl⟩
      rw [← HG.out]
      have lG : w.heap.size < G := by rw [HG.out]; have := hbx4.lt; omega
      go_loopw [16] (fun i wr => ∃ k : Nat, k ≤ m ∧ i = .int .i64 k ∧ Blk wr G 53 (half (fun o => .int .i8 (-o)) (.int .i8 0) os k) ∧ Below G w4 wr) (fun i _ => m - (intOf i).toNat)
      case atStart => exact ⟨0, Nat.zero_le _, rfl, by rw [half_zero, HvO.out.len, HG.out]; exact Blk.made w4 53 _ _, by rw [HG.out]; exact (Below.refl _ _).alloc (Nat.le_refl _) _⟩
      case round =>
        obtain ⟨k2, hk2, rfl, hblk, hbel⟩ := hrel
        by_cases hlt2 : k2 < m
        · have hko : k2 < os.length := by rw [HvO.out.len]; exact hlt2
          obtain ⟨rfl, q2, rfl, q4, rfl, q6⟩ := HO4.out (by omega)
          obtain ⟨o, Ho⟩ : ∃ o, Hid (o = os[k2]) := ⟨os[k2], rfl⟩
          have hc : wr.cell? ⟨gO, k2, none⟩ = some (.int .i8 o) := by
            refine (q2.keep hbel ?_).cell ?_
            · rw [HG.out]; exact q2.lt
            · rw [Ho.out]; simp [hko]
          have hd := hblk.cell (half_get (fun o => .int .i8 (-o)) (.int .i8 0) hko)
          have hf := hblk.free k2
          have hkI : (k2 : Int) < (m : Int) := by omega
          have hst : Hid (∀ v, v = -o → Blk (wr.setCell ⟨G, k2, none⟩ (.int .i8 v)) G 53 (half (fun o => .int .i8 (-o)) (.int .i8 0) os (k2 + 1)) ∧ Below G w4 (wr.setCell ⟨G, k2, none⟩ (.int .i8 v))) := by
            intro v hv
            have h := hblk.set k2 (.int .i8 v)
            rw [hv, Ho.out, half_set (fun o => .int .i8 (-o)) (.int .i8 0) hko] at h
            rw [hv, Ho.out]
            exact ⟨h, hbel.setCell (Nat.le_refl _) _⟩
          have hv3 : o = -1 ∨ o = 0 ∨ o = 1 := by rw [Ho.out]; exact HV.out k2 hko
          clear Ho hblk hbel q2 q4 q6 hko
          rcases hv3 with rfl | rfl | rfl
          all_goals
            go_wp2
            go_roundw
            case rel => exact ⟨k2 + 1, by omega, by go_num, (hst.out _ rfl).1, (hst.out _ rfl).2⟩
            case measure => simp [intOf]; omega
        · rw [half_full _ _ _ (by rw [HvO.out.len]; omega)] at hblk
          obtain ⟨w5, H5⟩ : ∃ w5, Hid (w5 = wr) := ⟨_, rfl⟩
          rw [← H5.out] at hblk hbel ⊢
          clear H5
          have hb5 : Below w.heap.size w w5 := hb4'.trans (hbel.mono (by rw [HG.out]; exact hb4'.size))
          have HO5 : Hid (0 < os.length → oo' = some ⟨gO, 0, none⟩ ∧ Blk w5 gO 53 (os.map (Value.int .i8)) ∧ ao' = some ⟨gP, 0, none⟩ ∧ Blk w5 gP 4 (an.map Value.bool) ∧ bo' = some ⟨gQ, 0, none⟩ ∧ Blk w5 gQ 4 (bn.map Value.bool)) := by
            intro h
            obtain ⟨q1, q2, q3, q4, q5, q6⟩ := HO4.out h
            exact ⟨q1, q2.keep hbel (by rw [HG.out]; exact q2.lt), q3, q4.keep hbel (by rw [HG.out]; exact q4.lt), q5, q6.keep hbel (by rw [HG.out]; exact q6.lt)⟩
          have hbx5 := hbx4.keep hbel lG
          have b0 : w5.cell? ⟨w.heap.size, 0, none⟩ = some (.int .i64 r0) := hbx5.cell rfl
          have b1 : w5.cell? ⟨w.heap.size, 1, none⟩ = some (.int .i64 r1) := hbx5.cell rfl
          have b2 : w5.cell? ⟨w.heap.size, 2, none⟩ = some (.int .i64 r2) := hbx5.cell rfl
          have b3 : w5.cell? ⟨w.heap.size, 3, none⟩ = some (.int .i64 r3) := hbx5.cell rfl
          have l5 : w.heap.size < w5.heap.size := hbx5.lt
          have HN5 : Hid (Blk w5 G 53 (os.map fun o => .int .i8 (-o))) := hblk
          clear hbx4 hbx5 hblk hbel HO4 hb4'
          go_wp2_with fail
          refine (zzOrdered_n m r0 r1 r2 r3 os an bn oo' ao' bo' c1' c2' c3' gO gP gQ x y _ HvO.out.len hm HvA.out.len HvB.out.len hc1 hc2 hc3 HV.out (fun h0 => ?q1)).mono ?_
          case q1 =>
            obtain ⟨q1, q2, q3, q4, q5, q6⟩ := HO5.out h0
            exact ⟨q1, q2.alloc _, q3, q4.alloc _, q5, q6.alloc _⟩
          rintro e w6 ⟨gN, gF, rfl, bN, bF, hb6⟩
          have hsw : Blk w6 w5.heap.size 63 [.int .i64 r2, .int .i64 r1, .int .i64 r0, .int .i64 r3] := (Blk.new w5 63 _).keep hb6 (by simp)
          have b6 : Below w.heap.size w w6 := below_here (hb5.alloc (Nat.le_of_lt l5) _) (Nat.le_refl _) hb6
          have HO6 : Hid (0 < os.length → Blk w6 G 53 (os.map fun o => .int .i8 (-o)) ∧ ao' = some ⟨gP, 0, none⟩ ∧ Blk w6 gP 4 (an.map Value.bool) ∧ bo' = some ⟨gQ, 0, none⟩ ∧ Blk w6 gQ 4 (bn.map Value.bool)) := by
            intro h0
            obtain ⟨q1, q2, q3, q4, q5, q6⟩ := HO5.out h0
            exact ⟨(HN5.out.alloc _).keep hb6 (HN5.out.alloc _).lt, q3, (q4.alloc _).keep hb6 (q4.alloc _).lt, q5, (q6.alloc _).keep hb6 (q6.alloc _).lt⟩
          have s0 : w6.cell? ⟨w5.heap.size, 0, none⟩ = some (.int .i64 r2) := hsw.cell rfl
          have s1 : w6.cell? ⟨w5.heap.size, 1, none⟩ = some (.int .i64 r1) := hsw.cell rfl
          have s2' : w6.cell? ⟨w5.heap.size, 2, none⟩ = some (.int .i64 r0) := hsw.cell rfl
          have s3' : w6.cell? ⟨w5.heap.size, 3, none⟩ = some (.int .i64 r3) := hsw.cell rfl
          have HN6 : Hid (Blk w6 gN 2 (os.map fun o => .int .i64 (pick r0 r1 r2 o))) := bN
          have HF6 : Hid (Blk w6 gF 5 ((states x y an bn).map (Value.int .u8))) := bF
          clear bN bF hb6 hsw HO5 HN5 hb5 b0 b1 b2 b3
          go_wp2_with fail
          refine (zzOrdered_n m r2 r1 r0 r3 (os.map fun o => -o) bn an (some ⟨G, 0, none⟩) bo' ao' m c3' c2' G gQ gP y x _ (by rw [List.length_map]; exact HvO.out.len) hm HvB.out.len HvA.out.len (Nat.le_refl _) hc3 hc2 (fun k h => ?q2) (fun h0 => ?q3)).mono ?_
          case q2 =>
            have hk' : k < os.length := by simpa using h
            have := HV.out k hk'
            rw [List.getElem_map]
            omega
          case q3 =>
            obtain ⟨q1, q3, q4, q5, q6⟩ := HO6.out (by simpa using h0)
            exact ⟨rfl, by rw [List.map_map]; exact q1, q5, q6, q3, q4⟩
          rintro e w7 ⟨gN2, gF2, rfl, bN2, bF2, hb7⟩
          have b7 : Below w.heap.size w w7 := below_here b6 (Nat.le_refl _) hb7
          have HN7 : Hid (Blk w7 gN 2 (os.map fun o => .int .i64 (pick r0 r1 r2 o))) := HN6.out.keep hb7 HN6.out.lt
          have HF7 : Hid (Blk w7 gF 5 ((states x y an bn).map (Value.int .u8))) := HF6.out.keep hb7 HF6.out.lt
          have HM7 : Hid (Blk w7 gN2 2 (os.map fun o => .int .i64 (pick r0 r1 r2 o))) := by
            rw [List.map_map] at bN2
            have e : os.map ((fun o => Value.int .i64 (pick r2 r1 r0 o)) ∘ fun o => -o) = os.map fun o => .int .i64 (pick r0 r1 r2 o) := by
              refine List.map_congr_left fun o ho => ?_
              obtain ⟨k, hk, rfl⟩ := List.getElem_of_mem ho
              show Value.int .i64 (pick r2 r1 r0 (-os[k])) = _
              rw [pick_swap _ _ _ _ (HV.out k hk)]
            rw [e] at bN2
            exact bN2
          have HE7 : Hid (Blk w7 gF2 5 ((states x y an bn).map (Value.int .u8))) := by
            rw [states_swap x y an bn (by rw [HvA.out.len, HvB.out.len])] at bF2
            exact bF2
          have HSL : Hid ((states x y an bn).length = m) := by rw [Hid, states_len _ _ _ _ (by rw [HvA.out.len, HvB.out.len])]; exact HvA.out.len
          clear bN2 bF2 hb7 HN6 HF6 HO6 s0 s1 s2' s3' b6
          obtain ⟨S, HS⟩ : ∃ S, Hid (S = states x y an bn) := ⟨_, rfl⟩
          rw [← HS.out] at HF7 HE7 HSL
          clear HS
          cases x <;> cases y
          all_goals
            go_wp2
            go_loopw [24] (fun i wr => ∃ k : Nat, k ≤ m ∧ i = .int .i64 k ∧ Hid (∃ n, wr = w7.drewN n)) (fun i _ => m - (intOf i).toNat)
            case atStart => exact ⟨0, Nat.zero_le _, rfl, 0, rfl⟩
            case round =>
              obtain ⟨k3, hk3, rfl, HW⟩ := hrel
              by_cases hlt3 : k3 < m
              · have hko : k3 < os.length := by rw [HvO.out.len]; exact hlt3
                have hks := hlt3
                rw [← HSL.out] at hks
                obtain ⟨v, Hv⟩ : ∃ v, Hid (v = pick r0 r1 r2 os[k3]) := ⟨pick r0 r1 r2 os[k3], rfl⟩
                obtain ⟨t, Ht⟩ : ∃ t, Hid (t = S[k3]) := ⟨S[k3], rfl⟩
                have y1 : wr.cell? ⟨gN, k3, none⟩ = some (.int .i64 v) := by
                  obtain ⟨n, rfl⟩ := HW.out
                  exact HN7.out.cell (by rw [Hv.out]; simp [hko])
                have y2 : wr.cell? ⟨gN2, k3, none⟩ = some (.int .i64 v) := by
                  obtain ⟨n, rfl⟩ := HW.out
                  exact HM7.out.cell (by rw [Hv.out]; simp [hko])
                have y3 : wr.cell? ⟨gF, k3, none⟩ = some (.int .u8 t) := by
                  obtain ⟨n, rfl⟩ := HW.out
                  exact HF7.out.cell (by rw [Ht.out]; simp [hks])
                have y4 : wr.cell? ⟨gF2, k3, none⟩ = some (.int .u8 t) := by
                  obtain ⟨n, rfl⟩ := HW.out
                  exact HE7.out.cell (by rw [Ht.out]; simp [hks])
                have hkI : (k3 : Int) < (m : Int) := by omega
                have g1 : (v != v) = false := by simp
                have g2 : (t != t) = false := by simp
                clear Hv Ht hko hks
                go_wp2
                go_quiet (fail)
                have HW' : Hid (∃ n, wr.drewN nq = w7.drewN n) := by
                  obtain ⟨n, hn⟩ := HW.out
                  exact ⟨n + nq, by rw [hn, World.drewN_drewN]⟩
                go_wp2
                go_roundw
                case rel => exact ⟨k3 + 1, by omega, by go_num, HW'⟩
                case measure => simp [intOf]; omega
              · go_wp2
                go_ret
                obtain ⟨n, rfl⟩ := HW.out
                exact ⟨rfl, below_drewN b7 n⟩
end Go.Proofs.Qxb6001671a.ord
