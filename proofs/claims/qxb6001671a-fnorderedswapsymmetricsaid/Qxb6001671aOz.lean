/-
  THE WALKS OF FnOrderedSwapSymmetric's CALLEES (3): ZZOrdered.
-/
import Derived.Test.Qxb6001671aOo
import Derived.Deep.RegionHeld3
namespace Go.Proofs.Qxb6001671a.ord
open Go.RowKit
set_option linter.unusedVariables false

theorem fromStates_n (a : Addr) (c n : Nat) (xs : List Int) (w : World) (hx : xs.length = n) (hn : n ≤ 1048576) (hr : Reads (Value.int .u8) w a xs) :
    Calls Try.prog 65 #[.slice (some a) n c] w fun e w' => e = .returned (.slice (some ⟨w.heap.size, 0, none⟩) n n) ∧ Blk w' w.heap.size 5 (xs.map (Value.int .u8)) ∧ Below w.heap.size w w' := by
  subst hx
  exact fromStates_any a c xs w hn hr
theorem Reads.ofBlk {α : Type} {f : α → Value} {w : World} {g : Nat} {e : TypeId} {xs : List α} (h : Blk w g e (xs.map f)) : Reads f w ⟨g, 0, none⟩ xs := by
  intro j hj
  rw [Addr.add_lit, Nat.zero_add]
  exact h.cell (by simp [hj])
theorem states_len (x y : Bool) (an bn : List Bool) (h : bn.length = an.length) : (states x y an bn).length = an.length := by
  unfold states; split <;> simp [h]
/-- Six blocks laid, one behind the other, and a draw. -/
theorem six (w : World) (o0 o1 o2 o3 o4 o5 : Obj) (W : World) (hW : W = ((((((w.alloc o0).alloc o1).alloc o2).alloc o3).alloc o4).alloc o5).drew) :
    W.heap[w.heap.size + 1]? = some o1 ∧ W.heap[w.heap.size + 1 + 1]? = some o2 ∧ W.heap[w.heap.size + 1 + 1 + 1]? = some o3 ∧ W.heap[w.heap.size + 1 + 1 + 1 + 1]? = some o4 ∧ W.heap[w.heap.size + 1 + 1 + 1 + 1 + 1]? = some o5 ∧ Below w.heap.size w W := by
  have hh : W.heap = (((((w.heap.push o0).push o1).push o2).push o3).push o4).push o5 := by rw [hW]; rfl
  have hb : Below w.heap.size w W := by
    rw [hW]
    exact (((((((Below.refl _ _).alloc (Nat.le_refl _) _).alloc (by simp) _).alloc (by simp; omega) _).alloc (by simp; omega) _).alloc (by simp; omega) _).alloc (by simp; omega) _).drew
  refine ⟨?_, ?_, ?_, ?_, ?_, hb⟩ <;> rw [hh] <;> simp only [Array.getElem?_push, Array.size_push] <;> (repeat (first | exact if_pos trivial | rw [if_pos (by omega)] | rw [if_neg (by omega)]))

set_option maxRecDepth 100000 in
set_option maxHeartbeats 2000000 in
theorem zzOrdered_any (r0 r1 r2 r3 : Int) (os : List Int) (an bn : List Bool) (oo ao bo : Option Addr) (c1 c2 c3 gO gP gQ : Nat) (x y : Bool) (w : World)
    (hn : os.length ≤ 65536) (ha : an.length = os.length) (hb : bn.length = os.length) (h1 : os.length ≤ c1) (h2 : os.length ≤ c2) (h3 : os.length ≤ c3)
    (h3v : ∀ k (h : k < os.length), os[k] = -1 ∨ os[k] = 0 ∨ os[k] = 1)
    (hO : 0 < os.length → oo = some ⟨gO, 0, none⟩ ∧ Blk w gO 53 (os.map (Value.int .i8)) ∧ ao = some ⟨gP, 0, none⟩ ∧ Blk w gP 4 (an.map Value.bool) ∧ bo = some ⟨gQ, 0, none⟩ ∧ Blk w gQ 4 (bn.map Value.bool)) :
    Calls Try.prog 49 #[.agg #[.int .i64 r0, .int .i64 r1, .int .i64 r2, .int .i64 r3], .slice oo os.length c1, .bool x, .slice ao os.length c2, .bool y, .slice bo os.length c3] w fun e w' =>
      ∃ gN gF, e = .returned (.tuple #[.slice (some ⟨gN, 0, none⟩) os.length os.length, .slice (some ⟨gF, 0, none⟩) os.length os.length, .bool (!x && !y)]) ∧
        Blk w' gN 2 (os.map fun o => .int .i64 (pick r0 r1 r2 o)) ∧ Blk w' gF 5 ((states x y an bn).map (Value.int .u8)) ∧ Below w.heap.size w w' := by
  have HO : Hid _ := hO
  have HV : Hid _ := h3v
  have HLa : Hid _ := ha
  have HLb : Hid _ := hb
  clear hO h3v ha hb
  have m1 := fun (wx : World) => run_make_n (P := Try.prog) Try.underlying69 Try.info2 rfl os.length (by omega) (by unfold maxLen; omega) wx
  have m2 := fun (wx : World) => run_make_n (P := Try.prog) Try.underlying96 Try.info91 rfl os.length (by omega) (by unfold maxLen; omega) wx
  go_enter Try.func49, Try.ntmps49
  go_wp2
  go_region
  · go_wp2_with fail
    clear m1 m2
    generalize hW : World.drew _ = W
    obtain ⟨e1, e2, e3, e4, e5, hbW⟩ := six w _ _ _ _ _ _ W hW.symm
    have HW : Hid (World.drew _ = W) := hW
    clear hW
    refine (ordered_any w.heap.size r0 r1 r2 r3 os an bn oo ao bo c1 c2 c3 gO gP gQ (w.heap.size + 1 + 1 + 1 + 1) (w.heap.size + 1 + 1 + 1 + 1 + 1) (w.heap.size + 1 + 1 + 1) (w.heap.size + 1) (w.heap.size + 1 + 1) x y W hn HLa.out HLb.out h1 h2 h3 HV.out
      (fun h0 => ?p1) ?p2 ?p3 ?p4 ?p5 ?p6 ?p7 ?p8 (by omega) (by omega) (by omega) (by omega) (by omega) (by omega) (by omega) (by omega) hbW.size).mono ?_
    case p1 =>
      obtain ⟨q1, q2, q3, q4, q5, q6⟩ := HO.out h0
      exact ⟨q1, q2.keep hbW q2.lt, q3, q4.keep hbW q4.lt, q5, q6.keep hbW q6.lt, q2.lt, q4.lt, q6.lt⟩
    case p2 => exact e3
    case p3 => rw [cell_of_row W _ _ _ _ _ e4]; rfl
    case p4 => rw [cell_of_row W _ _ _ _ _ e4]; rfl
    case p5 => rw [cell_of_row W _ _ _ _ _ e5]; rfl
    case p6 => rw [cell_of_row W _ _ _ _ _ e5]; rfl
    case p7 => rw [Blk, e1, ← made_list]
    case p8 => rw [Blk, e2, ← made_list]
    rintro e w1 ⟨rfl, bN, bS, bX, hb1⟩
    clear e1 e2 e3 e4 e5 HW
    have hb1' : Below w.heap.size w w1 := hbW.trans hb1
    have z1 := bX.lt
    have x0 : w1.cell? ⟨w.heap.size + 1 + 1 + 1, 0, none⟩ = some (.slice (some ⟨w.heap.size + 1, 0, none⟩) os.length os.length) := bX.cell rfl
    have x1 : w1.cell? ⟨w.heap.size + 1 + 1 + 1, 1, none⟩ = some (.slice (some ⟨w.heap.size + 1 + 1, 0, none⟩) os.length os.length) := bX.cell rfl
    have x2 : w1.cell? ⟨w.heap.size + 1 + 1 + 1, 2, none⟩ = some (.bool (!x && !y)) := bX.cell rfl
    have HN : Hid (Blk w1 (w.heap.size + 1) 2 (os.map fun o => .int .i64 (pick r0 r1 r2 o))) := bN
    have HX : Hid (Blk w1 (w.heap.size + 1 + 1 + 1) 100 _) := bX
    have HR : Hid (Reads (Value.int .u8) w1 ⟨w.heap.size + 1 + 1, 0, none⟩ (states x y an bn)) := Reads.ofBlk bS
    have HL : Hid ((states x y an bn).length = os.length) := by rw [Hid, states_len _ _ _ _ (by rw [HLa.out, HLb.out]), HLa.out]
    clear bN bS bX
    go_wp2
    go_region_held3 (fun w' => w'.cell? ⟨w.heap.size + 1 + 1 + 1, 0, none⟩ = some (.slice (some ⟨w.heap.size + 1, 0, none⟩) os.length os.length) ∧ w'.cell? ⟨w.heap.size + 1 + 1 + 1, 1, none⟩ = some (.slice (some ⟨w.heap.size + 1 + 1, 0, none⟩) os.length os.length) ∧ w'.cell? ⟨w.heap.size + 1 + 1 + 1, 2, none⟩ = some (.bool (!x && !y))) (go_keep)
      (first | (go_at_call 65; refine (fromStates_n _ _ _ (states x y an bn) w1.drew HL.out (by omega) HR.out).mono ?_; rintro e w2 ⟨rfl, bF, hb2⟩; have y0 := (hb2.cell (p := ⟨w.heap.size + 1 + 1 + 1, 0, none⟩) z1).trans x0; have y1 := (hb2.cell (p := ⟨w.heap.size + 1 + 1 + 1, 1, none⟩) z1).trans x1; have y2 := (hb2.cell (p := ⟨w.heap.size + 1 + 1 + 1, 2, none⟩) z1).trans x2))
    go_wp2
    go_ret3
    have hb3 : Below w1.heap.size w1 w2 := ⟨hb2.os, hb2.tape, hb2.output, hb2.size, hb2.block⟩
    exact ⟨_, _, rfl, HN.out.keep hb3 HN.out.lt, bF, below_here hb1' (Nat.le_refl _) hb3⟩
  · go_wp2_with fail
    clear m1 m2
    generalize hW : World.drew _ = W
    obtain ⟨e1, e2, e3, e4, e5, hbW⟩ := six w _ _ _ _ _ _ W hW.symm
    have HW : Hid (World.drew _ = W) := hW
    clear hW
    refine (ordered_any w.heap.size r0 r1 r2 r3 os an bn oo ao bo c1 c2 c3 gO gP gQ (w.heap.size + 1 + 1 + 1 + 1) (w.heap.size + 1 + 1 + 1 + 1 + 1) (w.heap.size + 1 + 1 + 1) (w.heap.size + 1 + 1) (w.heap.size + 1) x y W hn HLa.out HLb.out h1 h2 h3 HV.out
      (fun h0 => ?p1) ?p2 ?p3 ?p4 ?p5 ?p6 ?p7 ?p8 (by omega) (by omega) (by omega) (by omega) (by omega) (by omega) (by omega) (by omega) hbW.size).mono ?_
    case p1 =>
      obtain ⟨q1, q2, q3, q4, q5, q6⟩ := HO.out h0
      exact ⟨q1, q2.keep hbW q2.lt, q3, q4.keep hbW q4.lt, q5, q6.keep hbW q6.lt, q2.lt, q4.lt, q6.lt⟩
    case p2 => exact e3
    case p3 => rw [cell_of_row W _ _ _ _ _ e4]; rfl
    case p4 => rw [cell_of_row W _ _ _ _ _ e4]; rfl
    case p5 => rw [cell_of_row W _ _ _ _ _ e5]; rfl
    case p6 => rw [cell_of_row W _ _ _ _ _ e5]; rfl
    case p7 => rw [Blk, e2, ← made_list]
    case p8 => rw [Blk, e1, ← made_list]
    rintro e w1 ⟨rfl, bN, bS, bX, hb1⟩
    clear e1 e2 e3 e4 e5 HW
    have hb1' : Below w.heap.size w w1 := hbW.trans hb1
    have z1 := bX.lt
    have x0 : w1.cell? ⟨w.heap.size + 1 + 1 + 1, 0, none⟩ = some (.slice (some ⟨w.heap.size + 1 + 1, 0, none⟩) os.length os.length) := bX.cell rfl
    have x1 : w1.cell? ⟨w.heap.size + 1 + 1 + 1, 1, none⟩ = some (.slice (some ⟨w.heap.size + 1, 0, none⟩) os.length os.length) := bX.cell rfl
    have x2 : w1.cell? ⟨w.heap.size + 1 + 1 + 1, 2, none⟩ = some (.bool (!x && !y)) := bX.cell rfl
    have HN : Hid (Blk w1 (w.heap.size + 1 + 1) 2 (os.map fun o => .int .i64 (pick r0 r1 r2 o))) := bN
    have HX : Hid (Blk w1 (w.heap.size + 1 + 1 + 1) 100 _) := bX
    have HR : Hid (Reads (Value.int .u8) w1 ⟨w.heap.size + 1, 0, none⟩ (states x y an bn)) := Reads.ofBlk bS
    have HL : Hid ((states x y an bn).length = os.length) := by rw [Hid, states_len _ _ _ _ (by rw [HLa.out, HLb.out]), HLa.out]
    clear bN bS bX
    go_wp2
    go_region_held3 (fun w' => w'.cell? ⟨w.heap.size + 1 + 1 + 1, 0, none⟩ = some (.slice (some ⟨w.heap.size + 1 + 1, 0, none⟩) os.length os.length) ∧ w'.cell? ⟨w.heap.size + 1 + 1 + 1, 1, none⟩ = some (.slice (some ⟨w.heap.size + 1, 0, none⟩) os.length os.length) ∧ w'.cell? ⟨w.heap.size + 1 + 1 + 1, 2, none⟩ = some (.bool (!x && !y))) (go_keep)
      (first | (go_at_call 65; refine (fromStates_n _ _ _ (states x y an bn) w1.drew HL.out (by omega) HR.out).mono ?_; rintro e w2 ⟨rfl, bF, hb2⟩; have y0 := (hb2.cell (p := ⟨w.heap.size + 1 + 1 + 1, 0, none⟩) z1).trans x0; have y1 := (hb2.cell (p := ⟨w.heap.size + 1 + 1 + 1, 1, none⟩) z1).trans x1; have y2 := (hb2.cell (p := ⟨w.heap.size + 1 + 1 + 1, 2, none⟩) z1).trans x2))
    go_wp2
    go_ret3
    have hb3 : Below w1.heap.size w1 w2 := ⟨hb2.os, hb2.tape, hb2.output, hb2.size, hb2.block⟩
    exact ⟨_, _, rfl, HN.out.keep hb3 HN.out.lt, bF, below_here hb1' (Nat.le_refl _) hb3⟩
end Go.Proofs.Qxb6001671a.ord
