/-
  THE WALKS OF FnEqualIsReflexive's CALLEES (9): ZZNewList, ZZNewMap, zzListValue.
-/
import Derived.Test.Qxb6001697aF4
import Derived.OwnWalk
namespace Go.Proofs.Qxb6001697a
open Go.RowKit
set_option linter.unusedVariables false

theorem Try.info47 : (Try.prog.info? 47).map (fun i => (i.zero, i.size, i.bytes)) = some (some (.agg #[.int .i64 0, .string ⟨#[]⟩, .bool false, .string ⟨#[]⟩, .int .i64 0, .bool false, .slice none 0 0, .map none, .slice none 0 0]), 9, 120) := by kernel_rfl
set_option maxRecDepth 100000 in
set_option maxHeartbeats 1000000 in
theorem newList_any (lo : Option Addr) (ln lc : Nat) (w : World) : Calls Try.prog 28 #[.slice lo ln lc] w fun e w' =>
    e = .returned (.agg (attrC 9 ⟨#[]⟩ false ⟨#[]⟩ 0 false none 0 0 none lo ln lc).toArray) ∧ Below w.heap.size w w' := by
  unfold attrC
  go_enter Try.func28, Try.ntmps28
  go_wp2
  refine bodyPost_ret (results_cell_row rfl _ _ w.heap.size 47 _ (0, 0) _ rfl (heap_alloc_new w _) Try.underlying47 rfl Try.size47) rfl ?_
  exact ⟨rfl, (Below.refl _ _).alloc (Nat.le_refl _) _⟩
set_option maxRecDepth 100000 in
set_option maxHeartbeats 1000000 in
theorem newMap_any (mo : Option Nat) (w : World) : Calls Try.prog 27 #[.map mo] w fun e w' =>
    e = .returned (.agg (attrC 8 ⟨#[]⟩ false ⟨#[]⟩ 0 false none 0 0 mo none 0 0).toArray) ∧ Below w.heap.size w w' := by
  unfold attrC
  go_enter Try.func27, Try.ntmps27
  go_wp2
  refine bodyPost_ret (results_cell_row rfl _ _ w.heap.size 47 _ (0, 0) _ rfl (heap_alloc_new w _) Try.underlying47 rfl Try.size47) rfl ?_
  exact ⟨rfl, (Below.refl _ _).alloc (Nat.le_refl _) _⟩

theorem View.grown {α : Type} {f : α → Value} {w w' : World} {ao : Option Addr} {n c G : Nat} {xs : List α} (h : View f w ao n c xs) (hg : w.grownBy w' (some G)) (hne : ∀ a, ao = some a → a.block ≠ G) : View f w' ao n c xs :=
  ⟨h.len, h.nil, h.cap, fun a ha i hi => by
    have h0 := h.reads a ha i hi
    obtain ⟨b, off, rfl, _⟩ := (h.reads a ha).at hi
    rw [Addr.add_lit] at h0 ⊢
    exact grown_cell hg h0 (hne _ ha)⟩
theorem Lf.Ok.grown {w w' : World} {l : Lf} {G : Nat} (h : l.Ok w) (hg : w.grownBy w' (some G)) (hne : ∀ a, l.so = some a → a.block ≠ G) : l.Ok w' := ⟨h.t0, h.t1, h.x0, h.x1, h.s1, h.d1, h.n1, h.view.grown hg hne, h.strs⟩
/-- A leaf's attribute value: nine cells. -/
def Lf.attr (l : Lf) : List Value := attrC l.typ l.s l.neg l.d l.ex l.b l.so l.sn l.sc none none 0 0
theorem Lf.Ok.self {w : World} {l : Lf} (h : l.Ok w) (hn : l.sn ≤ 64) : EqSelf w (.agg l.attr.toArray) := leaf_self _ _ _ _ _ _ _ _ _ l.xs w h.t0 h.t1 h.x0 h.x1 h.view hn

/-- The list, its first k values laid. -/
structure LS (w wr : World) (n k : Nat) : Prop where
  own : ∃ ls : List Lf, ls.length = k ∧ wr.ownsRow (w.heap.size + 1) 47 9 (.slice (some ⟨w.heap.size + 1, 0, none⟩) k n) k (ls.flatMap Lf.attr) ∧ ∀ l ∈ ls, l.Ok wr ∧ l.sn ≤ 64 ∧ ∀ a, l.so = some a → w.heap.size + 1 < a.block
  res : Blk wr w.heap.size 47 [.int .i64 0, .string ⟨#[]⟩, .bool false, .string ⟨#[]⟩, .int .i64 0, .bool false, .slice none 0 0, .map none, .slice none 0 0]
  below : Below w.heap.size w wr
theorem LS.step {w wr w2 w4 : World} {n k : Nat} (h : LS w wr n k) (hb : Below wr.heap.size wr w2) (l : Lf) (ok : l.Ok w2) (hn : l.sn ≤ 64) (hnw : ∀ a, l.so = some a → wr.heap.size ≤ a.block) (o : Obj)
    (ls : List Lf) (e : ls.length = k) (hlt : w.heap.size + 1 < wr.heap.size) (hall : ∀ l ∈ ls, l.Ok wr ∧ l.sn ≤ 64 ∧ ∀ a, l.so = some a → w.heap.size + 1 < a.block)
    (own : w4.ownsRow (w.heap.size + 1) 47 9 (.slice (some ⟨w.heap.size + 1, 0, none⟩) (k + 1) n) (k + 1) (ls.flatMap Lf.attr ++ l.attr))
    (hg : (w2.alloc o).grownBy w4 (some (w.heap.size + 1))) : LS w w4 n (k + 1) := by
  obtain ⟨-, hres, hbel⟩ := h
  have b2 : Below wr.heap.size wr (w2.alloc o) := hb.alloc hb.size _
  refine ⟨⟨ls ++ [l], by simp [e], by rw [List.flatMap_append]; simpa using own, fun x hx => ?_⟩, ?_, ?_⟩
  · rcases List.mem_append.1 hx with hx | hx
    · obtain ⟨q1, q2, q3⟩ := hall x hx
      exact ⟨(q1.keep b2).grown hg (fun a ha => by have := q3 a ha; omega), q2, q3⟩
    · simp only [List.mem_singleton] at hx
      subst hx
      have hne : ∀ a, x.so = some a → w.heap.size + 1 < a.block := fun a ha => by have := hnw a ha; omega
      exact ⟨(ok.keep ((Below.refl _ _).alloc (Nat.le_refl _) o)).grown hg (fun a ha => by have := hne a ha; omega), hn, hne⟩
  · exact (hres.keep b2 hres.lt).grown hg (by intro e; simp at e)
  · exact (below_here hbel (Nat.le_refl _) b2).grown hg (by have := b2.size; omega) (fun k hk => by cases hk; omega)
theorem attr_get (l : Lf) : l.attr = [.int .i64 l.typ, .string l.s, .bool l.neg, .string l.d, .int .i64 l.ex, .bool l.b, .slice l.so l.sn l.sc, .map none, .slice none 0 0] := rfl
theorem flat_get : ∀ (ls : List Lf) (k i : Nat) (hk : k < ls.length) (hi : i < 9), (ls.flatMap Lf.attr)[k * 9 + i]? = (ls[k].attr)[i]?
  | [], k, i, hk, hi => by simp at hk
  | l :: ls, 0, i, hk, hi => by
    rw [List.flatMap_cons, List.getElem?_append_left (by rw [attr_get]; simpa using hi)]
    simp
  | l :: ls, k + 1, i, hk, hi => by
    have h9 : l.attr.length = 9 := rfl
    rw [List.flatMap_cons, List.getElem?_append_right (by omega), h9, show (k + 1) * 9 + i - 9 = k * 9 + i by omega, flat_get ls k i (by simpa using hk) hi]
    simp
theorem listOk_of {w : World} {G B n k : Nat} {ls : List Lf} (e : ls.length = k) (hown : w.ownsRow B 47 9 (.slice (some ⟨G, 0, none⟩) k n) k (ls.flatMap Lf.attr)) (hall : ∀ l ∈ ls, l.Ok w ∧ l.sn ≤ 64) : ListOk w (some ⟨G, 0, none⟩) k := by
  intro j hj
  have hj' : j < ls.length := by omega
  obtain ⟨q1, q2⟩ := hall ls[j] (List.getElem_mem hj')
  have hc : ∀ i v, i < 9 → (ls[j].attr)[i]? = some v → w.cell? ⟨G, j * 9 + i, none⟩ = some v := fun i v hi hv => by
    have h0 := hown.cells (g := G) rfl (j * 9 + i) v (by rw [flat_get ls j i hj' hi]; exact hv)
    rw [Addr.add_lit, Nat.zero_add] at h0
    exact h0
  exact ⟨G, _, _, _, _, _, _, _, _, _, rfl, (hown.lt _ rfl).2, hc 0 _ (by omega) rfl, hc 1 _ (by omega) rfl, hc 2 _ (by omega) rfl, hc 3 _ (by omega) rfl, hc 4 _ (by omega) rfl, hc 5 _ (by omega) rfl, hc 6 _ (by omega) rfl, hc 7 _ (by omega) rfl, hc 8 _ (by omega) rfl, q1.self q2⟩
theorem LS.fin {w wr w2 w5 : World} {n k : Nat} (h : LS w wr n k) (hb : Below wr.heap.size wr w2) (hg : w2.grownBy w5 (some w.heap.size)) : ListOk w5 (some ⟨w.heap.size + 1, 0, none⟩) k := by
  obtain ⟨⟨ls, e, hown, hall⟩, hres, hbel⟩ := h
  have o2 : w2.ownsRow (w.heap.size + 1) 47 9 (.slice (some ⟨w.heap.size + 1, 0, none⟩) k n) k (ls.flatMap Lf.attr) := hown.kept (grown_of_below hb none) (.inr (by simp [Value.ownBlock]))
  refine listOk_of e (o2.kept hg (.inr (by simp [Value.ownBlock]))) (fun l hl => ?_)
  obtain ⟨q1, q2, q3⟩ := hall l hl
  exact ⟨(q1.keep hb).grown hg (fun a ha => by have := q3 a ha; omega), q2⟩

theorem LS.start (w : World) (n : Nat) (hn : n ≤ 64) : LS w ((w.alloc (.cells #[.int .i64 0, .string ⟨#[]⟩, .bool false, .string ⟨#[]⟩, .int .i64 0, .bool false, .slice none 0 0, .map none, .slice none 0 0] 47)).alloc
    (.cells (madeCells #[.int .i64 0, .string ⟨#[]⟩, .bool false, .string ⟨#[]⟩, .int .i64 0, .bool false, .slice none 0 0, .map none, .slice none 0 0] (n * 9)) 47)) n 0 := by
  have hs : (w.alloc (.cells #[.int .i64 0, .string ⟨#[]⟩, .bool false, .string ⟨#[]⟩, .int .i64 0, .bool false, .slice none 0 0, .map none, .slice none 0 0] 47)).heap.size = w.heap.size + 1 := by simp
  have ho := World.ownsRow_made (base := w.heap.size + 1) (e := 47) (size := 9) (w.alloc (.cells #[.int .i64 0, .string ⟨#[]⟩, .bool false, .string ⟨#[]⟩, .int .i64 0, .bool false, .slice none 0 0, .map none, .slice none 0 0] 47)) (madeCells #[.int .i64 0, .string ⟨#[]⟩, .bool false, .string ⟨#[]⟩, .int .i64 0, .bool false, .slice none 0 0, .map none, .slice none 0 0] (n * 9)) n (by rw [hs]; exact Nat.le_refl _) (by unfold maxLen; omega) (by rw [size_madeCells])
  rw [hs] at ho
  exact ⟨⟨[], rfl, ho, fun l hl => by cases hl⟩, (Blk.newA w 47 _).alloc _, two_allocs w _ _⟩

set_option maxRecDepth 100000 in
set_option maxHeartbeats 4000000 in
theorem listValue_any (ao : Option Addr) (n c : Nat) (w : World) (hn : n ≤ 64) (ho : OwnLeaves w ao n) :
    Calls Try.prog 39 #[.slice ao n c] w fun e w' => ∃ lo lc, e = .returned (.agg (attrC 9 ⟨#[]⟩ false ⟨#[]⟩ 0 false none 0 0 none lo n lc).toArray) ∧ ListOk w' lo n ∧ Below w.heap.size w w' := by
  obtain ⟨i0, hi, hz0, hz1, hz2⟩ := info_parts Try.info47
  have hmk := fun (wx : World) => run_make_wide (P := Try.prog) Try.underlying41 Try.info47 0 n (Nat.zero_le _) (by omega) (by unfold maxLen; omega) wx
  simp only [Value.cells, Int.ofNat_zero] at hmk
  have HO := hid ho
  have HST := hid (LS.start w n hn)
  clear ho
  go_enter Try.func39, Try.ntmps39
  go_wp2_with fail
  clear hmk
  go_loopw [3, 4] (fun v i wr => ∃ k : Nat, k ≤ n ∧ i = .int .i64 k ∧ v = .slice (some ⟨w.heap.size + 1, 0, none⟩) k n ∧ LS w wr n k) (fun _ i _ => n - (intOf i).toNat)
  case atStart => exact ⟨0, Nat.zero_le _, rfl, rfl, HST.out⟩
  case round =>
    obtain ⟨k, hk, rfl, rfl, hLS⟩ := hrel
    have HL := hid hLS
    clear hLS
    by_cases hlt : k < n
    · obtain ⟨g, l, e, hL, hO, h64⟩ := HO.out.keep HL.out.below k hlt
      subst e
      have hkI : (k : Int) < (n : Int) := by omega
      have c0 := hL.c0
      have c1 := hL.c1
      have c2 := hL.c2
      have c3 := hL.c3
      have c4 := hL.c4
      have c5 := hL.c5
      have c6 := hL.c6
      have HK := hid hO
      clear hL hO
      go_wp2_with fail
      refine (leafValue_any _ _ _ _ _ _ _ _ _ l.xs _ (by omega) HK.out.view).mono ?_
      rintro e w2 ⟨so', sc', rfl, hv2, hnw, hb2⟩
      unfold attrC
      have HV2 := hid hv2
      have HN := hid hnw
      have HB2 := hid hb2
      clear hv2 hnw hb2
      obtain ⟨ls, els, hown, hall⟩ := HL.out.own
      obtain ⟨L, HLs⟩ : ∃ L, Hid (L = ls.flatMap Lf.attr) := ⟨_, rfl⟩
      have hlw := (hown.lt _ rfl).2
      have own2 : Hid (w2.ownsRow (w.heap.size + 1) 47 9 (.slice (some ⟨w.heap.size + 1, 0, none⟩) k n) k L) := by
        rw [HLs.out]; exact hown.kept (grown_of_below HB2.out none) (.inr (by simp [Value.ownBlock]))
      have HALL := hid hall
      clear hown hall
      go_wp2_with (at_builtin; refine wpList_append_fits _ rfl (.tmp 14) (.tmp 20) 41 rfl (w.heap.size + 1) 47 i0 9 Try.underlying41 hi hz1 (w.heap.size + 1) k n L rfl (own2.out.alloc _) ⟨w2.heap.size, 0, none⟩ 1 1 [.int .i64 l.typ, .string l.s, .bool l.neg, .string l.d, .int .i64 l.ex, .bool l.b, .slice so' l.sn sc', .map none, .slice none 0 0] rfl rfl ?c1 ?c2 ?c3 ?_)
      case c1 =>
        intro j u hj
        rw [Addr.add_lit, Nat.zero_add]
        exact (Blk.new w2 47 _).cell hj
      case c2 =>
        intro u hu
        simp only [List.mem_cons, List.not_mem_nil, or_false] at hu
        rcases hu with rfl | rfl | rfl | rfl | rfl | rfl | rfl | rfl | rfl <;> rfl
      case c3 => omega
      intro w4 own4 gr4
      rw [HLs.out] at own4
      have HS := hid (HL.out.step HB2.out ⟨l.typ, l.s, l.neg, l.d, l.ex, l.b, so', l.sn, sc', l.xs⟩ ⟨HK.out.t0, HK.out.t1, HK.out.x0, HK.out.x1, HK.out.s1, HK.out.d1, HK.out.n1, HV2.out, HK.out.strs⟩ h64 HN.out _ ls els hlw HALL.out own4 gr4)
      clear own4 gr4 own2 HALL HLs els hlw c0 c1 c2 c3 c4 c5 c6
      go_wp2_with fail
      go_roundw
      case rel => exact ⟨k + 1, by omega, by go_num, rfl, HS.out⟩
      case measure => simp [intOf]; omega
    · have ek : k = n := by omega
      subst ek
      go_wp2_with fail
      refine (newList_any _ _ _ _).mono ?_
      rintro e w2 ⟨rfl, hb2⟩
      unfold attrC
      have x1 := HL.out.res.keep hb2 HL.out.res.lt
      have bel2 := below_here HL.out.below (Nat.le_refl _) hb2
      have f1 := x1.free
      have c0 := x1.cell (j := 0) rfl
      have c1 := x1.cell (j := 1) rfl
      have c2 := x1.cell (j := 2) rfl
      have c3 := x1.cell (j := 3) rfl
      have c4 := x1.cell (j := 4) rfl
      have c5 := x1.cell (j := 5) rfl
      have c6 := x1.cell (j := 6) rfl
      have c7 := x1.cell (j := 7) rfl
      have c8 := x1.cell (j := 8) rfl
      have H1 := hid x1
      have HB2 := hid bel2
      have HBa := hid hb2
      clear x1 bel2 hb2
      go_wp2_with fail
      have hr := ((((((((H1.out.set 0 (.int .i64 9)).set 1 (.string ⟨#[]⟩)).set 2 (.bool false)).set 3 (.string ⟨#[]⟩)).set 4 (.int .i64 0)).set 5 (.bool false)).set 6 (.slice none 0 0)).set 7 (.map none)).set 8 (.slice (some ⟨w.heap.size + 1, 0, none⟩) k k)
      refine bodyPost_ret (results_cell_row rfl _ _ w.heap.size 47 _ (0, 0) _ rfl hr Try.underlying47 rfl Try.size47) rfl ?_
      refine ⟨_, _, rfl, ?_, ?_⟩
      · exact HL.out.fin HBa.out (grown_set (grown_set (grown_set (grown_set (grown_set (grown_set (grown_set (grown_set (grown_set (grown_refl w2 _) _ _) _ _) _ _) _ _) _ _) _ _) _ _) _ _) _ _)
      · exact ((((((((HB2.out.setCell (by simp) _).setCell (by simp) _).setCell (by simp) _).setCell (by simp) _).setCell (by simp) _).setCell (by simp) _).setCell (by simp) _).setCell (by simp) _).setCell (by simp) _
end Go.Proofs.Qxb6001697a
