/-
  THE WALKS OF FnEqualIsReflexive's CALLEES (6): zzCloneLeaf, ZZNewValue, zzLeafValue.
-/
import Derived.Test.Qxb6001697aF1
namespace Go.Proofs.Qxb6001697a
open Go.RowKit
set_option linter.unusedVariables false

theorem Try.size47 : (Try.prog.info? 47).map (·.size) = some 9 := by kernel_rfl
theorem Try.size59 : (Try.prog.info? 59).map (·.size) = some 7 := by kernel_rfl
theorem hid {p : Prop} (h : p) : Hid p := h
theorem three_boxes (w : World) (c1 c2 c3 : Array Value) (e1 e2 e3 : TypeId) (W : World) (h : W = ((w.alloc (.cells c1 e1)).alloc (.cells c2 e2)).alloc (.cells c3 e3)) :
    Blk W w.heap.size e1 c1.toList ∧ Blk W (w.heap.size + 1) e2 c2.toList ∧ Blk W (w.heap.size + 1 + 1) e3 c3.toList ∧ Below w.heap.size w W ∧ W.heap.size = w.heap.size + 1 + 1 + 1 := by
  subst h
  have h2 := Blk.newA (w.alloc (.cells c1 e1)) e2 c2
  rw [show (w.alloc (.cells c1 e1)).heap.size = w.heap.size + 1 by simp] at h2
  have h3 := Blk.newA ((w.alloc (.cells c1 e1)).alloc (.cells c2 e2)) e3 c3
  rw [show ((w.alloc (.cells c1 e1)).alloc (.cells c2 e2)).heap.size = w.heap.size + 1 + 1 by simp] at h3
  exact ⟨((Blk.newA w e1 c1).alloc _).alloc _, h2.alloc _, h3, (two_allocs w _ _).alloc (by simp; omega) _, by simp⟩

section
variable (typ : Int) (s : ByteArray) (neg : Bool) (d : ByteArray) (ex : Int) (b : Bool) (so : Option Addr) (sn sc : Nat) (xs : List ByteArray) (w : World)
set_option maxRecDepth 100000 in
set_option maxHeartbeats 1000000 in
theorem newValue_any : Calls Try.prog 51 #[.int .i64 typ, .string s, .bool neg, .string d, .int .i64 ex, .bool b, .slice so sn sc] w fun e w' =>
    e = .returned (.agg (attrC typ s neg d ex b so sn sc none none 0 0).toArray) ∧ Below w.heap.size w w' := by
  unfold attrC
  go_enter Try.func51, Try.ntmps51
  go_wp2
  refine bodyPost_ret (results_cell_row rfl _ _ w.heap.size 47 _ (0, 0) _ rfl (heap_alloc_new w _) Try.underlying47 rfl Try.size47) rfl ?_
  exact ⟨rfl, (Below.refl _ _).alloc (Nat.le_refl _) _⟩
set_option maxRecDepth 100000 in
set_option maxHeartbeats 1000000 in
theorem cloneLeaf_any (hn : sn ≤ 1048576) (hv : View Value.string w so sn sc xs) : Calls Try.prog 36 #[.agg #[.int .i64 typ, .string s, .bool neg, .string d, .int .i64 ex, .bool b, .slice so sn sc]] w fun e w' =>
    ∃ so' sc', e = .returned (.agg #[.int .i64 typ, .string s, .bool neg, .string d, .int .i64 ex, .bool b, .slice so' sn sc']) ∧ View Value.string w' so' sn sc' xs ∧ (∀ a, so' = some a → w.heap.size ≤ a.block) ∧ Below w.heap.size w w' := by
  have HV : Hid _ := hv
  clear hv
  go_enter Try.func36, Try.ntmps36
  go_wp2_with fail
  obtain ⟨W, HW⟩ : ∃ W, Hid (W = ((w.alloc (.cells #[.int .i64 typ, .string s, .bool neg, .string d, .int .i64 ex, .bool b, .slice so sn sc] 59)).alloc (.cells #[.int .i64 0, .string ⟨#[]⟩, .bool false, .string ⟨#[]⟩, .int .i64 0, .bool false, .slice none 0 0] 59)).alloc (.cells #[.int .i64 typ, .string s, .bool neg, .string d, .int .i64 ex, .bool b, .slice so sn sc] 59)) := ⟨_, rfl⟩
  obtain ⟨-, x1, x2, bel, sz⟩ := three_boxes w _ _ _ _ _ _ W HW.out
  rw [← HW.out]
  clear HW
  refine (cloneStrings_view so sn sc xs W hn (HV.out.keep bel)).mono ?_
  rintro e w2 ⟨so', sc', rfl, hv2, hnw, hb2⟩
  have HN : Hid (∀ a, so' = some a → a.block ≠ w.heap.size + 1 ∧ a.block ≠ w.heap.size + 1 + 1 ∧ w.heap.size ≤ a.block) := fun a ha => by have := hnw a ha; omega
  have x1 := x1.keep hb2 x1.lt
  have x2 := x2.keep hb2 x2.lt
  have bel2 := below_here bel (Nat.le_refl _) hb2
  have f1 := x1.free
  have f2 := x2.free 6
  have a0 := x2.cell (j := 0) rfl
  have a1 := x2.cell (j := 1) rfl
  have a2 := x2.cell (j := 2) rfl
  have a3 := x2.cell (j := 3) rfl
  have a4 := x2.cell (j := 4) rfl
  have a5 := x2.cell (j := 5) rfl
  have a6 := x2.cell (j := 6) rfl
  have c0 := x1.cell (j := 0) rfl
  have c1 := x1.cell (j := 1) rfl
  have c2 := x1.cell (j := 2) rfl
  have c3 := x1.cell (j := 3) rfl
  have c4 := x1.cell (j := 4) rfl
  have c5 := x1.cell (j := 5) rfl
  have c6 := x1.cell (j := 6) rfl
  have HV2 := hid hv2
  have H1 := hid x1
  have H2 := hid x2
  have HB2 := hid bel2
  clear HV hv2 x1 x2 bel2 hb2 bel hnw sz
  go_wp2_with fail
  have hr := (((((((H1.out.other ⟨w.heap.size + 1 + 1, 6, none⟩ (by simp) (.slice so' sn sc')).set 0 (.int .i64 typ)).set 1 (.string s)).set 2 (.bool neg)).set 3 (.string d)).set 4 (.int .i64 ex)).set 5 (.bool b)).set 6 (.slice so' sn sc')
  have hv := fun a ha => (HN.out a ha).1
  refine bodyPost_ret (results_cell_row rfl _ _ (w.heap.size + 1) 59 _ (0, 0) _ rfl hr Try.underlying59 rfl Try.size59) rfl ?_
  refine ⟨so', sc', rfl, ?_, fun a ha => (HN.out a ha).2.2, ?_⟩
  · exact (((((((HV2.out.other (fun a ha => (HN.out a ha).2.1) _).other hv _).other hv _).other hv _).other hv _).other hv _).other hv _).other hv _
  · exact (((((((HB2.out.setCell (by simp; omega) _).setCell (by simp) _).setCell (by simp) _).setCell (by simp) _).setCell (by simp) _).setCell (by simp) _).setCell (by simp) _).setCell (by simp) _
end
end Go.Proofs.Qxb6001697a
