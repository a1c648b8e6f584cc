/-
  THE WALKS OF FnEqualIsReflexive's CALLEES (7): zzLeafValue.
-/
import Derived.Test.Qxb6001697aF2
namespace Go.Proofs.Qxb6001697a
open Go.RowKit
set_option linter.unusedVariables false

/-- The box of a leaf and the place of the result, laid one behind the other. -/
structure LV (w W : World) (c1 c2 : List Value) : Prop where
  fst : Blk W w.heap.size 59 c1
  snd : Blk W (w.heap.size + 1) 47 c2
  below : Below w.heap.size w W
theorem LV.keep {w W W' : World} {c1 c2 : List Value} (h : LV w W c1 c2) (hb : Below W.heap.size W W') : LV w W' c1 c2 :=
  ⟨h.fst.keep hb h.fst.lt, h.snd.keep hb h.snd.lt, below_here h.below (Nat.le_refl _) hb⟩
theorem LV.drew {w W : World} {c1 c2 : List Value} (h : LV w W c1 c2) : LV w W.drew c1 c2 := ⟨h.fst.drew, h.snd.drew, h.below.drew⟩
theorem LV.new (w : World) (c1 c2 : Array Value) : LV w ((w.alloc (.cells c1 59)).alloc (.cells c2 47)) c1.toList c2.toList := by
  have h2 := Blk.newA (w.alloc (.cells c1 59)) 47 c2
  rw [show (w.alloc (.cells c1 59)).heap.size = w.heap.size + 1 by simp] at h2
  exact ⟨(Blk.newA w 59 c1).alloc _, h2, two_allocs w _ _⟩

section
variable (typ : Int) (s : ByteArray) (neg : Bool) (d : ByteArray) (ex : Int) (b : Bool) (so : Option Addr) (sn sc : Nat) (xs : List ByteArray) (w : World)
set_option maxRecDepth 100000 in
set_option maxHeartbeats 4000000 in
theorem leafValue_any (hn : sn ≤ 1048576) (hv : View Value.string w so sn sc xs) : Calls Try.prog 38 #[.agg #[.int .i64 typ, .string s, .bool neg, .string d, .int .i64 ex, .bool b, .slice so sn sc]] w fun e w' =>
    ∃ so' sc', e = .returned (.agg (attrC typ s neg d ex b so' sn sc' none none 0 0).toArray) ∧ View Value.string w' so' sn sc' xs ∧ (∀ a, so' = some a → w.heap.size ≤ a.block) ∧ Below w.heap.size w w' := by
  have HV := hid hv
  clear hv
  go_enter Try.func38, Try.ntmps38
  go_wp2_with fail
  obtain ⟨W, HW⟩ : ∃ W, Hid (W = (w.alloc (.cells #[.int .i64 typ, .string s, .bool neg, .string d, .int .i64 ex, .bool b, .slice so sn sc] 59)).alloc (.cells #[.int .i64 0, .string ⟨#[]⟩, .bool false, .string ⟨#[]⟩, .int .i64 0, .bool false, .slice none 0 0, .map none, .slice none 0 0] 47)) := ⟨_, rfl⟩
  have bP : LV w W [.int .i64 typ, .string s, .bool neg, .string d, .int .i64 ex, .bool b, .slice so sn sc] [.int .i64 0, .string ⟨#[]⟩, .bool false, .string ⟨#[]⟩, .int .i64 0, .bool false, .slice none 0 0, .map none, .slice none 0 0] := by rw [HW.out]; exact LV.new w _ _
  have sz : W.heap.size = w.heap.size + 2 := by rw [HW.out]; simp
  rw [← HW.out]
  clear HW
  have a0 := bP.fst.cell (j := 0) rfl
  have a1 := bP.fst.cell (j := 1) rfl
  have a2 := bP.fst.cell (j := 2) rfl
  have a3 := bP.fst.cell (j := 3) rfl
  have a4 := bP.fst.cell (j := 4) rfl
  have a5 := bP.fst.cell (j := 5) rfl
  have a6 := bP.fst.cell (j := 6) rfl
  have HP := hid bP
  have HVW := hid (HV.out.keep bP.below)
  have HSz := hid sz
  clear bP HV sz
  go_region_held3 (fun w' => w'.cell? ⟨w.heap.size, 0, none⟩ = some (.int .i64 typ) ∧ w'.cell? ⟨w.heap.size, 1, none⟩ = some (.string s) ∧ w'.cell? ⟨w.heap.size, 2, none⟩ = some (.bool neg) ∧ w'.cell? ⟨w.heap.size, 3, none⟩ = some (.string d) ∧ w'.cell? ⟨w.heap.size, 4, none⟩ = some (.int .i64 ex) ∧ w'.cell? ⟨w.heap.size, 5, none⟩ = some (.bool b) ∧ w'.cell? ⟨w.heap.size, 6, none⟩ = some (.slice so sn sc)) (go_keep)
    (first
      | (go_at_call 25; refine (cloneStrings_view so sn sc xs W.drew hn (HVW.out.keep (Below.refl _ _).drew)).mono ?_; rintro e w2 ⟨so', sc', rfl, hv2, hnw, hb2⟩
         have bP := HP.out.drew.keep hb2
         have a0 := bP.fst.cell (j := 0) rfl
         have a1 := bP.fst.cell (j := 1) rfl
         have a2 := bP.fst.cell (j := 2) rfl
         have a3 := bP.fst.cell (j := 3) rfl
         have a4 := bP.fst.cell (j := 4) rfl
         have a5 := bP.fst.cell (j := 5) rfl
         have a6 := bP.fst.cell (j := 6) rfl
         have HP2 := hid bP
         have HV2 := hid hv2
         have HN : Hid (∀ a, so' = some a → a.block ≠ w.heap.size + 1 ∧ w.heap.size ≤ a.block) := fun a ha => by have h1 := hnw a ha; have h2 := HSz.out; have h3 : W.drew.heap.size = W.heap.size := rfl; omega
         clear bP hv2 hnw hb2)
      | (go_at_call 51; refine (newValue_any _ _ _ _ _ _ _ _ _ _).mono ?_; rintro e w3 ⟨rfl, hb3⟩
         unfold attrC
         have bP := HP2.out.keep hb3
         have HV3 := hid (HV2.out.keep hb3)
         have a0 := bP.fst.cell (j := 0) rfl
         have a1 := bP.fst.cell (j := 1) rfl
         have a2 := bP.fst.cell (j := 2) rfl
         have a3 := bP.fst.cell (j := 3) rfl
         have a4 := bP.fst.cell (j := 4) rfl
         have a5 := bP.fst.cell (j := 5) rfl
         have a6 := bP.fst.cell (j := 6) rfl
         have c0 := bP.snd.cell (j := 0) rfl
         have c1 := bP.snd.cell (j := 1) rfl
         have c2 := bP.snd.cell (j := 2) rfl
         have c3 := bP.snd.cell (j := 3) rfl
         have c4 := bP.snd.cell (j := 4) rfl
         have c5 := bP.snd.cell (j := 5) rfl
         have c6 := bP.snd.cell (j := 6) rfl
         have c7 := bP.snd.cell (j := 7) rfl
         have c8 := bP.snd.cell (j := 8) rfl
         have f := bP.snd.free
         have HP3 := hid bP
         clear bP hb3))
  go_wp2_with fail
  have hr := (((((((((HP3.out.snd.set 0 (.int .i64 typ)).set 1 (.string s)).set 2 (.bool neg)).set 3 (.string d)).set 4 (.int .i64 ex)).set 5 (.bool b)).set 6 (.slice so' sn sc')).set 7 (.map none)).set 8 (.slice none 0 0))
  have hv := fun a ha => (HN.out a ha).1
  refine bodyPost_ret (results_cell_row rfl _ _ (w.heap.size + 1) 47 _ (0, 0) _ rfl hr Try.underlying47 rfl Try.size47) rfl ?_
  refine ⟨so', sc', rfl, ?_, fun a ha => (HN.out a ha).2, ?_⟩
  · exact ((((((((HV3.out.other hv _).other hv _).other hv _).other hv _).other hv _).other hv _).other hv _).other hv _).other hv _
  · exact ((((((((HP3.out.below.setCell (by simp) _).setCell (by simp) _).setCell (by simp) _).setCell (by simp) _).setCell (by simp) _).setCell (by simp) _).setCell (by simp) _).setCell (by simp) _).setCell (by simp) _
end
end Go.Proofs.Qxb6001697a
