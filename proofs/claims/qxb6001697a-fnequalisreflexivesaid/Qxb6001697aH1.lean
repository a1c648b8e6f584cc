/-
  THE WALK OF FnEqualIsReflexive OUT OF ITS CALLEES' CONTRACTS.
-/
import Derived.Test.Qxb6001697aF6
import Derived.Test.Qxb6001697aG2
namespace Go.Proofs.Qxb6001697a
open Go.RowKit
set_option linter.unusedVariables false

/-- ZZEqual at a value against itself. -/
theorem eqSelf_call {w : World} (typ : Int) (s : ByteArray) (neg : Bool) (d : ByteArray) (ex : Int) (b : Bool) (so : Option Addr) (sn sc : Nat) (mo : Option Nat) (lo : Option Addr) (ln lc : Nat) (h : EqSelf w (.agg #[.int .i64 typ, .string s, .bool neg, .string d, .int .i64 ex, .bool b, .slice so sn sc, .map mo, .slice lo ln lc])) (w' : World) (hb : Below w.heap.size w w') :
    Calls Try.prog 31 #[.agg #[.int .i64 typ, .string s, .bool neg, .string d, .int .i64 ex, .bool b, .slice so sn sc, .map mo, .slice lo ln lc], .agg #[.int .i64 typ, .string s, .bool neg, .string d, .int .i64 ex, .bool b, .slice so sn sc, .map mo, .slice lo ln lc]] w' fun e w'' => e = .returned (.bool true) ∧ Below w'.heap.size w' w'' := by
  have HE : Hid (EqSelf w (.agg #[.int .i64 typ, .string s, .bool neg, .string d, .int .i64 ex, .bool b, .slice so sn sc, .map mo, .slice lo ln lc])) := h
  have HB := hid hb
  clear h hb
  go_enter Try.func31, Try.ntmps31
  go_wp2_with fail
  have HP := hid (two_allocs w' (.cells #[.int .i64 typ, .string s, .bool neg, .string d, .int .i64 ex, .bool b, .slice so sn sc, .map mo, .slice lo ln lc] 47) (.cells #[.int .i64 typ, .string s, .bool neg, .string d, .int .i64 ex, .bool b, .slice so sn sc, .map mo, .slice lo ln lc] 47))
  refine (HE.out _ (below_here HB.out (Nat.le_refl _) HP.out)).mono ?_
  rintro e w2 ⟨rfl, hb2⟩
  go_wp2_with fail
  go_ret
  exact ⟨rfl, below_here HP.out (Nat.le_refl _) hb2⟩

theorem list_self {w : World} (lo : Option Addr) (ln lc : Nat) (hn : ln ≤ 64) (h : ListOk w lo ln) : EqSelf w (.agg (attrC 9 ⟨#[]⟩ false ⟨#[]⟩ 0 false none 0 0 none lo ln lc).toArray) :=
  fun w' hb => equal_list _ _ _ _ _ _ _ _ _ _ _ _ w' hn (h.keep hb)
theorem map_self {w : World} (m : Nat) (es : Array MapEntry) (clock : Nat) (h : MapOk w m es clock) : EqSelf w (.agg (attrC 8 ⟨#[]⟩ false ⟨#[]⟩ 0 false none 0 0 (some m) none 0 0).toArray) :=
  fun w' hb => equal_map _ _ _ _ _ _ _ _ _ _ _ _ w' es clock (h.keep hb)
/-- Three values in a row of the call's own. -/
theorem three_ok {w : World} {g : Nat} {x0 x1 x2 x3 x4 x5 x6 x7 x8 y0 y1 y2 y3 y4 y5 y6 y7 y8 z0 z1 z2 z3 z4 z5 z6 z7 z8 : Value}
    (hb : Blk w g 47 [x0, x1, x2, x3, x4, x5, x6, x7, x8, y0, y1, y2, y3, y4, y5, y6, y7, y8, z0, z1, z2, z3, z4, z5, z6, z7, z8])
    (hx : EqSelf w (.agg #[x0, x1, x2, x3, x4, x5, x6, x7, x8])) (hy : EqSelf w (.agg #[y0, y1, y2, y3, y4, y5, y6, y7, y8])) (hz : EqSelf w (.agg #[z0, z1, z2, z3, z4, z5, z6, z7, z8])) : ListOk w (some ⟨g, 0, none⟩) 3 := by
  intro k hk
  match k, hk with
  | 0, _ => exact ⟨g, x0, x1, x2, x3, x4, x5, x6, x7, x8, rfl, hb.lt, hb.cell rfl, hb.cell rfl, hb.cell rfl, hb.cell rfl, hb.cell rfl, hb.cell rfl, hb.cell rfl, hb.cell rfl, hb.cell rfl, hx⟩
  | 1, _ => exact ⟨g, y0, y1, y2, y3, y4, y5, y6, y7, y8, rfl, hb.lt, hb.cell rfl, hb.cell rfl, hb.cell rfl, hb.cell rfl, hb.cell rfl, hb.cell rfl, hb.cell rfl, hb.cell rfl, hb.cell rfl, hy⟩
  | 2, _ => exact ⟨g, z0, z1, z2, z3, z4, z5, z6, z7, z8, rfl, hb.lt, hb.cell rfl, hb.cell rfl, hb.cell rfl, hb.cell rfl, hb.cell rfl, hb.cell rfl, hb.cell rfl, hb.cell rfl, hb.cell rfl, hz⟩

/-- The box of the argument, at the call's beginning. -/
structure Bx (w W : World) (l : Lf) : Prop where
  blk : Blk W w.heap.size 59 [.int .i64 l.typ, .string l.s, .bool l.neg, .string l.d, .int .i64 l.ex, .bool l.b, .slice l.so l.sn l.sc]
  below : Below w.heap.size w W
theorem Bx.keep {w W W' : World} {l : Lf} (h : Bx w W l) (hb : Below W.heap.size W W') : Bx w W' l := ⟨h.blk.keep hb h.blk.lt, below_here h.below (Nat.le_refl _) hb⟩
theorem Bx.lies {w W : World} {l : Lf} (h : Bx w W l) : l.Lies W w.heap.size 0 := ⟨h.blk.cell rfl, h.blk.cell rfl, h.blk.cell rfl, h.blk.cell rfl, h.blk.cell rfl, h.blk.cell rfl, h.blk.cell rfl⟩

/-- Four values of the call's own, each in its block. -/
structure Four (w W : World) (gA gB gC : Nat) (cA cB cC : List Value) : Prop where
  fA : Blk W gA 47 cA
  fB : Blk W gB 47 cB
  fC : Blk W gC 47 cC
  below : Below w.heap.size w W
theorem Four.keep {w W W' : World} {gA gB gC : Nat} {cA cB cC : List Value} (h : Four w W gA gB gC cA cB cC) (hb : Below W.heap.size W W') : Four w W' gA gB gC cA cB cC :=
  ⟨h.fA.keep hb h.fA.lt, h.fB.keep hb h.fB.lt, h.fC.keep hb h.fC.lt, below_here h.below (Nat.le_refl _) hb⟩
theorem one_alloc (w : World) (o : Obj) : Below w.heap.size w (w.alloc o) := (Below.refl _ _).alloc (Nat.le_refl _) _
theorem Bx.store {w w6 : World} {l : Lf} (h : Bx w w6 l) (so' : Option Addr) (sc' : Nat) (hv : View Value.string w6 so' l.sn sc' l.xs) (hne : ∀ a, so' = some a → a.block ≠ w.heap.size) (ok : l.Ok w) (W7 : World)
    (hW : W7 = ((((((w6.setCell ⟨w.heap.size, 0, none⟩ (.int .i64 l.typ)).setCell ⟨w.heap.size, 1, none⟩ (.string l.s)).setCell ⟨w.heap.size, 2, none⟩ (.bool l.neg)).setCell ⟨w.heap.size, 3, none⟩ (.string l.d)).setCell ⟨w.heap.size, 4, none⟩ (.int .i64 l.ex)).setCell ⟨w.heap.size, 5, none⟩ (.bool l.b)).setCell ⟨w.heap.size, 6, none⟩ (.slice so' l.sn sc')) :
    ∃ l' : Lf, l'.sn = l.sn ∧ Bx w W7 l' ∧ l'.Ok W7 := by
  subst hW
  refine ⟨⟨l.typ, l.s, l.neg, l.d, l.ex, l.b, so', l.sn, sc', l.xs⟩, rfl, ⟨?_, ?_⟩, ⟨ok.t0, ok.t1, ok.x0, ok.x1, ok.s1, ok.d1, ok.n1, ?_, ok.strs⟩⟩
  · exact ((((((h.blk.set 0 (.int .i64 l.typ)).set 1 (.string l.s)).set 2 (.bool l.neg)).set 3 (.string l.d)).set 4 (.int .i64 l.ex)).set 5 (.bool l.b)).set 6 (.slice so' l.sn sc')
  · exact ((((((h.below.setCell (by simp) _).setCell (by simp) _).setCell (by simp) _).setCell (by simp) _).setCell (by simp) _).setCell (by simp) _).setCell (by simp) _
  · exact ((((((hv.other hne _).other hne _).other hne _).other hne _).other hne _).other hne _).other hne _

set_option maxRecDepth 100000 in
set_option maxHeartbeats 2000000 in
theorem law_main (l : Lf) (ao ko : Option Addr) (n c m kn kc : Nat) (ks : List ByteArray) (w : World) (h : l.Ok w) (hn : n ≤ maxLen) (hnil : ao = none → n = 0 ∧ c = 0) (hin : InLeaves w ao n m) (hkn : kn ≤ maxLen) (hv : View Value.string w ko kn kc ks) (hks : ∀ s ∈ ks, s.size ≤ maxLen) :
    Calls Try.prog 8 #[l.val, .slice ao n c, .slice ko kn kc] w fun e w' => e = .returned (.bool true) ∧ Below w.heap.size w w' := by
  have Hn := hid hn
  have Hkn := hid hkn
  have n1 := h.n1
  unfold maxLen at hn hkn n1
  have HO := hid h
  have HI := hid hin
  have HNil := hid hnil
  have HV := hid hv
  have HK := hid hks
  clear h hin hv hks hnil
  unfold Lf.val
  go_enter Try.func8, Try.ntmps8
  go_wp2_with fail
  obtain ⟨W, HW⟩ : ∃ W, Hid (W = w.alloc (.cells #[.int .i64 l.typ, .string l.s, .bool l.neg, .string l.d, .int .i64 l.ex, .bool l.b, .slice l.so l.sn l.sc] 59)) := ⟨_, rfl⟩
  have bx : Bx w W l := by rw [HW.out]; exact ⟨Blk.new w 59 _, (Below.refl _ _).alloc (Nat.le_refl _) _⟩
  rw [← HW.out]
  clear HW
  refine (bytes_any l ao ko n c m kn kc ks W (HO.out.keep bx.below) Hn.out (HI.out.keep bx.below) Hkn.out (HV.out.keep bx.below) HK.out).mono ?_
  rintro e w1 ⟨⟨b1, rfl⟩, hb1⟩
  have bx1 := bx.keep hb1
  clear bx hb1
  cases b1
  · have bel := bx1.below
    clear bx1
    go_wp2_with fail
    go_ret
    exact ⟨rfl, bel⟩
  have a0 := bx1.blk.cell (j := 0) rfl
  have a1 := bx1.blk.cell (j := 1) rfl
  have a2 := bx1.blk.cell (j := 2) rfl
  have a3 := bx1.blk.cell (j := 3) rfl
  have a4 := bx1.blk.cell (j := 4) rfl
  have a5 := bx1.blk.cell (j := 5) rfl
  have a6 := bx1.blk.cell (j := 6) rfl
  have HX1 := hid bx1
  clear bx1
  go_wp2_with fail
  refine (leafBytes_any l w1 (HO.out.keep HX1.out.below)).mono ?_
  rintro e w2 ⟨⟨z2, rfl⟩, hb2⟩
  have HX2 := hid (HX1.out.keep hb2)
  clear hb2 a0 a1 a2 a3 a4 a5 a6 HX1
  go_wp2_with fail
  refine (leavesBytes_any ao n c m w2 Hn.out (HI.out.keep HX2.out.below)).mono ?_
  rintro e w3 ⟨⟨z3, rfl⟩, hb3⟩
  have HX3 := hid (HX2.out.keep hb3)
  clear hb3 HX2
  go_wp2_with fail
  refine (stringsBytes_any ko kn kc ks w3 Hkn.out (HV.out.keep HX3.out.below)).mono ?_
  rintro e w4 ⟨⟨z4, rfl⟩, hw4⟩
  obtain rfl := hw4.symm
  clear hw4
  have a6 := HX3.out.blk.cell (j := 6) rfl
  go_wp2_with fail
  all_goals try (go_ret; exact ⟨rfl, HX3.out.below⟩)
  have hn64 : n ≤ 64 := by omega
  have hk256 : kn ≤ 256 := by omega
  have hl64 : l.sn ≤ 64 := by omega
  clear a6
  refine (leavesSmall_any ao n c m w w4 Hn.out HI.out HX3.out.below).mono ?_
  rintro e w5 ⟨⟨b5, rfl, hsm⟩, hw5⟩
  obtain rfl := hw5.symm
  clear hw5
  cases b5
  · go_wp2_with fail
    go_ret
    exact ⟨rfl, HX3.out.below⟩
  have HS := hid (hsm rfl)
  clear hsm
  have a0 := HX3.out.blk.cell (j := 0) rfl
  have a1 := HX3.out.blk.cell (j := 1) rfl
  have a2 := HX3.out.blk.cell (j := 2) rfl
  have a3 := HX3.out.blk.cell (j := 3) rfl
  have a4 := HX3.out.blk.cell (j := 4) rfl
  have a5 := HX3.out.blk.cell (j := 5) rfl
  have a6 := HX3.out.blk.cell (j := 6) rfl
  go_wp2_with fail
  clear a0 a1 a2 a3 a4 a5 a6
  refine (cloneLeaf_any _ _ _ _ _ _ _ _ _ l.xs w5 (by omega) (HO.out.view.keep HX3.out.below)).mono ?_
  rintro e w6 ⟨so', sc', rfl, hv6, hnw6, hb6⟩
  have bx6 := HX3.out.keep hb6
  have HB6 := hid hb6
  have lw5 := HX3.out.blk.lt
  have hne6 : ∀ a, so' = some a → a.block ≠ w.heap.size := fun a ha => by have h1 := hnw6 a ha; omega
  have HV6 := hid hv6
  have HN6 := hid hne6
  have f6 := bx6.blk.free
  have a0 := bx6.blk.cell (j := 0) rfl
  have a1 := bx6.blk.cell (j := 1) rfl
  have a2 := bx6.blk.cell (j := 2) rfl
  have a3 := bx6.blk.cell (j := 3) rfl
  have a4 := bx6.blk.cell (j := 4) rfl
  have a5 := bx6.blk.cell (j := 5) rfl
  have a6 := bx6.blk.cell (j := 6) rfl
  have HX6 := hid bx6
  clear hv6 hnw6 hne6 hb6 bx6
  go_wp2_with fail
  clear a0 a1 a2 a3 a4 a5 a6 f6
  obtain ⟨W7, HW7⟩ : ∃ W, Hid (W = ((((((w6.setCell ⟨w.heap.size, 0, none⟩ (.int .i64 l.typ)).setCell ⟨w.heap.size, 1, none⟩ (.string l.s)).setCell ⟨w.heap.size, 2, none⟩ (.bool l.neg)).setCell ⟨w.heap.size, 3, none⟩ (.string l.d)).setCell ⟨w.heap.size, 4, none⟩ (.int .i64 l.ex)).setCell ⟨w.heap.size, 5, none⟩ (.bool l.b)).setCell ⟨w.heap.size, 6, none⟩ (.slice so' l.sn sc')) := ⟨_, rfl⟩
  obtain ⟨l', hsn, bx7, ok7⟩ := HX6.out.store so' sc' HV6.out HN6.out HO.out W7 HW7.out
  have hs64 : l'.sn ≤ 64 := by omega
  rw [← HW7.out]
  clear HW7 HN6 HV6 HX6 HX3 hsn
  refine (cloneLeaves_view ao n c W7 hn64 HNil.out (InLeaves.keep HS.out bx7.below)).mono ?_
  rintro e w8 ⟨ao', c', rfl, hc8, how8, hb8⟩
  have bx8 := bx7.keep hb8
  have ok8 := ok7.keep hb8
  have HX8 := hid bx8
  have HK8 := hid ok8
  have HW8 := hid how8
  clear bx7 bx8 ok7 ok8 hb8 how8
  go_wp2_with fail
  refine (cloneStrings_view ko kn kc ks w8 (by omega) (HV.out.keep HX8.out.below)).mono ?_
  rintro e w9 ⟨ko', kc', rfl, hv9, -, hb9⟩
  have HX9 := hid (HX8.out.keep hb9)
  have HK9 := hid (HK8.out.keep hb9)
  have HW9 := hid (OwnLeaves.keep HW8.out hb9)
  have HV9 := hid hv9
  have a0 := HX9.out.blk.cell (j := 0) rfl
  have a1 := HX9.out.blk.cell (j := 1) rfl
  have a2 := HX9.out.blk.cell (j := 2) rfl
  have a3 := HX9.out.blk.cell (j := 3) rfl
  have a4 := HX9.out.blk.cell (j := 4) rfl
  have a5 := HX9.out.blk.cell (j := 5) rfl
  have a6 := HX9.out.blk.cell (j := 6) rfl
  clear hv9 hb9 HX8 HK8 HW8
  go_wp2_with fail
  clear a0 a1 a2 a3 a4 a5 a6
  refine (leafValue_any _ _ _ _ _ _ _ _ _ l'.xs w9 (by omega) HK9.out.view).mono ?_
  rintro e wa ⟨so2, sc2, rfl, hva, -, hba⟩
  have HEa : Hid (EqSelf wa (.agg #[.int .i64 l'.typ, .string l'.s, .bool l'.neg, .string l'.d, .int .i64 l'.ex, .bool l'.b, .slice so2 l'.sn sc2, .map none, .slice none 0 0])) := leaf_self l'.typ l'.s l'.neg l'.d l'.ex l'.b so2 l'.sn sc2 l'.xs wa HK9.out.t0 HK9.out.t1 HK9.out.x0 HK9.out.x1 hva (by omega)
  have HXa := hid (below_here HX9.out.below (Nat.le_refl _) hba)
  have HWa := hid (OwnLeaves.keep HW9.out hba)
  have HVa := hid (HV9.out.keep hba)
  clear hva hba HX9 HK9 HW9 HV9
  unfold attrC
  go_wp2_with fail
  obtain ⟨Wb, HWb⟩ : ∃ W, Hid (W = wa.alloc (.cells #[.int .i64 l'.typ, .string l'.s, .bool l'.neg, .string l'.d, .int .i64 l'.ex, .bool l'.b, .slice so2 l'.sn sc2, .map none, .slice none 0 0] 47)) := ⟨_, rfl⟩
  have hbb : Below wa.heap.size wa Wb := by rw [HWb.out]; exact one_alloc wa _
  have blkA : Blk Wb wa.heap.size 47 [.int .i64 l'.typ, .string l'.s, .bool l'.neg, .string l'.d, .int .i64 l'.ex, .bool l'.b, .slice so2 l'.sn sc2, .map none, .slice none 0 0] := by rw [HWb.out]; exact Blk.new wa 47 _
  rw [← HWb.out]
  clear HWb
  refine (listValue_any ao' n c' Wb hn64 (OwnLeaves.keep HWa.out hbb)).mono ?_
  rintro e wc ⟨lo, lc, rfl, hlo, hbc⟩
  have hbac := below_here hbb (Nat.le_refl _) hbc
  have HEac := hid (EqSelf.keep HEa.out hbac)
  have HEb : Hid (EqSelf wc (.agg #[.int .i64 9, .string ⟨#[]⟩, .bool false, .string ⟨#[]⟩, .int .i64 0, .bool false, .slice none 0 0, .map none, .slice lo n lc])) := list_self lo n lc hn64 hlo
  have HXc := hid (below_here HXa.out (Nat.le_refl _) hbac)
  have HWc := hid (OwnLeaves.keep HWa.out hbac)
  have HVc := hid (HVa.out.keep hbac)
  have HAc := hid (blkA.keep hbc blkA.lt)
  clear hbb hbc hbac hlo blkA HEa HXa HWa HVa
  unfold attrC
  go_wp2_with fail
  obtain ⟨Wd, HWd⟩ : ∃ W, Hid (W = wc.alloc (.cells #[.int .i64 9, .string ⟨#[]⟩, .bool false, .string ⟨#[]⟩, .int .i64 0, .bool false, .slice none 0 0, .map none, .slice lo n lc] 47)) := ⟨_, rfl⟩
  have hbd : Below wc.heap.size wc Wd := by rw [HWd.out]; exact one_alloc wc _
  have blkB : Blk Wd wc.heap.size 47 [.int .i64 9, .string ⟨#[]⟩, .bool false, .string ⟨#[]⟩, .int .i64 0, .bool false, .slice none 0 0, .map none, .slice lo n lc] := by rw [HWd.out]; exact Blk.new wc 47 _
  rw [← HWd.out]
  clear HWd
  refine (mapValue_any ko' ao' kn kc' n c' ks Wd hk256 hn64 (HVc.out.keep hbd) (OwnLeaves.keep HWc.out hbd)).mono ?_
  rintro e we ⟨mm, es, clock, rfl, hmo, hbe⟩
  have hbce := below_here hbd (Nat.le_refl _) hbe
  have HEa := hid (EqSelf.keep HEac.out hbce)
  have HEb := hid (EqSelf.keep HEb.out hbce)
  have HEc : Hid (EqSelf we (.agg #[.int .i64 8, .string ⟨#[]⟩, .bool false, .string ⟨#[]⟩, .int .i64 0, .bool false, .slice none 0 0, .map (some mm), .slice none 0 0])) := map_self mm es clock hmo
  have hXe := below_here HXc.out (Nat.le_refl _) hbce
  have hF : Four w (we.alloc (.cells #[.int .i64 8, .string ⟨#[]⟩, .bool false, .string ⟨#[]⟩, .int .i64 0, .bool false, .slice none 0 0, .map (some mm), .slice none 0 0] 47)) wa.heap.size wc.heap.size we.heap.size [.int .i64 l'.typ, .string l'.s, .bool l'.neg, .string l'.d, .int .i64 l'.ex, .bool l'.b, .slice so2 l'.sn sc2, .map none, .slice none 0 0] [.int .i64 9, .string ⟨#[]⟩, .bool false, .string ⟨#[]⟩, .int .i64 0, .bool false, .slice none 0 0, .map none, .slice lo n lc] [.int .i64 8, .string ⟨#[]⟩, .bool false, .string ⟨#[]⟩, .int .i64 0, .bool false, .slice none 0 0, .map (some mm), .slice none 0 0] :=
    ⟨((HAc.out.keep hbce HAc.out.lt)).alloc _, (blkB.keep hbe blkB.lt).alloc _, Blk.new we 47 _, below_here hXe (Nat.le_refl _) (one_alloc we _)⟩
  have p0 := hF.fA.cell (j := 0) rfl
  have p1 := hF.fA.cell (j := 1) rfl
  have p2 := hF.fA.cell (j := 2) rfl
  have p3 := hF.fA.cell (j := 3) rfl
  have p4 := hF.fA.cell (j := 4) rfl
  have p5 := hF.fA.cell (j := 5) rfl
  have p6 := hF.fA.cell (j := 6) rfl
  have p7 := hF.fA.cell (j := 7) rfl
  have p8 := hF.fA.cell (j := 8) rfl
  have q0 := hF.fB.cell (j := 0) rfl
  have q1 := hF.fB.cell (j := 1) rfl
  have q2 := hF.fB.cell (j := 2) rfl
  have q3 := hF.fB.cell (j := 3) rfl
  have q4 := hF.fB.cell (j := 4) rfl
  have q5 := hF.fB.cell (j := 5) rfl
  have q6 := hF.fB.cell (j := 6) rfl
  have q7 := hF.fB.cell (j := 7) rfl
  have q8 := hF.fB.cell (j := 8) rfl
  have HF := hid hF
  clear hbd hbe hbce blkB hmo hF HEac HXc HWc HVc HAc hXe
  unfold attrC
  go_wp2_with fail
  clear p0 p1 p2 p3 p4 p5 p6 p7 p8 q0 q1 q2 q3 q4 q5 q6 q7 q8
  obtain ⟨Wf, HWf⟩ : ∃ W, Hid (W = we.alloc (.cells #[.int .i64 8, .string ⟨#[]⟩, .bool false, .string ⟨#[]⟩, .int .i64 0, .bool false, .slice none 0 0, .map (some mm), .slice none 0 0] 47)) := ⟨_, rfl⟩
  have hbf : Below we.heap.size we Wf := by rw [HWf.out]; exact one_alloc we _
  have szf : Wf.heap.size = we.heap.size + 1 := by rw [HWf.out]; simp
  rw [← HWf.out] at HF ⊢
  clear HWf
  obtain ⟨Wg, HWg⟩ : ∃ W, Hid (W = Wf.alloc (.cells #[.int .i64 l'.typ, .string l'.s, .bool l'.neg, .string l'.d, .int .i64 l'.ex, .bool l'.b, .slice so2 l'.sn sc2, .map none, .slice none 0 0, .int .i64 9, .string ⟨#[]⟩, .bool false, .string ⟨#[]⟩, .int .i64 0, .bool false, .slice none 0 0, .map none, .slice lo n lc, .int .i64 8, .string ⟨#[]⟩, .bool false, .string ⟨#[]⟩, .int .i64 0, .bool false, .slice none 0 0, .map (some mm), .slice none 0 0] 47)) := ⟨_, rfl⟩
  have hbg : Below Wf.heap.size Wf Wg := by rw [HWg.out]; exact one_alloc Wf _
  have blkN : Blk Wg (we.heap.size + 1) 47 [.int .i64 l'.typ, .string l'.s, .bool l'.neg, .string l'.d, .int .i64 l'.ex, .bool l'.b, .slice so2 l'.sn sc2, .map none, .slice none 0 0, .int .i64 9, .string ⟨#[]⟩, .bool false, .string ⟨#[]⟩, .int .i64 0, .bool false, .slice none 0 0, .map none, .slice lo n lc, .int .i64 8, .string ⟨#[]⟩, .bool false, .string ⟨#[]⟩, .int .i64 0, .bool false, .slice none 0 0, .map (some mm), .slice none 0 0] := by rw [HWg.out, ← szf]; exact Blk.new Wf 47 _
  rw [← HWg.out]
  have hbeg := below_here hbf (Nat.le_refl _) hbg
  have eA := EqSelf.keep HEa.out hbeg
  have eB := EqSelf.keep HEb.out hbeg
  have eC := EqSelf.keep HEc.out hbeg
  have HEd : Hid (EqSelf Wg (.agg #[.int .i64 9, .string ⟨#[]⟩, .bool false, .string ⟨#[]⟩, .int .i64 0, .bool false, .slice none 0 0, .map none, .slice (some ⟨we.heap.size + 1, 0, none⟩) 3 3])) := list_self (some ⟨we.heap.size + 1, 0, none⟩) 3 3 (by omega) (three_ok blkN eA eB eC)
  have HFg := hid (HF.out.keep hbg)
  have HEA := hid eA
  have HEB := hid eB
  have HEC := hid eC
  clear hbf szf HWg hbg blkN hbeg eA eB eC HF HEa HEb HEc
  refine (newList_any _ _ _ Wg).mono ?_
  rintro e wh ⟨rfl, hbh⟩
  have HFh := hid (HFg.out.keep hbh)
  have HBh := hid hbh
  clear hbh HFg
  obtain ⟨Wi, HWi⟩ : ∃ W, Hid (W = wh.alloc (.cells #[.int .i64 9, .string ⟨#[]⟩, .bool false, .string ⟨#[]⟩, .int .i64 0, .bool false, .slice none 0 0, .map none, .slice (some ⟨we.heap.size + 1, 0, none⟩) 3 3] 47)) := ⟨_, rfl⟩
  have hbi : Below wh.heap.size wh Wi := by rw [HWi.out]; exact one_alloc wh _
  have HD := hid (show Blk Wi wh.heap.size 47 [.int .i64 9, .string ⟨#[]⟩, .bool false, .string ⟨#[]⟩, .int .i64 0, .bool false, .slice none 0 0, .map none, .slice (some ⟨we.heap.size + 1, 0, none⟩) 3 3] by rw [HWi.out]; exact Blk.new wh 47 _)
  have HFi := hid (HFh.out.keep hbi)
  have HBi := hid (below_here HBh.out (Nat.le_refl _) hbi)
  have HFi' := HFi.out
  rw [HWi.out] at HFi'
  have p0 := HFi'.fA.cell (j := 0) rfl
  have p1 := HFi'.fA.cell (j := 1) rfl
  have p2 := HFi'.fA.cell (j := 2) rfl
  have p3 := HFi'.fA.cell (j := 3) rfl
  have p4 := HFi'.fA.cell (j := 4) rfl
  have p5 := HFi'.fA.cell (j := 5) rfl
  have p6 := HFi'.fA.cell (j := 6) rfl
  have p7 := HFi'.fA.cell (j := 7) rfl
  have p8 := HFi'.fA.cell (j := 8) rfl
  clear hbi HFh HBh HFi'
  unfold attrC
  go_wp2_with fail
  clear p0 p1 p2 p3 p4 p5 p6 p7 p8
  rw [← HWi.out]
  clear HWi
  refine (eqSelf_call _ _ _ _ _ _ _ _ _ _ _ _ _ HEA.out Wi HBi.out).mono ?_
  rintro e wj ⟨rfl, hbj⟩
  have HFj := hid (HFi.out.keep hbj)
  have HDj := hid (HD.out.keep hbj HD.out.lt)
  have HBj := hid (below_here HBi.out (Nat.le_refl _) hbj)
  clear hbj HFi HD HBi
  have p0 := HFj.out.fB.cell (j := 0) rfl
  have p1 := HFj.out.fB.cell (j := 1) rfl
  have p2 := HFj.out.fB.cell (j := 2) rfl
  have p3 := HFj.out.fB.cell (j := 3) rfl
  have p4 := HFj.out.fB.cell (j := 4) rfl
  have p5 := HFj.out.fB.cell (j := 5) rfl
  have p6 := HFj.out.fB.cell (j := 6) rfl
  have p7 := HFj.out.fB.cell (j := 7) rfl
  have p8 := HFj.out.fB.cell (j := 8) rfl
  go_wp2_with fail
  clear p0 p1 p2 p3 p4 p5 p6 p7 p8
  refine (eqSelf_call _ _ _ _ _ _ _ _ _ _ _ _ _ HEB.out wj HBj.out).mono ?_
  rintro e wk ⟨rfl, hbk⟩
  have HFk := hid (HFj.out.keep hbk)
  have HDk := hid (HDj.out.keep hbk HDj.out.lt)
  have HBk := hid (below_here HBj.out (Nat.le_refl _) hbk)
  clear hbk HFj HDj HBj
  have p0 := HFk.out.fC.cell (j := 0) rfl
  have p1 := HFk.out.fC.cell (j := 1) rfl
  have p2 := HFk.out.fC.cell (j := 2) rfl
  have p3 := HFk.out.fC.cell (j := 3) rfl
  have p4 := HFk.out.fC.cell (j := 4) rfl
  have p5 := HFk.out.fC.cell (j := 5) rfl
  have p6 := HFk.out.fC.cell (j := 6) rfl
  have p7 := HFk.out.fC.cell (j := 7) rfl
  have p8 := HFk.out.fC.cell (j := 8) rfl
  go_wp2_with fail
  clear p0 p1 p2 p3 p4 p5 p6 p7 p8
  refine (eqSelf_call _ _ _ _ _ _ _ _ _ _ _ _ _ HEC.out wk HBk.out).mono ?_
  rintro e wl ⟨rfl, hbl⟩
  have HFl := hid (HFk.out.keep hbl)
  have HDl := hid (HDk.out.keep hbl HDk.out.lt)
  have HBl := hid (below_here HBk.out (Nat.le_refl _) hbl)
  clear hbl HFk HDk HBk
  have p0 := HDl.out.cell (j := 0) rfl
  have p1 := HDl.out.cell (j := 1) rfl
  have p2 := HDl.out.cell (j := 2) rfl
  have p3 := HDl.out.cell (j := 3) rfl
  have p4 := HDl.out.cell (j := 4) rfl
  have p5 := HDl.out.cell (j := 5) rfl
  have p6 := HDl.out.cell (j := 6) rfl
  have p7 := HDl.out.cell (j := 7) rfl
  have p8 := HDl.out.cell (j := 8) rfl
  go_wp2_with fail
  clear p0 p1 p2 p3 p4 p5 p6 p7 p8
  refine (eqSelf_call _ _ _ _ _ _ _ _ _ _ _ _ _ HEd.out wl HBl.out).mono ?_
  rintro e wm ⟨rfl, hbm⟩
  have bel := below_here HFl.out.below (Nat.le_refl _) hbm
  clear hbm
  go_wp2_with fail
  go_ret
  exact ⟨rfl, bel⟩
end Go.Proofs.Qxb6001697a
