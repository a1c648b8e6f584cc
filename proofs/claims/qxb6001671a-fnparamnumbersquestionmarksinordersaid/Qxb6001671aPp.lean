/-
  THE WALKS OF FnParamNumbersQuestionMarksInOrder's CALLEES (2): the parser's peek, punct, param and their shims.
-/
import Derived.Test.Qxb6001671aPc
namespace Go.Proofs.Qxb6001671a.prm
open Go.RowKit
set_option linter.unusedVariables false

/-- The parser's five fields. -/
def PS (S : ByteArray) (gT N : Nat) (i q : Int) : List Value := [.string S, .slice (some ⟨gT, 0, none⟩) N N, .int .i64 i, .int .i64 0, .int .i64 q]
/-- A token's four cells at place k. -/
structure Tok (w : World) (gT k : Nat) (p e c : Int) : Prop where
  t0 : w.cell? ⟨gT, k * 4, none⟩ = some (.int .i32 p)
  t1 : w.cell? ⟨gT, k * 4 + 1, none⟩ = some (.int .i32 e)
  t2 : w.cell? ⟨gT, k * 4 + 2, none⟩ = some (.int .u8 c)
  t3 : w.cell? ⟨gT, k * 4 + 3, none⟩ = some (.bool false)

set_option maxHeartbeats 1000000 in
theorem peek_any (S : ByteArray) (gP gT N k : Nat) (q p e c : Int) (w : World) (hN : N ≤ 70000) (hk : k < N) (hP : Blk w gP 83 (PS S gT N k q)) (hT : Tok w gT k p e c) :
    Calls Try.prog 66 #[.pointer (some ⟨gP, 0, none⟩)] w fun e' w' => e' = .returned (.agg #[.int .i32 p, .int .i32 e, .int .u8 c, .bool false]) ∧ Below w.heap.size w w' := by
  obtain ⟨t0, t1, t2, t3⟩ := hT
  have x1 : w.cell? ⟨gP, 1, none⟩ = some (.slice (some ⟨gT, 0, none⟩) N N) := hP.cell rfl
  have x2 : w.cell? ⟨gP, 2, none⟩ = some (.int .i64 k) := hP.cell rfl
  have lP := hP.lt
  have lT : gT < w.heap.size := World.block_lt_of_cell? _ _ t0
  have hkI : (k : Int) < (N : Int) := by omega
  clear hP
  go_enter Try.func66, Try.ntmps66
  go_wp2
  go_region
  go_wp2
  refine bodyPost_ret (v := .agg #[.int .i32 p, .int .i32 e, .int .u8 c, .bool false]) (by simp [results, Try.results66, go_sem]) rfl ⟨rfl, ?_⟩
  exact ((Below.refl _ _).alloc (Nat.le_refl _) _).drew

set_option maxHeartbeats 1000000 in
theorem punct_end (S t : ByteArray) (gP gT N k : Nat) (q p e : Int) (w : World) (hN : N ≤ 70000) (hk : k < N) (hP : Blk w gP 83 (PS S gT N k q)) (hT : Tok w gT k p e 0) :
    Calls Try.prog 57 #[.pointer (some ⟨gP, 0, none⟩), .string t] w fun e' w' => e' = .returned (.bool false) ∧ Below w.heap.size w w' := by
  go_enter Try.func57, Try.ntmps57
  go_wp2_with fail
  refine (peek_any S gP gT N k q p e 0 w hN hk hP hT).mono ?_
  rintro e' w1 ⟨rfl, hb1⟩
  go_wp2
  go_quiet (fail)
  go_wp2
  go_ret
  exact ⟨rfl, below_drewN (hb1.alloc hb1.size _) nq⟩

set_option maxHeartbeats 1000000 in
theorem punct_no (S t : ByteArray) (gP gT N k a b : Nat) (q : Int) (w : World) (hN : N ≤ 70000) (hk : k < N) (hP : Blk w gP 83 (PS S gT N k q)) (hT : Tok w gT k a b 6) (hab : a ≤ b) (hb : b ≤ S.size) (hS : S.size ≤ 1048576)
    (hne : ((S.extract a b).toList == t.toList) = false) :
    Calls Try.prog 57 #[.pointer (some ⟨gP, 0, none⟩), .string t] w fun e' w' => e' = .returned (.bool false) ∧ Below w.heap.size w w' := by
  go_enter Try.func57, Try.ntmps57
  go_wp2_with fail
  refine (peek_any S gP gT N k q a b 6 w hN hk hP hT).mono ?_
  rintro e' w1 ⟨rfl, hb1⟩
  have lP := hP.lt
  have hP1 := hP.keep hb1 lP
  have lP1 := hP1.lt
  have x0 : w1.cell? ⟨gP, 0, none⟩ = some (.string S) := hP1.cell rfl
  clear hP hP1 hT
  go_wp2
  go_quiet (fail)
  go_wp2
  go_ret
  exact ⟨rfl, below_drewN (hb1.alloc hb1.size _) nq⟩

set_option maxHeartbeats 1000000 in
theorem punct_yes (S t : ByteArray) (gP gT N k a b : Nat) (q : Int) (w : World) (hN : N ≤ 70000) (hk : k < N) (hP : Blk w gP 83 (PS S gT N k q)) (hT : Tok w gT k a b 6) (hab : a ≤ b) (hb : b ≤ S.size) (hS : S.size ≤ 1048576)
    (heq : ((S.extract a b).toList == t.toList) = true) :
    Calls Try.prog 57 #[.pointer (some ⟨gP, 0, none⟩), .string t] w fun e' w' => e' = .returned (.bool true) ∧ Blk w' gP 83 (PS S gT N (k + 1 : Nat) q) ∧ w.grownBy w' (some gP) := by
  go_enter Try.func57, Try.ntmps57
  go_wp2_with fail
  refine (peek_any S gP gT N k q a b 6 w hN hk hP hT).mono ?_
  rintro e' w1 ⟨rfl, hb1⟩
  have lP := hP.lt
  have hP1 := hP.keep hb1 lP
  have lP1 := hP1.lt
  have x0 : w1.cell? ⟨gP, 0, none⟩ = some (.string S) := hP1.cell rfl
  have x2 : w1.cell? ⟨gP, 2, none⟩ = some (.int .i64 k) := hP1.cell rfl
  have f2 := hP1.free 2
  have HP1 : Hid (Blk w1 gP 83 (PS S gT N k q)) := hP1
  clear hP hP1 hT
  go_wp2
  go_quiet (fail)
  go_wp2
  go_ret
  refine ⟨rfl, ?_, ?_⟩
  · have h := ((HP1.out.alloc (.cells #[.int .i32 a, .int .i32 b, .int .u8 6, .bool false] 81)).drewN nq).set 2 (.int .i64 ((k : Int) + 1))
    have e : ((k + 1 : Nat) : Int) = (k : Int) + 1 := by omega
    rw [e]
    exact h
  · exact grown_set (grown_of_below (below_drewN (hb1.alloc hb1.size _) nq) _) 2 _

/-! ### ZZAt, ZZParams: the parser's two counters -/
set_option maxHeartbeats 400000 in
theorem at_any (S : ByteArray) (gP gT N : Nat) (i q : Int) (w : World) (hP : Blk w gP 83 (PS S gT N i q)) :
    Calls Try.prog 33 #[.pointer (some ⟨gP, 0, none⟩)] w fun e w' => e = .returned (.int .i64 i) ∧ w = w' := by
  have x2 : w.cell? ⟨gP, 2, none⟩ = some (.int .i64 i) := hP.cell rfl
  clear hP
  go_enter Try.func33, Try.ntmps33
  go_wp2
  go_ret
  exact ⟨rfl, rfl⟩
set_option maxHeartbeats 400000 in
theorem params_any (S : ByteArray) (gP gT N : Nat) (i q : Int) (w : World) (hP : Blk w gP 83 (PS S gT N i q)) :
    Calls Try.prog 36 #[.pointer (some ⟨gP, 0, none⟩)] w fun e w' => e = .returned (.int .i64 q) ∧ w = w' := by
  have x4 : w.cell? ⟨gP, 4, none⟩ = some (.int .i64 q) := hP.cell rfl
  clear hP
  go_enter Try.func36, Try.ntmps36
  go_wp2
  go_ret
  exact ⟨rfl, rfl⟩

/-! ### ZZPunct -/
set_option maxHeartbeats 400000 in
theorem zzPunct_yes (S t : ByteArray) (gP gT N k a b : Nat) (q : Int) (w : World) (hN : N ≤ 70000) (hk : k < N) (hP : Blk w gP 83 (PS S gT N k q)) (hT : Tok w gT k a b 6) (hab : a ≤ b) (hb : b ≤ S.size) (hS : S.size ≤ 1048576)
    (heq : ((S.extract a b).toList == t.toList) = true) :
    Calls Try.prog 35 #[.pointer (some ⟨gP, 0, none⟩), .string t] w fun e' w' => e' = .returned (.bool true) ∧ Blk w' gP 83 (PS S gT N (k + 1 : Nat) q) ∧ w.grownBy w' (some gP) := by
  go_enter Try.func35, Try.ntmps35
  go_wp2_with fail
  refine (punct_yes S t gP gT N k a b q w hN hk hP hT hab hb hS heq).mono ?_
  rintro e w1 ⟨rfl, h1, h2⟩
  go_wp2
  go_ret
  exact ⟨rfl, h1, h2⟩

/-! ### param, ZZParam -/
theorem mark_list : (ByteArray.mk #[63]).toList = [63] := by rw [Lib.toList_data]
set_option maxHeartbeats 1000000 in
theorem param_no (S : ByteArray) (gP gT N k : Nat) (q : Int) (w : World) (hp : Calls Try.prog 57 #[.pointer (some ⟨gP, 0, none⟩), .string ⟨#[63]⟩] (w.alloc (.cells #[.int .i64 0, .string ⟨#[]⟩, .int .i64 0] 48)) fun e' w' => e' = .returned (.bool false) ∧ Below (w.heap.size + 1) (w.alloc (.cells #[.int .i64 0, .string ⟨#[]⟩, .int .i64 0] 48)) w') :
    Calls Try.prog 56 #[.pointer (some ⟨gP, 0, none⟩)] w fun e' w' => e' = .returned (.tuple #[.agg #[.int .i64 0, .string ⟨#[]⟩, .int .i64 0], .bool false]) ∧ Below w.heap.size w w' := by
  have H : Hid _ := hp
  clear hp
  go_enter Try.func56, Try.ntmps56
  go_wp2_with fail
  refine Calls.mono H.out ?_
  rintro e' w1 ⟨rfl, hb1⟩
  have b2 := (Blk.new w 48 [.int .i64 0, .string ⟨#[]⟩, .int .i64 0]).keep hb1 (Nat.lt_succ_self _)
  have y0 : w1.cell? ⟨w.heap.size, 0, none⟩ = some (.int .i64 0) := b2.cell rfl
  have y1 : w1.cell? ⟨w.heap.size, 1, none⟩ = some (.string ⟨#[]⟩) := b2.cell rfl
  have y2 : w1.cell? ⟨w.heap.size, 2, none⟩ = some (.int .i64 0) := b2.cell rfl
  have z0 := b2.free 0
  have z1 := b2.free 1
  have z2 := b2.free 2
  have hlt := b2.lt
  clear b2 H
  go_wp2
  refine bodyPost_ret (v := .tuple #[.agg #[.int .i64 0, .string ⟨#[]⟩, .int .i64 0], .bool false]) (by simp [results, Try.results56, go_sem, y0, y1, y2]) rfl ⟨rfl, ?_⟩
  have hb0 : Below w.heap.size w w1 := ((Below.refl _ _).alloc (Nat.le_refl _) _).trans (hb1.mono (Nat.le_succ _))
  exact ((hb0.setCell (Nat.le_refl _) _).setCell (Nat.le_refl _) _).setCell (Nat.le_refl _) _

theorem grown_below {w w1 w2 : World} {g : Nat} (hb : Below w.heap.size w w1) (hg : w1.grownBy w2 (some g)) : w.grownBy w2 (some g) := grown_trans (grown_of_below hb _) hg
theorem grown_new {w wr : World} {row : Option Nat} (h : w.grownBy wr row) (a : Addr) (ha : w.heap.size ≤ a.block) (v : Value) : w.grownBy (wr.setCell a v) row :=
  ⟨h.os, h.tape, h.output, by simpa [World.setCell] using h.size, fun k hk hne => by
    rw [heap_setCell_other wr a k v (by omega)]; exact h.block k hk hne⟩

set_option maxHeartbeats 1000000 in
theorem param_yes (S : ByteArray) (gP gT N k a b q : Nat) (w : World) (hN : N ≤ 70000) (hk : k < N) (hq : q ≤ 70000) (hP : Blk w gP 83 (PS S gT N k q)) (hT : Tok w gT k a b 6) (hab : a ≤ b) (hb : b ≤ S.size) (hS : S.size ≤ 1048576)
    (heq : ((S.extract a b).toList == [63]) = true) :
    Calls Try.prog 56 #[.pointer (some ⟨gP, 0, none⟩)] w fun e' w' => e' = .returned (.tuple #[.agg #[.int .i64 4, .string ⟨#[]⟩, .int .i64 q], .bool true]) ∧ Blk w' gP 83 (PS S gT N (k + 1 : Nat) (q + 1 : Nat)) ∧ w.grownBy w' (some gP) := by
  have lP := hP.lt
  have hP0 := hP.alloc (.cells #[.int .i64 0, .string ⟨#[]⟩, .int .i64 0] 48)
  have hT0 : Tok (w.alloc (.cells #[.int .i64 0, .string ⟨#[]⟩, .int .i64 0] 48)) gT k a b 6 := ⟨Lib.cell?_alloc_some _ hT.t0, Lib.cell?_alloc_some _ hT.t1, Lib.cell?_alloc_some _ hT.t2, Lib.cell?_alloc_some _ hT.t3⟩
  clear hP hT
  go_enter Try.func56, Try.ntmps56
  go_wp2_with fail
  refine (punct_yes S ⟨#[63]⟩ gP gT N k a b q _ hN hk hP0 hT0 hab hb hS (by rw [mark_list]; exact heq)).mono ?_
  rintro e' w1 ⟨rfl, hP1, hg1⟩
  have b2 : Blk w1 w.heap.size 48 [.int .i64 0, .string ⟨#[]⟩, .int .i64 0] := (Blk.new w 48 _).grown hg1 (by intro h; cases h; omega)
  have y0 : w1.cell? ⟨w.heap.size, 0, none⟩ = some (.int .i64 0) := b2.cell rfl
  have y1 : w1.cell? ⟨w.heap.size, 1, none⟩ = some (.string ⟨#[]⟩) := b2.cell rfl
  have y2 : w1.cell? ⟨w.heap.size, 2, none⟩ = some (.int .i64 0) := b2.cell rfl
  have z0 := b2.free 0
  have z1 := b2.free 1
  have z2 := b2.free 2
  have hlt := b2.lt
  have x4 : w1.cell? ⟨gP, 4, none⟩ = some (.int .i64 q) := hP1.cell rfl
  have f4 := hP1.free 4
  have HP1 : Hid (Blk w1 gP 83 (PS S gT N (k + 1 : Nat) q)) := hP1
  have HG1 : Hid ((w.alloc (.cells #[.int .i64 0, .string ⟨#[]⟩, .int .i64 0] 48)).grownBy w1 (some gP)) := hg1
  clear b2 hP1 hg1 hP0 hT0
  go_wp2
  refine bodyPost_ret (v := .tuple #[.agg #[.int .i64 4, .string ⟨#[]⟩, .int .i64 q], .bool true]) (by simp [results, Try.results56, go_sem, y0, y1, y2]) rfl ⟨rfl, ?_, ?_⟩
  · have h := HP1.out.set 4 (.int .i64 ((q : Int) + 1))
    have e : ((q + 1 : Nat) : Int) = (q : Int) + 1 := by omega
    rw [e]
    exact ((h.other ⟨w.heap.size, 0, none⟩ (by simp; omega) _).other ⟨w.heap.size, 1, none⟩ (by simp; omega) _).other ⟨w.heap.size, 2, none⟩ (by simp; omega) _
  · have h := grown_below ((Below.refl w.heap.size w).alloc (Nat.le_refl _) _) HG1.out
    exact grown_new (grown_new (grown_new (grown_set h 4 _) ⟨w.heap.size, 0, none⟩ (Nat.le_refl _) _) ⟨w.heap.size, 1, none⟩ (Nat.le_refl _) _) ⟨w.heap.size, 2, none⟩ (Nat.le_refl _) _

/-- What a param that finds no mark hands back. -/
theorem param_end (S : ByteArray) (gP gT N k : Nat) (q p e : Int) (w : World) (hN : N ≤ 70000) (hk : k < N) (hP : Blk w gP 83 (PS S gT N k q)) (hT : Tok w gT k p e 0) :
    Calls Try.prog 56 #[.pointer (some ⟨gP, 0, none⟩)] w fun e' w' => e' = .returned (.tuple #[.agg #[.int .i64 0, .string ⟨#[]⟩, .int .i64 0], .bool false]) ∧ Below w.heap.size w w' := by
  refine param_no S gP gT N k q w ?_
  have h := punct_end S ⟨#[63]⟩ gP gT N k q p e (w.alloc (.cells #[.int .i64 0, .string ⟨#[]⟩, .int .i64 0] 48)) hN hk (hP.alloc _) ⟨Lib.cell?_alloc_some _ hT.t0, Lib.cell?_alloc_some _ hT.t1, Lib.cell?_alloc_some _ hT.t2, Lib.cell?_alloc_some _ hT.t3⟩
  have es : (w.alloc (.cells #[.int .i64 0, .string ⟨#[]⟩, .int .i64 0] 48)).heap.size = w.heap.size + 1 := by simp
  rw [es] at h
  exact h
theorem param_other (S : ByteArray) (gP gT N k a b : Nat) (q : Int) (w : World) (hN : N ≤ 70000) (hk : k < N) (hP : Blk w gP 83 (PS S gT N k q)) (hT : Tok w gT k a b 6) (hab : a ≤ b) (hb : b ≤ S.size) (hS : S.size ≤ 1048576)
    (hne : ((S.extract a b).toList == [63]) = false) :
    Calls Try.prog 56 #[.pointer (some ⟨gP, 0, none⟩)] w fun e' w' => e' = .returned (.tuple #[.agg #[.int .i64 0, .string ⟨#[]⟩, .int .i64 0], .bool false]) ∧ Below w.heap.size w w' := by
  refine param_no S gP gT N k q w ?_
  have h := punct_no S ⟨#[63]⟩ gP gT N k a b q (w.alloc (.cells #[.int .i64 0, .string ⟨#[]⟩, .int .i64 0] 48)) hN hk (hP.alloc _) ⟨Lib.cell?_alloc_some _ hT.t0, Lib.cell?_alloc_some _ hT.t1, Lib.cell?_alloc_some _ hT.t2, Lib.cell?_alloc_some _ hT.t3⟩ hab hb hS (by rw [mark_list]; exact hne)
  have es : (w.alloc (.cells #[.int .i64 0, .string ⟨#[]⟩, .int .i64 0] 48)).heap.size = w.heap.size + 1 := by simp
  rw [es] at h
  exact h

/-! ### ZZParam: param once more, its result in a cell of its own -/
set_option maxHeartbeats 1000000 in
theorem zzParam_no (gP : Nat) (w : World) (hp : ∀ wx, w.heap.size < wx.heap.size → Below w.heap.size w wx → Calls Try.prog 56 #[.pointer (some ⟨gP, 0, none⟩)] wx fun e' w' => e' = .returned (.tuple #[.agg #[.int .i64 0, .string ⟨#[]⟩, .int .i64 0], .bool false]) ∧ Below wx.heap.size wx w') :
    Calls Try.prog 34 #[.pointer (some ⟨gP, 0, none⟩)] w fun e' w' => e' = .returned (.tuple #[.agg #[.int .i64 0, .string ⟨#[]⟩, .int .i64 0], .bool false]) ∧ Below w.heap.size w w' := by
  have H := hp (w.alloc (.cells #[.int .i64 0, .string ⟨#[]⟩, .int .i64 0] 48)) (by simp) ((Below.refl _ _).alloc (Nat.le_refl _) _)
  have H' : Hid _ := H
  clear hp H
  go_enter Try.func34, Try.ntmps34
  go_wp2_with fail
  refine Calls.mono H'.out ?_
  rintro e' w1 ⟨rfl, hb1⟩
  have b2 := (Blk.new w 48 [.int .i64 0, .string ⟨#[]⟩, .int .i64 0]).keep hb1 (by simp)
  have y0 : w1.cell? ⟨w.heap.size, 0, none⟩ = some (.int .i64 0) := b2.cell rfl
  have y1 : w1.cell? ⟨w.heap.size, 1, none⟩ = some (.string ⟨#[]⟩) := b2.cell rfl
  have y2 : w1.cell? ⟨w.heap.size, 2, none⟩ = some (.int .i64 0) := b2.cell rfl
  have z0 := b2.free 0
  have z1 := b2.free 1
  have z2 := b2.free 2
  have hlt := b2.lt
  have hb0 : Below w.heap.size w w1 := below_here ((Below.refl _ _).alloc (Nat.le_refl _) _) (Nat.le_refl _) hb1
  clear b2 H' hb1
  go_wp2
  refine bodyPost_ret (v := .tuple #[.agg #[.int .i64 0, .string ⟨#[]⟩, .int .i64 0], .bool false]) (by simp [results, Try.results34, go_sem, y0, y1, y2]) rfl ⟨rfl, ?_⟩
  exact ((hb0.setCell (Nat.le_refl _) _).setCell (Nat.le_refl _) _).setCell (Nat.le_refl _) _

theorem Tok.keep {w w' : World} {gT k : Nat} {p e c : Int} (h : Tok w gT k p e c) (hb : Below w.heap.size w w') : Tok w' gT k p e c :=
  have l := World.block_lt_of_cell? _ _ h.t0
  ⟨(hb.cell (p := ⟨gT, k * 4, none⟩) l).trans h.t0, (hb.cell (p := ⟨gT, k * 4 + 1, none⟩) l).trans h.t1, (hb.cell (p := ⟨gT, k * 4 + 2, none⟩) l).trans h.t2, (hb.cell (p := ⟨gT, k * 4 + 3, none⟩) l).trans h.t3⟩

theorem zzParam_end (S : ByteArray) (gP gT N k : Nat) (q p e : Int) (w : World) (hN : N ≤ 70000) (hk : k < N) (hP : Blk w gP 83 (PS S gT N k q)) (hT : Tok w gT k p e 0) :
    Calls Try.prog 34 #[.pointer (some ⟨gP, 0, none⟩)] w fun e' w' => e' = .returned (.tuple #[.agg #[.int .i64 0, .string ⟨#[]⟩, .int .i64 0], .bool false]) ∧ Below w.heap.size w w' :=
  zzParam_no gP w fun wx _ hb => param_end S gP gT N k q p e wx hN hk (hP.keep hb hP.lt) (hT.keep hb)
theorem zzParam_other (S : ByteArray) (gP gT N k a b : Nat) (q : Int) (w : World) (hN : N ≤ 70000) (hk : k < N) (hP : Blk w gP 83 (PS S gT N k q)) (hT : Tok w gT k a b 6) (hab : a ≤ b) (hb : b ≤ S.size) (hS : S.size ≤ 1048576)
    (hne : ((S.extract a b).toList == [63]) = false) :
    Calls Try.prog 34 #[.pointer (some ⟨gP, 0, none⟩)] w fun e' w' => e' = .returned (.tuple #[.agg #[.int .i64 0, .string ⟨#[]⟩, .int .i64 0], .bool false]) ∧ Below w.heap.size w w' :=
  zzParam_no gP w fun wx _ hbx => param_other S gP gT N k a b q wx hN hk (hP.keep hbx hP.lt) (hT.keep hbx) hab hb hS hne

set_option maxHeartbeats 1000000 in
theorem zzParam_yes (S : ByteArray) (gP gT N k a b q : Nat) (w : World) (hN : N ≤ 70000) (hk : k < N) (hq : q ≤ 70000) (hP : Blk w gP 83 (PS S gT N k q)) (hT : Tok w gT k a b 6) (hab : a ≤ b) (hb : b ≤ S.size) (hS : S.size ≤ 1048576)
    (heq : ((S.extract a b).toList == [63]) = true) :
    Calls Try.prog 34 #[.pointer (some ⟨gP, 0, none⟩)] w fun e' w' => e' = .returned (.tuple #[.agg #[.int .i64 4, .string ⟨#[]⟩, .int .i64 q], .bool true]) ∧ Blk w' gP 83 (PS S gT N (k + 1 : Nat) (q + 1 : Nat)) ∧ w.grownBy w' (some gP) := by
  have lP := hP.lt
  have hb0 : Below w.heap.size w (w.alloc (.cells #[.int .i64 0, .string ⟨#[]⟩, .int .i64 0] 48)) := (Below.refl _ _).alloc (Nat.le_refl _) _
  have hP0 := hP.keep hb0 lP
  have hT0 := hT.keep hb0
  clear hP hT
  go_enter Try.func34, Try.ntmps34
  go_wp2_with fail
  refine (param_yes S gP gT N k a b q _ hN hk hq hP0 hT0 hab hb hS heq).mono ?_
  rintro e' w1 ⟨rfl, hP1, hg1⟩
  have b2 : Blk w1 w.heap.size 48 [.int .i64 0, .string ⟨#[]⟩, .int .i64 0] := (Blk.new w 48 _).grown hg1 (by intro h; cases h; omega)
  have y0 : w1.cell? ⟨w.heap.size, 0, none⟩ = some (.int .i64 0) := b2.cell rfl
  have y1 : w1.cell? ⟨w.heap.size, 1, none⟩ = some (.string ⟨#[]⟩) := b2.cell rfl
  have y2 : w1.cell? ⟨w.heap.size, 2, none⟩ = some (.int .i64 0) := b2.cell rfl
  have z0 := b2.free 0
  have z1 := b2.free 1
  have z2 := b2.free 2
  have hlt := b2.lt
  have HP1 : Hid (Blk w1 gP 83 (PS S gT N (k + 1 : Nat) (q + 1 : Nat))) := hP1
  have HG1 : Hid (w.grownBy w1 (some gP)) := grown_below hb0 hg1
  clear b2 hP1 hg1 hP0 hT0 hb0
  go_wp2
  refine bodyPost_ret (v := .tuple #[.agg #[.int .i64 4, .string ⟨#[]⟩, .int .i64 q], .bool true]) (by simp [results, Try.results34, go_sem, y0, y1, y2]) rfl ⟨rfl, ?_, ?_⟩
  · exact ((HP1.out.other ⟨w.heap.size, 0, none⟩ (by simp; omega) _).other ⟨w.heap.size, 1, none⟩ (by simp; omega) _).other ⟨w.heap.size, 2, none⟩ (by simp; omega) _
  · exact grown_new (grown_new (grown_new HG1.out ⟨w.heap.size, 0, none⟩ (Nat.le_refl _) _) ⟨w.heap.size, 1, none⟩ (Nat.le_refl _) _) ⟨w.heap.size, 2, none⟩ (Nat.le_refl _) _

/-! ### the binder's literal and its shim -/
set_option maxHeartbeats 1000000 in
theorem literal_any (gV M j : Nat) (t : ByteArray) (w : World) (hM : M ≤ 70000) (hj : j < M)
    (v0 : w.cell? ⟨gV, j * 3, none⟩ = some (.int .i64 3)) (v1 : w.cell? ⟨gV, j * 3 + 1, none⟩ = some (.string t)) (v2 : w.cell? ⟨gV, j * 3 + 2, none⟩ = some (.int .i64 0)) :
    Calls Try.prog 58 #[.slice (some ⟨gV, 0, none⟩) M M, .agg #[.int .i64 4, .string ⟨#[]⟩, .int .i64 j]] w fun e' w' => e' = .returned (.tuple #[.agg #[.int .i64 3, .string t, .int .i64 0], .bool true]) ∧ Below w.heap.size w w' := by
  have lV : gV < w.heap.size := World.block_lt_of_cell? _ _ v0
  have hjI : (j : Int) < (M : Int) := by omega
  go_enter Try.func58, Try.ntmps58
  go_wp2
  refine bodyPost_ret (v := .tuple #[.agg #[.int .i64 3, .string t, .int .i64 0], .bool true]) (by simp [results, Try.results58, go_sem]) rfl ⟨rfl, ?_⟩
  exact ((Below.refl _ _).alloc (Nat.le_refl _) _).alloc (by simp) _

set_option maxHeartbeats 1000000 in
theorem zzLiteral_any (gV M j : Nat) (t : ByteArray) (w : World) (hM : M ≤ 70000) (hj : j < M)
    (v0 : w.cell? ⟨gV, j * 3, none⟩ = some (.int .i64 3)) (v1 : w.cell? ⟨gV, j * 3 + 1, none⟩ = some (.string t)) (v2 : w.cell? ⟨gV, j * 3 + 2, none⟩ = some (.int .i64 0)) :
    Calls Try.prog 37 #[.slice (some ⟨gV, 0, none⟩) M M, .agg #[.int .i64 4, .string ⟨#[]⟩, .int .i64 j]] w fun e' w' => e' = .returned (.tuple #[.agg #[.int .i64 3, .string t, .int .i64 0], .bool true]) ∧ Below w.heap.size w w' := by
  have lV : gV < w.heap.size := World.block_lt_of_cell? _ _ v0
  obtain ⟨o1, Ho1⟩ : ∃ o, Hid (o = Obj.cells #[.int .i64 4, .string ⟨#[]⟩, .int .i64 j] 48) := ⟨_, rfl⟩
  go_enter Try.func37, Try.ntmps37
  go_wp2_with fail
  rw [← Ho1.out]
  have c0 := Lib.cell?_alloc_some (.cells #[.int .i64 0, .string ⟨#[]⟩, .int .i64 0] 48) (Lib.cell?_alloc_some o1 v0)
  have c1 := Lib.cell?_alloc_some (.cells #[.int .i64 0, .string ⟨#[]⟩, .int .i64 0] 48) (Lib.cell?_alloc_some o1 v1)
  have c2 := Lib.cell?_alloc_some (.cells #[.int .i64 0, .string ⟨#[]⟩, .int .i64 0] 48) (Lib.cell?_alloc_some o1 v2)
  refine (literal_any gV M j t _ hM hj c0 c1 c2).mono ?_
  rintro e' w1 ⟨rfl, hb1⟩
  have es : (w.alloc o1).heap.size = w.heap.size + 1 := by simp
  have b2 : Blk w1 (w.heap.size + 1) 48 [.int .i64 0, .string ⟨#[]⟩, .int .i64 0] := by
    have h := (Blk.new (w.alloc o1) 48 [.int .i64 0, .string ⟨#[]⟩, .int .i64 0])
    rw [es] at h
    exact h.keep hb1 (by simp)
  have hb0 : Below w.heap.size w w1 := below_here (((Below.refl _ _).alloc (Nat.le_refl _) _).alloc (by simp) _) (Nat.le_refl _) hb1
  have y0 : w1.cell? ⟨w.heap.size + 1, 0, none⟩ = some (.int .i64 0) := b2.cell rfl
  have y1 : w1.cell? ⟨w.heap.size + 1, 1, none⟩ = some (.string ⟨#[]⟩) := b2.cell rfl
  have y2 : w1.cell? ⟨w.heap.size + 1, 2, none⟩ = some (.int .i64 0) := b2.cell rfl
  have z0 := b2.free 0
  have z1 := b2.free 1
  have z2 := b2.free 2
  clear b2 hb1 c0 c1 c2 v0 v1 v2 es
  go_wp2
  refine bodyPost_ret (v := .tuple #[.agg #[.int .i64 3, .string t, .int .i64 0], .bool true]) (by simp [results, Try.results37, go_sem, y0, y1, y2]) rfl ⟨rfl, ?_⟩
  exact ((hb0.setCell (by simp) _).setCell (by simp) _).setCell (by simp) _
end Go.Proofs.Qxb6001671a.prm
