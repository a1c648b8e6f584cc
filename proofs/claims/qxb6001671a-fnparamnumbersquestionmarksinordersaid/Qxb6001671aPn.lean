/-
  THE WALKS OF FnParamNumbersQuestionMarksInOrder's CALLEES (3): ZZNewParser.
-/
import Derived.Test.Qxb6001671aPp
namespace Go.Proofs.Qxb6001671a.prm
open Go.RowKit
set_option linter.unusedVariables false

/-- 'make([]T, n)' of elements of several cells, in whatever world. -/
theorem run_make_wide {P : Program} {t e : TypeId} {z : Value} {size bytes : Nat} (ht : P.underlying t = some (.slice e)) (hi : (P.info? e).map (fun i => (i.zero, i.size, i.bytes)) = some (some z, size, bytes))
    (l n : Nat) (hln : l ≤ n) (hb : bytes * n ≤ 281474976710656) (h63 : n ≤ maxLen) (w : World) :
    (Instr.makeSlice t (.int .i64 l) (.int .i64 n)).run P w = .ok (.slice (some ⟨w.heap.size, 0, none⟩) l n) (w.alloc (.cells (madeCells z.cells (n * size)) e)) := by
  obtain ⟨i, hi0, hz0, hz1, hz2⟩ := info_parts hi
  have h := run_make (P := P) w t e i z ht hi0 hz0 .i64 .i64 l n (by omega) (by omega) (by rw [hz2]; omega) (by unfold maxLen at h63; omega)
  rw [h, hz1, Int.toNat_natCast, Int.toNat_natCast]

/-- The tokens' block, its first k tokens laid. -/
def TokBlk (w : World) (G N k : Nat) (p e c : Nat → Int) : Prop :=
  ∃ cs, Blk w G 81 cs ∧ cs.length = N * 4 ∧ ∀ j, j < k → cs[j * 4]? = some (.int .i32 (p j)) ∧ cs[j * 4 + 1]? = some (.int .i32 (e j)) ∧ cs[j * 4 + 2]? = some (.int .u8 (c j)) ∧ cs[j * 4 + 3]? = some (.bool false)
theorem TokBlk.there {w : World} {G N k : Nat} {p e c : Nat → Int} (h : TokBlk w G N k p e c) (i : Nat) (hi : i < N * 4) : ∃ v, w.cell? ⟨G, i, none⟩ = some v := by
  obtain ⟨cs, hb, hl, _⟩ := h
  exact ⟨cs[i], hb.cell (by rw [List.getElem?_eq_getElem (by omega)])⟩
theorem TokBlk.free {w : World} {G N k : Nat} {p e c : Nat → Int} (h : TokBlk w G N k p e c) (i : Nat) : w.frozen? ⟨G, i, none⟩ = false := by
  obtain ⟨cs, hb, _⟩ := h
  exact hb.free i
theorem TokBlk.tok {w : World} {G N k : Nat} {p e c : Nat → Int} (h : TokBlk w G N k p e c) (j : Nat) (hj : j < k) : Tok w G j (p j) (e j) (c j) := by
  obtain ⟨cs, hb, _, hc⟩ := h
  obtain ⟨h0, h1, h2, h3⟩ := hc j hj
  exact ⟨hb.cell h0, hb.cell h1, hb.cell h2, hb.cell h3⟩
theorem TokBlk.step {w : World} {G N k : Nat} {p e c : Nat → Int} (h : TokBlk w G N k p e c) (hk : k < N) :
    TokBlk ((((w.setCell ⟨G, k * 4, none⟩ (.int .i32 (p k))).setCell ⟨G, k * 4 + 1, none⟩ (.int .i32 (e k))).setCell ⟨G, k * 4 + 2, none⟩ (.int .u8 (c k))).setCell ⟨G, k * 4 + 3, none⟩ (.bool false)) G N (k + 1) p e c := by
  obtain ⟨cs, hb, hl, hc⟩ := h
  refine ⟨_, (((hb.set (k * 4) _).set (k * 4 + 1) _).set (k * 4 + 2) _).set (k * 4 + 3) _, by simpa using hl, fun j hj => ?_⟩
  by_cases e1 : j = k
  · subst e1
    refine ⟨?_, ?_, ?_, ?_⟩ <;> simp [List.getElem?_set, hl] <;> omega
  · obtain ⟨h0, h1, h2, h3⟩ := hc j (by omega)
    have n0 : k * 4 ≠ j * 4 ∧ k * 4 + 1 ≠ j * 4 ∧ k * 4 + 2 ≠ j * 4 ∧ k * 4 + 3 ≠ j * 4 := by omega
    have n1 : k * 4 ≠ j * 4 + 1 ∧ k * 4 + 1 ≠ j * 4 + 1 ∧ k * 4 + 2 ≠ j * 4 + 1 ∧ k * 4 + 3 ≠ j * 4 + 1 := by omega
    have n2 : k * 4 ≠ j * 4 + 2 ∧ k * 4 + 1 ≠ j * 4 + 2 ∧ k * 4 + 2 ≠ j * 4 + 2 ∧ k * 4 + 3 ≠ j * 4 + 2 := by omega
    have n3 : k * 4 ≠ j * 4 + 3 ∧ k * 4 + 1 ≠ j * 4 + 3 ∧ k * 4 + 2 ≠ j * 4 + 3 ∧ k * 4 + 3 ≠ j * 4 + 3 := by omega
    refine ⟨?_, ?_, ?_, ?_⟩
    · rw [List.getElem?_set_ne n0.2.2.2, List.getElem?_set_ne n0.2.2.1, List.getElem?_set_ne n0.2.1, List.getElem?_set_ne n0.1]; exact h0
    · rw [List.getElem?_set_ne n1.2.2.2, List.getElem?_set_ne n1.2.2.1, List.getElem?_set_ne n1.2.1, List.getElem?_set_ne n1.1]; exact h1
    · rw [List.getElem?_set_ne n2.2.2.2, List.getElem?_set_ne n2.2.2.1, List.getElem?_set_ne n2.2.1, List.getElem?_set_ne n2.1]; exact h2
    · rw [List.getElem?_set_ne n3.2.2.2, List.getElem?_set_ne n3.2.2.1, List.getElem?_set_ne n3.2.1, List.getElem?_set_ne n3.1]; exact h3

/-- A block of N integers by an index function. -/
def Nums (kd : IntKind) (w : World) (g N : Nat) (f : Nat → Int) : Prop := ∀ j, j < N → w.cell? ⟨g, j, none⟩ = some (.int kd (f j))

set_option maxRecDepth 100000 in
set_option maxHeartbeats 2000000 in
theorem newParser_any (S : ByteArray) (gA gB gK N : Nat) (p e c : Nat → Int) (w : World) (hN : N ≤ 70000) (lA : gA < w.heap.size) (lB : gB < w.heap.size) (lK : gK < w.heap.size)
    (hA : Nums .i32 w gA N p) (hB : Nums .i32 w gB N e) (hK : Nums .u8 w gK N c) :
    Calls Try.prog 32 #[.string S, .slice (some ⟨gA, 0, none⟩) N N, .slice (some ⟨gB, 0, none⟩) N N, .slice (some ⟨gK, 0, none⟩) N N] w fun e' w' =>
      e' = .returned (.pointer (some ⟨w.heap.size + 1, 0, none⟩)) ∧ Blk w' (w.heap.size + 1) 83 (PS S w.heap.size N 0 0) ∧ TokBlk w' w.heap.size N N p e c ∧ Below w.heap.size w w' ∧ w'.heap.size = w.heap.size + 2 := by
  have HA : Hid _ := hA
  have HB : Hid _ := hB
  have HK : Hid _ := hK
  clear hA hB hK
  have hmk := fun (wx : World) => run_make_wide (P := Try.prog) Try.underlying79 Try.info81 N N (Nat.le_refl _) (by omega) (by unfold maxLen; omega) wx
  simp only [Value.cells] at hmk
  go_enter Try.func32, Try.ntmps32
  go_wp2
  clear hmk
  go_loopw [10] (fun i wr => ∃ k : Nat, k ≤ N ∧ i = .int .i64 k ∧ TokBlk wr w.heap.size N k p e c ∧ Below w.heap.size w wr ∧ Hid (wr.heap.size = w.heap.size + 1)) (fun i _ => N - (intOf i).toNat)
  case atStart => exact ⟨0, Nat.zero_le _, rfl, ⟨_, Blk.newA w 81 _, by simp [size_madeCells], fun j hj => absurd hj (by omega)⟩, (Below.refl _ _).alloc (Nat.le_refl _) _, by rw [Hid]; simp⟩
  case round =>
    obtain ⟨k, hk, rfl, hblk, hbel, hsz⟩ := hrel
    by_cases hlt : k < N
    · have ca : wr.cell? ⟨gA, k, none⟩ = some (.int .i32 (p k)) := (hbel.cell (p := ⟨gA, k, none⟩) lA).trans (HA.out k hlt)
      have cb : wr.cell? ⟨gB, k, none⟩ = some (.int .i32 (e k)) := (hbel.cell (p := ⟨gB, k, none⟩) lB).trans (HB.out k hlt)
      have cc : wr.cell? ⟨gK, k, none⟩ = some (.int .u8 (c k)) := (hbel.cell (p := ⟨gK, k, none⟩) lK).trans (HK.out k hlt)
      obtain ⟨v0, t0⟩ := hblk.there (k * 4) (by omega)
      obtain ⟨v1, t1⟩ := hblk.there (k * 4 + 1) (by omega)
      obtain ⟨v2, t2⟩ := hblk.there (k * 4 + 2) (by omega)
      obtain ⟨v3, t3⟩ := hblk.there (k * 4 + 3) (by omega)
      have f0 := hblk.free (k * 4)
      have f1 := hblk.free (k * 4 + 1)
      have f2 := hblk.free (k * 4 + 2)
      have f3 := hblk.free (k * 4 + 3)
      have HST : Hid _ := hblk.step hlt
      have hkI : (k : Int) < (N : Int) := by omega
      clear hblk
      go_wp2
      go_region
      go_wp2
      go_roundw
      case rel => exact ⟨k + 1, by omega, by go_num, HST.out, ((((hbel.setCell (Nat.le_refl _) _).setCell (Nat.le_refl _) _).setCell (Nat.le_refl _) _).setCell (Nat.le_refl _) _).drew, by rw [Hid]; simp [World.setCell, World.drew]; exact hsz.out⟩
      case measure => simp [intOf]; omega
    · have ek : k = N := by omega
      rw [ek] at hblk
      have hs := hsz.out
      go_wp2
      go_ret
      have hP := Blk.new wr 83 (PS S w.heap.size N 0 0)
      rw [hs] at hP
      obtain ⟨cs, q1, q2, q3⟩ := hblk
      exact ⟨rfl, hP, ⟨cs, q1.alloc _, q2, q3⟩, hbel.alloc hbel.size _, by simp [hs]⟩
end Go.Proofs.Qxb6001671a.prm
