/-
  FnParamNumbersQuestionMarksInOrder: the plain facts on the pieces laid end to end, and small laws on blocks.
-/
import Derived.Test.Qxb6001671aPn
import Derived.Room.AppendFits
namespace Go.Proofs.Qxb6001671a.prm
open Go.RowKit
set_option linter.unusedVariables false

/-- The first k pieces, end to end. -/
def cat (ps : List ByteArray) (k : Nat) : List UInt8 := (ps.take k).flatMap fun s => s.data.toList
theorem cat_zero (ps : List ByteArray) : cat ps 0 = [] := rfl
theorem cat_succ (ps : List ByteArray) (k : Nat) (h : k < ps.length) : cat ps (k + 1) = cat ps k ++ ps[k].data.toList := by
  unfold cat
  rw [List.take_succ_eq_append_getElem h, List.flatMap_append]
  simp
theorem cat_past (ps : List ByteArray) (k : Nat) (h : ps.length ≤ k) : cat ps k = cat ps ps.length := by
  unfold cat
  rw [List.take_of_length_le h, List.take_of_length_le (Nat.le_refl _)]
theorem size_list (s : ByteArray) : s.data.toList.length = s.size := rfl
theorem cat_len_succ (ps : List ByteArray) (k : Nat) (h : k < ps.length) : (cat ps (k + 1)).length = (cat ps k).length + ps[k].size := by
  rw [cat_succ ps k h, List.length_append, size_list]
theorem cat_mono (ps : List ByteArray) (j k : Nat) (h : j ≤ k) : (cat ps j).length ≤ (cat ps k).length := by
  induction k with
  | zero => have : j = 0 := by omega
            subst this; exact Nat.le_refl _
  | succ k ih =>
    by_cases e : j = k + 1
    · subst e; exact Nat.le_refl _
    · have h1 := ih (by omega)
      by_cases hk : k < ps.length
      · rw [cat_len_succ ps k hk]; omega
      · rw [cat_past ps (k + 1) (by omega), ← cat_past ps k (by omega)]; exact h1
theorem cat_split (ps : List ByteArray) (k : Nat) (h : k < ps.length) : ∃ r, cat ps ps.length = cat ps k ++ (ps[k].data.toList ++ r) := by
  refine ⟨(ps.drop (k + 1)).flatMap fun s => s.data.toList, ?_⟩
  unfold cat
  rw [List.take_of_length_le (Nat.le_refl _)]
  have e : ps = ps.take k ++ ps[k] :: ps.drop (k + 1) := by rw [← List.drop_eq_getElem_cons h, List.take_append_drop]
  calc ps.flatMap (fun s => s.data.toList) = (ps.take k ++ ps[k] :: ps.drop (k + 1)).flatMap (fun s => s.data.toList) := by rw [← e]
    _ = _ := by rw [List.flatMap_append, List.flatMap_cons]
/-- The whole text, cut at a piece's own place, is the piece. -/
theorem cut (ps : List ByteArray) (k : Nat) (h : k < ps.length) : ((ByteArray.mk (cat ps ps.length).toArray).extract (cat ps k).length (cat ps (k + 1)).length).toList = ps[k].toList := by
  obtain ⟨r, hr⟩ := cat_split ps k h
  rw [Lib.extract_toList, cat_len_succ ps k h, Nat.add_sub_cancel_left]
  show ((cat ps ps.length).drop (cat ps k).length).take ps[k].size = _
  rw [hr, List.drop_left, ← size_list, List.take_left, Lib.toList_data]
/-- Of the first k pieces: how many are marks. -/
def marks (ps : List ByteArray) (k : Nat) : Nat := ((ps.take k).filter fun s => s.toList == [63]).length
theorem marks_zero (ps : List ByteArray) : marks ps 0 = 0 := rfl
theorem marks_yes (ps : List ByteArray) (k : Nat) (h : k < ps.length) (hm : (ps[k].toList == [63]) = true) : marks ps (k + 1) = marks ps k + 1 := by
  unfold marks
  rw [List.take_succ_eq_append_getElem h, List.filter_append, List.length_append]
  simp [hm]
theorem marks_no (ps : List ByteArray) (k : Nat) (h : k < ps.length) (hm : (ps[k].toList == [63]) = false) : marks ps (k + 1) = marks ps k := by
  unfold marks
  rw [List.take_succ_eq_append_getElem h, List.filter_append, List.length_append]
  simp [hm]
theorem marks_le (ps : List ByteArray) (k : Nat) : marks ps k ≤ k := by
  have h1 := List.length_filter_le (fun s : ByteArray => s.toList == [63]) (ps.take k)
  have h2 : (ps.take k).length ≤ k := List.length_take_le _ _
  unfold marks
  omega

/-- A block of N integers, the first k of them told. -/
def NumBlk (kd : IntKind) (w : World) (g : Nat) (e : TypeId) (N k : Nat) (f : Nat → Int) : Prop := ∃ cs, Blk w g e cs ∧ cs.length = N ∧ ∀ j, j < k → cs[j]? = some (.int kd (f j))
section
variable {kd : IntKind} {w w' : World} {g N k B : Nat} {e : TypeId} {f : Nat → Int}
theorem NumBlk.there (h : NumBlk kd w g e N k f) (i : Nat) (hi : i < N) : ∃ v, w.cell? ⟨g, i, none⟩ = some v := by
  obtain ⟨cs, hb, hl, _⟩ := h
  exact ⟨cs[i], hb.cell (by rw [List.getElem?_eq_getElem (by omega)])⟩
theorem NumBlk.free (h : NumBlk kd w g e N k f) (i : Nat) : w.frozen? ⟨g, i, none⟩ = false := by
  obtain ⟨cs, hb, _⟩ := h
  exact hb.free i
theorem NumBlk.nums (h : NumBlk kd w g e N k f) : Nums kd w g k f := by
  obtain ⟨cs, hb, _, hc⟩ := h
  exact fun j hj => hb.cell (hc j hj)
theorem NumBlk.lt (h : NumBlk kd w g e N k f) : g < w.heap.size := by
  obtain ⟨cs, hb, _⟩ := h
  exact hb.lt
theorem NumBlk.step (h : NumBlk kd w g e N k f) (hk : k < N) (v : Int) (hv : v = f k) : NumBlk kd (w.setCell ⟨g, k, none⟩ (.int kd v)) g e N (k + 1) f := by
  obtain ⟨cs, hb, hl, hc⟩ := h
  refine ⟨_, hb.set k _, by simpa using hl, fun j hj => ?_⟩
  by_cases e1 : j = k
  · subst e1
    rw [List.getElem?_set_self (by omega), hv]
  · rw [List.getElem?_set_ne (by omega)]
    exact hc j (by omega)
theorem NumBlk.grown {row : Option Nat} (h : NumBlk kd w g e N k f) (hg : w.grownBy w' row) (hne : some g ≠ row) : NumBlk kd w' g e N k f := by
  obtain ⟨cs, hb, hr⟩ := h
  exact ⟨cs, hb.grown hg hne, hr⟩
theorem NumBlk.other (h : NumBlk kd w g e N k f) (a : Addr) (hne : g ≠ a.block) (v : Value) : NumBlk kd (w.setCell a v) g e N k f := by
  obtain ⟨cs, hb, hr⟩ := h
  exact ⟨cs, hb.other a hne v, hr⟩
theorem NumBlk.keep (h : NumBlk kd w g e N k f) (hb : Below B w w') (hg : g < B) : NumBlk kd w' g e N k f := by
  obtain ⟨cs, hb', hr⟩ := h
  exact ⟨cs, hb'.keep hb hg, hr⟩
theorem NumBlk.alloc (h : NumBlk kd w g e N k f) (o : Obj) : NumBlk kd (w.alloc o) g e N k f := by
  obtain ⟨cs, hb, hr⟩ := h
  exact ⟨cs, hb.alloc o, hr⟩
end
theorem NumBlk.made (kd : IntKind) (w : World) (e : TypeId) (z : Value) (N : Nat) (f : Nat → Int) : NumBlk kd (w.alloc (.cells (madeCells #[z] N) e)) w.heap.size e N 0 f :=
  ⟨_, Blk.made w e z N, by simp, fun j hj => absurd hj (by omega)⟩
theorem TokBlk.keep {w w' : World} {G N k B : Nat} {p e c : Nat → Int} (h : TokBlk w G N k p e c) (hb : Below B w w') (hg : G < B) : TokBlk w' G N k p e c := by
  obtain ⟨cs, q1, q2, q3⟩ := h
  exact ⟨cs, q1.keep hb hg, q2, q3⟩

/-- The literals that the marks have given. -/
def litCells (q : Nat) : List Value := (List.range q).flatMap fun j : Nat => [.int .i64 4, .string ⟨#[]⟩, .int .i64 (j : Int)]
theorem litCells_succ (q : Nat) : litCells (q + 1) = litCells q ++ [.int .i64 4, .string ⟨#[]⟩, .int .i64 (q : Int)] := by
  unfold litCells
  rw [List.range_succ, List.flatMap_append]
  simp
theorem litCells_len (q : Nat) : (litCells q).length = q * 3 := by
  induction q with
  | zero => rfl
  | succ q ih => rw [litCells_succ, List.length_append, ih]; simp; omega
theorem litCells_get (q j : Nat) (h : j < q) : (litCells q)[j * 3]? = some (.int .i64 4) ∧ (litCells q)[j * 3 + 1]? = some (.string ⟨#[]⟩) ∧ (litCells q)[j * 3 + 2]? = some (.int .i64 (j : Int)) := by
  induction q with
  | zero => omega
  | succ q ih =>
    have hl := litCells_len q
    rw [litCells_succ]
    by_cases e : j = q
    · subst e
      refine ⟨?_, ?_, ?_⟩
      · rw [List.getElem?_append_right (by omega), hl, Nat.sub_self]; rfl
      · rw [List.getElem?_append_right (by omega), hl, Nat.add_sub_cancel_left]; rfl
      · rw [List.getElem?_append_right (by omega), hl, Nat.add_sub_cancel_left]; rfl
    · obtain ⟨h0, h1, h2⟩ := ih (by omega)
      refine ⟨?_, ?_, ?_⟩
      · rw [List.getElem?_append_left (by omega)]; exact h0
      · rw [List.getElem?_append_left (by omega)]; exact h1
      · rw [List.getElem?_append_left (by omega)]; exact h2

/-- The values' block, its first k literals laid. -/
def ValBlk (w : World) (G M k : Nat) (vs : List ByteArray) : Prop :=
  ∃ cs, Blk w G 48 cs ∧ cs.length = M * 3 ∧ ∀ j (h : j < vs.length), j < k → cs[j * 3]? = some (.int .i64 3) ∧ cs[j * 3 + 1]? = some (.string vs[j]) ∧ cs[j * 3 + 2]? = some (.int .i64 0)
theorem ValBlk.there {w : World} {G M k : Nat} {vs : List ByteArray} (h : ValBlk w G M k vs) (i : Nat) (hi : i < M * 3) : ∃ v, w.cell? ⟨G, i, none⟩ = some v := by
  obtain ⟨cs, hb, hl, _⟩ := h
  exact ⟨cs[i], hb.cell (by rw [List.getElem?_eq_getElem (by omega)])⟩
theorem ValBlk.free {w : World} {G M k : Nat} {vs : List ByteArray} (h : ValBlk w G M k vs) (i : Nat) : w.frozen? ⟨G, i, none⟩ = false := by
  obtain ⟨cs, hb, _⟩ := h
  exact hb.free i
theorem ValBlk.step {w : World} {G M k : Nat} {vs : List ByteArray} (h : ValBlk w G M k vs) (hk : k < M) (hx : k < vs.length) :
    ValBlk (((w.setCell ⟨G, k * 3, none⟩ (.int .i64 3)).setCell ⟨G, k * 3 + 1, none⟩ (.string vs[k])).setCell ⟨G, k * 3 + 2, none⟩ (.int .i64 0)) G M (k + 1) vs := by
  obtain ⟨cs, hb, hl, hc⟩ := h
  refine ⟨_, ((hb.set (k * 3) _).set (k * 3 + 1) _).set (k * 3 + 2) _, by simpa using hl, fun j hj hjk => ?_⟩
  by_cases e1 : j = k
  · subst e1
    refine ⟨?_, ?_, ?_⟩ <;> simp [List.getElem?_set, hl] <;> omega
  · obtain ⟨h0, h1, h2⟩ := hc j hj (by omega)
    refine ⟨?_, ?_, ?_⟩
    · rw [List.getElem?_set_ne (by omega), List.getElem?_set_ne (by omega), List.getElem?_set_ne (by omega)]; exact h0
    · rw [List.getElem?_set_ne (by omega), List.getElem?_set_ne (by omega), List.getElem?_set_ne (by omega)]; exact h1
    · rw [List.getElem?_set_ne (by omega), List.getElem?_set_ne (by omega), List.getElem?_set_ne (by omega)]; exact h2
theorem ValBlk.keep {w w' : World} {G M k B : Nat} {vs : List ByteArray} (h : ValBlk w G M k vs) (hb : Below B w w') (hg : G < B) : ValBlk w' G M k vs := by
  obtain ⟨cs, q1, q2, q3⟩ := h
  exact ⟨cs, q1.keep hb hg, q2, q3⟩
end Go.Proofs.Qxb6001671a.prm
