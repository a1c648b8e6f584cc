/-
  BLOCKS OF THE CALL's OWN, WRITTEN OUT: 'Blk w g e cs': block g of world w is a row of cells cs of type e, none of them frozen. And 'half': what a row of zeros holds while it is filled from the left. No program in sight.
-/
import Derived.WalkKit
import Derived.WalkSpells
import Derived.WalkLawsBesides
import Derived.Deep.QuietTactic
import Derived.BigQuiet
namespace Go.Proofs.Qxb6001697a
open Go.RowKit

def Blk (w : World) (g : Nat) (e : TypeId) (cs : List Value) : Prop := w.heap[g]? = some (.cells cs.toArray e (0, 0))

section
variable {w w' : World} {g g' B j : Nat} {e : TypeId} {cs : List Value}
theorem Blk.lt (h : Blk w g e cs) : g < w.heap.size := by
  rcases Nat.lt_or_ge g w.heap.size with h' | h'
  · exact h'
  · have := h; rw [Blk, Array.getElem?_eq_none h'] at this; cases this
theorem Blk.cell (h : Blk w g e cs) {v : Value} (hv : cs[j]? = some v) : w.cell? ⟨g, j, none⟩ = some v := by
  rw [cell_of_row w g j cs.toArray e (0, 0) h]; simpa using hv
theorem Blk.free (h : Blk w g e cs) (j : Nat) : w.frozen? ⟨g, j, none⟩ = false := frozen_of_row w g j cs.toArray e h
theorem Blk.new (w : World) (e : TypeId) (cs : List Value) : Blk (w.alloc (.cells cs.toArray e)) w.heap.size e cs := heap_alloc_new w _
theorem Blk.newA (w : World) (e : TypeId) (cs : Array Value) : Blk (w.alloc (.cells cs e)) w.heap.size e cs.toList := heap_alloc_new w _
theorem Blk.set (h : Blk w g e cs) (j : Nat) (v : Value) : Blk (w.setCell ⟨g, j, none⟩ v) g e (cs.set j v) := by
  have h1 := heap_setCell_same w g j cs.toArray e v h
  rw [Blk, h1]; simp
theorem Blk.other (h : Blk w g e cs) (a : Addr) (hne : g ≠ a.block) (v : Value) : Blk (w.setCell a v) g e cs := by
  rw [Blk, heap_setCell_other w a g v hne]; exact h
theorem Blk.keep (h : Blk w g e cs) (hb : Below B w w') (hg : g < B) : Blk w' g e cs := by
  rw [Blk, hb.block g hg]; exact h
theorem Blk.alloc (h : Blk w g e cs) (o : Obj) : Blk (w.alloc o) g e cs := by
  rw [Blk, Below.heap_alloc w o g h.lt]; exact h
theorem Blk.drewN (h : Blk w g e cs) (n : Nat) : Blk (w.drewN n) g e cs := h
theorem Blk.drew (h : Blk w g e cs) : Blk w.drew g e cs := h
end

theorem below_drewN {B : Nat} {w wr : World} (h : Below B w wr) (n : Nat) : Below B w (wr.drewN n) := h.trans ⟨rfl, rfl, rfl, Nat.le_refl _, fun _ _ => rfl⟩
theorem below_here {B : Nat} {w w1 w2 : World} (h : Below B w w1) (hB : B ≤ w.heap.size) (h2 : Below w1.heap.size w1 w2) : Below B w w2 := h.trans (h2.mono (Nat.le_trans hB h.size))

theorem Blk.grown {w w' : World} {g : Nat} {e : TypeId} {cs : List Value} {row : Option Nat} (h : Blk w g e cs) (hg : w.grownBy w' row) (hne : some g ≠ row) : Blk w' g e cs := by
  rw [Blk, hg.block g h.lt hne]; exact h
theorem grown_set {w wr : World} {g : Nat} (h : w.grownBy wr (some g)) (j : Nat) (v : Value) : w.grownBy (wr.setCell ⟨g, j, none⟩ v) (some g) :=
  ⟨h.os, h.tape, h.output, by simpa [World.setCell] using h.size, fun k hk hne => by
    rw [heap_setCell_other wr ⟨g, j, none⟩ k v (fun e => hne (by rw [e]))]; exact h.block k hk hne⟩
theorem grown_refl (w : World) (row : Option Nat) : w.grownBy w row := World.grownBy.refl w row

theorem grown_of_below {w w' : World} (h : Below w.heap.size w w') (row : Option Nat) : w.grownBy w' row := ⟨h.os, h.tape, h.output, h.size, fun k hk _ => h.block k hk⟩
theorem grown_trans {a b c : World} {row : Option Nat} (h : a.grownBy b row) (k : b.grownBy c row) : a.grownBy c row :=
  ⟨k.os.trans h.os, k.tape.trans h.tape, k.output.trans h.output, Nat.le_trans h.size k.size, fun i hi hne => (k.block i (Nat.lt_of_lt_of_le hi h.size) hne).trans (h.block i hi hne)⟩
theorem grown_cell {w w' : World} {g b o : Nat} {v : Value} (hg : w.grownBy w' (some g)) (h : w.cell? ⟨b, o, none⟩ = some v) (hne : b ≠ g) : w'.cell? ⟨b, o, none⟩ = some v :=
  hg.cell h (by intro e; cases e; exact hne rfl)

/-- A row of zeros, filled with the first k of l. -/
def half {α : Type} (f : α → Value) (z : Value) (l : List α) (k : Nat) : List Value := (l.take k).map f ++ List.replicate (l.length - k) z
section
variable {α : Type} {f : α → Value} {z : Value} {l : List α} {k : Nat}
theorem half_zero (f : α → Value) (z : Value) (l : List α) : half f z l 0 = List.replicate l.length z := by simp [half]
theorem half_full (f : α → Value) (z : Value) (l : List α) (h : l.length ≤ k) : half f z l k = l.map f := by
  rw [half, List.take_of_length_le h, Nat.sub_eq_zero_of_le h]; simp
theorem half_set (f : α → Value) (z : Value) (h : k < l.length) : (half f z l k).set k (f l[k]) = half f z l (k + 1) := by
  have hl : ((l.take k).map f).length = k := by simp; omega
  unfold half
  rw [List.set_append_right _ _ (by omega), List.take_succ_eq_append_getElem h, hl]
  obtain ⟨m, hm⟩ : ∃ m, l.length - k = m + 1 := ⟨l.length - k - 1, by omega⟩
  have hm' : l.length - (k + 1) = m := by omega
  rw [hm, hm', List.replicate_succ, Nat.sub_self, List.set_cons_zero, List.map_append, List.append_assoc]
  rfl
theorem half_get (f : α → Value) (z : Value) (h : k < l.length) : (half f z l k)[k]? = some z := by
  have hl : ((l.take k).map f).length = k := by simp; omega
  unfold half
  rw [List.getElem?_append_right (by omega), hl, Nat.sub_self, List.getElem?_replicate, if_pos (by omega)]
end
theorem made_list (z : Value) (n : Nat) : (madeCells #[z] n).toList = List.replicate n z := toList_madeCells_one z n
theorem Blk.made (w : World) (e : TypeId) (z : Value) (n : Nat) : Blk (w.alloc (.cells (madeCells #[z] n) e)) w.heap.size e (List.replicate n z) := by
  have h := Blk.newA w e (madeCells #[z] n)
  rw [made_list] at h
  exact h
/-- 'make([]T, n)' of one-cell elements, in whatever world. -/
theorem run_make_n {P : Program} {t e : TypeId} {z : Value} {bytes : Nat} (ht : P.underlying t = some (.slice e)) (hi : (P.info? e).map (fun i => (i.zero, i.size, i.bytes)) = some (some z, 1, bytes)) (hz : z.cells = #[z])
    (n : Nat) (hb : bytes * n ≤ 281474976710656) (h63 : n ≤ maxLen) (w : World) :
    (Instr.makeSlice t (.int .i64 n) (.int .i64 n)).run P w = .ok (.slice (some ⟨w.heap.size, 0, none⟩) n n) (w.alloc (.cells (madeCells #[z] n) e)) := by
  obtain ⟨i, hi0, hz0, hz1, hz2⟩ := info_parts hi
  have h := run_make (P := P) w t e i z ht hi0 hz0 .i64 .i64 n n (by omega) (by omega) (by rw [hz2]; omega) (by unfold maxLen at h63; omega)
  rw [h, hz1, hz, Nat.mul_one, Int.toNat_natCast]
end Go.Proofs.Qxb6001697a
