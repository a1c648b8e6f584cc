/-
  THE WALKS OF FnEqualIsReflexive's CALLEES (5): zzCloneStrings.
-/
import Derived.Test.Qxb6001697aE4
import Derived.Laws.CopyOwn
namespace Go.Proofs.Qxb6001697a
open Go.RowKit
set_option linter.unusedVariables false

theorem Try.info9 : (Try.prog.info? 9).map (fun i => (i.zero, i.size, i.bytes)) = some (some (.string ⟨#[]⟩), 1, 16) := by kernel_rfl
theorem Try.size9 : (Try.prog.info? 9).map (·.size) = some 1 := by kernel_rfl

theorem View.ofBlk {α : Type} {f : α → Value} {w : World} {g : Nat} {e : TypeId} {xs : List α} (h : Blk w g e (xs.map f)) : View f w (some ⟨g, 0, none⟩) xs.length xs.length xs :=
  ⟨rfl, fun h => by (cases h), Nat.le_refl _, fun a ha => by
    cases ha
    intro j hj
    rw [Addr.add_lit, Nat.zero_add]
    exact h.cell (by simp [hj])⟩

theorem Reads.other {α : Type} {f : α → Value} {w : World} {a : Addr} {xs : List α} (h : Reads f w a xs) {g j : Nat} (hne : a.block ≠ g) (v : Value) : Reads f (w.setCell ⟨g, j, none⟩ v) a xs := by
  intro i hi
  have h0 := h i hi
  obtain ⟨b, off, rfl, _⟩ := h.at hi
  rw [Addr.add_lit] at h0 ⊢
  exact (grown_cell (grown_set (grown_refl w (some g)) j v) h0 hne)
theorem View.other {α : Type} {f : α → Value} {w : World} {ao : Option Addr} {n c : Nat} {xs : List α} (h : View f w ao n c xs) {g j : Nat} (hne : ∀ a, ao = some a → a.block ≠ g) (v : Value) : View f (w.setCell ⟨g, j, none⟩ v) ao n c xs :=
  ⟨h.len, h.nil, h.cap, fun a ha => (h.reads a ha).other (hne a ha) v⟩
theorem cloneStrings_nil (w : World) : Calls Try.prog 25 #[.slice none 0 0] w fun e w' => e = .returned (.slice none 0 0) ∧ w = w' := by
  have q : ∀ (w : World) (a : Option Addr) (n c n' c' : Nat), (binOp .eql 37 (.slice a n c) (.slice none n' c')).run Try.prog w = .ok (.bool a.isNone) w := fun w a n c n' c' => Lib.run_eql_slice_nil w _ _ a n c n' c' Try.underlying37
  go_enter Try.func25, Try.ntmps25
  go_wp2
  go_ret
  exact ⟨rfl, rfl⟩

theorem splice_all (z : Value) (cs : List Value) : splice (List.replicate cs.length z) 0 cs = cs := by
  simp [splice]
set_option maxRecDepth 100000 in
set_option maxHeartbeats 1000000 in
theorem cloneStrings_any (a : Addr) (c : Nat) (xs : List ByteArray) (w : World) (hn : xs.length ≤ 1048576) (hr : Reads Value.string w a xs) :
    Calls Try.prog 25 #[.slice (some a) xs.length c] w fun e w' => e = .returned (.slice (some ⟨w.heap.size, 0, none⟩) xs.length xs.length) ∧ Blk w' w.heap.size 9 (xs.map Value.string) ∧ Below w.heap.size w w' := by
  have q : ∀ (w : World) (a : Option Addr) (n c n' c' : Nat), (binOp .eql 37 (.slice a n c) (.slice none n' c')).run Try.prog w = .ok (.bool a.isNone) w := fun w a n c n' c' => Lib.run_eql_slice_nil w _ _ a n c n' c' Try.underlying37
  obtain ⟨n, Hn⟩ : ∃ n, Hid (n = xs.length) := ⟨xs.length, rfl⟩
  obtain ⟨cs, Hcs⟩ : ∃ cs, Hid (cs = xs.map Value.string) := ⟨xs.map Value.string, rfl⟩
  have lcs : cs.length = n := by rw [Hcs.out, Hn.out]; simp
  rw [← Hn.out, ← Hcs.out]
  rw [← Hn.out] at hn
  have hmk := fun (wx : World) => run_make_n (P := Try.prog) Try.underlying37 Try.info9 rfl n (by omega) (by unfold maxLen; omega) wx
  have HR : Hid (∀ j v, cs[j]? = some v → (w.alloc (.cells (madeCells #[.string ⟨#[]⟩] n) 9)).cell? (a.add j) = some v) := by
    intro j v hv
    rw [Hcs.out] at hv
    have hj : j < xs.length := by
      rcases Nat.lt_or_ge j xs.length with h | h
      · exact h
      · rw [List.getElem?_eq_none (by simpa using h)] at hv; cases hv
    have h0 := (hr.keep ((Below.refl _ _).alloc (Nat.le_refl _) (.cells (madeCells #[.string ⟨#[]⟩] n) 9))) j hj
    rw [h0, ← hv]
    simp [hj]
  have HO : Hid (∀ v ∈ cs, v.oneCell' = true) := by
    intro v hv
    rw [Hcs.out] at hv
    obtain ⟨s, _, rfl⟩ := List.mem_map.1 hv
    rfl
  have hg := Blk.made w 9 (.string ⟨#[]⟩) n
  obtain ⟨W, HW⟩ : ∃ W, Hid (W = w.alloc (.cells (madeCells #[.string ⟨#[]⟩] n) 9)) := ⟨_, rfl⟩
  have bel : Below w.heap.size w W := by rw [HW.out]; exact (Below.refl _ _).alloc (Nat.le_refl _) _
  rw [← HW.out] at hg HR
  have hcp := fun ty => run_copy_row (P := Try.prog) W 37 37 ty 9 w.heap.size 0 n n a n c (List.replicate n (Value.string ⟨#[]⟩)).toArray 9 cs Try.underlying37 Try.size9 hg (by rw [lcs]; simp) HR.out (by rw [lcs]; simp) HO.out
  obtain ⟨w2, Hw2⟩ : ∃ w2, Hid (w2 = W.setRow w.heap.size ((List.replicate n (Value.string ⟨#[]⟩)).toArray.toList.take 0 ++ cs ++ (List.replicate n (Value.string ⟨#[]⟩)).toArray.toList.drop (0 + cs.length)).toArray) := ⟨_, rfl⟩
  have hb2 : Below w.heap.size w w2 := by rw [Hw2.out]; exact below_setRow bel (Nat.le_refl _) _
  have hg2 : Blk w2 w.heap.size 9 cs := by
    rw [Hw2.out]
    have h := setRow_heap W w.heap.size _ ((List.replicate n (Value.string ⟨#[]⟩)).toArray.toList.take 0 ++ cs ++ (List.replicate n (Value.string ⟨#[]⟩)).toArray.toList.drop (0 + cs.length)).toArray 9 _ hg
    rw [Blk, h]
    simp [lcs]
  rw [← Hw2.out] at hcp
  have HG : Hid _ := hg2
  clear hr hg hg2 bel
  rw [HW.out] at hcp
  go_enter Try.func25, Try.ntmps25
  go_wp2_with fail
  go_ret
  exact ⟨rfl, HG.out, hb2⟩
theorem cloneStrings_view (oo : Option Addr) (n c : Nat) (xs : List ByteArray) (w : World) (hn : n ≤ 1048576) (hv : View Value.string w oo n c xs) :
    Calls Try.prog 25 #[.slice oo n c] w fun e w' => ∃ oo' c', e = .returned (.slice oo' n c') ∧ View Value.string w' oo' n c' xs ∧ (∀ a, oo' = some a → w.heap.size ≤ a.block) ∧ Below w.heap.size w w' := by
  cases oo with
  | none =>
    obtain ⟨e1, e2⟩ := hv.nil rfl
    subst e1 e2
    exact (cloneStrings_nil w).mono fun e w' ⟨he, hw⟩ => ⟨none, 0, he, by rw [← hw]; exact hv, (fun a ha => by cases ha), by rw [← hw]; exact Below.refl _ _⟩
  | some a =>
    obtain ⟨rfl, h2, h3, h4⟩ := hv
    exact (cloneStrings_any a c xs w hn (h4 a rfl)).mono fun e w' ⟨he, hb, hw⟩ => ⟨_, _, he, View.ofBlk hb, (fun a ha => by cases ha; exact Nat.le_refl _), hw⟩
end Go.Proofs.Qxb6001697a
