/-
  THE WALKS OF FnEqualIsReflexive's CALLEES (4): 'equal' at a map against itself, its values being so.
-/
import Derived.Test.Qxb6001697aE3
namespace Go.Proofs.Qxb6001697a
open Go.RowKit
open Go.ChangeMaps (setBlock)
set_option linter.unusedVariables false

/-- A map of the call's own: string keys, none twice, stamps below the clock, none twice; each value equal to itself from w on. -/
structure MapOk (w : World) (m : Nat) (es : Array MapEntry) (clock : Nat) : Prop where
  heap : w.heap[m]? = some (.map es clock)
  stamps : ∀ x ∈ es.toList, x.born < clock
  borns : (es.toList.map (·.born)).Nodup
  keys : (es.toList.map (·.key)).Nodup
  vals : ∀ x ∈ es.toList, ∃ k y0 y1 y2 y3 y4 y5 z0 z1 z2 z3 z4 z5 z6, x.key = .string k ∧ x.val = .agg #[.int .i64 y0, .string y1, .bool y2, .string y3, .int .i64 y4, .bool y5, .slice z0 z1 z2, .map z3, .slice z4 z5 z6] ∧ EqSelf w x.val
theorem MapOk.lt {w : World} {m : Nat} {es : Array MapEntry} {clock : Nat} (h : MapOk w m es clock) : m < w.heap.size := by
  rcases Nat.lt_or_ge m w.heap.size with h' | h'
  · exact h'
  · have := h.heap; rw [Array.getElem?_eq_none h'] at this; cases this
theorem MapOk.keep {w w' : World} {m : Nat} {es : Array MapEntry} {clock : Nat} (h : MapOk w m es clock) (hb : Below w.heap.size w w') : MapOk w' m es clock :=
  ⟨(hb.block m h.lt).trans h.heap, h.stamps, h.borns, h.keys, fun x hx => by
    obtain ⟨k, y0, y1, y2, y3, y4, y5, z0, z1, z2, z3, z4, z5, z6, e1, e2, q⟩ := h.vals x hx
    exact ⟨k, y0, y1, y2, y3, y4, y5, z0, z1, z2, z3, z4, z5, z6, e1, e2, q.keep hb⟩⟩
theorem findNow_in (k : ByteArray) : ∀ (l : List MapEntry) (i : Nat) (x : MapEntry), (l.map (·.key)).Nodup → (∀ y ∈ l, ∃ s, y.key = .string s) → x ∈ l → x.key = .string k → ∃ j, Instr.findNow .string (.string k) l i = some (some (j, x.val))
  | [], i, x, _, _, hx, _ => by cases hx
  | y :: l, i, x, hn, hs, hx, hk => by
    obtain ⟨s, hy⟩ := hs y List.mem_cons_self
    have hn' := List.nodup_cons.1 hn
    rw [Instr.findNow, hy]
    by_cases e : k = s
    · subst e
      rcases List.mem_cons.1 hx with rfl | h
      · have hs1 : Instr.sameNow .string (.string k) (.string k) = some true := by simp only [Instr.sameNow, (MapKept.bytes_beq k k).2 rfl]
        exact ⟨i, by rw [hs1]⟩
      · exact absurd (List.mem_map.2 ⟨x, h, hk.trans hy.symm⟩) hn'.1
    · have hf : (k == s) = false := by
        cases hc : k == s with
        | false => rfl
        | true => exact absurd ((MapKept.bytes_beq k s).1 hc) e
      have hs1 : Instr.sameNow .string (.string k) (.string s) = some false := by simp only [Instr.sameNow, hf]
      rw [hs1]
      rcases List.mem_cons.1 hx with rfl | h
      · rw [hk] at hy; cases hy; exact absurd rfl e
      · exact findNow_in k l (i + 1) x hn'.2 (fun z hz => hs z (List.mem_cons_of_mem _ hz)) h hk
theorem MapOk.look {w : World} {m : Nat} {es : Array MapEntry} {clock : Nat} (h : MapOk w m es clock) (x : MapEntry) (hx : x ∈ es.toList) (k : ByteArray) (hk : x.key = .string k) :
    (Instr.lookup 42 (.map (some m)) (.string k) true).run Try.prog w = .ok (.tuple #[x.val, .bool true]) w := by
  obtain ⟨j, hf⟩ := findNow_in k es.toList 0 x h.keys (fun y hy => by obtain ⟨s, _, _, _, _, _, _, _, _, _, _, _, _, _, e, _⟩ := h.vals y hy; exact ⟨s, e⟩) hx hk
  have hc : ∀ em, (Instr.checkKey em 10000 9 (.string k)).run Try.prog w = .ok () w := fun em => MapKept.run_checkKey (k := .string k) Try.underlying9 (by simp [MapKept.IsKey]) em 9999
  simp [Instr.lookup, run_underlying Try.underlying42, MapKept.run_getObj_map h.heap, hc, MapKept.run_findKey Try.underlying9 hf, Result.andThen]

theorem two_allocs (w : World) (o1 o2 : Obj) : Below w.heap.size w ((w.alloc o1).alloc o2) := ((Below.refl _ _).alloc (Nat.le_refl _) _).alloc (by simp) _
theorem lt_of_block {w : World} {r : Nat} {o : Obj} (h : w.heap[r]? = some o) : r < w.heap.size := by
  rcases Nat.lt_or_ge r w.heap.size with h' | h'
  · exact h'
  · rw [Array.getElem?_eq_none h'] at h; cases h
theorem iterSeen_of {w : World} {r m a c : Nat} {seen : Array Nat} (h : w.heap[r]? = some (.mapIter (some m) a seen c)) : w.iterSeen r = seen := by
  unfold World.iterSeen; rw [h]
theorem setBlock_same {w : World} {r : Nat} (h : r < w.heap.size) (o : Obj) : (setBlock w r o).heap[r]? = some o := by
  simp [setBlock, h]
theorem below_setBlock {B : Nat} {w0 w : World} {r : Nat} (hb : Below B w0 w) (h : B ≤ r) (o : Obj) : Below B w0 (setBlock w r o) :=
  ⟨hb.os, hb.tape, hb.output, by simpa [setBlock] using hb.size, fun k hk => by
    rw [← hb.block k hk]; simp [setBlock, Array.getElem?_setIfInBounds]; intro e; omega⟩

section
variable (s : ByteArray) (neg : Bool) (d : ByteArray) (ex : Int) (b : Bool) (so : Option Addr) (sn sc : Nat) (m : Nat) (lo : Option Addr) (ln lc : Nat) (w : World)
set_option maxRecDepth 100000 in
set_option maxHeartbeats 2000000 in
theorem equal_map (es : Array MapEntry) (clock : Nat) (hm : MapOk w m es clock) :
    Calls Try.prog 53 #[.agg (attrC 8 s neg d ex b so sn sc (some m) lo ln lc).toArray, .agg (attrC 8 s neg d ex b so sn sc (some m) lo ln lc).toArray] w fun e w' => e = .returned (.bool true) ∧ Below w.heap.size w w' := by
  have HM : Hid (MapOk w m es clock) := hm
  clear hm
  have bP0 := Pair.new w (attrC 8 s neg d ex b so sn sc (some m) lo ln lc).toArray (attrC 8 s neg d ex b so sn sc (some m) lo ln lc).toArray 47
  obtain ⟨W, HW⟩ : ∃ W, Hid (W = (w.alloc (.cells (attrC 8 s neg d ex b so sn sc (some m) lo ln lc).toArray 47)).alloc (.cells (attrC 8 s neg d ex b so sn sc (some m) lo ln lc).toArray 47)) := ⟨_, rfl⟩
  rw [← HW.out] at bP0
  have mW := (HM.out.keep bP0.below).heap
  have hrg := run_range_map (P := Try.prog) W 42 9 47 m es clock Try.underlying42 mW
  have hln : ∀ ty, (Builtin.len_ #[42] ty #[.map (some m)]).run Try.prog W = .ok (.int .i64 es.size) W := fun ty => run_len_map W 42 ty m es clock (by kernel_rfl) mW
  have sW : W.heap.size = w.heap.size + 1 + 1 := by rw [HW.out]; simp
  have sI : (W.alloc (.mapIter (some m) clock #[] clock)).heap[w.heap.size + 1 + 1]? = some (.mapIter (some m) clock #[] clock) := by rw [← sW]; exact heap_alloc_new W _
  rw [sW] at hrg
  clear mW
  rw [HW.out] at hrg hln
  unfold attrC at *
  have HP : Hid _ := bP0
  have HsI : Hid _ := sI
  have HsW : Hid (W.heap.size = w.heap.size + 1 + 1) := sW
  clear bP0 sI sW
  go_enter Try.func53, Try.ntmps53
  go_wp2_with fail
  rw [← HW.out]
  clear hrg hln HW
  go_loopw [4] (fun r wr => ∃ seen, wr.heap[w.heap.size + 1 + 1]? = some (.mapIter (some m) clock seen clock) ∧ Below W.heap.size W wr) (fun _ wr => (leftOf es (wr.iterSeen (w.heap.size + 1 + 1))).size)
  case atStart => exact ⟨#[], HsI.out, (Below.refl _ _).alloc (Nat.le_refl _) _⟩
  case round =>
    obtain ⟨seen, hit, hb⟩ := hrel
    have bP := HP.out.keep hb
    have mK := HM.out.keep bP.below
    have hlt : w.heap.size + 1 + 1 < wr.heap.size := by
      rcases Nat.lt_or_ge (w.heap.size + 1 + 1) wr.heap.size with h' | h'
      · exact h'
      · rw [Array.getElem?_eq_none h'] at hit; cases hit
    rcases run_next_at (P := Try.prog) wr 0 (w.heap.size + 1 + 1) m clock clock seen es clock hit mK.heap mK.stamps (Nat.le_refl _) with ⟨h0, hrun⟩ | ⟨x, hx, w1, hw1, hrun⟩
    · have hnx : ∀ ty, (Instr.next (.pointer (some ⟨w.heap.size + 1 + 1, 0, none⟩)) false ty).run Try.prog wr = _ := fun _ => hrun
      have bel := bP.below
      clear bP mK hrun hit hb
      go_wp2_with fail
      go_ret
      exact ⟨rfl, bel⟩
    · have hnx : ∀ ty, (Instr.next (.pointer (some ⟨w.heap.size + 1 + 1, 0, none⟩)) false ty).run Try.prog wr = _ := fun _ => hrun
      have hb1 : Below W.heap.size W w1 := by rcases hw1 with rfl | rfl; exact hb; exact hb.drew
      have hlt1 : w.heap.size + 1 + 1 < w1.heap.size := by rcases hw1 with rfl | rfl; exact hlt; exact hlt
      obtain ⟨w2, Hw2⟩ : ∃ w2, Hid (w2 = setBlock w1 (w.heap.size + 1 + 1) (.mapIter (some m) clock (seen.push x.born) clock)) := ⟨_, rfl⟩
      have it2 : w2.heap[w.heap.size + 1 + 1]? = some (.mapIter (some m) clock (seen.push x.born) clock) := by rw [Hw2.out]; exact setBlock_same hlt1 _
      have hb2 : Below W.heap.size W w2 := by rw [Hw2.out]; exact below_setBlock hb1 (by rw [HsW.out]; exact Nat.le_refl _) _
      rw [← Hw2.out] at hnx
      clear hrun Hw2
      have bP2 := HP.out.keep hb2
      have mK2 := HM.out.keep bP2.below
      have hxe := (mem_left hx).1
      obtain ⟨ks, y0, y1, y2, y3, y4, y5, z0, z1, z2, z3, z4, z5, z6, e1, e2, q⟩ := mK2.vals x hxe
      have hen := run_entry_at (P := Try.prog) w2 (w.heap.size + 1 + 1) m clock seen es clock x it2 mK2.heap hxe mK2.borns
      rw [e1, e2] at hnx hen
      have b3 : Below w2.heap.size w2 (w2.alloc (.cells #[.int .i64 y0, .string y1, .bool y2, .string y3, .int .i64 y4, .bool y5, .slice z0 z1 z2, .map z3, .slice z4 z5 z6] 47)) := (Below.refl _ _).alloc (Nat.le_refl _) _
      have c7 := (bP2.keep b3).snd.cell (j := 7) rfl
      have hlk := (mK2.keep b3).look x hxe ks e1
      rw [e2] at hlk q
      have HQ : Hid (EqSelf w2 (.agg #[.int .i64 y0, .string y1, .bool y2, .string y3, .int .i64 y4, .bool y5, .slice z0 z1 z2, .map z3, .slice z4 z5 z6])) := q
      have HB2 : Hid _ := hb2
      have HI2 : Hid _ := it2
      have HX : Hid _ := hx
      have HI : Hid _ := hit
      clear b3 mK2 bP2 q hb2 it2 hx hxe bP mK hb hb1 hw1 hit hlt hlt1 e1 e2
      go_wp2_with (first | (go_at_call 53; refine (HQ.out _ (two_allocs w2 _ _)).mono ?_; rintro e w5 ⟨rfl, hb5⟩))
      have bel5 : Below w2.heap.size w2 w5 := below_here (two_allocs w2 _ _) (Nat.le_refl _) hb5
      have it5 : w5.heap[w.heap.size + 1 + 1]? = some (.mapIter (some m) clock (seen.push x.born) clock) := (bel5.block _ (lt_of_block HI2.out)).trans HI2.out
      refine ⟨⟨_, it5, below_here HB2.out (Nat.le_refl _) bel5⟩, ?_⟩
      rw [iterSeen_of it5, iterSeen_of HI.out]
      exact left_shrinks es seen x HX.out

set_option maxRecDepth 100000 in
set_option maxHeartbeats 2000000 in
theorem equal_nilMap :
    Calls Try.prog 53 #[.agg (attrC 8 s neg d ex b so sn sc none lo ln lc).toArray, .agg (attrC 8 s neg d ex b so sn sc none lo ln lc).toArray] w fun e w' => e = .returned (.bool true) ∧ Below w.heap.size w w' := by
  have bP0 := Pair.new w (attrC 8 s neg d ex b so sn sc none lo ln lc).toArray (attrC 8 s neg d ex b so sn sc none lo ln lc).toArray 47
  obtain ⟨W, HW⟩ : ∃ W, Hid (W = (w.alloc (.cells (attrC 8 s neg d ex b so sn sc none lo ln lc).toArray 47)).alloc (.cells (attrC 8 s neg d ex b so sn sc none lo ln lc).toArray 47)) := ⟨_, rfl⟩
  rw [← HW.out] at bP0
  have hrg := run_range_nilMap (P := Try.prog) W 42 9 47 Try.underlying42
  have hnx : ∀ ty, (Instr.next (.pointer (some ⟨W.heap.size, 0, none⟩)) false ty).run Try.prog (W.alloc (.mapIter none 0 #[] 0)) = _ := fun ty => run_next_nilMap (P := Try.prog) W ty 0 0 #[]
  have hln : ∀ ty, (Builtin.len_ #[42] ty #[.map none]).run Try.prog W = .ok (.int .i64 0) W := fun ty => run_len_nilMap W 42 ty (by kernel_rfl)
  have sW : W.heap.size = w.heap.size + 1 + 1 := by rw [HW.out]; simp
  rw [sW] at hrg hnx
  rw [HW.out] at hrg hln hnx
  unfold attrC at *
  have HP : Hid _ := bP0
  have HsW : Hid (W.heap.size = w.heap.size + 1 + 1) := sW
  clear bP0 sW
  go_enter Try.func53, Try.ntmps53
  go_wp2_with fail
  rw [← HW.out] at hnx ⊢
  clear hrg hln HW
  go_loopw [4] (fun r wr => wr = W.alloc (.mapIter none 0 #[] 0)) (fun _ wr => 0)
  case atStart => rfl
  case round =>
    subst hrel
    go_wp2_with fail
    go_ret
    exact ⟨rfl, HP.out.below.alloc HP.out.below.size _⟩
end

/-- A LEAF IS EQUAL TO ITSELF, whatever its type's number. -/
theorem leaf_self (typ : Int) (s : ByteArray) (neg : Bool) (d : ByteArray) (ex : Int) (b : Bool) (so : Option Addr) (sn sc : Nat) (xs : List ByteArray) (w : World) (t0 : -9223372036854775808 ≤ typ) (t1 : typ ≤ 9223372036854775807)
    (h0 : -9223372036854775808 ≤ ex) (h1 : ex ≤ 9223372036854775807) (hv : View Value.string w so sn sc xs) (hn : sn ≤ 64) :
    EqSelf w (.agg (attrC typ s neg d ex b so sn sc none none 0 0).toArray) := by
  intro w' hb
  have hv' := hv.keep hb
  by_cases n1 : typ = 1
  · subst n1; exact equal_num _ _ _ _ _ _ _ _ _ _ _ _ _ h0 h1
  by_cases n3 : typ = 3
  · subst n3; exact equal_bool _ _ _ _ _ _ _ _ _ _ _ _ _
  by_cases n4 : typ = 4
  · subst n4; exact equal_null _ _ _ _ _ _ _ _ _ _ _ _ _
  by_cases n5 : typ = 5
  · exact equal_set _ _ _ _ _ _ _ _ _ _ _ _ _ xs _ (.inl n5) hv' hn
  by_cases n6 : typ = 6
  · exact equal_set _ _ _ _ _ _ _ _ _ _ _ _ _ xs _ (.inr (.inl n6)) hv' hn
  by_cases n7 : typ = 7
  · exact equal_set _ _ _ _ _ _ _ _ _ _ _ _ _ xs _ (.inr (.inr n7)) hv' hn
  by_cases n8 : typ = 8
  · subst n8; exact equal_nilMap _ _ _ _ _ _ _ _ _ _ _ _
  by_cases n9 : typ = 9
  · subst n9; exact equal_list _ _ _ _ _ _ _ _ _ _ _ _ _ (by omega) (fun k hk => absurd hk (by omega))
  exact equal_str _ _ _ _ _ _ _ _ _ _ _ _ _ _ t0 t1 n1 n3 n4 n5 n6 n7 n8 n9
end Go.Proofs.Qxb6001697a
