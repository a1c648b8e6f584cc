/-
  THE WALKS OF FnEqualIsReflexive's CALLEES (10): zzMapValue.
-/
import Derived.Test.Qxb6001697aF5
import Derived.Carry
namespace Go.Proofs.Qxb6001697a
open Go.RowKit
open Go.ChangeMaps (setBlock)
set_option linter.unusedVariables false

/-- 'm[k] = v', m a map of strings of the call's own. -/
theorem run_put {w : World} {r : Nat} {es : Array MapEntry} {clock : Nat} (hb : w.heap[r]? = some (.map es clock)) (hs : MapKept.Stamped es clock) (hks : ∀ x ∈ es.toList, MapKept.IsKey .string x.key) (k : ByteArray) (v : Value) :
    ∃ es' clock', (Instr.mapUpdate 42 (.map (some r)) (.string k) v).run Try.prog w = .ok () (setBlock w r (.map es' clock')) ∧ MapKept.Stamped es' clock' ∧ ∀ x ∈ es'.toList, x ∈ es.toList ∨ (x.key = .string k ∧ x.val = v) := by
  have hk : MapKept.IsKey .string (.string k) := trivial
  have hm := Try.underlying42
  have hd := Try.underlying9
  rcases MapKept.findNow_spec hk es.toList 0 hks with ⟨h1, h2⟩ | ⟨j, e, h1, h2, h3⟩
  · refine ⟨_, _, ?_, MapKept.stamped_push hs (key := .string k) (val := v) h2, ?_⟩
    · simp [Instr.mapUpdate, run_underlying hm, MapKept.run_getObj_map hb, MapKept.run_checkKey hd hk, MapKept.run_findKey hd h1, MapKept.run_setObj_map _ hb, Result.andThen, setBlock]
    · intro x hx
      simp only [Array.toList_push, List.mem_append, List.mem_singleton] at hx
      rcases hx with hx | rfl
      · exact .inl hx
      · exact .inr ⟨rfl, rfl⟩
  · have hj : es[j]? = some e := by simpa using h2
    have hkey : ∀ e', es[j]? = some e' → ({ e' with key := .string k, val := v } : MapEntry).key = e'.key := fun e' he' => by rw [hj] at he'; cases he'; exact h3.symm
    refine ⟨es.modify j fun e => { e with key := .string k, val := v }, clock, ?_, MapKept.stamped_modify hs _ _ (fun _ _ => rfl) (fun e' _ he' => hkey e' he'), ?_⟩
    · simp [Instr.mapUpdate, run_underlying hm, MapKept.run_getObj_map hb, MapKept.run_checkKey hd hk, MapKept.run_findKey hd h1, hj, h3, MapKept.run_keyThatStays hk, MapKept.run_setObj_map _ hb, Result.andThen, setBlock]
    · intro x hx
      obtain ⟨i, hi⟩ := List.mem_iff_getElem?.1 hx
      rw [Array.getElem?_toList, Array.getElem?_modify] at hi
      by_cases e1 : j = i
      · subst e1
        rw [hj] at hi
        simp at hi
        subst hi
        exact .inr ⟨rfl, rfl⟩
      · rw [if_neg e1] at hi
        exact .inl (List.mem_iff_getElem?.2 ⟨i, by rw [Array.getElem?_toList]; exact hi⟩)

theorem grown_setBlock (w : World) (r : Nat) (o : Obj) : w.grownBy (setBlock w r o) (some r) :=
  ⟨rfl, rfl, rfl, by simp [setBlock], fun k hk hne => by simp [setBlock, Array.getElem?_setIfInBounds]; intro e; exact absurd (by rw [e]) hne⟩

/-- The map under way. -/
structure MS (w wr : World) : Prop where
  map : ∃ es clock, wr.heap[w.heap.size + 1]? = some (.map es clock) ∧ MapKept.Stamped es clock ∧ ∀ x ∈ es.toList, ∃ k, ∃ l : Lf, x.key = .string k ∧ x.val = .agg l.attr.toArray ∧ l.Ok wr ∧ l.sn ≤ 64 ∧ ∀ a, l.so = some a → w.heap.size + 1 < a.block
  res : Blk wr w.heap.size 47 [.int .i64 0, .string ⟨#[]⟩, .bool false, .string ⟨#[]⟩, .int .i64 0, .bool false, .slice none 0 0, .map none, .slice none 0 0]
  below : Below w.heap.size w wr
theorem MS.start (w : World) : MS w ((w.alloc (.cells #[.int .i64 0, .string ⟨#[]⟩, .bool false, .string ⟨#[]⟩, .int .i64 0, .bool false, .slice none 0 0, .map none, .slice none 0 0] 47)).alloc (.map #[] 0)) := by
  refine ⟨⟨#[], 0, ?_, MapKept.stamped_empty 0, fun x hx => by simp at hx⟩, (Blk.newA w 47 _).alloc _, two_allocs w _ _⟩
  have h := heap_alloc_new (w.alloc (.cells #[.int .i64 0, .string ⟨#[]⟩, .bool false, .string ⟨#[]⟩, .int .i64 0, .bool false, .slice none 0 0, .map none, .slice none 0 0] 47)) (.map #[] 0)
  rw [show (w.alloc (.cells #[.int .i64 0, .string ⟨#[]⟩, .bool false, .string ⟨#[]⟩, .int .i64 0, .bool false, .slice none 0 0, .map none, .slice none 0 0] 47)).heap.size = w.heap.size + 1 by simp] at h
  exact h
theorem MS.lt {w wr : World} (h : MS w wr) : w.heap.size + 1 < wr.heap.size := by
  obtain ⟨es, clock, h1, _⟩ := h.map
  exact lt_of_block h1
theorem MS.keep {w wr w2 : World} (h : MS w wr) (hb : Below wr.heap.size wr w2) : MS w w2 := by
  have hlt := h.lt
  obtain ⟨⟨es, clock, h1, h2, h3⟩, hres, hbel⟩ := h
  refine ⟨⟨es, clock, (hb.block _ hlt).trans h1, h2, fun x hx => ?_⟩, hres.keep hb hres.lt, below_here hbel (Nat.le_refl _) hb⟩
  obtain ⟨k, l, e1, e2, q1, q2, q3⟩ := h3 x hx
  exact ⟨k, l, e1, e2, q1.keep hb, q2, q3⟩
/-- One entry laid. -/
theorem MS.put {w wr : World} (h : MS w wr) (k : ByteArray) (l : Lf) (ok : l.Ok wr) (hn : l.sn ≤ 64) (hne : ∀ a, l.so = some a → w.heap.size + 1 < a.block) :
    ∃ w3, (Instr.mapUpdate 42 (.map (some (w.heap.size + 1))) (.string k) (.agg l.attr.toArray)).run Try.prog wr = .ok () w3 ∧ MS w w3 ∧ wr.grownBy w3 (some (w.heap.size + 1)) := by
  have hlt := h.lt
  obtain ⟨⟨es, clock, h1, h2, h3⟩, hres, hbel⟩ := h
  obtain ⟨es', clock', hrun, hst, hmem⟩ := run_put h1 h2 (fun x hx => by obtain ⟨k, l, e1, _⟩ := h3 x hx; rw [e1]; trivial) k (.agg l.attr.toArray)
  have hg := grown_setBlock wr (w.heap.size + 1) (.map es' clock')
  refine ⟨_, hrun, ⟨⟨es', clock', setBlock_same hlt _, hst, fun x hx => ?_⟩, hres.grown hg (by intro e; simp at e), below_setBlock hbel (by omega) _⟩, hg⟩
  rcases hmem x hx with hx | ⟨e1, e2⟩
  · obtain ⟨k, l, e1, e2, q1, q2, q3⟩ := h3 x hx
    exact ⟨k, l, e1, e2, q1.grown hg (fun a ha => by have := q3 a ha; omega), q2, q3⟩
  · exact ⟨k, l, e1, e2, ok.grown hg (fun a ha => by have := hne a ha; omega), hn, hne⟩
theorem MS.fin {w wr w2 w5 : World} (h : MS w wr) (hb : Below wr.heap.size wr w2) (hg : w2.grownBy w5 (some w.heap.size)) : ∃ es clock, MapOk w5 (w.heap.size + 1) es clock := by
  obtain ⟨⟨es, clock, h1, h2, h3⟩, hres, hbel⟩ := h.keep hb
  have hlt := lt_of_block h1
  refine ⟨es, clock, (hg.block _ hlt (by intro e; simp at e)).trans h1, h2.1, h2.2.1, h2.2.2, fun x hx => ?_⟩
  obtain ⟨k, l, e1, e2, q1, q2, q3⟩ := h3 x hx
  refine ⟨k, l.typ, l.s, l.neg, l.d, l.ex, l.b, l.so, l.sn, l.sc, none, none, 0, 0, e1, e2, ?_⟩
  rw [e2]
  exact (q1.grown hg (fun a ha => by have := q3 a ha; omega)).self q2

set_option maxRecDepth 100000 in
set_option maxHeartbeats 4000000 in
theorem mapValue_any (ko ao : Option Addr) (kn kc n c : Nat) (ks : List ByteArray) (w : World) (hkn : kn ≤ 256) (hn : n ≤ 64) (hv : View Value.string w ko kn kc ks) (ho : OwnLeaves w ao n) :
    Calls Try.prog 40 #[.slice ko kn kc, .slice ao n c] w fun e w' => ∃ m es clock, e = .returned (.agg (attrC 8 ⟨#[]⟩ false ⟨#[]⟩ 0 false none 0 0 (some m) none 0 0).toArray) ∧ MapOk w' m es clock ∧ Below w.heap.size w w' := by
  have hmm := @run_makeMap Try.prog
  have HV := hid hv
  have HO := hid ho
  have HST := hid (MS.start w)
  clear ho hv
  go_enter Try.func40, Try.ntmps40
  go_wp2_with fail
  clear hmm
  go_loopw [6] (fun i wr => ∃ k : Nat, k ≤ kn ∧ i = .int .i64 k ∧ MS w wr) (fun i _ => kn - (intOf i).toNat)
  case atStart => exact ⟨0, Nat.zero_le _, rfl, HST.out⟩
  case round =>
    obtain ⟨k, hk, rfl, hMS⟩ := hrel
    have HM := hid hMS
    clear hMS
    by_cases hlt : k < kn ∧ k < n
    · obtain ⟨hl1, hl2⟩ := hlt
      obtain ⟨g, l, e, hL0, hO0, h64⟩ := HO.out k hl2
      subst e
      obtain ⟨kb, koff, hx, rfl, hc0⟩ := HV.out.at hl1
      have lg : g < w.heap.size := hL0.lt
      have lk : kb < w.heap.size := World.block_lt_of_cell? _ _ hc0
      have hL := hL0.keep HM.out.below
      have hO := hO0.keep HM.out.below
      obtain ⟨ky, Hky⟩ : ∃ y, Hid (y = ks[k]) := ⟨ks[k], rfl⟩
      rw [← Hky.out] at hc0
      have hc : wr.cell? ⟨kb, koff + k, none⟩ = some (.string ky) := (HM.out.below.cell (p := ⟨kb, koff + k, none⟩) lk).trans hc0
      have hkI1 : (k : Int) < (kn : Int) := by omega
      have hkI2 : (k : Int) < (n : Int) := by omega
      have c0 := hL.c0
      have c1 := hL.c1
      have c2 := hL.c2
      have c3 := hL.c3
      have c4 := hL.c4
      have c5 := hL.c5
      have c6 := hL.c6
      have HK := hid hO
      have HLg := hid (show g < w.heap.size ∧ kb < w.heap.size from ⟨lg, lk⟩)
      have HLL := hid hL
      have HC := hid hc
      clear hL hO hL0 hO0 hc0 lg lk
      go_wp2_with fail
      go_region_held3 (fun w' => w'.cell? ⟨kb, koff + k, none⟩ = some (.string ky) ∧ w'.cell? ⟨g, k * 7, none⟩ = some (.int .i64 l.typ) ∧ w'.cell? ⟨g, k * 7 + 1, none⟩ = some (.string l.s) ∧ w'.cell? ⟨g, k * 7 + 2, none⟩ = some (.bool l.neg) ∧ w'.cell? ⟨g, k * 7 + 3, none⟩ = some (.string l.d) ∧ w'.cell? ⟨g, k * 7 + 4, none⟩ = some (.int .i64 l.ex) ∧ w'.cell? ⟨g, k * 7 + 5, none⟩ = some (.bool l.b) ∧ w'.cell? ⟨g, k * 7 + 6, none⟩ = some (.slice l.so l.sn l.sc)) (go_keep)
        (first | (go_at_call 38; refine (leafValue_any _ _ _ _ _ _ _ _ _ l.xs wr.drew (by omega) (HK.out.view.keep (Below.refl _ _).drew)).mono ?_; rintro e w2 ⟨so', sc', rfl, hv2, hnw, hb2⟩
                  have hb3 : Below wr.heap.size wr w2 := ⟨hb2.os, hb2.tape, hb2.output, hb2.size, hb2.block⟩
                  have hL2 := HLL.out.keep hb3
                  have hlw := HM.out.lt
                  have hM2 := HM.out.keep hb3
                  have hlk : kb < wr.heap.size := by have := HLg.out; omega
                  have hc2 := (hb3.cell (p := ⟨kb, koff + k, none⟩) hlk).trans hc
                  obtain ⟨w3, hput, hM3, hg3⟩ := hM2.put ky ⟨l.typ, l.s, l.neg, l.d, l.ex, l.b, so', l.sn, sc', l.xs⟩ ⟨HK.out.t0, HK.out.t1, HK.out.x0, HK.out.x1, HK.out.s1, HK.out.d1, HK.out.n1, hv2, HK.out.strs⟩ h64 (fun a ha => by have h1 := hnw a ha; have h2 : wr.drew.heap.size = wr.heap.size := rfl; omega)
                  have c0 := hL2.c0
                  have c1 := hL2.c1
                  have c2 := hL2.c2
                  have c3 := hL2.c3
                  have c4 := hL2.c4
                  have c5 := hL2.c5
                  have c6 := hL2.c6
                  have d0 := grown_cell hg3 hL2.c0 (by have := HLg.out; omega)
                  have d1 := grown_cell hg3 hL2.c1 (by have := HLg.out; omega)
                  have d2 := grown_cell hg3 hL2.c2 (by have := HLg.out; omega)
                  have d3 := grown_cell hg3 hL2.c3 (by have := HLg.out; omega)
                  have d4 := grown_cell hg3 hL2.c4 (by have := HLg.out; omega)
                  have d5 := grown_cell hg3 hL2.c5 (by have := HLg.out; omega)
                  have d6 := grown_cell hg3 hL2.c6 (by have := HLg.out; omega)
                  have d7 := grown_cell hg3 hc2 (by have := HLg.out; omega)
                  unfold Lf.attr attrC at hput
                  unfold attrC
                  dsimp only at hput
                  have HM3 := hid hM3
                  clear hb2 hb3 hL2 hM2 hM3 hg3 hv2 hnw hlw))
      go_wp2_with fail
      go_roundw
      case rel => exact ⟨k + 1, by omega, by go_num, HM3.out⟩
      case measure => simp [intOf]; omega
    · by_cases h1 : k < kn
      · have h2 : ¬ k < n := fun h => hlt ⟨h1, h⟩
        have hkI1 : (k : Int) < (kn : Int) := by omega
        clear hlt
        go_wp2_with fail
        refine (newMap_any _ _).mono ?_
        rintro e w2 ⟨rfl, hb2⟩
        unfold attrC
        have x1 := HM.out.res.keep hb2 HM.out.res.lt
        have bel2 := below_here HM.out.below (Nat.le_refl _) hb2
        have f1 := x1.free
        have c0 := x1.cell (j := 0) rfl
        have c1 := x1.cell (j := 1) rfl
        have c2 := x1.cell (j := 2) rfl
        have c3 := x1.cell (j := 3) rfl
        have c4 := x1.cell (j := 4) rfl
        have c5 := x1.cell (j := 5) rfl
        have c6 := x1.cell (j := 6) rfl
        have c7 := x1.cell (j := 7) rfl
        have c8 := x1.cell (j := 8) rfl
        have H1 := hid x1
        have HB2 := hid bel2
        have HBa := hid hb2
        clear x1 bel2 hb2
        go_wp2_with fail
        have hr := ((((((((H1.out.set 0 (.int .i64 8)).set 1 (.string ⟨#[]⟩)).set 2 (.bool false)).set 3 (.string ⟨#[]⟩)).set 4 (.int .i64 0)).set 5 (.bool false)).set 6 (.slice none 0 0)).set 7 (.map (some (w.heap.size + 1)))).set 8 (.slice none 0 0)
        refine bodyPost_ret (results_cell_row rfl _ _ w.heap.size 47 _ (0, 0) _ rfl hr Try.underlying47 rfl Try.size47) rfl ?_
        obtain ⟨es, clock, hmo⟩ := HM.out.fin HBa.out (grown_set (grown_set (grown_set (grown_set (grown_set (grown_set (grown_set (grown_set (grown_set (grown_refl w2 _) 0 (.int .i64 8)) 1 (.string ⟨#[]⟩)) 2 (.bool false)) 3 (.string ⟨#[]⟩)) 4 (.int .i64 0)) 5 (.bool false)) 6 (.slice none 0 0)) 7 (.map (some (w.heap.size + 1)))) 8 (.slice none 0 0))
        exact ⟨_, es, clock, rfl, hmo, ((((((((HB2.out.setCell (by simp) _).setCell (by simp) _).setCell (by simp) _).setCell (by simp) _).setCell (by simp) _).setCell (by simp) _).setCell (by simp) _).setCell (by simp) _).setCell (by simp) _⟩
      · clear hlt
        go_wp2_with fail
        refine (newMap_any _ _).mono ?_
        rintro e w2 ⟨rfl, hb2⟩
        unfold attrC
        have x1 := HM.out.res.keep hb2 HM.out.res.lt
        have bel2 := below_here HM.out.below (Nat.le_refl _) hb2
        have f1 := x1.free
        have c0 := x1.cell (j := 0) rfl
        have c1 := x1.cell (j := 1) rfl
        have c2 := x1.cell (j := 2) rfl
        have c3 := x1.cell (j := 3) rfl
        have c4 := x1.cell (j := 4) rfl
        have c5 := x1.cell (j := 5) rfl
        have c6 := x1.cell (j := 6) rfl
        have c7 := x1.cell (j := 7) rfl
        have c8 := x1.cell (j := 8) rfl
        have H1 := hid x1
        have HB2 := hid bel2
        have HBa := hid hb2
        clear x1 bel2 hb2
        go_wp2_with fail
        have hr := ((((((((H1.out.set 0 (.int .i64 8)).set 1 (.string ⟨#[]⟩)).set 2 (.bool false)).set 3 (.string ⟨#[]⟩)).set 4 (.int .i64 0)).set 5 (.bool false)).set 6 (.slice none 0 0)).set 7 (.map (some (w.heap.size + 1)))).set 8 (.slice none 0 0)
        refine bodyPost_ret (results_cell_row rfl _ _ w.heap.size 47 _ (0, 0) _ rfl hr Try.underlying47 rfl Try.size47) rfl ?_
        obtain ⟨es, clock, hmo⟩ := HM.out.fin HBa.out (grown_set (grown_set (grown_set (grown_set (grown_set (grown_set (grown_set (grown_set (grown_set (grown_refl w2 _) 0 (.int .i64 8)) 1 (.string ⟨#[]⟩)) 2 (.bool false)) 3 (.string ⟨#[]⟩)) 4 (.int .i64 0)) 5 (.bool false)) 6 (.slice none 0 0)) 7 (.map (some (w.heap.size + 1)))) 8 (.slice none 0 0))
        exact ⟨_, es, clock, rfl, hmo, ((((((((HB2.out.setCell (by simp) _).setCell (by simp) _).setCell (by simp) _).setCell (by simp) _).setCell (by simp) _).setCell (by simp) _).setCell (by simp) _).setCell (by simp) _).setCell (by simp) _⟩
end Go.Proofs.Qxb6001697a
