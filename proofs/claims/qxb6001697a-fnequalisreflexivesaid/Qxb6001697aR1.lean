/-
  THE ARGUMENTS OF FnEqualIsReflexive OPENED: a leaf by value, a slice of leaves, a slice of strings.
-/
import Derived.Test.Qxb6001697aH1
import Derived.ProofKit
import Derived.SliceStrings
import Derived.Deep.Slices
import Derived.Deep.Fields
namespace Go.Proofs.Qxb6001697a
open Go.ChangeShapes Go.WideShapes Go.ChangeAt Go.RowKit
set_option linter.unusedVariables false

theorem Try.cells59 : Try.prog.cellsOf 59 = 7 := by kernel_rfl
theorem Try.cells3 : Try.prog.cellsOf 3 = 1 := by kernel_rfl
theorem Try.cells9 : Try.prog.cellsOf 9 = 1 := by kernel_rfl
theorem Try.cells4 : Try.prog.cellsOf 4 = 1 := by kernel_rfl
theorem Try.cells37 : Try.prog.cellsOf 37 = 1 := by kernel_rfl

theorem seven {cs : List Value} (h : cs.length = 7) : ∃ a b c d e f g, cs = [a, b, c, d, e, f, g] := by
  match cs, h with
  | [a, b, c, d, e, f, g], _ => exact ⟨a, b, c, d, e, f, g, rfl⟩

section
variable {H : Type} {enc : TypeId × Value → H} {W : World} {base : Nat}
/-- A slice of strings. -/
theorem view_strings {a : Option Addr} {n c fuel : Nat} {x : DataW H × List MemPlace} (hf : DataW.trod enc Try.prog W base (fun _ => true) true fuel 37 [.slice a n c] = some x) :
    ∃ ss, View Value.string W a n c ss ∧ n ≤ maxLen ∧ ∀ s ∈ ss, s.size ≤ maxLen := by
  rcases open_strings Try.underlying37 Try.underlying9 Try.cells9 hf with ⟨hcs, _⟩ | ⟨x, l, k, zs, hcs, _, hl, hm, hz, _, hcell, hwz⟩
  · simp at hcs
    obtain ⟨rfl, rfl, rfl⟩ := hcs
    exact ⟨[], ⟨rfl, fun _ => ⟨rfl, rfl⟩, Nat.le_refl _, fun _ h => by cases h⟩, Nat.zero_le _, fun s hs => by cases hs⟩
  · simp at hcs
    obtain ⟨rfl, rfl, rfl⟩ := hcs
    have hz' : zs.length = c := by simpa using hz
    refine ⟨zs.take n, ⟨by simp; omega, (fun h => by cases h), hl, fun a ha => ?_⟩, Nat.le_trans hl hm, fun s hs => ?_⟩
    · cases ha
      intro j hj
      have hj' : j < zs.length := by simp at hj; omega
      rw [hcell j hj']
      simp [List.getD, hj']
    · exact hwz s (List.mem_of_mem_take hs)
theorem strings_form {fuel : Nat} {v : Value} {x : DataW H × List MemPlace} (hf : DataW.trod enc Try.prog W base (fun _ => true) true fuel 37 [v] = some x) : ∃ a n c, v = .slice a n c := by
  rcases open_strings Try.underlying37 Try.underlying9 Try.cells9 hf with ⟨hcs, _⟩ | ⟨x, l, k, zs, hcs, _⟩
  · simp at hcs; exact ⟨_, _, _, hcs⟩
  · simp at hcs; exact ⟨_, _, _, hcs⟩

set_option maxRecDepth 100000 in
/-- A leaf's seven cells. -/
theorem leaf_of {fuel : Nat} {cs : List Value} {x : DataW H × List MemPlace} (h : DataW.trod enc Try.prog W base (fun _ => true) true fuel 59 cs = some x) :
    ∃ l : Lf, cs = [.int .i64 l.typ, .string l.s, .bool l.neg, .string l.d, .int .i64 l.ex, .bool l.b, .slice l.so l.sn l.sc] ∧ l.Ok W := by
  obtain ⟨xs, n, -, -, hl, hlen, hf⟩ := DataW.trod_struct Try.underlying59 h
  rw [Try.cells59] at hl
  obtain ⟨c0, c1, c2, c3, c4, c5, c6, rfl⟩ := seven hl
  have hlen7 : xs.length = 7 := hlen
  have g : ∀ i (hi : i < xs.length), xs[i]? = some xs[i] := fun i hi => List.getElem?_eq_getElem hi
  have t0 : DataW.trod enc Try.prog W base (fun _ => true) true n 3 [c0] = some (xs[0]'(by omega)) := by
    have h0 : DataW.trod enc Try.prog W base (fun _ => true) true n 3 ((List.drop 0 [c0, c1, c2, c3, c4, c5, c6]).take (Try.prog.cellsOf 3)) = some (xs[0]'(by omega)) := (hf 0 _ rfl).trans (g 0 (by omega))
    rw [Try.cells3] at h0
    exact h0
  have t1 : DataW.trod enc Try.prog W base (fun _ => true) true n 9 [c1] = some (xs[1]'(by omega)) := by
    have h0 : DataW.trod enc Try.prog W base (fun _ => true) true n 9 ((List.drop 1 [c0, c1, c2, c3, c4, c5, c6]).take (Try.prog.cellsOf 9)) = some (xs[1]'(by omega)) := (hf 1 _ rfl).trans (g 1 (by omega))
    rw [Try.cells9] at h0
    exact h0
  have t2 : DataW.trod enc Try.prog W base (fun _ => true) true n 4 [c2] = some (xs[2]'(by omega)) := by
    have h0 : DataW.trod enc Try.prog W base (fun _ => true) true n 4 ((List.drop 2 [c0, c1, c2, c3, c4, c5, c6]).take (Try.prog.cellsOf 4)) = some (xs[2]'(by omega)) := (hf 2 _ rfl).trans (g 2 (by omega))
    rw [Try.cells4] at h0
    exact h0
  have t3 : DataW.trod enc Try.prog W base (fun _ => true) true n 9 [c3] = some (xs[3]'(by omega)) := by
    have h0 : DataW.trod enc Try.prog W base (fun _ => true) true n 9 ((List.drop 3 [c0, c1, c2, c3, c4, c5, c6]).take (Try.prog.cellsOf 9)) = some (xs[3]'(by omega)) := (hf 3 _ rfl).trans (g 3 (by omega))
    rw [Try.cells9] at h0
    exact h0
  have t4 : DataW.trod enc Try.prog W base (fun _ => true) true n 3 [c4] = some (xs[4]'(by omega)) := by
    have h0 : DataW.trod enc Try.prog W base (fun _ => true) true n 3 ((List.drop 4 [c0, c1, c2, c3, c4, c5, c6]).take (Try.prog.cellsOf 3)) = some (xs[4]'(by omega)) := (hf 4 _ rfl).trans (g 4 (by omega))
    rw [Try.cells3] at h0
    exact h0
  have t5 : DataW.trod enc Try.prog W base (fun _ => true) true n 4 [c5] = some (xs[5]'(by omega)) := by
    have h0 : DataW.trod enc Try.prog W base (fun _ => true) true n 4 ((List.drop 5 [c0, c1, c2, c3, c4, c5, c6]).take (Try.prog.cellsOf 4)) = some (xs[5]'(by omega)) := (hf 5 _ rfl).trans (g 5 (by omega))
    rw [Try.cells4] at h0
    exact h0
  have t6 : DataW.trod enc Try.prog W base (fun _ => true) true n 37 [c6] = some (xs[6]'(by omega)) := by
    have h0 : DataW.trod enc Try.prog W base (fun _ => true) true n 37 ((List.drop 6 [c0, c1, c2, c3, c4, c5, c6]).take (Try.prog.cellsOf 37)) = some (xs[6]'(by omega)) := (hf 6 _ rfl).trans (g 6 (by omega))
    rw [Try.cells37] at h0
    exact h0
  obtain ⟨r0, e0, _, w0⟩ := DataW.trod_int Try.underlying3 t0
  obtain ⟨r1, e1, _, w1⟩ := DataW.trod_string Try.underlying9 t1
  obtain ⟨r2, e2, _⟩ := DataW.trod_bool Try.underlying4 t2
  obtain ⟨r3, e3, _, w3⟩ := DataW.trod_string Try.underlying9 t3
  obtain ⟨r4, e4, _, w4⟩ := DataW.trod_int Try.underlying3 t4
  obtain ⟨r5, e5, _⟩ := DataW.trod_bool Try.underlying4 t5
  obtain ⟨so, sn, sc, e6⟩ := strings_form t6
  simp only [List.cons.injEq, and_true] at e0 e1 e2 e3 e4 e5
  subst e0 e1 e2 e3 e4 e5 e6
  obtain ⟨ss, hv, hm, hs⟩ := view_strings t6
  simp [Lit.wf] at w0 w4
  have hmin : IntKind.i64.min = -9223372036854775808 := rfl
  refine ⟨⟨r0, r1, r2, r3, r4, r5, so, sn, sc, ss⟩, rfl, ⟨?_, ?_, ?_, ?_, w1, w3, hm, hv, hs⟩⟩
  · exact hmin ▸ w0.1
  · exact w0.2
  · exact hmin ▸ w4.1
  · exact w4.2
/-- A slice of leaves. -/
theorem view_leaves {a : Option Addr} {n c fuel : Nat} {x : DataW H × List MemPlace} (hf : DataW.trod enc Try.prog W base (fun _ => true) true fuel 60 [.slice a n c] = some x) :
    (a = none → n = 0 ∧ c = 0) ∧ InLeaves W a n maxLen ∧ n ≤ maxLen := by
  rcases Deep.open_slice Try.underlying60 hf with ⟨hcs, _⟩ | ⟨ad, len, cap, m, n', D, Pl, hcs, _, hl, hm, hmc, _, hel⟩
  · simp at hcs
    obtain ⟨rfl, rfl, rfl⟩ := hcs
    exact ⟨fun _ => ⟨rfl, rfl⟩, fun k hk => absurd hk (by omega), Nat.zero_le _⟩
  · simp at hcs
    obtain ⟨rfl, rfl, rfl⟩ := hcs
    have hmc' : m = c := by simpa using hmc
    refine ⟨(fun h => by cases h), fun k hk => ?_, Nat.le_trans hl hm⟩
    obtain ⟨cs', hc, ht⟩ := hel k (by omega)
    rw [Try.cells59] at hc
    obtain ⟨_, _, hcell⟩ := World.cells?_some hc
    obtain ⟨l, rfl, hok⟩ := leaf_of ht
    obtain ⟨b, off, spot⟩ := ad
    have hspot : spot = none := by
      obtain ⟨cs0, hc0, ht0⟩ := hel 0 (by omega)
      rw [Try.cells59] at hc0
      obtain ⟨_, _, hcell0⟩ := World.cells?_some hc0
      obtain ⟨l0, rfl, _⟩ := leaf_of ht0
      have h1 := World.cell?_spot ((hcell0 0 (by omega)).trans rfl)
      simpa [Addr.add] using h1
    subst hspot
    have hc' : ∀ i, i < 7 → W.cell? ⟨b, off + k * 7 + i, none⟩ = [Value.int .i64 l.typ, .string l.s, .bool l.neg, .string l.d, .int .i64 l.ex, .bool l.b, .slice l.so l.sn l.sc][i]? := fun i hi => by
      have h1 := hcell i hi
      rw [Addr.add_lit, Addr.add_lit] at h1
      exact h1
    exact ⟨b, off, l, rfl, ⟨hc' 0 (by omega), hc' 1 (by omega), hc' 2 (by omega), hc' 3 (by omega), hc' 4 (by omega), hc' 5 (by omega), hc' 6 (by omega)⟩, hok, hok.n1⟩
/-- A leaf by value. -/
theorem open_leaf {r : Reach} {b0 : Nat} {v : Value} {d : DataW H} {p : List MemPlace} (hv : Value.okWide Try.prog W r b0 59 v) (h : DataW.Trod enc Try.prog W base (fun _ => true) true 59 v d p) : ∃ l : Lf, v = l.val ∧ l.Ok W := by
  obtain ⟨cs, rfl, hs⟩ := okWide_struct Try.underlying59 hv
  obtain ⟨fuel, hf⟩ := h
  obtain ⟨l, e, ok⟩ := leaf_of (by simpa [Value.cells] using hf)
  refine ⟨l, ?_, ok⟩
  obtain ⟨L⟩ := cs
  simp at e
  subst e
  rfl
end
end Go.Proofs.Qxb6001697a
