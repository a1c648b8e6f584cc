/-
  THE WALKS OF FnEqualIsReflexive's CALLEES (8): leaves in memory; zzCloneLeaves.
-/
import Derived.Test.Qxb6001697aF3
namespace Go.Proofs.Qxb6001697a
open Go.RowKit
set_option linter.unusedVariables false

/-- One leaf: its seven cells' contents, and its set's strings. -/
structure Lf where
  typ : Int
  s : ByteArray
  neg : Bool
  d : ByteArray
  ex : Int
  b : Bool
  so : Option Addr
  sn : Nat
  sc : Nat
  xs : List ByteArray
def Lf.val (l : Lf) : Value := .agg #[.int .i64 l.typ, .string l.s, .bool l.neg, .string l.d, .int .i64 l.ex, .bool l.b, .slice l.so l.sn l.sc]
/-- What holds of a leaf that came in. -/
structure Lf.Ok (w : World) (l : Lf) : Prop where
  t0 : -9223372036854775808 ≤ l.typ
  t1 : l.typ ≤ 9223372036854775807
  x0 : -9223372036854775808 ≤ l.ex
  x1 : l.ex ≤ 9223372036854775807
  s1 : l.s.size ≤ maxLen
  d1 : l.d.size ≤ maxLen
  n1 : l.sn ≤ maxLen
  view : View Value.string w l.so l.sn l.sc l.xs
  strs : ∀ x ∈ l.xs, x.size ≤ maxLen
theorem Lf.Ok.keep {w w' : World} {l : Lf} (h : l.Ok w) (hb : Below w.heap.size w w') : l.Ok w' := ⟨h.t0, h.t1, h.x0, h.x1, h.s1, h.d1, h.n1, h.view.keep hb, h.strs⟩
/-- Seven cells at a place. -/
structure Lf.Lies (w : World) (b o : Nat) (l : Lf) : Prop where
  c0 : w.cell? ⟨b, o, none⟩ = some (.int .i64 l.typ)
  c1 : w.cell? ⟨b, o + 1, none⟩ = some (.string l.s)
  c2 : w.cell? ⟨b, o + 2, none⟩ = some (.bool l.neg)
  c3 : w.cell? ⟨b, o + 3, none⟩ = some (.string l.d)
  c4 : w.cell? ⟨b, o + 4, none⟩ = some (.int .i64 l.ex)
  c5 : w.cell? ⟨b, o + 5, none⟩ = some (.bool l.b)
  c6 : w.cell? ⟨b, o + 6, none⟩ = some (.slice l.so l.sn l.sc)
theorem Lf.Lies.lt {w : World} {b o : Nat} {l : Lf} (h : l.Lies w b o) : b < w.heap.size := World.block_lt_of_cell? _ _ h.c0
theorem Lf.Lies.keep {w w' : World} {b o : Nat} {l : Lf} (h : l.Lies w b o) (hb : Below w.heap.size w w') : l.Lies w' b o := by
  have c := fun (i : Nat) (v : Value) (hc : w.cell? ⟨b, i, none⟩ = some v) => (hb.cell (p := ⟨b, i, none⟩) h.lt).trans hc
  exact ⟨c _ _ h.c0, c _ _ h.c1, c _ _ h.c2, c _ _ h.c3, c _ _ h.c4, c _ _ h.c5, c _ _ h.c6⟩
/-- A slice of leaves that came in; m bounds the sets. -/
def InLeaves (w : World) (ao : Option Addr) (n m : Nat) : Prop := ∀ k, k < n → ∃ b off, ∃ l : Lf, ao = some ⟨b, off, none⟩ ∧ l.Lies w b (off + k * 7) ∧ l.Ok w ∧ l.sn ≤ m
theorem InLeaves.keep {w w' : World} {ao : Option Addr} {n m : Nat} (h : InLeaves w ao n m) (hb : Below w.heap.size w w') : InLeaves w' ao n m := fun k hk => by
  obtain ⟨b, off, l, e, h1, h2, h3⟩ := h k hk
  exact ⟨b, off, l, e, h1.keep hb, h2.keep hb, h3⟩
/-- A slice of leaves of the call's own, at the head of its row. -/
def OwnLeaves (w : World) (ao : Option Addr) (n : Nat) : Prop := ∀ k, k < n → ∃ g, ∃ l : Lf, ao = some ⟨g, 0, none⟩ ∧ l.Lies w g (k * 7) ∧ l.Ok w ∧ l.sn ≤ 64
theorem OwnLeaves.keep {w w' : World} {ao : Option Addr} {n : Nat} (h : OwnLeaves w ao n) (hb : Below w.heap.size w w') : OwnLeaves w' ao n := fun k hk => by
  obtain ⟨g, l, e, h1, h2, h3⟩ := h k hk
  exact ⟨g, l, e, h1.keep hb, h2.keep hb, h3⟩

/-- The new row, its first k leaves laid. -/
def LvBlk (w : World) (G N k : Nat) : Prop :=
  ∃ cs, Blk w G 59 cs ∧ cs.length = N * 7 ∧ ∀ j, j < k → ∃ l : Lf, (cs[j * 7]? = some (.int .i64 l.typ) ∧ cs[j * 7 + 1]? = some (.string l.s) ∧ cs[j * 7 + 2]? = some (.bool l.neg) ∧ cs[j * 7 + 3]? = some (.string l.d) ∧
    cs[j * 7 + 4]? = some (.int .i64 l.ex) ∧ cs[j * 7 + 5]? = some (.bool l.b) ∧ cs[j * 7 + 6]? = some (.slice l.so l.sn l.sc)) ∧ l.Ok w ∧ l.sn ≤ 64 ∧ ∀ a, l.so = some a → a.block ≠ G
theorem LvBlk.there {w : World} {G N k : Nat} (h : LvBlk w G N k) (i : Nat) (hi : i < N * 7) : ∃ v, w.cell? ⟨G, i, none⟩ = some v := by
  obtain ⟨cs, hb, hl, _⟩ := h
  exact ⟨cs[i], hb.cell (by rw [List.getElem?_eq_getElem (by omega)])⟩
theorem LvBlk.free {w : World} {G N k : Nat} (h : LvBlk w G N k) (i : Nat) : w.frozen? ⟨G, i, none⟩ = false := by
  obtain ⟨cs, hb, _⟩ := h
  exact hb.free i
theorem LvBlk.lt {w : World} {G N k : Nat} (h : LvBlk w G N k) : G < w.heap.size := by
  obtain ⟨cs, hb, _⟩ := h
  exact hb.lt
theorem LvBlk.keep {w w' : World} {G N k : Nat} (h : LvBlk w G N k) (hb : Below w.heap.size w w') : LvBlk w' G N k := by
  obtain ⟨cs, h1, h2, h3⟩ := h
  refine ⟨cs, h1.keep hb h1.lt, h2, fun j hj => ?_⟩
  obtain ⟨l, q1, q2, q3, q4⟩ := h3 j hj
  exact ⟨l, q1, q2.keep hb, q3, q4⟩
theorem LvBlk.own {w : World} {G N k : Nat} (h : LvBlk w G N k) : OwnLeaves w (some ⟨G, 0, none⟩) k := fun j hj => by
  obtain ⟨cs, h1, h2, h3⟩ := h
  obtain ⟨l, ⟨q0, q1, q2, q3, q4, q5, q6⟩, q7, q8, q9⟩ := h3 j hj
  exact ⟨G, l, rfl, ⟨h1.cell q0, h1.cell q1, h1.cell q2, h1.cell q3, h1.cell q4, h1.cell q5, h1.cell q6⟩, q7, q8⟩
/-- Seven cells laid one behind the other. -/
def set7 (cs : List Value) (o : Nat) (v0 v1 v2 v3 v4 v5 v6 : Value) : List Value := ((((((cs.set o v0).set (o + 1) v1).set (o + 2) v2).set (o + 3) v3).set (o + 4) v4).set (o + 5) v5).set (o + 6) v6
theorem set7_far (cs : List Value) (o i : Nat) (v0 v1 v2 v3 v4 v5 v6 : Value) (h : i < o ∨ o + 7 ≤ i) : (set7 cs o v0 v1 v2 v3 v4 v5 v6)[i]? = cs[i]? := by
  unfold set7
  rw [List.getElem?_set_ne (by omega), List.getElem?_set_ne (by omega), List.getElem?_set_ne (by omega), List.getElem?_set_ne (by omega), List.getElem?_set_ne (by omega), List.getElem?_set_ne (by omega), List.getElem?_set_ne (by omega)]
theorem set7_len (cs : List Value) (o : Nat) (v0 v1 v2 v3 v4 v5 v6 : Value) : (set7 cs o v0 v1 v2 v3 v4 v5 v6).length = cs.length := by simp [set7]
theorem set7_in (cs : List Value) (o : Nat) (v0 v1 v2 v3 v4 v5 v6 : Value) (h : o + 7 ≤ cs.length) :
    (set7 cs o v0 v1 v2 v3 v4 v5 v6)[o]? = some v0 ∧ (set7 cs o v0 v1 v2 v3 v4 v5 v6)[o + 1]? = some v1 ∧ (set7 cs o v0 v1 v2 v3 v4 v5 v6)[o + 2]? = some v2 ∧ (set7 cs o v0 v1 v2 v3 v4 v5 v6)[o + 3]? = some v3 ∧
    (set7 cs o v0 v1 v2 v3 v4 v5 v6)[o + 4]? = some v4 ∧ (set7 cs o v0 v1 v2 v3 v4 v5 v6)[o + 5]? = some v5 ∧ (set7 cs o v0 v1 v2 v3 v4 v5 v6)[o + 6]? = some v6 := by
  unfold set7
  refine ⟨?_, ?_, ?_, ?_, ?_, ?_, ?_⟩ <;> simp [List.getElem?_set] <;> omega
/-- The world behind a leaf's store. -/
def store7 (w : World) (G o : Nat) (l : Lf) : World :=
  ((((((w.setCell ⟨G, o, none⟩ (.int .i64 l.typ)).setCell ⟨G, o + 1, none⟩ (.string l.s)).setCell ⟨G, o + 2, none⟩ (.bool l.neg)).setCell ⟨G, o + 3, none⟩ (.string l.d)).setCell ⟨G, o + 4, none⟩ (.int .i64 l.ex)).setCell ⟨G, o + 5, none⟩ (.bool l.b)).setCell ⟨G, o + 6, none⟩ (.slice l.so l.sn l.sc)
theorem View.other7 {w : World} {ao : Option Addr} {n c : Nat} {xs : List ByteArray} (h : View Value.string w ao n c xs) {G : Nat} (hne : ∀ a, ao = some a → a.block ≠ G) (o : Nat) (l : Lf) : View Value.string (store7 w G o l) ao n c xs :=
  ((((((h.other hne _).other hne _).other hne _).other hne _).other hne _).other hne _).other hne _
theorem Lf.Ok.other7 {w : World} {l : Lf} (h : l.Ok w) {G : Nat} (hne : ∀ a, l.so = some a → a.block ≠ G) (o : Nat) (l' : Lf) : l.Ok (store7 w G o l') := ⟨h.t0, h.t1, h.x0, h.x1, h.s1, h.d1, h.n1, h.view.other7 hne o l', h.strs⟩
theorem below_store7 {B : Nat} {w0 w : World} (hb : Below B w0 w) {G : Nat} (hG : B ≤ G) (o : Nat) (l : Lf) : Below B w0 (store7 w G o l) :=
  ((((((hb.setCell hG _).setCell hG _).setCell hG _).setCell hG _).setCell hG _).setCell hG _).setCell hG _
theorem LvBlk.step {w : World} {G N k : Nat} (h : LvBlk w G N k) (hk : k < N) (l : Lf) (ok : l.Ok w) (hn : l.sn ≤ 64) (hne : ∀ a, l.so = some a → a.block ≠ G) : LvBlk (store7 w G (k * 7) l) G N (k + 1) := by
  obtain ⟨cs, hb, hl, hc⟩ := h
  refine ⟨set7 cs (k * 7) (.int .i64 l.typ) (.string l.s) (.bool l.neg) (.string l.d) (.int .i64 l.ex) (.bool l.b) (.slice l.so l.sn l.sc), ?_, by rw [set7_len]; exact hl, fun j hj => ?_⟩
  · exact ((((((hb.set (k * 7) _).set (k * 7 + 1) _).set (k * 7 + 2) _).set (k * 7 + 3) _).set (k * 7 + 4) _).set (k * 7 + 5) _).set (k * 7 + 6) _
  · by_cases e : j = k
    · subst e
      exact ⟨l, set7_in _ _ _ _ _ _ _ _ _ (by omega), ok.other7 hne _ _, hn, hne⟩
    · obtain ⟨l', ⟨q0, q1, q2, q3, q4, q5, q6⟩, q7, q8, q9⟩ := hc j (by omega)
      refine ⟨l', ⟨?_, ?_, ?_, ?_, ?_, ?_, ?_⟩, q7.other7 q9 _ _, q8, q9⟩ <;> rw [set7_far _ _ _ _ _ _ _ _ _ _ (by omega)] <;> assumption

theorem Try.info59 : (Try.prog.info? 59).map (fun i => (i.zero, i.size, i.bytes)) = some (some (.agg #[.int .i64 0, .string ⟨#[]⟩, .bool false, .string ⟨#[]⟩, .int .i64 0, .bool false, .slice none 0 0]), 7, 88) := by kernel_rfl
/-- 'make([]T, l, n)' of elements of several cells, in whatever world. -/
theorem run_make_wide {P : Program} {t e : TypeId} {z : Value} {size bytes : Nat} (ht : P.underlying t = some (.slice e)) (hi : (P.info? e).map (fun i => (i.zero, i.size, i.bytes)) = some (some z, size, bytes))
    (l n : Nat) (hln : l ≤ n) (hb : bytes * n ≤ 281474976710656) (h63 : n ≤ maxLen) (w : World) :
    (Instr.makeSlice t (.int .i64 l) (.int .i64 n)).run P w = .ok (.slice (some ⟨w.heap.size, 0, none⟩) l n) (w.alloc (.cells (madeCells z.cells (n * size)) e)) := by
  obtain ⟨i, hi0, hz0, hz1, hz2⟩ := info_parts hi
  have h := run_make (P := P) w t e i z ht hi0 hz0 .i64 .i64 l n (by omega) (by omega) (by rw [hz2]; omega) (by unfold maxLen at h63; omega)
  rw [h, hz1, Int.toNat_natCast, Int.toNat_natCast]
theorem LvBlk.made (w : World) (n : Nat) : LvBlk (w.alloc (.cells (madeCells #[.int .i64 0, .string ⟨#[]⟩, .bool false, .string ⟨#[]⟩, .int .i64 0, .bool false, .slice none 0 0] (n * 7)) 59)) w.heap.size n 0 :=
  ⟨_, Blk.newA w 59 _, by simp [size_madeCells], fun j hj => absurd hj (by omega)⟩

theorem cloneLeaves_nil (w : World) : Calls Try.prog 37 #[.slice none 0 0] w fun e w' => e = .returned (.slice none 0 0) ∧ w = w' := by
  have q : ∀ (w : World) (a : Option Addr) (n c n' c' : Nat), (binOp .eql 60 (.slice a n c) (.slice none n' c')).run Try.prog w = .ok (.bool a.isNone) w := fun w a n c n' c' => Lib.run_eql_slice_nil w _ _ a n c n' c' Try.underlying60
  go_enter Try.func37, Try.ntmps37
  go_wp2_with fail
  go_ret
  exact ⟨rfl, rfl⟩
set_option maxRecDepth 100000 in
set_option maxHeartbeats 2000000 in
theorem cloneLeaves_any (a : Addr) (n c : Nat) (w : World) (hn : n ≤ 64) (hin : InLeaves w (some a) n 64) :
    Calls Try.prog 37 #[.slice (some a) n c] w fun e w' => e = .returned (.slice (some ⟨w.heap.size, 0, none⟩) n n) ∧ OwnLeaves w' (some ⟨w.heap.size, 0, none⟩) n ∧ Below w.heap.size w w' := by
  have q : ∀ (w : World) (a : Option Addr) (n c n' c' : Nat), (binOp .eql 60 (.slice a n c) (.slice none n' c')).run Try.prog w = .ok (.bool a.isNone) w := fun w a n c n' c' => Lib.run_eql_slice_nil w _ _ a n c n' c' Try.underlying60
  have hmk := fun (wx : World) => run_make_wide (P := Try.prog) Try.underlying60 Try.info59 n n (Nat.le_refl _) (by omega) (by unfold maxLen; omega) wx
  simp only [Value.cells] at hmk
  have HI := hid hin
  clear hin
  go_enter Try.func37, Try.ntmps37
  go_wp2_with fail
  clear hmk q
  go_loopw [4] (fun i wr => ∃ k : Nat, k ≤ n ∧ i = .int .i64 k ∧ LvBlk wr w.heap.size n k ∧ Below w.heap.size w wr) (fun i _ => n - (intOf i).toNat)
  case atStart => exact ⟨0, Nat.zero_le _, rfl, LvBlk.made w n, (Below.refl _ _).alloc (Nat.le_refl _) _⟩
  case round =>
    obtain ⟨k, hk, rfl, hblk, hbel⟩ := hrel
    have HBk := hid hblk
    have HBl := hid hbel
    clear hblk hbel
    by_cases hlt : k < n
    · obtain ⟨b, off, l, e, hL, hO, h64⟩ := HI.out.keep HBl.out k hlt
      cases e
      have hkI : (k : Int) < (n : Int) := by omega
      have c0 := hL.c0
      have c1 := hL.c1
      have c2 := hL.c2
      have c3 := hL.c3
      have c4 := hL.c4
      have c5 := hL.c5
      have c6 := hL.c6
      have HO := hid hO
      clear hL hO
      go_wp2_with fail
      refine (cloneLeaf_any _ _ _ _ _ _ _ _ _ l.xs _ (by omega) HO.out.view).mono ?_
      rintro e w2 ⟨so', sc', rfl, hv2, hnw, hb2⟩
      have hblk2 := HBk.out.keep hb2
      obtain ⟨v0, t0⟩ := hblk2.there (k * 7) (by omega)
      obtain ⟨v1, t1⟩ := hblk2.there (k * 7 + 1) (by omega)
      obtain ⟨v2, t2⟩ := hblk2.there (k * 7 + 2) (by omega)
      obtain ⟨v3, t3⟩ := hblk2.there (k * 7 + 3) (by omega)
      obtain ⟨v4, t4⟩ := hblk2.there (k * 7 + 4) (by omega)
      obtain ⟨v5, t5⟩ := hblk2.there (k * 7 + 5) (by omega)
      obtain ⟨v6, t6⟩ := hblk2.there (k * 7 + 6) (by omega)
      have f := hblk2.free
      have HB2 := hid hblk2
      have HV2 := hid hv2
      have HE2 := hid (below_here HBl.out (Nat.le_refl _) hb2)
      have HN : Hid (∀ a, so' = some a → a.block ≠ w.heap.size) := fun a ha => by have h1 := hnw a ha; have h2 := HBk.out.lt; omega
      have ok' : Lf.Ok w2 ⟨l.typ, l.s, l.neg, l.d, l.ex, l.b, so', l.sn, sc', l.xs⟩ := ⟨HO.out.t0, HO.out.t1, HO.out.x0, HO.out.x1, HO.out.s1, HO.out.d1, HO.out.n1, HV2.out, HO.out.strs⟩
      have hs := hblk2.step hlt ⟨l.typ, l.s, l.neg, l.d, l.ex, l.b, so', l.sn, sc', l.xs⟩ ok' h64 HN.out
      have he := below_store7 HE2.out (Nat.le_refl w.heap.size) (k * 7) ⟨l.typ, l.s, l.neg, l.d, l.ex, l.b, so', l.sn, sc', l.xs⟩
      unfold store7 at hs he
      dsimp only at hs he
      have HS := hid hs
      have HE := hid he
      clear hblk2 hv2 hnw hb2 ok' hs he HB2 HV2 HE2 HN
      go_wp2_with fail
      go_roundw
      case rel => exact ⟨k + 1, by omega, by go_num, HS.out, HE.out⟩
      case measure => simp [intOf]; omega
    · have ek : k = n := by omega
      subst ek
      go_wp2_with fail
      go_ret
      exact ⟨rfl, HBk.out.own, HBl.out⟩
theorem cloneLeaves_view (ao : Option Addr) (n c : Nat) (w : World) (hn : n ≤ 64) (hnil : ao = none → n = 0 ∧ c = 0) (hin : InLeaves w ao n 64) :
    Calls Try.prog 37 #[.slice ao n c] w fun e w' => ∃ ao' c', e = .returned (.slice ao' n c') ∧ n ≤ c' ∧ OwnLeaves w' ao' n ∧ Below w.heap.size w w' := by
  cases ao with
  | none =>
    obtain ⟨rfl, rfl⟩ := hnil rfl
    exact (cloneLeaves_nil w).mono fun e w' ⟨he, hw⟩ => ⟨none, 0, he, Nat.le_refl _, fun k hk => absurd hk (by omega), by rw [← hw]; exact Below.refl _ _⟩
  | some a => exact (cloneLeaves_any a n c w hn hin).mono fun e w' ⟨he, ho, hb⟩ => ⟨_, _, he, Nat.le_refl _, ho, hb⟩
end Go.Proofs.Qxb6001697a
