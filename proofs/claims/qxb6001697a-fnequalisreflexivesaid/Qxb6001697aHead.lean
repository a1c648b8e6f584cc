/-
  THE CLOSED FACTS OF THIS SEAT's PROGRAM THAT EVERY ROW ASKS, each a theorem of its own, so that the kernel gives its memory back behind each. Three of them ('mayEnter', 'liftsFinal', 'make') read the first three words of the dump's head; the kernel's own run over that long head wants over 12 GB, here the head is spelt once as the list of its signs, its first three words are cut off by a law, and the rest stays a letter.
-/
import Derived.Test.Qxb6001697aRows
import Derived.JoinedOf
namespace Go.Proofs.Qxb6001697a

/-- The signs of the dump's head behind its first three words, by their numbers. -/
def headRest : List Nat := [
    97, 116, 32, 101, 120, 97, 109, 112, 108, 101, 46, 99, 111, 109, 47, 115, 104, 97, 114, 100, 107, 101, 101, 112, 101, 114, 47, 115, 104, 97, 114, 100, 107, 101, 101, 112, 101, 114, 47, 122,
    122, 108, 97, 119, 115, 95, 108, 111, 99, 97, 108, 95, 103, 49, 46, 70, 110, 67, 111, 109, 112, 97, 114, 101, 65, 103, 114, 101, 101, 115, 87, 105, 116, 104, 80, 108, 97, 105, 110, 84,
    101, 120, 116, 32, 101, 120, 97, 109, 112, 108, 101, 46, 99, 111, 109, 47, 115, 104, 97, 114, 100, 107, 101, 101, 112, 101, 114, 47, 115, 104, 97, 114, 100, 107, 101, 101, 112, 101, 114, 47,
    122, 122, 108, 97, 119, 115, 95, 108, 111, 99, 97, 108, 95, 103, 49, 46, 70, 110, 65, 112, 112, 101, 110, 100, 80, 108, 97, 105, 110, 87, 114, 105, 116, 101, 115, 67, 97, 110, 111, 110,
    105, 99, 97, 108, 84, 101, 120, 116, 32, 101, 120, 97, 109, 112, 108, 101, 46, 99, 111, 109, 47, 115, 104, 97, 114, 100, 107, 101, 101, 112, 101, 114, 47, 115, 104, 97, 114, 100, 107, 101,
    101, 112, 101, 114, 47, 122, 122, 108, 97, 119, 115, 95, 108, 111, 99, 97, 108, 95, 103, 49, 46, 70, 110, 69, 120, 112, 111, 110, 101, 110, 116, 65, 116, 82, 101, 97, 100, 115, 73, 116,
    115, 79, 119, 110, 84, 101, 120, 116, 32, 101, 120, 97, 109, 112, 108, 101, 46, 99, 111, 109, 47, 115, 104, 97, 114, 100, 107, 101, 101, 112, 101, 114, 47, 115, 104, 97, 114, 100, 107, 101,
    101, 112, 101, 114, 47, 122, 122, 108, 97, 119, 115, 95, 108, 111, 99, 97, 108, 95, 103, 49, 46, 70, 110, 69, 120, 112, 111, 110, 101, 110, 116, 65, 116, 83, 116, 97, 121, 115, 73, 110,
    66, 111, 117, 110, 100, 115, 32, 101, 120, 97, 109, 112, 108, 101, 46, 99, 111, 109, 47, 115, 104, 97, 114, 100, 107, 101, 101, 112, 101, 114, 47, 115, 104, 97, 114, 100, 107, 101, 101, 112,
    101, 114, 47, 122, 122, 108, 97, 119, 115, 95, 108, 111, 99, 97, 108, 95, 103, 49, 46, 70, 110, 76, 111, 111, 107, 117, 112, 70, 105, 110, 100, 115, 87, 104, 97, 116, 87, 97, 115, 83,
    116, 111, 114, 101, 100, 32, 101, 120, 97, 109, 112, 108, 101, 46, 99, 111, 109, 47, 115, 104, 97, 114, 100, 107, 101, 101, 112, 101, 114, 47, 115, 104, 97, 114, 100, 107, 101, 101, 112, 101,
    114, 47, 122, 122, 108, 97, 119, 115, 95, 108, 111, 99, 97, 108, 95, 103, 49, 46, 70, 110, 69, 113, 117, 97, 108, 73, 115, 82, 101, 102, 108, 101, 120, 105, 118, 101, 32, 101, 120, 97,
    109, 112, 108, 101, 46, 99, 111, 109, 47, 115, 104, 97, 114, 100, 107, 101, 101, 112, 101, 114, 47, 115, 104, 97, 114, 100, 107, 101, 101, 112, 101, 114, 47, 122, 122, 108, 97, 119, 115, 95,
    108, 111, 99, 97, 108, 95, 103, 49, 46, 70, 110, 69, 113, 117, 97, 108, 73, 115, 83, 121, 109, 109, 101, 116, 114, 105, 99]
/-- The second word: the harness's sum. -/
def headSum : List Nat := [101, 100, 101, 57, 52, 99, 99, 99, 99, 51, 53, 51, 98, 98, 98, 51, 97, 51, 54, 49, 98, 101, 100, 99, 98, 100, 52, 51, 100, 52, 97, 57, 55, 57, 56, 101, 48, 99, 51, 48, 53, 49, 51, 50, 54, 57, 54, 102, 52, 52, 101, 57, 53, 99, 57, 97, 98, 51, 98, 50, 51, 56, 53, 97]

theorem head_eq : Try.prog.initOrder = String.ofList (([104, 97, 114, 110, 101, 115, 115] ++ 32 :: (headSum ++ 32 :: ([99, 117, 116] ++ 32 :: headRest))).map Char.ofNat) := by kernel_rfl

theorem words_step : ∀ (a : List Nat) (r : List Char), (∀ n ∈ a, Char.ofNat n ≠ ' ') → wordsSigns (a.map Char.ofNat ++ ' ' :: r) = a.map Char.ofNat :: wordsSigns r
  | [], r, _ => by simp [wordsSigns]
  | n :: a, r, h => by
    have ih := words_step a r (fun m hm => h m (List.mem_cons_of_mem _ hm))
    have hn := h n List.mem_cons_self
    rw [List.map_cons, List.cons_append, wordsSigns, ih]
    simpa using hn

theorem split_at (a b : List Nat) : (a ++ 32 :: b).map Char.ofNat = a.map Char.ofNat ++ ' ' :: b.map Char.ofNat := by
  rw [List.map_append, List.map_cons]

theorem words_eq : behindMainWord (wordsSigns Try.prog.initOrder.toList) = ['c', 'u', 't'] :: wordsSigns (headRest.map Char.ofNat) := by
  rw [head_eq, String.toList_ofList, split_at, words_step _ _ (by decide), split_at, words_step _ _ (by decide), split_at, words_step _ _ (by decide)]
  generalize wordsSigns (headRest.map Char.ofNat) = t
  kernel_rfl

theorem strip_cut (rest : List (List Char)) : stripLifts liftWords (['c', 'u', 't'] :: rest) = ([], ['c', 'u', 't'] :: rest) := by kernel_rfl
theorem mayEnter_of {P : Program} {rest : List (List Char)} (h : behindMainWord (wordsSigns P.initOrder.toList) = ['c', 'u', 't'] :: rest) (h1 : P.laysLater = false) (h2 : P.bearsReflect = false) (h3 : P.doorFits [] = true) : P.mayEnter = true := by
  unfold Program.mayEnter
  rw [h]
  simp only [strip_cut, h1, h2, h3]
  kernel_rfl
theorem headLifts_of {P : Program} {rest : List (List Char)} (h : behindMainWord (wordsSigns P.initOrder.toList) = ['c', 'u', 't'] :: rest) : P.headLifts = [] := by
  unfold Program.headLifts
  rw [h]
  simp only [strip_cut, ite_self]
theorem liftsFinal_of {P : Program} {rest : List (List Char)} (h : behindMainWord (wordsSigns P.initOrder.toList) = ['c', 'u', 't'] :: rest) : P.liftsFinal = false := by
  unfold Program.liftsFinal
  rw [h, headLifts_of h]
  kernel_rfl
theorem make_of {P : Program} {rest : List (List Char)} (h : behindMainWord (wordsSigns P.initOrder.toList) = ['c', 'u', 't'] :: rest) : P.make = some .cut := by
  unfold Program.make
  rw [h, headLifts_of h]
  kernel_rfl

theorem may_enter : Try.prog.mayEnter = true := mayEnter_of words_eq (by kernel_rfl) (by kernel_rfl) (by kernel_rfl)
theorem lifts_final : Try.prog.liftsFinal = false := liftsFinal_of words_eq
theorem make_cut : Try.prog.make = some .cut := make_of words_eq
theorem laid_out : laidOutB Try.prog = true := by kernel_rfl
theorem maps_rowed : mapsRowed Try.prog = true := by kernel_rfl
theorem no_stops : Try.prog.stops = [] := by kernel_rfl
theorem no_knobs : Try.prog.stopKnobs = [] := by kernel_rfl
theorem plain_keys : Try.prog.plainKeys = true := by kernel_rfl
theorem stops_heard : Try.prog.stopsHeard = true := by kernel_rfl
theorem own : ownKnob Try.prog.godebug = none := by kernel_rfl

/-- The thirty-two facts, one by one, make the one that the builder asks. -/
theorem facts_of {P : Program} {f : FuncId} {fn : Func} {s : ChangeSpec} {c : OpenClaim}
    (k1 : c.wf (OpenSpec.ofChange s) = true) (k2 : laidOutB P = true) (k3 : mapsRowed P = true)
    (k4 : fn.params.all (P.readableRec ·) = true) (k5 : namedTie P c.named s.vars = true)
    (k6 : (c.stops == []) = true) (k7 : P.stops = []) (k8 : (c.knobs == []) = true) (k9 : P.stopKnobs = [])
    (k10 : (c.inPlace == P.inPlace f) = true) (k11 : (c.unfollowed == P.unfollowed f) = true) (k12 : (c.recurses == P.recurses f) = true) (k13 : (c.named == P.varsNamed f) = true)
    (k14 : (c.maps == (fn.params.toList ++ s.plain.varTypes P).any (P.mapsRec ·)) = true) (k15 : (c.ifaces == (fn.params.toList ++ s.plain.varTypes P).any (P.ifacesRec ·)) = true) (k16 : (c.mapsOut == P.mapsAmong fn.resultTypes.toList) = true)
    (k17 : (c.loops == (fn.params.toList ++ s.plain.varTypes P).any (P.loopsFrom ·)) = true) (k17b : (c.wideKeys == (fn.params.toList ++ s.plain.varTypes P ++ fn.resultTypes.toList).any (P.wideKeysFrom ·)) = true)
    (k18 : s.vars.all (P.varReadable ·) = true) (k19 : fn.resultTypes.all (fun t => P.readableRec t && decide (t < P.types.size)) = true) (k20 : (c.ifacesOut == fn.resultTypes.toList.any (P.ifacesRec ·)) = true) (k21 : (c.loopsOut == fn.resultTypes.toList.any (P.loopsFrom ·)) = true)
    (k22 : P.plainKeys = true) (k22' : c.plainKeys = true) (k23 : c.shortTexts.isNone = true) (k23b : P.stopsHeard = true) (k24 : P.mayEnter = true) (k24b : P.liftsFinal = false) (k24b' : c.lifted = false) (k24c : P.make = some c.make)
    (k25 : c.kinds = []) (k25' : c.domain.isEmpty = true) (k26 : (c.pinned == c.pinnedBy) = true)
    (k27 : (c.veiled == (fn.params.toList ++ s.plain.varTypes P ++ fn.resultTypes.toList).any (P.veiledRec ·)) = true) (k28 : c.veiledFits P fn.params.toList (fn.params.toList ++ s.plain.varTypes P ++ fn.resultTypes.toList) = true) :
    joinedFacts P f fn s c = true := by
  unfold joinedFacts
  rw [k1, k2, k3, k4, k5, k6, k7, k8, k9, k10, k11, k12, k13, k14, k15, k16, k17, k17b, k18, k19, k20, k21, k22, k22', k23, k23b, k24, k24b, k24b', k24c, k25, k25', k26, k27, k28]
  simp
end Go.Proofs.Qxb6001697a
