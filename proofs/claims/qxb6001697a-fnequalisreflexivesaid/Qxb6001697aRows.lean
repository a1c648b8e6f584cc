/-
  No cell of these rows narrows 'for every input' (looked for: loops, veiled, ifaces, maps, wideKeys, modest, calm, conditions, laid).
  DERIVED. THE GIVEN ROWS OF THIS SEAT. 7 by the template 'for every input the law returns true; each argument reads behind the call as it read before'; 0 by the template 'total and deterministic' (their statements: Qxb6001697aTotals.lean).
  GIVEN WITH THE SEED: the statements are not yours to turn. If you find one false, say at which input.
  Laid BY PROGRAM, IN A SANDBOX (cutbox-rows.mjs): the forced cells as the released guide's own fill.sh prints them over the translation 0ca36f0043b51c2b… (all of the seat's roots in one cut). By AI agents, Wed Nov 11 2026. No macro, syntax, notation, axiom, sorry.
-/
import Derived.Test.Qxb6001697aChecked
import GoSem.Claim
import GoSem.ClaimJoined
import GoSem.ClaimMapViews
import Derived.JoinedTies
import Derived.KernelRfl
namespace Go.Proofs.Qxb6001697a
/- THE CELL 'sum', in the pinned program and in every row, IS THE sha256 OF THE DUMP (.gsa) THAT Qxb6001697aProg.lean LOADS. Nothing in Lean hashes anything: it is a label: what it is worth is what the hold of that sum in a sandbox is worth. -/
noncomputable def Try.pinned : Pinned := { name := "qxb6001697a", sum := "0ca36f0043b51c2bfde26775bcf1e55fe6a1c070008dc25aeccb87523f54d766", checked := Try.checked }
namespace Rows
def none {H : Type} : Left H := { results := [], args := [] }

/-- 'zzlaws_local_g1.FnCompareAgreesWithPlainText': WHATEVER THE INPUT: true; the input reads as it did. -/
def fnCompareAgreesWithPlainTextSpec : ChangeSpec := { name := "fnCompareAgreesWithPlainText", fn := fun _ => fun
  | [d1, d2, d3, d4, d5, d6] => { results := [.lit (.bool true)], args := [d1, d2, d3, d4, d5, d6] }
  | _ => none }
def fnCompareAgreesWithPlainTextRow : OpenClaim := { program := "qxb6001697a", sum := "0ca36f0043b51c2bfde26775bcf1e55fe6a1c070008dc25aeccb87523f54d766", func := "example.com/shardkeeper/shardkeeper/zzlaws_local_g1.FnCompareAgreesWithPlainText", spec := "fnCompareAgreesWithPlainText", inPlace := ["internal/bytealg.abigen_runtime_cmpstring"], apart := false }
def FnCompareAgreesWithPlainTextSaid : Prop := fnCompareAgreesWithPlainTextRow.holds Try.pinned (OpenSpec.ofChange fnCompareAgreesWithPlainTextSpec)

/-- ITS FALSE NEIGHBOUR: 'it returns false'. Refute it at one input. -/
def fnCompareAgreesWithPlainTextWrong : ChangeSpec := { name := "fnCompareAgreesWithPlainText", fn := fun _ => fun
  | [d1, d2, d3, d4, d5, d6] => { results := [.lit (.bool false)], args := [d1, d2, d3, d4, d5, d6] }
  | _ => none }
def FnCompareAgreesWithPlainTextWrongFalsely : Prop := fnCompareAgreesWithPlainTextRow.holds Try.pinned (OpenSpec.ofChange fnCompareAgreesWithPlainTextWrong)

/-- 'zzlaws_local_g1.FnAppendPlainWritesCanonicalText': WHATEVER THE INPUT: true; the input reads as it did. -/
def fnAppendPlainWritesCanonicalTextSpec : ChangeSpec := { name := "fnAppendPlainWritesCanonicalText", fn := fun _ => fun
  | [d1, d2, d3, d4] => { results := [.lit (.bool true)], args := [d1, d2, d3, d4] }
  | _ => none }
def fnAppendPlainWritesCanonicalTextRow : OpenClaim := { program := "qxb6001697a", sum := "0ca36f0043b51c2bfde26775bcf1e55fe6a1c070008dc25aeccb87523f54d766", func := "example.com/shardkeeper/shardkeeper/zzlaws_local_g1.FnAppendPlainWritesCanonicalText", spec := "fnAppendPlainWritesCanonicalText", apart := false }
def FnAppendPlainWritesCanonicalTextSaid : Prop := fnAppendPlainWritesCanonicalTextRow.holds Try.pinned (OpenSpec.ofChange fnAppendPlainWritesCanonicalTextSpec)

/-- ITS FALSE NEIGHBOUR: 'it returns false'. Refute it at one input. -/
def fnAppendPlainWritesCanonicalTextWrong : ChangeSpec := { name := "fnAppendPlainWritesCanonicalText", fn := fun _ => fun
  | [d1, d2, d3, d4] => { results := [.lit (.bool false)], args := [d1, d2, d3, d4] }
  | _ => none }
def FnAppendPlainWritesCanonicalTextWrongFalsely : Prop := fnAppendPlainWritesCanonicalTextRow.holds Try.pinned (OpenSpec.ofChange fnAppendPlainWritesCanonicalTextWrong)

/-- 'zzlaws_local_g1.FnExponentAtReadsItsOwnText': WHATEVER THE INPUT: true; the input reads as it did. -/
def fnExponentAtReadsItsOwnTextSpec : ChangeSpec := { name := "fnExponentAtReadsItsOwnText", fn := fun _ => fun
  | [d1, d2, d3, d4, d5] => { results := [.lit (.bool true)], args := [d1, d2, d3, d4, d5] }
  | _ => none }
def fnExponentAtReadsItsOwnTextRow : OpenClaim := { program := "qxb6001697a", sum := "0ca36f0043b51c2bfde26775bcf1e55fe6a1c070008dc25aeccb87523f54d766", func := "example.com/shardkeeper/shardkeeper/zzlaws_local_g1.FnExponentAtReadsItsOwnText", spec := "fnExponentAtReadsItsOwnText", apart := false }
def FnExponentAtReadsItsOwnTextSaid : Prop := fnExponentAtReadsItsOwnTextRow.holds Try.pinned (OpenSpec.ofChange fnExponentAtReadsItsOwnTextSpec)

/-- ITS FALSE NEIGHBOUR: 'it returns false'. Refute it at one input. -/
def fnExponentAtReadsItsOwnTextWrong : ChangeSpec := { name := "fnExponentAtReadsItsOwnText", fn := fun _ => fun
  | [d1, d2, d3, d4, d5] => { results := [.lit (.bool false)], args := [d1, d2, d3, d4, d5] }
  | _ => none }
def FnExponentAtReadsItsOwnTextWrongFalsely : Prop := fnExponentAtReadsItsOwnTextRow.holds Try.pinned (OpenSpec.ofChange fnExponentAtReadsItsOwnTextWrong)

/-- 'zzlaws_local_g1.FnExponentAtStaysInBounds': WHATEVER THE INPUT: true; the input reads as it did. -/
def fnExponentAtStaysInBoundsSpec : ChangeSpec := { name := "fnExponentAtStaysInBounds", fn := fun _ => fun
  | [d1, d2, d3] => { results := [.lit (.bool true)], args := [d1, d2, d3] }
  | _ => none }
def fnExponentAtStaysInBoundsRow : OpenClaim := { program := "qxb6001697a", sum := "0ca36f0043b51c2bfde26775bcf1e55fe6a1c070008dc25aeccb87523f54d766", func := "example.com/shardkeeper/shardkeeper/zzlaws_local_g1.FnExponentAtStaysInBounds", spec := "fnExponentAtStaysInBounds", apart := false }
def FnExponentAtStaysInBoundsSaid : Prop := fnExponentAtStaysInBoundsRow.holds Try.pinned (OpenSpec.ofChange fnExponentAtStaysInBoundsSpec)

/-- ITS FALSE NEIGHBOUR: 'it returns false'. Refute it at one input. -/
def fnExponentAtStaysInBoundsWrong : ChangeSpec := { name := "fnExponentAtStaysInBounds", fn := fun _ => fun
  | [d1, d2, d3] => { results := [.lit (.bool false)], args := [d1, d2, d3] }
  | _ => none }
def FnExponentAtStaysInBoundsWrongFalsely : Prop := fnExponentAtStaysInBoundsRow.holds Try.pinned (OpenSpec.ofChange fnExponentAtStaysInBoundsWrong)

/-- 'zzlaws_local_g1.FnLookupFindsWhatWasStored': WHATEVER THE INPUT: true; the input reads as it did. -/
def fnLookupFindsWhatWasStoredSpec : ChangeSpec := { name := "fnLookupFindsWhatWasStored", fn := fun _ => fun
  | [d1, d2, d3, d4, d5, d6] => { results := [.lit (.bool true)], args := [d1, d2, d3, d4, d5, d6] }
  | _ => none }
def fnLookupFindsWhatWasStoredRow : OpenClaim := { program := "qxb6001697a", sum := "0ca36f0043b51c2bfde26775bcf1e55fe6a1c070008dc25aeccb87523f54d766", func := "example.com/shardkeeper/shardkeeper/zzlaws_local_g1.FnLookupFindsWhatWasStored", spec := "fnLookupFindsWhatWasStored", inPlace := ["internal/bytealg.abigen_runtime_cmpstring"], recurses := true, apart := false }
def FnLookupFindsWhatWasStoredSaid : Prop := fnLookupFindsWhatWasStoredRow.holds Try.pinned (OpenSpec.ofChange fnLookupFindsWhatWasStoredSpec)

/-- ITS FALSE NEIGHBOUR: 'it returns false'. Refute it at one input. -/
def fnLookupFindsWhatWasStoredWrong : ChangeSpec := { name := "fnLookupFindsWhatWasStored", fn := fun _ => fun
  | [d1, d2, d3, d4, d5, d6] => { results := [.lit (.bool false)], args := [d1, d2, d3, d4, d5, d6] }
  | _ => none }
def FnLookupFindsWhatWasStoredWrongFalsely : Prop := fnLookupFindsWhatWasStoredRow.holds Try.pinned (OpenSpec.ofChange fnLookupFindsWhatWasStoredWrong)

/-- 'zzlaws_local_g1.FnEqualIsReflexive': WHATEVER THE INPUT: true; the input reads as it did. -/
def fnEqualIsReflexiveSpec : ChangeSpec := { name := "fnEqualIsReflexive", fn := fun _ => fun
  | [d1, d2, d3] => { results := [.lit (.bool true)], args := [d1, d2, d3] }
  | _ => none }
def fnEqualIsReflexiveRow : OpenClaim := { program := "qxb6001697a", sum := "0ca36f0043b51c2bfde26775bcf1e55fe6a1c070008dc25aeccb87523f54d766", func := "example.com/shardkeeper/shardkeeper/zzlaws_local_g1.FnEqualIsReflexive", spec := "fnEqualIsReflexive", inPlace := ["internal/bytealg.abigen_runtime_cmpstring"], recurses := true, apart := false }
def FnEqualIsReflexiveSaid : Prop := fnEqualIsReflexiveRow.holds Try.pinned (OpenSpec.ofChange fnEqualIsReflexiveSpec)

/-- ITS FALSE NEIGHBOUR: 'it returns false'. Refute it at one input. -/
def fnEqualIsReflexiveWrong : ChangeSpec := { name := "fnEqualIsReflexive", fn := fun _ => fun
  | [d1, d2, d3] => { results := [.lit (.bool false)], args := [d1, d2, d3] }
  | _ => none }
def FnEqualIsReflexiveWrongFalsely : Prop := fnEqualIsReflexiveRow.holds Try.pinned (OpenSpec.ofChange fnEqualIsReflexiveWrong)

/-- 'zzlaws_local_g1.FnEqualIsSymmetric': WHATEVER THE INPUT: true; the input reads as it did. -/
def fnEqualIsSymmetricSpec : ChangeSpec := { name := "fnEqualIsSymmetric", fn := fun _ => fun
  | [d1, d2, d3, d4, d5, d6] => { results := [.lit (.bool true)], args := [d1, d2, d3, d4, d5, d6] }
  | _ => none }
def fnEqualIsSymmetricRow : OpenClaim := { program := "qxb6001697a", sum := "0ca36f0043b51c2bfde26775bcf1e55fe6a1c070008dc25aeccb87523f54d766", func := "example.com/shardkeeper/shardkeeper/zzlaws_local_g1.FnEqualIsSymmetric", spec := "fnEqualIsSymmetric", inPlace := ["internal/bytealg.abigen_runtime_cmpstring"], recurses := true, apart := false }
def FnEqualIsSymmetricSaid : Prop := fnEqualIsSymmetricRow.holds Try.pinned (OpenSpec.ofChange fnEqualIsSymmetricSpec)

/-- ITS FALSE NEIGHBOUR: 'it returns false'. Refute it at one input. -/
def fnEqualIsSymmetricWrong : ChangeSpec := { name := "fnEqualIsSymmetric", fn := fun _ => fun
  | [d1, d2, d3, d4, d5, d6] => { results := [.lit (.bool false)], args := [d1, d2, d3, d4, d5, d6] }
  | _ => none }
def FnEqualIsSymmetricWrongFalsely : Prop := fnEqualIsSymmetricRow.holds Try.pinned (OpenSpec.ofChange fnEqualIsSymmetricWrong)

end Rows
end Go.Proofs.Qxb6001697a
