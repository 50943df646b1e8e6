/-
  No cell of these rows narrows 'for every input' (looked for: loops, veiled, ifaces, maps, wideKeys, modest, calm, conditions, laid).
  DERIVED. THE GIVEN ROWS OF THIS SEAT. 5 by the template 'for every input the law returns true; each argument reads behind the call as it read before'; 0 by the template 'total and deterministic' (their statements: Qxb6617277aTotals.lean).
  GIVEN WITH THE SEED: the statements are not yours to turn. If you find one false, say at which input.
  Laid BY PROGRAM, IN A SANDBOX (cutbox-rows.mjs): the forced cells as the released guide's own fill.sh prints them over the translation eaf83b64552d6c58… (all of the seat's roots in one cut). By AI agents, Wed Nov 11 2026. No macro, syntax, notation, axiom, sorry.
-/
import Derived.Test.Qxb6617277aChecked
import GoSem.Claim
import GoSem.ClaimJoined
import GoSem.ClaimMapViews
import Derived.JoinedTies
import Derived.KernelRfl
namespace Go.Proofs.Qxb6617277a
/- THE CELL 'sum', in the pinned program and in every row, IS THE sha256 OF THE DUMP (.gsa) THAT Qxb6617277aProg.lean LOADS. Nothing in Lean hashes anything: it is a label: what it is worth is what the hold of that sum in a sandbox is worth. -/
noncomputable def Try.pinned : Pinned := { name := "qxb6617277a", sum := "eaf83b64552d6c584751ae34ef19c5a9add7755573cd66700f1a1f5e5e98ec47", checked := Try.checked }
namespace Rows
def none {H : Type} : Left H := { results := [], args := [] }

/-- 'zzlaws_internal_bench_b1.FnScanJSONNumberFindsEveryBuiltNumber': WHATEVER THE INPUT: true; the input reads as it did. -/
def fnScanJSONNumberFindsEveryBuiltNumberSpec : ChangeSpec := { name := "fnScanJSONNumberFindsEveryBuiltNumber", fn := fun _ => fun
  | [d1, d2, d3, d4, d5, d6, d7, d8, d9] => { results := [.lit (.bool true)], args := [d1, d2, d3, d4, d5, d6, d7, d8, d9] }
  | _ => none }
def fnScanJSONNumberFindsEveryBuiltNumberRow : OpenClaim := { program := "qxb6617277a", sum := "eaf83b64552d6c584751ae34ef19c5a9add7755573cd66700f1a1f5e5e98ec47", func := "example.com/tenscale/tenscale/zzlaws_internal_bench_b1.FnScanJSONNumberFindsEveryBuiltNumber", spec := "fnScanJSONNumberFindsEveryBuiltNumber", apart := false }
def FnScanJSONNumberFindsEveryBuiltNumberSaid : Prop := fnScanJSONNumberFindsEveryBuiltNumberRow.holds Try.pinned (OpenSpec.ofChange fnScanJSONNumberFindsEveryBuiltNumberSpec)

/-- ITS FALSE NEIGHBOUR: 'it returns false'. Refute it at one input. -/
def fnScanJSONNumberFindsEveryBuiltNumberWrong : ChangeSpec := { name := "fnScanJSONNumberFindsEveryBuiltNumber", fn := fun _ => fun
  | [d1, d2, d3, d4, d5, d6, d7, d8, d9] => { results := [.lit (.bool false)], args := [d1, d2, d3, d4, d5, d6, d7, d8, d9] }
  | _ => none }
def FnScanJSONNumberFindsEveryBuiltNumberWrongFalsely : Prop := fnScanJSONNumberFindsEveryBuiltNumberRow.holds Try.pinned (OpenSpec.ofChange fnScanJSONNumberFindsEveryBuiltNumberWrong)

/-- 'zzlaws_internal_bench_b1.FnInBufferRestsAreSuffixesOfTheLayout': WHATEVER THE INPUT: true; the input reads as it did. -/
def fnInBufferRestsAreSuffixesOfTheLayoutSpec : ChangeSpec := { name := "fnInBufferRestsAreSuffixesOfTheLayout", fn := fun _ => fun
  | [d1, d2] => { results := [.lit (.bool true)], args := [d1, d2] }
  | _ => none }
def fnInBufferRestsAreSuffixesOfTheLayoutRow : OpenClaim := { program := "qxb6617277a", sum := "eaf83b64552d6c584751ae34ef19c5a9add7755573cd66700f1a1f5e5e98ec47", func := "example.com/tenscale/tenscale/zzlaws_internal_bench_b1.FnInBufferRestsAreSuffixesOfTheLayout", spec := "fnInBufferRestsAreSuffixesOfTheLayout", apart := false }
def FnInBufferRestsAreSuffixesOfTheLayoutSaid : Prop := fnInBufferRestsAreSuffixesOfTheLayoutRow.holds Try.pinned (OpenSpec.ofChange fnInBufferRestsAreSuffixesOfTheLayoutSpec)

/-- ITS FALSE NEIGHBOUR: 'it returns false'. Refute it at one input. -/
def fnInBufferRestsAreSuffixesOfTheLayoutWrong : ChangeSpec := { name := "fnInBufferRestsAreSuffixesOfTheLayout", fn := fun _ => fun
  | [d1, d2] => { results := [.lit (.bool false)], args := [d1, d2] }
  | _ => none }
def FnInBufferRestsAreSuffixesOfTheLayoutWrongFalsely : Prop := fnInBufferRestsAreSuffixesOfTheLayoutRow.holds Try.pinned (OpenSpec.ofChange fnInBufferRestsAreSuffixesOfTheLayoutWrong)

/-- 'zzlaws_internal_bench_b1.FnInBufferRestsAreViewsOfOneBuffer': WHATEVER THE INPUT: true; the input reads as it did. -/
def fnInBufferRestsAreViewsOfOneBufferSpec : ChangeSpec := { name := "fnInBufferRestsAreViewsOfOneBuffer", fn := fun _ => fun
  | [d1, d2] => { results := [.lit (.bool true)], args := [d1, d2] }
  | _ => none }
def fnInBufferRestsAreViewsOfOneBufferRow : OpenClaim := { program := "qxb6617277a", sum := "eaf83b64552d6c584751ae34ef19c5a9add7755573cd66700f1a1f5e5e98ec47", func := "example.com/tenscale/tenscale/zzlaws_internal_bench_b1.FnInBufferRestsAreViewsOfOneBuffer", spec := "fnInBufferRestsAreViewsOfOneBuffer", apart := false }
def FnInBufferRestsAreViewsOfOneBufferSaid : Prop := fnInBufferRestsAreViewsOfOneBufferRow.holds Try.pinned (OpenSpec.ofChange fnInBufferRestsAreViewsOfOneBufferSpec)

/-- ITS FALSE NEIGHBOUR: 'it returns false'. Refute it at one input. -/
def fnInBufferRestsAreViewsOfOneBufferWrong : ChangeSpec := { name := "fnInBufferRestsAreViewsOfOneBuffer", fn := fun _ => fun
  | [d1, d2] => { results := [.lit (.bool false)], args := [d1, d2] }
  | _ => none }
def FnInBufferRestsAreViewsOfOneBufferWrongFalsely : Prop := fnInBufferRestsAreViewsOfOneBufferRow.holds Try.pinned (OpenSpec.ofChange fnInBufferRestsAreViewsOfOneBufferWrong)

/-- 'zzlaws_internal_bench_b1.FnJSONNumbersSplitsAtAJoinedNumber': WHATEVER THE INPUT: true; the input reads as it did. -/
def fnJSONNumbersSplitsAtAJoinedNumberSpec : ChangeSpec := { name := "fnJSONNumbersSplitsAtAJoinedNumber", fn := fun _ => fun
  | [d1, d2, d3, d4] => { results := [.lit (.bool true)], args := [d1, d2, d3, d4] }
  | _ => none }
def fnJSONNumbersSplitsAtAJoinedNumberRow : OpenClaim := { program := "qxb6617277a", sum := "eaf83b64552d6c584751ae34ef19c5a9add7755573cd66700f1a1f5e5e98ec47", func := "example.com/tenscale/tenscale/zzlaws_internal_bench_b1.FnJSONNumbersSplitsAtAJoinedNumber", spec := "fnJSONNumbersSplitsAtAJoinedNumber", apart := false }
def FnJSONNumbersSplitsAtAJoinedNumberSaid : Prop := fnJSONNumbersSplitsAtAJoinedNumberRow.holds Try.pinned (OpenSpec.ofChange fnJSONNumbersSplitsAtAJoinedNumberSpec)

/-- ITS FALSE NEIGHBOUR: 'it returns false'. Refute it at one input. -/
def fnJSONNumbersSplitsAtAJoinedNumberWrong : ChangeSpec := { name := "fnJSONNumbersSplitsAtAJoinedNumber", fn := fun _ => fun
  | [d1, d2, d3, d4] => { results := [.lit (.bool false)], args := [d1, d2, d3, d4] }
  | _ => none }
def FnJSONNumbersSplitsAtAJoinedNumberWrongFalsely : Prop := fnJSONNumbersSplitsAtAJoinedNumberRow.holds Try.pinned (OpenSpec.ofChange fnJSONNumbersSplitsAtAJoinedNumberWrong)

/-- 'zzlaws_internal_bench_b1.FnScanJSONNumberIsLongestNumberPrefix': WHATEVER THE INPUT: true; the input reads as it did. -/
def fnScanJSONNumberIsLongestNumberPrefixSpec : ChangeSpec := { name := "fnScanJSONNumberIsLongestNumberPrefix", fn := fun _ => fun
  | [d] => { results := [.lit (.bool true)], args := [d] }
  | _ => none }
def fnScanJSONNumberIsLongestNumberPrefixRow : OpenClaim := { program := "qxb6617277a", sum := "eaf83b64552d6c584751ae34ef19c5a9add7755573cd66700f1a1f5e5e98ec47", func := "example.com/tenscale/tenscale/zzlaws_internal_bench_b1.FnScanJSONNumberIsLongestNumberPrefix", spec := "fnScanJSONNumberIsLongestNumberPrefix", apart := false }
def FnScanJSONNumberIsLongestNumberPrefixSaid : Prop := fnScanJSONNumberIsLongestNumberPrefixRow.holds Try.pinned (OpenSpec.ofChange fnScanJSONNumberIsLongestNumberPrefixSpec)

/-- ITS FALSE NEIGHBOUR: 'it returns false'. Refute it at one input. -/
def fnScanJSONNumberIsLongestNumberPrefixWrong : ChangeSpec := { name := "fnScanJSONNumberIsLongestNumberPrefix", fn := fun _ => fun
  | [d] => { results := [.lit (.bool false)], args := [d] }
  | _ => none }
def FnScanJSONNumberIsLongestNumberPrefixWrongFalsely : Prop := fnScanJSONNumberIsLongestNumberPrefixRow.holds Try.pinned (OpenSpec.ofChange fnScanJSONNumberIsLongestNumberPrefixWrong)

end Rows
end Go.Proofs.Qxb6617277a
