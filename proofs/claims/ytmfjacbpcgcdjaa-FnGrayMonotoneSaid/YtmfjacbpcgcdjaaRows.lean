/-
  No cell of these rows narrows 'for every input' (looked for: loops, veiled, ifaces, maps, wideKeys, modest, calm, conditions, laid).
  DERIVED. THE GIVEN ROWS OF THIS SEAT. 12 by the template 'for every input the law returns true; each argument reads behind the call as it read before'; 0 by the template 'total and deterministic' (their statements: YtmfjacbpcgcdjaaTotals.lean).
  GIVEN WITH THE SEED: the statements are not yours to turn. If you find one false, say at which input.
  Laid BY PROGRAM, IN A SANDBOX (cutbox-rows.mjs): the forced cells as the released guide's own fill.sh prints them over the translation 18bb03c09df5736f… (all of the seat's roots in one cut). By AI agents, Wed Nov 11 2026. No macro, syntax, notation, axiom, sorry.
-/
import Derived.Test.YtmfjacbpcgcdjaaChecked
import GoSem.Claim
import GoSem.ClaimJoined
import GoSem.ClaimMapViews
import Derived.JoinedTies
import Derived.KernelRfl
namespace Go.Proofs.Ytmfjacbpcgcdjaa
/- THE CELL 'sum', in the pinned program and in every row, IS THE sha256 OF THE DUMP (.gsa) THAT YtmfjacbpcgcdjaaProg.lean LOADS. Nothing in Lean hashes anything: it is a label: what it is worth is what the hold of that sum in a sandbox is worth. -/
noncomputable def Try.pinned : Pinned := { name := "ytmfjacbpcgcdjaa", sum := "18bb03c09df5736ffe7eb4d037dd40c5c4c416120ea2e73c484c631f65f9b5ea", checked := Try.checked }
namespace Rows
def none {H : Type} : Left H := { results := [], args := [] }

/-- 'laws.FnRGBANear': WHATEVER THE INPUT: true; the input reads as it did. -/
def fnRGBANearSpec : ChangeSpec := { name := "fnRGBANear", fn := fun _ => fun
  | [d] => { results := [.lit (.bool true)], args := [d] }
  | _ => none }
def fnRGBANearRow : OpenClaim := { program := "ytmfjacbpcgcdjaa", sum := "18bb03c09df5736ffe7eb4d037dd40c5c4c416120ea2e73c484c631f65f9b5ea", func := "pub-colormodels/laws.FnRGBANear", spec := "fnRGBANear", unfollowed := true, recurses := true, apart := false }
def FnRGBANearSaid : Prop := fnRGBANearRow.holds Try.pinned (OpenSpec.ofChange fnRGBANearSpec)

/-- ITS FALSE NEIGHBOUR: 'it returns false'. Refute it at one input. -/
def fnRGBANearWrong : ChangeSpec := { name := "fnRGBANear", fn := fun _ => fun
  | [d] => { results := [.lit (.bool false)], args := [d] }
  | _ => none }
def FnRGBANearWrongFalsely : Prop := fnRGBANearRow.holds Try.pinned (OpenSpec.ofChange fnRGBANearWrong)

/-- 'laws.FnValuesPremultiplied': WHATEVER THE INPUT: true; the input reads as it did. -/
def fnValuesPremultipliedSpec : ChangeSpec := { name := "fnValuesPremultiplied", fn := fun _ => fun
  | [d1, d2] => { results := [.lit (.bool true)], args := [d1, d2] }
  | _ => none }
def fnValuesPremultipliedRow : OpenClaim := { program := "ytmfjacbpcgcdjaa", sum := "18bb03c09df5736ffe7eb4d037dd40c5c4c416120ea2e73c484c631f65f9b5ea", func := "pub-colormodels/laws.FnValuesPremultiplied", spec := "fnValuesPremultiplied", unfollowed := true, recurses := true, apart := false }
def FnValuesPremultipliedSaid : Prop := fnValuesPremultipliedRow.holds Try.pinned (OpenSpec.ofChange fnValuesPremultipliedSpec)

/-- ITS FALSE NEIGHBOUR: 'it returns false'. Refute it at one input. -/
def fnValuesPremultipliedWrong : ChangeSpec := { name := "fnValuesPremultiplied", fn := fun _ => fun
  | [d1, d2] => { results := [.lit (.bool false)], args := [d1, d2] }
  | _ => none }
def FnValuesPremultipliedWrongFalsely : Prop := fnValuesPremultipliedRow.holds Try.pinned (OpenSpec.ofChange fnValuesPremultipliedWrong)

/-- 'laws.FnNYCbCrAValues': WHATEVER THE INPUT: true; the input reads as it did. -/
def fnNYCbCrAValuesSpec : ChangeSpec := { name := "fnNYCbCrAValues", fn := fun _ => fun
  | [d1, d2, d3, d4] => { results := [.lit (.bool true)], args := [d1, d2, d3, d4] }
  | _ => none }
def fnNYCbCrAValuesRow : OpenClaim := { program := "ytmfjacbpcgcdjaa", sum := "18bb03c09df5736ffe7eb4d037dd40c5c4c416120ea2e73c484c631f65f9b5ea", func := "pub-colormodels/laws.FnNYCbCrAValues", spec := "fnNYCbCrAValues", unfollowed := true, recurses := true, apart := false }
def FnNYCbCrAValuesSaid : Prop := fnNYCbCrAValuesRow.holds Try.pinned (OpenSpec.ofChange fnNYCbCrAValuesSpec)

/-- ITS FALSE NEIGHBOUR: 'it returns false'. Refute it at one input. -/
def fnNYCbCrAValuesWrong : ChangeSpec := { name := "fnNYCbCrAValues", fn := fun _ => fun
  | [d1, d2, d3, d4] => { results := [.lit (.bool false)], args := [d1, d2, d3, d4] }
  | _ => none }
def FnNYCbCrAValuesWrongFalsely : Prop := fnNYCbCrAValuesRow.holds Try.pinned (OpenSpec.ofChange fnNYCbCrAValuesWrong)

/-- 'laws.FnYCbCrValues': WHATEVER THE INPUT: true; the input reads as it did. -/
def fnYCbCrValuesSpec : ChangeSpec := { name := "fnYCbCrValues", fn := fun _ => fun
  | [d1, d2, d3] => { results := [.lit (.bool true)], args := [d1, d2, d3] }
  | _ => none }
def fnYCbCrValuesRow : OpenClaim := { program := "ytmfjacbpcgcdjaa", sum := "18bb03c09df5736ffe7eb4d037dd40c5c4c416120ea2e73c484c631f65f9b5ea", func := "pub-colormodels/laws.FnYCbCrValues", spec := "fnYCbCrValues", unfollowed := true, recurses := true, apart := false }
def FnYCbCrValuesSaid : Prop := fnYCbCrValuesRow.holds Try.pinned (OpenSpec.ofChange fnYCbCrValuesSpec)

/-- ITS FALSE NEIGHBOUR: 'it returns false'. Refute it at one input. -/
def fnYCbCrValuesWrong : ChangeSpec := { name := "fnYCbCrValues", fn := fun _ => fun
  | [d1, d2, d3] => { results := [.lit (.bool false)], args := [d1, d2, d3] }
  | _ => none }
def FnYCbCrValuesWrongFalsely : Prop := fnYCbCrValuesRow.holds Try.pinned (OpenSpec.ofChange fnYCbCrValuesWrong)

/-- 'laws.FnYCbCrModel': WHATEVER THE INPUT: true; the input reads as it did. -/
def fnYCbCrModelSpec : ChangeSpec := { name := "fnYCbCrModel", fn := fun _ => fun
  | [d1, d2, d3] => { results := [.lit (.bool true)], args := [d1, d2, d3] }
  | _ => none }
def fnYCbCrModelRow : OpenClaim := { program := "ytmfjacbpcgcdjaa", sum := "18bb03c09df5736ffe7eb4d037dd40c5c4c416120ea2e73c484c631f65f9b5ea", func := "pub-colormodels/laws.FnYCbCrModel", spec := "fnYCbCrModel", unfollowed := true, recurses := true, apart := false }
def FnYCbCrModelSaid : Prop := fnYCbCrModelRow.holds Try.pinned (OpenSpec.ofChange fnYCbCrModelSpec)

/-- ITS FALSE NEIGHBOUR: 'it returns false'. Refute it at one input. -/
def fnYCbCrModelWrong : ChangeSpec := { name := "fnYCbCrModel", fn := fun _ => fun
  | [d1, d2, d3] => { results := [.lit (.bool false)], args := [d1, d2, d3] }
  | _ => none }
def FnYCbCrModelWrongFalsely : Prop := fnYCbCrModelRow.holds Try.pinned (OpenSpec.ofChange fnYCbCrModelWrong)

/-- 'laws.FnModelKind': WHATEVER THE INPUT: true; the input reads as it did. -/
def fnModelKindSpec : ChangeSpec := { name := "fnModelKind", fn := fun _ => fun
  | [d1, d2] => { results := [.lit (.bool true)], args := [d1, d2] }
  | _ => none }
def fnModelKindRow : OpenClaim := { program := "ytmfjacbpcgcdjaa", sum := "18bb03c09df5736ffe7eb4d037dd40c5c4c416120ea2e73c484c631f65f9b5ea", func := "pub-colormodels/laws.FnModelKind", spec := "fnModelKind", unfollowed := true, recurses := true, apart := false }
def FnModelKindSaid : Prop := fnModelKindRow.holds Try.pinned (OpenSpec.ofChange fnModelKindSpec)

/-- ITS FALSE NEIGHBOUR: 'it returns false'. Refute it at one input. -/
def fnModelKindWrong : ChangeSpec := { name := "fnModelKind", fn := fun _ => fun
  | [d1, d2] => { results := [.lit (.bool false)], args := [d1, d2] }
  | _ => none }
def FnModelKindWrongFalsely : Prop := fnModelKindRow.holds Try.pinned (OpenSpec.ofChange fnModelKindWrong)

/-- 'laws.FnModelOwn': WHATEVER THE INPUT: true; the input reads as it did. -/
def fnModelOwnSpec : ChangeSpec := { name := "fnModelOwn", fn := fun _ => fun
  | [d] => { results := [.lit (.bool true)], args := [d] }
  | _ => none }
def fnModelOwnRow : OpenClaim := { program := "ytmfjacbpcgcdjaa", sum := "18bb03c09df5736ffe7eb4d037dd40c5c4c416120ea2e73c484c631f65f9b5ea", func := "pub-colormodels/laws.FnModelOwn", spec := "fnModelOwn", unfollowed := true, recurses := true, apart := false }
def FnModelOwnSaid : Prop := fnModelOwnRow.holds Try.pinned (OpenSpec.ofChange fnModelOwnSpec)

/-- ITS FALSE NEIGHBOUR: 'it returns false'. Refute it at one input. -/
def fnModelOwnWrong : ChangeSpec := { name := "fnModelOwn", fn := fun _ => fun
  | [d] => { results := [.lit (.bool false)], args := [d] }
  | _ => none }
def FnModelOwnWrongFalsely : Prop := fnModelOwnRow.holds Try.pinned (OpenSpec.ofChange fnModelOwnWrong)

/-- 'laws.FnModelTwice': WHATEVER THE INPUT: true; the input reads as it did. -/
def fnModelTwiceSpec : ChangeSpec := { name := "fnModelTwice", fn := fun _ => fun
  | [d1, d2] => { results := [.lit (.bool true)], args := [d1, d2] }
  | _ => none }
def fnModelTwiceRow : OpenClaim := { program := "ytmfjacbpcgcdjaa", sum := "18bb03c09df5736ffe7eb4d037dd40c5c4c416120ea2e73c484c631f65f9b5ea", func := "pub-colormodels/laws.FnModelTwice", spec := "fnModelTwice", unfollowed := true, recurses := true, apart := false }
def FnModelTwiceSaid : Prop := fnModelTwiceRow.holds Try.pinned (OpenSpec.ofChange fnModelTwiceSpec)

/-- ITS FALSE NEIGHBOUR: 'it returns false'. Refute it at one input. -/
def fnModelTwiceWrong : ChangeSpec := { name := "fnModelTwice", fn := fun _ => fun
  | [d1, d2] => { results := [.lit (.bool false)], args := [d1, d2] }
  | _ => none }
def FnModelTwiceWrongFalsely : Prop := fnModelTwiceRow.holds Try.pinned (OpenSpec.ofChange fnModelTwiceWrong)

/-- 'laws.FnAlphaKeeps': WHATEVER THE INPUT: true; the input reads as it did. -/
def fnAlphaKeepsSpec : ChangeSpec := { name := "fnAlphaKeeps", fn := fun _ => fun
  | [d] => { results := [.lit (.bool true)], args := [d] }
  | _ => none }
def fnAlphaKeepsRow : OpenClaim := { program := "ytmfjacbpcgcdjaa", sum := "18bb03c09df5736ffe7eb4d037dd40c5c4c416120ea2e73c484c631f65f9b5ea", func := "pub-colormodels/laws.FnAlphaKeeps", spec := "fnAlphaKeeps", unfollowed := true, recurses := true, apart := false }
def FnAlphaKeepsSaid : Prop := fnAlphaKeepsRow.holds Try.pinned (OpenSpec.ofChange fnAlphaKeepsSpec)

/-- ITS FALSE NEIGHBOUR: 'it returns false'. Refute it at one input. -/
def fnAlphaKeepsWrong : ChangeSpec := { name := "fnAlphaKeeps", fn := fun _ => fun
  | [d] => { results := [.lit (.bool false)], args := [d] }
  | _ => none }
def FnAlphaKeepsWrongFalsely : Prop := fnAlphaKeepsRow.holds Try.pinned (OpenSpec.ofChange fnAlphaKeepsWrong)

/-- 'laws.FnCMYKModel': WHATEVER THE INPUT: true; the input reads as it did. -/
def fnCMYKModelSpec : ChangeSpec := { name := "fnCMYKModel", fn := fun _ => fun
  | [d1, d2, d3] => { results := [.lit (.bool true)], args := [d1, d2, d3] }
  | _ => none }
def fnCMYKModelRow : OpenClaim := { program := "ytmfjacbpcgcdjaa", sum := "18bb03c09df5736ffe7eb4d037dd40c5c4c416120ea2e73c484c631f65f9b5ea", func := "pub-colormodels/laws.FnCMYKModel", spec := "fnCMYKModel", unfollowed := true, recurses := true, apart := false }
def FnCMYKModelSaid : Prop := fnCMYKModelRow.holds Try.pinned (OpenSpec.ofChange fnCMYKModelSpec)

/-- ITS FALSE NEIGHBOUR: 'it returns false'. Refute it at one input. -/
def fnCMYKModelWrong : ChangeSpec := { name := "fnCMYKModel", fn := fun _ => fun
  | [d1, d2, d3] => { results := [.lit (.bool false)], args := [d1, d2, d3] }
  | _ => none }
def FnCMYKModelWrongFalsely : Prop := fnCMYKModelRow.holds Try.pinned (OpenSpec.ofChange fnCMYKModelWrong)

/-- 'laws.FnGrayLuma': WHATEVER THE INPUT: true; the input reads as it did. -/
def fnGrayLumaSpec : ChangeSpec := { name := "fnGrayLuma", fn := fun _ => fun
  | [d] => { results := [.lit (.bool true)], args := [d] }
  | _ => none }
def fnGrayLumaRow : OpenClaim := { program := "ytmfjacbpcgcdjaa", sum := "18bb03c09df5736ffe7eb4d037dd40c5c4c416120ea2e73c484c631f65f9b5ea", func := "pub-colormodels/laws.FnGrayLuma", spec := "fnGrayLuma", unfollowed := true, recurses := true, apart := false }
def FnGrayLumaSaid : Prop := fnGrayLumaRow.holds Try.pinned (OpenSpec.ofChange fnGrayLumaSpec)

/-- ITS FALSE NEIGHBOUR: 'it returns false'. Refute it at one input. -/
def fnGrayLumaWrong : ChangeSpec := { name := "fnGrayLuma", fn := fun _ => fun
  | [d] => { results := [.lit (.bool false)], args := [d] }
  | _ => none }
def FnGrayLumaWrongFalsely : Prop := fnGrayLumaRow.holds Try.pinned (OpenSpec.ofChange fnGrayLumaWrong)

/-- 'laws.FnGrayMonotone': WHATEVER THE INPUT: true; the input reads as it did. -/
def fnGrayMonotoneSpec : ChangeSpec := { name := "fnGrayMonotone", fn := fun _ => fun
  | [d1, d2] => { results := [.lit (.bool true)], args := [d1, d2] }
  | _ => none }
def fnGrayMonotoneRow : OpenClaim := { program := "ytmfjacbpcgcdjaa", sum := "18bb03c09df5736ffe7eb4d037dd40c5c4c416120ea2e73c484c631f65f9b5ea", func := "pub-colormodels/laws.FnGrayMonotone", spec := "fnGrayMonotone", unfollowed := true, recurses := true, apart := false }
def FnGrayMonotoneSaid : Prop := fnGrayMonotoneRow.holds Try.pinned (OpenSpec.ofChange fnGrayMonotoneSpec)

/-- ITS FALSE NEIGHBOUR: 'it returns false'. Refute it at one input. -/
def fnGrayMonotoneWrong : ChangeSpec := { name := "fnGrayMonotone", fn := fun _ => fun
  | [d1, d2] => { results := [.lit (.bool false)], args := [d1, d2] }
  | _ => none }
def FnGrayMonotoneWrongFalsely : Prop := fnGrayMonotoneRow.holds Try.pinned (OpenSpec.ofChange fnGrayMonotoneWrong)

/- THE SECOND FORM. 'bulk': how many values and letters a reading holds, each counted each time it is reached (what is shared counts as often as it is met; a slice's spare places count too). A statement '..UptoSaid' is the law's where the arguments, and the package variables that the reading takes, are together of bulk at most 1048576: NARROWER than '..Said'. Prove '..Said' where nothing that the law and all that it calls make is longer than what came in: it says more and counts as full. Else prove '..UptoSaid'. A law counts once. -/
mutual
def uptoBulk {H : Type} : DataW H → Nat
  | .lit (.string bytes) => bytes.length + 1
  | .lit _ => 1
  | .nil => 1
  | .ptr d => uptoBulk d + 1
  | .slice elems spare => uptoBulkAll elems + uptoBulkAll spare + 1
  | .agg parts => uptoBulkAll parts + 1
  | .iface _ d => uptoBulk d + 1
  | .map entries => uptoBulkEntries entries + 1
  | .held _ => 1
def uptoBulkAll {H : Type} : List (DataW H) → Nat
  | [] => 0
  | d :: r => uptoBulk d + uptoBulkAll r
def uptoBulkEntries {H : Type} : List (Lit × DataW H) → Nat
  | [] => 0
  | x :: r => uptoBulkEntry x + uptoBulkEntries r
def uptoBulkEntry {H : Type} : Lit × DataW H → Nat
  | (.string bytes, d) => bytes.length + uptoBulk d + 1
  | (_, d) => uptoBulk d + 1
 end
def uptoSmall : (H : Type) → List (DataW H) → Bool := fun _ ds => decide (uptoBulkAll ds ≤ 1048576)
def OpenSpec.upto (s : _root_.Go.ChangeSpec) : _root_.Go.OpenSpec := { _root_.Go.OpenSpec.ofChange s with cond := some uptoSmall }

/-- 'laws.FnRGBANear', WHERE WHAT IT READS IS OF BULK AT MOST 1048576: true; the input reads as it did. -/
def fnRGBANearUptoRow : OpenClaim := { program := "ytmfjacbpcgcdjaa", sum := "18bb03c09df5736ffe7eb4d037dd40c5c4c416120ea2e73c484c631f65f9b5ea", func := "pub-colormodels/laws.FnRGBANear", spec := "fnRGBANear", unfollowed := true, recurses := true, apart := false, narrowed := true }
def FnRGBANearUptoSaid : Prop := fnRGBANearUptoRow.holds Try.pinned (OpenSpec.upto fnRGBANearSpec)

/-- 'laws.FnValuesPremultiplied', WHERE WHAT IT READS IS OF BULK AT MOST 1048576: true; the input reads as it did. -/
def fnValuesPremultipliedUptoRow : OpenClaim := { program := "ytmfjacbpcgcdjaa", sum := "18bb03c09df5736ffe7eb4d037dd40c5c4c416120ea2e73c484c631f65f9b5ea", func := "pub-colormodels/laws.FnValuesPremultiplied", spec := "fnValuesPremultiplied", unfollowed := true, recurses := true, apart := false, narrowed := true }
def FnValuesPremultipliedUptoSaid : Prop := fnValuesPremultipliedUptoRow.holds Try.pinned (OpenSpec.upto fnValuesPremultipliedSpec)

/-- 'laws.FnNYCbCrAValues', WHERE WHAT IT READS IS OF BULK AT MOST 1048576: true; the input reads as it did. -/
def fnNYCbCrAValuesUptoRow : OpenClaim := { program := "ytmfjacbpcgcdjaa", sum := "18bb03c09df5736ffe7eb4d037dd40c5c4c416120ea2e73c484c631f65f9b5ea", func := "pub-colormodels/laws.FnNYCbCrAValues", spec := "fnNYCbCrAValues", unfollowed := true, recurses := true, apart := false, narrowed := true }
def FnNYCbCrAValuesUptoSaid : Prop := fnNYCbCrAValuesUptoRow.holds Try.pinned (OpenSpec.upto fnNYCbCrAValuesSpec)

/-- 'laws.FnYCbCrValues', WHERE WHAT IT READS IS OF BULK AT MOST 1048576: true; the input reads as it did. -/
def fnYCbCrValuesUptoRow : OpenClaim := { program := "ytmfjacbpcgcdjaa", sum := "18bb03c09df5736ffe7eb4d037dd40c5c4c416120ea2e73c484c631f65f9b5ea", func := "pub-colormodels/laws.FnYCbCrValues", spec := "fnYCbCrValues", unfollowed := true, recurses := true, apart := false, narrowed := true }
def FnYCbCrValuesUptoSaid : Prop := fnYCbCrValuesUptoRow.holds Try.pinned (OpenSpec.upto fnYCbCrValuesSpec)

/-- 'laws.FnYCbCrModel', WHERE WHAT IT READS IS OF BULK AT MOST 1048576: true; the input reads as it did. -/
def fnYCbCrModelUptoRow : OpenClaim := { program := "ytmfjacbpcgcdjaa", sum := "18bb03c09df5736ffe7eb4d037dd40c5c4c416120ea2e73c484c631f65f9b5ea", func := "pub-colormodels/laws.FnYCbCrModel", spec := "fnYCbCrModel", unfollowed := true, recurses := true, apart := false, narrowed := true }
def FnYCbCrModelUptoSaid : Prop := fnYCbCrModelUptoRow.holds Try.pinned (OpenSpec.upto fnYCbCrModelSpec)

/-- 'laws.FnModelKind', WHERE WHAT IT READS IS OF BULK AT MOST 1048576: true; the input reads as it did. -/
def fnModelKindUptoRow : OpenClaim := { program := "ytmfjacbpcgcdjaa", sum := "18bb03c09df5736ffe7eb4d037dd40c5c4c416120ea2e73c484c631f65f9b5ea", func := "pub-colormodels/laws.FnModelKind", spec := "fnModelKind", unfollowed := true, recurses := true, apart := false, narrowed := true }
def FnModelKindUptoSaid : Prop := fnModelKindUptoRow.holds Try.pinned (OpenSpec.upto fnModelKindSpec)

/-- 'laws.FnModelOwn', WHERE WHAT IT READS IS OF BULK AT MOST 1048576: true; the input reads as it did. -/
def fnModelOwnUptoRow : OpenClaim := { program := "ytmfjacbpcgcdjaa", sum := "18bb03c09df5736ffe7eb4d037dd40c5c4c416120ea2e73c484c631f65f9b5ea", func := "pub-colormodels/laws.FnModelOwn", spec := "fnModelOwn", unfollowed := true, recurses := true, apart := false, narrowed := true }
def FnModelOwnUptoSaid : Prop := fnModelOwnUptoRow.holds Try.pinned (OpenSpec.upto fnModelOwnSpec)

/-- 'laws.FnModelTwice', WHERE WHAT IT READS IS OF BULK AT MOST 1048576: true; the input reads as it did. -/
def fnModelTwiceUptoRow : OpenClaim := { program := "ytmfjacbpcgcdjaa", sum := "18bb03c09df5736ffe7eb4d037dd40c5c4c416120ea2e73c484c631f65f9b5ea", func := "pub-colormodels/laws.FnModelTwice", spec := "fnModelTwice", unfollowed := true, recurses := true, apart := false, narrowed := true }
def FnModelTwiceUptoSaid : Prop := fnModelTwiceUptoRow.holds Try.pinned (OpenSpec.upto fnModelTwiceSpec)

/-- 'laws.FnAlphaKeeps', WHERE WHAT IT READS IS OF BULK AT MOST 1048576: true; the input reads as it did. -/
def fnAlphaKeepsUptoRow : OpenClaim := { program := "ytmfjacbpcgcdjaa", sum := "18bb03c09df5736ffe7eb4d037dd40c5c4c416120ea2e73c484c631f65f9b5ea", func := "pub-colormodels/laws.FnAlphaKeeps", spec := "fnAlphaKeeps", unfollowed := true, recurses := true, apart := false, narrowed := true }
def FnAlphaKeepsUptoSaid : Prop := fnAlphaKeepsUptoRow.holds Try.pinned (OpenSpec.upto fnAlphaKeepsSpec)

/-- 'laws.FnCMYKModel', WHERE WHAT IT READS IS OF BULK AT MOST 1048576: true; the input reads as it did. -/
def fnCMYKModelUptoRow : OpenClaim := { program := "ytmfjacbpcgcdjaa", sum := "18bb03c09df5736ffe7eb4d037dd40c5c4c416120ea2e73c484c631f65f9b5ea", func := "pub-colormodels/laws.FnCMYKModel", spec := "fnCMYKModel", unfollowed := true, recurses := true, apart := false, narrowed := true }
def FnCMYKModelUptoSaid : Prop := fnCMYKModelUptoRow.holds Try.pinned (OpenSpec.upto fnCMYKModelSpec)

/-- 'laws.FnGrayLuma', WHERE WHAT IT READS IS OF BULK AT MOST 1048576: true; the input reads as it did. -/
def fnGrayLumaUptoRow : OpenClaim := { program := "ytmfjacbpcgcdjaa", sum := "18bb03c09df5736ffe7eb4d037dd40c5c4c416120ea2e73c484c631f65f9b5ea", func := "pub-colormodels/laws.FnGrayLuma", spec := "fnGrayLuma", unfollowed := true, recurses := true, apart := false, narrowed := true }
def FnGrayLumaUptoSaid : Prop := fnGrayLumaUptoRow.holds Try.pinned (OpenSpec.upto fnGrayLumaSpec)

/-- 'laws.FnGrayMonotone', WHERE WHAT IT READS IS OF BULK AT MOST 1048576: true; the input reads as it did. -/
def fnGrayMonotoneUptoRow : OpenClaim := { program := "ytmfjacbpcgcdjaa", sum := "18bb03c09df5736ffe7eb4d037dd40c5c4c416120ea2e73c484c631f65f9b5ea", func := "pub-colormodels/laws.FnGrayMonotone", spec := "fnGrayMonotone", unfollowed := true, recurses := true, apart := false, narrowed := true }
def FnGrayMonotoneUptoSaid : Prop := fnGrayMonotoneUptoRow.holds Try.pinned (OpenSpec.upto fnGrayMonotoneSpec)

end Rows
end Go.Proofs.Ytmfjacbpcgcdjaa
