/-
  No cell of these rows narrows 'for every input' (looked for: loops, veiled, ifaces, maps, wideKeys, modest, calm, conditions, laid).
  DERIVED. THE GIVEN ROWS OF THIS SEAT. 8 by the template 'for every input the law returns true; each argument reads behind the call as it read before'; 0 by the template 'total and deterministic' (their statements: YtogbagjgagbnkaaTotals.lean).
  GIVEN WITH THE SEED: the statements are not yours to turn. If you find one false, say at which input.
  Laid BY PROGRAM, IN A SANDBOX (cutbox-rows.mjs): the forced cells as the released guide's own fill.sh prints them over the translation f4bb70610908647a… (all of the seat's roots in one cut). By AI agents, Wed Nov 11 2026. No macro, syntax, notation, axiom, sorry.
-/
import Derived.Test.YtogbagjgagbnkaaChecked
import GoSem.Claim
import GoSem.ClaimJoined
import GoSem.ClaimMapViews
import Derived.JoinedTies
import Derived.KernelRfl
namespace Go.Proofs.Ytogbagjgagbnkaa
/- THE CELL 'sum', in the pinned program and in every row, IS THE sha256 OF THE DUMP (.gsa) THAT YtogbagjgagbnkaaProg.lean LOADS. Nothing in Lean hashes anything: it is a label: what it is worth is what the hold of that sum in a sandbox is worth. -/
noncomputable def Try.pinned : Pinned := { name := "ytogbagjgagbnkaa", sum := "f4bb70610908647a42c7c005a5f21f38236cf0cd83d9022bec11816d3a687107", checked := Try.checked }
namespace Rows
def none {H : Type} : Left H := { results := [], args := [] }

/-- 'laws.FnCMYKMonotone': WHATEVER THE INPUT: true; the input reads as it did. -/
def fnCMYKMonotoneSpec : ChangeSpec := { name := "fnCMYKMonotone", fn := fun _ => fun
  | [d1, d2, d3, d4, d5] => { results := [.lit (.bool true)], args := [d1, d2, d3, d4, d5] }
  | _ => none }
def fnCMYKMonotoneRow : OpenClaim := { program := "ytogbagjgagbnkaa", sum := "f4bb70610908647a42c7c005a5f21f38236cf0cd83d9022bec11816d3a687107", func := "pub-colormodels/laws.FnCMYKMonotone", spec := "fnCMYKMonotone", apart := false }
def FnCMYKMonotoneSaid : Prop := fnCMYKMonotoneRow.holds Try.pinned (OpenSpec.ofChange fnCMYKMonotoneSpec)

/-- ITS FALSE NEIGHBOUR: 'it returns false'. Refute it at one input. -/
def fnCMYKMonotoneWrong : ChangeSpec := { name := "fnCMYKMonotone", fn := fun _ => fun
  | [d1, d2, d3, d4, d5] => { results := [.lit (.bool false)], args := [d1, d2, d3, d4, d5] }
  | _ => none }
def FnCMYKMonotoneWrongFalsely : Prop := fnCMYKMonotoneRow.holds Try.pinned (OpenSpec.ofChange fnCMYKMonotoneWrong)

/-- 'laws.FnCMYKBlackest': WHATEVER THE INPUT: true; the input reads as it did. -/
def fnCMYKBlackestSpec : ChangeSpec := { name := "fnCMYKBlackest", fn := fun _ => fun
  | [d1, d2, d3] => { results := [.lit (.bool true)], args := [d1, d2, d3] }
  | _ => none }
def fnCMYKBlackestRow : OpenClaim := { program := "ytogbagjgagbnkaa", sum := "f4bb70610908647a42c7c005a5f21f38236cf0cd83d9022bec11816d3a687107", func := "pub-colormodels/laws.FnCMYKBlackest", spec := "fnCMYKBlackest", apart := false }
def FnCMYKBlackestSaid : Prop := fnCMYKBlackestRow.holds Try.pinned (OpenSpec.ofChange fnCMYKBlackestSpec)

/-- ITS FALSE NEIGHBOUR: 'it returns false'. Refute it at one input. -/
def fnCMYKBlackestWrong : ChangeSpec := { name := "fnCMYKBlackest", fn := fun _ => fun
  | [d1, d2, d3] => { results := [.lit (.bool false)], args := [d1, d2, d3] }
  | _ => none }
def FnCMYKBlackestWrongFalsely : Prop := fnCMYKBlackestRow.holds Try.pinned (OpenSpec.ofChange fnCMYKBlackestWrong)

/-- 'laws.FnCMYKBack': WHATEVER THE INPUT: true; the input reads as it did. -/
def fnCMYKBackSpec : ChangeSpec := { name := "fnCMYKBack", fn := fun _ => fun
  | [d1, d2, d3] => { results := [.lit (.bool true)], args := [d1, d2, d3] }
  | _ => none }
def fnCMYKBackRow : OpenClaim := { program := "ytogbagjgagbnkaa", sum := "f4bb70610908647a42c7c005a5f21f38236cf0cd83d9022bec11816d3a687107", func := "pub-colormodels/laws.FnCMYKBack", spec := "fnCMYKBack", apart := false }
def FnCMYKBackSaid : Prop := fnCMYKBackRow.holds Try.pinned (OpenSpec.ofChange fnCMYKBackSpec)

/-- ITS FALSE NEIGHBOUR: 'it returns false'. Refute it at one input. -/
def fnCMYKBackWrong : ChangeSpec := { name := "fnCMYKBack", fn := fun _ => fun
  | [d1, d2, d3] => { results := [.lit (.bool false)], args := [d1, d2, d3] }
  | _ => none }
def FnCMYKBackWrongFalsely : Prop := fnCMYKBackRow.holds Try.pinned (OpenSpec.ofChange fnCMYKBackWrong)

/-- 'laws.FnYCbCrByJFIF': WHATEVER THE INPUT: true; the input reads as it did. -/
def fnYCbCrByJFIFSpec : ChangeSpec := { name := "fnYCbCrByJFIF", fn := fun _ => fun
  | [d1, d2, d3] => { results := [.lit (.bool true)], args := [d1, d2, d3] }
  | _ => none }
def fnYCbCrByJFIFRow : OpenClaim := { program := "ytogbagjgagbnkaa", sum := "f4bb70610908647a42c7c005a5f21f38236cf0cd83d9022bec11816d3a687107", func := "pub-colormodels/laws.FnYCbCrByJFIF", spec := "fnYCbCrByJFIF", apart := false }
def FnYCbCrByJFIFSaid : Prop := fnYCbCrByJFIFRow.holds Try.pinned (OpenSpec.ofChange fnYCbCrByJFIFSpec)

/-- ITS FALSE NEIGHBOUR: 'it returns false'. Refute it at one input. -/
def fnYCbCrByJFIFWrong : ChangeSpec := { name := "fnYCbCrByJFIF", fn := fun _ => fun
  | [d1, d2, d3] => { results := [.lit (.bool false)], args := [d1, d2, d3] }
  | _ => none }
def FnYCbCrByJFIFWrongFalsely : Prop := fnYCbCrByJFIFRow.holds Try.pinned (OpenSpec.ofChange fnYCbCrByJFIFWrong)

/-- 'laws.FnRGBByJFIF': WHATEVER THE INPUT: true; the input reads as it did. -/
def fnRGBByJFIFSpec : ChangeSpec := { name := "fnRGBByJFIF", fn := fun _ => fun
  | [d1, d2, d3] => { results := [.lit (.bool true)], args := [d1, d2, d3] }
  | _ => none }
def fnRGBByJFIFRow : OpenClaim := { program := "ytogbagjgagbnkaa", sum := "f4bb70610908647a42c7c005a5f21f38236cf0cd83d9022bec11816d3a687107", func := "pub-colormodels/laws.FnRGBByJFIF", spec := "fnRGBByJFIF", apart := false }
def FnRGBByJFIFSaid : Prop := fnRGBByJFIFRow.holds Try.pinned (OpenSpec.ofChange fnRGBByJFIFSpec)

/-- ITS FALSE NEIGHBOUR: 'it returns false'. Refute it at one input. -/
def fnRGBByJFIFWrong : ChangeSpec := { name := "fnRGBByJFIF", fn := fun _ => fun
  | [d1, d2, d3] => { results := [.lit (.bool false)], args := [d1, d2, d3] }
  | _ => none }
def FnRGBByJFIFWrongFalsely : Prop := fnRGBByJFIFRow.holds Try.pinned (OpenSpec.ofChange fnRGBByJFIFWrong)

/-- 'laws.FnYCbCrMonotone': WHATEVER THE INPUT: true; the input reads as it did. -/
def fnYCbCrMonotoneSpec : ChangeSpec := { name := "fnYCbCrMonotone", fn := fun _ => fun
  | [d1, d2, d3, d4] => { results := [.lit (.bool true)], args := [d1, d2, d3, d4] }
  | _ => none }
def fnYCbCrMonotoneRow : OpenClaim := { program := "ytogbagjgagbnkaa", sum := "f4bb70610908647a42c7c005a5f21f38236cf0cd83d9022bec11816d3a687107", func := "pub-colormodels/laws.FnYCbCrMonotone", spec := "fnYCbCrMonotone", apart := false }
def FnYCbCrMonotoneSaid : Prop := fnYCbCrMonotoneRow.holds Try.pinned (OpenSpec.ofChange fnYCbCrMonotoneSpec)

/-- ITS FALSE NEIGHBOUR: 'it returns false'. Refute it at one input. -/
def fnYCbCrMonotoneWrong : ChangeSpec := { name := "fnYCbCrMonotone", fn := fun _ => fun
  | [d1, d2, d3, d4] => { results := [.lit (.bool false)], args := [d1, d2, d3, d4] }
  | _ => none }
def FnYCbCrMonotoneWrongFalsely : Prop := fnYCbCrMonotoneRow.holds Try.pinned (OpenSpec.ofChange fnYCbCrMonotoneWrong)

/-- 'laws.FnGrayHasNoChroma': WHATEVER THE INPUT: true; the input reads as it did. -/
def fnGrayHasNoChromaSpec : ChangeSpec := { name := "fnGrayHasNoChroma", fn := fun _ => fun
  | [d] => { results := [.lit (.bool true)], args := [d] }
  | _ => none }
def fnGrayHasNoChromaRow : OpenClaim := { program := "ytogbagjgagbnkaa", sum := "f4bb70610908647a42c7c005a5f21f38236cf0cd83d9022bec11816d3a687107", func := "pub-colormodels/laws.FnGrayHasNoChroma", spec := "fnGrayHasNoChroma", apart := false }
def FnGrayHasNoChromaSaid : Prop := fnGrayHasNoChromaRow.holds Try.pinned (OpenSpec.ofChange fnGrayHasNoChromaSpec)

/-- ITS FALSE NEIGHBOUR: 'it returns false'. Refute it at one input. -/
def fnGrayHasNoChromaWrong : ChangeSpec := { name := "fnGrayHasNoChroma", fn := fun _ => fun
  | [d] => { results := [.lit (.bool false)], args := [d] }
  | _ => none }
def FnGrayHasNoChromaWrongFalsely : Prop := fnGrayHasNoChromaRow.holds Try.pinned (OpenSpec.ofChange fnGrayHasNoChromaWrong)

/-- 'laws.FnYCbCrBack': WHATEVER THE INPUT: true; the input reads as it did. -/
def fnYCbCrBackSpec : ChangeSpec := { name := "fnYCbCrBack", fn := fun _ => fun
  | [d1, d2, d3] => { results := [.lit (.bool true)], args := [d1, d2, d3] }
  | _ => none }
def fnYCbCrBackRow : OpenClaim := { program := "ytogbagjgagbnkaa", sum := "f4bb70610908647a42c7c005a5f21f38236cf0cd83d9022bec11816d3a687107", func := "pub-colormodels/laws.FnYCbCrBack", spec := "fnYCbCrBack", apart := false }
def FnYCbCrBackSaid : Prop := fnYCbCrBackRow.holds Try.pinned (OpenSpec.ofChange fnYCbCrBackSpec)

/-- ITS FALSE NEIGHBOUR: 'it returns false'. Refute it at one input. -/
def fnYCbCrBackWrong : ChangeSpec := { name := "fnYCbCrBack", fn := fun _ => fun
  | [d1, d2, d3] => { results := [.lit (.bool false)], args := [d1, d2, d3] }
  | _ => none }
def FnYCbCrBackWrongFalsely : Prop := fnYCbCrBackRow.holds Try.pinned (OpenSpec.ofChange fnYCbCrBackWrong)

/- THE SECOND FORM. 'bulk': how many values and letters a reading holds, each counted each time it is reached (what is shared counts as often as it is met; a slice's spare places count too). A statement '..UptoSaid' is the law's where the arguments, and the package variables that the reading takes, are together of bulk at most 1048576: NARROWER than '..Said'. Prove '..Said' where nothing that the law and all that it calls make is longer than what came in: it says more and counts as full. Else prove '..UptoSaid'. A law counts once. -/
mutual
def uptoBulk {H : Type} : DataW H → Nat
  | .lit (.string bytes) => bytes.length + 1
  | .lit _ => 1
  | .nil => 1
  | .ptr d => uptoBulk d + 1
  | .slice elems spare => uptoBulkAll elems + uptoBulkAll spare + 1
  | .agg parts => uptoBulkAll parts + 1
  | .iface _ d => uptoBulk d + 1
  | .map entries => uptoBulkEntries entries + 1
  | .held _ => 1
def uptoBulkAll {H : Type} : List (DataW H) → Nat
  | [] => 0
  | d :: r => uptoBulk d + uptoBulkAll r
def uptoBulkEntries {H : Type} : List (Lit × DataW H) → Nat
  | [] => 0
  | x :: r => uptoBulkEntry x + uptoBulkEntries r
def uptoBulkEntry {H : Type} : Lit × DataW H → Nat
  | (.string bytes, d) => bytes.length + uptoBulk d + 1
  | (_, d) => uptoBulk d + 1
 end
def uptoSmall : (H : Type) → List (DataW H) → Bool := fun _ ds => decide (uptoBulkAll ds ≤ 1048576)
def OpenSpec.upto (s : _root_.Go.ChangeSpec) : _root_.Go.OpenSpec := { _root_.Go.OpenSpec.ofChange s with cond := some uptoSmall }

/-- 'laws.FnCMYKMonotone', WHERE WHAT IT READS IS OF BULK AT MOST 1048576: true; the input reads as it did. -/
def fnCMYKMonotoneUptoRow : OpenClaim := { program := "ytogbagjgagbnkaa", sum := "f4bb70610908647a42c7c005a5f21f38236cf0cd83d9022bec11816d3a687107", func := "pub-colormodels/laws.FnCMYKMonotone", spec := "fnCMYKMonotone", apart := false, narrowed := true }
def FnCMYKMonotoneUptoSaid : Prop := fnCMYKMonotoneUptoRow.holds Try.pinned (OpenSpec.upto fnCMYKMonotoneSpec)

/-- 'laws.FnCMYKBlackest', WHERE WHAT IT READS IS OF BULK AT MOST 1048576: true; the input reads as it did. -/
def fnCMYKBlackestUptoRow : OpenClaim := { program := "ytogbagjgagbnkaa", sum := "f4bb70610908647a42c7c005a5f21f38236cf0cd83d9022bec11816d3a687107", func := "pub-colormodels/laws.FnCMYKBlackest", spec := "fnCMYKBlackest", apart := false, narrowed := true }
def FnCMYKBlackestUptoSaid : Prop := fnCMYKBlackestUptoRow.holds Try.pinned (OpenSpec.upto fnCMYKBlackestSpec)

/-- 'laws.FnCMYKBack', WHERE WHAT IT READS IS OF BULK AT MOST 1048576: true; the input reads as it did. -/
def fnCMYKBackUptoRow : OpenClaim := { program := "ytogbagjgagbnkaa", sum := "f4bb70610908647a42c7c005a5f21f38236cf0cd83d9022bec11816d3a687107", func := "pub-colormodels/laws.FnCMYKBack", spec := "fnCMYKBack", apart := false, narrowed := true }
def FnCMYKBackUptoSaid : Prop := fnCMYKBackUptoRow.holds Try.pinned (OpenSpec.upto fnCMYKBackSpec)

/-- 'laws.FnYCbCrByJFIF', WHERE WHAT IT READS IS OF BULK AT MOST 1048576: true; the input reads as it did. -/
def fnYCbCrByJFIFUptoRow : OpenClaim := { program := "ytogbagjgagbnkaa", sum := "f4bb70610908647a42c7c005a5f21f38236cf0cd83d9022bec11816d3a687107", func := "pub-colormodels/laws.FnYCbCrByJFIF", spec := "fnYCbCrByJFIF", apart := false, narrowed := true }
def FnYCbCrByJFIFUptoSaid : Prop := fnYCbCrByJFIFUptoRow.holds Try.pinned (OpenSpec.upto fnYCbCrByJFIFSpec)

/-- 'laws.FnRGBByJFIF', WHERE WHAT IT READS IS OF BULK AT MOST 1048576: true; the input reads as it did. -/
def fnRGBByJFIFUptoRow : OpenClaim := { program := "ytogbagjgagbnkaa", sum := "f4bb70610908647a42c7c005a5f21f38236cf0cd83d9022bec11816d3a687107", func := "pub-colormodels/laws.FnRGBByJFIF", spec := "fnRGBByJFIF", apart := false, narrowed := true }
def FnRGBByJFIFUptoSaid : Prop := fnRGBByJFIFUptoRow.holds Try.pinned (OpenSpec.upto fnRGBByJFIFSpec)

/-- 'laws.FnYCbCrMonotone', WHERE WHAT IT READS IS OF BULK AT MOST 1048576: true; the input reads as it did. -/
def fnYCbCrMonotoneUptoRow : OpenClaim := { program := "ytogbagjgagbnkaa", sum := "f4bb70610908647a42c7c005a5f21f38236cf0cd83d9022bec11816d3a687107", func := "pub-colormodels/laws.FnYCbCrMonotone", spec := "fnYCbCrMonotone", apart := false, narrowed := true }
def FnYCbCrMonotoneUptoSaid : Prop := fnYCbCrMonotoneUptoRow.holds Try.pinned (OpenSpec.upto fnYCbCrMonotoneSpec)

/-- 'laws.FnGrayHasNoChroma', WHERE WHAT IT READS IS OF BULK AT MOST 1048576: true; the input reads as it did. -/
def fnGrayHasNoChromaUptoRow : OpenClaim := { program := "ytogbagjgagbnkaa", sum := "f4bb70610908647a42c7c005a5f21f38236cf0cd83d9022bec11816d3a687107", func := "pub-colormodels/laws.FnGrayHasNoChroma", spec := "fnGrayHasNoChroma", apart := false, narrowed := true }
def FnGrayHasNoChromaUptoSaid : Prop := fnGrayHasNoChromaUptoRow.holds Try.pinned (OpenSpec.upto fnGrayHasNoChromaSpec)

/-- 'laws.FnYCbCrBack', WHERE WHAT IT READS IS OF BULK AT MOST 1048576: true; the input reads as it did. -/
def fnYCbCrBackUptoRow : OpenClaim := { program := "ytogbagjgagbnkaa", sum := "f4bb70610908647a42c7c005a5f21f38236cf0cd83d9022bec11816d3a687107", func := "pub-colormodels/laws.FnYCbCrBack", spec := "fnYCbCrBack", apart := false, narrowed := true }
def FnYCbCrBackUptoSaid : Prop := fnYCbCrBackUptoRow.holds Try.pinned (OpenSpec.upto fnYCbCrBackSpec)

end Rows
end Go.Proofs.Ytogbagjgagbnkaa
