/-
  No cell of these rows narrows 'for every input' (looked for: loops, veiled, ifaces, maps, wideKeys, modest, calm, conditions, laid).
  DERIVED. THE GIVEN ROWS OF THIS SEAT. 8 by the template 'for every input the law returns true; each argument reads behind the call as it read before'; 0 by the template 'total and deterministic' (their statements: YtbehpaclnpildaaTotals.lean).
  GIVEN WITH THE SEED: the statements are not yours to turn. If you find one false, say at which input.
  Laid BY PROGRAM, IN A SANDBOX (cutbox-rows.mjs): the forced cells as the released guide's own fill.sh prints them over the translation 3c17640bd6af27f5… (all of the seat's roots in one cut). By AI agents, Wed Nov 11 2026. No macro, syntax, notation, axiom, sorry.
-/
import Derived.Test.YtbehpaclnpildaaChecked
import GoSem.Claim
import GoSem.ClaimJoined
import GoSem.ClaimMapViews
import Derived.JoinedTies
import Derived.KernelRfl
namespace Go.Proofs.Ytbehpaclnpildaa
/- THE CELL 'sum', in the pinned program and in every row, IS THE sha256 OF THE DUMP (.gsa) THAT YtbehpaclnpildaaProg.lean LOADS. Nothing in Lean hashes anything: it is a label: what it is worth is what the hold of that sum in a sandbox is worth. -/
noncomputable def Try.pinned : Pinned := { name := "ytbehpaclnpildaa", sum := "3c17640bd6af27f53ed991a7ae15496b1a489f7ff262d1fe689856b88477262f", checked := Try.checked }
namespace Rows
def none {H : Type} : Left H := { results := [], args := [] }

/-- 'laws.FnIndexClosest': WHATEVER THE INPUT: true; the input reads as it did. -/
def fnIndexClosestSpec : ChangeSpec := { name := "fnIndexClosest", fn := fun _ => fun
  | [d1, d2] => { results := [.lit (.bool true)], args := [d1, d2] }
  | _ => none }
def fnIndexClosestRow : OpenClaim := { program := "ytbehpaclnpildaa", sum := "3c17640bd6af27f53ed991a7ae15496b1a489f7ff262d1fe689856b88477262f", func := "pub-colormodels/laws.FnIndexClosest", spec := "fnIndexClosest", unfollowed := true, recurses := true, apart := false }
def FnIndexClosestSaid : Prop := fnIndexClosestRow.holds Try.pinned (OpenSpec.ofChange fnIndexClosestSpec)

/-- ITS FALSE NEIGHBOUR: 'it returns false'. Refute it at one input. -/
def fnIndexClosestWrong : ChangeSpec := { name := "fnIndexClosest", fn := fun _ => fun
  | [d1, d2] => { results := [.lit (.bool false)], args := [d1, d2] }
  | _ => none }
def FnIndexClosestWrongFalsely : Prop := fnIndexClosestRow.holds Try.pinned (OpenSpec.ofChange fnIndexClosestWrong)

/-- 'laws.FnIndexClosestOfBytes': WHATEVER THE INPUT: true; the input reads as it did. -/
def fnIndexClosestOfBytesSpec : ChangeSpec := { name := "fnIndexClosestOfBytes", fn := fun _ => fun
  | [d1, d2] => { results := [.lit (.bool true)], args := [d1, d2] }
  | _ => none }
def fnIndexClosestOfBytesRow : OpenClaim := { program := "ytbehpaclnpildaa", sum := "3c17640bd6af27f53ed991a7ae15496b1a489f7ff262d1fe689856b88477262f", func := "pub-colormodels/laws.FnIndexClosestOfBytes", spec := "fnIndexClosestOfBytes", unfollowed := true, recurses := true, apart := false }
def FnIndexClosestOfBytesSaid : Prop := fnIndexClosestOfBytesRow.holds Try.pinned (OpenSpec.ofChange fnIndexClosestOfBytesSpec)

/-- ITS FALSE NEIGHBOUR: 'it returns false'. Refute it at one input. -/
def fnIndexClosestOfBytesWrong : ChangeSpec := { name := "fnIndexClosestOfBytes", fn := fun _ => fun
  | [d1, d2] => { results := [.lit (.bool false)], args := [d1, d2] }
  | _ => none }
def FnIndexClosestOfBytesWrongFalsely : Prop := fnIndexClosestOfBytesRow.holds Try.pinned (OpenSpec.ofChange fnIndexClosestOfBytesWrong)

/-- 'laws.FnIndexOfMember': WHATEVER THE INPUT: true; the input reads as it did. -/
def fnIndexOfMemberSpec : ChangeSpec := { name := "fnIndexOfMember", fn := fun _ => fun
  | [d1, d2] => { results := [.lit (.bool true)], args := [d1, d2] }
  | _ => none }
def fnIndexOfMemberRow : OpenClaim := { program := "ytbehpaclnpildaa", sum := "3c17640bd6af27f53ed991a7ae15496b1a489f7ff262d1fe689856b88477262f", func := "pub-colormodels/laws.FnIndexOfMember", spec := "fnIndexOfMember", unfollowed := true, recurses := true, apart := false }
def FnIndexOfMemberSaid : Prop := fnIndexOfMemberRow.holds Try.pinned (OpenSpec.ofChange fnIndexOfMemberSpec)

/-- ITS FALSE NEIGHBOUR: 'it returns false'. Refute it at one input. -/
def fnIndexOfMemberWrong : ChangeSpec := { name := "fnIndexOfMember", fn := fun _ => fun
  | [d1, d2] => { results := [.lit (.bool false)], args := [d1, d2] }
  | _ => none }
def FnIndexOfMemberWrongFalsely : Prop := fnIndexOfMemberRow.holds Try.pinned (OpenSpec.ofChange fnIndexOfMemberWrong)

/-- 'laws.FnMoreColorsAreCloser': WHATEVER THE INPUT: true; the input reads as it did. -/
def fnMoreColorsAreCloserSpec : ChangeSpec := { name := "fnMoreColorsAreCloser", fn := fun _ => fun
  | [d1, d2, d3] => { results := [.lit (.bool true)], args := [d1, d2, d3] }
  | _ => none }
def fnMoreColorsAreCloserRow : OpenClaim := { program := "ytbehpaclnpildaa", sum := "3c17640bd6af27f53ed991a7ae15496b1a489f7ff262d1fe689856b88477262f", func := "pub-colormodels/laws.FnMoreColorsAreCloser", spec := "fnMoreColorsAreCloser", unfollowed := true, recurses := true, apart := false }
def FnMoreColorsAreCloserSaid : Prop := fnMoreColorsAreCloserRow.holds Try.pinned (OpenSpec.ofChange fnMoreColorsAreCloserSpec)

/-- ITS FALSE NEIGHBOUR: 'it returns false'. Refute it at one input. -/
def fnMoreColorsAreCloserWrong : ChangeSpec := { name := "fnMoreColorsAreCloser", fn := fun _ => fun
  | [d1, d2, d3] => { results := [.lit (.bool false)], args := [d1, d2, d3] }
  | _ => none }
def FnMoreColorsAreCloserWrongFalsely : Prop := fnMoreColorsAreCloserRow.holds Try.pinned (OpenSpec.ofChange fnMoreColorsAreCloserWrong)

/-- 'laws.FnIndexInAnyOrder': WHATEVER THE INPUT: true; the input reads as it did. -/
def fnIndexInAnyOrderSpec : ChangeSpec := { name := "fnIndexInAnyOrder", fn := fun _ => fun
  | [d1, d2] => { results := [.lit (.bool true)], args := [d1, d2] }
  | _ => none }
def fnIndexInAnyOrderRow : OpenClaim := { program := "ytbehpaclnpildaa", sum := "3c17640bd6af27f53ed991a7ae15496b1a489f7ff262d1fe689856b88477262f", func := "pub-colormodels/laws.FnIndexInAnyOrder", spec := "fnIndexInAnyOrder", unfollowed := true, recurses := true, apart := false }
def FnIndexInAnyOrderSaid : Prop := fnIndexInAnyOrderRow.holds Try.pinned (OpenSpec.ofChange fnIndexInAnyOrderSpec)

/-- ITS FALSE NEIGHBOUR: 'it returns false'. Refute it at one input. -/
def fnIndexInAnyOrderWrong : ChangeSpec := { name := "fnIndexInAnyOrder", fn := fun _ => fun
  | [d1, d2] => { results := [.lit (.bool false)], args := [d1, d2] }
  | _ => none }
def FnIndexInAnyOrderWrongFalsely : Prop := fnIndexInAnyOrderRow.holds Try.pinned (OpenSpec.ofChange fnIndexInAnyOrderWrong)

/-- 'laws.FnOneColor': WHATEVER THE INPUT: true; the input reads as it did. -/
def fnOneColorSpec : ChangeSpec := { name := "fnOneColor", fn := fun _ => fun
  | [d1, d2] => { results := [.lit (.bool true)], args := [d1, d2] }
  | _ => none }
def fnOneColorRow : OpenClaim := { program := "ytbehpaclnpildaa", sum := "3c17640bd6af27f53ed991a7ae15496b1a489f7ff262d1fe689856b88477262f", func := "pub-colormodels/laws.FnOneColor", spec := "fnOneColor", unfollowed := true, recurses := true, apart := false }
def FnOneColorSaid : Prop := fnOneColorRow.holds Try.pinned (OpenSpec.ofChange fnOneColorSpec)

/-- ITS FALSE NEIGHBOUR: 'it returns false'. Refute it at one input. -/
def fnOneColorWrong : ChangeSpec := { name := "fnOneColor", fn := fun _ => fun
  | [d1, d2] => { results := [.lit (.bool false)], args := [d1, d2] }
  | _ => none }
def FnOneColorWrongFalsely : Prop := fnOneColorRow.holds Try.pinned (OpenSpec.ofChange fnOneColorWrong)

/-- 'laws.FnClosestIsIndexed': WHATEVER THE INPUT: true; the input reads as it did. -/
def fnClosestIsIndexedSpec : ChangeSpec := { name := "fnClosestIsIndexed", fn := fun _ => fun
  | [d1, d2] => { results := [.lit (.bool true)], args := [d1, d2] }
  | _ => none }
def fnClosestIsIndexedRow : OpenClaim := { program := "ytbehpaclnpildaa", sum := "3c17640bd6af27f53ed991a7ae15496b1a489f7ff262d1fe689856b88477262f", func := "pub-colormodels/laws.FnClosestIsIndexed", spec := "fnClosestIsIndexed", unfollowed := true, recurses := true, apart := false }
def FnClosestIsIndexedSaid : Prop := fnClosestIsIndexedRow.holds Try.pinned (OpenSpec.ofChange fnClosestIsIndexedSpec)

/-- ITS FALSE NEIGHBOUR: 'it returns false'. Refute it at one input. -/
def fnClosestIsIndexedWrong : ChangeSpec := { name := "fnClosestIsIndexed", fn := fun _ => fun
  | [d1, d2] => { results := [.lit (.bool false)], args := [d1, d2] }
  | _ => none }
def FnClosestIsIndexedWrongFalsely : Prop := fnClosestIsIndexedRow.holds Try.pinned (OpenSpec.ofChange fnClosestIsIndexedWrong)

/-- 'laws.FnClosestTwice': WHATEVER THE INPUT: true; the input reads as it did. -/
def fnClosestTwiceSpec : ChangeSpec := { name := "fnClosestTwice", fn := fun _ => fun
  | [d1, d2] => { results := [.lit (.bool true)], args := [d1, d2] }
  | _ => none }
def fnClosestTwiceRow : OpenClaim := { program := "ytbehpaclnpildaa", sum := "3c17640bd6af27f53ed991a7ae15496b1a489f7ff262d1fe689856b88477262f", func := "pub-colormodels/laws.FnClosestTwice", spec := "fnClosestTwice", unfollowed := true, recurses := true, apart := false }
def FnClosestTwiceSaid : Prop := fnClosestTwiceRow.holds Try.pinned (OpenSpec.ofChange fnClosestTwiceSpec)

/-- ITS FALSE NEIGHBOUR: 'it returns false'. Refute it at one input. -/
def fnClosestTwiceWrong : ChangeSpec := { name := "fnClosestTwice", fn := fun _ => fun
  | [d1, d2] => { results := [.lit (.bool false)], args := [d1, d2] }
  | _ => none }
def FnClosestTwiceWrongFalsely : Prop := fnClosestTwiceRow.holds Try.pinned (OpenSpec.ofChange fnClosestTwiceWrong)

/- THE SECOND FORM. 'bulk': how many values and letters a reading holds, each counted each time it is reached (what is shared counts as often as it is met; a slice's spare places count too). A statement '..UptoSaid' is the law's where the arguments, and the package variables that the reading takes, are together of bulk at most 1048576: NARROWER than '..Said'. Prove '..Said' where nothing that the law and all that it calls make is longer than what came in: it says more and counts as full. Else prove '..UptoSaid'. A law counts once. -/
mutual
def uptoBulk {H : Type} : DataW H → Nat
  | .lit (.string bytes) => bytes.length + 1
  | .lit _ => 1
  | .nil => 1
  | .ptr d => uptoBulk d + 1
  | .slice elems spare => uptoBulkAll elems + uptoBulkAll spare + 1
  | .agg parts => uptoBulkAll parts + 1
  | .iface _ d => uptoBulk d + 1
  | .map entries => uptoBulkEntries entries + 1
  | .held _ => 1
def uptoBulkAll {H : Type} : List (DataW H) → Nat
  | [] => 0
  | d :: r => uptoBulk d + uptoBulkAll r
def uptoBulkEntries {H : Type} : List (Lit × DataW H) → Nat
  | [] => 0
  | x :: r => uptoBulkEntry x + uptoBulkEntries r
def uptoBulkEntry {H : Type} : Lit × DataW H → Nat
  | (.string bytes, d) => bytes.length + uptoBulk d + 1
  | (_, d) => uptoBulk d + 1
 end
def uptoSmall : (H : Type) → List (DataW H) → Bool := fun _ ds => decide (uptoBulkAll ds ≤ 1048576)
def OpenSpec.upto (s : _root_.Go.ChangeSpec) : _root_.Go.OpenSpec := { _root_.Go.OpenSpec.ofChange s with cond := some uptoSmall }

/-- 'laws.FnIndexClosest', WHERE WHAT IT READS IS OF BULK AT MOST 1048576: true; the input reads as it did. -/
def fnIndexClosestUptoRow : OpenClaim := { program := "ytbehpaclnpildaa", sum := "3c17640bd6af27f53ed991a7ae15496b1a489f7ff262d1fe689856b88477262f", func := "pub-colormodels/laws.FnIndexClosest", spec := "fnIndexClosest", unfollowed := true, recurses := true, apart := false, narrowed := true }
def FnIndexClosestUptoSaid : Prop := fnIndexClosestUptoRow.holds Try.pinned (OpenSpec.upto fnIndexClosestSpec)

/-- 'laws.FnIndexClosestOfBytes', WHERE WHAT IT READS IS OF BULK AT MOST 1048576: true; the input reads as it did. -/
def fnIndexClosestOfBytesUptoRow : OpenClaim := { program := "ytbehpaclnpildaa", sum := "3c17640bd6af27f53ed991a7ae15496b1a489f7ff262d1fe689856b88477262f", func := "pub-colormodels/laws.FnIndexClosestOfBytes", spec := "fnIndexClosestOfBytes", unfollowed := true, recurses := true, apart := false, narrowed := true }
def FnIndexClosestOfBytesUptoSaid : Prop := fnIndexClosestOfBytesUptoRow.holds Try.pinned (OpenSpec.upto fnIndexClosestOfBytesSpec)

/-- 'laws.FnIndexOfMember', WHERE WHAT IT READS IS OF BULK AT MOST 1048576: true; the input reads as it did. -/
def fnIndexOfMemberUptoRow : OpenClaim := { program := "ytbehpaclnpildaa", sum := "3c17640bd6af27f53ed991a7ae15496b1a489f7ff262d1fe689856b88477262f", func := "pub-colormodels/laws.FnIndexOfMember", spec := "fnIndexOfMember", unfollowed := true, recurses := true, apart := false, narrowed := true }
def FnIndexOfMemberUptoSaid : Prop := fnIndexOfMemberUptoRow.holds Try.pinned (OpenSpec.upto fnIndexOfMemberSpec)

/-- 'laws.FnMoreColorsAreCloser', WHERE WHAT IT READS IS OF BULK AT MOST 1048576: true; the input reads as it did. -/
def fnMoreColorsAreCloserUptoRow : OpenClaim := { program := "ytbehpaclnpildaa", sum := "3c17640bd6af27f53ed991a7ae15496b1a489f7ff262d1fe689856b88477262f", func := "pub-colormodels/laws.FnMoreColorsAreCloser", spec := "fnMoreColorsAreCloser", unfollowed := true, recurses := true, apart := false, narrowed := true }
def FnMoreColorsAreCloserUptoSaid : Prop := fnMoreColorsAreCloserUptoRow.holds Try.pinned (OpenSpec.upto fnMoreColorsAreCloserSpec)

/-- 'laws.FnIndexInAnyOrder', WHERE WHAT IT READS IS OF BULK AT MOST 1048576: true; the input reads as it did. -/
def fnIndexInAnyOrderUptoRow : OpenClaim := { program := "ytbehpaclnpildaa", sum := "3c17640bd6af27f53ed991a7ae15496b1a489f7ff262d1fe689856b88477262f", func := "pub-colormodels/laws.FnIndexInAnyOrder", spec := "fnIndexInAnyOrder", unfollowed := true, recurses := true, apart := false, narrowed := true }
def FnIndexInAnyOrderUptoSaid : Prop := fnIndexInAnyOrderUptoRow.holds Try.pinned (OpenSpec.upto fnIndexInAnyOrderSpec)

/-- 'laws.FnOneColor', WHERE WHAT IT READS IS OF BULK AT MOST 1048576: true; the input reads as it did. -/
def fnOneColorUptoRow : OpenClaim := { program := "ytbehpaclnpildaa", sum := "3c17640bd6af27f53ed991a7ae15496b1a489f7ff262d1fe689856b88477262f", func := "pub-colormodels/laws.FnOneColor", spec := "fnOneColor", unfollowed := true, recurses := true, apart := false, narrowed := true }
def FnOneColorUptoSaid : Prop := fnOneColorUptoRow.holds Try.pinned (OpenSpec.upto fnOneColorSpec)

/-- 'laws.FnClosestIsIndexed', WHERE WHAT IT READS IS OF BULK AT MOST 1048576: true; the input reads as it did. -/
def fnClosestIsIndexedUptoRow : OpenClaim := { program := "ytbehpaclnpildaa", sum := "3c17640bd6af27f53ed991a7ae15496b1a489f7ff262d1fe689856b88477262f", func := "pub-colormodels/laws.FnClosestIsIndexed", spec := "fnClosestIsIndexed", unfollowed := true, recurses := true, apart := false, narrowed := true }
def FnClosestIsIndexedUptoSaid : Prop := fnClosestIsIndexedUptoRow.holds Try.pinned (OpenSpec.upto fnClosestIsIndexedSpec)

/-- 'laws.FnClosestTwice', WHERE WHAT IT READS IS OF BULK AT MOST 1048576: true; the input reads as it did. -/
def fnClosestTwiceUptoRow : OpenClaim := { program := "ytbehpaclnpildaa", sum := "3c17640bd6af27f53ed991a7ae15496b1a489f7ff262d1fe689856b88477262f", func := "pub-colormodels/laws.FnClosestTwice", spec := "fnClosestTwice", unfollowed := true, recurses := true, apart := false, narrowed := true }
def FnClosestTwiceUptoSaid : Prop := fnClosestTwiceUptoRow.holds Try.pinned (OpenSpec.upto fnClosestTwiceSpec)

end Rows
end Go.Proofs.Ytbehpaclnpildaa
