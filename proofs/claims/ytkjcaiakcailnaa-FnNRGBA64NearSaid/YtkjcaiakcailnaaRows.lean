/-
  No cell of these rows narrows 'for every input' (looked for: loops, veiled, ifaces, maps, wideKeys, modest, calm, conditions, laid).
  DERIVED. THE GIVEN ROWS OF THIS SEAT. 6 by the template 'for every input the law returns true; each argument reads behind the call as it read before'; 0 by the template 'total and deterministic' (their statements: YtkjcaiakcailnaaTotals.lean).
  GIVEN WITH THE SEED: the statements are not yours to turn. If you find one false, say at which input.
  Laid BY PROGRAM, IN A SANDBOX (cutbox-rows.mjs): the forced cells as the released guide's own fill.sh prints them over the translation 384a8bec191afd40… (all of the seat's roots in one cut). By AI agents, Wed Nov 11 2026. No macro, syntax, notation, axiom, sorry.
-/
import Derived.Test.YtkjcaiakcailnaaChecked
import GoSem.Claim
import GoSem.ClaimJoined
import GoSem.ClaimMapViews
import Derived.JoinedTies
import Derived.KernelRfl
namespace Go.Proofs.Ytkjcaiakcailnaa
/- THE CELL 'sum', in the pinned program and in every row, IS THE sha256 OF THE DUMP (.gsa) THAT YtkjcaiakcailnaaProg.lean LOADS. Nothing in Lean hashes anything: it is a label: what it is worth is what the hold of that sum in a sandbox is worth. -/
noncomputable def Try.pinned : Pinned := { name := "ytkjcaiakcailnaa", sum := "384a8bec191afd4072b73fe3d58c9c3b068bbe55338a197b973c3abda94c55a3", checked := Try.checked }
namespace Rows
def none {H : Type} : Left H := { results := [], args := [] }

/-- 'laws.FnGraysStay': WHATEVER THE INPUT: true; the input reads as it did. -/
def fnGraysStaySpec : ChangeSpec := { name := "fnGraysStay", fn := fun _ => fun
  | [d1, d2] => { results := [.lit (.bool true)], args := [d1, d2] }
  | _ => none }
def fnGraysStayRow : OpenClaim := { program := "ytkjcaiakcailnaa", sum := "384a8bec191afd4072b73fe3d58c9c3b068bbe55338a197b973c3abda94c55a3", func := "pub-colormodels/laws.FnGraysStay", spec := "fnGraysStay", unfollowed := true, recurses := true, apart := false }
def FnGraysStaySaid : Prop := fnGraysStayRow.holds Try.pinned (OpenSpec.ofChange fnGraysStaySpec)

/-- ITS FALSE NEIGHBOUR: 'it returns false'. Refute it at one input. -/
def fnGraysStayWrong : ChangeSpec := { name := "fnGraysStay", fn := fun _ => fun
  | [d1, d2] => { results := [.lit (.bool false)], args := [d1, d2] }
  | _ => none }
def FnGraysStayWrongFalsely : Prop := fnGraysStayRow.holds Try.pinned (OpenSpec.ofChange fnGraysStayWrong)

/-- 'laws.FnNRGBA64Near': WHATEVER THE INPUT: true; the input reads as it did. -/
def fnNRGBA64NearSpec : ChangeSpec := { name := "fnNRGBA64Near", fn := fun _ => fun
  | [d] => { results := [.lit (.bool true)], args := [d] }
  | _ => none }
def fnNRGBA64NearRow : OpenClaim := { program := "ytkjcaiakcailnaa", sum := "384a8bec191afd4072b73fe3d58c9c3b068bbe55338a197b973c3abda94c55a3", func := "pub-colormodels/laws.FnNRGBA64Near", spec := "fnNRGBA64Near", unfollowed := true, recurses := true, apart := false }
def FnNRGBA64NearSaid : Prop := fnNRGBA64NearRow.holds Try.pinned (OpenSpec.ofChange fnNRGBA64NearSpec)

/-- ITS FALSE NEIGHBOUR: 'it returns false'. Refute it at one input. -/
def fnNRGBA64NearWrong : ChangeSpec := { name := "fnNRGBA64Near", fn := fun _ => fun
  | [d] => { results := [.lit (.bool false)], args := [d] }
  | _ => none }
def FnNRGBA64NearWrongFalsely : Prop := fnNRGBA64NearRow.holds Try.pinned (OpenSpec.ofChange fnNRGBA64NearWrong)

/-- 'laws.FnNRGBANear': WHATEVER THE INPUT: true; the input reads as it did. -/
def fnNRGBANearSpec : ChangeSpec := { name := "fnNRGBANear", fn := fun _ => fun
  | [d] => { results := [.lit (.bool true)], args := [d] }
  | _ => none }
def fnNRGBANearRow : OpenClaim := { program := "ytkjcaiakcailnaa", sum := "384a8bec191afd4072b73fe3d58c9c3b068bbe55338a197b973c3abda94c55a3", func := "pub-colormodels/laws.FnNRGBANear", spec := "fnNRGBANear", unfollowed := true, recurses := true, apart := false }
def FnNRGBANearSaid : Prop := fnNRGBANearRow.holds Try.pinned (OpenSpec.ofChange fnNRGBANearSpec)

/-- ITS FALSE NEIGHBOUR: 'it returns false'. Refute it at one input. -/
def fnNRGBANearWrong : ChangeSpec := { name := "fnNRGBANear", fn := fun _ => fun
  | [d] => { results := [.lit (.bool false)], args := [d] }
  | _ => none }
def FnNRGBANearWrongFalsely : Prop := fnNRGBANearRow.holds Try.pinned (OpenSpec.ofChange fnNRGBANearWrong)

/-- 'laws.FnNYCbCrAModel': WHATEVER THE INPUT: true; the input reads as it did. -/
def fnNYCbCrAModelSpec : ChangeSpec := { name := "fnNYCbCrAModel", fn := fun _ => fun
  | [d1, d2, d3, d4] => { results := [.lit (.bool true)], args := [d1, d2, d3, d4] }
  | _ => none }
def fnNYCbCrAModelRow : OpenClaim := { program := "ytkjcaiakcailnaa", sum := "384a8bec191afd4072b73fe3d58c9c3b068bbe55338a197b973c3abda94c55a3", func := "pub-colormodels/laws.FnNYCbCrAModel", spec := "fnNYCbCrAModel", unfollowed := true, recurses := true, apart := false }
def FnNYCbCrAModelSaid : Prop := fnNYCbCrAModelRow.holds Try.pinned (OpenSpec.ofChange fnNYCbCrAModelSpec)

/-- ITS FALSE NEIGHBOUR: 'it returns false'. Refute it at one input. -/
def fnNYCbCrAModelWrong : ChangeSpec := { name := "fnNYCbCrAModel", fn := fun _ => fun
  | [d1, d2, d3, d4] => { results := [.lit (.bool false)], args := [d1, d2, d3, d4] }
  | _ => none }
def FnNYCbCrAModelWrongFalsely : Prop := fnNYCbCrAModelRow.holds Try.pinned (OpenSpec.ofChange fnNYCbCrAModelWrong)

/-- 'laws.FnOpaqueSame': WHATEVER THE INPUT: true; the input reads as it did. -/
def fnOpaqueSameSpec : ChangeSpec := { name := "fnOpaqueSame", fn := fun _ => fun
  | [d] => { results := [.lit (.bool true)], args := [d] }
  | _ => none }
def fnOpaqueSameRow : OpenClaim := { program := "ytkjcaiakcailnaa", sum := "384a8bec191afd4072b73fe3d58c9c3b068bbe55338a197b973c3abda94c55a3", func := "pub-colormodels/laws.FnOpaqueSame", spec := "fnOpaqueSame", unfollowed := true, recurses := true, apart := false }
def FnOpaqueSameSaid : Prop := fnOpaqueSameRow.holds Try.pinned (OpenSpec.ofChange fnOpaqueSameSpec)

/-- ITS FALSE NEIGHBOUR: 'it returns false'. Refute it at one input. -/
def fnOpaqueSameWrong : ChangeSpec := { name := "fnOpaqueSame", fn := fun _ => fun
  | [d] => { results := [.lit (.bool false)], args := [d] }
  | _ => none }
def FnOpaqueSameWrongFalsely : Prop := fnOpaqueSameRow.holds Try.pinned (OpenSpec.ofChange fnOpaqueSameWrong)

/-- 'laws.FnRGBA64Keeps': WHATEVER THE INPUT: true; the input reads as it did. -/
def fnRGBA64KeepsSpec : ChangeSpec := { name := "fnRGBA64Keeps", fn := fun _ => fun
  | [d] => { results := [.lit (.bool true)], args := [d] }
  | _ => none }
def fnRGBA64KeepsRow : OpenClaim := { program := "ytkjcaiakcailnaa", sum := "384a8bec191afd4072b73fe3d58c9c3b068bbe55338a197b973c3abda94c55a3", func := "pub-colormodels/laws.FnRGBA64Keeps", spec := "fnRGBA64Keeps", unfollowed := true, recurses := true, apart := false }
def FnRGBA64KeepsSaid : Prop := fnRGBA64KeepsRow.holds Try.pinned (OpenSpec.ofChange fnRGBA64KeepsSpec)

/-- ITS FALSE NEIGHBOUR: 'it returns false'. Refute it at one input. -/
def fnRGBA64KeepsWrong : ChangeSpec := { name := "fnRGBA64Keeps", fn := fun _ => fun
  | [d] => { results := [.lit (.bool false)], args := [d] }
  | _ => none }
def FnRGBA64KeepsWrongFalsely : Prop := fnRGBA64KeepsRow.holds Try.pinned (OpenSpec.ofChange fnRGBA64KeepsWrong)

/- THE SECOND FORM. 'bulk': how many values and letters a reading holds, each counted each time it is reached (what is shared counts as often as it is met; a slice's spare places count too). A statement '..UptoSaid' is the law's where the arguments, and the package variables that the reading takes, are together of bulk at most 1048576: NARROWER than '..Said'. Prove '..Said' where nothing that the law and all that it calls make is longer than what came in: it says more and counts as full. Else prove '..UptoSaid'. A law counts once. -/
mutual
def uptoBulk {H : Type} : DataW H → Nat
  | .lit (.string bytes) => bytes.length + 1
  | .lit _ => 1
  | .nil => 1
  | .ptr d => uptoBulk d + 1
  | .slice elems spare => uptoBulkAll elems + uptoBulkAll spare + 1
  | .agg parts => uptoBulkAll parts + 1
  | .iface _ d => uptoBulk d + 1
  | .map entries => uptoBulkEntries entries + 1
  | .held _ => 1
def uptoBulkAll {H : Type} : List (DataW H) → Nat
  | [] => 0
  | d :: r => uptoBulk d + uptoBulkAll r
def uptoBulkEntries {H : Type} : List (Lit × DataW H) → Nat
  | [] => 0
  | x :: r => uptoBulkEntry x + uptoBulkEntries r
def uptoBulkEntry {H : Type} : Lit × DataW H → Nat
  | (.string bytes, d) => bytes.length + uptoBulk d + 1
  | (_, d) => uptoBulk d + 1
 end
def uptoSmall : (H : Type) → List (DataW H) → Bool := fun _ ds => decide (uptoBulkAll ds ≤ 1048576)
def OpenSpec.upto (s : _root_.Go.ChangeSpec) : _root_.Go.OpenSpec := { _root_.Go.OpenSpec.ofChange s with cond := some uptoSmall }

/-- 'laws.FnGraysStay', WHERE WHAT IT READS IS OF BULK AT MOST 1048576: true; the input reads as it did. -/
def fnGraysStayUptoRow : OpenClaim := { program := "ytkjcaiakcailnaa", sum := "384a8bec191afd4072b73fe3d58c9c3b068bbe55338a197b973c3abda94c55a3", func := "pub-colormodels/laws.FnGraysStay", spec := "fnGraysStay", unfollowed := true, recurses := true, apart := false, narrowed := true }
def FnGraysStayUptoSaid : Prop := fnGraysStayUptoRow.holds Try.pinned (OpenSpec.upto fnGraysStaySpec)

/-- 'laws.FnNRGBA64Near', WHERE WHAT IT READS IS OF BULK AT MOST 1048576: true; the input reads as it did. -/
def fnNRGBA64NearUptoRow : OpenClaim := { program := "ytkjcaiakcailnaa", sum := "384a8bec191afd4072b73fe3d58c9c3b068bbe55338a197b973c3abda94c55a3", func := "pub-colormodels/laws.FnNRGBA64Near", spec := "fnNRGBA64Near", unfollowed := true, recurses := true, apart := false, narrowed := true }
def FnNRGBA64NearUptoSaid : Prop := fnNRGBA64NearUptoRow.holds Try.pinned (OpenSpec.upto fnNRGBA64NearSpec)

/-- 'laws.FnNRGBANear', WHERE WHAT IT READS IS OF BULK AT MOST 1048576: true; the input reads as it did. -/
def fnNRGBANearUptoRow : OpenClaim := { program := "ytkjcaiakcailnaa", sum := "384a8bec191afd4072b73fe3d58c9c3b068bbe55338a197b973c3abda94c55a3", func := "pub-colormodels/laws.FnNRGBANear", spec := "fnNRGBANear", unfollowed := true, recurses := true, apart := false, narrowed := true }
def FnNRGBANearUptoSaid : Prop := fnNRGBANearUptoRow.holds Try.pinned (OpenSpec.upto fnNRGBANearSpec)

/-- 'laws.FnNYCbCrAModel', WHERE WHAT IT READS IS OF BULK AT MOST 1048576: true; the input reads as it did. -/
def fnNYCbCrAModelUptoRow : OpenClaim := { program := "ytkjcaiakcailnaa", sum := "384a8bec191afd4072b73fe3d58c9c3b068bbe55338a197b973c3abda94c55a3", func := "pub-colormodels/laws.FnNYCbCrAModel", spec := "fnNYCbCrAModel", unfollowed := true, recurses := true, apart := false, narrowed := true }
def FnNYCbCrAModelUptoSaid : Prop := fnNYCbCrAModelUptoRow.holds Try.pinned (OpenSpec.upto fnNYCbCrAModelSpec)

/-- 'laws.FnOpaqueSame', WHERE WHAT IT READS IS OF BULK AT MOST 1048576: true; the input reads as it did. -/
def fnOpaqueSameUptoRow : OpenClaim := { program := "ytkjcaiakcailnaa", sum := "384a8bec191afd4072b73fe3d58c9c3b068bbe55338a197b973c3abda94c55a3", func := "pub-colormodels/laws.FnOpaqueSame", spec := "fnOpaqueSame", unfollowed := true, recurses := true, apart := false, narrowed := true }
def FnOpaqueSameUptoSaid : Prop := fnOpaqueSameUptoRow.holds Try.pinned (OpenSpec.upto fnOpaqueSameSpec)

/-- 'laws.FnRGBA64Keeps', WHERE WHAT IT READS IS OF BULK AT MOST 1048576: true; the input reads as it did. -/
def fnRGBA64KeepsUptoRow : OpenClaim := { program := "ytkjcaiakcailnaa", sum := "384a8bec191afd4072b73fe3d58c9c3b068bbe55338a197b973c3abda94c55a3", func := "pub-colormodels/laws.FnRGBA64Keeps", spec := "fnRGBA64Keeps", unfollowed := true, recurses := true, apart := false, narrowed := true }
def FnRGBA64KeepsUptoSaid : Prop := fnRGBA64KeepsUptoRow.holds Try.pinned (OpenSpec.upto fnRGBA64KeepsSpec)

end Rows
end Go.Proofs.Ytkjcaiakcailnaa
