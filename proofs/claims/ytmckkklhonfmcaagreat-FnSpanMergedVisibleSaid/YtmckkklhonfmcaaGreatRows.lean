/-
  No cell of these rows narrows 'for every input' (looked for: loops, veiled, ifaces, maps, wideKeys, modest, calm, conditions, laid).
  DERIVED. THE GIVEN ROWS OF THIS SEAT. 8 by the template 'for every input the law returns true; each argument reads behind the call as it read before'; 0 by the template 'total and deterministic' (their statements: YtmckkklhonfmcaaGreatTotals.lean).
  GIVEN WITH THE SEED: the statements are not yours to turn. If you find one false, say at which input.
  Laid BY PROGRAM, IN A SANDBOX (cutbox-rows.mjs): the forced cells as the released guide's own fill.sh prints them over the translation 21e145c90e5decbf… (all of the seat's roots in one cut). By AI agents, Wed Nov 11 2026. No macro, syntax, notation, axiom, sorry.
-/
import Derived.Test.YtmckkklhonfmcaaGreatChecked
import GoSem.Claim
import GoSem.ClaimJoined
import GoSem.ClaimMapViews
import Derived.JoinedTies
import Derived.KernelRfl
namespace Go.Proofs.YtmckkklhonfmcaaGreat
/- THE CELL 'sum', in the pinned program and in every row, IS THE sha256 OF THE DUMP (.gsa) THAT YtmckkklhonfmcaaGreatProg.lean LOADS. Nothing in Lean hashes anything: it is a label: what it is worth is what the hold of that sum in a sandbox is worth. -/
noncomputable def Tryz.pinned : Pinned := { name := "ytmckkklhonfmcaagreat", sum := "21e145c90e5decbf35f22b7875e2895374683b9f0eb35758a8799b5283a5a5b1", checked := Tryz.checked }
namespace Rows
def none {H : Type} : Left H := { results := [], args := [] }

/-- 'laws.FnSpanShimmed': WHATEVER THE INPUT: true; the input reads as it did. -/
def fnSpanShimmedSpec : ChangeSpec := { name := "fnSpanShimmed", fn := fun _ => fun
  | [d] => { results := [.lit (.bool true)], args := [d] }
  | _ => none }
def fnSpanShimmedRow : OpenClaim := { program := "ytmckkklhonfmcaagreat", sum := "21e145c90e5decbf35f22b7875e2895374683b9f0eb35758a8799b5283a5a5b1", func := "pub-tessella/laws.FnSpanShimmed", spec := "fnSpanShimmed", inPlace := ["internal/bytealg.Compare"], unfollowed := true, recurses := true, named := ["encoding/binary.BigEndian", "encoding/binary.LittleEndian"], apart := false }
def FnSpanShimmedSaid : Prop := fnSpanShimmedRow.holds Tryz.pinned (OpenSpec.ofChange fnSpanShimmedSpec)

/-- ITS FALSE NEIGHBOUR: 'it returns false'. Refute it at one input. -/
def fnSpanShimmedWrong : ChangeSpec := { name := "fnSpanShimmed", fn := fun _ => fun
  | [d] => { results := [.lit (.bool false)], args := [d] }
  | _ => none }
def FnSpanShimmedWrongFalsely : Prop := fnSpanShimmedRow.holds Tryz.pinned (OpenSpec.ofChange fnSpanShimmedWrong)

/-- 'laws.FnSpanMerged': WHATEVER THE INPUT: true; the input reads as it did. -/
def fnSpanMergedSpec : ChangeSpec := { name := "fnSpanMerged", fn := fun _ => fun
  | [d1, d2, d3] => { results := [.lit (.bool true)], args := [d1, d2, d3] }
  | _ => none }
def fnSpanMergedRow : OpenClaim := { program := "ytmckkklhonfmcaagreat", sum := "21e145c90e5decbf35f22b7875e2895374683b9f0eb35758a8799b5283a5a5b1", func := "pub-tessella/laws.FnSpanMerged", spec := "fnSpanMerged", inPlace := ["internal/bytealg.Compare"], unfollowed := true, recurses := true, named := ["encoding/binary.BigEndian", "encoding/binary.LittleEndian"], apart := false }
def FnSpanMergedSaid : Prop := fnSpanMergedRow.holds Tryz.pinned (OpenSpec.ofChange fnSpanMergedSpec)

/-- ITS FALSE NEIGHBOUR: 'it returns false'. Refute it at one input. -/
def fnSpanMergedWrong : ChangeSpec := { name := "fnSpanMerged", fn := fun _ => fun
  | [d1, d2, d3] => { results := [.lit (.bool false)], args := [d1, d2, d3] }
  | _ => none }
def FnSpanMergedWrongFalsely : Prop := fnSpanMergedRow.holds Tryz.pinned (OpenSpec.ofChange fnSpanMergedWrong)

/-- 'laws.FnSpanMergedForth': WHATEVER THE INPUT: true; the input reads as it did. -/
def fnSpanMergedForthSpec : ChangeSpec := { name := "fnSpanMergedForth", fn := fun _ => fun
  | [d1, d2] => { results := [.lit (.bool true)], args := [d1, d2] }
  | _ => none }
def fnSpanMergedForthRow : OpenClaim := { program := "ytmckkklhonfmcaagreat", sum := "21e145c90e5decbf35f22b7875e2895374683b9f0eb35758a8799b5283a5a5b1", func := "pub-tessella/laws.FnSpanMergedForth", spec := "fnSpanMergedForth", inPlace := ["internal/bytealg.Compare"], unfollowed := true, recurses := true, named := ["encoding/binary.BigEndian", "encoding/binary.LittleEndian"], apart := false }
def FnSpanMergedForthSaid : Prop := fnSpanMergedForthRow.holds Tryz.pinned (OpenSpec.ofChange fnSpanMergedForthSpec)

/-- ITS FALSE NEIGHBOUR: 'it returns false'. Refute it at one input. -/
def fnSpanMergedForthWrong : ChangeSpec := { name := "fnSpanMergedForth", fn := fun _ => fun
  | [d1, d2] => { results := [.lit (.bool false)], args := [d1, d2] }
  | _ => none }
def FnSpanMergedForthWrongFalsely : Prop := fnSpanMergedForthRow.holds Tryz.pinned (OpenSpec.ofChange fnSpanMergedForthWrong)

/-- 'laws.FnSpanMergedTurned': WHATEVER THE INPUT: true; the input reads as it did. -/
def fnSpanMergedTurnedSpec : ChangeSpec := { name := "fnSpanMergedTurned", fn := fun _ => fun
  | [d1, d2, d3, d4] => { results := [.lit (.bool true)], args := [d1, d2, d3, d4] }
  | _ => none }
def fnSpanMergedTurnedRow : OpenClaim := { program := "ytmckkklhonfmcaagreat", sum := "21e145c90e5decbf35f22b7875e2895374683b9f0eb35758a8799b5283a5a5b1", func := "pub-tessella/laws.FnSpanMergedTurned", spec := "fnSpanMergedTurned", inPlace := ["internal/bytealg.Compare"], unfollowed := true, recurses := true, named := ["encoding/binary.BigEndian", "encoding/binary.LittleEndian"], apart := false }
def FnSpanMergedTurnedSaid : Prop := fnSpanMergedTurnedRow.holds Tryz.pinned (OpenSpec.ofChange fnSpanMergedTurnedSpec)

/-- ITS FALSE NEIGHBOUR: 'it returns false'. Refute it at one input. -/
def fnSpanMergedTurnedWrong : ChangeSpec := { name := "fnSpanMergedTurned", fn := fun _ => fun
  | [d1, d2, d3, d4] => { results := [.lit (.bool false)], args := [d1, d2, d3, d4] }
  | _ => none }
def FnSpanMergedTurnedWrongFalsely : Prop := fnSpanMergedTurnedRow.holds Tryz.pinned (OpenSpec.ofChange fnSpanMergedTurnedWrong)

/-- 'laws.FnSpanMergedTwice': WHATEVER THE INPUT: true; the input reads as it did. -/
def fnSpanMergedTwiceSpec : ChangeSpec := { name := "fnSpanMergedTwice", fn := fun _ => fun
  | [d1, d2] => { results := [.lit (.bool true)], args := [d1, d2] }
  | _ => none }
def fnSpanMergedTwiceRow : OpenClaim := { program := "ytmckkklhonfmcaagreat", sum := "21e145c90e5decbf35f22b7875e2895374683b9f0eb35758a8799b5283a5a5b1", func := "pub-tessella/laws.FnSpanMergedTwice", spec := "fnSpanMergedTwice", inPlace := ["internal/bytealg.Compare"], unfollowed := true, recurses := true, named := ["encoding/binary.BigEndian", "encoding/binary.LittleEndian"], apart := false }
def FnSpanMergedTwiceSaid : Prop := fnSpanMergedTwiceRow.holds Tryz.pinned (OpenSpec.ofChange fnSpanMergedTwiceSpec)

/-- ITS FALSE NEIGHBOUR: 'it returns false'. Refute it at one input. -/
def fnSpanMergedTwiceWrong : ChangeSpec := { name := "fnSpanMergedTwice", fn := fun _ => fun
  | [d1, d2] => { results := [.lit (.bool false)], args := [d1, d2] }
  | _ => none }
def FnSpanMergedTwiceWrongFalsely : Prop := fnSpanMergedTwiceRow.holds Tryz.pinned (OpenSpec.ofChange fnSpanMergedTwiceWrong)

/-- 'laws.FnSpanMergedTruncated': WHATEVER THE INPUT: true; the input reads as it did. -/
def fnSpanMergedTruncatedSpec : ChangeSpec := { name := "fnSpanMergedTruncated", fn := fun _ => fun
  | [d1, d2, d3] => { results := [.lit (.bool true)], args := [d1, d2, d3] }
  | _ => none }
def fnSpanMergedTruncatedRow : OpenClaim := { program := "ytmckkklhonfmcaagreat", sum := "21e145c90e5decbf35f22b7875e2895374683b9f0eb35758a8799b5283a5a5b1", func := "pub-tessella/laws.FnSpanMergedTruncated", spec := "fnSpanMergedTruncated", inPlace := ["internal/bytealg.Compare"], unfollowed := true, recurses := true, named := ["encoding/binary.BigEndian", "encoding/binary.LittleEndian"], apart := false }
def FnSpanMergedTruncatedSaid : Prop := fnSpanMergedTruncatedRow.holds Tryz.pinned (OpenSpec.ofChange fnSpanMergedTruncatedSpec)

/-- ITS FALSE NEIGHBOUR: 'it returns false'. Refute it at one input. -/
def fnSpanMergedTruncatedWrong : ChangeSpec := { name := "fnSpanMergedTruncated", fn := fun _ => fun
  | [d1, d2, d3] => { results := [.lit (.bool false)], args := [d1, d2, d3] }
  | _ => none }
def FnSpanMergedTruncatedWrongFalsely : Prop := fnSpanMergedTruncatedRow.holds Tryz.pinned (OpenSpec.ofChange fnSpanMergedTruncatedWrong)

/-- 'laws.FnSpanMergedVisible': WHATEVER THE INPUT: true; the input reads as it did. -/
def fnSpanMergedVisibleSpec : ChangeSpec := { name := "fnSpanMergedVisible", fn := fun _ => fun
  | [d1, d2] => { results := [.lit (.bool true)], args := [d1, d2] }
  | _ => none }
def fnSpanMergedVisibleRow : OpenClaim := { program := "ytmckkklhonfmcaagreat", sum := "21e145c90e5decbf35f22b7875e2895374683b9f0eb35758a8799b5283a5a5b1", func := "pub-tessella/laws.FnSpanMergedVisible", spec := "fnSpanMergedVisible", inPlace := ["internal/bytealg.Compare"], unfollowed := true, recurses := true, named := ["encoding/binary.BigEndian", "encoding/binary.LittleEndian"], apart := false }
def FnSpanMergedVisibleSaid : Prop := fnSpanMergedVisibleRow.holds Tryz.pinned (OpenSpec.ofChange fnSpanMergedVisibleSpec)

/-- ITS FALSE NEIGHBOUR: 'it returns false'. Refute it at one input. -/
def fnSpanMergedVisibleWrong : ChangeSpec := { name := "fnSpanMergedVisible", fn := fun _ => fun
  | [d1, d2] => { results := [.lit (.bool false)], args := [d1, d2] }
  | _ => none }
def FnSpanMergedVisibleWrongFalsely : Prop := fnSpanMergedVisibleRow.holds Tryz.pinned (OpenSpec.ofChange fnSpanMergedVisibleWrong)

/-- 'laws.FnSpanMergedFragments': WHATEVER THE INPUT: true; the input reads as it did. -/
def fnSpanMergedFragmentsSpec : ChangeSpec := { name := "fnSpanMergedFragments", fn := fun _ => fun
  | [d] => { results := [.lit (.bool true)], args := [d] }
  | _ => none }
def fnSpanMergedFragmentsRow : OpenClaim := { program := "ytmckkklhonfmcaagreat", sum := "21e145c90e5decbf35f22b7875e2895374683b9f0eb35758a8799b5283a5a5b1", func := "pub-tessella/laws.FnSpanMergedFragments", spec := "fnSpanMergedFragments", inPlace := ["internal/bytealg.Compare"], unfollowed := true, recurses := true, named := ["encoding/binary.BigEndian", "encoding/binary.LittleEndian"], apart := false }
def FnSpanMergedFragmentsSaid : Prop := fnSpanMergedFragmentsRow.holds Tryz.pinned (OpenSpec.ofChange fnSpanMergedFragmentsSpec)

/-- ITS FALSE NEIGHBOUR: 'it returns false'. Refute it at one input. -/
def fnSpanMergedFragmentsWrong : ChangeSpec := { name := "fnSpanMergedFragments", fn := fun _ => fun
  | [d] => { results := [.lit (.bool false)], args := [d] }
  | _ => none }
def FnSpanMergedFragmentsWrongFalsely : Prop := fnSpanMergedFragmentsRow.holds Tryz.pinned (OpenSpec.ofChange fnSpanMergedFragmentsWrong)

/- THE SECOND FORM. 'bulk': how many values and letters a reading holds, each counted each time it is reached (what is shared counts as often as it is met; a slice's spare places count too). A statement '..UptoSaid' is the law's where the arguments, and the package variables that the reading takes, are together of bulk at most 1048576: NARROWER than '..Said'. Prove '..Said' where nothing that the law and all that it calls make is longer than what came in: it says more and counts as full. Else prove '..UptoSaid'. A law counts once. -/
mutual
def uptoBulk {H : Type} : DataW H → Nat
  | .lit (.string bytes) => bytes.length + 1
  | .lit _ => 1
  | .nil => 1
  | .ptr d => uptoBulk d + 1
  | .slice elems spare => uptoBulkAll elems + uptoBulkAll spare + 1
  | .agg parts => uptoBulkAll parts + 1
  | .iface _ d => uptoBulk d + 1
  | .map entries => uptoBulkEntries entries + 1
  | .held _ => 1
def uptoBulkAll {H : Type} : List (DataW H) → Nat
  | [] => 0
  | d :: r => uptoBulk d + uptoBulkAll r
def uptoBulkEntries {H : Type} : List (Lit × DataW H) → Nat
  | [] => 0
  | x :: r => uptoBulkEntry x + uptoBulkEntries r
def uptoBulkEntry {H : Type} : Lit × DataW H → Nat
  | (.string bytes, d) => bytes.length + uptoBulk d + 1
  | (_, d) => uptoBulk d + 1
 end
def uptoSmall : (H : Type) → List (DataW H) → Bool := fun _ ds => decide (uptoBulkAll ds ≤ 1048576)
def OpenSpec.upto (s : _root_.Go.ChangeSpec) : _root_.Go.OpenSpec := { _root_.Go.OpenSpec.ofChange s with cond := some uptoSmall }

/-- 'laws.FnSpanShimmed', WHERE WHAT IT READS IS OF BULK AT MOST 1048576: true; the input reads as it did. -/
def fnSpanShimmedUptoRow : OpenClaim := { program := "ytmckkklhonfmcaagreat", sum := "21e145c90e5decbf35f22b7875e2895374683b9f0eb35758a8799b5283a5a5b1", func := "pub-tessella/laws.FnSpanShimmed", spec := "fnSpanShimmed", inPlace := ["internal/bytealg.Compare"], unfollowed := true, recurses := true, named := ["encoding/binary.BigEndian", "encoding/binary.LittleEndian"], apart := false, narrowed := true }
def FnSpanShimmedUptoSaid : Prop := fnSpanShimmedUptoRow.holds Tryz.pinned (OpenSpec.upto fnSpanShimmedSpec)

/-- 'laws.FnSpanMerged', WHERE WHAT IT READS IS OF BULK AT MOST 1048576: true; the input reads as it did. -/
def fnSpanMergedUptoRow : OpenClaim := { program := "ytmckkklhonfmcaagreat", sum := "21e145c90e5decbf35f22b7875e2895374683b9f0eb35758a8799b5283a5a5b1", func := "pub-tessella/laws.FnSpanMerged", spec := "fnSpanMerged", inPlace := ["internal/bytealg.Compare"], unfollowed := true, recurses := true, named := ["encoding/binary.BigEndian", "encoding/binary.LittleEndian"], apart := false, narrowed := true }
def FnSpanMergedUptoSaid : Prop := fnSpanMergedUptoRow.holds Tryz.pinned (OpenSpec.upto fnSpanMergedSpec)

/-- 'laws.FnSpanMergedForth', WHERE WHAT IT READS IS OF BULK AT MOST 1048576: true; the input reads as it did. -/
def fnSpanMergedForthUptoRow : OpenClaim := { program := "ytmckkklhonfmcaagreat", sum := "21e145c90e5decbf35f22b7875e2895374683b9f0eb35758a8799b5283a5a5b1", func := "pub-tessella/laws.FnSpanMergedForth", spec := "fnSpanMergedForth", inPlace := ["internal/bytealg.Compare"], unfollowed := true, recurses := true, named := ["encoding/binary.BigEndian", "encoding/binary.LittleEndian"], apart := false, narrowed := true }
def FnSpanMergedForthUptoSaid : Prop := fnSpanMergedForthUptoRow.holds Tryz.pinned (OpenSpec.upto fnSpanMergedForthSpec)

/-- 'laws.FnSpanMergedTurned', WHERE WHAT IT READS IS OF BULK AT MOST 1048576: true; the input reads as it did. -/
def fnSpanMergedTurnedUptoRow : OpenClaim := { program := "ytmckkklhonfmcaagreat", sum := "21e145c90e5decbf35f22b7875e2895374683b9f0eb35758a8799b5283a5a5b1", func := "pub-tessella/laws.FnSpanMergedTurned", spec := "fnSpanMergedTurned", inPlace := ["internal/bytealg.Compare"], unfollowed := true, recurses := true, named := ["encoding/binary.BigEndian", "encoding/binary.LittleEndian"], apart := false, narrowed := true }
def FnSpanMergedTurnedUptoSaid : Prop := fnSpanMergedTurnedUptoRow.holds Tryz.pinned (OpenSpec.upto fnSpanMergedTurnedSpec)

/-- 'laws.FnSpanMergedTwice', WHERE WHAT IT READS IS OF BULK AT MOST 1048576: true; the input reads as it did. -/
def fnSpanMergedTwiceUptoRow : OpenClaim := { program := "ytmckkklhonfmcaagreat", sum := "21e145c90e5decbf35f22b7875e2895374683b9f0eb35758a8799b5283a5a5b1", func := "pub-tessella/laws.FnSpanMergedTwice", spec := "fnSpanMergedTwice", inPlace := ["internal/bytealg.Compare"], unfollowed := true, recurses := true, named := ["encoding/binary.BigEndian", "encoding/binary.LittleEndian"], apart := false, narrowed := true }
def FnSpanMergedTwiceUptoSaid : Prop := fnSpanMergedTwiceUptoRow.holds Tryz.pinned (OpenSpec.upto fnSpanMergedTwiceSpec)

/-- 'laws.FnSpanMergedTruncated', WHERE WHAT IT READS IS OF BULK AT MOST 1048576: true; the input reads as it did. -/
def fnSpanMergedTruncatedUptoRow : OpenClaim := { program := "ytmckkklhonfmcaagreat", sum := "21e145c90e5decbf35f22b7875e2895374683b9f0eb35758a8799b5283a5a5b1", func := "pub-tessella/laws.FnSpanMergedTruncated", spec := "fnSpanMergedTruncated", inPlace := ["internal/bytealg.Compare"], unfollowed := true, recurses := true, named := ["encoding/binary.BigEndian", "encoding/binary.LittleEndian"], apart := false, narrowed := true }
def FnSpanMergedTruncatedUptoSaid : Prop := fnSpanMergedTruncatedUptoRow.holds Tryz.pinned (OpenSpec.upto fnSpanMergedTruncatedSpec)

/-- 'laws.FnSpanMergedVisible', WHERE WHAT IT READS IS OF BULK AT MOST 1048576: true; the input reads as it did. -/
def fnSpanMergedVisibleUptoRow : OpenClaim := { program := "ytmckkklhonfmcaagreat", sum := "21e145c90e5decbf35f22b7875e2895374683b9f0eb35758a8799b5283a5a5b1", func := "pub-tessella/laws.FnSpanMergedVisible", spec := "fnSpanMergedVisible", inPlace := ["internal/bytealg.Compare"], unfollowed := true, recurses := true, named := ["encoding/binary.BigEndian", "encoding/binary.LittleEndian"], apart := false, narrowed := true }
def FnSpanMergedVisibleUptoSaid : Prop := fnSpanMergedVisibleUptoRow.holds Tryz.pinned (OpenSpec.upto fnSpanMergedVisibleSpec)

/-- 'laws.FnSpanMergedFragments', WHERE WHAT IT READS IS OF BULK AT MOST 1048576: true; the input reads as it did. -/
def fnSpanMergedFragmentsUptoRow : OpenClaim := { program := "ytmckkklhonfmcaagreat", sum := "21e145c90e5decbf35f22b7875e2895374683b9f0eb35758a8799b5283a5a5b1", func := "pub-tessella/laws.FnSpanMergedFragments", spec := "fnSpanMergedFragments", inPlace := ["internal/bytealg.Compare"], unfollowed := true, recurses := true, named := ["encoding/binary.BigEndian", "encoding/binary.LittleEndian"], apart := false, narrowed := true }
def FnSpanMergedFragmentsUptoSaid : Prop := fnSpanMergedFragmentsUptoRow.holds Tryz.pinned (OpenSpec.upto fnSpanMergedFragmentsSpec)

end Rows
end Go.Proofs.YtmckkklhonfmcaaGreat
