/-
  No cell of these rows narrows 'for every input' (looked for: loops, veiled, ifaces, maps, wideKeys, modest, calm, conditions, laid).
  DERIVED. THE GIVEN ROWS OF THIS SEAT. 9 by the template 'for every input the law returns true; each argument reads behind the call as it read before'; 0 by the template 'total and deterministic' (their statements: YtgebfbnndgjkiaaTotals.lean).
  GIVEN WITH THE SEED: the statements are not yours to turn. If you find one false, say at which input.
  Laid BY PROGRAM, IN A SANDBOX (cutbox-rows.mjs): the forced cells as the released guide's own fill.sh prints them over the translation d945420cd8354773… (all of the seat's roots in one cut). By AI agents, Wed Nov 11 2026. No macro, syntax, notation, axiom, sorry.
-/
import Derived.Test.YtgebfbnndgjkiaaChecked
import GoSem.Claim
import GoSem.ClaimJoined
import GoSem.ClaimMapViews
import Derived.JoinedTies
import Derived.KernelRfl
namespace Go.Proofs.Ytgebfbnndgjkiaa
/- THE CELL 'sum', in the pinned program and in every row, IS THE sha256 OF THE DUMP (.gsa) THAT YtgebfbnndgjkiaaProg.lean LOADS. Nothing in Lean hashes anything: it is a label: what it is worth is what the hold of that sum in a sandbox is worth. -/
noncomputable def Try.pinned : Pinned := { name := "ytgebfbnndgjkiaa", sum := "d945420cd8354773bf85e9c38a1af01cbb706901b89a4c6a7a4c9156c546426a", checked := Try.checked }
namespace Rows
def none {H : Type} : Left H := { results := [], args := [] }

/-- 'laws.FnSpanFiltered': WHATEVER THE INPUT: true; the input reads as it did. -/
def fnSpanFilteredSpec : ChangeSpec := { name := "fnSpanFiltered", fn := fun _ => fun
  | [d1, d2, d3, d4] => { results := [.lit (.bool true)], args := [d1, d2, d3, d4] }
  | _ => none }
def fnSpanFilteredRow : OpenClaim := { program := "ytgebfbnndgjkiaa", sum := "d945420cd8354773bf85e9c38a1af01cbb706901b89a4c6a7a4c9156c546426a", func := "pub-tessella/laws.FnSpanFiltered", spec := "fnSpanFiltered", inPlace := ["internal/bytealg.Compare"], unfollowed := true, recurses := true, named := ["encoding/binary.BigEndian", "encoding/binary.LittleEndian"], apart := false }
def FnSpanFilteredSaid : Prop := fnSpanFilteredRow.holds Try.pinned (OpenSpec.ofChange fnSpanFilteredSpec)

/-- ITS FALSE NEIGHBOUR: 'it returns false'. Refute it at one input. -/
def fnSpanFilteredWrong : ChangeSpec := { name := "fnSpanFiltered", fn := fun _ => fun
  | [d1, d2, d3, d4] => { results := [.lit (.bool false)], args := [d1, d2, d3, d4] }
  | _ => none }
def FnSpanFilteredWrongFalsely : Prop := fnSpanFilteredRow.holds Try.pinned (OpenSpec.ofChange fnSpanFilteredWrong)

/-- 'laws.FnSpanBounded': WHATEVER THE INPUT: true; the input reads as it did. -/
def fnSpanBoundedSpec : ChangeSpec := { name := "fnSpanBounded", fn := fun _ => fun
  | [d1, d2, d3, d4] => { results := [.lit (.bool true)], args := [d1, d2, d3, d4] }
  | _ => none }
def fnSpanBoundedRow : OpenClaim := { program := "ytgebfbnndgjkiaa", sum := "d945420cd8354773bf85e9c38a1af01cbb706901b89a4c6a7a4c9156c546426a", func := "pub-tessella/laws.FnSpanBounded", spec := "fnSpanBounded", inPlace := ["internal/bytealg.Compare"], unfollowed := true, recurses := true, named := ["encoding/binary.BigEndian", "encoding/binary.LittleEndian"], apart := false }
def FnSpanBoundedSaid : Prop := fnSpanBoundedRow.holds Try.pinned (OpenSpec.ofChange fnSpanBoundedSpec)

/-- ITS FALSE NEIGHBOUR: 'it returns false'. Refute it at one input. -/
def fnSpanBoundedWrong : ChangeSpec := { name := "fnSpanBounded", fn := fun _ => fun
  | [d1, d2, d3, d4] => { results := [.lit (.bool false)], args := [d1, d2, d3, d4] }
  | _ => none }
def FnSpanBoundedWrongFalsely : Prop := fnSpanBoundedRow.holds Try.pinned (OpenSpec.ofChange fnSpanBoundedWrong)

/-- 'laws.FnSpanPrefixed': WHATEVER THE INPUT: true; the input reads as it did. -/
def fnSpanPrefixedSpec : ChangeSpec := { name := "fnSpanPrefixed", fn := fun _ => fun
  | [d1, d2, d3, d4, d5] => { results := [.lit (.bool true)], args := [d1, d2, d3, d4, d5] }
  | _ => none }
def fnSpanPrefixedRow : OpenClaim := { program := "ytgebfbnndgjkiaa", sum := "d945420cd8354773bf85e9c38a1af01cbb706901b89a4c6a7a4c9156c546426a", func := "pub-tessella/laws.FnSpanPrefixed", spec := "fnSpanPrefixed", inPlace := ["internal/bytealg.Compare"], unfollowed := true, recurses := true, named := ["encoding/binary.BigEndian", "encoding/binary.LittleEndian"], apart := false }
def FnSpanPrefixedSaid : Prop := fnSpanPrefixedRow.holds Try.pinned (OpenSpec.ofChange fnSpanPrefixedSpec)

/-- ITS FALSE NEIGHBOUR: 'it returns false'. Refute it at one input. -/
def fnSpanPrefixedWrong : ChangeSpec := { name := "fnSpanPrefixed", fn := fun _ => fun
  | [d1, d2, d3, d4, d5] => { results := [.lit (.bool false)], args := [d1, d2, d3, d4, d5] }
  | _ => none }
def FnSpanPrefixedWrongFalsely : Prop := fnSpanPrefixedRow.holds Try.pinned (OpenSpec.ofChange fnSpanPrefixedWrong)

/-- 'laws.FnSpanDefragmented': WHATEVER THE INPUT: true; the input reads as it did. -/
def fnSpanDefragmentedSpec : ChangeSpec := { name := "fnSpanDefragmented", fn := fun _ => fun
  | [d1, d2] => { results := [.lit (.bool true)], args := [d1, d2] }
  | _ => none }
def fnSpanDefragmentedRow : OpenClaim := { program := "ytgebfbnndgjkiaa", sum := "d945420cd8354773bf85e9c38a1af01cbb706901b89a4c6a7a4c9156c546426a", func := "pub-tessella/laws.FnSpanDefragmented", spec := "fnSpanDefragmented", inPlace := ["internal/bytealg.Compare"], unfollowed := true, recurses := true, named := ["encoding/binary.BigEndian", "encoding/binary.LittleEndian"], apart := false }
def FnSpanDefragmentedSaid : Prop := fnSpanDefragmentedRow.holds Try.pinned (OpenSpec.ofChange fnSpanDefragmentedSpec)

/-- ITS FALSE NEIGHBOUR: 'it returns false'. Refute it at one input. -/
def fnSpanDefragmentedWrong : ChangeSpec := { name := "fnSpanDefragmented", fn := fun _ => fun
  | [d1, d2] => { results := [.lit (.bool false)], args := [d1, d2] }
  | _ => none }
def FnSpanDefragmentedWrongFalsely : Prop := fnSpanDefragmentedRow.holds Try.pinned (OpenSpec.ofChange fnSpanDefragmentedWrong)

/-- 'laws.FnSpanRejoined': WHATEVER THE INPUT: true; the input reads as it did. -/
def fnSpanRejoinedSpec : ChangeSpec := { name := "fnSpanRejoined", fn := fun _ => fun
  | [d1, d2, d3] => { results := [.lit (.bool true)], args := [d1, d2, d3] }
  | _ => none }
def fnSpanRejoinedRow : OpenClaim := { program := "ytgebfbnndgjkiaa", sum := "d945420cd8354773bf85e9c38a1af01cbb706901b89a4c6a7a4c9156c546426a", func := "pub-tessella/laws.FnSpanRejoined", spec := "fnSpanRejoined", inPlace := ["internal/bytealg.Compare"], unfollowed := true, recurses := true, named := ["encoding/binary.BigEndian", "encoding/binary.LittleEndian"], apart := false }
def FnSpanRejoinedSaid : Prop := fnSpanRejoinedRow.holds Try.pinned (OpenSpec.ofChange fnSpanRejoinedSpec)

/-- ITS FALSE NEIGHBOUR: 'it returns false'. Refute it at one input. -/
def fnSpanRejoinedWrong : ChangeSpec := { name := "fnSpanRejoined", fn := fun _ => fun
  | [d1, d2, d3] => { results := [.lit (.bool false)], args := [d1, d2, d3] }
  | _ => none }
def FnSpanRejoinedWrongFalsely : Prop := fnSpanRejoinedRow.holds Try.pinned (OpenSpec.ofChange fnSpanRejoinedWrong)

/-- 'laws.FnSpanTruncated': WHATEVER THE INPUT: true; the input reads as it did. -/
def fnSpanTruncatedSpec : ChangeSpec := { name := "fnSpanTruncated", fn := fun _ => fun
  | [d1, d2, d3, d4] => { results := [.lit (.bool true)], args := [d1, d2, d3, d4] }
  | _ => none }
def fnSpanTruncatedRow : OpenClaim := { program := "ytgebfbnndgjkiaa", sum := "d945420cd8354773bf85e9c38a1af01cbb706901b89a4c6a7a4c9156c546426a", func := "pub-tessella/laws.FnSpanTruncated", spec := "fnSpanTruncated", inPlace := ["internal/bytealg.Compare"], unfollowed := true, recurses := true, named := ["encoding/binary.BigEndian", "encoding/binary.LittleEndian"], apart := false }
def FnSpanTruncatedSaid : Prop := fnSpanTruncatedRow.holds Try.pinned (OpenSpec.ofChange fnSpanTruncatedSpec)

/-- ITS FALSE NEIGHBOUR: 'it returns false'. Refute it at one input. -/
def fnSpanTruncatedWrong : ChangeSpec := { name := "fnSpanTruncated", fn := fun _ => fun
  | [d1, d2, d3, d4] => { results := [.lit (.bool false)], args := [d1, d2, d3, d4] }
  | _ => none }
def FnSpanTruncatedWrongFalsely : Prop := fnSpanTruncatedRow.holds Try.pinned (OpenSpec.ofChange fnSpanTruncatedWrong)

/-- 'laws.FnSpanWithin': WHATEVER THE INPUT: true; the input reads as it did. -/
def fnSpanWithinSpec : ChangeSpec := { name := "fnSpanWithin", fn := fun _ => fun
  | [d1, d2, d3, d4, d5, d6] => { results := [.lit (.bool true)], args := [d1, d2, d3, d4, d5, d6] }
  | _ => none }
def fnSpanWithinRow : OpenClaim := { program := "ytgebfbnndgjkiaa", sum := "d945420cd8354773bf85e9c38a1af01cbb706901b89a4c6a7a4c9156c546426a", func := "pub-tessella/laws.FnSpanWithin", spec := "fnSpanWithin", inPlace := ["internal/bytealg.Compare"], unfollowed := true, recurses := true, named := ["encoding/binary.BigEndian", "encoding/binary.LittleEndian"], apart := false }
def FnSpanWithinSaid : Prop := fnSpanWithinRow.holds Try.pinned (OpenSpec.ofChange fnSpanWithinSpec)

/-- ITS FALSE NEIGHBOUR: 'it returns false'. Refute it at one input. -/
def fnSpanWithinWrong : ChangeSpec := { name := "fnSpanWithin", fn := fun _ => fun
  | [d1, d2, d3, d4, d5, d6] => { results := [.lit (.bool false)], args := [d1, d2, d3, d4, d5, d6] }
  | _ => none }
def FnSpanWithinWrongFalsely : Prop := fnSpanWithinRow.holds Try.pinned (OpenSpec.ofChange fnSpanWithinWrong)

/-- 'laws.FnSpanBoundedCut': WHATEVER THE INPUT: true; the input reads as it did. -/
def fnSpanBoundedCutSpec : ChangeSpec := { name := "fnSpanBoundedCut", fn := fun _ => fun
  | [d1, d2, d3] => { results := [.lit (.bool true)], args := [d1, d2, d3] }
  | _ => none }
def fnSpanBoundedCutRow : OpenClaim := { program := "ytgebfbnndgjkiaa", sum := "d945420cd8354773bf85e9c38a1af01cbb706901b89a4c6a7a4c9156c546426a", func := "pub-tessella/laws.FnSpanBoundedCut", spec := "fnSpanBoundedCut", inPlace := ["internal/bytealg.Compare"], unfollowed := true, recurses := true, named := ["encoding/binary.BigEndian", "encoding/binary.LittleEndian"], apart := false }
def FnSpanBoundedCutSaid : Prop := fnSpanBoundedCutRow.holds Try.pinned (OpenSpec.ofChange fnSpanBoundedCutSpec)

/-- ITS FALSE NEIGHBOUR: 'it returns false'. Refute it at one input. -/
def fnSpanBoundedCutWrong : ChangeSpec := { name := "fnSpanBoundedCut", fn := fun _ => fun
  | [d1, d2, d3] => { results := [.lit (.bool false)], args := [d1, d2, d3] }
  | _ => none }
def FnSpanBoundedCutWrongFalsely : Prop := fnSpanBoundedCutRow.holds Try.pinned (OpenSpec.ofChange fnSpanBoundedCutWrong)

/-- 'laws.FnSpanTruncatedParts': WHATEVER THE INPUT: true; the input reads as it did. -/
def fnSpanTruncatedPartsSpec : ChangeSpec := { name := "fnSpanTruncatedParts", fn := fun _ => fun
  | [d1, d2, d3, d4] => { results := [.lit (.bool true)], args := [d1, d2, d3, d4] }
  | _ => none }
def fnSpanTruncatedPartsRow : OpenClaim := { program := "ytgebfbnndgjkiaa", sum := "d945420cd8354773bf85e9c38a1af01cbb706901b89a4c6a7a4c9156c546426a", func := "pub-tessella/laws.FnSpanTruncatedParts", spec := "fnSpanTruncatedParts", inPlace := ["internal/bytealg.Compare"], unfollowed := true, recurses := true, named := ["encoding/binary.BigEndian", "encoding/binary.LittleEndian"], apart := false }
def FnSpanTruncatedPartsSaid : Prop := fnSpanTruncatedPartsRow.holds Try.pinned (OpenSpec.ofChange fnSpanTruncatedPartsSpec)

/-- ITS FALSE NEIGHBOUR: 'it returns false'. Refute it at one input. -/
def fnSpanTruncatedPartsWrong : ChangeSpec := { name := "fnSpanTruncatedParts", fn := fun _ => fun
  | [d1, d2, d3, d4] => { results := [.lit (.bool false)], args := [d1, d2, d3, d4] }
  | _ => none }
def FnSpanTruncatedPartsWrongFalsely : Prop := fnSpanTruncatedPartsRow.holds Try.pinned (OpenSpec.ofChange fnSpanTruncatedPartsWrong)

/- THE SECOND FORM. 'bulk': how many values and letters a reading holds, each counted each time it is reached (what is shared counts as often as it is met; a slice's spare places count too). A statement '..UptoSaid' is the law's where the arguments, and the package variables that the reading takes, are together of bulk at most 1048576: NARROWER than '..Said'. Prove '..Said' where nothing that the law and all that it calls make is longer than what came in: it says more and counts as full. Else prove '..UptoSaid'. A law counts once. -/
mutual
def uptoBulk {H : Type} : DataW H → Nat
  | .lit (.string bytes) => bytes.length + 1
  | .lit _ => 1
  | .nil => 1
  | .ptr d => uptoBulk d + 1
  | .slice elems spare => uptoBulkAll elems + uptoBulkAll spare + 1
  | .agg parts => uptoBulkAll parts + 1
  | .iface _ d => uptoBulk d + 1
  | .map entries => uptoBulkEntries entries + 1
  | .held _ => 1
def uptoBulkAll {H : Type} : List (DataW H) → Nat
  | [] => 0
  | d :: r => uptoBulk d + uptoBulkAll r
def uptoBulkEntries {H : Type} : List (Lit × DataW H) → Nat
  | [] => 0
  | x :: r => uptoBulkEntry x + uptoBulkEntries r
def uptoBulkEntry {H : Type} : Lit × DataW H → Nat
  | (.string bytes, d) => bytes.length + uptoBulk d + 1
  | (_, d) => uptoBulk d + 1
 end
def uptoSmall : (H : Type) → List (DataW H) → Bool := fun _ ds => decide (uptoBulkAll ds ≤ 1048576)
def OpenSpec.upto (s : _root_.Go.ChangeSpec) : _root_.Go.OpenSpec := { _root_.Go.OpenSpec.ofChange s with cond := some uptoSmall }

/-- 'laws.FnSpanFiltered', WHERE WHAT IT READS IS OF BULK AT MOST 1048576: true; the input reads as it did. -/
def fnSpanFilteredUptoRow : OpenClaim := { program := "ytgebfbnndgjkiaa", sum := "d945420cd8354773bf85e9c38a1af01cbb706901b89a4c6a7a4c9156c546426a", func := "pub-tessella/laws.FnSpanFiltered", spec := "fnSpanFiltered", inPlace := ["internal/bytealg.Compare"], unfollowed := true, recurses := true, named := ["encoding/binary.BigEndian", "encoding/binary.LittleEndian"], apart := false, narrowed := true }
def FnSpanFilteredUptoSaid : Prop := fnSpanFilteredUptoRow.holds Try.pinned (OpenSpec.upto fnSpanFilteredSpec)

/-- 'laws.FnSpanBounded', WHERE WHAT IT READS IS OF BULK AT MOST 1048576: true; the input reads as it did. -/
def fnSpanBoundedUptoRow : OpenClaim := { program := "ytgebfbnndgjkiaa", sum := "d945420cd8354773bf85e9c38a1af01cbb706901b89a4c6a7a4c9156c546426a", func := "pub-tessella/laws.FnSpanBounded", spec := "fnSpanBounded", inPlace := ["internal/bytealg.Compare"], unfollowed := true, recurses := true, named := ["encoding/binary.BigEndian", "encoding/binary.LittleEndian"], apart := false, narrowed := true }
def FnSpanBoundedUptoSaid : Prop := fnSpanBoundedUptoRow.holds Try.pinned (OpenSpec.upto fnSpanBoundedSpec)

/-- 'laws.FnSpanPrefixed', WHERE WHAT IT READS IS OF BULK AT MOST 1048576: true; the input reads as it did. -/
def fnSpanPrefixedUptoRow : OpenClaim := { program := "ytgebfbnndgjkiaa", sum := "d945420cd8354773bf85e9c38a1af01cbb706901b89a4c6a7a4c9156c546426a", func := "pub-tessella/laws.FnSpanPrefixed", spec := "fnSpanPrefixed", inPlace := ["internal/bytealg.Compare"], unfollowed := true, recurses := true, named := ["encoding/binary.BigEndian", "encoding/binary.LittleEndian"], apart := false, narrowed := true }
def FnSpanPrefixedUptoSaid : Prop := fnSpanPrefixedUptoRow.holds Try.pinned (OpenSpec.upto fnSpanPrefixedSpec)

/-- 'laws.FnSpanDefragmented', WHERE WHAT IT READS IS OF BULK AT MOST 1048576: true; the input reads as it did. -/
def fnSpanDefragmentedUptoRow : OpenClaim := { program := "ytgebfbnndgjkiaa", sum := "d945420cd8354773bf85e9c38a1af01cbb706901b89a4c6a7a4c9156c546426a", func := "pub-tessella/laws.FnSpanDefragmented", spec := "fnSpanDefragmented", inPlace := ["internal/bytealg.Compare"], unfollowed := true, recurses := true, named := ["encoding/binary.BigEndian", "encoding/binary.LittleEndian"], apart := false, narrowed := true }
def FnSpanDefragmentedUptoSaid : Prop := fnSpanDefragmentedUptoRow.holds Try.pinned (OpenSpec.upto fnSpanDefragmentedSpec)

/-- 'laws.FnSpanRejoined', WHERE WHAT IT READS IS OF BULK AT MOST 1048576: true; the input reads as it did. -/
def fnSpanRejoinedUptoRow : OpenClaim := { program := "ytgebfbnndgjkiaa", sum := "d945420cd8354773bf85e9c38a1af01cbb706901b89a4c6a7a4c9156c546426a", func := "pub-tessella/laws.FnSpanRejoined", spec := "fnSpanRejoined", inPlace := ["internal/bytealg.Compare"], unfollowed := true, recurses := true, named := ["encoding/binary.BigEndian", "encoding/binary.LittleEndian"], apart := false, narrowed := true }
def FnSpanRejoinedUptoSaid : Prop := fnSpanRejoinedUptoRow.holds Try.pinned (OpenSpec.upto fnSpanRejoinedSpec)

/-- 'laws.FnSpanTruncated', WHERE WHAT IT READS IS OF BULK AT MOST 1048576: true; the input reads as it did. -/
def fnSpanTruncatedUptoRow : OpenClaim := { program := "ytgebfbnndgjkiaa", sum := "d945420cd8354773bf85e9c38a1af01cbb706901b89a4c6a7a4c9156c546426a", func := "pub-tessella/laws.FnSpanTruncated", spec := "fnSpanTruncated", inPlace := ["internal/bytealg.Compare"], unfollowed := true, recurses := true, named := ["encoding/binary.BigEndian", "encoding/binary.LittleEndian"], apart := false, narrowed := true }
def FnSpanTruncatedUptoSaid : Prop := fnSpanTruncatedUptoRow.holds Try.pinned (OpenSpec.upto fnSpanTruncatedSpec)

/-- 'laws.FnSpanWithin', WHERE WHAT IT READS IS OF BULK AT MOST 1048576: true; the input reads as it did. -/
def fnSpanWithinUptoRow : OpenClaim := { program := "ytgebfbnndgjkiaa", sum := "d945420cd8354773bf85e9c38a1af01cbb706901b89a4c6a7a4c9156c546426a", func := "pub-tessella/laws.FnSpanWithin", spec := "fnSpanWithin", inPlace := ["internal/bytealg.Compare"], unfollowed := true, recurses := true, named := ["encoding/binary.BigEndian", "encoding/binary.LittleEndian"], apart := false, narrowed := true }
def FnSpanWithinUptoSaid : Prop := fnSpanWithinUptoRow.holds Try.pinned (OpenSpec.upto fnSpanWithinSpec)

/-- 'laws.FnSpanBoundedCut', WHERE WHAT IT READS IS OF BULK AT MOST 1048576: true; the input reads as it did. -/
def fnSpanBoundedCutUptoRow : OpenClaim := { program := "ytgebfbnndgjkiaa", sum := "d945420cd8354773bf85e9c38a1af01cbb706901b89a4c6a7a4c9156c546426a", func := "pub-tessella/laws.FnSpanBoundedCut", spec := "fnSpanBoundedCut", inPlace := ["internal/bytealg.Compare"], unfollowed := true, recurses := true, named := ["encoding/binary.BigEndian", "encoding/binary.LittleEndian"], apart := false, narrowed := true }
def FnSpanBoundedCutUptoSaid : Prop := fnSpanBoundedCutUptoRow.holds Try.pinned (OpenSpec.upto fnSpanBoundedCutSpec)

/-- 'laws.FnSpanTruncatedParts', WHERE WHAT IT READS IS OF BULK AT MOST 1048576: true; the input reads as it did. -/
def fnSpanTruncatedPartsUptoRow : OpenClaim := { program := "ytgebfbnndgjkiaa", sum := "d945420cd8354773bf85e9c38a1af01cbb706901b89a4c6a7a4c9156c546426a", func := "pub-tessella/laws.FnSpanTruncatedParts", spec := "fnSpanTruncatedParts", inPlace := ["internal/bytealg.Compare"], unfollowed := true, recurses := true, named := ["encoding/binary.BigEndian", "encoding/binary.LittleEndian"], apart := false, narrowed := true }
def FnSpanTruncatedPartsUptoSaid : Prop := fnSpanTruncatedPartsUptoRow.holds Try.pinned (OpenSpec.upto fnSpanTruncatedPartsSpec)

end Rows
end Go.Proofs.Ytgebfbnndgjkiaa
