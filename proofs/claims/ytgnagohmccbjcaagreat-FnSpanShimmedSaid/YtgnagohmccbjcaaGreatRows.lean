/-
  No cell of these rows narrows 'for every input' (looked for: loops, veiled, ifaces, maps, wideKeys, modest, calm, conditions, laid).
  DERIVED. THE GIVEN ROWS OF THIS SEAT. 4 by the template 'for every input the law returns true; each argument reads behind the call as it read before'; 0 by the template 'total and deterministic' (their statements: YtgnagohmccbjcaaGreatTotals.lean).
  GIVEN WITH THE SEED: the statements are not yours to turn. If you find one false, say at which input.
  Laid BY PROGRAM, IN A SANDBOX (cutbox-rows.mjs): the forced cells as the released guide's own fill.sh prints them over the translation 752f999053b1d719… (all of the seat's roots in one cut). By AI agents, Wed Nov 11 2026. No macro, syntax, notation, axiom, sorry.
-/
import Derived.Test.YtgnagohmccbjcaaGreatChecked
import GoSem.Claim
import GoSem.ClaimJoined
import GoSem.ClaimMapViews
import Derived.JoinedTies
import Derived.KernelRfl
namespace Go.Proofs.YtgnagohmccbjcaaGreat
/- THE CELL 'sum', in the pinned program and in every row, IS THE sha256 OF THE DUMP (.gsa) THAT YtgnagohmccbjcaaGreatProg.lean LOADS. Nothing in Lean hashes anything: it is a label: what it is worth is what the hold of that sum in a sandbox is worth. -/
noncomputable def Tryz.pinned : Pinned := { name := "ytgnagohmccbjcaagreat", sum := "752f999053b1d7195aeea5b4869afa54c22444e2e749a06ec8ae1a07bb03777d", checked := Tryz.checked }
namespace Rows
def none {H : Type} : Left H := { results := [], args := [] }

/-- 'laws.FnSpanShimmed': WHATEVER THE INPUT: true; the input reads as it did. -/
def fnSpanShimmedSpec : ChangeSpec := { name := "fnSpanShimmed", fn := fun _ => fun
  | [d] => { results := [.lit (.bool true)], args := [d] }
  | _ => none }
def fnSpanShimmedRow : OpenClaim := { program := "ytgnagohmccbjcaagreat", sum := "752f999053b1d7195aeea5b4869afa54c22444e2e749a06ec8ae1a07bb03777d", func := "pub-tessella/laws.FnSpanShimmed", spec := "fnSpanShimmed", inPlace := ["internal/bytealg.Compare"], unfollowed := true, recurses := true, named := ["encoding/binary.BigEndian", "encoding/binary.LittleEndian"], apart := false }
def FnSpanShimmedSaid : Prop := fnSpanShimmedRow.holds Tryz.pinned (OpenSpec.ofChange fnSpanShimmedSpec)

/-- ITS FALSE NEIGHBOUR: 'it returns false'. Refute it at one input. -/
def fnSpanShimmedWrong : ChangeSpec := { name := "fnSpanShimmed", fn := fun _ => fun
  | [d] => { results := [.lit (.bool false)], args := [d] }
  | _ => none }
def FnSpanShimmedWrongFalsely : Prop := fnSpanShimmedRow.holds Tryz.pinned (OpenSpec.ofChange fnSpanShimmedWrong)

/-- 'laws.FnSpanMergedFragments': WHATEVER THE INPUT: true; the input reads as it did. -/
def fnSpanMergedFragmentsSpec : ChangeSpec := { name := "fnSpanMergedFragments", fn := fun _ => fun
  | [d] => { results := [.lit (.bool true)], args := [d] }
  | _ => none }
def fnSpanMergedFragmentsRow : OpenClaim := { program := "ytgnagohmccbjcaagreat", sum := "752f999053b1d7195aeea5b4869afa54c22444e2e749a06ec8ae1a07bb03777d", func := "pub-tessella/laws.FnSpanMergedFragments", spec := "fnSpanMergedFragments", inPlace := ["internal/bytealg.Compare"], unfollowed := true, recurses := true, named := ["encoding/binary.BigEndian", "encoding/binary.LittleEndian"], apart := false }
def FnSpanMergedFragmentsSaid : Prop := fnSpanMergedFragmentsRow.holds Tryz.pinned (OpenSpec.ofChange fnSpanMergedFragmentsSpec)

/-- ITS FALSE NEIGHBOUR: 'it returns false'. Refute it at one input. -/
def fnSpanMergedFragmentsWrong : ChangeSpec := { name := "fnSpanMergedFragments", fn := fun _ => fun
  | [d] => { results := [.lit (.bool false)], args := [d] }
  | _ => none }
def FnSpanMergedFragmentsWrongFalsely : Prop := fnSpanMergedFragmentsRow.holds Tryz.pinned (OpenSpec.ofChange fnSpanMergedFragmentsWrong)

/-- 'laws.FnSpanLevel': WHATEVER THE INPUT: true; the input reads as it did. -/
def fnSpanLevelSpec : ChangeSpec := { name := "fnSpanLevel", fn := fun _ => fun
  | [d1, d2] => { results := [.lit (.bool true)], args := [d1, d2] }
  | _ => none }
def fnSpanLevelRow : OpenClaim := { program := "ytgnagohmccbjcaagreat", sum := "752f999053b1d7195aeea5b4869afa54c22444e2e749a06ec8ae1a07bb03777d", func := "pub-tessella/laws.FnSpanLevel", spec := "fnSpanLevel", inPlace := ["internal/bytealg.Compare", "sync/atomic.StoreInt32", "sync/atomic.LoadInt32", "sync/atomic.AddInt32"], unfollowed := true, recurses := true, named := ["encoding/binary.BigEndian", "encoding/binary.LittleEndian"], apart := false }
def FnSpanLevelSaid : Prop := fnSpanLevelRow.holds Tryz.pinned (OpenSpec.ofChange fnSpanLevelSpec)

/-- ITS FALSE NEIGHBOUR: 'it returns false'. Refute it at one input. -/
def fnSpanLevelWrong : ChangeSpec := { name := "fnSpanLevel", fn := fun _ => fun
  | [d1, d2] => { results := [.lit (.bool false)], args := [d1, d2] }
  | _ => none }
def FnSpanLevelWrongFalsely : Prop := fnSpanLevelRow.holds Tryz.pinned (OpenSpec.ofChange fnSpanLevelWrong)

/-- 'laws.FnSpanLevelSeek': WHATEVER THE INPUT: true; the input reads as it did. -/
def fnSpanLevelSeekSpec : ChangeSpec := { name := "fnSpanLevelSeek", fn := fun _ => fun
  | [d1, d2, d3] => { results := [.lit (.bool true)], args := [d1, d2, d3] }
  | _ => none }
def fnSpanLevelSeekRow : OpenClaim := { program := "ytgnagohmccbjcaagreat", sum := "752f999053b1d7195aeea5b4869afa54c22444e2e749a06ec8ae1a07bb03777d", func := "pub-tessella/laws.FnSpanLevelSeek", spec := "fnSpanLevelSeek", inPlace := ["internal/bytealg.Compare", "sync/atomic.StoreInt32", "sync/atomic.LoadInt32", "sync/atomic.AddInt32"], unfollowed := true, recurses := true, named := ["encoding/binary.BigEndian", "encoding/binary.LittleEndian"], apart := false }
def FnSpanLevelSeekSaid : Prop := fnSpanLevelSeekRow.holds Tryz.pinned (OpenSpec.ofChange fnSpanLevelSeekSpec)

/-- ITS FALSE NEIGHBOUR: 'it returns false'. Refute it at one input. -/
def fnSpanLevelSeekWrong : ChangeSpec := { name := "fnSpanLevelSeek", fn := fun _ => fun
  | [d1, d2, d3] => { results := [.lit (.bool false)], args := [d1, d2, d3] }
  | _ => none }
def FnSpanLevelSeekWrongFalsely : Prop := fnSpanLevelSeekRow.holds Tryz.pinned (OpenSpec.ofChange fnSpanLevelSeekWrong)

/- THE SECOND FORM. 'bulk': how many values and letters a reading holds, each counted each time it is reached (what is shared counts as often as it is met; a slice's spare places count too). A statement '..UptoSaid' is the law's where the arguments, and the package variables that the reading takes, are together of bulk at most 1048576: NARROWER than '..Said'. Prove '..Said' where nothing that the law and all that it calls make is longer than what came in: it says more and counts as full. Else prove '..UptoSaid'. A law counts once. -/
mutual
def uptoBulk {H : Type} : DataW H → Nat
  | .lit (.string bytes) => bytes.length + 1
  | .lit _ => 1
  | .nil => 1
  | .ptr d => uptoBulk d + 1
  | .slice elems spare => uptoBulkAll elems + uptoBulkAll spare + 1
  | .agg parts => uptoBulkAll parts + 1
  | .iface _ d => uptoBulk d + 1
  | .map entries => uptoBulkEntries entries + 1
  | .held _ => 1
def uptoBulkAll {H : Type} : List (DataW H) → Nat
  | [] => 0
  | d :: r => uptoBulk d + uptoBulkAll r
def uptoBulkEntries {H : Type} : List (Lit × DataW H) → Nat
  | [] => 0
  | x :: r => uptoBulkEntry x + uptoBulkEntries r
def uptoBulkEntry {H : Type} : Lit × DataW H → Nat
  | (.string bytes, d) => bytes.length + uptoBulk d + 1
  | (_, d) => uptoBulk d + 1
 end
def uptoSmall : (H : Type) → List (DataW H) → Bool := fun _ ds => decide (uptoBulkAll ds ≤ 1048576)
def OpenSpec.upto (s : _root_.Go.ChangeSpec) : _root_.Go.OpenSpec := { _root_.Go.OpenSpec.ofChange s with cond := some uptoSmall }

/-- 'laws.FnSpanShimmed', WHERE WHAT IT READS IS OF BULK AT MOST 1048576: true; the input reads as it did. -/
def fnSpanShimmedUptoRow : OpenClaim := { program := "ytgnagohmccbjcaagreat", sum := "752f999053b1d7195aeea5b4869afa54c22444e2e749a06ec8ae1a07bb03777d", func := "pub-tessella/laws.FnSpanShimmed", spec := "fnSpanShimmed", inPlace := ["internal/bytealg.Compare"], unfollowed := true, recurses := true, named := ["encoding/binary.BigEndian", "encoding/binary.LittleEndian"], apart := false, narrowed := true }
def FnSpanShimmedUptoSaid : Prop := fnSpanShimmedUptoRow.holds Tryz.pinned (OpenSpec.upto fnSpanShimmedSpec)

/-- 'laws.FnSpanMergedFragments', WHERE WHAT IT READS IS OF BULK AT MOST 1048576: true; the input reads as it did. -/
def fnSpanMergedFragmentsUptoRow : OpenClaim := { program := "ytgnagohmccbjcaagreat", sum := "752f999053b1d7195aeea5b4869afa54c22444e2e749a06ec8ae1a07bb03777d", func := "pub-tessella/laws.FnSpanMergedFragments", spec := "fnSpanMergedFragments", inPlace := ["internal/bytealg.Compare"], unfollowed := true, recurses := true, named := ["encoding/binary.BigEndian", "encoding/binary.LittleEndian"], apart := false, narrowed := true }
def FnSpanMergedFragmentsUptoSaid : Prop := fnSpanMergedFragmentsUptoRow.holds Tryz.pinned (OpenSpec.upto fnSpanMergedFragmentsSpec)

/-- 'laws.FnSpanLevel', WHERE WHAT IT READS IS OF BULK AT MOST 1048576: true; the input reads as it did. -/
def fnSpanLevelUptoRow : OpenClaim := { program := "ytgnagohmccbjcaagreat", sum := "752f999053b1d7195aeea5b4869afa54c22444e2e749a06ec8ae1a07bb03777d", func := "pub-tessella/laws.FnSpanLevel", spec := "fnSpanLevel", inPlace := ["internal/bytealg.Compare", "sync/atomic.StoreInt32", "sync/atomic.LoadInt32", "sync/atomic.AddInt32"], unfollowed := true, recurses := true, named := ["encoding/binary.BigEndian", "encoding/binary.LittleEndian"], apart := false, narrowed := true }
def FnSpanLevelUptoSaid : Prop := fnSpanLevelUptoRow.holds Tryz.pinned (OpenSpec.upto fnSpanLevelSpec)

/-- 'laws.FnSpanLevelSeek', WHERE WHAT IT READS IS OF BULK AT MOST 1048576: true; the input reads as it did. -/
def fnSpanLevelSeekUptoRow : OpenClaim := { program := "ytgnagohmccbjcaagreat", sum := "752f999053b1d7195aeea5b4869afa54c22444e2e749a06ec8ae1a07bb03777d", func := "pub-tessella/laws.FnSpanLevelSeek", spec := "fnSpanLevelSeek", inPlace := ["internal/bytealg.Compare", "sync/atomic.StoreInt32", "sync/atomic.LoadInt32", "sync/atomic.AddInt32"], unfollowed := true, recurses := true, named := ["encoding/binary.BigEndian", "encoding/binary.LittleEndian"], apart := false, narrowed := true }
def FnSpanLevelSeekUptoSaid : Prop := fnSpanLevelSeekUptoRow.holds Tryz.pinned (OpenSpec.upto fnSpanLevelSeekSpec)

end Rows
end Go.Proofs.YtgnagohmccbjcaaGreat
