/-
  No cell of these rows narrows 'for every input' (looked for: loops, veiled, ifaces, maps, wideKeys, modest, calm, conditions, laid).
  DERIVED. THE GIVEN ROWS OF THIS SEAT. 7 by the template 'for every input the law returns true; each argument reads behind the call as it read before'; 0 by the template 'total and deterministic' (their statements: YtblhkgldhcbmeaaGreatTotals.lean).
  GIVEN WITH THE SEED: the statements are not yours to turn. If you find one false, say at which input.
  Laid BY PROGRAM, IN A SANDBOX (cutbox-rows.mjs): the forced cells as the released guide's own fill.sh prints them over the translation cefa3e1ccb2d87cb… (all of the seat's roots in one cut). By AI agents, Wed Nov 11 2026. No macro, syntax, notation, axiom, sorry.
-/
import Derived.Test.YtblhkgldhcbmeaaGreatChecked
import GoSem.Claim
import GoSem.ClaimJoined
import GoSem.ClaimMapViews
import Derived.JoinedTies
import Derived.KernelRfl
namespace Go.Proofs.YtblhkgldhcbmeaaGreat
/- THE CELL 'sum', in the pinned program and in every row, IS THE sha256 OF THE DUMP (.gsa) THAT YtblhkgldhcbmeaaGreatProg.lean LOADS. Nothing in Lean hashes anything: it is a label: what it is worth is what the hold of that sum in a sandbox is worth. -/
noncomputable def Tryz.pinned : Pinned := { name := "ytblhkgldhcbmeaagreat", sum := "cefa3e1ccb2d87cb3e66321e5eb2f8f6921c138a9ea8c3f1ce48d5f673045ea1", checked := Tryz.checked }
namespace Rows
def none {H : Type} : Left H := { results := [], args := [] }

/-- 'laws.FnSpanInterleaved': WHATEVER THE INPUT: true; the input reads as it did. -/
def fnSpanInterleavedSpec : ChangeSpec := { name := "fnSpanInterleaved", fn := fun _ => fun
  | [d1, d2, d3] => { results := [.lit (.bool true)], args := [d1, d2, d3] }
  | _ => none }
def fnSpanInterleavedRow : OpenClaim := { program := "ytblhkgldhcbmeaagreat", sum := "cefa3e1ccb2d87cb3e66321e5eb2f8f6921c138a9ea8c3f1ce48d5f673045ea1", func := "pub-tessella/laws.FnSpanInterleaved", spec := "fnSpanInterleaved", inPlace := ["internal/bytealg.Compare"], unfollowed := true, recurses := true, named := ["encoding/binary.BigEndian", "encoding/binary.LittleEndian"], apart := false }
def FnSpanInterleavedSaid : Prop := fnSpanInterleavedRow.holds Tryz.pinned (OpenSpec.ofChange fnSpanInterleavedSpec)

/-- ITS FALSE NEIGHBOUR: 'it returns false'. Refute it at one input. -/
def fnSpanInterleavedWrong : ChangeSpec := { name := "fnSpanInterleaved", fn := fun _ => fun
  | [d1, d2, d3] => { results := [.lit (.bool false)], args := [d1, d2, d3] }
  | _ => none }
def FnSpanInterleavedWrongFalsely : Prop := fnSpanInterleavedRow.holds Tryz.pinned (OpenSpec.ofChange fnSpanInterleavedWrong)

/-- 'laws.FnSpanInterleavedForth': WHATEVER THE INPUT: true; the input reads as it did. -/
def fnSpanInterleavedForthSpec : ChangeSpec := { name := "fnSpanInterleavedForth", fn := fun _ => fun
  | [d1, d2] => { results := [.lit (.bool true)], args := [d1, d2] }
  | _ => none }
def fnSpanInterleavedForthRow : OpenClaim := { program := "ytblhkgldhcbmeaagreat", sum := "cefa3e1ccb2d87cb3e66321e5eb2f8f6921c138a9ea8c3f1ce48d5f673045ea1", func := "pub-tessella/laws.FnSpanInterleavedForth", spec := "fnSpanInterleavedForth", inPlace := ["internal/bytealg.Compare"], unfollowed := true, recurses := true, named := ["encoding/binary.BigEndian", "encoding/binary.LittleEndian"], apart := false }
def FnSpanInterleavedForthSaid : Prop := fnSpanInterleavedForthRow.holds Tryz.pinned (OpenSpec.ofChange fnSpanInterleavedForthSpec)

/-- ITS FALSE NEIGHBOUR: 'it returns false'. Refute it at one input. -/
def fnSpanInterleavedForthWrong : ChangeSpec := { name := "fnSpanInterleavedForth", fn := fun _ => fun
  | [d1, d2] => { results := [.lit (.bool false)], args := [d1, d2] }
  | _ => none }
def FnSpanInterleavedForthWrongFalsely : Prop := fnSpanInterleavedForthRow.holds Tryz.pinned (OpenSpec.ofChange fnSpanInterleavedForthWrong)

/-- 'laws.FnSpanInterleavedWithin': WHATEVER THE INPUT: true; the input reads as it did. -/
def fnSpanInterleavedWithinSpec : ChangeSpec := { name := "fnSpanInterleavedWithin", fn := fun _ => fun
  | [d1, d2, d3, d4, d5] => { results := [.lit (.bool true)], args := [d1, d2, d3, d4, d5] }
  | _ => none }
def fnSpanInterleavedWithinRow : OpenClaim := { program := "ytblhkgldhcbmeaagreat", sum := "cefa3e1ccb2d87cb3e66321e5eb2f8f6921c138a9ea8c3f1ce48d5f673045ea1", func := "pub-tessella/laws.FnSpanInterleavedWithin", spec := "fnSpanInterleavedWithin", inPlace := ["internal/bytealg.Compare"], unfollowed := true, recurses := true, named := ["encoding/binary.BigEndian", "encoding/binary.LittleEndian"], apart := false }
def FnSpanInterleavedWithinSaid : Prop := fnSpanInterleavedWithinRow.holds Tryz.pinned (OpenSpec.ofChange fnSpanInterleavedWithinSpec)

/-- ITS FALSE NEIGHBOUR: 'it returns false'. Refute it at one input. -/
def fnSpanInterleavedWithinWrong : ChangeSpec := { name := "fnSpanInterleavedWithin", fn := fun _ => fun
  | [d1, d2, d3, d4, d5] => { results := [.lit (.bool false)], args := [d1, d2, d3, d4, d5] }
  | _ => none }
def FnSpanInterleavedWithinWrongFalsely : Prop := fnSpanInterleavedWithinRow.holds Tryz.pinned (OpenSpec.ofChange fnSpanInterleavedWithinWrong)

/-- 'laws.FnSpanMasked': WHATEVER THE INPUT: true; the input reads as it did. -/
def fnSpanMaskedSpec : ChangeSpec := { name := "fnSpanMasked", fn := fun _ => fun
  | [d1, d2, d3, d4] => { results := [.lit (.bool true)], args := [d1, d2, d3, d4] }
  | _ => none }
def fnSpanMaskedRow : OpenClaim := { program := "ytblhkgldhcbmeaagreat", sum := "cefa3e1ccb2d87cb3e66321e5eb2f8f6921c138a9ea8c3f1ce48d5f673045ea1", func := "pub-tessella/laws.FnSpanMasked", spec := "fnSpanMasked", inPlace := ["internal/bytealg.Compare"], unfollowed := true, recurses := true, named := ["encoding/binary.BigEndian", "encoding/binary.LittleEndian"], apart := false }
def FnSpanMaskedSaid : Prop := fnSpanMaskedRow.holds Tryz.pinned (OpenSpec.ofChange fnSpanMaskedSpec)

/-- ITS FALSE NEIGHBOUR: 'it returns false'. Refute it at one input. -/
def fnSpanMaskedWrong : ChangeSpec := { name := "fnSpanMasked", fn := fun _ => fun
  | [d1, d2, d3, d4] => { results := [.lit (.bool false)], args := [d1, d2, d3, d4] }
  | _ => none }
def FnSpanMaskedWrongFalsely : Prop := fnSpanMaskedRow.holds Tryz.pinned (OpenSpec.ofChange fnSpanMaskedWrong)

/-- 'laws.FnSpanInterleavedGet': WHATEVER THE INPUT: true; the input reads as it did. -/
def fnSpanInterleavedGetSpec : ChangeSpec := { name := "fnSpanInterleavedGet", fn := fun _ => fun
  | [d1, d2] => { results := [.lit (.bool true)], args := [d1, d2] }
  | _ => none }
def fnSpanInterleavedGetRow : OpenClaim := { program := "ytblhkgldhcbmeaagreat", sum := "cefa3e1ccb2d87cb3e66321e5eb2f8f6921c138a9ea8c3f1ce48d5f673045ea1", func := "pub-tessella/laws.FnSpanInterleavedGet", spec := "fnSpanInterleavedGet", inPlace := ["internal/bytealg.Compare"], unfollowed := true, recurses := true, named := ["encoding/binary.BigEndian", "encoding/binary.LittleEndian"], apart := false }
def FnSpanInterleavedGetSaid : Prop := fnSpanInterleavedGetRow.holds Tryz.pinned (OpenSpec.ofChange fnSpanInterleavedGetSpec)

/-- ITS FALSE NEIGHBOUR: 'it returns false'. Refute it at one input. -/
def fnSpanInterleavedGetWrong : ChangeSpec := { name := "fnSpanInterleavedGet", fn := fun _ => fun
  | [d1, d2] => { results := [.lit (.bool false)], args := [d1, d2] }
  | _ => none }
def FnSpanInterleavedGetWrongFalsely : Prop := fnSpanInterleavedGetRow.holds Tryz.pinned (OpenSpec.ofChange fnSpanInterleavedGetWrong)

/-- 'laws.FnSpanLevel': WHATEVER THE INPUT: true; the input reads as it did. -/
def fnSpanLevelSpec : ChangeSpec := { name := "fnSpanLevel", fn := fun _ => fun
  | [d1, d2] => { results := [.lit (.bool true)], args := [d1, d2] }
  | _ => none }
def fnSpanLevelRow : OpenClaim := { program := "ytblhkgldhcbmeaagreat", sum := "cefa3e1ccb2d87cb3e66321e5eb2f8f6921c138a9ea8c3f1ce48d5f673045ea1", func := "pub-tessella/laws.FnSpanLevel", spec := "fnSpanLevel", inPlace := ["internal/bytealg.Compare", "sync/atomic.StoreInt32", "sync/atomic.LoadInt32", "sync/atomic.AddInt32"], unfollowed := true, recurses := true, named := ["encoding/binary.BigEndian", "encoding/binary.LittleEndian"], apart := false }
def FnSpanLevelSaid : Prop := fnSpanLevelRow.holds Tryz.pinned (OpenSpec.ofChange fnSpanLevelSpec)

/-- ITS FALSE NEIGHBOUR: 'it returns false'. Refute it at one input. -/
def fnSpanLevelWrong : ChangeSpec := { name := "fnSpanLevel", fn := fun _ => fun
  | [d1, d2] => { results := [.lit (.bool false)], args := [d1, d2] }
  | _ => none }
def FnSpanLevelWrongFalsely : Prop := fnSpanLevelRow.holds Tryz.pinned (OpenSpec.ofChange fnSpanLevelWrong)

/-- 'laws.FnSpanLevelSeek': WHATEVER THE INPUT: true; the input reads as it did. -/
def fnSpanLevelSeekSpec : ChangeSpec := { name := "fnSpanLevelSeek", fn := fun _ => fun
  | [d1, d2, d3] => { results := [.lit (.bool true)], args := [d1, d2, d3] }
  | _ => none }
def fnSpanLevelSeekRow : OpenClaim := { program := "ytblhkgldhcbmeaagreat", sum := "cefa3e1ccb2d87cb3e66321e5eb2f8f6921c138a9ea8c3f1ce48d5f673045ea1", func := "pub-tessella/laws.FnSpanLevelSeek", spec := "fnSpanLevelSeek", inPlace := ["internal/bytealg.Compare", "sync/atomic.StoreInt32", "sync/atomic.LoadInt32", "sync/atomic.AddInt32"], unfollowed := true, recurses := true, named := ["encoding/binary.BigEndian", "encoding/binary.LittleEndian"], apart := false }
def FnSpanLevelSeekSaid : Prop := fnSpanLevelSeekRow.holds Tryz.pinned (OpenSpec.ofChange fnSpanLevelSeekSpec)

/-- ITS FALSE NEIGHBOUR: 'it returns false'. Refute it at one input. -/
def fnSpanLevelSeekWrong : ChangeSpec := { name := "fnSpanLevelSeek", fn := fun _ => fun
  | [d1, d2, d3] => { results := [.lit (.bool false)], args := [d1, d2, d3] }
  | _ => none }
def FnSpanLevelSeekWrongFalsely : Prop := fnSpanLevelSeekRow.holds Tryz.pinned (OpenSpec.ofChange fnSpanLevelSeekWrong)

/- THE SECOND FORM. 'bulk': how many values and letters a reading holds, each counted each time it is reached (what is shared counts as often as it is met; a slice's spare places count too). A statement '..UptoSaid' is the law's where the arguments, and the package variables that the reading takes, are together of bulk at most 1048576: NARROWER than '..Said'. Prove '..Said' where nothing that the law and all that it calls make is longer than what came in: it says more and counts as full. Else prove '..UptoSaid'. A law counts once. -/
mutual
def uptoBulk {H : Type} : DataW H → Nat
  | .lit (.string bytes) => bytes.length + 1
  | .lit _ => 1
  | .nil => 1
  | .ptr d => uptoBulk d + 1
  | .slice elems spare => uptoBulkAll elems + uptoBulkAll spare + 1
  | .agg parts => uptoBulkAll parts + 1
  | .iface _ d => uptoBulk d + 1
  | .map entries => uptoBulkEntries entries + 1
  | .held _ => 1
def uptoBulkAll {H : Type} : List (DataW H) → Nat
  | [] => 0
  | d :: r => uptoBulk d + uptoBulkAll r
def uptoBulkEntries {H : Type} : List (Lit × DataW H) → Nat
  | [] => 0
  | x :: r => uptoBulkEntry x + uptoBulkEntries r
def uptoBulkEntry {H : Type} : Lit × DataW H → Nat
  | (.string bytes, d) => bytes.length + uptoBulk d + 1
  | (_, d) => uptoBulk d + 1
 end
def uptoSmall : (H : Type) → List (DataW H) → Bool := fun _ ds => decide (uptoBulkAll ds ≤ 1048576)
def OpenSpec.upto (s : _root_.Go.ChangeSpec) : _root_.Go.OpenSpec := { _root_.Go.OpenSpec.ofChange s with cond := some uptoSmall }

/-- 'laws.FnSpanInterleaved', WHERE WHAT IT READS IS OF BULK AT MOST 1048576: true; the input reads as it did. -/
def fnSpanInterleavedUptoRow : OpenClaim := { program := "ytblhkgldhcbmeaagreat", sum := "cefa3e1ccb2d87cb3e66321e5eb2f8f6921c138a9ea8c3f1ce48d5f673045ea1", func := "pub-tessella/laws.FnSpanInterleaved", spec := "fnSpanInterleaved", inPlace := ["internal/bytealg.Compare"], unfollowed := true, recurses := true, named := ["encoding/binary.BigEndian", "encoding/binary.LittleEndian"], apart := false, narrowed := true }
def FnSpanInterleavedUptoSaid : Prop := fnSpanInterleavedUptoRow.holds Tryz.pinned (OpenSpec.upto fnSpanInterleavedSpec)

/-- 'laws.FnSpanInterleavedForth', WHERE WHAT IT READS IS OF BULK AT MOST 1048576: true; the input reads as it did. -/
def fnSpanInterleavedForthUptoRow : OpenClaim := { program := "ytblhkgldhcbmeaagreat", sum := "cefa3e1ccb2d87cb3e66321e5eb2f8f6921c138a9ea8c3f1ce48d5f673045ea1", func := "pub-tessella/laws.FnSpanInterleavedForth", spec := "fnSpanInterleavedForth", inPlace := ["internal/bytealg.Compare"], unfollowed := true, recurses := true, named := ["encoding/binary.BigEndian", "encoding/binary.LittleEndian"], apart := false, narrowed := true }
def FnSpanInterleavedForthUptoSaid : Prop := fnSpanInterleavedForthUptoRow.holds Tryz.pinned (OpenSpec.upto fnSpanInterleavedForthSpec)

/-- 'laws.FnSpanInterleavedWithin', WHERE WHAT IT READS IS OF BULK AT MOST 1048576: true; the input reads as it did. -/
def fnSpanInterleavedWithinUptoRow : OpenClaim := { program := "ytblhkgldhcbmeaagreat", sum := "cefa3e1ccb2d87cb3e66321e5eb2f8f6921c138a9ea8c3f1ce48d5f673045ea1", func := "pub-tessella/laws.FnSpanInterleavedWithin", spec := "fnSpanInterleavedWithin", inPlace := ["internal/bytealg.Compare"], unfollowed := true, recurses := true, named := ["encoding/binary.BigEndian", "encoding/binary.LittleEndian"], apart := false, narrowed := true }
def FnSpanInterleavedWithinUptoSaid : Prop := fnSpanInterleavedWithinUptoRow.holds Tryz.pinned (OpenSpec.upto fnSpanInterleavedWithinSpec)

/-- 'laws.FnSpanMasked', WHERE WHAT IT READS IS OF BULK AT MOST 1048576: true; the input reads as it did. -/
def fnSpanMaskedUptoRow : OpenClaim := { program := "ytblhkgldhcbmeaagreat", sum := "cefa3e1ccb2d87cb3e66321e5eb2f8f6921c138a9ea8c3f1ce48d5f673045ea1", func := "pub-tessella/laws.FnSpanMasked", spec := "fnSpanMasked", inPlace := ["internal/bytealg.Compare"], unfollowed := true, recurses := true, named := ["encoding/binary.BigEndian", "encoding/binary.LittleEndian"], apart := false, narrowed := true }
def FnSpanMaskedUptoSaid : Prop := fnSpanMaskedUptoRow.holds Tryz.pinned (OpenSpec.upto fnSpanMaskedSpec)

/-- 'laws.FnSpanInterleavedGet', WHERE WHAT IT READS IS OF BULK AT MOST 1048576: true; the input reads as it did. -/
def fnSpanInterleavedGetUptoRow : OpenClaim := { program := "ytblhkgldhcbmeaagreat", sum := "cefa3e1ccb2d87cb3e66321e5eb2f8f6921c138a9ea8c3f1ce48d5f673045ea1", func := "pub-tessella/laws.FnSpanInterleavedGet", spec := "fnSpanInterleavedGet", inPlace := ["internal/bytealg.Compare"], unfollowed := true, recurses := true, named := ["encoding/binary.BigEndian", "encoding/binary.LittleEndian"], apart := false, narrowed := true }
def FnSpanInterleavedGetUptoSaid : Prop := fnSpanInterleavedGetUptoRow.holds Tryz.pinned (OpenSpec.upto fnSpanInterleavedGetSpec)

/-- 'laws.FnSpanLevel', WHERE WHAT IT READS IS OF BULK AT MOST 1048576: true; the input reads as it did. -/
def fnSpanLevelUptoRow : OpenClaim := { program := "ytblhkgldhcbmeaagreat", sum := "cefa3e1ccb2d87cb3e66321e5eb2f8f6921c138a9ea8c3f1ce48d5f673045ea1", func := "pub-tessella/laws.FnSpanLevel", spec := "fnSpanLevel", inPlace := ["internal/bytealg.Compare", "sync/atomic.StoreInt32", "sync/atomic.LoadInt32", "sync/atomic.AddInt32"], unfollowed := true, recurses := true, named := ["encoding/binary.BigEndian", "encoding/binary.LittleEndian"], apart := false, narrowed := true }
def FnSpanLevelUptoSaid : Prop := fnSpanLevelUptoRow.holds Tryz.pinned (OpenSpec.upto fnSpanLevelSpec)

/-- 'laws.FnSpanLevelSeek', WHERE WHAT IT READS IS OF BULK AT MOST 1048576: true; the input reads as it did. -/
def fnSpanLevelSeekUptoRow : OpenClaim := { program := "ytblhkgldhcbmeaagreat", sum := "cefa3e1ccb2d87cb3e66321e5eb2f8f6921c138a9ea8c3f1ce48d5f673045ea1", func := "pub-tessella/laws.FnSpanLevelSeek", spec := "fnSpanLevelSeek", inPlace := ["internal/bytealg.Compare", "sync/atomic.StoreInt32", "sync/atomic.LoadInt32", "sync/atomic.AddInt32"], unfollowed := true, recurses := true, named := ["encoding/binary.BigEndian", "encoding/binary.LittleEndian"], apart := false, narrowed := true }
def FnSpanLevelSeekUptoSaid : Prop := fnSpanLevelSeekUptoRow.holds Tryz.pinned (OpenSpec.upto fnSpanLevelSeekSpec)

end Rows
end Go.Proofs.YtblhkgldhcbmeaaGreat
