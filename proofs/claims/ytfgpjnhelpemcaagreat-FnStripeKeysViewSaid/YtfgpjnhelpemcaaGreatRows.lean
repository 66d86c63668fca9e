/-
  No cell of these rows narrows 'for every input' (looked for: loops, veiled, ifaces, maps, wideKeys, modest, calm, conditions, laid).
  DERIVED. THE GIVEN ROWS OF THIS SEAT. 5 by the template 'for every input the law returns true; each argument reads behind the call as it read before'; 0 by the template 'total and deterministic' (their statements: YtfgpjnhelpemcaaGreatTotals.lean).
  GIVEN WITH THE SEED: the statements are not yours to turn. If you find one false, say at which input.
  Laid BY PROGRAM, IN A SANDBOX (cutbox-rows.mjs): the forced cells as the released guide's own fill.sh prints them over the translation 19bffbfec241e61d… (all of the seat's roots in one cut). By AI agents, Wed Nov 11 2026. No macro, syntax, notation, axiom, sorry.
-/
import Derived.Test.YtfgpjnhelpemcaaGreatChecked
import GoSem.Claim
import GoSem.ClaimJoined
import GoSem.ClaimMapViews
import Derived.JoinedTies
import Derived.KernelRfl
namespace Go.Proofs.YtfgpjnhelpemcaaGreat
/- THE CELL 'sum', in the pinned program and in every row, IS THE sha256 OF THE DUMP (.gsa) THAT YtfgpjnhelpemcaaGreatProg.lean LOADS. Nothing in Lean hashes anything: it is a label: what it is worth is what the hold of that sum in a sandbox is worth. -/
noncomputable def Tryz.pinned : Pinned := { name := "ytfgpjnhelpemcaagreat", sum := "19bffbfec241e61db1196c8ff5fb507a6d53fa76d7f24c425a90470a77f59bf3", checked := Tryz.checked }
namespace Rows
def none {H : Type} : Left H := { results := [], args := [] }

/-- 'laws.FnStripeKeysExact': WHATEVER THE INPUT: true; the input reads as it did. -/
def fnStripeKeysExactSpec : ChangeSpec := { name := "fnStripeKeysExact", fn := fun _ => fun
  | [d1, d2, d3, d4] => { results := [.lit (.bool true)], args := [d1, d2, d3, d4] }
  | _ => none }
def fnStripeKeysExactRow : OpenClaim := { program := "ytfgpjnhelpemcaagreat", sum := "19bffbfec241e61db1196c8ff5fb507a6d53fa76d7f24c425a90470a77f59bf3", func := "pub-tessella/laws.FnStripeKeysExact", spec := "fnStripeKeysExact", inPlace := ["internal/bytealg.Compare"], unfollowed := true, recurses := true, named := ["encoding/binary.BigEndian", "encoding/binary.LittleEndian"], apart := false }
def FnStripeKeysExactSaid : Prop := fnStripeKeysExactRow.holds Tryz.pinned (OpenSpec.ofChange fnStripeKeysExactSpec)

/-- ITS FALSE NEIGHBOUR: 'it returns false'. Refute it at one input. -/
def fnStripeKeysExactWrong : ChangeSpec := { name := "fnStripeKeysExact", fn := fun _ => fun
  | [d1, d2, d3, d4] => { results := [.lit (.bool false)], args := [d1, d2, d3, d4] }
  | _ => none }
def FnStripeKeysExactWrongFalsely : Prop := fnStripeKeysExactRow.holds Tryz.pinned (OpenSpec.ofChange fnStripeKeysExactWrong)

/-- 'laws.FnStripeKeysOne': WHATEVER THE INPUT: true; the input reads as it did. -/
def fnStripeKeysOneSpec : ChangeSpec := { name := "fnStripeKeysOne", fn := fun _ => fun
  | [d1, d2, d3] => { results := [.lit (.bool true)], args := [d1, d2, d3] }
  | _ => none }
def fnStripeKeysOneRow : OpenClaim := { program := "ytfgpjnhelpemcaagreat", sum := "19bffbfec241e61db1196c8ff5fb507a6d53fa76d7f24c425a90470a77f59bf3", func := "pub-tessella/laws.FnStripeKeysOne", spec := "fnStripeKeysOne", inPlace := ["internal/bytealg.Compare"], unfollowed := true, recurses := true, named := ["encoding/binary.BigEndian", "encoding/binary.LittleEndian"], apart := false }
def FnStripeKeysOneSaid : Prop := fnStripeKeysOneRow.holds Tryz.pinned (OpenSpec.ofChange fnStripeKeysOneSpec)

/-- ITS FALSE NEIGHBOUR: 'it returns false'. Refute it at one input. -/
def fnStripeKeysOneWrong : ChangeSpec := { name := "fnStripeKeysOne", fn := fun _ => fun
  | [d1, d2, d3] => { results := [.lit (.bool false)], args := [d1, d2, d3] }
  | _ => none }
def FnStripeKeysOneWrongFalsely : Prop := fnStripeKeysOneRow.holds Tryz.pinned (OpenSpec.ofChange fnStripeKeysOneWrong)

/-- 'laws.FnStripeKeysSteps': WHATEVER THE INPUT: true; the input reads as it did. -/
def fnStripeKeysStepsSpec : ChangeSpec := { name := "fnStripeKeysSteps", fn := fun _ => fun
  | [d1, d2, d3, d4] => { results := [.lit (.bool true)], args := [d1, d2, d3, d4] }
  | _ => none }
def fnStripeKeysStepsRow : OpenClaim := { program := "ytfgpjnhelpemcaagreat", sum := "19bffbfec241e61db1196c8ff5fb507a6d53fa76d7f24c425a90470a77f59bf3", func := "pub-tessella/laws.FnStripeKeysSteps", spec := "fnStripeKeysSteps", inPlace := ["internal/bytealg.Compare"], unfollowed := true, recurses := true, named := ["encoding/binary.BigEndian", "encoding/binary.LittleEndian"], apart := false }
def FnStripeKeysStepsSaid : Prop := fnStripeKeysStepsRow.holds Tryz.pinned (OpenSpec.ofChange fnStripeKeysStepsSpec)

/-- ITS FALSE NEIGHBOUR: 'it returns false'. Refute it at one input. -/
def fnStripeKeysStepsWrong : ChangeSpec := { name := "fnStripeKeysSteps", fn := fun _ => fun
  | [d1, d2, d3, d4] => { results := [.lit (.bool false)], args := [d1, d2, d3, d4] }
  | _ => none }
def FnStripeKeysStepsWrongFalsely : Prop := fnStripeKeysStepsRow.holds Tryz.pinned (OpenSpec.ofChange fnStripeKeysStepsWrong)

/-- 'laws.FnStripeKeysTwice': WHATEVER THE INPUT: true; the input reads as it did. -/
def fnStripeKeysTwiceSpec : ChangeSpec := { name := "fnStripeKeysTwice", fn := fun _ => fun
  | [d1, d2] => { results := [.lit (.bool true)], args := [d1, d2] }
  | _ => none }
def fnStripeKeysTwiceRow : OpenClaim := { program := "ytfgpjnhelpemcaagreat", sum := "19bffbfec241e61db1196c8ff5fb507a6d53fa76d7f24c425a90470a77f59bf3", func := "pub-tessella/laws.FnStripeKeysTwice", spec := "fnStripeKeysTwice", inPlace := ["internal/bytealg.Compare"], unfollowed := true, recurses := true, named := ["encoding/binary.BigEndian", "encoding/binary.LittleEndian"], apart := false }
def FnStripeKeysTwiceSaid : Prop := fnStripeKeysTwiceRow.holds Tryz.pinned (OpenSpec.ofChange fnStripeKeysTwiceSpec)

/-- ITS FALSE NEIGHBOUR: 'it returns false'. Refute it at one input. -/
def fnStripeKeysTwiceWrong : ChangeSpec := { name := "fnStripeKeysTwice", fn := fun _ => fun
  | [d1, d2] => { results := [.lit (.bool false)], args := [d1, d2] }
  | _ => none }
def FnStripeKeysTwiceWrongFalsely : Prop := fnStripeKeysTwiceRow.holds Tryz.pinned (OpenSpec.ofChange fnStripeKeysTwiceWrong)

/-- 'laws.FnStripeKeysView': WHATEVER THE INPUT: true; the input reads as it did. -/
def fnStripeKeysViewSpec : ChangeSpec := { name := "fnStripeKeysView", fn := fun _ => fun
  | [d1, d2, d3, d4] => { results := [.lit (.bool true)], args := [d1, d2, d3, d4] }
  | _ => none }
def fnStripeKeysViewRow : OpenClaim := { program := "ytfgpjnhelpemcaagreat", sum := "19bffbfec241e61db1196c8ff5fb507a6d53fa76d7f24c425a90470a77f59bf3", func := "pub-tessella/laws.FnStripeKeysView", spec := "fnStripeKeysView", inPlace := ["internal/bytealg.Compare"], unfollowed := true, recurses := true, named := ["encoding/binary.BigEndian", "encoding/binary.LittleEndian"], apart := false }
def FnStripeKeysViewSaid : Prop := fnStripeKeysViewRow.holds Tryz.pinned (OpenSpec.ofChange fnStripeKeysViewSpec)

/-- ITS FALSE NEIGHBOUR: 'it returns false'. Refute it at one input. -/
def fnStripeKeysViewWrong : ChangeSpec := { name := "fnStripeKeysView", fn := fun _ => fun
  | [d1, d2, d3, d4] => { results := [.lit (.bool false)], args := [d1, d2, d3, d4] }
  | _ => none }
def FnStripeKeysViewWrongFalsely : Prop := fnStripeKeysViewRow.holds Tryz.pinned (OpenSpec.ofChange fnStripeKeysViewWrong)

/- THE SECOND FORM. 'bulk': how many values and letters a reading holds, each counted each time it is reached (what is shared counts as often as it is met; a slice's spare places count too). A statement '..UptoSaid' is the law's where the arguments, and the package variables that the reading takes, are together of bulk at most 1048576: NARROWER than '..Said'. Prove '..Said' where nothing that the law and all that it calls make is longer than what came in: it says more and counts as full. Else prove '..UptoSaid'. A law counts once. -/
mutual
def uptoBulk {H : Type} : DataW H → Nat
  | .lit (.string bytes) => bytes.length + 1
  | .lit _ => 1
  | .nil => 1
  | .ptr d => uptoBulk d + 1
  | .slice elems spare => uptoBulkAll elems + uptoBulkAll spare + 1
  | .agg parts => uptoBulkAll parts + 1
  | .iface _ d => uptoBulk d + 1
  | .map entries => uptoBulkEntries entries + 1
  | .held _ => 1
def uptoBulkAll {H : Type} : List (DataW H) → Nat
  | [] => 0
  | d :: r => uptoBulk d + uptoBulkAll r
def uptoBulkEntries {H : Type} : List (Lit × DataW H) → Nat
  | [] => 0
  | x :: r => uptoBulkEntry x + uptoBulkEntries r
def uptoBulkEntry {H : Type} : Lit × DataW H → Nat
  | (.string bytes, d) => bytes.length + uptoBulk d + 1
  | (_, d) => uptoBulk d + 1
 end
def uptoSmall : (H : Type) → List (DataW H) → Bool := fun _ ds => decide (uptoBulkAll ds ≤ 1048576)
def OpenSpec.upto (s : _root_.Go.ChangeSpec) : _root_.Go.OpenSpec := { _root_.Go.OpenSpec.ofChange s with cond := some uptoSmall }

/-- 'laws.FnStripeKeysExact', WHERE WHAT IT READS IS OF BULK AT MOST 1048576: true; the input reads as it did. -/
def fnStripeKeysExactUptoRow : OpenClaim := { program := "ytfgpjnhelpemcaagreat", sum := "19bffbfec241e61db1196c8ff5fb507a6d53fa76d7f24c425a90470a77f59bf3", func := "pub-tessella/laws.FnStripeKeysExact", spec := "fnStripeKeysExact", inPlace := ["internal/bytealg.Compare"], unfollowed := true, recurses := true, named := ["encoding/binary.BigEndian", "encoding/binary.LittleEndian"], apart := false, narrowed := true }
def FnStripeKeysExactUptoSaid : Prop := fnStripeKeysExactUptoRow.holds Tryz.pinned (OpenSpec.upto fnStripeKeysExactSpec)

/-- 'laws.FnStripeKeysOne', WHERE WHAT IT READS IS OF BULK AT MOST 1048576: true; the input reads as it did. -/
def fnStripeKeysOneUptoRow : OpenClaim := { program := "ytfgpjnhelpemcaagreat", sum := "19bffbfec241e61db1196c8ff5fb507a6d53fa76d7f24c425a90470a77f59bf3", func := "pub-tessella/laws.FnStripeKeysOne", spec := "fnStripeKeysOne", inPlace := ["internal/bytealg.Compare"], unfollowed := true, recurses := true, named := ["encoding/binary.BigEndian", "encoding/binary.LittleEndian"], apart := false, narrowed := true }
def FnStripeKeysOneUptoSaid : Prop := fnStripeKeysOneUptoRow.holds Tryz.pinned (OpenSpec.upto fnStripeKeysOneSpec)

/-- 'laws.FnStripeKeysSteps', WHERE WHAT IT READS IS OF BULK AT MOST 1048576: true; the input reads as it did. -/
def fnStripeKeysStepsUptoRow : OpenClaim := { program := "ytfgpjnhelpemcaagreat", sum := "19bffbfec241e61db1196c8ff5fb507a6d53fa76d7f24c425a90470a77f59bf3", func := "pub-tessella/laws.FnStripeKeysSteps", spec := "fnStripeKeysSteps", inPlace := ["internal/bytealg.Compare"], unfollowed := true, recurses := true, named := ["encoding/binary.BigEndian", "encoding/binary.LittleEndian"], apart := false, narrowed := true }
def FnStripeKeysStepsUptoSaid : Prop := fnStripeKeysStepsUptoRow.holds Tryz.pinned (OpenSpec.upto fnStripeKeysStepsSpec)

/-- 'laws.FnStripeKeysTwice', WHERE WHAT IT READS IS OF BULK AT MOST 1048576: true; the input reads as it did. -/
def fnStripeKeysTwiceUptoRow : OpenClaim := { program := "ytfgpjnhelpemcaagreat", sum := "19bffbfec241e61db1196c8ff5fb507a6d53fa76d7f24c425a90470a77f59bf3", func := "pub-tessella/laws.FnStripeKeysTwice", spec := "fnStripeKeysTwice", inPlace := ["internal/bytealg.Compare"], unfollowed := true, recurses := true, named := ["encoding/binary.BigEndian", "encoding/binary.LittleEndian"], apart := false, narrowed := true }
def FnStripeKeysTwiceUptoSaid : Prop := fnStripeKeysTwiceUptoRow.holds Tryz.pinned (OpenSpec.upto fnStripeKeysTwiceSpec)

/-- 'laws.FnStripeKeysView', WHERE WHAT IT READS IS OF BULK AT MOST 1048576: true; the input reads as it did. -/
def fnStripeKeysViewUptoRow : OpenClaim := { program := "ytfgpjnhelpemcaagreat", sum := "19bffbfec241e61db1196c8ff5fb507a6d53fa76d7f24c425a90470a77f59bf3", func := "pub-tessella/laws.FnStripeKeysView", spec := "fnStripeKeysView", inPlace := ["internal/bytealg.Compare"], unfollowed := true, recurses := true, named := ["encoding/binary.BigEndian", "encoding/binary.LittleEndian"], apart := false, narrowed := true }
def FnStripeKeysViewUptoSaid : Prop := fnStripeKeysViewUptoRow.holds Tryz.pinned (OpenSpec.upto fnStripeKeysViewSpec)

end Rows
end Go.Proofs.YtfgpjnhelpemcaaGreat
