/-
  No cell of these rows narrows 'for every input' (looked for: loops, veiled, ifaces, maps, wideKeys, modest, calm, conditions, laid).
  DERIVED. THE GIVEN ROWS OF THIS SEAT. 7 by the template 'for every input the law returns true; each argument reads behind the call as it read before'; 0 by the template 'total and deterministic' (their statements: YtklhflbjkckhmaaTotals.lean).
  GIVEN WITH THE SEED: the statements are not yours to turn. If you find one false, say at which input.
  Laid BY PROGRAM, IN A SANDBOX (cutbox-rows.mjs): the forced cells as the released guide's own fill.sh prints them over the translation e6523a778ba0298e… (all of the seat's roots in one cut). By AI agents, Wed Nov 11 2026. No macro, syntax, notation, axiom, sorry.
-/
import Derived.Test.YtklhflbjkckhmaaChecked
import GoSem.Claim
import GoSem.ClaimJoined
import GoSem.ClaimMapViews
import Derived.JoinedTies
import Derived.KernelRfl
namespace Go.Proofs.Ytklhflbjkckhmaa
/- THE CELL 'sum', in the pinned program and in every row, IS THE sha256 OF THE DUMP (.gsa) THAT YtklhflbjkckhmaaProg.lean LOADS. Nothing in Lean hashes anything: it is a label: what it is worth is what the hold of that sum in a sandbox is worth. -/
noncomputable def Try.pinned : Pinned := { name := "ytklhflbjkckhmaa", sum := "e6523a778ba0298e0d53112885656c0c6ffbe552bd9e40a18139b9e6c0fa5d11", checked := Try.checked }
namespace Rows
def none {H : Type} : Left H := { results := [], args := [] }

/-- 'laws.FnVoteResult': WHATEVER THE INPUT: true; the input reads as it did. -/
def fnVoteResultSpec : ChangeSpec := { name := "fnVoteResult", fn := fun _ => fun
  | [d1, d2] => { results := [.lit (.bool true)], args := [d1, d2] }
  | _ => none }
def fnVoteResultRow : OpenClaim := { program := "ytklhflbjkckhmaa", sum := "e6523a778ba0298e0d53112885656c0c6ffbe552bd9e40a18139b9e6c0fa5d11", func := "pub-comitia/laws.FnVoteResult", spec := "fnVoteResult", apart := false }
def FnVoteResultSaid : Prop := fnVoteResultRow.holds Try.pinned (OpenSpec.ofChange fnVoteResultSpec)

/-- ITS FALSE NEIGHBOUR: 'it returns false'. Refute it at one input. -/
def fnVoteResultWrong : ChangeSpec := { name := "fnVoteResult", fn := fun _ => fun
  | [d1, d2] => { results := [.lit (.bool false)], args := [d1, d2] }
  | _ => none }
def FnVoteResultWrongFalsely : Prop := fnVoteResultRow.holds Try.pinned (OpenSpec.ofChange fnVoteResultWrong)

/-- 'laws.FnVoteFinal': WHATEVER THE INPUT: true; the input reads as it did. -/
def fnVoteFinalSpec : ChangeSpec := { name := "fnVoteFinal", fn := fun _ => fun
  | [d1, d2, d3, d4] => { results := [.lit (.bool true)], args := [d1, d2, d3, d4] }
  | _ => none }
def fnVoteFinalRow : OpenClaim := { program := "ytklhflbjkckhmaa", sum := "e6523a778ba0298e0d53112885656c0c6ffbe552bd9e40a18139b9e6c0fa5d11", func := "pub-comitia/laws.FnVoteFinal", spec := "fnVoteFinal", apart := false }
def FnVoteFinalSaid : Prop := fnVoteFinalRow.holds Try.pinned (OpenSpec.ofChange fnVoteFinalSpec)

/-- ITS FALSE NEIGHBOUR: 'it returns false'. Refute it at one input. -/
def fnVoteFinalWrong : ChangeSpec := { name := "fnVoteFinal", fn := fun _ => fun
  | [d1, d2, d3, d4] => { results := [.lit (.bool false)], args := [d1, d2, d3, d4] }
  | _ => none }
def FnVoteFinalWrongFalsely : Prop := fnVoteFinalRow.holds Try.pinned (OpenSpec.ofChange fnVoteFinalWrong)

/-- 'laws.FnTally': WHATEVER THE INPUT: true; the input reads as it did. -/
def fnTallySpec : ChangeSpec := { name := "fnTally", fn := fun _ => fun
  | [d1, d2, d3] => { results := [.lit (.bool true)], args := [d1, d2, d3] }
  | _ => none }
def fnTallyRow : OpenClaim := { program := "ytklhflbjkckhmaa", sum := "e6523a778ba0298e0d53112885656c0c6ffbe552bd9e40a18139b9e6c0fa5d11", func := "pub-comitia/laws.FnTally", spec := "fnTally", apart := false }
def FnTallySaid : Prop := fnTallyRow.holds Try.pinned (OpenSpec.ofChange fnTallySpec)

/-- ITS FALSE NEIGHBOUR: 'it returns false'. Refute it at one input. -/
def fnTallyWrong : ChangeSpec := { name := "fnTally", fn := fun _ => fun
  | [d1, d2, d3] => { results := [.lit (.bool false)], args := [d1, d2, d3] }
  | _ => none }
def FnTallyWrongFalsely : Prop := fnTallyRow.holds Try.pinned (OpenSpec.ofChange fnTallyWrong)

/-- 'laws.FnJointIDs': WHATEVER THE INPUT: true; the input reads as it did. -/
def fnJointIDsSpec : ChangeSpec := { name := "fnJointIDs", fn := fun _ => fun
  | [d1, d2] => { results := [.lit (.bool true)], args := [d1, d2] }
  | _ => none }
def fnJointIDsRow : OpenClaim := { program := "ytklhflbjkckhmaa", sum := "e6523a778ba0298e0d53112885656c0c6ffbe552bd9e40a18139b9e6c0fa5d11", func := "pub-comitia/laws.FnJointIDs", spec := "fnJointIDs", recurses := true, apart := false }
def FnJointIDsSaid : Prop := fnJointIDsRow.holds Try.pinned (OpenSpec.ofChange fnJointIDsSpec)

/-- ITS FALSE NEIGHBOUR: 'it returns false'. Refute it at one input. -/
def fnJointIDsWrong : ChangeSpec := { name := "fnJointIDs", fn := fun _ => fun
  | [d1, d2] => { results := [.lit (.bool false)], args := [d1, d2] }
  | _ => none }
def FnJointIDsWrongFalsely : Prop := fnJointIDsRow.holds Try.pinned (OpenSpec.ofChange fnJointIDsWrong)

/-- 'laws.FnCommitted': WHATEVER THE INPUT: true; the input reads as it did. -/
def fnCommittedSpec : ChangeSpec := { name := "fnCommitted", fn := fun _ => fun
  | [d1, d2] => { results := [.lit (.bool true)], args := [d1, d2] }
  | _ => none }
def fnCommittedRow : OpenClaim := { program := "ytklhflbjkckhmaa", sum := "e6523a778ba0298e0d53112885656c0c6ffbe552bd9e40a18139b9e6c0fa5d11", func := "pub-comitia/laws.FnCommitted", spec := "fnCommitted", unfollowed := true, recurses := true, apart := false }
def FnCommittedSaid : Prop := fnCommittedRow.holds Try.pinned (OpenSpec.ofChange fnCommittedSpec)

/-- ITS FALSE NEIGHBOUR: 'it returns false'. Refute it at one input. -/
def fnCommittedWrong : ChangeSpec := { name := "fnCommitted", fn := fun _ => fun
  | [d1, d2] => { results := [.lit (.bool false)], args := [d1, d2] }
  | _ => none }
def FnCommittedWrongFalsely : Prop := fnCommittedRow.holds Try.pinned (OpenSpec.ofChange fnCommittedWrong)

/-- 'laws.FnCommittedGrows': WHATEVER THE INPUT: true; the input reads as it did. -/
def fnCommittedGrowsSpec : ChangeSpec := { name := "fnCommittedGrows", fn := fun _ => fun
  | [d1, d2, d3] => { results := [.lit (.bool true)], args := [d1, d2, d3] }
  | _ => none }
def fnCommittedGrowsRow : OpenClaim := { program := "ytklhflbjkckhmaa", sum := "e6523a778ba0298e0d53112885656c0c6ffbe552bd9e40a18139b9e6c0fa5d11", func := "pub-comitia/laws.FnCommittedGrows", spec := "fnCommittedGrows", unfollowed := true, recurses := true, apart := false }
def FnCommittedGrowsSaid : Prop := fnCommittedGrowsRow.holds Try.pinned (OpenSpec.ofChange fnCommittedGrowsSpec)

/-- ITS FALSE NEIGHBOUR: 'it returns false'. Refute it at one input. -/
def fnCommittedGrowsWrong : ChangeSpec := { name := "fnCommittedGrows", fn := fun _ => fun
  | [d1, d2, d3] => { results := [.lit (.bool false)], args := [d1, d2, d3] }
  | _ => none }
def FnCommittedGrowsWrongFalsely : Prop := fnCommittedGrowsRow.holds Try.pinned (OpenSpec.ofChange fnCommittedGrowsWrong)

/-- 'laws.FnTrackNodes': WHATEVER THE INPUT: true; the input reads as it did. -/
def fnTrackNodesSpec : ChangeSpec := { name := "fnTrackNodes", fn := fun _ => fun
  | [d1, d2] => { results := [.lit (.bool true)], args := [d1, d2] }
  | _ => none }
def fnTrackNodesRow : OpenClaim := { program := "ytklhflbjkckhmaa", sum := "e6523a778ba0298e0d53112885656c0c6ffbe552bd9e40a18139b9e6c0fa5d11", func := "pub-comitia/laws.FnTrackNodes", spec := "fnTrackNodes", recurses := true, apart := false }
def FnTrackNodesSaid : Prop := fnTrackNodesRow.holds Try.pinned (OpenSpec.ofChange fnTrackNodesSpec)

/-- ITS FALSE NEIGHBOUR: 'it returns false'. Refute it at one input. -/
def fnTrackNodesWrong : ChangeSpec := { name := "fnTrackNodes", fn := fun _ => fun
  | [d1, d2] => { results := [.lit (.bool false)], args := [d1, d2] }
  | _ => none }
def FnTrackNodesWrongFalsely : Prop := fnTrackNodesRow.holds Try.pinned (OpenSpec.ofChange fnTrackNodesWrong)

/- THE SECOND FORM. 'bulk': how many values and letters a reading holds, each counted each time it is reached (what is shared counts as often as it is met; a slice's spare places count too). A statement '..UptoSaid' is the law's where the arguments, and the package variables that the reading takes, are together of bulk at most 1048576: NARROWER than '..Said'. Prove '..Said' where nothing that the law and all that it calls make is longer than what came in: it says more and counts as full. Else prove '..UptoSaid'. A law counts once. -/
mutual
def uptoBulk {H : Type} : DataW H → Nat
  | .lit (.string bytes) => bytes.length + 1
  | .lit _ => 1
  | .nil => 1
  | .ptr d => uptoBulk d + 1
  | .slice elems spare => uptoBulkAll elems + uptoBulkAll spare + 1
  | .agg parts => uptoBulkAll parts + 1
  | .iface _ d => uptoBulk d + 1
  | .map entries => uptoBulkEntries entries + 1
  | .held _ => 1
def uptoBulkAll {H : Type} : List (DataW H) → Nat
  | [] => 0
  | d :: r => uptoBulk d + uptoBulkAll r
def uptoBulkEntries {H : Type} : List (Lit × DataW H) → Nat
  | [] => 0
  | x :: r => uptoBulkEntry x + uptoBulkEntries r
def uptoBulkEntry {H : Type} : Lit × DataW H → Nat
  | (.string bytes, d) => bytes.length + uptoBulk d + 1
  | (_, d) => uptoBulk d + 1
 end
def uptoSmall : (H : Type) → List (DataW H) → Bool := fun _ ds => decide (uptoBulkAll ds ≤ 1048576)
def OpenSpec.upto (s : _root_.Go.ChangeSpec) : _root_.Go.OpenSpec := { _root_.Go.OpenSpec.ofChange s with cond := some uptoSmall }

/-- 'laws.FnVoteResult', WHERE WHAT IT READS IS OF BULK AT MOST 1048576: true; the input reads as it did. -/
def fnVoteResultUptoRow : OpenClaim := { program := "ytklhflbjkckhmaa", sum := "e6523a778ba0298e0d53112885656c0c6ffbe552bd9e40a18139b9e6c0fa5d11", func := "pub-comitia/laws.FnVoteResult", spec := "fnVoteResult", apart := false, narrowed := true }
def FnVoteResultUptoSaid : Prop := fnVoteResultUptoRow.holds Try.pinned (OpenSpec.upto fnVoteResultSpec)

/-- 'laws.FnVoteFinal', WHERE WHAT IT READS IS OF BULK AT MOST 1048576: true; the input reads as it did. -/
def fnVoteFinalUptoRow : OpenClaim := { program := "ytklhflbjkckhmaa", sum := "e6523a778ba0298e0d53112885656c0c6ffbe552bd9e40a18139b9e6c0fa5d11", func := "pub-comitia/laws.FnVoteFinal", spec := "fnVoteFinal", apart := false, narrowed := true }
def FnVoteFinalUptoSaid : Prop := fnVoteFinalUptoRow.holds Try.pinned (OpenSpec.upto fnVoteFinalSpec)

/-- 'laws.FnTally', WHERE WHAT IT READS IS OF BULK AT MOST 1048576: true; the input reads as it did. -/
def fnTallyUptoRow : OpenClaim := { program := "ytklhflbjkckhmaa", sum := "e6523a778ba0298e0d53112885656c0c6ffbe552bd9e40a18139b9e6c0fa5d11", func := "pub-comitia/laws.FnTally", spec := "fnTally", apart := false, narrowed := true }
def FnTallyUptoSaid : Prop := fnTallyUptoRow.holds Try.pinned (OpenSpec.upto fnTallySpec)

/-- 'laws.FnJointIDs', WHERE WHAT IT READS IS OF BULK AT MOST 1048576: true; the input reads as it did. -/
def fnJointIDsUptoRow : OpenClaim := { program := "ytklhflbjkckhmaa", sum := "e6523a778ba0298e0d53112885656c0c6ffbe552bd9e40a18139b9e6c0fa5d11", func := "pub-comitia/laws.FnJointIDs", spec := "fnJointIDs", recurses := true, apart := false, narrowed := true }
def FnJointIDsUptoSaid : Prop := fnJointIDsUptoRow.holds Try.pinned (OpenSpec.upto fnJointIDsSpec)

/-- 'laws.FnCommitted', WHERE WHAT IT READS IS OF BULK AT MOST 1048576: true; the input reads as it did. -/
def fnCommittedUptoRow : OpenClaim := { program := "ytklhflbjkckhmaa", sum := "e6523a778ba0298e0d53112885656c0c6ffbe552bd9e40a18139b9e6c0fa5d11", func := "pub-comitia/laws.FnCommitted", spec := "fnCommitted", unfollowed := true, recurses := true, apart := false, narrowed := true }
def FnCommittedUptoSaid : Prop := fnCommittedUptoRow.holds Try.pinned (OpenSpec.upto fnCommittedSpec)

/-- 'laws.FnCommittedGrows', WHERE WHAT IT READS IS OF BULK AT MOST 1048576: true; the input reads as it did. -/
def fnCommittedGrowsUptoRow : OpenClaim := { program := "ytklhflbjkckhmaa", sum := "e6523a778ba0298e0d53112885656c0c6ffbe552bd9e40a18139b9e6c0fa5d11", func := "pub-comitia/laws.FnCommittedGrows", spec := "fnCommittedGrows", unfollowed := true, recurses := true, apart := false, narrowed := true }
def FnCommittedGrowsUptoSaid : Prop := fnCommittedGrowsUptoRow.holds Try.pinned (OpenSpec.upto fnCommittedGrowsSpec)

/-- 'laws.FnTrackNodes', WHERE WHAT IT READS IS OF BULK AT MOST 1048576: true; the input reads as it did. -/
def fnTrackNodesUptoRow : OpenClaim := { program := "ytklhflbjkckhmaa", sum := "e6523a778ba0298e0d53112885656c0c6ffbe552bd9e40a18139b9e6c0fa5d11", func := "pub-comitia/laws.FnTrackNodes", spec := "fnTrackNodes", recurses := true, apart := false, narrowed := true }
def FnTrackNodesUptoSaid : Prop := fnTrackNodesUptoRow.holds Try.pinned (OpenSpec.upto fnTrackNodesSpec)

end Rows
end Go.Proofs.Ytklhflbjkckhmaa
