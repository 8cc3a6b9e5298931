/-
  No cell of these rows narrows 'for every input' (looked for: loops, veiled, ifaces, maps, wideKeys, modest, calm, conditions, laid).
  DERIVED. THE GIVEN ROWS OF THIS SEAT. 6 by the template 'for every input the law returns true; each argument reads behind the call as it read before'; 0 by the template 'total and deterministic' (their statements: YtgjkkcnkblodoaaTotals.lean).
  GIVEN WITH THE SEED: the statements are not yours to turn. If you find one false, say at which input.
  Laid BY PROGRAM, IN A SANDBOX (cutbox-rows.mjs): the forced cells as the released guide's own fill.sh prints them over the translation 8baf8ea98ff2ffdd… (all of the seat's roots in one cut). By AI agents, Wed Nov 11 2026. No macro, syntax, notation, axiom, sorry.
-/
import Derived.Test.YtgjkkcnkblodoaaChecked
import GoSem.Claim
import GoSem.ClaimJoined
import GoSem.ClaimMapViews
import Derived.JoinedTies
import Derived.KernelRfl
namespace Go.Proofs.Ytgjkkcnkblodoaa
/- THE CELL 'sum', in the pinned program and in every row, IS THE sha256 OF THE DUMP (.gsa) THAT YtgjkkcnkblodoaaProg.lean LOADS. Nothing in Lean hashes anything: it is a label: what it is worth is what the hold of that sum in a sandbox is worth. -/
noncomputable def Try.pinned : Pinned := { name := "ytgjkkcnkblodoaa", sum := "8baf8ea98ff2ffdd3b5afd4ed0fa9cdeeb613f4880f42de46c22d10ca60d7bda", checked := Try.checked }
namespace Rows
def none {H : Type} : Left H := { results := [], args := [] }

/-- 'laws.FnTarget': WHATEVER THE INPUT: true; the input reads as it did. -/
def fnTargetSpec : ChangeSpec := { name := "fnTarget", fn := fun _ => fun
  | [d] => { results := [.lit (.bool true)], args := [d] }
  | _ => none }
def fnTargetRow : OpenClaim := { program := "ytgjkkcnkblodoaa", sum := "8baf8ea98ff2ffdd3b5afd4ed0fa9cdeeb613f4880f42de46c22d10ca60d7bda", func := "pub-comitia/laws.FnTarget", spec := "fnTarget", apart := false }
def FnTargetSaid : Prop := fnTargetRow.holds Try.pinned (OpenSpec.ofChange fnTargetSpec)

/-- ITS FALSE NEIGHBOUR: 'it returns false'. Refute it at one input. -/
def fnTargetWrong : ChangeSpec := { name := "fnTarget", fn := fun _ => fun
  | [d] => { results := [.lit (.bool false)], args := [d] }
  | _ => none }
def FnTargetWrongFalsely : Prop := fnTargetRow.holds Try.pinned (OpenSpec.ofChange fnTargetWrong)

/-- 'laws.FnLocal': WHATEVER THE INPUT: true; the input reads as it did. -/
def fnLocalSpec : ChangeSpec := { name := "fnLocal", fn := fun _ => fun
  | [d] => { results := [.lit (.bool true)], args := [d] }
  | _ => none }
def fnLocalRow : OpenClaim := { program := "ytgjkkcnkblodoaa", sum := "8baf8ea98ff2ffdd3b5afd4ed0fa9cdeeb613f4880f42de46c22d10ca60d7bda", func := "pub-comitia/laws.FnLocal", spec := "fnLocal", apart := false }
def FnLocalSaid : Prop := fnLocalRow.holds Try.pinned (OpenSpec.ofChange fnLocalSpec)

/-- ITS FALSE NEIGHBOUR: 'it returns false'. Refute it at one input. -/
def fnLocalWrong : ChangeSpec := { name := "fnLocal", fn := fun _ => fun
  | [d] => { results := [.lit (.bool false)], args := [d] }
  | _ => none }
def FnLocalWrongFalsely : Prop := fnLocalRow.holds Try.pinned (OpenSpec.ofChange fnLocalWrong)

/-- 'laws.FnSync': WHATEVER THE INPUT: true; the input reads as it did. -/
def fnSyncSpec : ChangeSpec := { name := "fnSync", fn := fun _ => fun
  | [d1, d2, d3] => { results := [.lit (.bool true)], args := [d1, d2, d3] }
  | _ => none }
def fnSyncRow : OpenClaim := { program := "ytgjkkcnkblodoaa", sum := "8baf8ea98ff2ffdd3b5afd4ed0fa9cdeeb613f4880f42de46c22d10ca60d7bda", func := "pub-comitia/laws.FnSync", spec := "fnSync", apart := false }
def FnSyncSaid : Prop := fnSyncRow.holds Try.pinned (OpenSpec.ofChange fnSyncSpec)

/-- ITS FALSE NEIGHBOUR: 'it returns false'. Refute it at one input. -/
def fnSyncWrong : ChangeSpec := { name := "fnSync", fn := fun _ => fun
  | [d1, d2, d3] => { results := [.lit (.bool false)], args := [d1, d2, d3] }
  | _ => none }
def FnSyncWrongFalsely : Prop := fnSyncRow.holds Try.pinned (OpenSpec.ofChange fnSyncWrong)

/-- 'laws.FnSnap': WHATEVER THE INPUT: true; the input reads as it did. -/
def fnSnapSpec : ChangeSpec := { name := "fnSnap", fn := fun _ => fun
  | [d] => { results := [.lit (.bool true)], args := [d] }
  | _ => none }
def fnSnapRow : OpenClaim := { program := "ytgjkkcnkblodoaa", sum := "8baf8ea98ff2ffdd3b5afd4ed0fa9cdeeb613f4880f42de46c22d10ca60d7bda", func := "pub-comitia/laws.FnSnap", spec := "fnSnap", apart := false }
def FnSnapSaid : Prop := fnSnapRow.holds Try.pinned (OpenSpec.ofChange fnSnapSpec)

/-- ITS FALSE NEIGHBOUR: 'it returns false'. Refute it at one input. -/
def fnSnapWrong : ChangeSpec := { name := "fnSnap", fn := fun _ => fun
  | [d] => { results := [.lit (.bool false)], args := [d] }
  | _ => none }
def FnSnapWrongFalsely : Prop := fnSnapRow.holds Try.pinned (OpenSpec.ofChange fnSnapWrong)

/-- 'laws.FnJoint': WHATEVER THE INPUT: true; the input reads as it did. -/
def fnJointSpec : ChangeSpec := { name := "fnJoint", fn := fun _ => fun
  | [d] => { results := [.lit (.bool true)], args := [d] }
  | _ => none }
def fnJointRow : OpenClaim := { program := "ytgjkkcnkblodoaa", sum := "8baf8ea98ff2ffdd3b5afd4ed0fa9cdeeb613f4880f42de46c22d10ca60d7bda", func := "pub-comitia/laws.FnJoint", spec := "fnJoint", apart := false }
def FnJointSaid : Prop := fnJointRow.holds Try.pinned (OpenSpec.ofChange fnJointSpec)

/-- ITS FALSE NEIGHBOUR: 'it returns false'. Refute it at one input. -/
def fnJointWrong : ChangeSpec := { name := "fnJoint", fn := fun _ => fun
  | [d] => { results := [.lit (.bool false)], args := [d] }
  | _ => none }
def FnJointWrongFalsely : Prop := fnJointRow.holds Try.pinned (OpenSpec.ofChange fnJointWrong)

/-- 'laws.FnAsV2': WHATEVER THE INPUT: true; the input reads as it did. -/
def fnAsV2Spec : ChangeSpec := { name := "fnAsV2", fn := fun _ => fun
  | [d1, d2, d3] => { results := [.lit (.bool true)], args := [d1, d2, d3] }
  | _ => none }
def fnAsV2Row : OpenClaim := { program := "ytgjkkcnkblodoaa", sum := "8baf8ea98ff2ffdd3b5afd4ed0fa9cdeeb613f4880f42de46c22d10ca60d7bda", func := "pub-comitia/laws.FnAsV2", spec := "fnAsV2", apart := false }
def FnAsV2Said : Prop := fnAsV2Row.holds Try.pinned (OpenSpec.ofChange fnAsV2Spec)

/-- ITS FALSE NEIGHBOUR: 'it returns false'. Refute it at one input. -/
def fnAsV2Wrong : ChangeSpec := { name := "fnAsV2", fn := fun _ => fun
  | [d1, d2, d3] => { results := [.lit (.bool false)], args := [d1, d2, d3] }
  | _ => none }
def FnAsV2WrongFalsely : Prop := fnAsV2Row.holds Try.pinned (OpenSpec.ofChange fnAsV2Wrong)

/- THE SECOND FORM. 'bulk': how many values and letters a reading holds, each counted each time it is reached (what is shared counts as often as it is met; a slice's spare places count too). A statement '..UptoSaid' is the law's where the arguments, and the package variables that the reading takes, are together of bulk at most 1048576: NARROWER than '..Said'. Prove '..Said' where nothing that the law and all that it calls make is longer than what came in: it says more and counts as full. Else prove '..UptoSaid'. A law counts once. -/
mutual
def uptoBulk {H : Type} : DataW H → Nat
  | .lit (.string bytes) => bytes.length + 1
  | .lit _ => 1
  | .nil => 1
  | .ptr d => uptoBulk d + 1
  | .slice elems spare => uptoBulkAll elems + uptoBulkAll spare + 1
  | .agg parts => uptoBulkAll parts + 1
  | .iface _ d => uptoBulk d + 1
  | .map entries => uptoBulkEntries entries + 1
  | .held _ => 1
def uptoBulkAll {H : Type} : List (DataW H) → Nat
  | [] => 0
  | d :: r => uptoBulk d + uptoBulkAll r
def uptoBulkEntries {H : Type} : List (Lit × DataW H) → Nat
  | [] => 0
  | x :: r => uptoBulkEntry x + uptoBulkEntries r
def uptoBulkEntry {H : Type} : Lit × DataW H → Nat
  | (.string bytes, d) => bytes.length + uptoBulk d + 1
  | (_, d) => uptoBulk d + 1
 end
def uptoSmall : (H : Type) → List (DataW H) → Bool := fun _ ds => decide (uptoBulkAll ds ≤ 1048576)
def OpenSpec.upto (s : _root_.Go.ChangeSpec) : _root_.Go.OpenSpec := { _root_.Go.OpenSpec.ofChange s with cond := some uptoSmall }

/-- 'laws.FnTarget', WHERE WHAT IT READS IS OF BULK AT MOST 1048576: true; the input reads as it did. -/
def fnTargetUptoRow : OpenClaim := { program := "ytgjkkcnkblodoaa", sum := "8baf8ea98ff2ffdd3b5afd4ed0fa9cdeeb613f4880f42de46c22d10ca60d7bda", func := "pub-comitia/laws.FnTarget", spec := "fnTarget", apart := false, narrowed := true }
def FnTargetUptoSaid : Prop := fnTargetUptoRow.holds Try.pinned (OpenSpec.upto fnTargetSpec)

/-- 'laws.FnLocal', WHERE WHAT IT READS IS OF BULK AT MOST 1048576: true; the input reads as it did. -/
def fnLocalUptoRow : OpenClaim := { program := "ytgjkkcnkblodoaa", sum := "8baf8ea98ff2ffdd3b5afd4ed0fa9cdeeb613f4880f42de46c22d10ca60d7bda", func := "pub-comitia/laws.FnLocal", spec := "fnLocal", apart := false, narrowed := true }
def FnLocalUptoSaid : Prop := fnLocalUptoRow.holds Try.pinned (OpenSpec.upto fnLocalSpec)

/-- 'laws.FnSync', WHERE WHAT IT READS IS OF BULK AT MOST 1048576: true; the input reads as it did. -/
def fnSyncUptoRow : OpenClaim := { program := "ytgjkkcnkblodoaa", sum := "8baf8ea98ff2ffdd3b5afd4ed0fa9cdeeb613f4880f42de46c22d10ca60d7bda", func := "pub-comitia/laws.FnSync", spec := "fnSync", apart := false, narrowed := true }
def FnSyncUptoSaid : Prop := fnSyncUptoRow.holds Try.pinned (OpenSpec.upto fnSyncSpec)

/-- 'laws.FnSnap', WHERE WHAT IT READS IS OF BULK AT MOST 1048576: true; the input reads as it did. -/
def fnSnapUptoRow : OpenClaim := { program := "ytgjkkcnkblodoaa", sum := "8baf8ea98ff2ffdd3b5afd4ed0fa9cdeeb613f4880f42de46c22d10ca60d7bda", func := "pub-comitia/laws.FnSnap", spec := "fnSnap", apart := false, narrowed := true }
def FnSnapUptoSaid : Prop := fnSnapUptoRow.holds Try.pinned (OpenSpec.upto fnSnapSpec)

/-- 'laws.FnJoint', WHERE WHAT IT READS IS OF BULK AT MOST 1048576: true; the input reads as it did. -/
def fnJointUptoRow : OpenClaim := { program := "ytgjkkcnkblodoaa", sum := "8baf8ea98ff2ffdd3b5afd4ed0fa9cdeeb613f4880f42de46c22d10ca60d7bda", func := "pub-comitia/laws.FnJoint", spec := "fnJoint", apart := false, narrowed := true }
def FnJointUptoSaid : Prop := fnJointUptoRow.holds Try.pinned (OpenSpec.upto fnJointSpec)

/-- 'laws.FnAsV2', WHERE WHAT IT READS IS OF BULK AT MOST 1048576: true; the input reads as it did. -/
def fnAsV2UptoRow : OpenClaim := { program := "ytgjkkcnkblodoaa", sum := "8baf8ea98ff2ffdd3b5afd4ed0fa9cdeeb613f4880f42de46c22d10ca60d7bda", func := "pub-comitia/laws.FnAsV2", spec := "fnAsV2", apart := false, narrowed := true }
def FnAsV2UptoSaid : Prop := fnAsV2UptoRow.holds Try.pinned (OpenSpec.upto fnAsV2Spec)

end Rows
end Go.Proofs.Ytgjkkcnkblodoaa
