/-
  No cell of these rows narrows 'for every input' (looked for: loops, veiled, ifaces, maps, wideKeys, modest, calm, conditions, laid).
  DERIVED. THE GIVEN ROWS OF THIS SEAT. 4 by the template 'for every input the law returns true; each argument reads behind the call as it read before'; 0 by the template 'total and deterministic' (their statements: YtfoffejgpalmpaaTotals.lean).
  GIVEN WITH THE SEED: the statements are not yours to turn. If you find one false, say at which input.
  Laid BY PROGRAM, IN A SANDBOX (cutbox-rows.mjs): the forced cells as the released guide's own fill.sh prints them over the translation 987a29387a893a0f… (all of the seat's roots in one cut). By AI agents, Wed Nov 11 2026. No macro, syntax, notation, axiom, sorry.
-/
import Derived.Test.YtfoffejgpalmpaaChecked
import GoSem.Claim
import GoSem.ClaimJoined
import GoSem.ClaimMapViews
import Derived.JoinedTies
import Derived.KernelRfl
namespace Go.Proofs.Ytfoffejgpalmpaa
/- THE CELL 'sum', in the pinned program and in every row, IS THE sha256 OF THE DUMP (.gsa) THAT YtfoffejgpalmpaaProg.lean LOADS. Nothing in Lean hashes anything: it is a label: what it is worth is what the hold of that sum in a sandbox is worth. -/
noncomputable def Try.pinned : Pinned := { name := "ytfoffejgpalmpaa", sum := "987a29387a893a0fe6806ea91dc00680d4e98bd703005a421de94e1a1993651f", checked := Try.checked }
namespace Rows
def none {H : Type} : Left H := { results := [], args := [] }

/-- 'laws.FnFlights': WHATEVER THE INPUT: true; the input reads as it did. -/
def fnFlightsSpec : ChangeSpec := { name := "fnFlights", fn := fun _ => fun
  | [d1, d2, d3] => { results := [.lit (.bool true)], args := [d1, d2, d3] }
  | _ => none }
def fnFlightsRow : OpenClaim := { program := "ytfoffejgpalmpaa", sum := "987a29387a893a0fe6806ea91dc00680d4e98bd703005a421de94e1a1993651f", func := "pub-comitia/laws.FnFlights", spec := "fnFlights", unfollowed := true, recurses := true, apart := false }
def FnFlightsSaid : Prop := fnFlightsRow.holds Try.pinned (OpenSpec.ofChange fnFlightsSpec)

/-- ITS FALSE NEIGHBOUR: 'it returns false'. Refute it at one input. -/
def fnFlightsWrong : ChangeSpec := { name := "fnFlights", fn := fun _ => fun
  | [d1, d2, d3] => { results := [.lit (.bool false)], args := [d1, d2, d3] }
  | _ => none }
def FnFlightsWrongFalsely : Prop := fnFlightsRow.holds Try.pinned (OpenSpec.ofChange fnFlightsWrong)

/-- 'laws.FnFlightsBytes': WHATEVER THE INPUT: true; the input reads as it did. -/
def fnFlightsBytesSpec : ChangeSpec := { name := "fnFlightsBytes", fn := fun _ => fun
  | [d1, d2] => { results := [.lit (.bool true)], args := [d1, d2] }
  | _ => none }
def fnFlightsBytesRow : OpenClaim := { program := "ytfoffejgpalmpaa", sum := "987a29387a893a0fe6806ea91dc00680d4e98bd703005a421de94e1a1993651f", func := "pub-comitia/laws.FnFlightsBytes", spec := "fnFlightsBytes", unfollowed := true, recurses := true, apart := false }
def FnFlightsBytesSaid : Prop := fnFlightsBytesRow.holds Try.pinned (OpenSpec.ofChange fnFlightsBytesSpec)

/-- ITS FALSE NEIGHBOUR: 'it returns false'. Refute it at one input. -/
def fnFlightsBytesWrong : ChangeSpec := { name := "fnFlightsBytes", fn := fun _ => fun
  | [d1, d2] => { results := [.lit (.bool false)], args := [d1, d2] }
  | _ => none }
def FnFlightsBytesWrongFalsely : Prop := fnFlightsBytesRow.holds Try.pinned (OpenSpec.ofChange fnFlightsBytesWrong)

/-- 'laws.FnProgress': WHATEVER THE INPUT: true; the input reads as it did. -/
def fnProgressSpec : ChangeSpec := { name := "fnProgress", fn := fun _ => fun
  | [d1, d2] => { results := [.lit (.bool true)], args := [d1, d2] }
  | _ => none }
def fnProgressRow : OpenClaim := { program := "ytfoffejgpalmpaa", sum := "987a29387a893a0fe6806ea91dc00680d4e98bd703005a421de94e1a1993651f", func := "pub-comitia/laws.FnProgress", spec := "fnProgress", unfollowed := true, recurses := true, apart := false }
def FnProgressSaid : Prop := fnProgressRow.holds Try.pinned (OpenSpec.ofChange fnProgressSpec)

/-- ITS FALSE NEIGHBOUR: 'it returns false'. Refute it at one input. -/
def fnProgressWrong : ChangeSpec := { name := "fnProgress", fn := fun _ => fun
  | [d1, d2] => { results := [.lit (.bool false)], args := [d1, d2] }
  | _ => none }
def FnProgressWrongFalsely : Prop := fnProgressRow.holds Try.pinned (OpenSpec.ofChange fnProgressWrong)

/-- 'laws.FnProgressUpdate': WHATEVER THE INPUT: true; the input reads as it did. -/
def fnProgressUpdateSpec : ChangeSpec := { name := "fnProgressUpdate", fn := fun _ => fun
  | [d1, d2] => { results := [.lit (.bool true)], args := [d1, d2] }
  | _ => none }
def fnProgressUpdateRow : OpenClaim := { program := "ytfoffejgpalmpaa", sum := "987a29387a893a0fe6806ea91dc00680d4e98bd703005a421de94e1a1993651f", func := "pub-comitia/laws.FnProgressUpdate", spec := "fnProgressUpdate", unfollowed := true, recurses := true, apart := false }
def FnProgressUpdateSaid : Prop := fnProgressUpdateRow.holds Try.pinned (OpenSpec.ofChange fnProgressUpdateSpec)

/-- ITS FALSE NEIGHBOUR: 'it returns false'. Refute it at one input. -/
def fnProgressUpdateWrong : ChangeSpec := { name := "fnProgressUpdate", fn := fun _ => fun
  | [d1, d2] => { results := [.lit (.bool false)], args := [d1, d2] }
  | _ => none }
def FnProgressUpdateWrongFalsely : Prop := fnProgressUpdateRow.holds Try.pinned (OpenSpec.ofChange fnProgressUpdateWrong)

/- THE SECOND FORM. 'bulk': how many values and letters a reading holds, each counted each time it is reached (what is shared counts as often as it is met; a slice's spare places count too). A statement '..UptoSaid' is the law's where the arguments, and the package variables that the reading takes, are together of bulk at most 1048576: NARROWER than '..Said'. Prove '..Said' where nothing that the law and all that it calls make is longer than what came in: it says more and counts as full. Else prove '..UptoSaid'. A law counts once. -/
mutual
def uptoBulk {H : Type} : DataW H → Nat
  | .lit (.string bytes) => bytes.length + 1
  | .lit _ => 1
  | .nil => 1
  | .ptr d => uptoBulk d + 1
  | .slice elems spare => uptoBulkAll elems + uptoBulkAll spare + 1
  | .agg parts => uptoBulkAll parts + 1
  | .iface _ d => uptoBulk d + 1
  | .map entries => uptoBulkEntries entries + 1
  | .held _ => 1
def uptoBulkAll {H : Type} : List (DataW H) → Nat
  | [] => 0
  | d :: r => uptoBulk d + uptoBulkAll r
def uptoBulkEntries {H : Type} : List (Lit × DataW H) → Nat
  | [] => 0
  | x :: r => uptoBulkEntry x + uptoBulkEntries r
def uptoBulkEntry {H : Type} : Lit × DataW H → Nat
  | (.string bytes, d) => bytes.length + uptoBulk d + 1
  | (_, d) => uptoBulk d + 1
 end
def uptoSmall : (H : Type) → List (DataW H) → Bool := fun _ ds => decide (uptoBulkAll ds ≤ 1048576)
def OpenSpec.upto (s : _root_.Go.ChangeSpec) : _root_.Go.OpenSpec := { _root_.Go.OpenSpec.ofChange s with cond := some uptoSmall }

/-- 'laws.FnFlights', WHERE WHAT IT READS IS OF BULK AT MOST 1048576: true; the input reads as it did. -/
def fnFlightsUptoRow : OpenClaim := { program := "ytfoffejgpalmpaa", sum := "987a29387a893a0fe6806ea91dc00680d4e98bd703005a421de94e1a1993651f", func := "pub-comitia/laws.FnFlights", spec := "fnFlights", unfollowed := true, recurses := true, apart := false, narrowed := true }
def FnFlightsUptoSaid : Prop := fnFlightsUptoRow.holds Try.pinned (OpenSpec.upto fnFlightsSpec)

/-- 'laws.FnFlightsBytes', WHERE WHAT IT READS IS OF BULK AT MOST 1048576: true; the input reads as it did. -/
def fnFlightsBytesUptoRow : OpenClaim := { program := "ytfoffejgpalmpaa", sum := "987a29387a893a0fe6806ea91dc00680d4e98bd703005a421de94e1a1993651f", func := "pub-comitia/laws.FnFlightsBytes", spec := "fnFlightsBytes", unfollowed := true, recurses := true, apart := false, narrowed := true }
def FnFlightsBytesUptoSaid : Prop := fnFlightsBytesUptoRow.holds Try.pinned (OpenSpec.upto fnFlightsBytesSpec)

/-- 'laws.FnProgress', WHERE WHAT IT READS IS OF BULK AT MOST 1048576: true; the input reads as it did. -/
def fnProgressUptoRow : OpenClaim := { program := "ytfoffejgpalmpaa", sum := "987a29387a893a0fe6806ea91dc00680d4e98bd703005a421de94e1a1993651f", func := "pub-comitia/laws.FnProgress", spec := "fnProgress", unfollowed := true, recurses := true, apart := false, narrowed := true }
def FnProgressUptoSaid : Prop := fnProgressUptoRow.holds Try.pinned (OpenSpec.upto fnProgressSpec)

/-- 'laws.FnProgressUpdate', WHERE WHAT IT READS IS OF BULK AT MOST 1048576: true; the input reads as it did. -/
def fnProgressUpdateUptoRow : OpenClaim := { program := "ytfoffejgpalmpaa", sum := "987a29387a893a0fe6806ea91dc00680d4e98bd703005a421de94e1a1993651f", func := "pub-comitia/laws.FnProgressUpdate", spec := "fnProgressUpdate", unfollowed := true, recurses := true, apart := false, narrowed := true }
def FnProgressUpdateUptoSaid : Prop := fnProgressUpdateUptoRow.holds Try.pinned (OpenSpec.upto fnProgressUpdateSpec)

end Rows
end Go.Proofs.Ytfoffejgpalmpaa
