/- Arguments that are lists of uint32. -/
import Derived.Test.YtfoffejgpalmpaaOpenList
namespace Go.Proofs.Ytfoffejgpalmpaa
open Go.ChangeShapes Go.WideShapes Go.ChangeAt Go.RowKit

theorem cells_u32 : Try.prog.cellsOf 34 = 1 := by kernel_rfl
theorem u32_bd {n : Int} (h : (Lit.int .u32 n).wf = true) : 0 ≤ n ∧ n ≤ 4294967295 := by simpa [Lit.wf, IntKind.min, IntKind.max, IntKind.signed, IntKind.bits] using h
theorem open_u32s {w : World} {v : Value} (h : Rd Try.prog w 33 [v]) : ∃ xs : List Int, SliceR w v 1 xs.length (xs.flatMap fun x => [Value.int .u32 x]) ∧ ∀ x ∈ xs, 0 ≤ x ∧ x ≤ 4294967295 :=
  open_list (f := fun x => [Value.int .u32 x]) Try.underlying33 cells_u32 (by omega) (fun _ => rfl) (fun cs hcs => by
    obtain ⟨n, hn, wn⟩ := hcs.int Try.underlying34
    exact ⟨n, hn, u32_bd wn⟩) h

end Go.Proofs.Ytfoffejgpalmpaa
