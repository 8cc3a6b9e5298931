/- Arguments that are lists of calls on an Inflights. -/
import Derived.Test.YtfoffejgpalmpaaOpenList
import Derived.Test.YtfoffejgpalmpaaFlights
namespace Go.Proofs.Ytfoffejgpalmpaa
open Go.ChangeShapes Go.WideShapes Go.ChangeAt Go.RowKit

theorem cells_call : Try.prog.cellsOf 36 = 3 := by kernel_rfl
set_option maxRecDepth 100000 in
theorem open_call {w : World} {cs : List Value} (h : Rd Try.prog w 36 cs) : ∃ x : FCall, cs = x.cells ∧ True := by
  obtain ⟨h1, h2⟩ := h.fields Try.underlying36 (by kernel_rfl) (by rw [cells_call]; rfl)
  obtain ⟨v0, v1, v2, rfl⟩ := list3 h1
  obtain ⟨y0, e0, r0⟩ := h2 0 _ rfl
  obtain ⟨y1, e1, r1⟩ := h2 1 _ rfl
  obtain ⟨y2, e2, r2⟩ := h2 2 _ rfl
  obtain rfl : v0 = y0 := by simpa using e0
  obtain rfl : v1 = y1 := by simpa using e1
  obtain rfl : v2 = y2 := by simpa using e2
  obtain ⟨k, hk, wk⟩ := r0.int Try.underlying3
  obtain ⟨t, ht, wt⟩ := r1.int Try.underlying22
  obtain ⟨n, hn, wn⟩ := r2.int Try.underlying22
  obtain rfl : v0 = .int .i64 k := by simpa using hk
  obtain rfl : v1 = .int .u64 t := by simpa using ht
  obtain rfl : v2 = .int .u64 n := by simpa using hn
  exact ⟨⟨k, t, n⟩, rfl, trivial⟩
theorem open_calls {w : World} {v : Value} (h : Rd Try.prog w 23 [v]) : ∃ es : List FCall, SliceR w v 3 es.length (es.flatMap FCall.cells) ∧ ∀ x ∈ es, True :=
  open_list (f := FCall.cells) Try.underlying23 cells_call (by omega) FCall.cells_len (fun cs hcs => open_call hcs) h

end Go.Proofs.Ytfoffejgpalmpaa
