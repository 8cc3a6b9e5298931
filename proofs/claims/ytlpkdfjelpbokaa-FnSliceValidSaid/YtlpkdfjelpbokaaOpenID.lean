/- An argument that is an ID. -/
import Derived.Test.YtlpkdfjelpbokaaOpen
namespace Go.Proofs.Ytlpkdfjelpbokaa
open Go.ChangeShapes Go.WideShapes Go.ChangeAt Go.RowKit

theorem cells_id : Try.prog.cellsOf 30 = 2 := by kernel_rfl
set_option maxRecDepth 100000 in
theorem open_id {w : World} {cs : List Value} (h : Rd Try.prog w 30 cs) : ∃ t i, cs = [.int .u64 t, .int .u64 i] ∧ (0 ≤ t ∧ t ≤ 18446744073709551615) ∧ (0 ≤ i ∧ i ≤ 18446744073709551615) := by
  obtain ⟨h1, h2⟩ := h.fields Try.underlying30 (by kernel_rfl) (by rw [cells_id]; rfl)
  obtain ⟨v0, v1, rfl⟩ := list2 h1
  obtain ⟨y0, e0, r0⟩ := h2 0 _ rfl
  obtain ⟨y1, e1, r1⟩ := h2 1 _ rfl
  obtain rfl : v0 = y0 := by simpa using e0
  obtain rfl : v1 = y1 := by simpa using e1
  obtain ⟨t, ht, wt⟩ := r0.int Try.underlying25
  obtain ⟨n, hn, wn⟩ := r1.int Try.underlying25
  obtain rfl : v0 = .int .u64 t := by simpa using ht
  obtain rfl : v1 = .int .u64 n := by simpa using hn
  exact ⟨t, n, rfl, u64_bd wt, u64_bd wn⟩

end Go.Proofs.Ytlpkdfjelpbokaa
