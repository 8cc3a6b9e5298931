/- Arguments that are lists of entries. -/
import Derived.Test.YtlpkdfjelpbokaaOpenList
import Derived.Test.YtlpkdfjelpbokaaEntry
namespace Go.Proofs.Ytlpkdfjelpbokaa
open Go.ChangeShapes Go.WideShapes Go.ChangeAt Go.RowKit

theorem cells_entry : Try.prog.cellsOf 27 = 4 := by kernel_rfl
set_option maxRecDepth 100000 in
theorem open_entry {w : World} {cs : List Value} (h : Rd Try.prog w 27 cs) : ∃ x : Entry, cs = entryCells x ∧ ((0 ≤ x.term ∧ x.term ≤ 18446744073709551615) ∧ (0 ≤ x.index ∧ x.index ≤ 18446744073709551615)) := by
  obtain ⟨h1, h2⟩ := h.fields Try.underlying27 (by kernel_rfl) (by rw [cells_entry]; rfl)
  obtain ⟨v0, v1, v2, v3, rfl⟩ := list4 h1
  obtain ⟨y0, e0, r0⟩ := h2 0 _ rfl
  obtain ⟨y1, e1, r1⟩ := h2 1 _ rfl
  obtain ⟨y2, e2, r2⟩ := h2 2 _ rfl
  obtain ⟨y3, e3, r3⟩ := h2 3 _ rfl
  obtain rfl : v0 = y0 := by simpa using e0
  obtain rfl : v1 = y1 := by simpa using e1
  obtain rfl : v2 = y2 := by simpa using e2
  obtain rfl : v3 = y3 := by simpa using e3
  obtain ⟨t, ht, wt⟩ := r0.int Try.underlying25
  obtain ⟨n, hn, wn⟩ := r1.int Try.underlying25
  obtain ⟨k, hk, wk⟩ := r2.int Try.underlying3
  obtain ⟨s, hs, _⟩ := r3.string Try.underlying9
  obtain rfl : v0 = .int .u64 t := by simpa using ht
  obtain rfl : v1 = .int .u64 n := by simpa using hn
  obtain rfl : v2 = .int .i64 k := by simpa using hk
  obtain rfl : v3 = .string s := by simpa using hs
  exact ⟨⟨t, n, k, s⟩, rfl, u64_bd wt, u64_bd wn⟩
theorem open_entries {w : World} {v : Value} (h : Rd Try.prog w 22 [v]) : ∃ es, EntriesA w v es ∧ ∀ x ∈ es, ((0 ≤ x.term ∧ x.term ≤ 18446744073709551615) ∧ (0 ≤ x.index ∧ x.index ≤ 18446744073709551615)) :=
  open_list (f := entryCells) Try.underlying22 cells_entry (by omega) entryCells_len (fun cs hcs => open_entry hcs) h

end Go.Proofs.Ytlpkdfjelpbokaa
