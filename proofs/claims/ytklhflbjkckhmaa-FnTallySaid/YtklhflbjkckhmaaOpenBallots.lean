/- Arguments that are lists of ballots. -/
import Derived.Test.YtklhflbjkckhmaaOpenNums
import Derived.Test.YtklhflbjkckhmaaVoters
namespace Go.Proofs.Ytklhflbjkckhmaa
open Go.ChangeShapes Go.WideShapes Go.ChangeAt Go.RowKit

theorem NumsR.len {w : World} {v : Value} {xs : List Int} (h : NumsR w v xs) : xs.length ≤ maxLen := by
  unfold NumsR at h
  obtain ⟨A, c, _, h1, h2, _⟩ := h
  omega
theorem BallotsR.len {w : World} {v : Value} {xs : List Ballot} (h : BallotsR w v xs) : xs.length ≤ maxLen := by
  obtain ⟨A, c, _, h1, h2, _⟩ := h
  omega
theorem cells_ballot : Try.prog.cellsOf 29 = 2 := by kernel_rfl
set_option maxRecDepth 100000 in
theorem open_ballot {w : World} {cs : List Value} (h : Rd Try.prog w 29 cs) : ∃ x : Ballot, cs = ballotCells x ∧ U64 x.id := by
  obtain ⟨h1, h2⟩ := h.fields Try.underlying29 (by kernel_rfl) (by rw [cells_ballot]; rfl)
  obtain ⟨v0, v1, rfl⟩ := list2 h1
  obtain ⟨y0, e0, r0⟩ := h2 0 _ rfl
  obtain ⟨y1, e1, r1⟩ := h2 1 _ rfl
  obtain rfl : v0 = y0 := by simpa using e0
  obtain rfl : v1 = y1 := by simpa using e1
  obtain ⟨n, hn, wn⟩ := r0.int Try.underlying27
  obtain ⟨b, hb⟩ := r1.bool Try.underlying4
  obtain rfl : v0 = .int .u64 n := by simpa using hn
  obtain rfl : v1 = .bool b := by simpa using hb
  exact ⟨⟨n, b⟩, rfl, u64_bd wn⟩
theorem open_ballots {w : World} {v : Value} (h : Rd Try.prog w 23 [v]) : ∃ bs, BallotsR w v bs ∧ ∀ x ∈ bs, U64 x.id :=
  open_list (f := ballotCells) Try.underlying23 cells_ballot (by omega) ballotCells_len (fun cs hcs => open_ballot hcs) h

end Go.Proofs.Ytklhflbjkckhmaa
