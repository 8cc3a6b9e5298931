/- Arguments: a configuration, and lists of nodes with progress. -/
import Derived.Test.YtklhflbjkckhmaaOpenNums
import Derived.Test.YtklhflbjkckhmaaOpenBallots
import Derived.Test.YtklhflbjkckhmaaTallySpec
namespace Go.Proofs.Ytklhflbjkckhmaa
open Go.ChangeShapes Go.WideShapes Go.ChangeAt Go.RowKit

theorem cells_conf4 : Try.prog.cellsOf 33 = 5 := by kernel_rfl
set_option maxRecDepth 100000 in
theorem open_conf4 {w : World} {cs : List Value} (h : Rd Try.prog w 33 cs) : ∃ (A B C D : Option Addr) (ca cb cc cd : Nat) (x : Conf4), cs = (c4cells A B C D ca cb cc cd x).toList ∧ Conf4A w A B C D ca cb cc cd x ∧
    (∀ k ∈ x.ins, U64 k) ∧ (∀ k ∈ x.outs, U64 k) ∧ (∀ k ∈ x.learners, U64 k) ∧ (∀ k ∈ x.next, U64 k) := by
  obtain ⟨h1, h2⟩ := h.fields Try.underlying33 (by kernel_rfl) (by rw [cells_conf4]; rfl)
  obtain ⟨v0, v1, v2, v3, v4, rfl⟩ := list5 h1
  obtain ⟨y0, e0, r0⟩ := h2 0 _ rfl
  obtain ⟨y1, e1, r1⟩ := h2 1 _ rfl
  obtain ⟨y2, e2, r2⟩ := h2 2 _ rfl
  obtain ⟨y3, e3, r3⟩ := h2 3 _ rfl
  obtain ⟨y4, e4, r4⟩ := h2 4 _ rfl
  obtain rfl : v0 = y0 := by simpa using e0
  obtain rfl : v1 = y1 := by simpa using e1
  obtain rfl : v2 = y2 := by simpa using e2
  obtain rfl : v3 = y3 := by simpa using e3
  obtain rfl : v4 = y4 := by simpa using e4
  obtain ⟨xs0, n0, u0⟩ := open_nums r0
  obtain ⟨xs1, n1, u1⟩ := open_nums r1
  obtain ⟨xs2, n2, u2⟩ := open_nums r2
  obtain ⟨xs3, n3, u3⟩ := open_nums r3
  obtain ⟨b, hb⟩ := r4.bool Try.underlying4
  obtain rfl : v4 = .bool b := by simpa using hb
  obtain ⟨A, ca, rfl⟩ := n0.shape
  obtain ⟨B, cb, rfl⟩ := n1.shape
  obtain ⟨C, cc, rfl⟩ := n2.shape
  obtain ⟨D, cd, rfl⟩ := n3.shape
  exact ⟨A, B, C, D, ca, cb, cc, cd, ⟨xs0, xs1, xs2, xs3, b⟩, rfl, ⟨n0, n1, n2, n3⟩, u0, u1, u2, u3⟩

theorem cells_trk : Try.prog.cellsOf 39 = 5 := by kernel_rfl
set_option maxRecDepth 100000 in
theorem open_trk {w : World} {cs : List Value} (h : Rd Try.prog w 39 cs) : ∃ x : Trk, cs = trkCells x ∧ U64 x.id := by
  obtain ⟨h1, h2⟩ := h.fields Try.underlying39 (by kernel_rfl) (by rw [cells_trk]; rfl)
  obtain ⟨v0, v1, v2, v3, v4, rfl⟩ := list5 h1
  obtain ⟨y0, e0, r0⟩ := h2 0 _ rfl
  obtain ⟨y1, e1, r1⟩ := h2 1 _ rfl
  obtain ⟨y2, e2, r2⟩ := h2 2 _ rfl
  obtain ⟨y3, e3, r3⟩ := h2 3 _ rfl
  obtain ⟨y4, e4, r4⟩ := h2 4 _ rfl
  obtain rfl : v0 = y0 := by simpa using e0
  obtain rfl : v1 = y1 := by simpa using e1
  obtain rfl : v2 = y2 := by simpa using e2
  obtain rfl : v3 = y3 := by simpa using e3
  obtain rfl : v4 = y4 := by simpa using e4
  obtain ⟨n0, hn0, wn0⟩ := r0.int Try.underlying27
  obtain ⟨n1, hn1, wn1⟩ := r1.int Try.underlying27
  obtain ⟨n2, hn2, wn2⟩ := r2.int Try.underlying27
  obtain ⟨b3, hb3⟩ := r3.bool Try.underlying4
  obtain ⟨b4, hb4⟩ := r4.bool Try.underlying4
  obtain rfl : v0 = .int .u64 n0 := by simpa using hn0
  obtain rfl : v1 = .int .u64 n1 := by simpa using hn1
  obtain rfl : v2 = .int .u64 n2 := by simpa using hn2
  obtain rfl : v3 = .bool b3 := by simpa using hb3
  obtain rfl : v4 = .bool b4 := by simpa using hb4
  exact ⟨⟨n0, n1, n2, b3, b4⟩, rfl, u64_bd wn0⟩
theorem open_trks {w : World} {v : Value} (h : Rd Try.prog w 34 [v]) : ∃ ts : List Trk, SliceR w v 5 ts.length (ts.flatMap trkCells) ∧ ∀ x ∈ ts, U64 x.id :=
  open_list (f := trkCells) Try.underlying34 cells_trk (by omega) trkCells_len (fun cs hcs => open_trk hcs) h

end Go.Proofs.Ytklhflbjkckhmaa
