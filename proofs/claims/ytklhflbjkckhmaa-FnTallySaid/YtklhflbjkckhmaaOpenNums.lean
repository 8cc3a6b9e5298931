/- Arguments that are lists of numbers. -/
import Derived.Test.YtklhflbjkckhmaaOpenList
import Derived.Test.YtklhflbjkckhmaaNums
namespace Go.Proofs.Ytklhflbjkckhmaa
open Go.ChangeShapes Go.WideShapes Go.ChangeAt Go.RowKit

theorem cells_u64 : Try.prog.cellsOf 27 = 1 := by kernel_rfl
theorem open_nums {w : World} {v : Value} (h : Rd Try.prog w 22 [v]) : ∃ xs, NumsR w v xs ∧ ∀ x ∈ xs, 0 ≤ x ∧ x ≤ 18446744073709551615 := by
  unfold NumsR
  rcases h.slice Try.underlying22 with h0 | ⟨a, len, cap, h0, h1, h2, h3⟩
  · obtain rfl : v = .slice none 0 0 := by simpa using h0
    exact ⟨[], ⟨none, 0, rfl, Nat.le_refl _, by simp [maxLen], rfl, RowR.nil _ _⟩, by simp⟩
  · obtain rfl : v = .slice (some a) len cap := by simpa using h0
    rw [cells_u64] at h3
    obtain ⟨xs, hx1, hx2⟩ := lists_of (p := fun i x => w.cell? ((a.add (i * 1)).add 0) = some (.int .u64 x) ∧ (Lit.int .u64 x).wf = true) len (fun i hi => by
      obtain ⟨es, e1, e2, e3⟩ := h3 i hi
      obtain ⟨n, hn, hwf⟩ := e3.int Try.underlying27
      refine ⟨n, ?_, hwf⟩
      rw [e2 0 (by omega), hn]
      rfl)
    refine ⟨xs, ⟨some a, cap, by rw [hx1], by omega, h2, by simp, ?_⟩, fun x hx => ?_⟩
    · refine rowR_of (size := 1) (by omega) (n := len) (f := fun i => (xs[i]?.map (Value.int .u64)).toList) (fun i hi => ?_) _ (by simp [hx1]) (fun i j hi hj => ?_)
      · have hil : i < xs.length := by omega
        refine ⟨by simp [hil], fun j hj => ?_⟩
        obtain rfl : j = 0 := by omega
        rw [(hx2 i xs[i] (List.getElem?_eq_getElem hil)).1]
        simp [hil]
      · have hil : i < xs.length := by omega
        obtain rfl : j = 0 := by omega
        simp [hil]
    · obtain ⟨i, hi, rfl⟩ := List.getElem_of_mem hx
      exact u64_bd (hx2 i _ (List.getElem?_eq_getElem hi)).2

end Go.Proofs.Ytklhflbjkckhmaa
