/- The queue in a ring: where its entries lie; what adding and freeing one does. In plain Lean. -/
import Derived.Test.YtfoffejgpalmpaaRing
namespace Go.Proofs.Ytfoffejgpalmpaa
open Go.ChangeShapes Go.WideShapes Go.ChangeAt Go.RowKit
set_option linter.unusedSimpArgs false
set_option linter.unusedVariables false

/-- Where the j-th of the queue lies. -/
def pos (st j sz : Nat) : Nat := if sz ≤ st + j then st + j - sz else st + j
/-- The ring r holds the queue q from place st on. -/
structure RingR (st sz : Nat) (r q : List Fl) : Prop where
  len : r.length ≤ sz
  qlen : q.length ≤ sz
  st0 : q = [] → st = 0
  stl : q ≠ [] → st < r.length
  low : r.length < sz → st + q.length ≤ r.length
  at_ : ∀ (j : Nat) (hj : j < q.length), r[pos st j sz]? = some q[j]

theorem RingR.new (sz : Nat) : RingR 0 sz [] [] := ⟨by simp, by simp, fun _ => rfl, fun h => absurd rfl h, fun _ => by simp, fun j hj => by simp at hj⟩
theorem RingR.pos_lt {st sz : Nat} {r q : List Fl} (h : RingR st sz r q) {j : Nat} (hj : j < q.length) : pos st j sz < r.length := by
  have := h.at_ j hj
  exact (List.getElem?_eq_some_iff.1 this).1
/-- The ring emptied. -/
theorem RingR.reset {st sz : Nat} {r q : List Fl} (h : RingR st sz r q) : RingR 0 sz r [] := ⟨h.len, by simp, fun _ => rfl, fun hq => absurd rfl hq, fun _ => by simp, fun j hj => by simp at hj⟩
/-- The ring with a longer buffer, which it needs only if the next place is behind its end. -/
theorem RingR.grown {st sz : Nat} {r q : List Fl} (h : RingR st sz r q) (hn : r.length < sz) (s : List Fl) (hs : r.length + s.length ≤ sz) : RingR st sz (r ++ s) q := by
  have hlow := h.low hn
  refine ⟨by simpa using hs, h.qlen, h.st0, fun hq => ?_, fun _ => ?_, fun j hj => ?_⟩
  · have := h.stl hq
    rw [List.length_append]
    omega
  · rw [List.length_append]
    omega
  · have hp := h.pos_lt hj
    rw [List.getElem?_append_left hp]
    exact h.at_ j hj
/-- One more. -/
theorem RingR.add {st sz : Nat} {r q : List Fl} (h : RingR st sz r q) (hf : q.length < sz) (hp : pos st q.length sz < r.length) (hst : st < sz) (x : Fl) : RingR st sz (r.set (pos st q.length sz) x) (q ++ [x]) := by
  refine ⟨by simpa using h.len, by simp; omega, fun hq => by simp at hq, fun _ => ?_, fun hl => ?_, fun j hj => ?_⟩
  · rw [List.length_set]
    by_cases hq : q = []
    · have := h.st0 hq
      omega
    · exact h.stl hq
  · rw [List.length_set] at hl ⊢
    have := h.low hl
    rw [List.length_append, List.length_singleton]
    unfold pos at hp
    split at hp <;> omega
  · rw [List.length_append, List.length_singleton] at hj
    by_cases hjq : j = q.length
    · subst hjq
      rw [List.getElem?_set_self hp]
      simp
    · have hj' : j < q.length := by omega
      rw [List.getElem?_set_ne, h.at_ j hj', List.getElem_append_left hj']
      unfold pos
      split <;> split <;> omega
/-- The oldest one freed. -/
theorem RingR.free {st sz : Nat} {r : List Fl} {x : Fl} {q : List Fl} (h : RingR st sz r (x :: q)) (hq : q ≠ []) : RingR (pos st 1 sz) sz r q := by
  have hl := h.qlen
  have hs := h.stl (by simp)
  have hr := h.len
  have hq0 : 0 < q.length := List.length_pos_iff.2 hq
  simp only [List.length_cons] at hl
  refine ⟨h.len, by omega, fun e => absurd e hq, fun _ => ?_, fun hlt => ?_, fun j hj => ?_⟩
  · exact h.pos_lt (j := 1) (by simp; omega)
  · have := h.low hlt
    simp only [List.length_cons] at this
    unfold pos
    split <;> omega
  · have := h.at_ (j + 1) (by simp; omega)
    simp only [List.getElem_cons_succ] at this
    rw [← this]
    congr 1
    unfold pos
    split <;> split <;> split <;> omega

end Go.Proofs.Ytfoffejgpalmpaa
