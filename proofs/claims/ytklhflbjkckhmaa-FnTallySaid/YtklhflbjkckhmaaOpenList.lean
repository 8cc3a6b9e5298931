/- Arguments that are lists: what they are when they read as data. -/
import Derived.Test.YtklhflbjkckhmaaOpen
import Derived.Test.YtklhflbjkckhmaaMem
namespace Go.Proofs.Ytklhflbjkckhmaa
open Go.ChangeShapes Go.WideShapes Go.ChangeAt Go.RowKit

theorem lists_of {α : Type} {p : Nat → α → Prop} : ∀ (n : Nat), (∀ i, i < n → ∃ x, p i x) → ∃ xs : List α, xs.length = n ∧ ∀ i x, xs[i]? = some x → p i x
  | 0, _ => ⟨[], rfl, fun i x h => by simp at h⟩
  | n + 1, h => by
    obtain ⟨xs, h1, h2⟩ := lists_of n (fun i hi => h i (by omega))
    obtain ⟨x, hx⟩ := h n (by omega)
    refine ⟨xs ++ [x], by simp [h1], fun i y hy => ?_⟩
    rcases Nat.lt_or_ge i n with hi | hi
    · rw [List.getElem?_append_left (by omega)] at hy
      exact h2 i y hy
    · have : i = n := by
        have := (List.getElem?_eq_some_iff.1 hy).1
        simp at this
        omega
      subst this
      rw [List.getElem?_append_right (by omega), h1] at hy
      simp at hy
      subst hy
      exact hx

/-- The cells of a slice's elements, one behind the other, as a row. -/
theorem rowR_of {w : World} {a : Addr} {size : Nat} (hs : 0 < size) {n : Nat} {f : Nat → List Value} (h : ∀ i, i < n → (f i).length = size ∧ ∀ j, j < size → w.cell? ((a.add (i * size)).add j) = (f i)[j]?) (vs : List Value)
    (hl : vs.length = n * size) (hv : ∀ i j, i < n → j < size → vs[i * size + j]? = (f i)[j]?) : RowR w (some a) vs := by
  intro k v hk
  have hkl : k < n * size := by
    have := (List.getElem?_eq_some_iff.1 hk).1
    omega
  have hn : 0 < n := by
    rcases Nat.eq_zero_or_pos n with h0 | h0
    · subst h0; simp at hkl
    · exact h0
  obtain ⟨b, o, sp⟩ := a
  have h0 := (h 0 hn).2 0 hs
  have hsp : sp = none := by
    have e0 : ((⟨b, o, sp⟩ : Addr).add (0 * size)).add 0 = ⟨b, o, sp⟩ := by simp [Addr.add]
    rw [e0, List.getElem?_eq_getElem (by rw [(h 0 hn).1]; exact hs)] at h0
    cases sp with
    | none => rfl
    | some x =>
      exfalso
      unfold World.cell? at h0
      split at h0 <;> simp at h0
  subst hsp
  refine ⟨b, o, rfl, ?_⟩
  have hi : k / size < n := (Nat.div_lt_iff_lt_mul hs).2 hkl
  have hj : k % size < size := Nat.mod_lt _ hs
  have hkk : k / size * size + k % size = k := by rw [Nat.mul_comm]; exact Nat.div_add_mod k size
  have h1 := (h _ hi).2 _ hj
  rw [addr_add, addr_add, Nat.add_assoc, hkk, ← hv _ _ hi hj, hkk, hk] at h1
  exact h1

/-- A slice of elements of any width: what it reads as. -/
theorem open_list {α : Type} {f : α → List Value} {size : Nat} {p : α → Prop} {w : World} {t e : TypeId} {v : Value} (ht : Try.prog.underlying t = some (.slice e)) (hC : Try.prog.cellsOf e = size) (hs : 0 < size) (hf : ∀ x, (f x).length = size)
    (hel : ∀ cs, Rd Try.prog w e cs → ∃ x, cs = f x ∧ p x) (h : Rd Try.prog w t [v]) : ∃ xs : List α, SliceR w v size xs.length (xs.flatMap f) ∧ ∀ x ∈ xs, p x := by
  rcases h.slice ht with h0 | ⟨a, len, cap, h0, h1, h2, h3⟩
  · obtain rfl : v = .slice none 0 0 := by simpa using h0
    exact ⟨[], ⟨none, 0, rfl, Nat.le_refl _, by simp [maxLen], by simp, RowR.nil _ _⟩, by simp⟩
  · obtain rfl : v = .slice (some a) len cap := by simpa using h0
    rw [hC] at h3
    obtain ⟨xs, hx1, hx2⟩ := lists_of (p := fun i x => (∀ j, j < size → w.cell? ((a.add (i * size)).add j) = (f x)[j]?) ∧ p x) len (fun i hi => by
      obtain ⟨es, e1, e2, e3⟩ := h3 i hi
      obtain ⟨x, rfl, hp⟩ := hel es e3
      exact ⟨x, e2, hp⟩)
    refine ⟨xs, ⟨some a, cap, by rw [hx1], by omega, h2, flat_length hf xs, ?_⟩, fun x hx => ?_⟩
    · refine rowR_of hs (n := len) (f := fun i => ((xs[i]?).map f).getD []) (fun i hi => ?_) _ (by rw [flat_length hf, hx1]) (fun i j hi hj => ?_)
      · have hil : i < xs.length := by omega
        rw [List.getElem?_eq_getElem hil, Option.map_some, Option.getD_some]
        exact ⟨hf _, (hx2 i xs[i] (List.getElem?_eq_getElem hil)).1⟩
      · have hil : i < xs.length := by omega
        rw [List.getElem?_eq_getElem hil, Option.map_some, Option.getD_some]
        exact flat_at hf xs i j hil hj
    · obtain ⟨i, hi, rfl⟩ := List.getElem_of_mem hx
      exact (hx2 i _ (List.getElem?_eq_getElem hi)).2

end Go.Proofs.Ytklhflbjkckhmaa
