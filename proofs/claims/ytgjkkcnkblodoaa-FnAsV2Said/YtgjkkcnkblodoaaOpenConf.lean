/- Arguments that are lists of numbers, configurations, snapshots: what they are when they read as data. -/
import Derived.Test.YtgjkkcnkblodoaaOpen
import Derived.Test.YtgjkkcnkblodoaaConf
namespace Go.Proofs.Ytgjkkcnkblodoaa
open Go.ChangeShapes Go.WideShapes Go.ChangeAt Go.RowKit

theorem lists_of {α : Type} {p : Nat → α → Prop} : ∀ (n : Nat), (∀ i, i < n → ∃ x, p i x) → ∃ xs : List α, xs.length = n ∧ ∀ i x, xs[i]? = some x → p i x
  | 0, _ => ⟨[], rfl, fun i x h => by simp at h⟩
  | n + 1, h => by
    obtain ⟨xs, h1, h2⟩ := lists_of n (fun i hi => h i (by omega))
    obtain ⟨x, hx⟩ := h n (by omega)
    refine ⟨xs ++ [x], by simp [h1], fun i y hy => ?_⟩
    rcases Nat.lt_or_ge i n with hi | hi
    · rw [List.getElem?_append_left (by omega)] at hy
      exact h2 i y hy
    · have : i = n := by
        have := (List.getElem?_eq_some_iff.1 hy).1
        simp at this
        omega
      subst this
      rw [List.getElem?_append_right (by omega), h1] at hy
      simp at hy
      subst hy
      exact hx

/-- The cells of a slice's elements, one behind the other, as a row. -/
theorem rowR_of {w : World} {a : Addr} {size : Nat} (hs : 0 < size) {n : Nat} {f : Nat → List Value} (h : ∀ i, i < n → (f i).length = size ∧ ∀ j, j < size → w.cell? ((a.add (i * size)).add j) = (f i)[j]?) (vs : List Value)
    (hl : vs.length = n * size) (hv : ∀ i j, i < n → j < size → vs[i * size + j]? = (f i)[j]?) : RowR w (some a) vs := by
  intro k v hk
  have hkl : k < n * size := by
    have := (List.getElem?_eq_some_iff.1 hk).1
    omega
  have hn : 0 < n := by
    rcases Nat.eq_zero_or_pos n with h0 | h0
    · subst h0; simp at hkl
    · exact h0
  obtain ⟨b, o, sp⟩ := a
  have h0 := (h 0 hn).2 0 hs
  have hsp : sp = none := by
    have e0 : ((⟨b, o, sp⟩ : Addr).add (0 * size)).add 0 = ⟨b, o, sp⟩ := by simp [Addr.add]
    rw [e0, List.getElem?_eq_getElem (by rw [(h 0 hn).1]; exact hs)] at h0
    cases sp with
    | none => rfl
    | some x =>
      exfalso
      unfold World.cell? at h0
      split at h0 <;> simp at h0
  subst hsp
  refine ⟨b, o, rfl, ?_⟩
  have hi : k / size < n := (Nat.div_lt_iff_lt_mul hs).2 hkl
  have hj : k % size < size := Nat.mod_lt _ hs
  have hkk : k / size * size + k % size = k := by rw [Nat.mul_comm]; exact Nat.div_add_mod k size
  have h1 := (h _ hi).2 _ hj
  rw [addr_add, addr_add, Nat.add_assoc, hkk, ← hv _ _ hi hj, hkk, hk] at h1
  exact h1

theorem cells_u64 : Try.prog.cellsOf 22 = 1 := by kernel_rfl
theorem open_nums {w : World} {v : Value} (h : Rd Try.prog w 28 [v]) : ∃ xs, NumsR w v xs ∧ ∀ x ∈ xs, 0 ≤ x ∧ x ≤ 18446744073709551615 := by
  unfold NumsR
  rcases h.slice Try.underlying28 with h0 | ⟨a, len, cap, h0, h1, h2, h3⟩
  · obtain rfl : v = .slice none 0 0 := by simpa using h0
    exact ⟨[], ⟨none, 0, rfl, Nat.le_refl _, by simp [maxLen], rfl, RowR.nil _ _⟩, by simp⟩
  · obtain rfl : v = .slice (some a) len cap := by simpa using h0
    rw [cells_u64] at h3
    obtain ⟨xs, hx1, hx2⟩ := lists_of (p := fun i x => w.cell? ((a.add (i * 1)).add 0) = some (.int .u64 x) ∧ (Lit.int .u64 x).wf = true) len (fun i hi => by
      obtain ⟨es, e1, e2, e3⟩ := h3 i hi
      obtain ⟨n, hn, hwf⟩ := e3.int Try.underlying22
      refine ⟨n, ?_, hwf⟩
      rw [e2 0 (by omega), hn]
      rfl)
    refine ⟨xs, ⟨some a, cap, by rw [hx1], by omega, h2, by simp, ?_⟩, fun x hx => ?_⟩
    · refine rowR_of (size := 1) (by omega) (n := len) (f := fun i => (xs[i]?.map (Value.int .u64)).toList) (fun i hi => ?_) _ (by simp [hx1]) (fun i j hi hj => ?_)
      · have hil : i < xs.length := by omega
        refine ⟨by simp [hil], fun j hj => ?_⟩
        obtain rfl : j = 0 := by omega
        rw [(hx2 i xs[i] (List.getElem?_eq_getElem hil)).1]
        simp [hil]
      · have hil : i < xs.length := by omega
        obtain rfl : j = 0 := by omega
        simp [hil]
    · obtain ⟨i, hi, rfl⟩ := List.getElem_of_mem hx
      exact u64_bd (hx2 i _ (List.getElem?_eq_getElem hi)).2

theorem cells_conf : Try.prog.cellsOf 30 = 5 := by kernel_rfl
set_option maxRecDepth 100000 in
theorem open_conf {w : World} {cs : List Value} (h : Rd Try.prog w 30 cs) : ∃ c, ConfA w cs c := by
  obtain ⟨h1, h2⟩ := h.fields Try.underlying30 (by kernel_rfl) (by rw [cells_conf]; rfl)
  obtain ⟨v0, v1, v2, v3, v4, rfl⟩ := list5 h1
  obtain ⟨y0, e0, r0⟩ := h2 0 _ rfl
  obtain ⟨y1, e1, r1⟩ := h2 1 _ rfl
  obtain ⟨y2, e2, r2⟩ := h2 2 _ rfl
  obtain ⟨y3, e3, r3⟩ := h2 3 _ rfl
  obtain ⟨y4, e4, r4⟩ := h2 4 _ rfl
  obtain rfl : v0 = y0 := by simpa using e0
  obtain rfl : v1 = y1 := by simpa using e1
  obtain rfl : v2 = y2 := by simpa using e2
  obtain rfl : v3 = y3 := by simpa using e3
  obtain rfl : v4 = y4 := by simpa using e4
  obtain ⟨x0, g0, _⟩ := open_nums r0
  obtain ⟨x1, g1, _⟩ := open_nums r1
  obtain ⟨x2, g2, _⟩ := open_nums r2
  obtain ⟨x3, g3, _⟩ := open_nums r3
  obtain ⟨b, hb⟩ := r4.bool Try.underlying4
  obtain rfl : v4 = .bool b := by simpa using hb
  exact ⟨⟨x0, x1, x2, x3, b⟩, v0, v1, v2, v3, rfl, g0, g1, g2, g3⟩

theorem cells_snap : Try.prog.cellsOf 32 = 8 := by kernel_rfl
theorem cells_str : Try.prog.cellsOf 9 = 1 := by kernel_rfl
set_option maxRecDepth 100000 in
theorem open_snap {w : World} {cs : List Value} (h : Rd Try.prog w 32 cs) : ∃ s, SnapA w cs s := by
  have h1 := (h.part Try.underlying32).1
  rw [cells_snap] at h1
  have r0 := h.partN Try.underlying32 0 _ rfl cells_str
  have r1 := h.partN Try.underlying32 1 _ rfl cells_u64
  have r2 := h.partN Try.underlying32 2 _ rfl cells_u64
  have r3 := h.partN Try.underlying32 3 _ rfl cells_conf
  match cs, h1 with
  | [c0, c1, c2, c3, c4, c5, c6, c7], _ =>
    obtain ⟨d, hd, _⟩ := r0.string Try.underlying9
    obtain ⟨i, hi, _⟩ := r1.int Try.underlying22
    obtain ⟨t, ht, _⟩ := r2.int Try.underlying22
    obtain ⟨c, hc⟩ := open_conf r3
    obtain rfl : c0 = .string d := by simpa using hd
    obtain rfl : c1 = .int .u64 i := by simpa using hi
    obtain rfl : c2 = .int .u64 t := by simpa using ht
    exact ⟨⟨d, i, t, c⟩, _, rfl, hc⟩

end Go.Proofs.Ytgjkkcnkblodoaa
