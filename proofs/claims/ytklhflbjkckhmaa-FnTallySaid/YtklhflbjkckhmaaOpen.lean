/- What an argument is that reads as data: its cells, one type at a time. -/
import Derived.Test.YtklhflbjkckhmaaLib
import Derived.Deep.Slices
import Derived.Deep.Fields
namespace Go.Proofs.Ytklhflbjkckhmaa
open Go.ChangeShapes Go.WideShapes Go.ChangeAt Go.RowKit

/-- The cells cs read as some datum of type t. -/
def Rd (P : Program) (w : World) (t : TypeId) (cs : List Value) : Prop :=
  ∃ (H : Type) (enc : TypeId × Value → H) (base : Nat) (sp : Nat → Bool) (held : Bool) (x : DataW H × List MemPlace) (fuel : Nat), DataW.trod enc P w base sp held fuel t cs = some x

section
variable {P : Program} {w : World} {t : TypeId} {cs : List Value}

theorem Rd.int {k : IntKind} (ht : P.underlying t = some (.int k)) (h : Rd P w t cs) : ∃ n, cs = [.int k n] ∧ (Lit.int k n).wf = true := by
  obtain ⟨H, enc, base, sp, held, x, fuel, h⟩ := h
  obtain ⟨n, h1, _, h2⟩ := DataW.trod_int ht h
  exact ⟨n, h1, h2⟩
theorem Rd.bool (ht : P.underlying t = some .bool) (h : Rd P w t cs) : ∃ b, cs = [.bool b] := by
  obtain ⟨H, enc, base, sp, held, x, fuel, h⟩ := h
  obtain ⟨n, h1, _⟩ := DataW.trod_bool ht h
  exact ⟨n, h1⟩
theorem Rd.string (ht : P.underlying t = some .string) (h : Rd P w t cs) : ∃ s : ByteArray, cs = [.string s] ∧ s.size ≤ maxLen := by
  obtain ⟨H, enc, base, sp, held, x, fuel, h⟩ := h
  obtain ⟨n, h1, _, h2⟩ := DataW.trod_string ht h
  exact ⟨n, h1, h2⟩
theorem Rd.part {fs : Array Field} (ht : P.underlying t = some (.struct fs)) (h : Rd P w t cs) :
    cs.length = P.cellsOf t ∧ ∀ (i : Nat) (f : Field), fs[i]? = some f → Rd P w f.type ((cs.drop f.offset).take (P.cellsOf f.type)) := by
  obtain ⟨H, enc, base, sp, held, x, fuel, h⟩ := h
  obtain ⟨xs, n, _, _, h1, h2, h3⟩ := DataW.trod_struct ht h
  refine ⟨h1, fun i f hi => ?_⟩
  have hlt : i < fs.size := (Array.getElem?_eq_some_iff.1 hi).1
  have h4 := h3 i f hi
  rw [List.getElem?_eq_getElem (by omega)] at h4
  exact ⟨H, enc, base, sp, held, _, n, h4⟩
theorem Rd.partN {fs : Array Field} {n : Nat} (ht : P.underlying t = some (.struct fs)) (h : Rd P w t cs) (i : Nat) (f : Field) (hi : fs[i]? = some f) (hn : P.cellsOf f.type = n) :
    Rd P w f.type ((cs.drop f.offset).take n) := hn ▸ (h.part ht).2 i f hi
/-- A struct whose fields are one cell each. -/
theorem Rd.fields {fs : Array Field} (ht : P.underlying t = some (.struct fs)) (hone : Go.Deep.oneCellFields P fs = true) (hC : P.cellsOf t = fs.size) (h : Rd P w t cs) :
    cs.length = fs.size ∧ ∀ (i : Nat) (f : Field), fs[i]? = some f → ∃ c, cs[i]? = some c ∧ Rd P w f.type [c] := by
  obtain ⟨h1, h2⟩ := h.part ht
  rw [hC] at h1
  refine ⟨h1, fun i f hi => ?_⟩
  obtain ⟨ho, hk⟩ := Go.Deep.hone_of hone i f hi
  have hlt : i < fs.size := (Array.getElem?_eq_some_iff.1 hi).1
  have h3 := h2 i f hi
  rw [ho, hk, List.drop_eq_getElem_cons (by omega)] at h3
  exact ⟨cs[i]'(by omega), List.getElem?_eq_getElem (by omega), h3⟩
/-- A slice: nil, or so many elements, each read out of its cells. -/
theorem Rd.slice {e : TypeId} (ht : P.underlying t = some (.slice e)) (h : Rd P w t cs) :
    cs = [.slice none 0 0] ∨ ∃ (a : Addr) (len cap : Nat), cs = [.slice (some a) len cap] ∧ len ≤ cap ∧ cap ≤ maxLen ∧
      ∀ i, i < len → ∃ es : List Value, es.length = P.cellsOf e ∧ (∀ j, j < P.cellsOf e → w.cell? ((a.add (i * P.cellsOf e)).add j) = es[j]?) ∧ Rd P w e es := by
  obtain ⟨H, enc, base, sp, held, x, fuel, h⟩ := h
  rcases Go.Deep.open_slice ht h with ⟨h0, _⟩ | ⟨a, len, cap, m, n, D, Pl, hcs, hb, hl, hm, hmm, _, hi⟩
  · exact .inl h0
  · refine .inr ⟨a, len, cap, hcs, hl, hm, fun i him => ?_⟩
    have hlm : len ≤ m := by rw [hmm]; split <;> omega
    obtain ⟨es, he, ht⟩ := hi i (by omega)
    obtain ⟨_, h1, h2⟩ := World.cells?_some he
    exact ⟨es, h1, h2, H, enc, base, sp, held, _, n, ht⟩

variable {r : Reach} {b0 : Nat} {v : Value}
theorem arg_int {k : IntKind} (ht : P.underlying t = some (.int k)) (o : Value.okWide P w r b0 t v) (h : Rd P w t v.cells.toList) : ∃ n, v = .int k n ∧ (Lit.int k n).wf = true := by
  obtain ⟨n, rfl⟩ := okWide_int ht o
  obtain ⟨m, h1, h2⟩ := h.int ht
  simp only [Value.cells, List.cons.injEq, Value.int.injEq, true_and, and_true] at h1
  subst h1
  exact ⟨n, rfl, h2⟩
theorem arg_bool (ht : P.underlying t = some .bool) (o : Value.okWide P w r b0 t v) : ∃ b, v = .bool b := okWide_bool ht o
theorem arg_string (ht : P.underlying t = some .string) (o : Value.okWide P w r b0 t v) (h : Rd P w t v.cells.toList) : ∃ s : ByteArray, v = .string s ∧ s.size ≤ maxLen := by
  obtain ⟨s, rfl⟩ := okWide_string ht o
  obtain ⟨m, h1, h2⟩ := h.string ht
  simp only [Value.cells, List.cons.injEq, Value.string.injEq, and_true] at h1
  subst h1
  exact ⟨s, rfl, h2⟩
theorem arg_struct {fs : Array Field} (ht : P.underlying t = some (.struct fs)) (o : Value.okWide P w r b0 t v) (h : Rd P w t v.cells.toList) : ∃ l : List Value, v = .agg l.toArray ∧ Rd P w t l := by
  obtain ⟨cs, rfl, _⟩ := okWide_struct ht o
  exact ⟨cs.toList, by simp, h⟩
theorem arg_slice {e : TypeId} (ht : P.underlying t = some (.slice e)) (o : Value.okWide P w r b0 t v) (h : Rd P w t v.cells.toList) : ∃ a len cap, v = .slice a len cap ∧ Rd P w t [.slice a len cap] := by
  obtain ⟨a, len, cap, rfl⟩ := okWide_slice ht o
  exact ⟨a, len, cap, rfl, h⟩
theorem u64_bd {n : Int} (h : (Lit.int .u64 n).wf = true) : 0 ≤ n ∧ n ≤ 18446744073709551615 := by simpa [Lit.wf, IntKind.min, IntKind.max, IntKind.signed, IntKind.bits] using h
theorem i64_bd {n : Int} (h : (Lit.int .i64 n).wf = true) : -9223372036854775808 ≤ n ∧ n ≤ 9223372036854775807 := by simpa [Lit.wf, IntKind.min, IntKind.max, IntKind.signed, IntKind.bits] using h
end

theorem list1 {α : Type} {l : List α} (h : l.length = 1) : ∃ a, l = [a] := by match l, h with | [a], _ => exact ⟨a, rfl⟩
theorem list2 {α : Type} {l : List α} (h : l.length = 2) : ∃ a b, l = [a, b] := by match l, h with | [a, b], _ => exact ⟨a, b, rfl⟩
theorem list3 {α : Type} {l : List α} (h : l.length = 3) : ∃ a b c, l = [a, b, c] := by match l, h with | [a, b, c], _ => exact ⟨a, b, c, rfl⟩
theorem list4 {α : Type} {l : List α} (h : l.length = 4) : ∃ a b c d, l = [a, b, c, d] := by match l, h with | [a, b, c, d], _ => exact ⟨a, b, c, d, rfl⟩
theorem list5 {α : Type} {l : List α} (h : l.length = 5) : ∃ a b c d e, l = [a, b, c, d, e] := by match l, h with | [a, b, c, d, e], _ => exact ⟨a, b, c, d, e, rfl⟩

end Go.Proofs.Ytklhflbjkckhmaa
