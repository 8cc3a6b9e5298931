/- Bytes of a string. -/
import Derived.Test.YtlpkdfjelpbokaaMem
import Derived.Test.YtlpkdfjelpbokaaPtr
namespace Go.Proofs.Ytlpkdfjelpbokaa
open Go.ChangeShapes Go.WideShapes Go.ChangeAt Go.RowKit
set_option linter.unusedSimpArgs false
set_option linter.unusedVariables false

/-- A slice of bytes that reads as the string s; nil just if it is empty. -/
def BytesR (w : World) (v : Value) (s : ByteArray) : Prop := SliceT w 5 v 1 s.size (byteCells s) ∧ (s.size = 0 → v = .slice none 0 0)
theorem BytesR.chgT {Ts : List Nat} {w w' : World} {v : Value} {s : ByteArray} (h : BytesR w v s) (e : ChgT Ts w w') (hT : Ts.contains (5 + 1) = false) : BytesR w' v s := ⟨h.1.chgT e hT, h.2⟩
theorem BytesR.ext {w w' : World} {v : Value} {s : ByteArray} (h : BytesR w v s) (e : Ext w w') : BytesR w' v s := ⟨h.1.ext e, h.2⟩
theorem BytesR.shape {w : World} {v : Value} {s : ByteArray} (h : BytesR w v s) : ∃ A c, v = .slice A s.size c := by
  obtain ⟨⟨A, c, h1, _⟩, _⟩ := h
  exact ⟨A, c, h1⟩

theorem bytesOf_c (s : ByteArray) (w : World) (hs : s.size ≤ maxLen) : Calls Try.prog 27 #[.string s] w fun e w' =>
    ∃ v, e = .returned v ∧ BytesR w' v s ∧ Ext w w' := by
  by_cases h0 : s.size = 0
  · have h1 : s.data.toList = [] := List.eq_nil_of_length_eq_zero (by simpa using h0)
    have he : s = .empty := by
      rw [← bytes_of_string s, h1]
      rfl
    subst he
    go_enter Try.func27, Try.ntmps27
    go_wp2
    go_ret
    exact ⟨_, rfl, ⟨⟨none, 0, rfl, Nat.le_refl _, by simp [maxLen], by simp [byteCells], fun i v hi => by simp [byteCells] at hi⟩, fun _ => rfl⟩, Ext.refl _⟩
  · obtain ⟨A, c, w1, hrun, hb, he⟩ := run_to_bytes (P := Try.prog) w 9 59 5 s Try.underlying9 Try.underlying59 Try.underlying5 hs
    have hne : s.toList.isEmpty = false := by
      rw [List.isEmpty_eq_false_iff]
      intro h
      apply h0
      have : s.toList.length = s.size := by simp [ByteArray.toList_eq]
      rw [← this, h]
      rfl
    go_enter Try.func27, Try.ntmps27
    go_wp2
    go_ret
    exact ⟨_, rfl, ⟨hb, fun h => absurd h h0⟩, he⟩


theorem bytes_row {w : World} {A : Option Addr} {c : Nat} {s : ByteArray} (h : BytesR w (.slice A s.size c) s) : RowR w A (byteCells s) := by
  obtain ⟨⟨A', c', h1, _, _, _, h5⟩, _⟩ := h
  injection h1 with e1 _ e2
  subst e1
  exact h5.row

attribute [irreducible] BytesR


end Go.Proofs.Ytlpkdfjelpbokaa
