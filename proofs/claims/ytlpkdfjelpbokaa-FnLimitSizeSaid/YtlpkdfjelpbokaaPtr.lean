/- Pointers to one cell. -/
import Derived.Test.YtlpkdfjelpbokaaMem
import Derived.Test.YtlpkdfjelpbokaaRegion
import Derived.Outline
namespace Go.Proofs.Ytlpkdfjelpbokaa
open Go.ChangeShapes Go.WideShapes Go.ChangeAt Go.RowKit
set_option linter.unusedSimpArgs false
set_option linter.unusedVariables false

theorem mixed : Try.prog.follows .mixedOrders = true := Try.checked.mixed

/-- A pointer to one cell. -/
def PtrR (w : World) (v : Value) (T : TypeId) (x : Value) : Prop := ∃ b : Nat, v = .pointer (some ⟨b, 0, none⟩) ∧ Blk w b T #[x]
theorem PtrR.ext {w w' : World} {v x : Value} {T : TypeId} (h : PtrR w v T x) (e : Ext w w') : PtrR w' v T x := by
  obtain ⟨b, h1, h2⟩ := h
  exact ⟨b, h1, h2.ext e⟩
theorem PtrR.chgT {Ts : List Nat} {w w' : World} {v x : Value} {T : TypeId} (h : PtrR w v T x) (e : ChgT Ts w w') (hT : Ts.contains (T + 1) = false) : PtrR w' v T x := by
  obtain ⟨b, h1, h2⟩ := h
  exact ⟨b, h1, h2.chgT e hT⟩
theorem PtrR.mk {w : World} {b : Nat} {x : Value} {T : TypeId} (h : Blk w b T #[x]) : PtrR w (.pointer (some ⟨b, 0, none⟩)) T x := ⟨b, rfl, h⟩
theorem PtrR.new (w : World) (T : TypeId) (x : Value) : PtrR (w.alloc (.cells #[x] T)) (.pointer (some ⟨w.heap.size, 0, none⟩)) T x := ⟨_, rfl, Blk.new w T _⟩
theorem PtrR.shape {w : World} {v x : Value} {T : TypeId} (h : PtrR w v T x) : ∃ b, v = .pointer (some ⟨b, 0, none⟩) := by
  obtain ⟨b, h1, _⟩ := h
  exact ⟨b, h1⟩
attribute [irreducible] PtrR

end Go.Proofs.Ytlpkdfjelpbokaa
