/- Lists of uint64. -/
import Derived.Test.YtklhflbjkckhmaaMem
namespace Go.Proofs.Ytklhflbjkckhmaa
open Go.ChangeShapes Go.WideShapes Go.ChangeAt Go.RowKit
set_option linter.unusedSimpArgs false
set_option linter.unusedVariables false

/-- A slice of uint64 that reads as the numbers xs. -/
def NumsR (w : World) (v : Value) (xs : List Int) : Prop := SliceR w v 1 xs.length (xs.map (Value.int .u64))
theorem NumsR.ext {w w' : World} {v : Value} {xs : List Int} (h : NumsR w v xs) (e : Ext w w') : NumsR w' v xs := SliceR.ext h e
theorem nums_one (xs : List Int) : ∀ u ∈ xs.map (Value.int .u64), u.oneCell' = true := by
  intro u hu
  obtain ⟨n, _, rfl⟩ := List.mem_map.1 hu
  rfl
theorem info_u64 : (Try.prog.info? 27).map (fun i => (i.zero, i.size, i.bytes)) = some (some (.int .u64 0), 1, 8) := by kernel_rfl

/-- The same, in new memory: the block's element type is known. -/
def NumsT (w : World) (v : Value) (xs : List Int) : Prop := SliceT w 27 v 1 xs.length (xs.map (Value.int .u64))
theorem NumsT.nums {w : World} {v : Value} {xs : List Int} (h : NumsT w v xs) : NumsR w v xs := SliceT.slice h
theorem NumsT.chgT {Ts : List Nat} {w w' : World} {v : Value} {xs : List Int} (h : NumsT w v xs) (e : ChgT Ts w w') (hT : Ts.contains (27 + 1) = false) : NumsT w' v xs := SliceT.chgT h e hT
theorem NumsT.ext {w w' : World} {v : Value} {xs : List Int} (h : NumsT w v xs) (e : Ext w w') : NumsT w' v xs := SliceT.ext h e

theorem NumsR.shape {w : World} {v : Value} {xs : List Int} (h : NumsR w v xs) : ∃ A c, v = .slice A xs.length c := by
  obtain ⟨A, c, h1, _⟩ := h
  exact ⟨A, c, h1⟩
theorem NumsT.shape {w : World} {v : Value} {xs : List Int} (h : NumsT w v xs) : ∃ A c, v = .slice A xs.length c := by
  obtain ⟨A, c, h1, _⟩ := h
  exact ⟨A, c, h1⟩
attribute [irreducible] NumsR NumsT

end Go.Proofs.Ytklhflbjkckhmaa
