/- A hard state as the package has it: the pointer that hardTo makes, its getters, MustSync. -/
import Derived.Test.YtgjkkcnkblodoaaLib
import Derived.Deep.RegionHeld3
import Derived.Deep.QuietTactic
import Derived.BigQuiet
import Derived.Outline
namespace Go.Proofs.Ytgjkkcnkblodoaa
open Go.ChangeShapes Go.WideShapes Go.ChangeAt Go.RowKit

/-- Block p is a hard state with a term, a vote and a commit index, each behind a pointer. -/
def HardP (w : World) (p : Nat) (t v c : Int) : Prop :=
  ∃ x y z : Nat, Blk w p 73 #[.pointer (some ⟨x, 0, none⟩), .pointer (some ⟨y, 0, none⟩), .pointer (some ⟨z, 0, none⟩)] ∧
    Blk w x 22 #[.int .u64 t] ∧ Blk w y 22 #[.int .u64 v] ∧ Blk w z 22 #[.int .u64 c]
theorem HardP.ext {w w' : World} {p : Nat} {t v c : Int} (h : HardP w p t v c) (e : Ext w w') : HardP w' p t v c := by
  obtain ⟨x, y, z, h1, h2, h3, h4⟩ := h
  exact ⟨x, y, z, h1.ext e, h2.ext e, h3.ext e, h4.ext e⟩

theorem hardTo_c (t v c : Int) (w : World) : Calls Try.prog 23 #[.agg #[.int .u64 t, .int .u64 v, .int .u64 c]] w fun e w' =>
    ∃ p : Nat, e = .returned (.pointer (some ⟨p, 0, none⟩)) ∧ HardP w' p t v c ∧ Ext w w' := by
  go_enter Try.func23, Try.ntmps23
  go_wp2
  go_ret
  refine ⟨w.heap.size + 1 + 1 + 1 + 1, rfl, ⟨w.heap.size + 1, w.heap.size + 1 + 1, w.heap.size + 1 + 1 + 1, ?_, ?_, ?_, ?_⟩, ((((((Ext.refl w).alloc _).alloc _).alloc _).alloc _).alloc _)⟩ <;> (repeat (first | exact Blk.new_at (by simp) | refine Blk.alloc ?_ _))

theorem GetVote_c (t v c : Int) (p : Nat) (w : World) (h : HardP w p t v c) : Calls Try.prog 35 #[.pointer (some ⟨p, 0, none⟩)] w fun e w' =>
    e = .returned (.int .u64 v) ∧ w = w' := by
  obtain ⟨x, y, z, h1, h2, h3, h4⟩ := h
  have c1 := h1.cell 1
  have c2 := h3.cell 0
  simp at c1 c2
  clear h1 h2 h3 h4
  go_enter Try.func35, Try.ntmps35
  go_wp2
  go_ret
  exact ⟨rfl, rfl⟩
theorem GetTerm_c (t v c : Int) (p : Nat) (w : World) (h : HardP w p t v c) : Calls Try.prog 36 #[.pointer (some ⟨p, 0, none⟩)] w fun e w' =>
    e = .returned (.int .u64 t) ∧ w = w' := by
  obtain ⟨x, y, z, h1, h2, h3, h4⟩ := h
  have c1 := h1.cell 0
  have c2 := h2.cell 0
  simp at c1 c2
  clear h1 h2 h3 h4
  go_enter Try.func36, Try.ntmps36
  go_wp2
  go_ret
  exact ⟨rfl, rfl⟩

attribute [irreducible] HardP

/-- What must be written at once. -/
def must (n va vb ta tb : Int) : Bool := n != 0 || va != vb || ta != tb

theorem MustSync_c (ta va ca tb vb cb n : Int) (p q : Nat) (w : World) (hp : HardP w p ta va ca) (hq : HardP w q tb vb cb) :
    Calls Try.prog 22 #[.pointer (some ⟨p, 0, none⟩), .pointer (some ⟨q, 0, none⟩), .int .i64 n] w fun e w' =>
      e = .returned (.bool (must n va vb ta tb)) ∧ w = w' := by
  have hm : Hid (must n va vb ta tb = (n != 0 || va != vb || ta != tb)) := rfl
  go_enter Try.func22, Try.ntmps22
  go_wp2_with (first
    | (go_at_call_of 35 p; refine (GetVote_c _ _ _ _ _ hp).mono ?_; rintro e w' ⟨rfl, rfl⟩)
    | (go_at_call_of 35 q; refine (GetVote_c _ _ _ _ _ hq).mono ?_; rintro e w' ⟨rfl, rfl⟩)
    | (go_at_call_of 36 p; refine (GetTerm_c _ _ _ _ _ hp).mono ?_; rintro e w' ⟨rfl, rfl⟩)
    | (go_at_call_of 36 q; refine (GetTerm_c _ _ _ _ _ hq).mono ?_; rintro e w' ⟨rfl, rfl⟩))
  all_goals go_ret
  all_goals refine ⟨?_, rfl⟩
  all_goals rw [hm.out]
  all_goals simp_all

end Go.Proofs.Ytgjkkcnkblodoaa
