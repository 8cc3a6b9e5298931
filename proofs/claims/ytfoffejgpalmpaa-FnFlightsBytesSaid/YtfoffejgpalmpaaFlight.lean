/- Inflights: the struct's six cells; Full, Count, reset, NewInflights. -/
import Derived.Test.YtfoffejgpalmpaaRow
import Derived.Deep.QuietTactic
import Derived.BigQuiet
import Derived.IntWalk
namespace Go.Proofs.Ytfoffejgpalmpaa
open Go.ChangeShapes Go.WideShapes Go.ChangeAt Go.RowKit
set_option linter.unusedSimpArgs false
set_option linter.unusedVariables false

def inCells (st ct : Nat) (by_ : Int) (sz : Nat) (mx : Int) (buf : Value) : Array Value := #[.int .i64 st, .int .i64 ct, .int .u64 by_, .int .i64 sz, .int .u64 mx, buf]
def InB (w : World) (b st ct : Nat) (by_ : Int) (sz : Nat) (mx : Int) (buf : Value) : Prop := Blk w b 79 (inCells st ct by_ sz mx buf)
/-- Whether no more may be sent. -/
def isFull (ct : Nat) (by_ : Int) (sz : Nat) (mx : Int) : Bool := (ct == sz) || (mx != 0 && decide (mx ≤ by_))

set_option maxRecDepth 100000 in
set_option maxHeartbeats 1000000 in
theorem inFull_c (b st ct : Nat) (by_ : Int) (sz : Nat) (mx : Int) (buf : Value) (w : World) (h : InB w b st ct by_ sz mx buf) :
    Calls Try.prog 36 #[.pointer (some ⟨b, 0, none⟩)] w fun e w' => e = .returned (.bool (isFull ct by_ sz mx)) ∧ Ext w w' := by
  have c1 := Blk.cell h 1
  have c2 := Blk.cell h 2
  have c3 := Blk.cell h 3
  have c4 := Blk.cell h 4
  simp [inCells] at c1 c2 c3 c4
  clear h
  by_cases h1 : ct = sz
  · have hr : isFull ct by_ sz mx = true := by simp [isFull, h1]
    have hr' := Lib.hid hr
    clear hr
    subst h1
    go_enter Try.func36, Try.ntmps36
    go_wp2_with fail
    go_quiet (fail)
    go_wp2
    go_ret
    exact ⟨by rw [hr'.out]; rfl, (Ext.refl w).drewN _⟩
  · have hb1 : ((ct : Int) == (sz : Int)) = false := by
      rw [beq_eq_false_iff_ne]
      omega
    have hb1n : (ct == sz) = false := by simpa using h1
    by_cases h2 : mx = 0
    · have hr : isFull ct by_ sz mx = false := by simp [isFull, h1, h2]
      have hr' := Lib.hid hr
      clear hr
      subst h2
      go_enter Try.func36, Try.ntmps36
      go_wp2_with fail
      go_quiet (fail)
      go_wp2
      go_ret
      exact ⟨by rw [hr'.out]; rfl, (Ext.refl w).drewN _⟩
    · have hb2 : (mx != 0) = true := by simpa using h2
      have hr : isFull ct by_ sz mx = decide (mx ≤ by_) := by rw [isFull, hb1n, hb2, Bool.false_or, Bool.true_and]
      have hr' := Lib.hid hr
      clear hr
      go_enter Try.func36, Try.ntmps36
      go_wp2_with fail
      go_quiet (fail)
      go_wp2
      go_ret
      exact ⟨by rw [hr'.out]; rfl, (Ext.refl w).drewN _⟩

theorem inCount_c (b st ct : Nat) (by_ : Int) (sz : Nat) (mx : Int) (buf : Value) (w : World) (h : InB w b st ct by_ sz mx buf) :
    Calls Try.prog 35 #[.pointer (some ⟨b, 0, none⟩)] w fun e w' => e = .returned (.int .i64 ct) ∧ w = w' := by
  have c1 := Blk.cell h 1
  simp [inCells] at c1
  clear h
  go_enter Try.func35, Try.ntmps35
  go_wp2
  go_ret
  exact ⟨rfl, rfl⟩

theorem inReset_c (b st ct : Nat) (by_ : Int) (sz : Nat) (mx : Int) (buf : Value) (w : World) (h : InB w b st ct by_ sz mx buf) :
    Calls Try.prog 51 #[.pointer (some ⟨b, 0, none⟩)] w fun e w' => e = .returned (.tuple #[]) ∧ InB w' b 0 0 0 sz mx buf ∧ Chg (· = b) w w' := by
  have c0 := Blk.cell h 0
  have c1 := Blk.cell h 1
  have c2 := Blk.cell h 2
  have f0 := Blk.thaw h 0
  have f1 := Blk.thaw h 1
  have f2 := Blk.thaw h 2
  simp [inCells] at c0 c1 c2
  have h' := Lib.hid h
  clear h
  go_enter Try.func51, Try.ntmps51
  go_wp2
  go_end0
  exact ⟨rfl, ((h'.out.set_ 0 _).set_ 1 _).set_ 2 _, ((chg_setCell _ ⟨b, 0, none⟩ _).trans (chg_setCell _ ⟨b, 1, none⟩ _)).trans (chg_setCell _ ⟨b, 2, none⟩ _)⟩

theorem newInflights_c (sz : Nat) (mx : Int) (w : World) : Calls Try.prog 16 #[.int .i64 sz, .int .u64 mx] w fun e w' => e = .returned (.pointer (some ⟨w.heap.size, 0, none⟩)) ∧ InB w' w.heap.size 0 0 0 sz mx (.slice none 0 0) ∧ Ext w w' := by
  go_enter Try.func16, Try.ntmps16
  go_wp2
  go_ret
  exact ⟨rfl, Blk.new _ _ _, (Ext.refl w).alloc _⟩

end Go.Proofs.Ytfoffejgpalmpaa
