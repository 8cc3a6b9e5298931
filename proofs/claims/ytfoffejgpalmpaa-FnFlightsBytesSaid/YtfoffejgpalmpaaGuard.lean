/- guarded: a call, and whether it panicked. -/
import Derived.Test.YtfoffejgpalmpaaLib
import Derived.Recover
import Derived.Defers
import Derived.Laws.Pointers
namespace Go.Proofs.Ytfoffejgpalmpaa
open Go.ChangeShapes Go.WideShapes Go.ChangeAt Go.RowKit
set_option linter.unusedSimpArgs false
set_option linter.unusedVariables false

theorem catch_panic (p : Addr) (x : Value) (u : TypeId) (pv : Value) (older : List PanicEntry) (w : World) (hc : w.cell? p = some x) (hz : w.frozen? p = false) :
    CallsD Try.prog 38 #[.pointer (some p)] (.panicking ({ v := .iface u pv, recovered := false } :: older)) w fun e u' w' =>
      e = .returned (.tuple #[]) ∧ u' = .panicking ({ v := .iface u pv, recovered := true } :: older) ∧ w' = w.setCell p (.bool true) := by
  refine callsD_of_wpS Try.func38 rfl fun c₀ cs hu => ?_
  apply wpS_region
  simp [wpOpsS, go_sem, recoverD, hu, Try.ntmps38, Exit.thenS, hc, hz, bodyPostS, results, Try.results38]

theorem catch_none (p : Addr) (x : Value) (w : World) (hc : w.cell? p = some x) (hz : w.frozen? p = false) :
    CallsD Try.prog 38 #[.pointer (some p)] .returning w fun e u' w' => e = .returned (.tuple #[]) ∧ u' = .returning ∧ w' = w.setCell p (.bool false) := by
  refine callsD_of_wpS Try.func38 rfl fun c₀ cs hu => ?_
  apply wpS_region
  simp [wpOpsS, go_sem, recoverD, hu, Try.ntmps38, Exit.thenS, hc, hz, bodyPostS, results, Try.results38]
  cases c₀
  simp_all

/-- How a call that is guarded may end: it returns, and R0 holds; or it panics with a value, and R1 holds. -/
def GuardEnd (b : Nat) (R0 R1 : World → Prop) (e : Ending) (w : World) : Prop :=
  Blk w b 4 #[.bool false] ∧ ((e = .returned (.tuple #[]) ∧ R0 w) ∨ (∃ u pv, e = .panicked [{ v := .iface u pv, recovered := false }] ∧ R1 w))

set_option maxRecDepth 100000 in
set_option maxHeartbeats 1000000 in
theorem guarded_c (k : Nat) (caps : Array Value) (w : World) (R0 R1 : World → Prop) (hk : ∀ w, (callFunc k caps).run Try.prog w = .ok (.enter k caps) w)
    (h : Calls Try.prog k caps (w.alloc (.cells #[.bool false] 4)) (GuardEnd w.heap.size R0 R1)) :
    Calls Try.prog 20 #[.func (.func k) #[] caps] w fun e w' => ∃ w2, Chg (· = w.heap.size) w2 w' ∧ ((e = .returned (.bool false) ∧ R0 w2) ∨ (e = .returned (.bool true) ∧ R1 w2)) := by
  have hmf : ∀ (fn : Fn) (first cap : Array Value) (w : World), (Instr.makeFunc fn first cap).run Try.prog w = .ok (.func fn first cap) w := fun _ _ _ _ => rfl
  have h' := Lib.hid h
  clear h
  go_enter_defers Try.func20, Try.ntmps20
  go_wp2_with (refine h'.out.mono ?_; rintro e w2 ⟨hB, (⟨rfl, hR⟩ | ⟨u, pv, rfl, hR⟩)⟩ <;> (have hB' := Lib.hid hB; have hR' := Lib.hid hR; have hc := hB.cell 0; have hz := hB.thaw 0; simp only [List.getElem?_toArray, List.getElem?_cons_zero] at hc; clear hB hR))
  · refine leaves_cons (f := 38) (args := #[.pointer (some ⟨w.heap.size, 0, none⟩)]) (by simp) (by simp [go_sem]) ?_
    refine (catch_none ⟨w.heap.size, 0, none⟩ (.bool false) _ ((hB'.out.set_ 0 (.bool false)).cell 0) ((hB'.out.set_ 0 (.bool false)).thaw 0)).mono ?_
    rintro e u' w'' ⟨rfl, rfl, rfl⟩
    refine ⟨.bool false, ?_, w2, (chg_setCell w2 ⟨w.heap.size, 0, none⟩ _).trans (chg_setCell _ ⟨w.heap.size, 0, none⟩ _), .inl ⟨rfl, hR'.out⟩⟩
    have := (((hB'.out.set_ 0 (.bool false)).set_ 0 (.bool false)).cell 0)
    simp [results, Try.results20, go_sem]
    rw [this]
    rfl
  · refine leaves_cons (f := 38) (args := #[.pointer (some ⟨w.heap.size, 0, none⟩)]) (by simp) (by simp [go_sem]) ?_
    refine (catch_panic ⟨w.heap.size, 0, none⟩ (.bool false) u pv [] _ (hB'.out.cell 0) (hB'.out.thaw 0)).mono ?_
    rintro e u' w'' ⟨rfl, rfl, rfl⟩
    refine ⟨.bool true, ?_, w2, chg_setCell w2 ⟨w.heap.size, 0, none⟩ _, .inr ⟨rfl, hR'.out⟩⟩
    have := ((hB'.out.set_ 0 (.bool true)).cell 0)
    simp [results, Try.results20, go_sem]
    rw [this]
    rfl

end Go.Proofs.Ytfoffejgpalmpaa
