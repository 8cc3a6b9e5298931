/- impl.MustSync and the law FnSync: the walk. -/
import Derived.Test.YtgjkkcnkblodoaaHard
import Derived.Test.YtgjkkcnkblodoaaOpen
namespace Go.Proofs.Ytgjkkcnkblodoaa
open Go.ChangeShapes Go.WideShapes Go.ChangeAt Go.RowKit

set_option maxHeartbeats 1000000 in
theorem implMustSync_c (ta va ca tb vb cb n : Int) (w : World) :
    Calls Try.prog 11 #[.agg #[.int .u64 ta, .int .u64 va, .int .u64 ca], .agg #[.int .u64 tb, .int .u64 vb, .int .u64 cb], .int .i64 n] w fun e w' =>
      e = .returned (.bool (must n va vb ta tb)) ∧ Ext w w' := by
  go_enter Try.func11, Try.ntmps11
  go_wp2
  go_region_with (first
    | (go_at_call_of 23 (Value.int .u64 ta); refine (hardTo_c ta va ca _).mono ?_; rintro e w1 ⟨p, rfl, hp, he1⟩; obtain ⟨hc, hf⟩ := he1.rules)
    | (go_at_call_of 23 (Value.int .u64 tb); refine (hardTo_c tb vb cb _).mono ?_; rintro e w2 ⟨q, rfl, hq, he2⟩; clear hc hf; obtain ⟨hc, hf⟩ := he2.rules)
    | (go_at_call 22; refine (MustSync_c ta va ca tb vb cb n p q w2 (hp.ext he2) hq).mono ?_; rintro e w3 ⟨rfl, rfl⟩))
  all_goals go_wp2
  all_goals go_ret
  all_goals refine ⟨rfl, ?_⟩
  all_goals (repeat (first | exact Ext.refl _ | assumption | refine Ext.trans ?_ (by assumption) | refine Ext.alloc ?_ _ | refine Ext.drew ?_))

theorem must_pos {n va vb ta tb : Int} (h : 0 ≤ n) : must n va vb ta tb = (decide (0 < n) || ta != tb || va != vb) := by
  unfold must
  have e : (n != 0) = decide (0 < n) := by
    rw [Bool.eq_iff_iff]
    simp
    omega
  rw [e, Bool.or_assoc, Bool.or_assoc, Bool.or_comm (va != vb)]

/-- FnSync returns true. -/
theorem fnSync_walk (ta va ca tb vb cb n : Int) (w : World) :
    Calls Try.prog 5 #[.agg #[.int .u64 ta, .int .u64 va, .int .u64 ca], .agg #[.int .u64 tb, .int .u64 vb, .int .u64 cb], .int .i64 n] w fun e w' =>
      e = .returned (.bool true) ∧ Ext w w' := by
  have H := @implMustSync_c ta va ca tb vb cb n
  have H' := Lib.hid H
  clear H
  go_enter Try.func5, Try.ntmps5
  go_wp2_with (go_at_call 11; refine (H'.out _).mono ?_; rintro e w1 ⟨rfl, he⟩; obtain ⟨hc, hf⟩ := he.rules)
  all_goals go_ret
  all_goals refine ⟨?_, by repeat (first | exact Ext.refl _ | assumption | refine Ext.trans ?_ (by assumption) | refine Ext.alloc ?_ _ | refine Ext.drew ?_)⟩
  all_goals (try clear hc hf he H')
  all_goals first | rfl | (rw [must_pos ‹0 ≤ n›]; simp_all)

theorem cells_hard : Try.prog.cellsOf 26 = 3 := by kernel_rfl
set_option maxRecDepth 100000 in
theorem arg_hard {w : World} {r : Reach} {b0 : Nat} {v : Value} (o : Value.okWide Try.prog w r b0 26 v) (h : Rd Try.prog w 26 v.cells.toList) :
    ∃ a b c : Int, v = .agg #[.int .u64 a, .int .u64 b, .int .u64 c] := by
  obtain ⟨l, rfl, g⟩ := arg_struct Try.underlying26 o h
  obtain ⟨h1, h2⟩ := g.fields Try.underlying26 (by kernel_rfl) (by rw [cells_hard]; rfl)
  obtain ⟨c0, c1, c2, rfl⟩ := list3 h1
  obtain ⟨x, hx, h0⟩ := h2 0 _ rfl
  obtain ⟨y, hy, h1⟩ := h2 1 _ rfl
  obtain ⟨z, hz, h2⟩ := h2 2 _ rfl
  obtain rfl : c0 = x := by simpa using hx
  obtain rfl : c1 = y := by simpa using hy
  obtain rfl : c2 = z := by simpa using hz
  obtain ⟨a, ha, _⟩ := h0.int Try.underlying22
  obtain ⟨b, hb, _⟩ := h1.int Try.underlying22
  obtain ⟨c, hc, _⟩ := h2.int Try.underlying22
  obtain rfl : c0 = .int .u64 a := by simpa using ha
  obtain rfl : c1 = .int .u64 b := by simpa using hb
  obtain rfl : c2 = .int .u64 c := by simpa using hc
  exact ⟨a, b, c, rfl⟩

end Go.Proofs.Ytgjkkcnkblodoaa
