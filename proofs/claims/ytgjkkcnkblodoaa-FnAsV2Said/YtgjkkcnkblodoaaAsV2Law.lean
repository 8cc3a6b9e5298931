/- The law FnAsV2: the walk. -/
import Derived.Test.YtgjkkcnkblodoaaAsV2
import Derived.Test.YtgjkkcnkblodoaaJointLaw
import Derived.Deep.QuietTactic
import Derived.BigQuiet
namespace Go.Proofs.Ytgjkkcnkblodoaa
open Go.ChangeShapes Go.WideShapes Go.ChangeAt Go.RowKit
set_option linter.unusedSimpArgs false
set_option linter.unusedVariables false

set_option maxRecDepth 100000 in
set_option maxHeartbeats 1000000 in
theorem implAsV2_c (x : Single) (ctx : ByteArray) (id : Int) (w : World) (hc : ctx.size ≤ maxLen) : Calls Try.prog 18 #[.agg #[.int .i64 x.kind, .int .u64 x.node], .string ctx, .int .u64 id] w
    (RetV w fun v w' => ∃ A c, v = .agg #[.int .i64 0, .slice A 1 c, .string ctx] ∧ SinglesT w' (.slice A 1 c) [x.back]) := by
  go_enter Try.func18, Try.ntmps18
  go_wp2_with (go_at_call 30; refine (bytesOf_c _ _ hc).mono ?_; rintro e w1 ⟨v, rfl, hv, he⟩; obtain ⟨A2, c2, e2⟩ := hv.shape; subst e2)
  have hT : ∀ y, Blk (((((w.alloc (.cells #[.int .i64 x.kind, .int .u64 x.node] 42)).alloc (.cells #[.int .i64 0, .slice none 0 0, .string .empty] 37)).alloc (.cells #[.int .u64 id] 22)).alloc (.cells #[y] 60)).alloc (.cells #[.int .u64 x.node] 22)) (w.heap.size + 1 + 1 + 1) 60 #[y] := by
    intro y
    (repeat (first | exact Blk.new_at (by simp) | refine Blk.alloc ?_ _))
  have hN : ∀ y, Blk (((((w.alloc (.cells #[.int .i64 x.kind, .int .u64 x.node] 42)).alloc (.cells #[.int .i64 0, .slice none 0 0, .string .empty] 37)).alloc (.cells #[.int .u64 id] 22)).alloc (.cells #[y] 60)).alloc (.cells #[.int .u64 x.node] 22)) (w.heap.size + 1 + 1 + 1 + 1) 22 #[.int .u64 x.node] := by
    intro y
    (repeat (first | exact Blk.new_at (by simp) | refine Blk.alloc ?_ _))
  have hC : ∀ y, Blk (((((w.alloc (.cells #[.int .i64 x.kind, .int .u64 x.node] 42)).alloc (.cells #[.int .i64 0, .slice none 0 0, .string .empty] 37)).alloc (.cells #[.int .u64 id] 22)).alloc (.cells #[y] 60)).alloc (.cells #[.int .u64 x.node] 22)) (w.heap.size + 1) 37 #[.int .i64 0, .slice none 0 0, .string .empty] := by
    intro y
    (repeat (first | exact Blk.new_at (by simp) | refine Blk.alloc ?_ _))
  have ew : ∀ y, Ext w (((((w.alloc (.cells #[.int .i64 x.kind, .int .u64 x.node] 42)).alloc (.cells #[.int .i64 0, .slice none 0 0, .string .empty] 37)).alloc (.cells #[.int .u64 id] 22)).alloc (.cells #[y] 60)).alloc (.cells #[.int .u64 x.node] 22)) := fun y => (((((Ext.refl w).alloc _).alloc _).alloc _).alloc _).alloc _
  have e1 : Ext w1 (w1.alloc (.cells #[.pointer (some ⟨w.heap.size + 1 + 1 + 1, 0, none⟩), .pointer (some ⟨w.heap.size + 1 + 1 + 1 + 1, 0, none⟩), .slice A2 ctx.size c2, .pointer (some ⟨w.heap.size + 1 + 1, 0, none⟩)] 64)) := (Ext.refl w1).alloc _
  refine (ccAsV2_c x ctx _ _ _ _ _ _ (Blk.new _ _ _) (PtrR.mk ((hT _).ext (he.trans e1))) (PtrR.mk ((hN _).ext (he.trans e1))) (hv.ext e1)).mono ?_
  rintro e w2 ⟨v2, rfl, hv2, he2⟩
  obtain ⟨b2, eb2⟩ : ∃ b, v2 = .pointer (some ⟨b, 0, none⟩) := by
    obtain ⟨b, _, _, h, _⟩ := hv2
    exact ⟨b, h⟩
  subst eb2
  have hE2 := he.trans (e1.trans he2)
  go_wp2_with fail
  refine (changeFromOne_c _ x ctx _ hv2).mono ?_
  rintro e w3 ⟨v3, rfl, ⟨A3, c3, rfl, hs3⟩, he3⟩
  have hE3 := hE2.trans he3
  obtain ⟨hcell, hfroz⟩ := hE3.rules
  go_wp2_with fail
  have hB0 := (hC _).ext hE3
  have hB1 := hB0.set_ 0 (.int .i64 0)
  have hB2 := hB1.set_ 1 (.slice A3 1 c3)
  have hB3 := hB2.set_ 2 (.string ctx)
  have hT := ((chgT_setCell hB0 0 (.int .i64 0)).trans (chgT_setCell hB1 1 (.slice A3 1 c3))).trans (chgT_setCell hB2 2 (.string ctx))
  refine bodyPost_ret (v := .agg #[.int .i64 0, .slice A3 1 c3, .string ctx]) (results_cell_row (by rw [Try.results18]) _ _ (w.heap.size + 1) 37 _ (0, 0) _ rfl hB3.out Try.underlying37 rfl info_change) rfl ⟨_, rfl, ⟨A3, c3, rfl, hs3.chgT hT (by decide)⟩, ?_⟩
  exact (((((ew _).trans hE3)).setCell (by simp) _).setCell (by simp) _).setCell (by simp) _

/-- LeaveJoint: none, and no way asked for. -/
theorem LeaveJoint_c (v : Value) (c : Change) (w : World) (h : ChangeP w v c) (hn : c.changes.length ≤ 2147483647) :
    Calls Try.prog 32 #[v] w fun e w' => e = .returned (.bool (wrap32 c.trans == 0 && ((c.changes.length : Int) == 0))) ∧ w = w' := by
  have Q := Lib.hid (GetTransition_c v c w h)
  obtain ⟨b, v0, v1, v2, rfl, hb, hc⟩ := h
  obtain ⟨A, cp, rfl⟩ := hc.2.1.shape
  have hb' := Lib.hid hb
  clear hb hc
  generalize wrap32 c.trans = t at *
  go_enter Try.func32, Try.ntmps32
  go_wp2_with (first
    | (go_at_call 41; refine Q.out.mono ?_; rintro e w' ⟨rfl, rfl⟩)
    | (go_at_call 43; refine (v2Changes_c _ _ _ _ hb'.out rfl).mono ?_; rintro e w' ⟨rfl, rfl⟩))
  all_goals go_ret
  all_goals refine ⟨?_, rfl⟩
  · simp_all
  · simp_all

theorem LeavesJoint_c (cs : List Value) (c : Change) (w : World) (h : ChangeA w cs c) (hf : c.fits) :
    Calls Try.prog 19 #[.agg cs.toArray] w fun e w' => e = .returned (.bool (wrap32 c.trans == 0 && ((c.changes.length : Int) == 0))) ∧ Ext w w' := by
  have Q := Lib.hid (fun W (he : Ext w W) => changeTo_c cs c W (h.ext he) hf)
  obtain ⟨v, rfl, hs⟩ := h
  obtain ⟨A, cp, e1⟩ : ∃ A cp, v = .slice A c.changes.length cp := by
    obtain ⟨A, cp, h1, _⟩ := hs
    exact ⟨A, cp, h1⟩
  subst e1
  clear hs
  go_enter Try.func19, Try.ntmps19
  go_wp2_with (first
    | (go_at_call 27; refine (Q.out _ ((Ext.refl w).alloc _)).mono ?_; rintro e w1 ⟨v, rfl, hv, he⟩)
    | (go_at_call 32; refine (LeaveJoint_c _ c _ hv hf.1).mono ?_; rintro e w' ⟨rfl, rfl⟩))
  go_ret
  exact ⟨rfl, ((Ext.refl w).alloc _).trans he⟩

theorem cell_lt {w : World} {b o : Nat} {v : Value} (h : w.cell? ⟨b, o, none⟩ = some v) : b < w.heap.size := by
  unfold World.cell? at h
  cases e : w.heap[b]? with
  | none => simp [e] at h
  | some _ => exact (Array.getElem?_eq_some_iff.1 e).1

set_option maxRecDepth 100000 in
set_option maxHeartbeats 1000000 in
theorem fnAsV2_walk (x : Single) (ctx : ByteArray) (id : Int) (w : World) : Calls Try.prog 8 #[.agg #[.int .i64 x.kind, .int .u64 x.node], .string ctx, .int .u64 id] w (Yes w) := by
  by_cases hk : (0 ≤ x.kind ∧ x.kind ≤ 3) ∧ ctx.size ≤ 1000
  · obtain ⟨⟨hk0, hk3⟩, hc⟩ := hk
    have hback : x.back = x := by
      obtain ⟨k, n⟩ := x
      unfold Single.back wrap32
      simp only at hk0 hk3 ⊢
      congr
      omega
    have Q := Lib.hid (fun W => implAsV2_c x ctx id W (by unfold maxLen; omega))
    go_enter Try.func8, Try.ntmps8
    go_wp2_with fail
    refine (Q.out _).mono ?_
    rintro e w1 ⟨v, rfl, ⟨A, c, rfl, hs⟩, he⟩
    rw [hback] at hs
    clear hback Q
    obtain ⟨hcell, hfroz⟩ := he.rules
    have hs' := hs.old
    have hC : ChangeA w1 [.int .i64 0, .slice A 1 c, .string ctx] ⟨0, [x], ctx⟩ := ⟨_, rfl, hs'⟩
    have QE := Lib.hid (fun W (h : Ext w1 W) => EntersJoint_c _ _ W (hC.ext h) ⟨by simp, by simp only; omega⟩ (by simp) (by simp))
    have QL := Lib.hid (fun W (h : Ext w1 W) => LeavesJoint_c _ _ W (hC.ext h) ⟨by simp, by simp only; omega⟩)
    have eJ : joins ⟨0, [x], ctx⟩ = false := by simp [joins]
    obtain ⟨A', c', e1, h1, h2, h3, h4⟩ := hs'
    injection e1 with e1 e0 e2
    clear e0
    subst e1 e2
    obtain ⟨b, o, rfl, hel⟩ := h4.elem singleCells_len (by omega) (show 0 < [x].length by simp)
    have hd0 := hel 0 (.int .i64 x.kind) rfl
    have hd1 := hel 1 (.int .u64 x.node) rfl
    simp only [Nat.zero_mul, Nat.add_zero] at hd0 hd1
    have hsz : w.heap.size < w1.heap.size := by
      have := he.size_le
      simp at this
      omega
    have hblt : b < w1.heap.size := cell_lt hd0
    have H4 := Lib.hid h4
    have HEL := Lib.hid hel
    clear hs h1 h2 h3 h4 hel hC
    go_wp2_with fail
    go_quiet (fail)
    go_wp2_with (first
      | (go_at_call 17; refine Calls.mono (QE.out _ (by repeat (first | exact Ext.refl _ | apply Ext.alloc | apply Ext.drewN))) ?_; rintro e w2 ⟨rfl, he2⟩; rw [eJ]; obtain ⟨hcell2, hfroz2⟩ := he2.rules; have hE2 : Ext w1 w2 := Ext.trans (by repeat (first | exact Ext.refl _ | apply Ext.alloc | apply Ext.drewN)) he2)
      | (go_at_call 19; refine Calls.mono (QL.out _ (by repeat (first | exact hE2 | apply Ext.alloc | apply Ext.drewN))) ?_; rintro e w3 ⟨rfl, he3⟩))
    go_ret
    exact ⟨rfl, (((Ext.refl w).alloc _).trans he).trans (hE2.trans he3)⟩
  · go_enter Try.func8, Try.ntmps8
    by_cases h0 : x.kind < 0
    · have hd : decide (x.kind < 0) = true := by simpa using h0
      go_wp2_with fail
      all_goals (try go_ret)
      all_goals exact ⟨rfl, (Ext.refl w).alloc _⟩
    · have hd : decide (x.kind < 0) = false := by simpa using h0
      by_cases h3 : 3 < x.kind
      · have hd3 : decide (3 < x.kind) = true := by simpa using h3
        go_wp2_with fail
        all_goals (try go_ret)
        all_goals exact ⟨rfl, (Ext.refl w).alloc _⟩
      · have hd3 : decide (3 < x.kind) = false := by simpa using h3
        have hc : (1000 : Int) < (ctx.size : Int) := by omega
        go_wp2_with fail
        all_goals (try go_ret)
        all_goals exact ⟨rfl, (Ext.refl w).alloc _⟩

end Go.Proofs.Ytgjkkcnkblodoaa
