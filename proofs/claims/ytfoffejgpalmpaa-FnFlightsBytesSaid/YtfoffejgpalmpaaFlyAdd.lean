/- The reference's flights: Add. (The rows of its drawn region are printed by a program.) -/
import Derived.Test.YtfoffejgpalmpaaFlying
import Derived.Test.YtfoffejgpalmpaaRegion
namespace Go.Proofs.Ytfoffejgpalmpaa
open Go.ChangeShapes Go.WideShapes Go.ChangeAt Go.RowKit
set_option linter.unusedSimpArgs false
set_option linter.unusedVariables false

theorem info_u64 : (Try.prog.info? 22).map (fun i => (i.zero, i.size, i.bytes)) = some (some (.int .u64 0), 1, 8) := by kernel_rfl

set_option maxRecDepth 100000 in
set_option maxHeartbeats 2000000 in
theorem flyAdd_full (base b sz : Nat) (mx i y : Int) (q : List Fl) (w : World) (h : FlyR base w b sz mx q) (hn : q.length ≤ 1000000) (hf : isFull q.length (sumQ q) sz mx = true) :
    Calls Try.prog 19 #[.pointer (some ⟨b, 0, none⟩), .int .u64 i, .int .u64 y] w fun e w' => e = .returned (.bool false) ∧ Ext w w' := by
  have Q0 := fun w1 (he : Ext w w1) => flyFull_c base b sz mx q w1 (h.ext he) hn
  rw [hf] at Q0
  have Q := Lib.hid Q0
  clear Q0
  obtain ⟨A1, A2, cc1, cc2, h⟩ := h
  have c2 := Blk.cell h.blk 2
  simp [fyCells] at c2
  clear h hf
  go_enter Try.func19, Try.ntmps19
  go_wp2_with fail
  refine wp_region_grow Ext
    [.val ?r0, .val ?r1, .val ?r2, .val ?r3, .val ?r4, .val ?r5, .val ?r6, .val ?r7, .val ?r8, .val ?r9, .val ?r10, .val ?r11, .val ?r12, .val ?r13, .val ?r14, .val ?r15, .val ?r16, .val ?r17, .val ?r18, .val ?r19, .val ?r20, .val ?r21, .val ?r22, .val ?r23, .val ?r24, .val ?r25, .val ?r26, .val ?r27, .val ?r28, .val ?r29]
    [[], [(0, 7)], [(1, 8)], [(2, 9)], [(3, 10), (2, 9)], [(4, 11), (2, 9)], [(5, 12), (2, 9)], [(6, 13), (2, 9)], [(7, 14), (2, 9)], [(8, 15), (2, 9)], [(9, 16)], [(9, 16)], [(11, 18), (9, 16)], [(12, 19), (9, 16)], [(13, 20), (9, 16)], [(9, 16)], [(15, 22), (9, 16)], [(16, 23), (9, 16)], [(17, 24), (9, 16)], [(18, 25), (9, 16)], [(19, 26), (9, 16)], [(14, 21), (20, 27), (9, 16)], [(21, 28), (9, 16)], [(10, 17), (22, 29), (9, 16)], [(9, 16), (23, 30), (2, 9)], [(2, 9), (24, 31)], [(25, 32)], [(26, 33)], [(27, 34), (26, 33)], [(26, 33), (28, 35)]]
    (by kernel_rfl) Ext.refl (fun _ _ _ => Ext.trans) (by kernel_rfl) rfl ⟨trivial, trivial, trivial, trivial, trivial, trivial, trivial, trivial, trivial, trivial, trivial, trivial, trivial, trivial, trivial, trivial, trivial, trivial, trivial, trivial, trivial, trivial, trivial, trivial, trivial, trivial, trivial, trivial, trivial, trivial, trivial⟩ ?ask ?fin
  case ask =>
    refine asks_cons ?a0 (asks_cons ?a1 (asks_cons ?a2 (asks_cons ?a3 (asks_cons ?a4 (asks_cons ?a5 (asks_cons ?a6 (asks_cons ?a7 (asks_cons ?a8 (asks_cons ?a9 (asks_cons ?a10 (asks_cons ?a11 (asks_cons ?a12 (asks_cons ?a13 (asks_cons ?a14 (asks_cons ?a15 (asks_cons ?a16 (asks_cons ?a17 (asks_cons ?a18 (asks_cons ?a19 (asks_cons ?a20 (asks_cons ?a21 (asks_cons ?a22 (asks_cons ?a23 (asks_cons ?a24 (asks_cons ?a25 (asks_cons ?a26 (asks_cons ?a27 (asks_cons ?a28 (asks_cons ?a29 (trivial))))))))))))))))))))))))))))))
    case a0 =>
      intro w' hS
      simp only [takes, List.map_cons, List.map_nil, List.getD_cons_zero, List.getD_cons_succ, feed, Act.put, List.setIfInBounds_toArray, List.set_cons_zero, List.set_cons_succ]
      refine alone_val ?_
      intro K hK
      show Oper.wp _ _ _ _ _ _
      go_simp
      exact hK _ (Ext.refl _)
    case a1 =>
      intro w' hS
      simp only [takes, List.map_cons, List.map_nil, List.getD_cons_zero, List.getD_cons_succ, feed, Act.put, List.setIfInBounds_toArray, List.set_cons_zero, List.set_cons_succ]
      refine alone_val ?_
      intro K hK
      show Oper.wp _ _ _ _ _ _
      go_simp
      refine (Q.out _ ((Ext.refl w).drew.trans hS)).mono ?_
      rintro e w3 ⟨rfl, he⟩
      exact hK _ he
    case a2 =>
      intro w' hS
      simp only [takes, List.map_cons, List.map_nil, List.getD_cons_zero, List.getD_cons_succ, feed, Act.put, List.setIfInBounds_toArray, List.set_cons_zero, List.set_cons_succ]
      refine alone_val ?_
      intro K hK
      show Oper.wp _ _ _ _ _ _
      go_simp
      exact hK _ (Ext.refl _)
    case a3 =>
      intro w' hS
      simp only [takes, List.map_cons, List.map_nil, List.getD_cons_zero, List.getD_cons_succ, feed, Act.put, List.setIfInBounds_toArray, List.set_cons_zero, List.set_cons_succ]
      refine alone_val ?_
      intro K hK
      show K undef _
      exact hK _ (Ext.refl _)
    case a4 =>
      intro w' hS
      simp only [takes, List.map_cons, List.map_nil, List.getD_cons_zero, List.getD_cons_succ, feed, Act.put, List.setIfInBounds_toArray, List.set_cons_zero, List.set_cons_succ]
      refine alone_val ?_
      intro K hK
      show K undef _
      exact hK _ (Ext.refl _)
    case a5 =>
      intro w' hS
      simp only [takes, List.map_cons, List.map_nil, List.getD_cons_zero, List.getD_cons_succ, feed, Act.put, List.setIfInBounds_toArray, List.set_cons_zero, List.set_cons_succ]
      refine alone_val ?_
      intro K hK
      show K undef _
      exact hK _ (Ext.refl _)
    case a6 =>
      intro w' hS
      simp only [takes, List.map_cons, List.map_nil, List.getD_cons_zero, List.getD_cons_succ, feed, Act.put, List.setIfInBounds_toArray, List.set_cons_zero, List.set_cons_succ]
      refine alone_val ?_
      intro K hK
      show K undef _
      exact hK _ (Ext.refl _)
    case a7 =>
      intro w' hS
      simp only [takes, List.map_cons, List.map_nil, List.getD_cons_zero, List.getD_cons_succ, feed, Act.put, List.setIfInBounds_toArray, List.set_cons_zero, List.set_cons_succ]
      refine alone_val ?_
      intro K hK
      show K undef _
      exact hK _ (Ext.refl _)
    case a8 =>
      intro w' hS
      simp only [takes, List.map_cons, List.map_nil, List.getD_cons_zero, List.getD_cons_succ, feed, Act.put, List.setIfInBounds_toArray, List.set_cons_zero, List.set_cons_succ]
      refine alone_val ?_
      intro K hK
      show K undef _
      exact hK _ (Ext.refl _)
    case a9 =>
      intro w' hS
      simp only [takes, List.map_cons, List.map_nil, List.getD_cons_zero, List.getD_cons_succ, feed, Act.put, List.setIfInBounds_toArray, List.set_cons_zero, List.set_cons_succ]
      refine alone_val ?_
      intro K hK
      show K undef _
      exact hK _ (Ext.refl _)
    case a10 =>
      intro w' hS
      simp only [takes, List.map_cons, List.map_nil, List.getD_cons_zero, List.getD_cons_succ, feed, Act.put, List.setIfInBounds_toArray, List.set_cons_zero, List.set_cons_succ]
      refine alone_val ?_
      intro K hK
      show K undef _
      exact hK _ (Ext.refl _)
    case a11 =>
      intro w' hS
      simp only [takes, List.map_cons, List.map_nil, List.getD_cons_zero, List.getD_cons_succ, feed, Act.put, List.setIfInBounds_toArray, List.set_cons_zero, List.set_cons_succ]
      refine alone_val ?_
      intro K hK
      show K undef _
      exact hK _ (Ext.refl _)
    case a12 =>
      intro w' hS
      simp only [takes, List.map_cons, List.map_nil, List.getD_cons_zero, List.getD_cons_succ, feed, Act.put, List.setIfInBounds_toArray, List.set_cons_zero, List.set_cons_succ]
      refine alone_val ?_
      intro K hK
      show K undef _
      exact hK _ (Ext.refl _)
    case a13 =>
      intro w' hS
      simp only [takes, List.map_cons, List.map_nil, List.getD_cons_zero, List.getD_cons_succ, feed, Act.put, List.setIfInBounds_toArray, List.set_cons_zero, List.set_cons_succ]
      refine alone_val ?_
      intro K hK
      show K undef _
      exact hK _ (Ext.refl _)
    case a14 =>
      intro w' hS
      simp only [takes, List.map_cons, List.map_nil, List.getD_cons_zero, List.getD_cons_succ, feed, Act.put, List.setIfInBounds_toArray, List.set_cons_zero, List.set_cons_succ]
      refine alone_val ?_
      intro K hK
      show K undef _
      exact hK _ (Ext.refl _)
    case a15 =>
      intro w' hS
      simp only [takes, List.map_cons, List.map_nil, List.getD_cons_zero, List.getD_cons_succ, feed, Act.put, List.setIfInBounds_toArray, List.set_cons_zero, List.set_cons_succ]
      refine alone_val ?_
      intro K hK
      show K undef _
      exact hK _ (Ext.refl _)
    case a16 =>
      intro w' hS
      simp only [takes, List.map_cons, List.map_nil, List.getD_cons_zero, List.getD_cons_succ, feed, Act.put, List.setIfInBounds_toArray, List.set_cons_zero, List.set_cons_succ]
      refine alone_val ?_
      intro K hK
      show K undef _
      exact hK _ (Ext.refl _)
    case a17 =>
      intro w' hS
      simp only [takes, List.map_cons, List.map_nil, List.getD_cons_zero, List.getD_cons_succ, feed, Act.put, List.setIfInBounds_toArray, List.set_cons_zero, List.set_cons_succ]
      refine alone_val ?_
      intro K hK
      show K undef _
      exact hK _ (Ext.refl _)
    case a18 =>
      intro w' hS
      simp only [takes, List.map_cons, List.map_nil, List.getD_cons_zero, List.getD_cons_succ, feed, Act.put, List.setIfInBounds_toArray, List.set_cons_zero, List.set_cons_succ]
      refine alone_val ?_
      intro K hK
      show K undef _
      exact hK _ (Ext.refl _)
    case a19 =>
      intro w' hS
      simp only [takes, List.map_cons, List.map_nil, List.getD_cons_zero, List.getD_cons_succ, feed, Act.put, List.setIfInBounds_toArray, List.set_cons_zero, List.set_cons_succ]
      refine alone_val ?_
      intro K hK
      show K undef _
      exact hK _ (Ext.refl _)
    case a20 =>
      intro w' hS
      simp only [takes, List.map_cons, List.map_nil, List.getD_cons_zero, List.getD_cons_succ, feed, Act.put, List.setIfInBounds_toArray, List.set_cons_zero, List.set_cons_succ]
      refine alone_val ?_
      intro K hK
      show K undef _
      exact hK _ (Ext.refl _)
    case a21 =>
      intro w' hS
      simp only [takes, List.map_cons, List.map_nil, List.getD_cons_zero, List.getD_cons_succ, feed, Act.put, List.setIfInBounds_toArray, List.set_cons_zero, List.set_cons_succ]
      refine alone_val ?_
      intro K hK
      show K undef _
      exact hK _ (Ext.refl _)
    case a22 =>
      intro w' hS
      simp only [takes, List.map_cons, List.map_nil, List.getD_cons_zero, List.getD_cons_succ, feed, Act.put, List.setIfInBounds_toArray, List.set_cons_zero, List.set_cons_succ]
      refine alone_val ?_
      intro K hK
      show K undef _
      exact hK _ (Ext.refl _)
    case a23 =>
      intro w' hS
      simp only [takes, List.map_cons, List.map_nil, List.getD_cons_zero, List.getD_cons_succ, feed, Act.put, List.setIfInBounds_toArray, List.set_cons_zero, List.set_cons_succ]
      refine alone_val ?_
      intro K hK
      show K undef _
      exact hK _ (Ext.refl _)
    case a24 =>
      intro w' hS
      simp only [takes, List.map_cons, List.map_nil, List.getD_cons_zero, List.getD_cons_succ, feed, Act.put, List.setIfInBounds_toArray, List.set_cons_zero, List.set_cons_succ]
      refine alone_val ?_
      intro K hK
      show K undef _
      exact hK _ (Ext.refl _)
    case a25 =>
      intro w' hS
      simp only [takes, List.map_cons, List.map_nil, List.getD_cons_zero, List.getD_cons_succ, feed, Act.put, List.setIfInBounds_toArray, List.set_cons_zero, List.set_cons_succ]
      refine alone_val ?_
      intro K hK
      show Oper.wp _ _ _ _ _ _
      go_simp
      exact hK _ (Ext.refl _)
    case a26 =>
      intro w' hS
      simp only [takes, List.map_cons, List.map_nil, List.getD_cons_zero, List.getD_cons_succ, feed, Act.put, List.setIfInBounds_toArray, List.set_cons_zero, List.set_cons_succ]
      refine alone_val ?_
      intro K hK
      show Oper.wp _ _ _ _ _ _
      go_simp
      exact hK _ (Ext.refl _)
    case a27 =>
      intro w' hS
      simp only [takes, List.map_cons, List.map_nil, List.getD_cons_zero, List.getD_cons_succ, feed, Act.put, List.setIfInBounds_toArray, List.set_cons_zero, List.set_cons_succ]
      refine alone_val ?_
      intro K hK
      show K undef _
      exact hK _ (Ext.refl _)
    case a28 =>
      intro w' hS
      simp only [takes, List.map_cons, List.map_nil, List.getD_cons_zero, List.getD_cons_succ, feed, Act.put, List.setIfInBounds_toArray, List.set_cons_zero, List.set_cons_succ]
      refine alone_val ?_
      intro K hK
      show K undef _
      exact hK _ (Ext.refl _)
    case a29 =>
      intro w' hS
      simp only [takes, List.map_cons, List.map_nil, List.getD_cons_zero, List.getD_cons_succ, feed, Act.put, List.setIfInBounds_toArray, List.set_cons_zero, List.set_cons_succ]
      refine alone_val ?_
      intro K hK
      show Oper.wp _ _ _ _ _ _
      go_simp
      exact hK _ (Ext.refl _)
  case fin =>
    intro w' hS
    simp only [fills, Act.put, List.setIfInBounds_toArray, List.set_cons_zero, List.set_cons_succ]
    go_wp2
    go_ret
    exact ⟨rfl, (Ext.refl w).drew.trans hS⟩

set_option maxRecDepth 100000 in
set_option maxHeartbeats 2000000 in
theorem flyAdd_late0 (base b sz : Nat) (mx i y : Int) (q : List Fl) (w : World) (h : FlyR base w b sz mx q) (hn : q.length ≤ 1000000) (hf : isFull q.length (sumQ q) sz mx = false) (hq : q.length = 0) (hy : 1099511627776 ≤ y) :
    Calls Try.prog 19 #[.pointer (some ⟨b, 0, none⟩), .int .u64 i, .int .u64 y] w fun e w' => e = .returned (.bool false) ∧ Ext w w' := by
  have Q0 := fun w1 (he : Ext w w1) => flyFull_c base b sz mx q w1 (h.ext he) hn
  rw [hf] at Q0
  have Q := Lib.hid Q0
  clear Q0
  obtain ⟨A1, A2, cc1, cc2, h⟩ := h
  have c2 := Blk.cell h.blk 2
  simp [fyCells] at c2
  have hqI : decide ((0 : Int) < (q.length : Int)) = false := by simp [hq]
  have hqN : decide (0 < q.length) = false := by simp [hq]
  have hyb : decide (1099511627776 ≤ y) = true := decide_eq_true hy
  clear h hf hq hy
  go_enter Try.func19, Try.ntmps19
  go_wp2_with fail
  refine wp_region_grow Ext
    [.val ?r0, .val ?r1, .val ?r2, .val ?r3, .val ?r4, .val ?r5, .val ?r6, .val ?r7, .val ?r8, .val ?r9, .val ?r10, .val ?r11, .val ?r12, .val ?r13, .val ?r14, .val ?r15, .val ?r16, .val ?r17, .val ?r18, .val ?r19, .val ?r20, .val ?r21, .val ?r22, .val ?r23, .val ?r24, .val ?r25, .val ?r26, .val ?r27, .val ?r28, .val ?r29]
    [[], [(0, 7)], [(1, 8)], [(2, 9)], [(3, 10), (2, 9)], [(4, 11), (2, 9)], [(5, 12), (2, 9)], [(6, 13), (2, 9)], [(7, 14), (2, 9)], [(8, 15), (2, 9)], [(9, 16)], [(9, 16)], [(11, 18), (9, 16)], [(12, 19), (9, 16)], [(13, 20), (9, 16)], [(9, 16)], [(15, 22), (9, 16)], [(16, 23), (9, 16)], [(17, 24), (9, 16)], [(18, 25), (9, 16)], [(19, 26), (9, 16)], [(14, 21), (20, 27), (9, 16)], [(21, 28), (9, 16)], [(10, 17), (22, 29), (9, 16)], [(9, 16), (23, 30), (2, 9)], [(2, 9), (24, 31)], [(25, 32)], [(26, 33)], [(27, 34), (26, 33)], [(26, 33), (28, 35)]]
    (by kernel_rfl) Ext.refl (fun _ _ _ => Ext.trans) (by kernel_rfl) rfl ⟨trivial, trivial, trivial, trivial, trivial, trivial, trivial, trivial, trivial, trivial, trivial, trivial, trivial, trivial, trivial, trivial, trivial, trivial, trivial, trivial, trivial, trivial, trivial, trivial, trivial, trivial, trivial, trivial, trivial, trivial, trivial⟩ ?ask ?fin
  case ask =>
    refine asks_cons ?a0 (asks_cons ?a1 (asks_cons ?a2 (asks_cons ?a3 (asks_cons ?a4 (asks_cons ?a5 (asks_cons ?a6 (asks_cons ?a7 (asks_cons ?a8 (asks_cons ?a9 (asks_cons ?a10 (asks_cons ?a11 (asks_cons ?a12 (asks_cons ?a13 (asks_cons ?a14 (asks_cons ?a15 (asks_cons ?a16 (asks_cons ?a17 (asks_cons ?a18 (asks_cons ?a19 (asks_cons ?a20 (asks_cons ?a21 (asks_cons ?a22 (asks_cons ?a23 (asks_cons ?a24 (asks_cons ?a25 (asks_cons ?a26 (asks_cons ?a27 (asks_cons ?a28 (asks_cons ?a29 (trivial))))))))))))))))))))))))))))))
    case a0 =>
      intro w' hS
      simp only [takes, List.map_cons, List.map_nil, List.getD_cons_zero, List.getD_cons_succ, feed, Act.put, List.setIfInBounds_toArray, List.set_cons_zero, List.set_cons_succ]
      refine alone_val ?_
      intro K hK
      show Oper.wp _ _ _ _ _ _
      go_simp
      exact hK _ (Ext.refl _)
    case a1 =>
      intro w' hS
      simp only [takes, List.map_cons, List.map_nil, List.getD_cons_zero, List.getD_cons_succ, feed, Act.put, List.setIfInBounds_toArray, List.set_cons_zero, List.set_cons_succ]
      refine alone_val ?_
      intro K hK
      show Oper.wp _ _ _ _ _ _
      go_simp
      refine (Q.out _ ((Ext.refl w).drew.trans hS)).mono ?_
      rintro e w3 ⟨rfl, he⟩
      exact hK _ he
    case a2 =>
      intro w' hS
      simp only [takes, List.map_cons, List.map_nil, List.getD_cons_zero, List.getD_cons_succ, feed, Act.put, List.setIfInBounds_toArray, List.set_cons_zero, List.set_cons_succ]
      refine alone_val ?_
      intro K hK
      show Oper.wp _ _ _ _ _ _
      go_simp
      exact hK _ (Ext.refl _)
    case a3 =>
      intro w' hS
      simp only [takes, List.map_cons, List.map_nil, List.getD_cons_zero, List.getD_cons_succ, feed, Act.put, List.setIfInBounds_toArray, List.set_cons_zero, List.set_cons_succ]
      refine alone_val ?_
      intro K hK
      show Oper.wp _ _ _ _ _ _
      go_simp
      exact hK _ (Ext.refl _)
    case a4 =>
      intro w' hS
      simp only [takes, List.map_cons, List.map_nil, List.getD_cons_zero, List.getD_cons_succ, feed, Act.put, List.setIfInBounds_toArray, List.set_cons_zero, List.set_cons_succ]
      refine alone_val ?_
      intro K hK
      show Oper.wp _ _ _ _ _ _
      go_simp
      exact hK _ (Ext.refl _)
    case a5 =>
      intro w' hS
      simp only [takes, List.map_cons, List.map_nil, List.getD_cons_zero, List.getD_cons_succ, feed, Act.put, List.setIfInBounds_toArray, List.set_cons_zero, List.set_cons_succ]
      refine alone_val ?_
      intro K hK
      show Oper.wp _ _ _ _ _ _
      go_simp
      exact hK _ (Ext.refl _)
    case a6 =>
      intro w' hS
      simp only [takes, List.map_cons, List.map_nil, List.getD_cons_zero, List.getD_cons_succ, feed, Act.put, List.setIfInBounds_toArray, List.set_cons_zero, List.set_cons_succ]
      refine alone_val ?_
      intro K hK
      show Oper.wp _ _ _ _ _ _
      have hd := ((Ext.refl w).drew.trans hS).cellE c2
      go_simp
      exact hK _ (Ext.refl _)
    case a7 =>
      intro w' hS
      simp only [takes, List.map_cons, List.map_nil, List.getD_cons_zero, List.getD_cons_succ, feed, Act.put, List.setIfInBounds_toArray, List.set_cons_zero, List.set_cons_succ]
      refine alone_val ?_
      intro K hK
      show Oper.wp _ _ _ _ _ _
      go_simp
      exact hK _ (Ext.refl _)
    case a8 =>
      intro w' hS
      simp only [takes, List.map_cons, List.map_nil, List.getD_cons_zero, List.getD_cons_succ, feed, Act.put, List.setIfInBounds_toArray, List.set_cons_zero, List.set_cons_succ]
      refine alone_val ?_
      intro K hK
      show Oper.wp _ _ _ _ _ _
      go_simp
      exact hK _ (Ext.refl _)
    case a9 =>
      intro w' hS
      simp only [takes, List.map_cons, List.map_nil, List.getD_cons_zero, List.getD_cons_succ, feed, Act.put, List.setIfInBounds_toArray, List.set_cons_zero, List.set_cons_succ]
      refine alone_val ?_
      intro K hK
      show Oper.wp _ _ _ _ _ _
      go_simp
      exact hK _ (Ext.refl _)
    case a10 =>
      intro w' hS
      simp only [takes, List.map_cons, List.map_nil, List.getD_cons_zero, List.getD_cons_succ, feed, Act.put, List.setIfInBounds_toArray, List.set_cons_zero, List.set_cons_succ]
      refine alone_val ?_
      intro K hK
      show K undef _
      exact hK _ (Ext.refl _)
    case a11 =>
      intro w' hS
      simp only [takes, List.map_cons, List.map_nil, List.getD_cons_zero, List.getD_cons_succ, feed, Act.put, List.setIfInBounds_toArray, List.set_cons_zero, List.set_cons_succ]
      refine alone_val ?_
      intro K hK
      show K undef _
      exact hK _ (Ext.refl _)
    case a12 =>
      intro w' hS
      simp only [takes, List.map_cons, List.map_nil, List.getD_cons_zero, List.getD_cons_succ, feed, Act.put, List.setIfInBounds_toArray, List.set_cons_zero, List.set_cons_succ]
      refine alone_val ?_
      intro K hK
      show K undef _
      exact hK _ (Ext.refl _)
    case a13 =>
      intro w' hS
      simp only [takes, List.map_cons, List.map_nil, List.getD_cons_zero, List.getD_cons_succ, feed, Act.put, List.setIfInBounds_toArray, List.set_cons_zero, List.set_cons_succ]
      refine alone_val ?_
      intro K hK
      show K undef _
      exact hK _ (Ext.refl _)
    case a14 =>
      intro w' hS
      simp only [takes, List.map_cons, List.map_nil, List.getD_cons_zero, List.getD_cons_succ, feed, Act.put, List.setIfInBounds_toArray, List.set_cons_zero, List.set_cons_succ]
      refine alone_val ?_
      intro K hK
      show K undef _
      exact hK _ (Ext.refl _)
    case a15 =>
      intro w' hS
      simp only [takes, List.map_cons, List.map_nil, List.getD_cons_zero, List.getD_cons_succ, feed, Act.put, List.setIfInBounds_toArray, List.set_cons_zero, List.set_cons_succ]
      refine alone_val ?_
      intro K hK
      show K undef _
      exact hK _ (Ext.refl _)
    case a16 =>
      intro w' hS
      simp only [takes, List.map_cons, List.map_nil, List.getD_cons_zero, List.getD_cons_succ, feed, Act.put, List.setIfInBounds_toArray, List.set_cons_zero, List.set_cons_succ]
      refine alone_val ?_
      intro K hK
      show K undef _
      exact hK _ (Ext.refl _)
    case a17 =>
      intro w' hS
      simp only [takes, List.map_cons, List.map_nil, List.getD_cons_zero, List.getD_cons_succ, feed, Act.put, List.setIfInBounds_toArray, List.set_cons_zero, List.set_cons_succ]
      refine alone_val ?_
      intro K hK
      show K undef _
      exact hK _ (Ext.refl _)
    case a18 =>
      intro w' hS
      simp only [takes, List.map_cons, List.map_nil, List.getD_cons_zero, List.getD_cons_succ, feed, Act.put, List.setIfInBounds_toArray, List.set_cons_zero, List.set_cons_succ]
      refine alone_val ?_
      intro K hK
      show K undef _
      exact hK _ (Ext.refl _)
    case a19 =>
      intro w' hS
      simp only [takes, List.map_cons, List.map_nil, List.getD_cons_zero, List.getD_cons_succ, feed, Act.put, List.setIfInBounds_toArray, List.set_cons_zero, List.set_cons_succ]
      refine alone_val ?_
      intro K hK
      show K undef _
      exact hK _ (Ext.refl _)
    case a20 =>
      intro w' hS
      simp only [takes, List.map_cons, List.map_nil, List.getD_cons_zero, List.getD_cons_succ, feed, Act.put, List.setIfInBounds_toArray, List.set_cons_zero, List.set_cons_succ]
      refine alone_val ?_
      intro K hK
      show K undef _
      exact hK _ (Ext.refl _)
    case a21 =>
      intro w' hS
      simp only [takes, List.map_cons, List.map_nil, List.getD_cons_zero, List.getD_cons_succ, feed, Act.put, List.setIfInBounds_toArray, List.set_cons_zero, List.set_cons_succ]
      refine alone_val ?_
      intro K hK
      show K undef _
      exact hK _ (Ext.refl _)
    case a22 =>
      intro w' hS
      simp only [takes, List.map_cons, List.map_nil, List.getD_cons_zero, List.getD_cons_succ, feed, Act.put, List.setIfInBounds_toArray, List.set_cons_zero, List.set_cons_succ]
      refine alone_val ?_
      intro K hK
      show K undef _
      exact hK _ (Ext.refl _)
    case a23 =>
      intro w' hS
      simp only [takes, List.map_cons, List.map_nil, List.getD_cons_zero, List.getD_cons_succ, feed, Act.put, List.setIfInBounds_toArray, List.set_cons_zero, List.set_cons_succ]
      refine alone_val ?_
      intro K hK
      show K undef _
      exact hK _ (Ext.refl _)
    case a24 =>
      intro w' hS
      simp only [takes, List.map_cons, List.map_nil, List.getD_cons_zero, List.getD_cons_succ, feed, Act.put, List.setIfInBounds_toArray, List.set_cons_zero, List.set_cons_succ]
      refine alone_val ?_
      intro K hK
      show Oper.wp _ _ _ _ _ _
      go_simp
      exact hK _ (Ext.refl _)
    case a25 =>
      intro w' hS
      simp only [takes, List.map_cons, List.map_nil, List.getD_cons_zero, List.getD_cons_succ, feed, Act.put, List.setIfInBounds_toArray, List.set_cons_zero, List.set_cons_succ]
      refine alone_val ?_
      intro K hK
      show Oper.wp _ _ _ _ _ _
      go_simp
      exact hK _ (Ext.refl _)
    case a26 =>
      intro w' hS
      simp only [takes, List.map_cons, List.map_nil, List.getD_cons_zero, List.getD_cons_succ, feed, Act.put, List.setIfInBounds_toArray, List.set_cons_zero, List.set_cons_succ]
      refine alone_val ?_
      intro K hK
      show Oper.wp _ _ _ _ _ _
      go_simp
      exact hK _ (Ext.refl _)
    case a27 =>
      intro w' hS
      simp only [takes, List.map_cons, List.map_nil, List.getD_cons_zero, List.getD_cons_succ, feed, Act.put, List.setIfInBounds_toArray, List.set_cons_zero, List.set_cons_succ]
      refine alone_val ?_
      intro K hK
      show Oper.wp _ _ _ _ _ _
      go_simp
      exact hK _ (Ext.refl _)
    case a28 =>
      intro w' hS
      simp only [takes, List.map_cons, List.map_nil, List.getD_cons_zero, List.getD_cons_succ, feed, Act.put, List.setIfInBounds_toArray, List.set_cons_zero, List.set_cons_succ]
      refine alone_val ?_
      intro K hK
      show Oper.wp _ _ _ _ _ _
      go_simp
      exact hK _ (Ext.refl _)
    case a29 =>
      intro w' hS
      simp only [takes, List.map_cons, List.map_nil, List.getD_cons_zero, List.getD_cons_succ, feed, Act.put, List.setIfInBounds_toArray, List.set_cons_zero, List.set_cons_succ]
      refine alone_val ?_
      intro K hK
      show Oper.wp _ _ _ _ _ _
      go_simp
      exact hK _ (Ext.refl _)
  case fin =>
    intro w' hS
    simp only [fills, Act.put, List.setIfInBounds_toArray, List.set_cons_zero, List.set_cons_succ]
    go_wp2
    go_ret
    exact ⟨rfl, (Ext.refl w).drew.trans hS⟩

set_option maxRecDepth 100000 in
set_option maxHeartbeats 2000000 in
theorem flyAdd_low (base b sz : Nat) (mx i y : Int) (q : List Fl) (w : World) (h : FlyR base w b sz mx q) (hn : q.length ≤ 1000000) (hf : isFull q.length (sumQ q) sz mx = false) (l : Fl) (hq : 0 < q.length) (hl : q[q.length - 1]? = some l) (hi : i ≤ l.1) :
    Calls Try.prog 19 #[.pointer (some ⟨b, 0, none⟩), .int .u64 i, .int .u64 y] w fun e w' => e = .returned (.bool false) ∧ Ext w w' := by
  have Q0 := fun w1 (he : Ext w w1) => flyFull_c base b sz mx q w1 (h.ext he) hn
  rw [hf] at Q0
  have Q := Lib.hid Q0
  clear Q0
  obtain ⟨A1, A2, cc1, cc2, h⟩ := h
  have c2 := Blk.cell h.blk 2
  simp [fyCells] at c2
  have hlI := h.i.row
  have hl2 : (idxs q)[q.length - 1]? = some (.int .u64 l.1) := by simp [idxs, hl]
  obtain ⟨g, o, hA, d⟩ := hlI _ _ hl2
  subst hA
  have hqI : decide ((0 : Int) < (q.length : Int)) = true := by simp; omega
  have hqN : decide (0 < q.length) = true := by simp; omega
  have hib : decide (i ≤ l.1) = true := decide_eq_true hi
  have e0 : (q.length : Int) - 1 = ((q.length - 1 : Nat) : Int) := by omega
  have hb1 : ((q.length - 1 : Nat) : Int) < (q.length : Int) := by omega
  have hw : IntKind.i64.wrap ((q.length - 1 : Nat) : Int) = ((q.length - 1 : Nat) : Int) := IntWalk.i64_in _ (by omega)
  clear h hf hi hlI hl2 hl
  go_enter Try.func19, Try.ntmps19
  go_wp2_with fail
  refine wp_region_grow Ext
    [.val ?r0, .val ?r1, .val ?r2, .val ?r3, .val ?r4, .val ?r5, .val ?r6, .val ?r7, .val ?r8, .val ?r9, .val ?r10, .val ?r11, .val ?r12, .val ?r13, .val ?r14, .val ?r15, .val ?r16, .val ?r17, .val ?r18, .val ?r19, .val ?r20, .val ?r21, .val ?r22, .val ?r23, .val ?r24, .val ?r25, .val ?r26, .val ?r27, .val ?r28, .val ?r29]
    [[], [(0, 7)], [(1, 8)], [(2, 9)], [(3, 10), (2, 9)], [(4, 11), (2, 9)], [(5, 12), (2, 9)], [(6, 13), (2, 9)], [(7, 14), (2, 9)], [(8, 15), (2, 9)], [(9, 16)], [(9, 16)], [(11, 18), (9, 16)], [(12, 19), (9, 16)], [(13, 20), (9, 16)], [(9, 16)], [(15, 22), (9, 16)], [(16, 23), (9, 16)], [(17, 24), (9, 16)], [(18, 25), (9, 16)], [(19, 26), (9, 16)], [(14, 21), (20, 27), (9, 16)], [(21, 28), (9, 16)], [(10, 17), (22, 29), (9, 16)], [(9, 16), (23, 30), (2, 9)], [(2, 9), (24, 31)], [(25, 32)], [(26, 33)], [(27, 34), (26, 33)], [(26, 33), (28, 35)]]
    (by kernel_rfl) Ext.refl (fun _ _ _ => Ext.trans) (by kernel_rfl) rfl ⟨trivial, trivial, trivial, trivial, trivial, trivial, trivial, trivial, trivial, trivial, trivial, trivial, trivial, trivial, trivial, trivial, trivial, trivial, trivial, trivial, trivial, trivial, trivial, trivial, trivial, trivial, trivial, trivial, trivial, trivial, trivial⟩ ?ask ?fin
  case ask =>
    refine asks_cons ?a0 (asks_cons ?a1 (asks_cons ?a2 (asks_cons ?a3 (asks_cons ?a4 (asks_cons ?a5 (asks_cons ?a6 (asks_cons ?a7 (asks_cons ?a8 (asks_cons ?a9 (asks_cons ?a10 (asks_cons ?a11 (asks_cons ?a12 (asks_cons ?a13 (asks_cons ?a14 (asks_cons ?a15 (asks_cons ?a16 (asks_cons ?a17 (asks_cons ?a18 (asks_cons ?a19 (asks_cons ?a20 (asks_cons ?a21 (asks_cons ?a22 (asks_cons ?a23 (asks_cons ?a24 (asks_cons ?a25 (asks_cons ?a26 (asks_cons ?a27 (asks_cons ?a28 (asks_cons ?a29 (trivial))))))))))))))))))))))))))))))
    case a0 =>
      intro w' hS
      simp only [takes, List.map_cons, List.map_nil, List.getD_cons_zero, List.getD_cons_succ, feed, Act.put, List.setIfInBounds_toArray, List.set_cons_zero, List.set_cons_succ]
      refine alone_val ?_
      intro K hK
      show Oper.wp _ _ _ _ _ _
      go_simp
      exact hK _ (Ext.refl _)
    case a1 =>
      intro w' hS
      simp only [takes, List.map_cons, List.map_nil, List.getD_cons_zero, List.getD_cons_succ, feed, Act.put, List.setIfInBounds_toArray, List.set_cons_zero, List.set_cons_succ]
      refine alone_val ?_
      intro K hK
      show Oper.wp _ _ _ _ _ _
      go_simp
      refine (Q.out _ ((Ext.refl w).drew.trans hS)).mono ?_
      rintro e w3 ⟨rfl, he⟩
      exact hK _ he
    case a2 =>
      intro w' hS
      simp only [takes, List.map_cons, List.map_nil, List.getD_cons_zero, List.getD_cons_succ, feed, Act.put, List.setIfInBounds_toArray, List.set_cons_zero, List.set_cons_succ]
      refine alone_val ?_
      intro K hK
      show Oper.wp _ _ _ _ _ _
      go_simp
      exact hK _ (Ext.refl _)
    case a3 =>
      intro w' hS
      simp only [takes, List.map_cons, List.map_nil, List.getD_cons_zero, List.getD_cons_succ, feed, Act.put, List.setIfInBounds_toArray, List.set_cons_zero, List.set_cons_succ]
      refine alone_val ?_
      intro K hK
      show Oper.wp _ _ _ _ _ _
      go_simp
      exact hK _ (Ext.refl _)
    case a4 =>
      intro w' hS
      simp only [takes, List.map_cons, List.map_nil, List.getD_cons_zero, List.getD_cons_succ, feed, Act.put, List.setIfInBounds_toArray, List.set_cons_zero, List.set_cons_succ]
      refine alone_val ?_
      intro K hK
      show Oper.wp _ _ _ _ _ _
      go_simp
      exact hK _ (Ext.refl _)
    case a5 =>
      intro w' hS
      simp only [takes, List.map_cons, List.map_nil, List.getD_cons_zero, List.getD_cons_succ, feed, Act.put, List.setIfInBounds_toArray, List.set_cons_zero, List.set_cons_succ]
      refine alone_val ?_
      intro K hK
      show Oper.wp _ _ _ _ _ _
      go_simp
      exact hK _ (Ext.refl _)
    case a6 =>
      intro w' hS
      simp only [takes, List.map_cons, List.map_nil, List.getD_cons_zero, List.getD_cons_succ, feed, Act.put, List.setIfInBounds_toArray, List.set_cons_zero, List.set_cons_succ]
      refine alone_val ?_
      intro K hK
      show Oper.wp _ _ _ _ _ _
      have hd := ((Ext.refl w).drew.trans hS).cellE c2
      go_simp
      exact hK _ (Ext.refl _)
    case a7 =>
      intro w' hS
      simp only [takes, List.map_cons, List.map_nil, List.getD_cons_zero, List.getD_cons_succ, feed, Act.put, List.setIfInBounds_toArray, List.set_cons_zero, List.set_cons_succ]
      refine alone_val ?_
      intro K hK
      show Oper.wp _ _ _ _ _ _
      go_simp
      exact hK _ (Ext.refl _)
    case a8 =>
      intro w' hS
      simp only [takes, List.map_cons, List.map_nil, List.getD_cons_zero, List.getD_cons_succ, feed, Act.put, List.setIfInBounds_toArray, List.set_cons_zero, List.set_cons_succ]
      refine alone_val ?_
      intro K hK
      show Oper.wp _ _ _ _ _ _
      go_simp
      exact hK _ (Ext.refl _)
    case a9 =>
      intro w' hS
      simp only [takes, List.map_cons, List.map_nil, List.getD_cons_zero, List.getD_cons_succ, feed, Act.put, List.setIfInBounds_toArray, List.set_cons_zero, List.set_cons_succ]
      refine alone_val ?_
      intro K hK
      show Oper.wp _ _ _ _ _ _
      go_simp
      exact hK _ (Ext.refl _)
    case a10 =>
      intro w' hS
      simp only [takes, List.map_cons, List.map_nil, List.getD_cons_zero, List.getD_cons_succ, feed, Act.put, List.setIfInBounds_toArray, List.set_cons_zero, List.set_cons_succ]
      refine alone_val ?_
      intro K hK
      show Oper.wp _ _ _ _ _ _
      go_simp
      exact hK _ (Ext.refl _)
    case a11 =>
      intro w' hS
      simp only [takes, List.map_cons, List.map_nil, List.getD_cons_zero, List.getD_cons_succ, feed, Act.put, List.setIfInBounds_toArray, List.set_cons_zero, List.set_cons_succ]
      refine alone_val ?_
      intro K hK
      show Oper.wp _ _ _ _ _ _
      go_simp
      exact hK _ (Ext.refl _)
    case a12 =>
      intro w' hS
      simp only [takes, List.map_cons, List.map_nil, List.getD_cons_zero, List.getD_cons_succ, feed, Act.put, List.setIfInBounds_toArray, List.set_cons_zero, List.set_cons_succ]
      refine alone_val ?_
      intro K hK
      show Oper.wp _ _ _ _ _ _
      go_simp
      exact hK _ (Ext.refl _)
    case a13 =>
      intro w' hS
      simp only [takes, List.map_cons, List.map_nil, List.getD_cons_zero, List.getD_cons_succ, feed, Act.put, List.setIfInBounds_toArray, List.set_cons_zero, List.set_cons_succ]
      refine alone_val ?_
      intro K hK
      show Oper.wp _ _ _ _ _ _
      go_simp
      exact hK _ (Ext.refl _)
    case a14 =>
      intro w' hS
      simp only [takes, List.map_cons, List.map_nil, List.getD_cons_zero, List.getD_cons_succ, feed, Act.put, List.setIfInBounds_toArray, List.set_cons_zero, List.set_cons_succ]
      refine alone_val ?_
      intro K hK
      show Oper.wp _ _ _ _ _ _
      have hd := ((Ext.refl w).drew.trans hS).cellE c2
      go_simp
      exact hK _ (Ext.refl _)
    case a15 =>
      intro w' hS
      simp only [takes, List.map_cons, List.map_nil, List.getD_cons_zero, List.getD_cons_succ, feed, Act.put, List.setIfInBounds_toArray, List.set_cons_zero, List.set_cons_succ]
      refine alone_val ?_
      intro K hK
      show Oper.wp _ _ _ _ _ _
      go_simp
      exact hK _ (Ext.refl _)
    case a16 =>
      intro w' hS
      simp only [takes, List.map_cons, List.map_nil, List.getD_cons_zero, List.getD_cons_succ, feed, Act.put, List.setIfInBounds_toArray, List.set_cons_zero, List.set_cons_succ]
      refine alone_val ?_
      intro K hK
      show Oper.wp _ _ _ _ _ _
      go_simp
      exact hK _ (Ext.refl _)
    case a17 =>
      intro w' hS
      simp only [takes, List.map_cons, List.map_nil, List.getD_cons_zero, List.getD_cons_succ, feed, Act.put, List.setIfInBounds_toArray, List.set_cons_zero, List.set_cons_succ]
      refine alone_val ?_
      intro K hK
      show Oper.wp _ _ _ _ _ _
      go_simp
      exact hK _ (Ext.refl _)
    case a18 =>
      intro w' hS
      simp only [takes, List.map_cons, List.map_nil, List.getD_cons_zero, List.getD_cons_succ, feed, Act.put, List.setIfInBounds_toArray, List.set_cons_zero, List.set_cons_succ]
      refine alone_val ?_
      intro K hK
      show Oper.wp _ _ _ _ _ _
      have hd := ((Ext.refl w).drew.trans hS).cellE c2
      go_simp
      exact hK _ (Ext.refl _)
    case a19 =>
      intro w' hS
      simp only [takes, List.map_cons, List.map_nil, List.getD_cons_zero, List.getD_cons_succ, feed, Act.put, List.setIfInBounds_toArray, List.set_cons_zero, List.set_cons_succ]
      refine alone_val ?_
      intro K hK
      show Oper.wp _ _ _ _ _ _
      go_simp
      exact hK _ (Ext.refl _)
    case a20 =>
      intro w' hS
      simp only [takes, List.map_cons, List.map_nil, List.getD_cons_zero, List.getD_cons_succ, feed, Act.put, List.setIfInBounds_toArray, List.set_cons_zero, List.set_cons_succ]
      refine alone_val ?_
      intro K hK
      show Oper.wp _ _ _ _ _ _
      go_simp
      exact hK _ (Ext.refl _)
    case a21 =>
      intro w' hS
      simp only [takes, List.map_cons, List.map_nil, List.getD_cons_zero, List.getD_cons_succ, feed, Act.put, List.setIfInBounds_toArray, List.set_cons_zero, List.set_cons_succ]
      refine alone_val ?_
      intro K hK
      show Oper.wp _ _ _ _ _ _
      go_simp
      exact hK _ (Ext.refl _)
    case a22 =>
      intro w' hS
      simp only [takes, List.map_cons, List.map_nil, List.getD_cons_zero, List.getD_cons_succ, feed, Act.put, List.setIfInBounds_toArray, List.set_cons_zero, List.set_cons_succ]
      refine alone_val ?_
      intro K hK
      show Oper.wp _ _ _ _ _ _
      have hd := ((Ext.refl w).drew.trans hS).cellE d
      go_simp
      exact hK _ (Ext.refl _)
    case a23 =>
      intro w' hS
      simp only [takes, List.map_cons, List.map_nil, List.getD_cons_zero, List.getD_cons_succ, feed, Act.put, List.setIfInBounds_toArray, List.set_cons_zero, List.set_cons_succ]
      refine alone_val ?_
      intro K hK
      show Oper.wp _ _ _ _ _ _
      go_simp
      exact hK _ (Ext.refl _)
    case a24 =>
      intro w' hS
      simp only [takes, List.map_cons, List.map_nil, List.getD_cons_zero, List.getD_cons_succ, feed, Act.put, List.setIfInBounds_toArray, List.set_cons_zero, List.set_cons_succ]
      refine alone_val ?_
      intro K hK
      show Oper.wp _ _ _ _ _ _
      go_simp
      exact hK _ (Ext.refl _)
    case a25 =>
      intro w' hS
      simp only [takes, List.map_cons, List.map_nil, List.getD_cons_zero, List.getD_cons_succ, feed, Act.put, List.setIfInBounds_toArray, List.set_cons_zero, List.set_cons_succ]
      refine alone_val ?_
      intro K hK
      show Oper.wp _ _ _ _ _ _
      go_simp
      exact hK _ (Ext.refl _)
    case a26 =>
      intro w' hS
      simp only [takes, List.map_cons, List.map_nil, List.getD_cons_zero, List.getD_cons_succ, feed, Act.put, List.setIfInBounds_toArray, List.set_cons_zero, List.set_cons_succ]
      refine alone_val ?_
      intro K hK
      show Oper.wp _ _ _ _ _ _
      go_simp
      exact hK _ (Ext.refl _)
    case a27 =>
      intro w' hS
      simp only [takes, List.map_cons, List.map_nil, List.getD_cons_zero, List.getD_cons_succ, feed, Act.put, List.setIfInBounds_toArray, List.set_cons_zero, List.set_cons_succ]
      refine alone_val ?_
      intro K hK
      show K undef _
      exact hK _ (Ext.refl _)
    case a28 =>
      intro w' hS
      simp only [takes, List.map_cons, List.map_nil, List.getD_cons_zero, List.getD_cons_succ, feed, Act.put, List.setIfInBounds_toArray, List.set_cons_zero, List.set_cons_succ]
      refine alone_val ?_
      intro K hK
      show K undef _
      exact hK _ (Ext.refl _)
    case a29 =>
      intro w' hS
      simp only [takes, List.map_cons, List.map_nil, List.getD_cons_zero, List.getD_cons_succ, feed, Act.put, List.setIfInBounds_toArray, List.set_cons_zero, List.set_cons_succ]
      refine alone_val ?_
      intro K hK
      show Oper.wp _ _ _ _ _ _
      go_simp
      exact hK _ (Ext.refl _)
  case fin =>
    intro w' hS
    simp only [fills, Act.put, List.setIfInBounds_toArray, List.set_cons_zero, List.set_cons_succ]
    go_wp2
    go_ret
    exact ⟨rfl, (Ext.refl w).drew.trans hS⟩

set_option maxRecDepth 100000 in
set_option maxHeartbeats 2000000 in
theorem flyAdd_late (base b sz : Nat) (mx i y : Int) (q : List Fl) (w : World) (h : FlyR base w b sz mx q) (hn : q.length ≤ 1000000) (hf : isFull q.length (sumQ q) sz mx = false) (l : Fl) (hq : 0 < q.length) (hl : q[q.length - 1]? = some l) (hi : ¬ i ≤ l.1) (hy : 1099511627776 ≤ y) :
    Calls Try.prog 19 #[.pointer (some ⟨b, 0, none⟩), .int .u64 i, .int .u64 y] w fun e w' => e = .returned (.bool false) ∧ Ext w w' := by
  have Q0 := fun w1 (he : Ext w w1) => flyFull_c base b sz mx q w1 (h.ext he) hn
  rw [hf] at Q0
  have Q := Lib.hid Q0
  clear Q0
  obtain ⟨A1, A2, cc1, cc2, h⟩ := h
  have c2 := Blk.cell h.blk 2
  simp [fyCells] at c2
  have hlI := h.i.row
  have hl2 : (idxs q)[q.length - 1]? = some (.int .u64 l.1) := by simp [idxs, hl]
  obtain ⟨g, o, hA, d⟩ := hlI _ _ hl2
  subst hA
  have hqI : decide ((0 : Int) < (q.length : Int)) = true := by simp; omega
  have hqN : decide (0 < q.length) = true := by simp; omega
  have hib : decide (i ≤ l.1) = false := decide_eq_false hi
  have e0 : (q.length : Int) - 1 = ((q.length - 1 : Nat) : Int) := by omega
  have hb1 : ((q.length - 1 : Nat) : Int) < (q.length : Int) := by omega
  have hw : IntKind.i64.wrap ((q.length - 1 : Nat) : Int) = ((q.length - 1 : Nat) : Int) := IntWalk.i64_in _ (by omega)
  have hyb : decide (1099511627776 ≤ y) = true := decide_eq_true hy
  clear h hf hi hlI hl2 hl hy
  go_enter Try.func19, Try.ntmps19
  go_wp2_with fail
  refine wp_region_grow Ext
    [.val ?r0, .val ?r1, .val ?r2, .val ?r3, .val ?r4, .val ?r5, .val ?r6, .val ?r7, .val ?r8, .val ?r9, .val ?r10, .val ?r11, .val ?r12, .val ?r13, .val ?r14, .val ?r15, .val ?r16, .val ?r17, .val ?r18, .val ?r19, .val ?r20, .val ?r21, .val ?r22, .val ?r23, .val ?r24, .val ?r25, .val ?r26, .val ?r27, .val ?r28, .val ?r29]
    [[], [(0, 7)], [(1, 8)], [(2, 9)], [(3, 10), (2, 9)], [(4, 11), (2, 9)], [(5, 12), (2, 9)], [(6, 13), (2, 9)], [(7, 14), (2, 9)], [(8, 15), (2, 9)], [(9, 16)], [(9, 16)], [(11, 18), (9, 16)], [(12, 19), (9, 16)], [(13, 20), (9, 16)], [(9, 16)], [(15, 22), (9, 16)], [(16, 23), (9, 16)], [(17, 24), (9, 16)], [(18, 25), (9, 16)], [(19, 26), (9, 16)], [(14, 21), (20, 27), (9, 16)], [(21, 28), (9, 16)], [(10, 17), (22, 29), (9, 16)], [(9, 16), (23, 30), (2, 9)], [(2, 9), (24, 31)], [(25, 32)], [(26, 33)], [(27, 34), (26, 33)], [(26, 33), (28, 35)]]
    (by kernel_rfl) Ext.refl (fun _ _ _ => Ext.trans) (by kernel_rfl) rfl ⟨trivial, trivial, trivial, trivial, trivial, trivial, trivial, trivial, trivial, trivial, trivial, trivial, trivial, trivial, trivial, trivial, trivial, trivial, trivial, trivial, trivial, trivial, trivial, trivial, trivial, trivial, trivial, trivial, trivial, trivial, trivial⟩ ?ask ?fin
  case ask =>
    refine asks_cons ?a0 (asks_cons ?a1 (asks_cons ?a2 (asks_cons ?a3 (asks_cons ?a4 (asks_cons ?a5 (asks_cons ?a6 (asks_cons ?a7 (asks_cons ?a8 (asks_cons ?a9 (asks_cons ?a10 (asks_cons ?a11 (asks_cons ?a12 (asks_cons ?a13 (asks_cons ?a14 (asks_cons ?a15 (asks_cons ?a16 (asks_cons ?a17 (asks_cons ?a18 (asks_cons ?a19 (asks_cons ?a20 (asks_cons ?a21 (asks_cons ?a22 (asks_cons ?a23 (asks_cons ?a24 (asks_cons ?a25 (asks_cons ?a26 (asks_cons ?a27 (asks_cons ?a28 (asks_cons ?a29 (trivial))))))))))))))))))))))))))))))
    case a0 =>
      intro w' hS
      simp only [takes, List.map_cons, List.map_nil, List.getD_cons_zero, List.getD_cons_succ, feed, Act.put, List.setIfInBounds_toArray, List.set_cons_zero, List.set_cons_succ]
      refine alone_val ?_
      intro K hK
      show Oper.wp _ _ _ _ _ _
      go_simp
      exact hK _ (Ext.refl _)
    case a1 =>
      intro w' hS
      simp only [takes, List.map_cons, List.map_nil, List.getD_cons_zero, List.getD_cons_succ, feed, Act.put, List.setIfInBounds_toArray, List.set_cons_zero, List.set_cons_succ]
      refine alone_val ?_
      intro K hK
      show Oper.wp _ _ _ _ _ _
      go_simp
      refine (Q.out _ ((Ext.refl w).drew.trans hS)).mono ?_
      rintro e w3 ⟨rfl, he⟩
      exact hK _ he
    case a2 =>
      intro w' hS
      simp only [takes, List.map_cons, List.map_nil, List.getD_cons_zero, List.getD_cons_succ, feed, Act.put, List.setIfInBounds_toArray, List.set_cons_zero, List.set_cons_succ]
      refine alone_val ?_
      intro K hK
      show Oper.wp _ _ _ _ _ _
      go_simp
      exact hK _ (Ext.refl _)
    case a3 =>
      intro w' hS
      simp only [takes, List.map_cons, List.map_nil, List.getD_cons_zero, List.getD_cons_succ, feed, Act.put, List.setIfInBounds_toArray, List.set_cons_zero, List.set_cons_succ]
      refine alone_val ?_
      intro K hK
      show Oper.wp _ _ _ _ _ _
      go_simp
      exact hK _ (Ext.refl _)
    case a4 =>
      intro w' hS
      simp only [takes, List.map_cons, List.map_nil, List.getD_cons_zero, List.getD_cons_succ, feed, Act.put, List.setIfInBounds_toArray, List.set_cons_zero, List.set_cons_succ]
      refine alone_val ?_
      intro K hK
      show Oper.wp _ _ _ _ _ _
      go_simp
      exact hK _ (Ext.refl _)
    case a5 =>
      intro w' hS
      simp only [takes, List.map_cons, List.map_nil, List.getD_cons_zero, List.getD_cons_succ, feed, Act.put, List.setIfInBounds_toArray, List.set_cons_zero, List.set_cons_succ]
      refine alone_val ?_
      intro K hK
      show Oper.wp _ _ _ _ _ _
      go_simp
      exact hK _ (Ext.refl _)
    case a6 =>
      intro w' hS
      simp only [takes, List.map_cons, List.map_nil, List.getD_cons_zero, List.getD_cons_succ, feed, Act.put, List.setIfInBounds_toArray, List.set_cons_zero, List.set_cons_succ]
      refine alone_val ?_
      intro K hK
      show Oper.wp _ _ _ _ _ _
      have hd := ((Ext.refl w).drew.trans hS).cellE c2
      go_simp
      exact hK _ (Ext.refl _)
    case a7 =>
      intro w' hS
      simp only [takes, List.map_cons, List.map_nil, List.getD_cons_zero, List.getD_cons_succ, feed, Act.put, List.setIfInBounds_toArray, List.set_cons_zero, List.set_cons_succ]
      refine alone_val ?_
      intro K hK
      show Oper.wp _ _ _ _ _ _
      go_simp
      exact hK _ (Ext.refl _)
    case a8 =>
      intro w' hS
      simp only [takes, List.map_cons, List.map_nil, List.getD_cons_zero, List.getD_cons_succ, feed, Act.put, List.setIfInBounds_toArray, List.set_cons_zero, List.set_cons_succ]
      refine alone_val ?_
      intro K hK
      show Oper.wp _ _ _ _ _ _
      go_simp
      exact hK _ (Ext.refl _)
    case a9 =>
      intro w' hS
      simp only [takes, List.map_cons, List.map_nil, List.getD_cons_zero, List.getD_cons_succ, feed, Act.put, List.setIfInBounds_toArray, List.set_cons_zero, List.set_cons_succ]
      refine alone_val ?_
      intro K hK
      show Oper.wp _ _ _ _ _ _
      go_simp
      exact hK _ (Ext.refl _)
    case a10 =>
      intro w' hS
      simp only [takes, List.map_cons, List.map_nil, List.getD_cons_zero, List.getD_cons_succ, feed, Act.put, List.setIfInBounds_toArray, List.set_cons_zero, List.set_cons_succ]
      refine alone_val ?_
      intro K hK
      show Oper.wp _ _ _ _ _ _
      go_simp
      exact hK _ (Ext.refl _)
    case a11 =>
      intro w' hS
      simp only [takes, List.map_cons, List.map_nil, List.getD_cons_zero, List.getD_cons_succ, feed, Act.put, List.setIfInBounds_toArray, List.set_cons_zero, List.set_cons_succ]
      refine alone_val ?_
      intro K hK
      show Oper.wp _ _ _ _ _ _
      go_simp
      exact hK _ (Ext.refl _)
    case a12 =>
      intro w' hS
      simp only [takes, List.map_cons, List.map_nil, List.getD_cons_zero, List.getD_cons_succ, feed, Act.put, List.setIfInBounds_toArray, List.set_cons_zero, List.set_cons_succ]
      refine alone_val ?_
      intro K hK
      show Oper.wp _ _ _ _ _ _
      go_simp
      exact hK _ (Ext.refl _)
    case a13 =>
      intro w' hS
      simp only [takes, List.map_cons, List.map_nil, List.getD_cons_zero, List.getD_cons_succ, feed, Act.put, List.setIfInBounds_toArray, List.set_cons_zero, List.set_cons_succ]
      refine alone_val ?_
      intro K hK
      show Oper.wp _ _ _ _ _ _
      go_simp
      exact hK _ (Ext.refl _)
    case a14 =>
      intro w' hS
      simp only [takes, List.map_cons, List.map_nil, List.getD_cons_zero, List.getD_cons_succ, feed, Act.put, List.setIfInBounds_toArray, List.set_cons_zero, List.set_cons_succ]
      refine alone_val ?_
      intro K hK
      show Oper.wp _ _ _ _ _ _
      have hd := ((Ext.refl w).drew.trans hS).cellE c2
      go_simp
      exact hK _ (Ext.refl _)
    case a15 =>
      intro w' hS
      simp only [takes, List.map_cons, List.map_nil, List.getD_cons_zero, List.getD_cons_succ, feed, Act.put, List.setIfInBounds_toArray, List.set_cons_zero, List.set_cons_succ]
      refine alone_val ?_
      intro K hK
      show Oper.wp _ _ _ _ _ _
      go_simp
      exact hK _ (Ext.refl _)
    case a16 =>
      intro w' hS
      simp only [takes, List.map_cons, List.map_nil, List.getD_cons_zero, List.getD_cons_succ, feed, Act.put, List.setIfInBounds_toArray, List.set_cons_zero, List.set_cons_succ]
      refine alone_val ?_
      intro K hK
      show Oper.wp _ _ _ _ _ _
      go_simp
      exact hK _ (Ext.refl _)
    case a17 =>
      intro w' hS
      simp only [takes, List.map_cons, List.map_nil, List.getD_cons_zero, List.getD_cons_succ, feed, Act.put, List.setIfInBounds_toArray, List.set_cons_zero, List.set_cons_succ]
      refine alone_val ?_
      intro K hK
      show Oper.wp _ _ _ _ _ _
      go_simp
      exact hK _ (Ext.refl _)
    case a18 =>
      intro w' hS
      simp only [takes, List.map_cons, List.map_nil, List.getD_cons_zero, List.getD_cons_succ, feed, Act.put, List.setIfInBounds_toArray, List.set_cons_zero, List.set_cons_succ]
      refine alone_val ?_
      intro K hK
      show Oper.wp _ _ _ _ _ _
      have hd := ((Ext.refl w).drew.trans hS).cellE c2
      go_simp
      exact hK _ (Ext.refl _)
    case a19 =>
      intro w' hS
      simp only [takes, List.map_cons, List.map_nil, List.getD_cons_zero, List.getD_cons_succ, feed, Act.put, List.setIfInBounds_toArray, List.set_cons_zero, List.set_cons_succ]
      refine alone_val ?_
      intro K hK
      show Oper.wp _ _ _ _ _ _
      go_simp
      exact hK _ (Ext.refl _)
    case a20 =>
      intro w' hS
      simp only [takes, List.map_cons, List.map_nil, List.getD_cons_zero, List.getD_cons_succ, feed, Act.put, List.setIfInBounds_toArray, List.set_cons_zero, List.set_cons_succ]
      refine alone_val ?_
      intro K hK
      show Oper.wp _ _ _ _ _ _
      go_simp
      exact hK _ (Ext.refl _)
    case a21 =>
      intro w' hS
      simp only [takes, List.map_cons, List.map_nil, List.getD_cons_zero, List.getD_cons_succ, feed, Act.put, List.setIfInBounds_toArray, List.set_cons_zero, List.set_cons_succ]
      refine alone_val ?_
      intro K hK
      show Oper.wp _ _ _ _ _ _
      go_simp
      exact hK _ (Ext.refl _)
    case a22 =>
      intro w' hS
      simp only [takes, List.map_cons, List.map_nil, List.getD_cons_zero, List.getD_cons_succ, feed, Act.put, List.setIfInBounds_toArray, List.set_cons_zero, List.set_cons_succ]
      refine alone_val ?_
      intro K hK
      show Oper.wp _ _ _ _ _ _
      have hd := ((Ext.refl w).drew.trans hS).cellE d
      go_simp
      exact hK _ (Ext.refl _)
    case a23 =>
      intro w' hS
      simp only [takes, List.map_cons, List.map_nil, List.getD_cons_zero, List.getD_cons_succ, feed, Act.put, List.setIfInBounds_toArray, List.set_cons_zero, List.set_cons_succ]
      refine alone_val ?_
      intro K hK
      show Oper.wp _ _ _ _ _ _
      go_simp
      exact hK _ (Ext.refl _)
    case a24 =>
      intro w' hS
      simp only [takes, List.map_cons, List.map_nil, List.getD_cons_zero, List.getD_cons_succ, feed, Act.put, List.setIfInBounds_toArray, List.set_cons_zero, List.set_cons_succ]
      refine alone_val ?_
      intro K hK
      show Oper.wp _ _ _ _ _ _
      go_simp
      exact hK _ (Ext.refl _)
    case a25 =>
      intro w' hS
      simp only [takes, List.map_cons, List.map_nil, List.getD_cons_zero, List.getD_cons_succ, feed, Act.put, List.setIfInBounds_toArray, List.set_cons_zero, List.set_cons_succ]
      refine alone_val ?_
      intro K hK
      show Oper.wp _ _ _ _ _ _
      go_simp
      exact hK _ (Ext.refl _)
    case a26 =>
      intro w' hS
      simp only [takes, List.map_cons, List.map_nil, List.getD_cons_zero, List.getD_cons_succ, feed, Act.put, List.setIfInBounds_toArray, List.set_cons_zero, List.set_cons_succ]
      refine alone_val ?_
      intro K hK
      show Oper.wp _ _ _ _ _ _
      go_simp
      exact hK _ (Ext.refl _)
    case a27 =>
      intro w' hS
      simp only [takes, List.map_cons, List.map_nil, List.getD_cons_zero, List.getD_cons_succ, feed, Act.put, List.setIfInBounds_toArray, List.set_cons_zero, List.set_cons_succ]
      refine alone_val ?_
      intro K hK
      show Oper.wp _ _ _ _ _ _
      go_simp
      exact hK _ (Ext.refl _)
    case a28 =>
      intro w' hS
      simp only [takes, List.map_cons, List.map_nil, List.getD_cons_zero, List.getD_cons_succ, feed, Act.put, List.setIfInBounds_toArray, List.set_cons_zero, List.set_cons_succ]
      refine alone_val ?_
      intro K hK
      show Oper.wp _ _ _ _ _ _
      go_simp
      exact hK _ (Ext.refl _)
    case a29 =>
      intro w' hS
      simp only [takes, List.map_cons, List.map_nil, List.getD_cons_zero, List.getD_cons_succ, feed, Act.put, List.setIfInBounds_toArray, List.set_cons_zero, List.set_cons_succ]
      refine alone_val ?_
      intro K hK
      show Oper.wp _ _ _ _ _ _
      go_simp
      exact hK _ (Ext.refl _)
  case fin =>
    intro w' hS
    simp only [fills, Act.put, List.setIfInBounds_toArray, List.set_cons_zero, List.set_cons_succ]
    go_wp2
    go_ret
    exact ⟨rfl, (Ext.refl w).drew.trans hS⟩

def v1of (A : Option Addr) (n c : Nat) : Value := .slice A n c
/-- Behind the first append and its store. -/
theorem fly_mid {base b sz : Nat} {mx i : Int} {q : List Fl} {A1 A2 A1' : Option Addr} {c1 c2 c1' : Nat} {w' w2 : World} (hV : FlyV base w' b sz mx q A1 A2 c1 c2) (hC : Chg (fun j => A1.map (·.block) = some j) w' w2) :
    Blk w2 b 31 (fyCells sz mx (.slice A1 q.length c1) (.slice A2 q.length c2)) ∧ ∀ v1 : Value, Hid (WinR (w2.setCell ⟨b, 2, none⟩ v1) base 22 1 (.slice A2 q.length c2) q.length (byts q)) ∧
      Blk (w2.setCell ⟨b, 2, none⟩ v1) b 31 (fyCells sz mx v1 (.slice A2 q.length c2)) ∧ base ≤ (w2.setCell ⟨b, 2, none⟩ v1).heap.size := by
  have hob : ∀ (A : Option Addr) (n c : Nat), (Value.slice A n c).ownBlock = A.map (·.block) := by
    intro A n c
    cases A <;> rfl
  have b2 : Blk w2 b 31 (fyCells sz mx (.slice A1 q.length c1) (.slice A2 q.length c2)) := hV.blk.chg hC (fun hk => hV.i.ne hV.blk (by decide) b (by rw [hob]; exact hk) rfl)
  refine ⟨b2, fun v1 => ?_⟩
  have b3 := b2.set_ 2 v1
  refine ⟨?_, by simpa [fyCells] using b3, by have := b3.lt; have := hV.base; omega⟩
  refine (hV.y.chg hC (fun k hk hk1 => hV.ne k hk1 (by rw [← hk, hob]))).chg (chg_setCell w2 ⟨b, 2, none⟩ v1) (fun k hk => ?_)
  exact hV.y.ne hV.blk (by decide) k hk
/-- The end of Add. -/
theorem fly_end {base b sz : Nat} {mx i y : Int} {q : List Fl} {A1 A2 A1' A2' : Option Addr} {c1 c2 c1' c2' : Nat} {w' w2 w4 : World} (hV : FlyV base w' b sz mx q A1 A2 c1 c2) (hC : Chg (fun j => A1.map (·.block) = some j) w' w2)
    (h1 : WinR w2 base 22 1 (.slice A1' (q.length + 1) c1') (q.length + 1) (idxs q ++ [.int .u64 i])) (hb1 : A1'.map (·.block) = A1.map (·.block) ∨ A1'.map (·.block) = some (w'.heap.size + 1))
    (hC2 : Chg (fun j => A2.map (·.block) = some j) (w2.setCell ⟨b, 2, none⟩ (.slice A1' (q.length + 1) c1')) w4)
    (h2 : WinR w4 base 22 1 (.slice A2' (q.length + 1) c2') (q.length + 1) (byts q ++ [.int .u64 y])) (hb2 : A2'.map (·.block) = A2.map (·.block) ∨ A2'.map (·.block) = some (w2.heap.size + 1)) :
    FlyR base (w4.setCell ⟨b, 3, none⟩ (.slice A2' (q.length + 1) c2')) b sz mx (q ++ [(i, y)]) := by
  have hob : ∀ (A : Option Addr) (n c : Nat), (Value.slice A n c).ownBlock = A.map (·.block) := by
    intro A n c
    cases A <;> rfl
  obtain ⟨b2, hm⟩ := fly_mid (A1' := A1') (c1' := c1') (i := i) hV hC
  obtain ⟨hY, b3, hba⟩ := hm (.slice A1' (q.length + 1) c1')
  have b4 := b3.chg hC2 (fun hk => hY.ne b3 (by decide) b (by rw [hob]; exact hk) rfl)
  have b5 := b4.set_ 3 (.slice A2' (q.length + 1) c2')
  have hA1 := fun k hk => hV.i.lt k (by rw [hob]; exact hk)
  have hA2 := fun k hk => hV.y.lt k (by rw [hob]; exact hk)
  have hA1' := fun k hk => h1.lt k (by rw [hob]; exact hk)
  have hn12 : ∀ k, A1'.map (·.block) = some k → ¬ A2.map (·.block) = some k := by
    intro k hk hk2
    rcases hb1 with h | h
    · rw [h] at hk
      exact hV.ne k hk hk2
    · rw [h] at hk
      have := (hA2 k hk2).2
      injection hk with hk
      omega
  have hlen : (q ++ [(i, y)]).length = q.length + 1 := by simp
  have hi : idxs (q ++ [(i, y)]) = idxs q ++ [.int .u64 i] := by simp [idxs]
  have hy : byts (q ++ [(i, y)]) = byts q ++ [.int .u64 y] := by simp [byts]
  refine ⟨A1', A2', c1', c2', ?_, ?_, ?_, ?_, hV.base⟩
  · rw [hlen]
    simpa [fyCells] using b5
  · rw [hlen, hi]
    refine ((h1.chg (chg_setCell w2 ⟨b, 2, none⟩ (.slice A1' (q.length + 1) c1')) (fun k hk => h1.ne b2 (by decide) k hk)).chg hC2 (fun k hk => hn12 k (by rw [← hk, hob]))).chg (chg_setCell w4 ⟨b, 3, none⟩ (.slice A2' (q.length + 1) c2')) (fun k hk => h1.ne b2 (by decide) k hk)
  · rw [hlen, hy]
    exact h2.chg (chg_setCell w4 ⟨b, 3, none⟩ (.slice A2' (q.length + 1) c2')) (fun k hk => h2.ne b4 (by decide) k hk)
  · intro k hk hk2
    rcases hb2 with h | h
    · rw [h] at hk2
      exact hn12 k hk hk2
    · rw [h] at hk2
      have := (hA1' k hk).2
      injection hk2 with hk2
      omega

theorem size_setCell (w : World) (p : Addr) (v : Value) : (w.setCell p v).heap.size = w.heap.size := by simp
theorem ownb (A : Option Addr) (n c : Nat) : (Value.slice A n c).ownBlock = A.map (·.block) := by cases A <;> rfl

set_option maxRecDepth 100000 in
set_option maxHeartbeats 2000000 in
theorem flyAdd_first (base b sz : Nat) (mx i y : Int) (q : List Fl) (w : World) (h : FlyR base w b sz mx q) (hn : q.length ≤ 1000000) (hf : isFull q.length (sumQ q) sz mx = false) (hq : q.length = 0) (hy : ¬ 1099511627776 ≤ y) :
    Calls Try.prog 19 #[.pointer (some ⟨b, 0, none⟩), .int .u64 i, .int .u64 y] w fun e w' => e = .returned (.bool true) ∧ FlyR base w' b sz mx (q ++ [(i, y)]) ∧ Chg0 base w w' := by
  have Q0 := fun w1 (he : Ext w w1) => flyFull_c base b sz mx q w1 (h.ext he) hn
  rw [hf] at Q0
  have Q := Lib.hid Q0
  clear Q0
  obtain ⟨A1, A2, cc1, cc2, h⟩ := h
  have c2 := Blk.cell h.blk 2
  simp [fyCells] at c2
  have hqI : decide ((0 : Int) < (q.length : Int)) = false := by simp [hq]
  have hqN : decide (0 < q.length) = false := by simp [hq]
  have hyb : decide (1099511627776 ≤ y) = false := decide_eq_false hy
  have hV := Lib.hid h
  clear h hf hq hy
  go_enter Try.func19, Try.ntmps19
  go_wp2_with fail
  refine wp_region_grow Ext
    [.val ?r0, .val ?r1, .val ?r2, .val ?r3, .val ?r4, .val ?r5, .val ?r6, .val ?r7, .val ?r8, .val ?r9, .val ?r10, .val ?r11, .val ?r12, .val ?r13, .val ?r14, .val ?r15, .val ?r16, .val ?r17, .val ?r18, .val ?r19, .val ?r20, .val ?r21, .val ?r22, .val ?r23, .val ?r24, .val ?r25, .val ?r26, .val ?r27, .val ?r28, .val ?r29]
    [[], [(0, 7)], [(1, 8)], [(2, 9)], [(3, 10), (2, 9)], [(4, 11), (2, 9)], [(5, 12), (2, 9)], [(6, 13), (2, 9)], [(7, 14), (2, 9)], [(8, 15), (2, 9)], [(9, 16)], [(9, 16)], [(11, 18), (9, 16)], [(12, 19), (9, 16)], [(13, 20), (9, 16)], [(9, 16)], [(15, 22), (9, 16)], [(16, 23), (9, 16)], [(17, 24), (9, 16)], [(18, 25), (9, 16)], [(19, 26), (9, 16)], [(14, 21), (20, 27), (9, 16)], [(21, 28), (9, 16)], [(10, 17), (22, 29), (9, 16)], [(9, 16), (23, 30), (2, 9)], [(2, 9), (24, 31)], [(25, 32)], [(26, 33)], [(27, 34), (26, 33)], [(26, 33), (28, 35)]]
    (by kernel_rfl) Ext.refl (fun _ _ _ => Ext.trans) (by kernel_rfl) rfl ⟨trivial, trivial, trivial, trivial, trivial, trivial, trivial, trivial, trivial, trivial, trivial, trivial, trivial, trivial, trivial, trivial, trivial, trivial, trivial, trivial, trivial, trivial, trivial, trivial, trivial, trivial, trivial, trivial, trivial, trivial, trivial⟩ ?ask ?fin
  case ask =>
    refine asks_cons ?a0 (asks_cons ?a1 (asks_cons ?a2 (asks_cons ?a3 (asks_cons ?a4 (asks_cons ?a5 (asks_cons ?a6 (asks_cons ?a7 (asks_cons ?a8 (asks_cons ?a9 (asks_cons ?a10 (asks_cons ?a11 (asks_cons ?a12 (asks_cons ?a13 (asks_cons ?a14 (asks_cons ?a15 (asks_cons ?a16 (asks_cons ?a17 (asks_cons ?a18 (asks_cons ?a19 (asks_cons ?a20 (asks_cons ?a21 (asks_cons ?a22 (asks_cons ?a23 (asks_cons ?a24 (asks_cons ?a25 (asks_cons ?a26 (asks_cons ?a27 (asks_cons ?a28 (asks_cons ?a29 (trivial))))))))))))))))))))))))))))))
    case a0 =>
      intro w' hS
      simp only [takes, List.map_cons, List.map_nil, List.getD_cons_zero, List.getD_cons_succ, feed, Act.put, List.setIfInBounds_toArray, List.set_cons_zero, List.set_cons_succ]
      refine alone_val ?_
      intro K hK
      show Oper.wp _ _ _ _ _ _
      go_simp
      exact hK _ (Ext.refl _)
    case a1 =>
      intro w' hS
      simp only [takes, List.map_cons, List.map_nil, List.getD_cons_zero, List.getD_cons_succ, feed, Act.put, List.setIfInBounds_toArray, List.set_cons_zero, List.set_cons_succ]
      refine alone_val ?_
      intro K hK
      show Oper.wp _ _ _ _ _ _
      go_simp
      refine (Q.out _ ((Ext.refl w).drew.trans hS)).mono ?_
      rintro e w3 ⟨rfl, he⟩
      exact hK _ he
    case a2 =>
      intro w' hS
      simp only [takes, List.map_cons, List.map_nil, List.getD_cons_zero, List.getD_cons_succ, feed, Act.put, List.setIfInBounds_toArray, List.set_cons_zero, List.set_cons_succ]
      refine alone_val ?_
      intro K hK
      show Oper.wp _ _ _ _ _ _
      go_simp
      exact hK _ (Ext.refl _)
    case a3 =>
      intro w' hS
      simp only [takes, List.map_cons, List.map_nil, List.getD_cons_zero, List.getD_cons_succ, feed, Act.put, List.setIfInBounds_toArray, List.set_cons_zero, List.set_cons_succ]
      refine alone_val ?_
      intro K hK
      show Oper.wp _ _ _ _ _ _
      go_simp
      exact hK _ (Ext.refl _)
    case a4 =>
      intro w' hS
      simp only [takes, List.map_cons, List.map_nil, List.getD_cons_zero, List.getD_cons_succ, feed, Act.put, List.setIfInBounds_toArray, List.set_cons_zero, List.set_cons_succ]
      refine alone_val ?_
      intro K hK
      show Oper.wp _ _ _ _ _ _
      go_simp
      exact hK _ (Ext.refl _)
    case a5 =>
      intro w' hS
      simp only [takes, List.map_cons, List.map_nil, List.getD_cons_zero, List.getD_cons_succ, feed, Act.put, List.setIfInBounds_toArray, List.set_cons_zero, List.set_cons_succ]
      refine alone_val ?_
      intro K hK
      show Oper.wp _ _ _ _ _ _
      go_simp
      exact hK _ (Ext.refl _)
    case a6 =>
      intro w' hS
      simp only [takes, List.map_cons, List.map_nil, List.getD_cons_zero, List.getD_cons_succ, feed, Act.put, List.setIfInBounds_toArray, List.set_cons_zero, List.set_cons_succ]
      refine alone_val ?_
      intro K hK
      show Oper.wp _ _ _ _ _ _
      have hd := ((Ext.refl w).drew.trans hS).cellE c2
      go_simp
      exact hK _ (Ext.refl _)
    case a7 =>
      intro w' hS
      simp only [takes, List.map_cons, List.map_nil, List.getD_cons_zero, List.getD_cons_succ, feed, Act.put, List.setIfInBounds_toArray, List.set_cons_zero, List.set_cons_succ]
      refine alone_val ?_
      intro K hK
      show Oper.wp _ _ _ _ _ _
      go_simp
      exact hK _ (Ext.refl _)
    case a8 =>
      intro w' hS
      simp only [takes, List.map_cons, List.map_nil, List.getD_cons_zero, List.getD_cons_succ, feed, Act.put, List.setIfInBounds_toArray, List.set_cons_zero, List.set_cons_succ]
      refine alone_val ?_
      intro K hK
      show Oper.wp _ _ _ _ _ _
      go_simp
      exact hK _ (Ext.refl _)
    case a9 =>
      intro w' hS
      simp only [takes, List.map_cons, List.map_nil, List.getD_cons_zero, List.getD_cons_succ, feed, Act.put, List.setIfInBounds_toArray, List.set_cons_zero, List.set_cons_succ]
      refine alone_val ?_
      intro K hK
      show Oper.wp _ _ _ _ _ _
      go_simp
      exact hK _ (Ext.refl _)
    case a10 =>
      intro w' hS
      simp only [takes, List.map_cons, List.map_nil, List.getD_cons_zero, List.getD_cons_succ, feed, Act.put, List.setIfInBounds_toArray, List.set_cons_zero, List.set_cons_succ]
      refine alone_val ?_
      intro K hK
      show K undef _
      exact hK _ (Ext.refl _)
    case a11 =>
      intro w' hS
      simp only [takes, List.map_cons, List.map_nil, List.getD_cons_zero, List.getD_cons_succ, feed, Act.put, List.setIfInBounds_toArray, List.set_cons_zero, List.set_cons_succ]
      refine alone_val ?_
      intro K hK
      show K undef _
      exact hK _ (Ext.refl _)
    case a12 =>
      intro w' hS
      simp only [takes, List.map_cons, List.map_nil, List.getD_cons_zero, List.getD_cons_succ, feed, Act.put, List.setIfInBounds_toArray, List.set_cons_zero, List.set_cons_succ]
      refine alone_val ?_
      intro K hK
      show K undef _
      exact hK _ (Ext.refl _)
    case a13 =>
      intro w' hS
      simp only [takes, List.map_cons, List.map_nil, List.getD_cons_zero, List.getD_cons_succ, feed, Act.put, List.setIfInBounds_toArray, List.set_cons_zero, List.set_cons_succ]
      refine alone_val ?_
      intro K hK
      show K undef _
      exact hK _ (Ext.refl _)
    case a14 =>
      intro w' hS
      simp only [takes, List.map_cons, List.map_nil, List.getD_cons_zero, List.getD_cons_succ, feed, Act.put, List.setIfInBounds_toArray, List.set_cons_zero, List.set_cons_succ]
      refine alone_val ?_
      intro K hK
      show K undef _
      exact hK _ (Ext.refl _)
    case a15 =>
      intro w' hS
      simp only [takes, List.map_cons, List.map_nil, List.getD_cons_zero, List.getD_cons_succ, feed, Act.put, List.setIfInBounds_toArray, List.set_cons_zero, List.set_cons_succ]
      refine alone_val ?_
      intro K hK
      show K undef _
      exact hK _ (Ext.refl _)
    case a16 =>
      intro w' hS
      simp only [takes, List.map_cons, List.map_nil, List.getD_cons_zero, List.getD_cons_succ, feed, Act.put, List.setIfInBounds_toArray, List.set_cons_zero, List.set_cons_succ]
      refine alone_val ?_
      intro K hK
      show K undef _
      exact hK _ (Ext.refl _)
    case a17 =>
      intro w' hS
      simp only [takes, List.map_cons, List.map_nil, List.getD_cons_zero, List.getD_cons_succ, feed, Act.put, List.setIfInBounds_toArray, List.set_cons_zero, List.set_cons_succ]
      refine alone_val ?_
      intro K hK
      show K undef _
      exact hK _ (Ext.refl _)
    case a18 =>
      intro w' hS
      simp only [takes, List.map_cons, List.map_nil, List.getD_cons_zero, List.getD_cons_succ, feed, Act.put, List.setIfInBounds_toArray, List.set_cons_zero, List.set_cons_succ]
      refine alone_val ?_
      intro K hK
      show K undef _
      exact hK _ (Ext.refl _)
    case a19 =>
      intro w' hS
      simp only [takes, List.map_cons, List.map_nil, List.getD_cons_zero, List.getD_cons_succ, feed, Act.put, List.setIfInBounds_toArray, List.set_cons_zero, List.set_cons_succ]
      refine alone_val ?_
      intro K hK
      show K undef _
      exact hK _ (Ext.refl _)
    case a20 =>
      intro w' hS
      simp only [takes, List.map_cons, List.map_nil, List.getD_cons_zero, List.getD_cons_succ, feed, Act.put, List.setIfInBounds_toArray, List.set_cons_zero, List.set_cons_succ]
      refine alone_val ?_
      intro K hK
      show K undef _
      exact hK _ (Ext.refl _)
    case a21 =>
      intro w' hS
      simp only [takes, List.map_cons, List.map_nil, List.getD_cons_zero, List.getD_cons_succ, feed, Act.put, List.setIfInBounds_toArray, List.set_cons_zero, List.set_cons_succ]
      refine alone_val ?_
      intro K hK
      show K undef _
      exact hK _ (Ext.refl _)
    case a22 =>
      intro w' hS
      simp only [takes, List.map_cons, List.map_nil, List.getD_cons_zero, List.getD_cons_succ, feed, Act.put, List.setIfInBounds_toArray, List.set_cons_zero, List.set_cons_succ]
      refine alone_val ?_
      intro K hK
      show K undef _
      exact hK _ (Ext.refl _)
    case a23 =>
      intro w' hS
      simp only [takes, List.map_cons, List.map_nil, List.getD_cons_zero, List.getD_cons_succ, feed, Act.put, List.setIfInBounds_toArray, List.set_cons_zero, List.set_cons_succ]
      refine alone_val ?_
      intro K hK
      show K undef _
      exact hK _ (Ext.refl _)
    case a24 =>
      intro w' hS
      simp only [takes, List.map_cons, List.map_nil, List.getD_cons_zero, List.getD_cons_succ, feed, Act.put, List.setIfInBounds_toArray, List.set_cons_zero, List.set_cons_succ]
      refine alone_val ?_
      intro K hK
      show Oper.wp _ _ _ _ _ _
      go_simp
      exact hK _ (Ext.refl _)
    case a25 =>
      intro w' hS
      simp only [takes, List.map_cons, List.map_nil, List.getD_cons_zero, List.getD_cons_succ, feed, Act.put, List.setIfInBounds_toArray, List.set_cons_zero, List.set_cons_succ]
      refine alone_val ?_
      intro K hK
      show Oper.wp _ _ _ _ _ _
      go_simp
      exact hK _ (Ext.refl _)
    case a26 =>
      intro w' hS
      simp only [takes, List.map_cons, List.map_nil, List.getD_cons_zero, List.getD_cons_succ, feed, Act.put, List.setIfInBounds_toArray, List.set_cons_zero, List.set_cons_succ]
      refine alone_val ?_
      intro K hK
      show Oper.wp _ _ _ _ _ _
      go_simp
      exact hK _ (Ext.refl _)
    case a27 =>
      intro w' hS
      simp only [takes, List.map_cons, List.map_nil, List.getD_cons_zero, List.getD_cons_succ, feed, Act.put, List.setIfInBounds_toArray, List.set_cons_zero, List.set_cons_succ]
      refine alone_val ?_
      intro K hK
      show Oper.wp _ _ _ _ _ _
      go_simp
      exact hK _ (Ext.refl _)
    case a28 =>
      intro w' hS
      simp only [takes, List.map_cons, List.map_nil, List.getD_cons_zero, List.getD_cons_succ, feed, Act.put, List.setIfInBounds_toArray, List.set_cons_zero, List.set_cons_succ]
      refine alone_val ?_
      intro K hK
      show Oper.wp _ _ _ _ _ _
      go_simp
      exact hK _ (Ext.refl _)
    case a29 =>
      intro w' hS
      simp only [takes, List.map_cons, List.map_nil, List.getD_cons_zero, List.getD_cons_succ, feed, Act.put, List.setIfInBounds_toArray, List.set_cons_zero, List.set_cons_succ]
      refine alone_val ?_
      intro K hK
      show Oper.wp _ _ _ _ _ _
      go_simp
      exact hK _ (Ext.refl _)
  case fin =>
    intro w' hS
    simp only [fills, Act.put, List.setIfInBounds_toArray, List.set_cons_zero, List.set_cons_succ]
    have hV' := Lib.hid (hV.out.ext ((Ext.refl w).drew.trans hS))
    have d2 := hV'.out.blk.cell 2
    simp [fyCells] at d2
    have hbase : base ≤ w'.heap.size := by
      have := hV'.out.blk.lt
      have := hV'.out.base
      omega
    go_wp2_with (first
      | (at_builtin; refine wpList_append_win (w2.setCell ⟨b, 2, none⟩ (.slice A1' (q.length + 1) c1')) rfl _ _ _ rfl base 22 (.int .u64 0) 1 8 Try.underlying29 info_u64 rfl (by omega) (by omega) A2 q.length cc2 _ rfl #[.int .u64 y] rfl rfl (by rw [size_setCell]; rfl) (hM.out.2 _).1 (by omega) (hM.out.2 _).2.2 ?_; intro A2' c2' w4 hW2 hE2 hC2 hb2; have hW2' := Lib.hid hW2; have hC2' := Lib.hid hC2; have hb2' := Lib.hid hb2; have hE2' := Lib.hid hE2; have k3 := ((hM.out.2 (.slice A1' (q.length + 1) c1')).2.1.chg hC2 (fun hk => (hM.out.2 (.slice A1' (q.length + 1) c1')).1.ne (hM.out.2 (.slice A1' (q.length + 1) c1')).2.1 (by decide) b (by rw [ownb]; exact hk) rfl)).cell 3; have z3 := ((hM.out.2 (.slice A1' (q.length + 1) c1')).2.1.chg hC2 (fun hk => (hM.out.2 (.slice A1' (q.length + 1) c1')).1.ne (hM.out.2 (.slice A1' (q.length + 1) c1')).2.1 (by decide) b (by rw [ownb]; exact hk) rfl)).thaw 3; simp [fyCells] at k3; clear hW2 hC2 hb2 hE2)
      | (at_builtin; refine wpList_append_win w' rfl _ _ _ rfl base 22 (.int .u64 0) 1 8 Try.underlying29 info_u64 rfl (by omega) (by omega) A1 q.length cc1 _ rfl #[.int .u64 i] rfl rfl rfl hV'.out.i (by omega) hbase ?_; intro A1' c1' w2 hW1 hE1 hC1 hb1; have hW1' := Lib.hid hW1; have hC1' := Lib.hid hC1; have hb1' := Lib.hid hb1; have hE1' := Lib.hid hE1; have hM := Lib.hid (fly_mid (i := i) (A1' := A1') (c1' := c1') hV'.out hC1); have k2 := hM.out.1.cell 2; have k3 := hM.out.1.cell 3; have z2 := hM.out.1.thaw 2; simp [fyCells] at k2 k3; clear hW1 hC1 hb1 hE1))
    go_ret
    have hb := hV'.out.base
    have hE := (((Chg0.ext ((Ext.refl w).drew.trans hS)).trans (Chg0.win hV'.out.i hC1'.out hE1'.out)).trans ((Chg0.blk hM.out.1 hb (chg_setCell w2 ⟨b, 2, none⟩ (.slice A1' (q.length + 1) c1'))).trans (Chg0.win (hM.out.2 _).1 hC2'.out hE2'.out))).trans (Chg0.blk ((hM.out.2 (.slice A1' (q.length + 1) c1')).2.1.chg hC2'.out (fun hk => (hM.out.2 (.slice A1' (q.length + 1) c1')).1.ne (hM.out.2 (.slice A1' (q.length + 1) c1')).2.1 (by decide) b (by rw [ownb]; exact hk) rfl)) hb (chg_setCell w4 ⟨b, 3, none⟩ (.slice A2' (q.length + 1) c2')))
    exact ⟨rfl, fly_end hV'.out hC1'.out hW1'.out hb1'.out hC2'.out hW2'.out (by have := hb2'.out; rw [size_setCell] at this; exact this), hE⟩

set_option maxRecDepth 100000 in
set_option maxHeartbeats 2000000 in
theorem flyAdd_next (base b sz : Nat) (mx i y : Int) (q : List Fl) (w : World) (h : FlyR base w b sz mx q) (hn : q.length ≤ 1000000) (hf : isFull q.length (sumQ q) sz mx = false) (l : Fl) (hq : 0 < q.length) (hl : q[q.length - 1]? = some l) (hi : ¬ i ≤ l.1) (hy : ¬ 1099511627776 ≤ y) :
    Calls Try.prog 19 #[.pointer (some ⟨b, 0, none⟩), .int .u64 i, .int .u64 y] w fun e w' => e = .returned (.bool true) ∧ FlyR base w' b sz mx (q ++ [(i, y)]) ∧ Chg0 base w w' := by
  have Q0 := fun w1 (he : Ext w w1) => flyFull_c base b sz mx q w1 (h.ext he) hn
  rw [hf] at Q0
  have Q := Lib.hid Q0
  clear Q0
  obtain ⟨A1, A2, cc1, cc2, h⟩ := h
  have c2 := Blk.cell h.blk 2
  simp [fyCells] at c2
  have hlI := h.i.row
  have hl2 : (idxs q)[q.length - 1]? = some (.int .u64 l.1) := by simp [idxs, hl]
  obtain ⟨g, o, hA, d⟩ := hlI _ _ hl2
  subst hA
  have hV := Lib.hid h
  have hqI : decide ((0 : Int) < (q.length : Int)) = true := by simp; omega
  have hqN : decide (0 < q.length) = true := by simp; omega
  have hib : decide (i ≤ l.1) = false := decide_eq_false hi
  have e0 : (q.length : Int) - 1 = ((q.length - 1 : Nat) : Int) := by omega
  have hb1 : ((q.length - 1 : Nat) : Int) < (q.length : Int) := by omega
  have hw : IntKind.i64.wrap ((q.length - 1 : Nat) : Int) = ((q.length - 1 : Nat) : Int) := IntWalk.i64_in _ (by omega)
  have hyb : decide (1099511627776 ≤ y) = false := decide_eq_false hy
  clear h hf hi hlI hl2 hl hy
  go_enter Try.func19, Try.ntmps19
  go_wp2_with fail
  refine wp_region_grow Ext
    [.val ?r0, .val ?r1, .val ?r2, .val ?r3, .val ?r4, .val ?r5, .val ?r6, .val ?r7, .val ?r8, .val ?r9, .val ?r10, .val ?r11, .val ?r12, .val ?r13, .val ?r14, .val ?r15, .val ?r16, .val ?r17, .val ?r18, .val ?r19, .val ?r20, .val ?r21, .val ?r22, .val ?r23, .val ?r24, .val ?r25, .val ?r26, .val ?r27, .val ?r28, .val ?r29]
    [[], [(0, 7)], [(1, 8)], [(2, 9)], [(3, 10), (2, 9)], [(4, 11), (2, 9)], [(5, 12), (2, 9)], [(6, 13), (2, 9)], [(7, 14), (2, 9)], [(8, 15), (2, 9)], [(9, 16)], [(9, 16)], [(11, 18), (9, 16)], [(12, 19), (9, 16)], [(13, 20), (9, 16)], [(9, 16)], [(15, 22), (9, 16)], [(16, 23), (9, 16)], [(17, 24), (9, 16)], [(18, 25), (9, 16)], [(19, 26), (9, 16)], [(14, 21), (20, 27), (9, 16)], [(21, 28), (9, 16)], [(10, 17), (22, 29), (9, 16)], [(9, 16), (23, 30), (2, 9)], [(2, 9), (24, 31)], [(25, 32)], [(26, 33)], [(27, 34), (26, 33)], [(26, 33), (28, 35)]]
    (by kernel_rfl) Ext.refl (fun _ _ _ => Ext.trans) (by kernel_rfl) rfl ⟨trivial, trivial, trivial, trivial, trivial, trivial, trivial, trivial, trivial, trivial, trivial, trivial, trivial, trivial, trivial, trivial, trivial, trivial, trivial, trivial, trivial, trivial, trivial, trivial, trivial, trivial, trivial, trivial, trivial, trivial, trivial⟩ ?ask ?fin
  case ask =>
    refine asks_cons ?a0 (asks_cons ?a1 (asks_cons ?a2 (asks_cons ?a3 (asks_cons ?a4 (asks_cons ?a5 (asks_cons ?a6 (asks_cons ?a7 (asks_cons ?a8 (asks_cons ?a9 (asks_cons ?a10 (asks_cons ?a11 (asks_cons ?a12 (asks_cons ?a13 (asks_cons ?a14 (asks_cons ?a15 (asks_cons ?a16 (asks_cons ?a17 (asks_cons ?a18 (asks_cons ?a19 (asks_cons ?a20 (asks_cons ?a21 (asks_cons ?a22 (asks_cons ?a23 (asks_cons ?a24 (asks_cons ?a25 (asks_cons ?a26 (asks_cons ?a27 (asks_cons ?a28 (asks_cons ?a29 (trivial))))))))))))))))))))))))))))))
    case a0 =>
      intro w' hS
      simp only [takes, List.map_cons, List.map_nil, List.getD_cons_zero, List.getD_cons_succ, feed, Act.put, List.setIfInBounds_toArray, List.set_cons_zero, List.set_cons_succ]
      refine alone_val ?_
      intro K hK
      show Oper.wp _ _ _ _ _ _
      go_simp
      exact hK _ (Ext.refl _)
    case a1 =>
      intro w' hS
      simp only [takes, List.map_cons, List.map_nil, List.getD_cons_zero, List.getD_cons_succ, feed, Act.put, List.setIfInBounds_toArray, List.set_cons_zero, List.set_cons_succ]
      refine alone_val ?_
      intro K hK
      show Oper.wp _ _ _ _ _ _
      go_simp
      refine (Q.out _ ((Ext.refl w).drew.trans hS)).mono ?_
      rintro e w3 ⟨rfl, he⟩
      exact hK _ he
    case a2 =>
      intro w' hS
      simp only [takes, List.map_cons, List.map_nil, List.getD_cons_zero, List.getD_cons_succ, feed, Act.put, List.setIfInBounds_toArray, List.set_cons_zero, List.set_cons_succ]
      refine alone_val ?_
      intro K hK
      show Oper.wp _ _ _ _ _ _
      go_simp
      exact hK _ (Ext.refl _)
    case a3 =>
      intro w' hS
      simp only [takes, List.map_cons, List.map_nil, List.getD_cons_zero, List.getD_cons_succ, feed, Act.put, List.setIfInBounds_toArray, List.set_cons_zero, List.set_cons_succ]
      refine alone_val ?_
      intro K hK
      show Oper.wp _ _ _ _ _ _
      go_simp
      exact hK _ (Ext.refl _)
    case a4 =>
      intro w' hS
      simp only [takes, List.map_cons, List.map_nil, List.getD_cons_zero, List.getD_cons_succ, feed, Act.put, List.setIfInBounds_toArray, List.set_cons_zero, List.set_cons_succ]
      refine alone_val ?_
      intro K hK
      show Oper.wp _ _ _ _ _ _
      go_simp
      exact hK _ (Ext.refl _)
    case a5 =>
      intro w' hS
      simp only [takes, List.map_cons, List.map_nil, List.getD_cons_zero, List.getD_cons_succ, feed, Act.put, List.setIfInBounds_toArray, List.set_cons_zero, List.set_cons_succ]
      refine alone_val ?_
      intro K hK
      show Oper.wp _ _ _ _ _ _
      go_simp
      exact hK _ (Ext.refl _)
    case a6 =>
      intro w' hS
      simp only [takes, List.map_cons, List.map_nil, List.getD_cons_zero, List.getD_cons_succ, feed, Act.put, List.setIfInBounds_toArray, List.set_cons_zero, List.set_cons_succ]
      refine alone_val ?_
      intro K hK
      show Oper.wp _ _ _ _ _ _
      have hd := ((Ext.refl w).drew.trans hS).cellE c2
      go_simp
      exact hK _ (Ext.refl _)
    case a7 =>
      intro w' hS
      simp only [takes, List.map_cons, List.map_nil, List.getD_cons_zero, List.getD_cons_succ, feed, Act.put, List.setIfInBounds_toArray, List.set_cons_zero, List.set_cons_succ]
      refine alone_val ?_
      intro K hK
      show Oper.wp _ _ _ _ _ _
      go_simp
      exact hK _ (Ext.refl _)
    case a8 =>
      intro w' hS
      simp only [takes, List.map_cons, List.map_nil, List.getD_cons_zero, List.getD_cons_succ, feed, Act.put, List.setIfInBounds_toArray, List.set_cons_zero, List.set_cons_succ]
      refine alone_val ?_
      intro K hK
      show Oper.wp _ _ _ _ _ _
      go_simp
      exact hK _ (Ext.refl _)
    case a9 =>
      intro w' hS
      simp only [takes, List.map_cons, List.map_nil, List.getD_cons_zero, List.getD_cons_succ, feed, Act.put, List.setIfInBounds_toArray, List.set_cons_zero, List.set_cons_succ]
      refine alone_val ?_
      intro K hK
      show Oper.wp _ _ _ _ _ _
      go_simp
      exact hK _ (Ext.refl _)
    case a10 =>
      intro w' hS
      simp only [takes, List.map_cons, List.map_nil, List.getD_cons_zero, List.getD_cons_succ, feed, Act.put, List.setIfInBounds_toArray, List.set_cons_zero, List.set_cons_succ]
      refine alone_val ?_
      intro K hK
      show Oper.wp _ _ _ _ _ _
      go_simp
      exact hK _ (Ext.refl _)
    case a11 =>
      intro w' hS
      simp only [takes, List.map_cons, List.map_nil, List.getD_cons_zero, List.getD_cons_succ, feed, Act.put, List.setIfInBounds_toArray, List.set_cons_zero, List.set_cons_succ]
      refine alone_val ?_
      intro K hK
      show Oper.wp _ _ _ _ _ _
      go_simp
      exact hK _ (Ext.refl _)
    case a12 =>
      intro w' hS
      simp only [takes, List.map_cons, List.map_nil, List.getD_cons_zero, List.getD_cons_succ, feed, Act.put, List.setIfInBounds_toArray, List.set_cons_zero, List.set_cons_succ]
      refine alone_val ?_
      intro K hK
      show Oper.wp _ _ _ _ _ _
      go_simp
      exact hK _ (Ext.refl _)
    case a13 =>
      intro w' hS
      simp only [takes, List.map_cons, List.map_nil, List.getD_cons_zero, List.getD_cons_succ, feed, Act.put, List.setIfInBounds_toArray, List.set_cons_zero, List.set_cons_succ]
      refine alone_val ?_
      intro K hK
      show Oper.wp _ _ _ _ _ _
      go_simp
      exact hK _ (Ext.refl _)
    case a14 =>
      intro w' hS
      simp only [takes, List.map_cons, List.map_nil, List.getD_cons_zero, List.getD_cons_succ, feed, Act.put, List.setIfInBounds_toArray, List.set_cons_zero, List.set_cons_succ]
      refine alone_val ?_
      intro K hK
      show Oper.wp _ _ _ _ _ _
      have hd := ((Ext.refl w).drew.trans hS).cellE c2
      go_simp
      exact hK _ (Ext.refl _)
    case a15 =>
      intro w' hS
      simp only [takes, List.map_cons, List.map_nil, List.getD_cons_zero, List.getD_cons_succ, feed, Act.put, List.setIfInBounds_toArray, List.set_cons_zero, List.set_cons_succ]
      refine alone_val ?_
      intro K hK
      show Oper.wp _ _ _ _ _ _
      go_simp
      exact hK _ (Ext.refl _)
    case a16 =>
      intro w' hS
      simp only [takes, List.map_cons, List.map_nil, List.getD_cons_zero, List.getD_cons_succ, feed, Act.put, List.setIfInBounds_toArray, List.set_cons_zero, List.set_cons_succ]
      refine alone_val ?_
      intro K hK
      show Oper.wp _ _ _ _ _ _
      go_simp
      exact hK _ (Ext.refl _)
    case a17 =>
      intro w' hS
      simp only [takes, List.map_cons, List.map_nil, List.getD_cons_zero, List.getD_cons_succ, feed, Act.put, List.setIfInBounds_toArray, List.set_cons_zero, List.set_cons_succ]
      refine alone_val ?_
      intro K hK
      show Oper.wp _ _ _ _ _ _
      go_simp
      exact hK _ (Ext.refl _)
    case a18 =>
      intro w' hS
      simp only [takes, List.map_cons, List.map_nil, List.getD_cons_zero, List.getD_cons_succ, feed, Act.put, List.setIfInBounds_toArray, List.set_cons_zero, List.set_cons_succ]
      refine alone_val ?_
      intro K hK
      show Oper.wp _ _ _ _ _ _
      have hd := ((Ext.refl w).drew.trans hS).cellE c2
      go_simp
      exact hK _ (Ext.refl _)
    case a19 =>
      intro w' hS
      simp only [takes, List.map_cons, List.map_nil, List.getD_cons_zero, List.getD_cons_succ, feed, Act.put, List.setIfInBounds_toArray, List.set_cons_zero, List.set_cons_succ]
      refine alone_val ?_
      intro K hK
      show Oper.wp _ _ _ _ _ _
      go_simp
      exact hK _ (Ext.refl _)
    case a20 =>
      intro w' hS
      simp only [takes, List.map_cons, List.map_nil, List.getD_cons_zero, List.getD_cons_succ, feed, Act.put, List.setIfInBounds_toArray, List.set_cons_zero, List.set_cons_succ]
      refine alone_val ?_
      intro K hK
      show Oper.wp _ _ _ _ _ _
      go_simp
      exact hK _ (Ext.refl _)
    case a21 =>
      intro w' hS
      simp only [takes, List.map_cons, List.map_nil, List.getD_cons_zero, List.getD_cons_succ, feed, Act.put, List.setIfInBounds_toArray, List.set_cons_zero, List.set_cons_succ]
      refine alone_val ?_
      intro K hK
      show Oper.wp _ _ _ _ _ _
      go_simp
      exact hK _ (Ext.refl _)
    case a22 =>
      intro w' hS
      simp only [takes, List.map_cons, List.map_nil, List.getD_cons_zero, List.getD_cons_succ, feed, Act.put, List.setIfInBounds_toArray, List.set_cons_zero, List.set_cons_succ]
      refine alone_val ?_
      intro K hK
      show Oper.wp _ _ _ _ _ _
      have hd := ((Ext.refl w).drew.trans hS).cellE d
      go_simp
      exact hK _ (Ext.refl _)
    case a23 =>
      intro w' hS
      simp only [takes, List.map_cons, List.map_nil, List.getD_cons_zero, List.getD_cons_succ, feed, Act.put, List.setIfInBounds_toArray, List.set_cons_zero, List.set_cons_succ]
      refine alone_val ?_
      intro K hK
      show Oper.wp _ _ _ _ _ _
      go_simp
      exact hK _ (Ext.refl _)
    case a24 =>
      intro w' hS
      simp only [takes, List.map_cons, List.map_nil, List.getD_cons_zero, List.getD_cons_succ, feed, Act.put, List.setIfInBounds_toArray, List.set_cons_zero, List.set_cons_succ]
      refine alone_val ?_
      intro K hK
      show Oper.wp _ _ _ _ _ _
      go_simp
      exact hK _ (Ext.refl _)
    case a25 =>
      intro w' hS
      simp only [takes, List.map_cons, List.map_nil, List.getD_cons_zero, List.getD_cons_succ, feed, Act.put, List.setIfInBounds_toArray, List.set_cons_zero, List.set_cons_succ]
      refine alone_val ?_
      intro K hK
      show Oper.wp _ _ _ _ _ _
      go_simp
      exact hK _ (Ext.refl _)
    case a26 =>
      intro w' hS
      simp only [takes, List.map_cons, List.map_nil, List.getD_cons_zero, List.getD_cons_succ, feed, Act.put, List.setIfInBounds_toArray, List.set_cons_zero, List.set_cons_succ]
      refine alone_val ?_
      intro K hK
      show Oper.wp _ _ _ _ _ _
      go_simp
      exact hK _ (Ext.refl _)
    case a27 =>
      intro w' hS
      simp only [takes, List.map_cons, List.map_nil, List.getD_cons_zero, List.getD_cons_succ, feed, Act.put, List.setIfInBounds_toArray, List.set_cons_zero, List.set_cons_succ]
      refine alone_val ?_
      intro K hK
      show Oper.wp _ _ _ _ _ _
      go_simp
      exact hK _ (Ext.refl _)
    case a28 =>
      intro w' hS
      simp only [takes, List.map_cons, List.map_nil, List.getD_cons_zero, List.getD_cons_succ, feed, Act.put, List.setIfInBounds_toArray, List.set_cons_zero, List.set_cons_succ]
      refine alone_val ?_
      intro K hK
      show Oper.wp _ _ _ _ _ _
      go_simp
      exact hK _ (Ext.refl _)
    case a29 =>
      intro w' hS
      simp only [takes, List.map_cons, List.map_nil, List.getD_cons_zero, List.getD_cons_succ, feed, Act.put, List.setIfInBounds_toArray, List.set_cons_zero, List.set_cons_succ]
      refine alone_val ?_
      intro K hK
      show Oper.wp _ _ _ _ _ _
      go_simp
      exact hK _ (Ext.refl _)
  case fin =>
    intro w' hS
    simp only [fills, Act.put, List.setIfInBounds_toArray, List.set_cons_zero, List.set_cons_succ]
    have hV' := Lib.hid (hV.out.ext ((Ext.refl w).drew.trans hS))
    have d2 := hV'.out.blk.cell 2
    simp [fyCells] at d2
    have hbase : base ≤ w'.heap.size := by
      have := hV'.out.blk.lt
      have := hV'.out.base
      omega
    go_wp2_with (first
      | (at_builtin; refine wpList_append_win (w2.setCell ⟨b, 2, none⟩ (.slice A1' (q.length + 1) c1')) rfl _ _ _ rfl base 22 (.int .u64 0) 1 8 Try.underlying29 info_u64 rfl (by omega) (by omega) A2 q.length cc2 _ rfl #[.int .u64 y] rfl rfl (by rw [size_setCell]; rfl) (hM.out.2 _).1 (by omega) (hM.out.2 _).2.2 ?_; intro A2' c2' w4 hW2 hE2 hC2 hb2; have hW2' := Lib.hid hW2; have hC2' := Lib.hid hC2; have hb2' := Lib.hid hb2; have hE2' := Lib.hid hE2; have k3 := ((hM.out.2 (.slice A1' (q.length + 1) c1')).2.1.chg hC2 (fun hk => (hM.out.2 (.slice A1' (q.length + 1) c1')).1.ne (hM.out.2 (.slice A1' (q.length + 1) c1')).2.1 (by decide) b (by rw [ownb]; exact hk) rfl)).cell 3; have z3 := ((hM.out.2 (.slice A1' (q.length + 1) c1')).2.1.chg hC2 (fun hk => (hM.out.2 (.slice A1' (q.length + 1) c1')).1.ne (hM.out.2 (.slice A1' (q.length + 1) c1')).2.1 (by decide) b (by rw [ownb]; exact hk) rfl)).thaw 3; simp [fyCells] at k3; clear hW2 hC2 hb2 hE2)
      | (at_builtin; refine wpList_append_win w' rfl _ _ _ rfl base 22 (.int .u64 0) 1 8 Try.underlying29 info_u64 rfl (by omega) (by omega) (some ⟨g, o, none⟩) q.length cc1 _ rfl #[.int .u64 i] rfl rfl rfl hV'.out.i (by omega) hbase ?_; intro A1' c1' w2 hW1 hE1 hC1 hb1; have hW1' := Lib.hid hW1; have hC1' := Lib.hid hC1; have hb1' := Lib.hid hb1; have hE1' := Lib.hid hE1; have hM := Lib.hid (fly_mid (i := i) (A1' := A1') (c1' := c1') hV'.out hC1); have k2 := hM.out.1.cell 2; have k3 := hM.out.1.cell 3; have z2 := hM.out.1.thaw 2; simp [fyCells] at k2 k3; clear hW1 hC1 hb1 hE1))
    go_ret
    have hb := hV'.out.base
    have hE := (((Chg0.ext ((Ext.refl w).drew.trans hS)).trans (Chg0.win hV'.out.i hC1'.out hE1'.out)).trans ((Chg0.blk hM.out.1 hb (chg_setCell w2 ⟨b, 2, none⟩ (.slice A1' (q.length + 1) c1'))).trans (Chg0.win (hM.out.2 _).1 hC2'.out hE2'.out))).trans (Chg0.blk ((hM.out.2 (.slice A1' (q.length + 1) c1')).2.1.chg hC2'.out (fun hk => (hM.out.2 (.slice A1' (q.length + 1) c1')).1.ne (hM.out.2 (.slice A1' (q.length + 1) c1')).2.1 (by decide) b (by rw [ownb]; exact hk) rfl)) hb (chg_setCell w4 ⟨b, 3, none⟩ (.slice A2' (q.length + 1) c2')))
    exact ⟨rfl, fly_end hV'.out hC1'.out hW1'.out hb1'.out hC2'.out hW2'.out (by have := hb2'.out; rw [size_setCell] at this; exact this), hE⟩

end Go.Proofs.Ytfoffejgpalmpaa
