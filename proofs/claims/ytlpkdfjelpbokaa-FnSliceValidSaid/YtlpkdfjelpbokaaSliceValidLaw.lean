/- The law FnSliceValid: the walk. -/
import Derived.Test.YtlpkdfjelpbokaaSliceValid
import Derived.Test.YtlpkdfjelpbokaaPay
namespace Go.Proofs.Ytlpkdfjelpbokaa
open Go.ChangeShapes Go.WideShapes Go.ChangeAt Go.RowKit
set_option linter.unusedSimpArgs false
set_option linter.unusedVariables false

theorem shorts_index (l : List Entry) (h : ∀ x ∈ l, 0 ≤ x.index ∧ x.index ≤ 18446744073709551615) : ∀ x ∈ shorts l, 0 ≤ x.index ∧ x.index ≤ 18446744073709551615 := by
  intro x hx
  obtain ⟨y, hy, rfl⟩ := List.mem_map.1 hx
  exact h y (List.mem_of_mem_take hy)

set_option maxRecDepth 100000 in
set_option maxHeartbeats 1000000 in
theorem fnSliceValid_walk (term pt pi : Int) (hpi : 0 ≤ pi) (v : Value) (l : List Entry) (w : World) (h : EntriesA w v l) (hli : ∀ x ∈ l, 0 ≤ x.index ∧ x.index ≤ 18446744073709551615) :
    Calls Try.prog 4 #[.int .u64 term, .agg #[.int .u64 pt, .int .u64 pi], v] w (Yes w) := by
  have Q := Lib.hid (fun W (e : Ext w W) => zzFits4_c v l W (h.ext e))
  have Q2 := Lib.hid (fun W (e : Ext w W) => shortEntries_c v l W (h.ext e))
  have hsl := shorts_len l
  have hss := shorts_size l
  have hsi := shorts_index l hli
  generalize hes : shorts l = es at *
  have hss' := Lib.hid hss
  have hsi' := Lib.hid hsi
  clear hes hss hsi hli
  obtain ⟨A, c, rfl⟩ := h.shape
  clear h
  go_enter Try.func4, Try.ntmps4
  by_cases hbig : (4611686018427387904 : Int) ≤ pi
  · go_wp2_with (first
      | (go_at_call 6; refine (Q.out _ ((Ext.refl w).alloc _)).mono ?_; rintro e w1 ⟨b, rfl, hfit, he⟩; obtain ⟨hcell, hfroz⟩ := he.rules; cases b)
      | (go_at_call 7; refine (Q2.out _ (((Ext.refl w).alloc _).trans he) (hfit (by simp)).1 (hfit (by simp)).2).mono ?_; rintro e w2 ⟨v, rfl, hv, he2⟩; obtain ⟨A2, c2, rfl⟩ := hv.shape; have hE := he.trans he2; clear hcell hfroz; obtain ⟨hcell, hfroz⟩ := hE.rules))
    · go_ret
      exact ⟨rfl, ((Ext.refl w).alloc _).trans he⟩
    · go_ret
      exact ⟨rfl, ((Ext.refl w).alloc _).trans hE⟩
  · go_wp2_with (first
      | (go_at_call 6; refine (Q.out _ ((Ext.refl w).alloc _)).mono ?_; rintro e w1 ⟨b, rfl, hfit, he⟩; obtain ⟨hcell, hfroz⟩ := he.rules; cases b)
      | (go_at_call 7; refine (Q2.out _ (((Ext.refl w).alloc _).trans he) (hfit (by simp)).1 (hfit (by simp)).2).mono ?_; rintro e w2 ⟨v, rfl, hv, he2⟩; obtain ⟨A2, c2, rfl⟩ := hv.shape; have hE := he.trans he2; clear hcell hfroz; obtain ⟨hcell, hfroz⟩ := hE.rules))
    · go_ret
      exact ⟨rfl, ((Ext.refl w).alloc _).trans he⟩
    · have c0 : w2.cell? ⟨w.heap.size, 0, none⟩ = some (.int .u64 pt) := by
        rw [hcell _ _ (by simp)]
        simp
      have c1 : w2.cell? ⟨w.heap.size, 1, none⟩ = some (.int .u64 pi) := by
        rw [hcell _ _ (by simp)]
        simp
      have QA := Lib.hid (fun W (e : Ext w2 W) => SliceValid_c term pt pi _ es W (hv.old.ext e) (by omega) (fun x hx => by have := hss'.out x hx; unfold maxLen; omega) ⟨hpi, by omega⟩ hsi'.out)
      have QB := Lib.hid (fun W (e : Ext w2 W) => specValid_c term pt pi _ es W (hv.old.ext e) (by omega) ⟨hpi, by omega⟩)
      have hE' := Lib.hid hE
      clear hcell hfroz hv hfit hE he2 he
      refine wp_region_grow Ext
        [.val ?r0, .val ?r1, .val ?r2, .val ?r3, .val ?r4, .val ?r5, .val ?r6, .val ?r7, .val ?r8, .val ?r9]
        [[], [], [], [(0, 16), (1, 17), (2, 18)], [], [], [], [(4, 20), (5, 21), (6, 22)], [(3, 19), (7, 23)], [(8, 24)]]
        (by kernel_rfl) Ext.refl (fun _ _ _ => Ext.trans) (by kernel_rfl) rfl ⟨trivial, trivial, trivial, trivial, trivial, trivial, trivial, trivial, trivial, trivial, trivial⟩ ?ask ?fin
      case ask =>
        refine asks_cons ?a0 (asks_cons ?a1 (asks_cons ?a2 (asks_cons ?a3 (asks_cons ?a4 (asks_cons ?a5 (asks_cons ?a6 (asks_cons ?a7 (asks_cons ?a8 (asks_cons ?a9 (trivial))))))))))
        case a0 =>
          intro w' hS
          simp only [takes, List.map_cons, List.map_nil, List.getD_cons_zero, List.getD_cons_succ, feed, Act.put, List.setIfInBounds_toArray, List.set_cons_zero, List.set_cons_succ]
          refine alone_val ?_
          intro K hK
          show Oper.wp _ _ _ _ _ _
          go_simp
          exact hK _ (Ext.refl _)
        case a1 =>
          intro w' hS
          simp only [takes, List.map_cons, List.map_nil, List.getD_cons_zero, List.getD_cons_succ, feed, Act.put, List.setIfInBounds_toArray, List.set_cons_zero, List.set_cons_succ]
          refine alone_val ?_
          intro K hK
          show Oper.wp _ _ _ _ _ _
          have c0' := ((Ext.refl w2).drew.trans hS).cellE c0
          have c1' := ((Ext.refl w2).drew.trans hS).cellE c1
          go_simp
          exact hK _ (Ext.refl _)
        case a2 =>
          intro w' hS
          simp only [takes, List.map_cons, List.map_nil, List.getD_cons_zero, List.getD_cons_succ, feed, Act.put, List.setIfInBounds_toArray, List.set_cons_zero, List.set_cons_succ]
          refine alone_val ?_
          intro K hK
          show Oper.wp _ _ _ _ _ _
          go_simp
          exact hK _ (Ext.refl _)
        case a3 =>
          intro w' hS
          simp only [takes, List.map_cons, List.map_nil, List.getD_cons_zero, List.getD_cons_succ, feed, Act.put, List.setIfInBounds_toArray, List.set_cons_zero, List.set_cons_succ]
          refine alone_val ?_
          intro K hK
          show Oper.wp _ _ _ _ _ _
          go_simp
          refine (QA.out _ ((Ext.refl w2).drew.trans hS)).mono ?_
          rintro e w3 ⟨rfl, he⟩
          exact hK _ he
        case a4 =>
          intro w' hS
          simp only [takes, List.map_cons, List.map_nil, List.getD_cons_zero, List.getD_cons_succ, feed, Act.put, List.setIfInBounds_toArray, List.set_cons_zero, List.set_cons_succ]
          refine alone_val ?_
          intro K hK
          show Oper.wp _ _ _ _ _ _
          go_simp
          exact hK _ (Ext.refl _)
        case a5 =>
          intro w' hS
          simp only [takes, List.map_cons, List.map_nil, List.getD_cons_zero, List.getD_cons_succ, feed, Act.put, List.setIfInBounds_toArray, List.set_cons_zero, List.set_cons_succ]
          refine alone_val ?_
          intro K hK
          show Oper.wp _ _ _ _ _ _
          have c0' := ((Ext.refl w2).drew.trans hS).cellE c0
          have c1' := ((Ext.refl w2).drew.trans hS).cellE c1
          go_simp
          exact hK _ (Ext.refl _)
        case a6 =>
          intro w' hS
          simp only [takes, List.map_cons, List.map_nil, List.getD_cons_zero, List.getD_cons_succ, feed, Act.put, List.setIfInBounds_toArray, List.set_cons_zero, List.set_cons_succ]
          refine alone_val ?_
          intro K hK
          show Oper.wp _ _ _ _ _ _
          go_simp
          exact hK _ (Ext.refl _)
        case a7 =>
          intro w' hS
          simp only [takes, List.map_cons, List.map_nil, List.getD_cons_zero, List.getD_cons_succ, feed, Act.put, List.setIfInBounds_toArray, List.set_cons_zero, List.set_cons_succ]
          refine alone_val ?_
          intro K hK
          show Oper.wp _ _ _ _ _ _
          go_simp
          refine (QB.out _ ((Ext.refl w2).drew.trans hS)).mono ?_
          rintro e w3 ⟨rfl, he⟩
          exact hK _ he
        case a8 =>
          intro w' hS
          simp only [takes, List.map_cons, List.map_nil, List.getD_cons_zero, List.getD_cons_succ, feed, Act.put, List.setIfInBounds_toArray, List.set_cons_zero, List.set_cons_succ]
          refine alone_val ?_
          intro K hK
          show Oper.wp _ _ _ _ _ _
          go_simp
          exact hK _ (Ext.refl _)
        case a9 =>
          intro w' hS
          simp only [takes, List.map_cons, List.map_nil, List.getD_cons_zero, List.getD_cons_succ, feed, Act.put, List.setIfInBounds_toArray, List.set_cons_zero, List.set_cons_succ]
          refine alone_val ?_
          intro K hK
          show Oper.wp _ _ _ _ _ _
          go_simp
          exact hK _ (Ext.refl _)
      case fin =>
        intro w' hS
        simp only [fills, Act.put, List.setIfInBounds_toArray, List.set_cons_zero, List.set_cons_succ]
        go_wp2
        go_ret
        exact ⟨rfl, ((Ext.refl w).alloc _).trans (hE'.out.trans ((Ext.refl w2).drew.trans hS))⟩

end Go.Proofs.Ytlpkdfjelpbokaa
