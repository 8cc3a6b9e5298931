/- SliceValid and spec.Valid; the law FnSliceValid's walk. -/
import Derived.Test.YtlpkdfjelpbokaaValid
namespace Go.Proofs.Ytlpkdfjelpbokaa
open Go.ChangeShapes Go.WideShapes Go.ChangeAt Go.RowKit
set_option linter.unusedSimpArgs false
set_option linter.unusedVariables false

set_option maxRecDepth 100000 in
set_option maxHeartbeats 1000000 in
theorem SliceValid_c (term pt pi : Int) (v : Value) (es : List Entry) (w : World) (h : EntriesA w v es) (hn : es.length ≤ 2147483647) (hd : ∀ x ∈ es, x.data.size ≤ maxLen) (hp : 0 ≤ pi ∧ pi < 4611686018427387904) (hi : ∀ x ∈ es, 0 ≤ x.index ∧ x.index ≤ 18446744073709551615) :
    Calls Try.prog 9 #[.int .u64 term, .agg #[.int .u64 pt, .int .u64 pi], v] w fun e w' => e = .returned (.bool (okV term pt pi es)) ∧ Ext w w' := by
  have Q := Lib.hid (fun W (e : Ext w W) => entriesTo_c v es W (h.ext e) hn hd)
  have Q2 := Lib.hid (fun cs W h => ZzSliceValid_c cs term pt pi es W h hn hp hi)
  obtain ⟨A, c, rfl⟩ := h.shape
  clear h hi hd
  go_enter Try.func9, Try.ntmps9
  go_wp2
  refine wp_region_grow Ext
    [.val ?r0, .val ?r1, .val ?r2, .val ?r3, .val ?r4, .val ?r5, Fact.is (fun v w => EntriesP w v es), Fact.is (fun v w => ∃ cs, v = .agg (List.toArray cs) ∧ LogSliceR w cs term pt pi es), Fact.is (fun v w => ErrIf (okV term pt pi es) v), Fact.is (fun v w => v = .bool (okV term pt pi es)), Fact.is (fun v w => v = .bool (okV term pt pi es))]
    [[], [], [(1, 8)], [], [(3, 10)], [], [(5, 12)], [(0, 7), (2, 9), (4, 11), (6, 13)], [(7, 14)], [(8, 15)], [(9, 16)]]
    (by kernel_rfl) Ext.refl (fun _ _ _ => Ext.trans) (by kernel_rfl) rfl ⟨trivial, trivial, trivial, trivial, trivial, trivial, fun _ _ _ h e => h.ext e, fun v w1 w2 h e => (fun ⟨cs, h1, h2⟩ => ⟨cs, h1, h2.ext e⟩ : (∃ cs, v = Value.agg (List.toArray cs) ∧ LogSliceR w1 cs term pt pi es) → (∃ cs, v = Value.agg (List.toArray cs) ∧ LogSliceR w2 cs term pt pi es)) h, fun _ _ _ h _ => h, fun _ _ _ h _ => h, fun _ _ _ h _ => h, trivial⟩ ?ask ?fin
  case ask =>
    refine asks_cons ?a0 (asks_cons ?a1 (asks_cons ?a2 (asks_cons ?a3 (asks_cons ?a4 (asks_cons ?a5 (asks_cons ?a6 (asks_cons ?a7 (asks_cons ?a8 (asks_cons ?a9 (asks_cons ?a10 (trivial)))))))))))
    case a0 =>
      intro w' hS
      simp only [takes, List.map_cons, List.map_nil, List.getD_cons_zero, List.getD_cons_succ, feed, Act.put, List.setIfInBounds_toArray, List.set_cons_zero, List.set_cons_succ]
      refine alone_val ?_
      intro K hK
      show Oper.wp _ _ _ _ _ _
      go_simp
      exact hK _ (Ext.refl _)
    case a1 =>
      intro w' hS
      simp only [takes, List.map_cons, List.map_nil, List.getD_cons_zero, List.getD_cons_succ, feed, Act.put, List.setIfInBounds_toArray, List.set_cons_zero, List.set_cons_succ]
      refine alone_val ?_
      intro K hK
      show Oper.wp _ _ _ _ _ _
      go_simp
      exact hK _ (Ext.refl _)
    case a2 =>
      intro w' hS
      simp only [takes, List.map_cons, List.map_nil, List.getD_cons_zero, List.getD_cons_succ, feed, Act.put, List.setIfInBounds_toArray, List.set_cons_zero, List.set_cons_succ]
      refine alone_val ?_
      intro K hK
      show Oper.wp _ _ _ _ _ _
      obtain ⟨hc, hf⟩ := hS.rules
      go_simp
      exact hK _ (Ext.refl _)
    case a3 =>
      intro w' hS
      simp only [takes, List.map_cons, List.map_nil, List.getD_cons_zero, List.getD_cons_succ, feed, Act.put, List.setIfInBounds_toArray, List.set_cons_zero, List.set_cons_succ]
      refine alone_val ?_
      intro K hK
      show Oper.wp _ _ _ _ _ _
      go_simp
      exact hK _ (Ext.refl _)
    case a4 =>
      intro w' hS
      simp only [takes, List.map_cons, List.map_nil, List.getD_cons_zero, List.getD_cons_succ, feed, Act.put, List.setIfInBounds_toArray, List.set_cons_zero, List.set_cons_succ]
      refine alone_val ?_
      intro K hK
      show Oper.wp _ _ _ _ _ _
      obtain ⟨hc, hf⟩ := hS.rules
      go_simp
      exact hK _ (Ext.refl _)
    case a5 =>
      intro w' hS
      simp only [takes, List.map_cons, List.map_nil, List.getD_cons_zero, List.getD_cons_succ, feed, Act.put, List.setIfInBounds_toArray, List.set_cons_zero, List.set_cons_succ]
      refine alone_val ?_
      intro K hK
      show Oper.wp _ _ _ _ _ _
      go_simp
      exact hK _ (Ext.refl _)
    case a6 =>
      intro w' hS
      simp only [takes, List.map_cons, List.map_nil, List.getD_cons_zero, List.getD_cons_succ, feed, Act.put, List.setIfInBounds_toArray, List.set_cons_zero, List.set_cons_succ]
      intro K hK
      show Oper.wp _ _ _ _ _ _
      go_simp
      refine (Q.out _ (((Ext.refl w).alloc _).drew.trans hS)).mono ?_
      rintro e w1 ⟨v, rfl, hv, he⟩
      exact hK _ _ he hv
    case a7 =>
      intro w' hS
      simp only [takes, List.map_cons, List.map_nil, List.getD_cons_zero, List.getD_cons_succ, feed, Act.put, List.setIfInBounds_toArray, List.set_cons_zero, List.set_cons_succ]
      intro x6 hx6
      intro K hK
      show Oper.wp _ _ _ _ _ _
      obtain ⟨A6, c6, e6⟩ := hx6.shape
      subst e6
      go_simp
      refine (ZzSlice_c term pt pi _ es _ hx6).mono ?_
      rintro e w1 ⟨v, rfl, hv, he⟩
      exact hK _ _ he hv
    case a8 =>
      intro w' hS
      simp only [takes, List.map_cons, List.map_nil, List.getD_cons_zero, List.getD_cons_succ, feed, Act.put, List.setIfInBounds_toArray, List.set_cons_zero, List.set_cons_succ]
      intro x7 hx7
      intro K hK
      show Oper.wp _ _ _ _ _ _
      obtain ⟨cs, rfl, hcs⟩ := hx7
      go_simp
      refine (Q2.out cs _ hcs).mono ?_
      rintro e w1 ⟨v, rfl, hv, he⟩
      exact hK _ _ he hv
    case a9 =>
      intro w' hS
      simp only [takes, List.map_cons, List.map_nil, List.getD_cons_zero, List.getD_cons_succ, feed, Act.put, List.setIfInBounds_toArray, List.set_cons_zero, List.set_cons_succ]
      intro x8 hx8
      intro K hK
      show Oper.wp _ _ _ _ _ _
      rcases hx8 with ⟨hb, rfl⟩ | ⟨hb, u, rfl⟩
      · go_simp
        exact hK _ _ (Ext.refl _) (by rw [hb]; rfl)
      · go_simp
        exact hK _ _ (Ext.refl _) (by rw [hb]; rfl)
    case a10 =>
      intro w' hS
      simp only [takes, List.map_cons, List.map_nil, List.getD_cons_zero, List.getD_cons_succ, feed, Act.put, List.setIfInBounds_toArray, List.set_cons_zero, List.set_cons_succ]
      intro x9 hx9
      intro K hK
      show Oper.wp _ _ _ _ _ _
      subst hx9
      go_simp
      exact hK _ _ (Ext.refl _) rfl
  case fin =>
    intro w' hS
    simp only [fills, Act.put, List.setIfInBounds_toArray, List.set_cons_zero, List.set_cons_succ]
    intro x6 hx6 x7 hx7 x8 hx8 x9 hx9 x10 hx10
    subst hx10
    go_wp2
    go_ret
    exact ⟨rfl, ((Ext.refl w).alloc _).drew.trans hS⟩

set_option maxRecDepth 100000 in
set_option maxHeartbeats 1000000 in
theorem specValid_c (term pt pi : Int) (v : Value) (es : List Entry) (w : World) (h : EntriesA w v es) (hn : es.length ≤ 2147483647) (hp : 0 ≤ pi ∧ pi < 4611686018427387904) :
    Calls Try.prog 10 #[.int .u64 term, .agg #[.int .u64 pt, .int .u64 pi], v] w fun e w' => e = .returned (.bool (okV term pt pi es)) ∧ Ext w w' := by
  obtain ⟨A, c, rfl, h1, h2, h3, h4⟩ := h
  have h4' := Lib.hid h4
  clear h2 h3 h4
  go_enter Try.func10, Try.ntmps10
  go_wp2
  go_loopg [8] es.length (fun g i wr => ∃ (k : Nat) (t i' : Int), g = es.length - k ∧ k ≤ es.length ∧ i = .int .i64 k ∧ Blk wr (w.heap.size + 1) 30 #[.int .u64 t, .int .u64 i'] ∧ (0 ≤ i' ∧ i' < 4611686018427387904 + k) ∧ okV term pt pi es = okV term t i' (es.drop k) ∧ Ext w wr)
  case atStart => exact ⟨0, pt, pi, rfl, Nat.zero_le _, rfl, Blk.new_at (by simp), ⟨hp.1, by omega⟩, rfl, ((Ext.refl _).alloc _).alloc _⟩
  case round =>
    obtain ⟨k, t, i', hg, hk, rfl, hB, hib, hok, he⟩ := hrel
    have hg' := Lib.hid hg
    have hok' := Lib.hid hok
    have hB' := Lib.hid hB
    clear hg hok
    have c0 := hB.cell 0
    have c1 := hB.cell 1
    simp at c0 c1
    have f0 := hB.thaw 0
    have f1 := hB.thaw 1
    have hsz := hB.lt
    clear hB
    by_cases hlt : k < es.length
    · obtain ⟨b, o, rfl, hel⟩ := h4'.out.elem entryCells_len (by omega) hlt
      have hd0 := he.cellE (hel 0 _ rfl)
      have hd1 := he.cellE (hel 1 _ rfl)
      simp only [Nat.add_zero] at hd0
      have hd := List.drop_eq_getElem_cons hlt
      have hel' := Lib.hid hel
      clear hel
      generalize hx : es[k] = x at *
      have hd' := Lib.hid hd
      have hx' := Lib.hid hx
      clear hd hx
      have hltI : (k : Int) < (es.length : Int) := by omega
      have hkn : (k : Int) ≤ 2147483647 := by omega
      have hi0 : 0 ≤ i' := hib.1
      have hi1 : i' < 4611686018427387904 + k := hib.2
      have hw : IntKind.u64.wrap (i' + 1) = i' + 1 := by
        rw [IntWalk.u64_in _ (by omega)]
      by_cases h2 : x.index = i' + 1
      · by_cases h1 : x.term < t
        · have hf : okV term pt pi es = false := by
            rw [hok'.out, hd'.out, okV, if_neg (by omega)]
          have hf' := Lib.hid hf
          clear hf
          go_wp2_with fail
          go_quiet (fail)
          go_wp2
          go_ret
          exact ⟨by rw [hf'.out]; rfl, he.drewN _⟩
        · have hf : okV term pt pi es = okV term x.term x.index (es.drop (k + 1)) := by
            rw [hok'.out, hd'.out, okV, if_pos ⟨h2, by omega⟩]
          have hf' := Lib.hid hf
          have h2' := Lib.hid h2
          have h1b : decide (x.term < t) = false := by simpa using h1
          clear hf
          go_wp2_with fail
          go_quiet (fail)
          have hq : Ext wr (wr.drewN nq) := (Ext.refl wr).drewN nq
          generalize wr.drewN nq = wq at hq ⊢
          have hBq := hB'.out.ext hq
          have heq := he.trans hq
          have hd0q := hq.cellE hd0
          have hd1q := hq.cellE hd1
          have f0q := hBq.thaw 0
          have f1q := hBq.thaw 1
          have c0q := hq.cellE c0
          have c1q := hq.cellE c1
          have hBq' := Lib.hid hBq
          clear hBq hd0 hd1 f0 f1 c0 c1
          go_wp2
          go_still_tail 11, (by kernel_rfl)
          change wpList _ _ _ _ _ _
          go_wp2
          go_roundg (es.length - (k + 1))
          case rel =>
            have hB1 := hBq'.out.set_ 0 (.int .u64 x.term)
            have hB2 := hB1.set_ 1 (.int .u64 (i' + 1))
            refine ⟨k + 1, x.term, i' + 1, rfl, by omega, by go_num, hB2.drew, ⟨by omega, by omega⟩, ?_, ((heq.setCell (by simp) _).setCell (by simp) _).drew⟩
            rw [hf'.out, h2'.out]
          case measure =>
            have := hg'.out
            omega
      · have hf : okV term pt pi es = false := by
          rw [hok'.out, hd'.out, okV, if_neg (by omega)]
        have hf' := Lib.hid hf
        have h2b : (x.index != i' + 1) = true := by simpa using h2
        clear hf
        go_wp2_with fail
        go_quiet (fail)
        go_wp2
        go_ret
        exact ⟨by rw [hf'.out]; rfl, he.drewN _⟩
    · have hkk : k = es.length := by omega
      have hf : okV term pt pi es = decide (t ≤ term) := by
        rw [hok'.out, hkk, List.drop_length, okV]
      have hf' := Lib.hid hf
      clear hf hkk
      go_wp2
      go_ret
      exact ⟨by rw [hf'.out]; rfl, he⟩

end Go.Proofs.Ytlpkdfjelpbokaa
