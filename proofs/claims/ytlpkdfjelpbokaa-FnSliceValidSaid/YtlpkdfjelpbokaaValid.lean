/- A slice of a log: logSlice.valid and spec.Valid say the same. -/
import Derived.Test.YtlpkdfjelpbokaaEntryGet
import Derived.Test.YtlpkdfjelpbokaaShort
import Derived.Deep.QuietTactic
import Derived.BigQuiet
import Derived.IntWalk
namespace Go.Proofs.Ytlpkdfjelpbokaa
open Go.ChangeShapes Go.WideShapes Go.ChangeAt Go.RowKit
set_option linter.unusedSimpArgs false
set_option linter.unusedVariables false

/-- Whether entries follow an ID (term pt, index pi) and each other, their terms do not fall, and none is above term. -/
def okV (term : Int) : Int → Int → List Entry → Bool
  | pt, _, [] => decide (pt ≤ term)
  | pt, pi, e :: es => if e.index = pi + 1 ∧ pt ≤ e.term then okV term e.term e.index es else false

/-- No error if b, otherwise one. -/
def ErrIf (b : Bool) (v : Value) : Prop := (b = true ∧ v = .nilIface) ∨ (b = false ∧ ∃ u, v = .iface 71 u)

theorem errNew_c (s : ByteArray) (w : World) : Calls Try.prog 29 #[.string s] w fun e w' => (∃ v, e = .returned (.iface 71 v)) ∧ Ext w w' := by
  go_enter Try.func29, Try.ntmps29
  go_wp2
  go_ret
  exact ⟨⟨_, rfl⟩, (Ext.refl w).alloc _⟩

theorem info_id : (Try.prog.info? 45).map (·.size) = some 2 := by kernel_rfl
theorem pbEntryID_c (v : Value) (x : Entry) (w : World) (h : EntryP w v x) : Calls Try.prog 28 #[v] w fun e w' => e = .returned (.agg #[.int .u64 x.term, .int .u64 x.index]) ∧ Ext w w' := by
  have Q := Lib.hid (fun W (e : Ext w W) => GetTerm_c v x W (h.ext e))
  have Q2 := Lib.hid (fun W (e : Ext w W) => GetIndex_c v x W (h.ext e))
  obtain ⟨b, rfl⟩ := h.shape
  clear h
  go_enter Try.func28, Try.ntmps28
  go_wp2_with (first
    | (go_at_call 33; refine (Q.out _ ((Ext.refl w).alloc _)).mono ?_; rintro e w1 ⟨rfl, rfl⟩)
    | (go_at_call 34; refine (Q2.out _ ((Ext.refl w).alloc _)).mono ?_; rintro e w1 ⟨rfl, rfl⟩))
  exact bodyPost_ret (v := .agg #[.int .u64 x.term, .int .u64 x.index]) (results_cell_row (by rw [Try.results28]) _ _ w.heap.size 45 _ (0, 0) _ rfl (Blk.new w _ _).out Try.underlying45 rfl info_id) rfl ⟨rfl, (Ext.refl w).alloc _⟩

/-- The slice of a log as the package has it. -/
def LogSliceR (w : World) (cs : List Value) (term pt pi : Int) (es : List Entry) : Prop := ∃ v, cs = [.int .u64 term, .int .u64 pt, .int .u64 pi, v] ∧ EntriesP w v es
theorem LogSliceR.ext {w w' : World} {cs : List Value} {term pt pi : Int} {es : List Entry} (h : LogSliceR w cs term pt pi es) (e : Ext w w') : LogSliceR w' cs term pt pi es := by
  obtain ⟨v, h1, h2⟩ := h
  exact ⟨v, h1, h2.ext e⟩

set_option maxRecDepth 100000 in
set_option maxHeartbeats 1000000 in
theorem valid_c (cs : List Value) (term pt pi : Int) (es : List Entry) (w : World) (h : LogSliceR w cs term pt pi es) (hn : es.length ≤ 2147483647) (hp : 0 ≤ pi ∧ pi < 4611686018427387904) (hi : ∀ x ∈ es, 0 ≤ x.index ∧ x.index ≤ 18446744073709551615) :
    Calls Try.prog 23 #[.agg cs.toArray] w (RetV w fun v _ => ErrIf (okV term pt pi es) v) := by
  obtain ⟨v, rfl, h⟩ := h
  obtain ⟨A, c, rfl⟩ := h.shape
  have h' := Lib.hid h
  have hi' := Lib.hid hi
  clear h hi
  go_enter Try.func23, Try.ntmps23
  go_wp2
  go_loopg [11] es.length (fun g i wr => ∃ (k : Nat) (t i' : Int), g = es.length - k ∧ k ≤ es.length ∧ i = .int .i64 k ∧ Blk wr (w.heap.size + 1) 45 #[.int .u64 t, .int .u64 i'] ∧ (0 ≤ i' ∧ i' < 4611686018427387904 + k) ∧ okV term pt pi es = okV term t i' (es.drop k) ∧ Ext (w.alloc (.cells #[.int .u64 term, .int .u64 pt, .int .u64 pi, .slice A es.length c] 47)) wr)
  case atStart => exact ⟨0, pt, pi, rfl, Nat.zero_le _, rfl, Blk.new_at (by simp), ⟨hp.1, by omega⟩, rfl, (Ext.refl _).alloc _⟩
  case round =>
    obtain ⟨k, t, i', hg, hk, rfl, hB, hib, hok, he⟩ := hrel
    have hg' := Lib.hid hg
    have hok' := Lib.hid hok
    have hB' := Lib.hid hB
    clear hg hok
    obtain ⟨hcell, hfroz⟩ := he.rules
    have hE := ((Ext.refl w).alloc _).trans he
    have c0 := hB.cell 0
    have c1 := hB.cell 1
    simp at c0 c1
    have f0 := hB.thaw 0
    have f1 := hB.thaw 1
    have hsz := hB.lt
    have hsz0 : w.heap.size < wr.heap.size := by omega
    clear hB
    by_cases hlt : k < es.length
    · obtain ⟨b, o, v, rfl, hc, hv⟩ := h'.out.elem hlt
      have hc' := hE.cellE hc
      have hd := List.drop_eq_getElem_cons hlt
      have hix := hi'.out _ (List.getElem_mem hlt)
      generalize hx : es[k] = x at *
      have hv' := Lib.hid hv
      have hd' := Lib.hid hd
      have hx' := Lib.hid hx
      obtain ⟨bv, rfl⟩ := hv.shape
      clear hv hc hd hx
      have hkn : (k : Int) ≤ 2147483647 := by omega
      by_cases h1 : x.term < t
      · have hf : okV term pt pi es = false := by
          rw [hok'.out, hd'.out, okV, if_neg (by omega)]
        have hf' := Lib.hid hf
        clear hf
        go_wp2_with (first
          | (go_at_call 28; refine (pbEntryID_c _ x _ (hv'.out.ext hE)).mono ?_; rintro e w1 ⟨rfl, he1⟩; have he1' := he.trans he1; clear hcell hfroz; obtain ⟨hcell, hfroz⟩ := he1'.rules; have c0' := he1.cellE c0; have c1' := he1.cellE c1; have f0' := (hB'.out.ext he1).thaw 0; have f1' := (hB'.out.ext he1).thaw 1; have hsz1 : w.heap.size + 1 < w1.heap.size := (by have := he1.size_le; omega); have hsz2 : w.heap.size < w1.heap.size := (by omega))
          | (go_at_call 29; refine (errNew_c _ _).mono ?_; rintro e w2 ⟨⟨u, rfl⟩, he2⟩))
        all_goals go_ret
        all_goals exact ⟨_, rfl, .inr ⟨hf'.out, _, rfl⟩, (hE.trans he1).trans (((Ext.refl _).alloc _).trans he2)⟩
      · by_cases h2 : x.index = i' + 1
        · have hf : okV term pt pi es = okV term x.term x.index (es.drop (k + 1)) := by
            rw [hok'.out, hd'.out, okV, if_pos ⟨h2, by omega⟩]
          have hf' := Lib.hid hf
          have h2' := Lib.hid h2
          have hi0 : 0 ≤ i' := hib.1
          have hi1 : i' < 4611686018427387904 + k := hib.2
          have hw : IntKind.u64.wrap (i' + 1) = i' + 1 := by
            rw [IntWalk.u64_in _ (by omega)]
          clear hf
          go_wp2_with (first
          | (go_at_call 28; refine (pbEntryID_c _ x _ (hv'.out.ext hE)).mono ?_; rintro e w1 ⟨rfl, he1⟩; have he1' := he.trans he1; clear hcell hfroz; obtain ⟨hcell, hfroz⟩ := he1'.rules; have c0' := he1.cellE c0; have c1' := he1.cellE c1; have f0' := (hB'.out.ext he1).thaw 0; have f1' := (hB'.out.ext he1).thaw 1; have hsz1 : w.heap.size + 1 < w1.heap.size := (by have := he1.size_le; omega); have hsz2 : w.heap.size < w1.heap.size := (by omega))
          | (go_at_call 29; refine (errNew_c _ _).mono ?_; rintro e w2 ⟨⟨u, rfl⟩, he2⟩))
          go_roundg (es.length - (k + 1))
          case rel =>
            have hB1 := (hB'.out.ext he1).set_ 0 (.int .u64 x.term)
            have hB2 := hB1.set_ 1 (.int .u64 (i' + 1))
            refine ⟨k + 1, x.term, i' + 1, rfl, by omega, by go_num, hB2.alloc _, ⟨by omega, by omega⟩, ?_, ((he1'.setCell (by simp) _).setCell (by simp) _).alloc _⟩
            rw [hf'.out, h2'.out]
          case measure =>
            have := hg'.out
            omega
        · have hf : okV term pt pi es = false := by
            rw [hok'.out, hd'.out, okV, if_neg (by omega)]
          have hf' := Lib.hid hf
          have hi0 : 0 ≤ i' := hib.1
          have hi1 : i' < 4611686018427387904 + k := hib.2
          have hw : IntKind.u64.wrap (i' + 1) = i' + 1 := by
            rw [IntWalk.u64_in _ (by omega)]
          have h2b : (x.index != i' + 1) = true := by simpa using h2
          clear hf
          go_wp2_with (first
          | (go_at_call 28; refine (pbEntryID_c _ x _ (hv'.out.ext hE)).mono ?_; rintro e w1 ⟨rfl, he1⟩; have he1' := he.trans he1; clear hcell hfroz; obtain ⟨hcell, hfroz⟩ := he1'.rules; have c0' := he1.cellE c0; have c1' := he1.cellE c1; have f0' := (hB'.out.ext he1).thaw 0; have f1' := (hB'.out.ext he1).thaw 1; have hsz1 : w.heap.size + 1 < w1.heap.size := (by have := he1.size_le; omega); have hsz2 : w.heap.size < w1.heap.size := (by omega))
          | (go_at_call 29; refine (errNew_c _ _).mono ?_; rintro e w2 ⟨⟨u, rfl⟩, he2⟩))
          all_goals go_ret
          all_goals exact ⟨_, rfl, .inr ⟨hf'.out, _, rfl⟩, (hE.trans he1).trans (((Ext.refl _).alloc _).trans he2)⟩
    · have hkk : k = es.length := by omega
      have hf : okV term pt pi es = decide (t ≤ term) := by
        rw [hok'.out, hkk, List.drop_length, okV]
      have hf' := Lib.hid hf
      clear hf
      go_wp2_with (go_at_call 29; refine (errNew_c _ _).mono ?_; rintro e w2 ⟨⟨u, rfl⟩, he2⟩)
      · go_ret
        exact ⟨_, rfl, .inr ⟨by rw [hf'.out]; simpa using (by omega), _, rfl⟩, hE.trans he2⟩
      · go_ret
        exact ⟨_, rfl, .inl ⟨by rw [hf'.out]; simpa using (by omega), rfl⟩, hE⟩

theorem ZzSliceValid_c (cs : List Value) (term pt pi : Int) (es : List Entry) (w : World) (h : LogSliceR w cs term pt pi es) (hn : es.length ≤ 2147483647) (hp : 0 ≤ pi ∧ pi < 4611686018427387904) (hi : ∀ x ∈ es, 0 ≤ x.index ∧ x.index ≤ 18446744073709551615) :
    Calls Try.prog 17 #[.agg cs.toArray] w (RetV w fun v _ => ErrIf (okV term pt pi es) v) := by
  have Q := Lib.hid (fun W (e : Ext w W) => valid_c cs term pt pi es W (h.ext e) hn hp hi)
  obtain ⟨v, rfl, h⟩ := h
  obtain ⟨A, c, rfl⟩ := h.shape
  clear h hi
  go_enter Try.func17, Try.ntmps17
  go_wp2_with (go_at_call 23; refine (Q.out _ ((Ext.refl w).alloc _)).mono ?_; rintro e w1 ⟨v, rfl, hv, he⟩)
  go_ret
  exact ⟨_, rfl, hv, ((Ext.refl w).alloc _).trans he⟩

theorem info_slice : (Try.prog.info? 47).map (·.size) = some 4 := by kernel_rfl
theorem ZzSlice_c (term pt pi : Int) (v : Value) (es : List Entry) (w : World) (h : EntriesP w v es) :
    Calls Try.prog 18 #[.int .u64 term, .int .u64 pt, .int .u64 pi, v] w (RetV w fun u w' => ∃ cs, u = .agg (List.toArray cs) ∧ LogSliceR w' cs term pt pi es) := by
  obtain ⟨A, c, rfl⟩ := h.shape
  have h' := Lib.hid h
  clear h
  go_enter Try.func18, Try.ntmps18
  go_wp2
  exact bodyPost_ret (v := .agg #[.int .u64 term, .int .u64 pt, .int .u64 pi, .slice A es.length c]) (results_cell_row (by rw [Try.results18]) _ _ w.heap.size 47 _ (0, 0) _ rfl (Blk.new w _ _).out Try.underlying47 rfl info_slice) rfl ⟨_, rfl, ⟨_, rfl, _, rfl, h'.out.ext ((Ext.refl w).alloc _)⟩, (Ext.refl w).alloc _⟩

end Go.Proofs.Ytlpkdfjelpbokaa
