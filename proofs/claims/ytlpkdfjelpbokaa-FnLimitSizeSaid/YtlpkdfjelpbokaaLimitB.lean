/- entsSize, limitSize, LimitSize, sizesOf. -/
import Derived.Test.YtlpkdfjelpbokaaLimit
namespace Go.Proofs.Ytlpkdfjelpbokaa
open Go.ChangeShapes Go.WideShapes Go.ChangeAt Go.RowKit
set_option linter.unusedSimpArgs false
set_option linter.unusedVariables false

theorem esize_bd (x : Entry) (h : x.wf) : (0 : Int) ≤ (esize x : Int) ∧ (esize x : Int) ≤ 4294967296 := by
  have := esize_le x h
  have := h.2.2.2
  omega

/-- The size of one entry alone. -/
theorem entsSize_one (v : Value) (x : Entry) (w : World) (h : EntriesP w v [x]) (hx : x.wf) : Calls Try.prog 31 #[v] w fun e w' => e = .returned (.int .u64 (esize x)) ∧ Ext w w' := by
  obtain ⟨A, c, rfl⟩ := h.shape
  have h' := Lib.hid h
  have hx' := Lib.hid hx
  obtain ⟨hb0, hb1⟩ := esize_bd x hx
  clear h hx
  simp only [List.length_singleton] at h' ⊢
  obtain ⟨b, o, u, rfl, hc, hv⟩ := h'.out.elem (k := 0) (by simp)
  obtain ⟨bv, rfl⟩ := hv.shape
  have hv' := Lib.hid hv
  clear hv
  simp only [Nat.add_zero] at hc
  go_enter Try.func31, Try.ntmps31
  go_wp2
  go_loopg [3, 8] 1 (fun g s i wr => (g = 1 ∧ i = .int .i64 0 ∧ s = .int .u64 0 ∧ Ext w wr) ∨ (g = 0 ∧ i = .int .i64 1 ∧ s = .int .u64 (esize x) ∧ Ext w wr))
  case atStart => exact .inl ⟨rfl, rfl, rfl, Ext.refl _⟩
  case round =>
    rcases hrel with ⟨hg, rfl, rfl, he⟩ | ⟨hg, rfl, rfl, he⟩
    · have hg' := Lib.hid hg
      have hc' := he.cellE hc
      clear hg hc
      go_wp2_with (go_at_call 30; refine (ZzSize_c _ x _ (hv'.out.ext he) hx'.out).mono ?_; rintro e w1 ⟨rfl, he1⟩)
      go_roundg 0
      case rel => exact .inr ⟨rfl, rfl, by simp, he.trans he1⟩
      case measure =>
        have := hg'.out
        omega
    · go_wp2
      go_ret
      exact ⟨rfl, he⟩

set_option maxRecDepth 100000 in
set_option maxHeartbeats 1000000 in
theorem limitSize_c (A : Option Addr) (c : Nat) (es : List Entry) (max : Int) (w : World) (h : EntriesP w (.slice A es.length c) es) (hn : es.length ≤ 2147483647) (hm : 0 ≤ max ∧ max ≤ 18446744073709551615) (hx : ∀ x ∈ es, x.wf) :
    Calls Try.prog 24 #[.slice A es.length c, .int .u64 max] w fun e w' => e = .returned (.slice A (longest max (sizes es)) c) ∧ Ext w w' := by
  have h' := Lib.hid h
  have hx' := Lib.hid hx
  have hsl : (sizes es).length = es.length := by simp [sizes]
  have hc : es.length ≤ c := by
    obtain ⟨vs, ⟨A', c', e1, h1, _⟩, _⟩ := h
    injection e1 with e1 e2 e3
    omega
  clear h hx
  by_cases h0 : es.length = 0
  · have hl : longest max (sizes es) = 0 := by
      have := longest_le max (sizes es)
      omega
    have hl' := Lib.hid hl
    have h0' := Lib.hid h0
    have h0b : (es.length : Int) = 0 := by omega
    clear hl hsl h0
    go_enter Try.func24, Try.ntmps24
    go_wp2
    go_ret
    exact ⟨by rw [hl'.out, h0'.out]; rfl, Ext.refl _⟩
  · have h0b : (0 : Int) < (es.length : Int) := by omega
    have h0c : ((es.length : Int) == 0) = false := by simpa using h0
    obtain ⟨b, o, u, rfl, hcell, hv⟩ := h'.out.elem (k := 0) (by omega)
    obtain ⟨bv, rfl⟩ := hv.shape
    simp only [Nat.add_zero] at hcell
    have hwf0 := hx'.out _ (List.getElem_mem (by omega : 0 < es.length))
    have hst : longest max (sizes es) = 1 + lim max (esize es[0]) ((sizes es).drop 1) := by
      cases es with
      | nil => simp at h0
      | cons x xs => simp [sizes, longest]
    generalize hx0 : es[0] = x0 at *
    obtain ⟨hb0, hb1⟩ := esize_bd x0 hwf0
    have hv' := Lib.hid hv
    have hst' := Lib.hid hst
    have hwf0' := Lib.hid hwf0
    have hsl' := Lib.hid hsl
    clear hv hst hwf0 hx0 hsl
    go_enter Try.func24, Try.ntmps24
    go_wp2_with (go_at_call 30; refine (ZzSize_c _ x0 _ hv'.out hwf0'.out).mono ?_; rintro e w1 ⟨rfl, he1⟩)
    go_loopg [5, 6] (es.length - 1) (fun g s i wr => ∃ (k : Nat) (t : Int), g = es.length - k ∧ (1 ≤ k ∧ k ≤ es.length) ∧ i = .int .i64 k ∧ s = .int .u64 t ∧ (0 ≤ t ∧ t ≤ k * 4294967296) ∧ longest max (sizes es) = k + lim max t ((sizes es).drop k) ∧ Ext w wr)
    case atStart => exact ⟨1, _, rfl, ⟨by omega, by omega⟩, rfl, rfl, ⟨by omega, by omega⟩, hst'.out, he1⟩
    case round =>
      obtain ⟨k, t, hg, ⟨hk1, hk⟩, rfl, rfl, ⟨ht0, htm⟩, hlim, he⟩ := hrel
      have hg' := Lib.hid hg
      have hlim' := Lib.hid hlim
      clear hg hlim
      by_cases hlt : k < es.length
      · obtain ⟨b2, o2, u, e0, hc2, hv2⟩ := h'.out.elem hlt
        injection e0 with e0
        injection e0 with e1 e2 e3
        subst e1 e2
        clear e3
        obtain ⟨bv2, rfl⟩ := hv2.shape
        have hc' := he.cellE hc2
        have hd : (sizes es).drop k = (esize es[k] : Int) :: (sizes es).drop (k + 1) := by
          rw [List.drop_eq_getElem_cons (by rw [hsl'.out]; exact hlt)]
          simp [sizes]
        have hwf := hx'.out _ (List.getElem_mem hlt)
        generalize hxk : es[k] = x at *
        obtain ⟨hx1, hx2⟩ := esize_bd x hwf
        have hd' := Lib.hid hd
        have hv2' := Lib.hid (hv2.ext he)
        have hwf' := Lib.hid hwf
        have hltI : (k : Int) < (es.length : Int) := by omega
        have hw : IntKind.u64.wrap (t + (esize x : Int)) = t + (esize x : Int) := by
          rw [IntWalk.u64_in _ (by omega)]
        clear hd hv2 hwf hxk hc2
        by_cases hfit : max < t + (esize x : Int)
        · have hf : longest max (sizes es) = k := by
            rw [hlim'.out, hd'.out, lim, if_pos hfit, Nat.add_zero]
          have hf' := Lib.hid hf
          clear hf
          go_wp2_with (go_at_call 30; refine (ZzSize_c _ x _ hv2'.out hwf'.out).mono ?_; rintro e w2 ⟨rfl, he2⟩)
          go_ret
          exact ⟨by rw [hf'.out]; rfl, he.trans he2⟩
        · have hf : lim max t ((sizes es).drop k) = 1 + lim max (t + esize x) ((sizes es).drop (k + 1)) := by
            rw [hd'.out, lim, if_neg hfit]
          have hf' := Lib.hid hf
          clear hf
          go_wp2_with (go_at_call 30; refine (ZzSize_c _ x _ hv2'.out hwf'.out).mono ?_; rintro e w2 ⟨rfl, he2⟩)
          go_roundg (es.length - (k + 1))
          case rel =>
            refine ⟨k + 1, t + esize x, rfl, ⟨by omega, by omega⟩, by go_num, rfl, ⟨by omega, by omega⟩, ?_, he.trans he2⟩
            rw [hlim'.out, hf'.out]
            omega
          case measure =>
            have := hg'.out
            omega
      · have hkk : k = es.length := by omega
        have hf : longest max (sizes es) = es.length := by
          rw [hlim'.out, hkk, ← hsl'.out, List.drop_length, lim, hsl'.out, Nat.add_zero]
        have hf' := Lib.hid hf
        clear hf hkk
        go_wp2
        go_ret
        exact ⟨by rw [hf'.out]; rfl, he⟩

theorem ZzLimitSize_c (A : Option Addr) (c : Nat) (es : List Entry) (max : Int) (w : World) (h : EntriesP w (.slice A es.length c) es) (hn : es.length ≤ 2147483647) (hm : 0 ≤ max ∧ max ≤ 18446744073709551615) (hx : ∀ x ∈ es, x.wf) :
    Calls Try.prog 19 #[.slice A es.length c, .int .u64 max] w fun e w' => e = .returned (.slice A (longest max (sizes es)) c) ∧ Ext w w' := by
  have Q := Lib.hid (limitSize_c A c es max w h hn hm hx)
  obtain ⟨hm0, hm1⟩ := hm
  clear h hx
  go_enter Try.func19, Try.ntmps19
  go_wp2_with (go_at_call 24; refine Q.out.mono ?_; rintro e w1 ⟨rfl, he⟩)
  go_ret
  exact ⟨rfl, he⟩

theorem ZzEntsSize_one (v : Value) (x : Entry) (w : World) (h : EntriesP w v [x]) (hx : x.wf) : Calls Try.prog 25 #[v] w fun e w' => e = .returned (.int .u64 (esize x)) ∧ Ext w w' := by
  have Q := Lib.hid (entsSize_one v x w h hx)
  obtain ⟨hb0, hb1⟩ := esize_bd x hx
  obtain ⟨A, c, rfl⟩ := h.shape
  clear h hx
  go_enter Try.func25, Try.ntmps25
  go_wp2_with (go_at_call 31; refine Q.out.mono ?_; rintro e w1 ⟨rfl, he⟩)
  go_ret
  exact ⟨rfl, he⟩

theorem EntsSize_one (v : Value) (x : Entry) (w : World) (h : EntriesA w v [x]) (hx : x.wf) : Calls Try.prog 20 #[v] w fun e w' => e = .returned (.int .u64 (esize x)) ∧ Ext w w' := by
  have Q := Lib.hid (entriesTo_c v [x] w h (by simp) (fun y hy => by
    obtain rfl : y = x := by simpa using hy
    have := hx.2.2.2
    unfold maxLen
    omega))
  have hx' := Lib.hid hx
  obtain ⟨A, c, rfl⟩ := h.shape
  clear h hx
  go_enter Try.func20, Try.ntmps20
  go_wp2_with (first
    | (go_at_call 16; refine Q.out.mono ?_; rintro e w1 ⟨v, rfl, hv, he⟩; obtain ⟨A2, c2, rfl⟩ := hv.shape)
    | (go_at_call 25; refine (ZzEntsSize_one _ x _ hv hx'.out).mono ?_; rintro e w2 ⟨rfl, he2⟩))
  go_ret
  exact ⟨rfl, he.trans he2⟩

theorem run_neq_pointer_same {P : Program} (w : World) (t e : TypeId) (n : Nat) (b o : Nat) (h : P.underlying t = some (.pointer e)) (hi : (P.info? e).map (·.size) = some (n + 1)) :
    (binOp .neq t (.pointer (some ⟨b, o, none⟩)) (.pointer (some ⟨b, o, none⟩))).run P w = .ok (.bool false) w := by
  obtain ⟨i, hi0, hi1⟩ : ∃ i, P.info? e = some i ∧ i.size = n + 1 := by
    cases hq : P.info? e with
    | none => simp [hq] at hi
    | some i => exact ⟨i, rfl, by simpa [hq] using hi⟩
  have he : (Op.equal t (.pointer (some ⟨b, o, none⟩)) (.pointer (some ⟨b, o, none⟩))).run P w = .ok true w := by
    show (Op.equalIn (9999 + 1) t _ _).run P w = _
    rw [Op.equalIn]
    simp [run_underlying h, sizeOf, typeInfo, hi0, hi1, sameAddr]
  simp only [binOp]
  simp [he]
theorem info_entryb : (Try.prog.info? 63).map (·.size) = some (3 + 1) := by kernel_rfl

set_option maxRecDepth 100000 in
set_option maxHeartbeats 1000000 in
theorem LimitSize_c (v : Value) (es : List Entry) (max : Int) (w : World) (h : EntriesA w v es) (hn : es.length ≤ 2147483647) (hm : 0 ≤ max ∧ max ≤ 18446744073709551615) (hx : ∀ x ∈ es, x.wf) :
    Calls Try.prog 11 #[v, .int .u64 max] w fun e w' => e = .returned (.int .i64 (longest max (sizes es))) ∧ Ext w w' := by
  have Q := Lib.hid (entriesTo_c v es w h hn (fun y hy => by
    have := (hx y hy).2.2.2
    unfold maxLen
    omega))
  have Q2 := Lib.hid (fun A c W h => ZzLimitSize_c A c es max W h hn hm hx)
  have hll : longest max (sizes es) ≤ es.length := by
    have := longest_le max (sizes es)
    simpa [sizes] using this
  generalize longest max (sizes es) = m at *
  obtain ⟨A, c, rfl⟩ := h.shape
  obtain ⟨hm0, hm1⟩ := hm
  clear h hx
  go_enter Try.func11, Try.ntmps11
  go_wp2_with (first
    | (go_at_call 16; refine Q.out.mono ?_; rintro e w1 ⟨v, rfl, hv, he⟩; obtain ⟨A2, c2, rfl⟩ := hv.shape)
    | (go_at_call 19; refine (Q2.out _ _ _ hv).mono ?_; rintro e w2 ⟨rfl, he2⟩))
  have hv' := Lib.hid (hv.ext he2)
  have hE := he.trans he2
  clear hv
  go_loopg [15] m (fun g i wr => ∃ k : Nat, g = m - k ∧ k ≤ m ∧ i = .int .i64 k ∧ Ext w2 wr)
  case atStart => exact ⟨0, rfl, Nat.zero_le _, rfl, Ext.refl _⟩
  case round =>
    obtain ⟨k, hg, hk, rfl, he3⟩ := hrel
    have hg' := Lib.hid hg
    clear hg
    by_cases hlt : k < m
    · obtain ⟨b, o, u, rfl, hc, hu⟩ := hv'.out.elem (k := k) (by omega)
      obtain ⟨bv, rfl⟩ := hu.shape
      have hc' := he3.cellE hc
      have h1 : (k : Int) < (m : Int) := by omega
      have h2 : (k : Int) < (es.length : Int) := by omega
      have h2n : k < es.length := by omega
      have hcmp := fun W => run_neq_pointer_same (P := Try.prog) W 50 63 3 bv 0 Try.underlying50 info_entryb
      have h3 : decide (es.length ≤ k) = false := by
        rw [decide_eq_false_iff_not]
        omega
      clear hc hu
      go_wp2_with fail
      go_quiet (fail)
      go_wp2
      go_roundg (m - (k + 1))
      case rel => exact ⟨k + 1, rfl, by omega, by go_num, he3.drewN _⟩
      case measure =>
        have := hg'.out
        omega
    · have hkk : k = m := by omega
      subst hkk
      go_wp2
      go_ret
      exact ⟨rfl, hE.trans he3⟩

/-- One element alone. -/
theorem EntriesA.one {w : World} {A : Option Addr} {n c : Nat} {es : List Entry} (h : EntriesA w (.slice A n c) es) {k : Nat} (hk : k < es.length) :
    ∃ b o : Nat, A = some ⟨b, o, none⟩ ∧ ∀ c', 1 ≤ c' → c' ≤ maxLen → EntriesA w (.slice (some ⟨b, o + k * 4, none⟩) 1 c') [es[k]] := by
  obtain ⟨A', c', e1, h1, h2, h3, h4⟩ := h
  injection e1 with e1 e2 e3
  subst e1
  obtain ⟨b, o, hA, hel⟩ := h4.elem entryCells_len (by omega) hk
  refine ⟨b, o, hA, fun c' hc0 hc1 => ⟨_, c', rfl, hc0, hc1, rfl, fun i v hi => ⟨b, o + k * 4, rfl, hel i v (by simpa using hi)⟩⟩⟩

set_option maxRecDepth 100000 in
set_option maxHeartbeats 1000000 in
theorem sizesOf_c (v : Value) (es : List Entry) (w : World) (h : EntriesA w v es) (hn : es.length ≤ 2147483647) (hx : ∀ x ∈ es, x.wf) :
    Calls Try.prog 13 #[v] w (RetV w fun v w' => NumsT w' v (sizes es)) := by
  obtain ⟨A, c, rfl⟩ := h.shape
  have hc : es.length ≤ c ∧ c ≤ maxLen := by
    obtain ⟨A', c', e1, h1, h2, _⟩ := h
    injection e1 with e1 e2 e3
    omega
  have h' := Lib.hid h
  have hx' := Lib.hid hx
  obtain ⟨hc1, hc2⟩ := hc
  unfold maxLen at hc2
  clear h hx
  go_enter Try.func13, Try.ntmps13
  go_wp2
  go_loopg [3, 7] es.length (fun g v i wr => ∃ (k : Nat) (A : Option Addr) (c : Nat), g = es.length - k ∧ k ≤ es.length ∧ i = .int .i64 k ∧ v = .slice A k c ∧ wr.ownsRow w.heap.size 25 1 (.slice A k c) k (((sizes es).take k).map (Value.int .u64)) ∧ Ext w wr)
  case atStart => exact ⟨0, none, 0, rfl, Nat.zero_le _, rfl, rfl, World.ownsRow_nil _ _ _ _, Ext.refl _⟩
  case round =>
    obtain ⟨k, A1, c1, hg, hk, rfl, rfl, hown, he⟩ := hrel
    have hg' := Lib.hid hg
    have hown' := Lib.hid hown
    clear hg hown
    by_cases hlt : k < es.length
    · obtain ⟨b, o, rfl, hone⟩ := h'.out.one hlt
      have hwf := Lib.hid (hx'.out _ (List.getElem_mem hlt))
      have hone' := Lib.hid (hone (c - k) (by omega) (by unfold maxLen; omega))
      have h1 : (k : Int) < (es.length : Int) := by omega
      clear hone
      go_wp2_with (first
        | (go_at_call 20; refine (EntsSize_one _ _ _ (hone'.out.ext he) hwf.out).mono ?_; rintro e w1 ⟨rfl, he1⟩)
        | (at_builtin; refine wpList_append_one w1 rfl _ _ _ rfl w.heap.size 25 (.int .u64 0) 1 8 Try.underlying34 info_u64 rfl (by omega) (by omega) A1 k c1 _ rfl #[.int .u64 (esize es[k])] rfl rfl rfl (ownsRow_ext hown'.out he1) (by omega) (he.trans he1).size_le ?_; intro A2 c2 w2 ho hT hE))
      go_roundg (es.length - (k + 1))
      case rel =>
        have hlt2 : k < (sizes es).length := by simpa [sizes] using hlt
        refine ⟨k + 1, A2, c2, rfl, by omega, by go_num, rfl, ?_, hE w (Nat.le_refl _) (he.trans he1)⟩
        rw [List.take_add_one, List.getElem?_eq_getElem hlt2]
        have e1 : (sizes es)[k] = (esize es[k] : Int) := by simp [sizes]
        rw [e1, List.map_append]
        exact ho
      case measure =>
        have := hg'.out
        omega
    · have hkk : k = es.length := by omega
      subst hkk
      go_wp2
      go_ret
      have hsl : (sizes es).length = es.length := by simp [sizes]
      have ho := hown'.out
      rw [List.take_of_length_le (by omega)] at ho
      have ho2 := SliceT.of_own ho
      refine ⟨_, rfl, ?_, he⟩
      unfold NumsT
      rw [hsl]
      exact ho2

end Go.Proofs.Ytlpkdfjelpbokaa
