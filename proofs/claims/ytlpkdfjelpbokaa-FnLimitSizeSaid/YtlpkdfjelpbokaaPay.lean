/- The size of payloads: payloadSize, payloadsSize, PayloadsSize; the law FnPayloads' walk. -/
import Derived.Test.YtlpkdfjelpbokaaEntryGet
import Derived.Test.YtlpkdfjelpbokaaShort
namespace Go.Proofs.Ytlpkdfjelpbokaa
open Go.ChangeShapes Go.WideShapes Go.ChangeAt Go.RowKit
set_option linter.unusedSimpArgs false
set_option linter.unusedVariables false

/-- The sum of the lengths of the data. -/
def total (es : List Entry) : Nat := (es.map (·.data.size)).sum
theorem total_snoc (es : List Entry) (k : Nat) (hk : k < es.length) : total (es.take (k + 1)) = total (es.take k) + es[k].data.size := by
  unfold total
  rw [List.take_add_one, List.getElem?_eq_getElem hk, List.map_append, List.sum_append]
  simp only [Option.toList, List.map_cons, List.map_nil, List.sum_cons, List.sum_nil, Nat.add_zero]
theorem total_le (es : List Entry) (B : Nat) (h : ∀ x ∈ es, x.data.size ≤ B) : total es ≤ es.length * B := by
  unfold total
  induction es with
  | nil => simp
  | cons x es ih =>
    have h1 := ih (fun y hy => h y (by simp [hy]))
    have h2 := h x (by simp)
    simp only [List.map_cons, List.sum_cons, List.length_cons, Nat.succ_mul]
    omega
theorem total_take_le (es : List Entry) (B : Nat) (h : ∀ x ∈ es, x.data.size ≤ B) (k : Nat) : total (es.take k) ≤ es.length * B := by
  refine Nat.le_trans (total_le _ B (fun x hx => h x (List.mem_of_mem_take hx))) (Nat.mul_le_mul ?_ (Nat.le_refl _))
  rw [List.length_take]
  omega

theorem payloadSize_c (v : Value) (x : Entry) (w : World) (h : EntryP w v x) (hd : x.data.size ≤ 2147483647) : Calls Try.prog 26 #[v] w fun e w' => e = .returned (.int .u64 x.data.size) ∧ w = w' := by
  have Q := Lib.hid (GetData_c v x w h)
  obtain ⟨b, rfl⟩ := h.shape
  clear h
  go_enter Try.func26, Try.ntmps26
  go_wp2_with (go_at_call 32; refine Q.out.mono ?_; rintro e w' ⟨u, rfl, hu, rfl⟩; obtain ⟨A, c, rfl⟩ := hu.shape)
  go_ret
  exact ⟨rfl, rfl⟩

set_option maxRecDepth 100000 in
set_option maxHeartbeats 1000000 in
theorem payloadsSize_c (v : Value) (es : List Entry) (w : World) (h : EntriesP w v es) (hn : es.length ≤ 2147483647) (hd : ∀ x ∈ es, x.data.size ≤ 2147483647) :
    Calls Try.prog 21 #[v] w fun e w' => e = .returned (.int .u64 (total es)) ∧ Ext w w' := by
  obtain ⟨A, c, rfl⟩ := h.shape
  have h' := Lib.hid h
  have hd' := Lib.hid hd
  have hb := Lib.hid (fun k => Nat.le_trans (total_take_le es 2147483647 hd k) (show es.length * 2147483647 ≤ 4611686014132420609 from Nat.le_trans (Nat.mul_le_mul hn (Nat.le_refl _)) (by decide)))
  clear h hd
  go_enter Try.func21, Try.ntmps21
  go_wp2
  go_loopg [3, 8] es.length (fun g s i wr => ∃ k : Nat, g = es.length - k ∧ k ≤ es.length ∧ i = .int .i64 k ∧ s = .int .u64 (total (es.take k)) ∧ Ext w wr)
  case atStart => exact ⟨0, rfl, Nat.zero_le _, rfl, rfl, Ext.refl _⟩
  case round =>
    obtain ⟨k, hg, hk, rfl, rfl, he⟩ := hrel
    have hg' := Lib.hid hg
    clear hg
    by_cases hlt : k < es.length
    · obtain ⟨b, o, v, rfl, hc, hv⟩ := h'.out.elem hlt
      have hc' := he.cellE hc
      have hv' := Lib.hid (hv.ext he)
      have hs1 := hb.out (k + 1)
      rw [total_snoc es k hlt] at hs1
      have hs : (total (es.take k) : Int) + (es[k].data.size : Int) ≤ 4611686014132420609 := by omega
      have hs0 : (0 : Int) ≤ (total (es.take k) : Int) + (es[k].data.size : Int) := by omega
      clear hv hc
      generalize ht : total (es.take k) = t at *
      have ht' := Lib.hid ht
      clear ht hs1
      obtain ⟨bv, rfl⟩ := hv'.out.shape
      go_wp2_with (go_at_call 26; refine (payloadSize_c _ _ _ hv'.out (hd'.out _ (List.getElem_mem hlt))).mono ?_; rintro e w' ⟨rfl, rfl⟩)
      go_roundg (es.length - (k + 1))
      case rel =>
        refine ⟨k + 1, rfl, by omega, by go_num, ?_, he⟩
        rw [total_snoc es k hlt, ht'.out]
        go_num
      case measure =>
        have := hg'.out
        omega
    · go_wp2
      go_ret
      have hkk : k = es.length := by omega
      subst hkk
      rw [List.take_of_length_le (Nat.le_refl _)]
      exact ⟨rfl, he⟩

theorem ZzPayloadsSize_c (v : Value) (es : List Entry) (w : World) (h : EntriesP w v es) (hn : es.length ≤ 2147483647) (hd : ∀ x ∈ es, x.data.size ≤ 2147483647) :
    Calls Try.prog 15 #[v] w fun e w' => e = .returned (.int .u64 (total es)) ∧ Ext w w' := by
  have Q := Lib.hid (payloadsSize_c v es w h hn hd)
  have hb : total es ≤ 4611686014132420609 := Nat.le_trans (total_le es 2147483647 hd) (Nat.le_trans (Nat.mul_le_mul hn (Nat.le_refl _)) (by decide))
  obtain ⟨A, c, rfl⟩ := h.shape
  clear h hd
  go_enter Try.func15, Try.ntmps15
  go_wp2_with (go_at_call 21; refine Q.out.mono ?_; rintro e w1 ⟨rfl, he⟩)
  go_ret
  exact ⟨rfl, he⟩

theorem PayloadsSize_c (v : Value) (es : List Entry) (w : World) (h : EntriesA w v es) (hn : es.length ≤ 2147483647) (hd : ∀ x ∈ es, x.data.size ≤ 2147483647) :
    Calls Try.prog 8 #[v] w fun e w' => e = .returned (.int .u64 (total es)) ∧ Ext w w' := by
  have Q := Lib.hid (fun W (e : Ext w W) => entriesTo_c v es W (h.ext e) hn (fun x hx => by have := hd x hx; unfold maxLen; omega))
  have Q2 := Lib.hid (fun v W h => ZzPayloadsSize_c v es W h hn hd)
  obtain ⟨A, c, rfl⟩ := h.shape
  clear h hd
  go_enter Try.func8, Try.ntmps8
  go_wp2_with (first
    | (go_at_call 16; refine (Q.out _ (Ext.refl _)).mono ?_; rintro e w1 ⟨v, rfl, hv, he⟩; obtain ⟨A2, c2, rfl⟩ := hv.shape)
    | (go_at_call 15; refine (Q2.out _ _ hv).mono ?_; rintro e w2 ⟨rfl, he2⟩))
  go_ret
  exact ⟨rfl, he.trans he2⟩

theorem shorts_len (l : List Entry) : (shorts l).length ≤ 60 := by
  unfold shorts
  rw [List.length_map, List.length_take]
  omega
theorem short_size (x : Entry) : x.short.data.size ≤ 200 := by
  unfold Entry.short
  simp only [ByteArray.size_extract]
  omega
theorem shorts_size (l : List Entry) : ∀ x ∈ shorts l, x.data.size ≤ 200 := by
  intro x hx
  obtain ⟨y, _, rfl⟩ := List.mem_map.1 hx
  exact short_size y

set_option maxRecDepth 100000 in
set_option maxHeartbeats 1000000 in
theorem fnPayloads_walk (v : Value) (l : List Entry) (w : World) (h : EntriesA w v l) : Calls Try.prog 3 #[v] w (Yes w) := by
  have Q := Lib.hid (fun W (e : Ext w W) => zzFits4_c v l W (h.ext e))
  have Q2 := Lib.hid (fun W (e : Ext w W) => shortEntries_c v l W (h.ext e))
  have hsl := shorts_len l
  have hss := shorts_size l
  generalize hes : shorts l = es at *
  have hb := Lib.hid (fun k => Nat.le_trans (total_take_le es 200 hss k) (show es.length * 200 ≤ 12000 by omega))
  have hss' := Lib.hid hss
  clear hes hss
  obtain ⟨A, c, rfl⟩ := h.shape
  clear h
  go_enter Try.func3, Try.ntmps3
  go_wp2_with (first
    | (go_at_call 6; refine (Q.out _ (Ext.refl _)).mono ?_; rintro e w1 ⟨b, rfl, hfit, he⟩; cases b)
    | (go_at_call 7; refine (Q2.out _ he (hfit (by simp)).1 (hfit (by simp)).2).mono ?_; rintro e w2 ⟨v, rfl, hv, he2⟩; obtain ⟨A2, c2, rfl⟩ := hv.shape))
  · go_ret
    exact ⟨rfl, he⟩
  · have hE := he.trans he2
    have hv4 := Lib.hid hv.old
    have Q3 := Lib.hid (fun W (e : Ext w2 W) => PayloadsSize_c _ _ W (hv.old.ext e) (by omega) (fun x hx => by have := hss'.out x hx; omega))
    clear hfit hv
    go_loopg [4, 13] es.length (fun g s i wr => ∃ k : Nat, g = es.length - k ∧ k ≤ es.length ∧ i = .int .i64 k ∧ s = .int .i64 (total (es.take k)) ∧ Ext w2 wr)
    case atStart => exact ⟨0, rfl, Nat.zero_le _, rfl, rfl, Ext.refl _⟩
    case round =>
      obtain ⟨k, hg, hk, rfl, rfl, he3⟩ := hrel
      have hg' := Lib.hid hg
      clear hg
      by_cases hlt : k < es.length
      · obtain ⟨A', c', e1, h1, h2, h3, h4⟩ := hv4.out
        injection e1 with e1 e0 e2
        clear e0
        subst e1 e2
        obtain ⟨b, o, rfl, hel⟩ := h4.elem entryCells_len (by omega) hlt
        have hd3 := he3.cellE (hel 3 _ rfl)
        have hel' := Lib.hid hel
        have h4' := Lib.hid h4
        clear hel h1 h2 h3 h4
        have hs1 := hb.out (k + 1)
        rw [total_snoc es k hlt] at hs1
        have hs : (total (es.take k) : Int) + (es[k].data.size : Int) ≤ 12000 := by omega
        have hs0 : (0 : Int) ≤ (total (es.take k) : Int) + (es[k].data.size : Int) := by omega
        generalize ht : total (es.take k) = t at *
        have ht' := Lib.hid ht
        clear ht hs1
        go_wp2
        go_roundg (es.length - (k + 1))
        case rel =>
          refine ⟨k + 1, rfl, by omega, by go_num, ?_, he3⟩
          rw [total_snoc es k hlt, ht'.out]
          go_num
        case measure =>
          have := hg'.out
          omega
      · have hkk : k = es.length := by omega
        have hs1 := hb.out k
        rw [hkk, List.take_of_length_le (Nat.le_refl _)] at hs1 ⊢
        have hs : (total es : Int) ≤ 12000 := by omega
        clear hs1 hkk
        go_wp2_with (go_at_call 8; refine (Q3.out _ he3).mono ?_; rintro e w4 ⟨rfl, he4⟩)
        go_ret
        exact ⟨rfl, (hE.trans he3).trans he4⟩

end Go.Proofs.Ytlpkdfjelpbokaa
