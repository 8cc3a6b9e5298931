/- zzFits4: entries that are not longer than a model's slice; shortEntries: a copy of at most 60 entries, cut to size. -/
import Derived.Test.YtlpkdfjelpbokaaEntry
import Derived.Test.YtlpkdfjelpbokaaRow
import Derived.StillTailTactics
import Derived.IntWalk
namespace Go.Proofs.Ytlpkdfjelpbokaa
open Go.ChangeShapes Go.WideShapes Go.ChangeAt Go.RowKit
set_option linter.unusedSimpArgs false
set_option linter.unusedVariables false

theorem zzFits5_c (x : Entry) (w : World) : Calls Try.prog 14 #[.agg #[.int .u64 x.term, .int .u64 x.index, .int .i64 x.kind, .string x.data]] w (RetB w fun b => b = true → x.data.size ≤ 2147483647) := by
  go_enter Try.func14, Try.ntmps14
  go_wp2
  · go_ret
    exact ⟨_, rfl, fun h => by simp at h, (Ext.refl w).alloc _⟩
  · go_ret
    exact ⟨_, rfl, fun _ => by omega, (Ext.refl w).alloc _⟩

set_option maxRecDepth 100000 in
set_option maxHeartbeats 1000000 in
theorem zzFits4_c (v : Value) (xs : List Entry) (w : World) (h : EntriesA w v xs) : Calls Try.prog 6 #[v] w (RetB w fun b => b = true → xs.length ≤ 2147483647 ∧ ∀ x ∈ xs, x.data.size ≤ 2147483647) := by
  obtain ⟨A, c, rfl, h1, h2, h3, h4⟩ := h
  have h4' := Lib.hid h4
  have hn : xs.length ≤ 9223372036854775807 := by unfold maxLen at h2; omega
  clear h2 h3 h4
  by_cases hb : (2147483647 : Int) < (xs.length : Int)
  · go_enter Try.func6, Try.ntmps6
    go_wp2
    go_ret
    exact ⟨_, rfl, fun h => by simp at h, Ext.refl w⟩
  · go_enter Try.func6, Try.ntmps6
    go_wp2
    go_loopg [10] xs.length (fun g i wr => ∃ k : Nat, g = xs.length - k ∧ k ≤ xs.length ∧ i = .int .i64 k ∧ (∀ (j : Nat) (x : Entry), j < k → xs[j]? = some x → x.data.size ≤ 2147483647) ∧ Ext w wr)
    case atStart => exact ⟨0, rfl, Nat.zero_le _, rfl, fun j x h => by omega, Ext.refl _⟩
    case round =>
      obtain ⟨k, hg, hk, rfl, hall, he⟩ := hrel
      have hg' := Lib.hid hg
      have hall' := Lib.hid hall
      clear hg hall
      by_cases hlt : k < xs.length
      · obtain ⟨b, o, rfl, hel⟩ := h4'.out.elem entryCells_len (by omega) hlt
        have hd0 := he.cellE (hel 0 _ rfl)
        have hd1 := he.cellE (hel 1 _ rfl)
        have hd2 := he.cellE (hel 2 _ rfl)
        have hd3 := he.cellE (hel 3 _ rfl)
        simp only [Nat.add_zero] at hd0
        have hel' := Lib.hid hel
        clear hel
        go_wp2_with (go_at_call 14; refine (zzFits5_c xs[k] _).mono ?_; rintro e w1 ⟨b5, rfl, hb5, he1⟩; cases b5)
        · go_ret
          exact ⟨_, rfl, fun h => by simp at h, (he.alloc _).trans he1⟩
        · go_roundg (xs.length - (k + 1))
          case rel =>
            refine ⟨k + 1, rfl, by omega, by go_num, fun j x hj hx => ?_, (he.alloc _).trans he1⟩
            rcases Nat.lt_or_ge j k with hjk | hjk
            · exact hall'.out j x hjk hx
            · obtain rfl : j = k := by omega
              rw [List.getElem?_eq_getElem hlt] at hx
              cases hx
              simpa using hb5
          case measure =>
            have := hg'.out
            omega
      · go_wp2
        go_ret
        refine ⟨_, rfl, fun _ => ⟨by omega, fun x hx => ?_⟩, he⟩
        obtain ⟨i, hi, rfl⟩ := List.getElem_of_mem hx
        exact hall'.out i _ (by omega) (List.getElem?_eq_getElem hi)

/-- One entry cut to size. -/
def Entry.short (x : Entry) : Entry := { x with data := x.data.extract 0 (min x.data.size 200), kind := x.kind.tmod 3 % 3 }
def shorts (l : List Entry) : List Entry := (l.take 60).map Entry.short
theorem info_entry : (Try.prog.info? 27).map (fun i => (i.zero, i.size, i.bytes)) = some (some (.agg #[.int .u64 0, .int .u64 0, .int .i64 0, .string .empty]), 4, 40) := by kernel_rfl
theorem entries_one (xs : List Entry) : ∀ u ∈ xs.flatMap entryCells, u.oneCell' = true := by
  intro u hu
  obtain ⟨x, _, hx⟩ := List.mem_flatMap.1 hu
  simp only [entryCells, List.mem_cons, List.not_mem_nil, or_false] at hx
  rcases hx with rfl | rfl | rfl | rfl <;> rfl

/-- The first k of the first m entries of l are cut, the others as they were. -/
def Cut (l ys : List Entry) (m k : Nat) : Prop := ys.length = m ∧ ∀ (i : Nat) (x : Entry), i < m → l[i]? = some x → ys[i]? = some (if i < k then x.short else x)
theorem Cut.zero (l : List Entry) (m : Nat) (hm : m ≤ l.length) : Cut l (l.take m) m 0 :=
  ⟨by rw [List.length_take]; omega, fun i x hi hx => by rw [List.getElem?_take, if_pos hi, hx]; simp⟩
theorem Cut.at_ {l ys : List Entry} {m k : Nat} (h : Cut l ys m k) (hk : k < m) (hm : m ≤ l.length) : ∃ x, x ∈ l ∧ l[k]? = some x ∧ ∃ hy : k < ys.length, ys[k] = x := by
  have e := List.getElem?_eq_getElem (l := l) (i := k) (by omega)
  have hy : k < ys.length := by rw [h.1]; exact hk
  refine ⟨_, List.getElem_mem (by omega), e, hy, ?_⟩
  have h2 := h.2 k _ hk e
  rw [List.getElem?_eq_getElem hy, if_neg (Nat.lt_irrefl _)] at h2
  exact Option.some.inj h2
theorem Cut.step {l ys : List Entry} {m k : Nat} {x : Entry} (h : Cut l ys m k) (hk : k < m) (hx : l[k]? = some x) : Cut l (ys.set k x.short) m (k + 1) := by
  refine ⟨by simpa using h.1, fun i y hi hy => ?_⟩
  rw [List.getElem?_set]
  by_cases hik : k = i
  · subst hik
    rw [hx] at hy
    cases hy
    rw [if_pos rfl, if_pos (by rw [h.1]; exact hk), if_pos (Nat.lt_succ_self _)]
  · rw [if_neg hik, h.2 i y hi hy]
    by_cases h3 : i < k
    · rw [if_pos h3, if_pos (by omega)]
    · rw [if_neg h3, if_neg (by omega)]
theorem Cut.done {l ys : List Entry} {m : Nat} (h : Cut l ys m m) (hm : m = min l.length 60) : ys = shorts l := by
  refine List.ext_getElem? fun i => ?_
  unfold shorts
  rw [List.getElem?_map, List.getElem?_take]
  by_cases hi : i < m
  · have e := List.getElem?_eq_getElem (l := l) (i := i) (by omega)
    rw [h.2 i _ hi e, if_pos (show i < 60 by omega), e]
    simp [hi]
  · rw [List.getElem?_eq_none (by rw [h.1]; omega)]
    by_cases h60 : i < 60
    · rw [if_pos h60, List.getElem?_eq_none (by omega)]
      rfl
    · rw [if_neg h60]
      rfl
theorem flat_take {α : Type} {f : α → List Value} {size : Nat} (hf : ∀ x, (f x).length = size) : ∀ (xs : List α) (m : Nat), (xs.flatMap f).take (m * size) = (xs.take m).flatMap f
  | [], m => by simp
  | x :: xs, 0 => by simp
  | x :: xs, m + 1 => by
    rw [List.flatMap_cons, List.take_succ_cons, List.flatMap_cons, Nat.succ_mul, ← flat_take hf xs m, List.take_append]
    rw [hf, List.take_of_length_le (by rw [hf]; omega), Nat.add_sub_cancel]

theorem short_round {w wr : World} {g0 m c' k : Nat} {l ys : List Entry} {x : Entry} {d : ByteArray} {t : Int} {i : Value}
    (ho : wr.ownsRow w.heap.size 27 4 (.slice (some ⟨g0, 0, none⟩) m c') m (ys.flatMap entryCells)) (hc : Cut l ys m k) (hl : l[k]? = some x) (hky : k < ys.length) (hyk : ys[k] = x) (hlt : k < m)
    (hs : x.short = { x with data := d, kind := t }) (hg : w.heap.size ≤ g0) (he : Ext w wr) (hi : i = .int .i64 ((k + 1 : Nat) : Int)) :
    ∃ (k' : Nat) (ys : List Entry), m - (k + 1) = m - k' ∧ k' ≤ m ∧ i = .int .i64 k' ∧ ((wr.setCell ⟨g0, k * 4 + 3, none⟩ (.string d)).setCell ⟨g0, k * 4 + 2, none⟩ (.int .i64 t)).drew.ownsRow w.heap.size 27 4 (.slice (some ⟨g0, 0, none⟩) m c') m (ys.flatMap entryCells) ∧
      Cut l ys m k' ∧ Ext w ((wr.setCell ⟨g0, k * 4 + 3, none⟩ (.string d)).setCell ⟨g0, k * 4 + 2, none⟩ (.int .i64 t)).drew := by
  have h1 := ownsRow_set (ownsRow_set ho (k * 4 + 3) (.string d)) (k * 4 + 2) (.int .i64 t)
  rw [flat_set entryCells_len ys k 3 hky { x with data := d } _ (by omega) (by rw [hyk]; rfl), flat_set entryCells_len (ys.set k { x with data := d }) k 2 (by simpa using hky) { x with data := d, kind := t } _ (by omega) (by simp [entryCells]), List.set_set] at h1
  refine ⟨k + 1, _, rfl, by omega, hi, h1, ?_, ((he.setCell hg _).setCell hg _).drew⟩
  rw [← hs]
  exact hc.step hlt hl

set_option maxRecDepth 100000 in
set_option maxHeartbeats 1000000 in
theorem shortEntries_c (v : Value) (l : List Entry) (w : World) (h : EntriesA w v l) (hn : l.length ≤ 2147483647) (hd : ∀ x ∈ l, x.data.size ≤ 2147483647) : Calls Try.prog 7 #[v] w (RetV w fun v w' => EntriesT w' v (shorts l)) := by
  obtain ⟨A, c, rfl, h1, h2, h3, h4⟩ := h
  have h4' := Lib.hid (h4.take (min l.length 60 * 4))
  obtain ⟨m, hm⟩ : ∃ m, m = min l.length 60 := ⟨_, rfl⟩
  have hm0 : m ≤ l.length := by omega
  have hm1 : m ≤ 60 := by omega
  have hmi : (m : Int) = min (l.length : Int) 60 := by omega
  have hmi' := Lib.hid hmi
  rw [← hm] at h4'
  have hxs : l.take 60 = l.take m := by
    rcases Nat.le_total l.length 60 with h | h
    · rw [List.take_of_length_le h, List.take_of_length_le (by omega)]
    · rw [show m = 60 by omega]
  have hcells : (l.flatMap entryCells).take (m * 4) = (l.take m).flatMap entryCells := flat_take entryCells_len l m
  rw [hcells] at h4'
  have hlen : ((l.take m).flatMap entryCells).length = m * 4 := by
    rw [flat_length entryCells_len, List.length_take]
    congr 1
    omega
  have hxs' := Lib.hid hxs
  have hlen' := Lib.hid hlen
  clear h3 h4 hmi hcells hxs hlen
  have hm' := Lib.hid hm
  have hd' := Lib.hid hd
  clear hm hd
  go_enter Try.func7, Try.ntmps7
  go_wp2_with (first
    | refine wpList_min2 rfl _ _ _ rfl .i64 _ _ m rfl rfl hmi'.out ?_
    | (at_builtin; refine wpList_append_row _ rfl _ _ _ rfl w.heap.size 27 (.agg #[.int .u64 0, .int .u64 0, .int .i64 0, .string .empty]) 4 40 Try.underlying22 info_entry rfl (by omega) (.slice (some ⟨w.heap.size, 0, none⟩) 0 0) 0 [] rfl ⟨rfl, .inr ⟨w.heap.size, 0, #[], rfl, Nat.le_refl _, (Blk.new w 27 #[]).out, Nat.le_refl _, by simp [maxLen], rfl, rfl⟩⟩ A m c ((l.take m).flatMap entryCells) rfl hlen'.out ((h4'.out).ext ((Ext.refl w).alloc _)) (entries_one _) (by unfold maxLen; omega) (by omega) ((Ext.refl w).alloc _).size_le ?_; intro A' c' w1 ho hg hb))
  rw [Nat.zero_add, List.nil_append] at ho
  have he1 : Ext w w1 := ((Ext.refl w).alloc _).grown hg (fun k hk => by cases hk; exact Nat.le_refl _)
  clear hg hb
  have hl' : (l.take m).length = m := by rw [List.length_take]; omega
  have hl := Lib.hid hl'
  have ho' := Lib.hid ho
  have hm1' := hm1
  clear ho hl'
  go_loopg [14] m (fun g i wr => ∃ (k : Nat) (ys : List Entry), g = m - k ∧ k ≤ m ∧ i = .int .i64 k ∧ wr.ownsRow w.heap.size 27 4 (.slice A' m c') m (ys.flatMap entryCells) ∧ Cut l ys m k ∧ Ext w wr)
  case atStart => exact ⟨0, _, rfl, Nat.zero_le _, rfl, ho'.out, Cut.zero l m hm0, he1⟩
  case round =>
    obtain ⟨k, ys, hg, hk, rfl, hown, hcut, he⟩ := hrel
    have hg' := Lib.hid hg
    clear hg
    by_cases hlt : k < m
    · obtain ⟨g0, rfl, hgb, hfz, hgs⟩ := ownsRow_addr hown (by omega)
      obtain ⟨x, hxl, hlk, hky, hyk⟩ := hcut.at_ hlt hm0
      obtain ⟨b, o, e0, hel⟩ := (RowR.of_own hown).elem entryCells_len (by omega) hky
      injection e0 with e0
      injection e0 with e1 e2 e3
      subst e1 e2
      clear e3
      rw [hyk] at hel
      have hd2 := hel 2 (.int .i64 x.kind) rfl
      have hd3 := hel 3 (.string x.data) rfl
      have hds := hd'.out x hxl
      have hel' := Lib.hid hel
      have hown' := Lib.hid hown
      have hcut' := Lib.hid hcut
      have hlk' := Lib.hid hlk
      have hyk' := Lib.hid hyk
      clear hel hown hcut hlk hyk hxl
      simp only [Nat.zero_add] at hd2 hd3
      have hltI : (k : Int) < (m : Int) := by omega
      have hf2 := hfz (k * 4 + 2)
      have hf3 := hfz (k * 4 + 3)
      have hm3 : -3 < x.kind.tmod 3 ∧ x.kind.tmod 3 < 3 := by
        have h1 := Int.tmod_lt_of_pos x.kind (show (0 : Int) < 3 by decide)
        refine ⟨?_, h1⟩
        rcases Int.le_total 0 x.kind with h | h
        · have := Int.tmod_nonneg 3 h
          omega
        · have h2 := Int.tmod_lt_of_pos (-x.kind) (show (0 : Int) < 3 by decide)
          rw [Int.neg_tmod] at h2
          omega
      by_cases hbig : (200 : Int) < (x.data.size : Int)
      · have hbig2 : (200 : Int) ≤ (x.data.size : Int) := by omega
        go_wp2_with fail
        go_still_tail 15, (by kernel_rfl)
        change wpList _ _ _ _ _ _
        go_wp2_with fail
        go_roundg (m - (k + 1))
        case rel =>
          have hsh : x.short = { x with data := x.data.extract 0 200, kind := x.kind.tmod 3 % 3 } := by
            unfold Entry.short
            rw [show min x.data.size 200 = 200 by omega]
          exact short_round hown'.out hcut'.out hlk'.out hky hyk'.out hlt hsh hgb he (by go_num)
        case measure =>
          have := hg'.out
          omega
      · have hbig2 : (x.data.size : Int) ≤ (200 : Int) := by omega
        have hite : (if (200 : Int) < (x.data.size : Int) then (200 : Int) else (x.data.size : Int)) = (x.data.size : Int) := if_neg hbig
        go_wp2_with fail
        go_still_tail 15, (by kernel_rfl)
        change wpList _ _ _ _ _ _
        go_wp2_with fail
        go_roundg (m - (k + 1))
        case rel =>
          have hsh : x.short = { x with data := x.data, kind := x.kind.tmod 3 % 3 } := by
            unfold Entry.short
            rw [show min x.data.size 200 = x.data.size by omega, ByteArray.extract_zero_size]
          exact short_round hown'.out hcut'.out hlk'.out hky hyk'.out hlt hsh hgb he (by go_num)
        case measure =>
          have := hg'.out
          omega
    · go_wp2
      go_ret
      have hkm : k = m := by omega
      subst hkm
      have hys := hcut.done hm'.out
      have ho := SliceT.of_own hown
      refine ⟨_, rfl, ?_, he⟩
      unfold EntriesT
      have hlen : (shorts l).length = k := by rw [← hys]; exact hcut.1
      rw [hlen, ← hys]
      exact ho

end Go.Proofs.Ytlpkdfjelpbokaa
