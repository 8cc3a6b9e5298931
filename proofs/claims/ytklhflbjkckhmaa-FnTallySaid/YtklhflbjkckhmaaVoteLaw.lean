/- spec.VoteResult, few, impl.VoteResult; the law FnVoteResult's walk. -/
import Derived.Test.YtklhflbjkckhmaaSpecSet
namespace Go.Proofs.Ytklhflbjkckhmaa
open Go.ChangeShapes Go.WideShapes Go.ChangeAt Go.RowKit
set_option linter.unusedSimpArgs false
set_option linter.unusedVariables false

set_option maxRecDepth 100000 in
set_option maxHeartbeats 1000000 in
/-- few of one list. -/
theorem few_one (A : Option Addr) (n c : Nat) (b : Nat) (w : World) (h : w.cell? ⟨b, 0, none⟩ = some (.slice A n c)) (hn : n ≤ 2147483647) :
    Calls Try.prog 10 #[.slice (some ⟨b, 0, none⟩) 1 1] w fun e w' => e = .returned (.bool (decide (n ≤ 40))) ∧ Ext w w' := by
  by_cases hb : n ≤ 40
  · have hd : decide (n ≤ 40) = true := by simpa using hb
    have hd' := Lib.hid hd
    clear hd
    go_enter Try.func10, Try.ntmps10
    go_wp2
    go_loopg [7] 1 (fun g i wr => (g = 1 ∧ i = .int .i64 0 ∧ wr = w) ∨ (g = 0 ∧ i = .int .i64 1 ∧ wr = w))
    case atStart => exact .inl ⟨rfl, rfl, rfl⟩
    case round =>
      rcases hrel with ⟨hg, rfl, hw⟩ | ⟨hg, rfl, hw⟩
      · subst hw
        have hg' := Lib.hid hg
        clear hg
        go_wp2
        go_roundg 0
        case rel => exact .inr ⟨rfl, by simp, rfl⟩
        case measure =>
          have := hg'.out
          omega
      · subst hw
        go_wp2
        go_ret
        exact ⟨by rw [hd'.out]; rfl, Ext.refl _⟩
  · have hd : decide (n ≤ 40) = false := by simpa using hb
    have hd' := Lib.hid hd
    have hb2 : (40 : Int) < (n : Int) := by omega
    clear hd
    go_enter Try.func10, Try.ntmps10
    go_wp2
    go_loopg [7] 1 (fun g i wr => (g = 1 ∧ i = .int .i64 0 ∧ wr = w))
    case atStart => exact ⟨rfl, rfl, rfl⟩
    case round =>
      obtain ⟨hg, rfl, hw⟩ := hrel
      subst hw
      clear hg
      go_wp2
      go_ret
      exact ⟨by rw [hd'.out]; rfl, Ext.refl _⟩

set_option maxRecDepth 100000 in
set_option maxHeartbeats 1000000 in
theorem specVoteResult_c (v u : Value) (ids : List Int) (bs : List Ballot) (w : World) (h : NumsR w v ids) (h2 : BallotsR w u bs) (hn : ids.length ≤ 1000000000) (hm : bs.length ≤ 2147483647) (l : List Int) (hl : IsSet l ids) :
    Calls Try.prog 12 #[v, u] w fun e w' => e = .returned (.int .i64 (voteOf (lastB bs) l)) ∧ Ext w w' := by
  have Q := Lib.hid (specSet_c v ids w h hn)
  have Q2 := Lib.hid (fun k W (e : Ext w W) => specVote_c k u bs W (h2.ext e) hm)
  obtain ⟨A, c, rfl⟩ := h.shape
  obtain ⟨A2, c2, rfl⟩ := h2.shape
  have hll := hl.len
  have hl' := Lib.hid hl
  clear h h2 hl
  go_enter Try.func12, Try.ntmps12
  go_wp2_with (go_at_call 23; refine Q.out.mono ?_; rintro e w1 ⟨v, rfl, ⟨l2, hv, hset⟩, he⟩; have hl2 := hset.eq hl'.out; subst hl2; obtain ⟨A3, c3, rfl⟩ := hv.shape)
  have hv' := Lib.hid hv
  generalize hf : lastB bs = f at *
  have hset' := Lib.hid hset
  have hf' := Lib.hid hf
  clear hv hset hf
  go_loopg [6, 7, 14] l2.length (fun g y o i wr => ∃ (k : Nat), g = l2.length - k ∧ k ≤ l2.length ∧ i = .int .i64 k ∧ y = .int .i64 (yesIn f (l2.take k)) ∧ o = .int .i64 (openIn f (l2.take k)) ∧ Ext w1 wr)
  case atStart => exact ⟨0, rfl, Nat.zero_le _, rfl, rfl, rfl, Ext.refl _⟩
  case round =>
    obtain ⟨k, hg, hk, rfl, rfl, rfl, he3⟩ := hrel
    have hg' := Lib.hid hg
    have hyl : (yesIn f (l2.take k) : Int) ≤ 1000000000 := by
      have := List.countP_le_length (p := fun k => f k == some true) (l := l2.take k)
      rw [List.length_take] at this
      unfold yesIn
      omega
    have hol : (openIn f (l2.take k) : Int) ≤ 1000000000 := by
      have := List.countP_le_length (p := fun k => f k == none) (l := l2.take k)
      rw [List.length_take] at this
      unfold openIn
      omega
    clear hg
    by_cases hlt : k < l2.length
    · have hvu := hv'.out.nums
      unfold NumsR at hvu
      obtain ⟨A4, c4, e1, h1, h2, h3, h4⟩ := hvu
      injection e1 with e1 e0 e2
      clear e0
      subst e1 e2
      obtain ⟨b, o, rfl, hc⟩ := h4.at_ (i := k) (by simpa using hlt)
      have hc' := he3.cellE hc
      simp only [List.getElem_map] at hc'
      have h4' := Lib.hid h4
      clear h1 h2 h3 h4 hc
      have hy2 : yesIn f (l2.take (k + 1)) = yesIn f (l2.take k) + if f l2[k] = some true then 1 else 0 := by
        rw [List.take_add_one, List.getElem?_eq_getElem hlt, Option.toList, yesIn_snoc]
      have ho2 : openIn f (l2.take (k + 1)) = openIn f (l2.take k) + if f l2[k] = none then 1 else 0 := by
        rw [List.take_add_one, List.getElem?_eq_getElem hlt, Option.toList, openIn_snoc]
      generalize hx : l2[k] = x at *
      have hx' := Lib.hid hx
      have hy2' := Lib.hid hy2
      have ho2' := Lib.hid ho2
      clear hx hy2 ho2
      generalize yesIn f (l2.take k) = yy at *
      generalize openIn f (l2.take k) = oo at *
      have hfx : ∃ z, f x = z := ⟨_, rfl⟩
      obtain ⟨z, hz⟩ := hfx
      have hz' := Lib.hid hz
      clear hz
      rcases z with _ | (_ | _)
      all_goals (
        go_wp2_with (go_at_call 34; refine (Q2.out x _ (he.trans he3)).mono ?_; rintro e w4 ⟨rfl, he4⟩; rw [hz'.out]; simp only [voteV])
        go_roundg (l2.length - (k + 1))
        case rel =>
          refine ⟨k + 1, rfl, by omega, by go_num, ?_, ?_, he3.trans he4⟩
          · rw [hy2'.out, hz'.out]
            go_num
          · rw [ho2'.out, hz'.out]
            go_num
        case measure =>
          have := hg'.out
          omega)
    · have hkk : k = l2.length := by omega
      subst hkk
      rw [List.take_of_length_le (Nat.le_refl _)] at hyl hol ⊢
      have hvo : voteOf (lastB bs) l2 = vres l2.length (yesIn f l2) (openIn f l2) := by
        rw [hf'.out]
        rfl
      have hvo' := Lib.hid hvo
      clear hvo
      generalize yesIn f l2 = yy at *
      generalize openIn f l2 = oo at *
      have hE := he.trans he3
      by_cases h0 : l2.length = 0
      · have hr : vres l2.length yy oo = 3 := by rw [vres, if_pos h0]
        have hr' := Lib.hid hr
        have hob : ((l2.length : Int) == 0) = true := by simpa using h0
        clear hr h0
        go_wp2
        all_goals go_ret
        all_goals exact ⟨by rw [hvo'.out, hr'.out]; rfl, hE⟩
      · have hob : ((l2.length : Int) == 0) = false := by simpa using h0
        by_cases hy : (l2.length : Int) < 2 * (yy : Int)
        · have hr : vres l2.length yy oo = 3 := by rw [vres, if_neg h0, if_pos (by omega)]
          have hr' := Lib.hid hr
          clear hr h0
          go_wp2
          all_goals go_ret
          all_goals exact ⟨by rw [hvo'.out, hr'.out]; rfl, hE⟩
        · by_cases ho : (l2.length : Int) < 2 * ((yy : Int) + (oo : Int))
          · have hr : vres l2.length yy oo = 1 := by rw [vres, if_neg h0, if_neg (by omega), if_pos (by omega)]
            have hr' := Lib.hid hr
            clear hr h0
            go_wp2
            all_goals go_ret
            all_goals exact ⟨by rw [hvo'.out, hr'.out]; rfl, hE⟩
          · have hr : vres l2.length yy oo = 2 := by rw [vres, if_neg h0, if_neg (by omega), if_neg (by omega)]
            have hr' := Lib.hid hr
            clear hr h0
            go_wp2
            all_goals go_ret
            all_goals exact ⟨by rw [hvo'.out, hr'.out]; rfl, hE⟩

theorem vres_bd (n y o : Nat) : 1 ≤ vres n y o ∧ vres n y o ≤ 3 := by
  unfold vres
  split
  · omega
  · split
    · omega
    · split <;> omega

theorem voteOf_bd (f : Int → Option Bool) (l : List Int) : 1 ≤ voteOf f l ∧ voteOf f l ≤ 3 := vres_bd _ _ _

set_option maxRecDepth 100000 in
set_option maxHeartbeats 1000000 in
theorem implVoteResult_c (v u : Value) (ids : List Int) (bs : List Ballot) (w : World) (h : NumsR w v ids) (h2 : BallotsR w u bs) (hn : ids.length ≤ 2147483647) (hm : bs.length ≤ 2147483647) (hu : ∀ k ∈ ids, U64 k) (hub : ∀ x ∈ bs, U64 x.id) :
    Calls Try.prog 11 #[v, u] w fun e w' => (∃ l, IsSet l ids ∧ e = .returned (.int .i64 (voteOf (lastB bs) l))) ∧ Ext w w' := by
  have Q := Lib.hid (voters_c v ids w h hn hu)
  have Q2 := Lib.hid (fun W (e : Ext w W) => ballots_c u bs W (h2.ext e) hm hub)
  have Q3 := Lib.hid (fun b b2 l W h1 h2 h3 => majVote_c b b2 l (lastB bs) W h1 h2 h3)
  obtain ⟨A, c, rfl⟩ := h.shape
  obtain ⟨A2, c2, rfl⟩ := h2.shape
  clear h h2 hu hub
  go_enter Try.func11, Try.ntmps11
  go_wp2_with (first
    | (go_at_call 31; refine Q.out.mono ?_; rintro e w1 ⟨v, rfl, ⟨b, l, rfl, hs, hset⟩, he⟩)
    | (go_at_call 33; refine (Q2.out _ he).mono ?_; rintro e w2 ⟨v, rfl, ⟨b2, rfl, hv⟩, he2⟩)
    | (go_at_call 32; refine (Q3.out b b2 l _ (MapV.ext hs he2) hv (Nat.le_trans hset.len hn)).mono ?_; rintro e w3 ⟨rfl, he3⟩; obtain ⟨hb1, hb3⟩ := voteOf_bd (lastB bs) l))
  go_ret
  exact ⟨⟨l, hset, rfl⟩, (he.trans he2).trans he3⟩

set_option maxRecDepth 100000 in
set_option maxHeartbeats 1000000 in
theorem fnVoteResult_walk (v u : Value) (ids : List Int) (bs : List Ballot) (w : World) (h : NumsR w v ids) (h2 : BallotsR w u bs) (hu : ∀ k ∈ ids, U64 k) (hub : ∀ x ∈ bs, U64 x.id) (hl1 : ids.length ≤ maxLen) (hl2 : bs.length ≤ maxLen) :
    Calls Try.prog 3 #[v, u] w (Yes w) := by
  have Q := Lib.hid (fun W (e : Ext w W) (hn : ids.length ≤ 2147483647) (hm : bs.length ≤ 2147483647) => implVoteResult_c v u ids bs W (h.ext e) (h2.ext e) hn hm hu hub)
  have Q2 := Lib.hid (fun W (e : Ext w W) (hn : ids.length ≤ 1000000000) (hm : bs.length ≤ 2147483647) l hl => specVoteResult_c v u ids bs W (h.ext e) (h2.ext e) hn hm l hl)
  obtain ⟨A, c, rfl⟩ := h.shape
  obtain ⟨A2, c2, rfl⟩ := h2.shape
  unfold maxLen at hl1 hl2
  clear h h2 hu hub
  by_cases hbig : (2147483647 : Int) < (ids.length : Int)
  · go_enter Try.func3, Try.ntmps3
    go_wp2
    go_ret
    exact ⟨rfl, Ext.refl _⟩
  · by_cases hbig2 : (2147483647 : Int) < (bs.length : Int)
    · go_enter Try.func3, Try.ntmps3
      go_wp2
      go_ret
      exact ⟨rfl, Ext.refl _⟩
    · by_cases h40 : ids.length ≤ 40
      · by_cases h41 : (40 : Int) < (bs.length : Int)
        · have hd : decide (ids.length ≤ 40) = true := by simpa using h40
          go_enter Try.func3, Try.ntmps3
          go_wp2_with (go_at_call 10; refine (few_one A ids.length c w.heap.size _ (by simp) (by omega)).mono ?_; rintro e w1 ⟨rfl, he⟩; rw [hd])
          go_ret
          exact ⟨rfl, ((Ext.refl w).alloc _).trans he⟩
        · have hd : decide (ids.length ≤ 40) = true := by simpa using h40
          go_enter Try.func3, Try.ntmps3
          go_wp2_with (first
            | (go_at_call 10; refine (few_one A ids.length c w.heap.size _ (by simp) (by omega)).mono ?_; rintro e w1 ⟨rfl, he⟩; rw [hd]; have hE := ((Ext.refl w).alloc (.cells #[.slice A ids.length c] 22)).trans he)
            | (go_at_call 11; refine (Q.out _ hE (by omega) (by omega)).mono ?_; rintro e w2 ⟨⟨l, hl, rfl⟩, he2⟩)
            | (go_at_call 12; refine (Q2.out _ (hE.trans he2) (by omega) (by omega) l hl).mono ?_; rintro e w3 ⟨rfl, he3⟩))
          go_ret
          exact ⟨rfl, (hE.trans he2).trans he3⟩
      · have hd : decide (ids.length ≤ 40) = false := by simpa using h40
        go_enter Try.func3, Try.ntmps3
        go_wp2_with (go_at_call 10; refine (few_one A ids.length c w.heap.size _ (by simp) (by omega)).mono ?_; rintro e w1 ⟨rfl, he⟩; rw [hd])
        go_ret
        exact ⟨rfl, ((Ext.refl w).alloc _).trans he⟩

end Go.Proofs.Ytklhflbjkckhmaa
