/- A joint configuration's vote. -/
import Derived.Test.YtklhflbjkckhmaaVoteLaw
namespace Go.Proofs.Ytklhflbjkckhmaa
open Go.ChangeShapes Go.WideShapes Go.ChangeAt Go.RowKit
set_option linter.unusedSimpArgs false
set_option linter.unusedVariables false

/-- The result of two halves. -/
def jv (a b : Int) : Int := if a = b then a else if a = 2 ∨ b = 2 then 2 else 1

set_option maxRecDepth 100000 in
set_option maxHeartbeats 1000000 in
theorem jointVoteG_c (m0 m1 : Option Nat) (b2 : Nat) (a b : Int) (w : World)
    (hQ : ∀ W, Ext w W → Calls Try.prog 32 #[.map m0, .map (some b2)] W fun e w' => e = .returned (.int .u8 a) ∧ Ext W w')
    (hQ1 : ∀ W, Ext w W → Calls Try.prog 32 #[.map m1, .map (some b2)] W fun e w' => e = .returned (.int .u8 b) ∧ Ext W w') (ha : 1 ≤ a ∧ a ≤ 3) (hb : 1 ≤ b ∧ b ≤ 3) :
    Calls Try.prog 35 #[.agg #[.map m0, .map m1], .map (some b2)] w fun e w' => e = .returned (.int .u8 (jv a b)) ∧ Ext w w' := by
  have Q := Lib.hid hQ
  have Q1 := Lib.hid hQ1
  clear hQ hQ1
  obtain ⟨ha1, ha3⟩ := ha
  obtain ⟨hb1, hb3⟩ := hb
  by_cases hab : a = b
  · have hr : jv a b = a := by rw [jv, if_pos hab]
    have hr' := Lib.hid hr
    clear hr
    subst hab
    go_enter Try.func35, Try.ntmps35
    go_wp2_with (go_at_call 32; first
      | (refine (Q1.out _ (((Ext.refl w).alloc _).trans he)).mono ?_; rintro e w2 ⟨rfl, he2⟩)
      | (refine (Q.out _ ((Ext.refl w).alloc _)).mono ?_; rintro e w1 ⟨rfl, he⟩; obtain ⟨hcell, hfroz⟩ := he.rules))
    go_ret
    exact ⟨by rw [hr'.out]; rfl, (((Ext.refl w).alloc _).trans he).trans he2⟩
  · have hbb : (a == b) = false := by simpa using hab
    by_cases h2 : a = 2
    · have hr : jv a b = 2 := by rw [jv, if_neg hab, if_pos (.inl h2)]
      have hr' := Lib.hid hr
      clear hr
      go_enter Try.func35, Try.ntmps35
      go_wp2_with (go_at_call 32; first
        | (refine (Q1.out _ (((Ext.refl w).alloc _).trans he)).mono ?_; rintro e w2 ⟨rfl, he2⟩)
        | (refine (Q.out _ ((Ext.refl w).alloc _)).mono ?_; rintro e w1 ⟨rfl, he⟩; obtain ⟨hcell, hfroz⟩ := he.rules))
      go_ret
      exact ⟨by rw [hr'.out]; rfl, (((Ext.refl w).alloc _).trans he).trans he2⟩
    · have h2b : (a == 2) = false := by simpa using h2
      by_cases h3 : b = 2
      · have hr : jv a b = 2 := by rw [jv, if_neg hab, if_pos (.inr h3)]
        have hr' := Lib.hid hr
        clear hr
        go_enter Try.func35, Try.ntmps35
        go_wp2_with (go_at_call 32; first
          | (refine (Q1.out _ (((Ext.refl w).alloc _).trans he)).mono ?_; rintro e w2 ⟨rfl, he2⟩)
          | (refine (Q.out _ ((Ext.refl w).alloc _)).mono ?_; rintro e w1 ⟨rfl, he⟩; obtain ⟨hcell, hfroz⟩ := he.rules))
        go_ret
        exact ⟨by rw [hr'.out]; rfl, (((Ext.refl w).alloc _).trans he).trans he2⟩
      · have h3b : (b == 2) = false := by simpa using h3
        have hr : jv a b = 1 := by rw [jv, if_neg hab, if_neg (by omega)]
        have hr' := Lib.hid hr
        clear hr
        go_enter Try.func35, Try.ntmps35
        go_wp2_with (go_at_call 32; first
          | (refine (Q1.out _ (((Ext.refl w).alloc _).trans he)).mono ?_; rintro e w2 ⟨rfl, he2⟩)
          | (refine (Q.out _ ((Ext.refl w).alloc _)).mono ?_; rintro e w1 ⟨rfl, he⟩; obtain ⟨hcell, hfroz⟩ := he.rules))
        go_ret
        exact ⟨by rw [hr'.out]; rfl, (((Ext.refl w).alloc _).trans he).trans he2⟩

theorem jointVote_c (b0 b1 b2 : Nat) (l0 l1 : List Int) (f : Int → Option Bool) (w : World) (h0 : SetR w b0 l0) (h1 : SetR w b1 l1) (h2 : VotesR w b2 f) (hn0 : l0.length ≤ 2147483647) (hn1 : l1.length ≤ 2147483647) :
    Calls Try.prog 35 #[.agg #[.map (some b0), .map (some b1)], .map (some b2)] w fun e w' => e = .returned (.int .u8 (jv (voteOf f l0) (voteOf f l1))) ∧ Ext w w' :=
  jointVoteG_c (some b0) (some b1) b2 _ _ w (fun W e => majVote_c b0 b2 l0 f W (MapV.ext h0 e) (h2.ext e) hn0) (fun W e => majVote_c b1 b2 l1 f W (MapV.ext h1 e) (h2.ext e) hn1) (voteOf_bd f l0) (voteOf_bd f l1)
set_option maxRecDepth 100000 in
theorem majVoteNil_c (b2 : Nat) (w : World) : Calls Try.prog 32 #[.map none, .map (some b2)] w fun e w' => e = .returned (.int .u8 3) ∧ Ext w w' := by
  go_enter Try.func32, Try.ntmps32
  go_wp2_with fail
  go_ret
  exact ⟨rfl, Ext.refl _⟩

set_option maxRecDepth 100000 in
set_option maxHeartbeats 1000000 in
theorem implJointVote_c (v v1 u : Value) (ids ids1 : List Int) (bs : List Ballot) (w : World) (h : NumsR w v ids) (h1 : NumsR w v1 ids1) (h2 : BallotsR w u bs) (hn : ids.length ≤ 2147483647) (hn1 : ids1.length ≤ 2147483647) (hm : bs.length ≤ 2147483647)
    (hu : ∀ k ∈ ids, U64 k) (hu1 : ∀ k ∈ ids1, U64 k) (hub : ∀ x ∈ bs, U64 x.id) :
    Calls Try.prog 13 #[v, v1, u] w fun e w' => (∃ l l1, IsSet l ids ∧ IsSet l1 ids1 ∧ e = .returned (.int .i64 (jv (voteOf (lastB bs) l) (voteOf (lastB bs) l1)))) ∧ Ext w w' := by
  have Q := Lib.hid (voters_c v ids w h hn hu)
  have Q1 := Lib.hid (fun W (e : Ext w W) => voters_c v1 ids1 W (h1.ext e) hn1 hu1)
  have Q2 := Lib.hid (fun W (e : Ext w W) => ballots_c u bs W (h2.ext e) hm hub)
  have Q3 := Lib.hid (fun b0 b1 b2 l0 l1 W h0 h1 h2 h3 h4 => jointVote_c b0 b1 b2 l0 l1 (lastB bs) W h0 h1 h2 h3 h4)
  obtain ⟨A, c, rfl⟩ := h.shape
  obtain ⟨A1, c1, rfl⟩ := h1.shape
  obtain ⟨A2, c2, rfl⟩ := h2.shape
  clear h h1 h2 hu hu1 hub
  go_enter Try.func13, Try.ntmps13
  go_wp2_with (first
    | (go_at_call 31; first
      | (refine (Q1.out _ he).mono ?_; rintro e w2 ⟨v, rfl, ⟨b1, l1, rfl, hs1, hset1⟩, he2⟩)
      | (refine Q.out.mono ?_; rintro e w1 ⟨v, rfl, ⟨b0, l0, rfl, hs0, hset0⟩, he⟩))
    | (go_at_call 33; refine (Q2.out _ (he.trans he2)).mono ?_; rintro e w3 ⟨v, rfl, ⟨b2, rfl, hv⟩, he3⟩)
    | (go_at_call 35; refine (Q3.out b0 b1 b2 l0 l1 _ (MapV.ext hs0 (he2.trans he3)) (MapV.ext hs1 he3) hv (Nat.le_trans hset0.len hn) (Nat.le_trans hset1.len hn1)).mono ?_; rintro e w4 ⟨rfl, he4⟩; have hjb : 1 ≤ jv (voteOf (lastB bs) l0) (voteOf (lastB bs) l1) ∧ jv (voteOf (lastB bs) l0) (voteOf (lastB bs) l1) ≤ 3 := (by have := voteOf_bd (lastB bs) l0; have := voteOf_bd (lastB bs) l1; unfold jv; split <;> (try split) <;> omega); obtain ⟨hj1, hj3⟩ := hjb))
  go_ret
  exact ⟨⟨l0, l1, hset0, hset1, rfl⟩, ((he.trans he2).trans he3).trans he4⟩

end Go.Proofs.Ytklhflbjkckhmaa
