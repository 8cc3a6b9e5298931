/- A majority's vote: MajorityConfig.VoteResult, impl.VoteResult. -/
import Derived.Test.YtklhflbjkckhmaaVoters
namespace Go.Proofs.Ytklhflbjkckhmaa
open Go.ChangeShapes Go.WideShapes Go.ChangeAt Go.RowKit
set_option linter.unusedSimpArgs false
set_option linter.unusedVariables false

def yesIn (f : Int → Option Bool) (l : List Int) : Nat := l.countP fun k => f k == some true
def openIn (f : Int → Option Bool) (l : List Int) : Nat := l.countP fun k => f k == none
/-- The result's number, of n voters. -/
def vres (n yes opn : Nat) : Int := if n = 0 then 3 else if n / 2 + 1 ≤ yes then 3 else if n / 2 + 1 ≤ yes + opn then 1 else 2
def voteOf (f : Int → Option Bool) (l : List Int) : Int := vres l.length (yesIn f l) (openIn f l)

theorem voteOf_end {f : Int → Option Bool} {l done : List Int} (hp : done.Perm ((unit l).map (·.1))) : voteOf f l = vres l.length (yesIn f done) (openIn f done) := by
  rw [unit_keys] at hp
  unfold voteOf yesIn openIn
  rw [hp.countP_eq, hp.countP_eq]
theorem yesIn_snoc (f : Int → Option Bool) (l : List Int) (k : Int) : yesIn f (l ++ [k]) = yesIn f l + if f k = some true then 1 else 0 := by
  unfold yesIn
  rw [List.countP_append]
  simp [List.countP_cons]
theorem openIn_snoc (f : Int → Option Bool) (l : List Int) (k : Int) : openIn f (l ++ [k]) = openIn f l + if f k = none then 1 else 0 := by
  unfold openIn
  rw [List.countP_append]
  simp [List.countP_cons]

theorem zero_bool (w : World) : (zeroValue 4).run Try.prog w = .ok (.bool false) w := by kernel_rfl

set_option maxRecDepth 100000 in
set_option maxHeartbeats 1000000 in
theorem majVote_c (b b2 : Nat) (l : List Int) (f : Int → Option Bool) (w : World) (h : SetR w b l) (h2 : VotesR w b2 f) (hn : l.length ≤ 2147483647) :
    Calls Try.prog 32 #[.map (some b), .map (some b2)] w fun e w' => e = .returned (.int .u8 (voteOf f l)) ∧ Ext w w' := by
  obtain ⟨m, hm, hget⟩ := h2
  have hul : (unit l).length = l.length := by simp [unit]
  have hM := Lib.hid h
  have hM2 := Lib.hid hm
  have hget' := Lib.hid hget
  clear h hm hget
  by_cases h0 : l.length = 0
  · have h0' := Lib.hid h0
    have h0b : ((unit l).length : Int) = 0 := by omega
    clear h0 hul
    go_enter Try.func32, Try.ntmps32
    go_wp2_with (first | (refine wpList_map_len rfl _ _ rfl _ Try.underlying58 b _ rfl hM.out ?_))
    go_ret
    refine ⟨?_, Ext.refl _⟩
    unfold voteOf vres
    rw [if_pos h0'.out]
    rfl
  · have h0b : ((unit l).length : Int) ≠ 0 := by omega
    have h0c : (((unit l).length : Int) == 0) = false := by simpa using h0b
    have hul' := Lib.hid hul
    clear hul
    go_enter Try.func32, Try.ntmps32
    go_wp2_with (first
      | (refine wpList_map_len rfl _ _ rfl _ Try.underlying58 b _ rfl hM.out ?_)
      | (at_range; refine wpList_map_range rfl _ _ rfl _ Try.underlying58 b _ rfl hM.out ?_; intro w1 hR hE))
    go_frame
    have hR' := Lib.hid hR
    have hE' := Lib.hid hE
    clear hR hE
    go_loopg [5, 6] l.length (fun g y o wr => ∃ (done : List Int), g = l.length - done.length ∧ y = .int .i64 (yesIn f done) ∧ o = .int .i64 (openIn f done) ∧ RangeV wr b w.heap.size (unit l) done ∧ Ext w wr)
    case atStart => exact ⟨[], rfl, rfl, rfl, hR'.out, hE'.out⟩
    case round =>
      obtain ⟨done, hg, rfl, rfl, hR1, he⟩ := hrel
      have hg' := Lib.hid hg
      have hR1' := Lib.hid hR1
      have hdl := hR1.done_lt
      rw [hul'.out] at hdl
      have hyl : (yesIn f done : Int) ≤ 2147483647 := by
        have := List.countP_le_length (p := fun k => f k == some true) (l := done)
        unfold yesIn
        omega
      have hol : (openIn f done : Int) ≤ 2147483647 := by
        have := List.countP_le_length (p := fun k => f k == none) (l := done)
        unfold openIn
        omega
      have hub : ((unit l).length : Int) ≤ 2147483647 := by
        have := hul'.out
        omega
      have hub0 : (0 : Int) ≤ ((unit l).length : Int) := by omega
      clear hg hR1
      go_wp2_with (first
        | (at_next; refine wpList_map_next rfl _ rfl b _ _ _ rfl hR1'.out ?_ ?_ <;> first
            | (intro k v w2 hkl hkd hku hR2 hC2 hen; have hE2 := he.chg_new hC2 (fun k hk => by omega); have hgk := hget'.out k; rcases hfk : f k with _ | (_ | _) <;> rw [hfk] at hgk <;> simp only [Option.map] at hgk)
            | intro hperm)
        | (at_lookup; refine wpList_map_ok rfl _ _ _ rfl _ Try.underlying61 (.bool false) zero_bool b2 m rfl (hM2.out.ext hE2) k rfl hku ?_)
        | (refine wpList_map_len rfl _ _ rfl _ Try.underlying58 b _ rfl (hM.out.ext he) ?_))
      · go_ret
        refine ⟨?_, he⟩
        have h2 := hul'.out
        rw [voteOf_end hperm]
        unfold vres
        rw [if_neg h0, if_pos (by omega)]
        rfl
      · go_ret
        refine ⟨?_, he⟩
        have h2 := hul'.out
        rw [voteOf_end hperm]
        unfold vres
        rw [if_neg h0, if_neg (by omega), if_pos (by omega)]
        rfl
      · go_ret
        refine ⟨?_, he⟩
        have h2 := hul'.out
        rw [voteOf_end hperm]
        unfold vres
        rw [if_neg h0, if_neg (by omega), if_neg (by omega)]
        rfl
      · go_roundg (l.length - (done.length + 1))
        case rel => exact ⟨done ++ [k], by simp, by rw [yesIn_snoc, hfk]; go_num, by rw [openIn_snoc, hfk]; go_num, hR2, hE2⟩
        case measure =>
          have h1 := hR2.done_lt
          have h2 := hul'.out
          have h3 := hg'.out
          rw [List.length_append, List.length_singleton] at h1
          omega
      · go_roundg (l.length - (done.length + 1))
        case rel => exact ⟨done ++ [k], by simp, by rw [yesIn_snoc, hfk]; go_num, by rw [openIn_snoc, hfk]; go_num, hR2, hE2⟩
        case measure =>
          have h1 := hR2.done_lt
          have h2 := hul'.out
          have h3 := hg'.out
          rw [List.length_append, List.length_singleton] at h1
          omega
      · go_roundg (l.length - (done.length + 1))
        case rel => exact ⟨done ++ [k], by simp, by rw [yesIn_snoc, hfk]; go_num, by rw [openIn_snoc, hfk]; go_num, hR2, hE2⟩
        case measure =>
          have h1 := hR2.done_lt
          have h2 := hul'.out
          have h3 := hg'.out
          rw [List.length_append, List.length_singleton] at h1
          omega

end Go.Proofs.Ytklhflbjkckhmaa
