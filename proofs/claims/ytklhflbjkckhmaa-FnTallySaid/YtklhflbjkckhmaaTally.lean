/- Tally: votes recorded and counted. -/
import Derived.Test.YtklhflbjkckhmaaTracker
import Derived.Test.YtklhflbjkckhmaaJointVote
import Derived.OwnWalk
namespace Go.Proofs.Ytklhflbjkckhmaa
open Go.ChangeShapes Go.WideShapes Go.ChangeAt Go.RowKit
set_option linter.unusedSimpArgs false
set_option linter.unusedVariables false

/-- The first ballot of a node. -/
def firstB (bs : List Ballot) (k : Int) : Option Bool := (bs.find? fun x => x.id == k).map (·.yes)
theorem firstB_snoc (bs : List Ballot) (x : Ballot) (k : Int) : firstB (bs ++ [x]) k = match firstB bs k with | some v => some v | none => if x.id = k then some x.yes else none := by
  unfold firstB
  rw [List.find?_append]
  cases h : bs.find? fun x => x.id == k with
  | some y => simp
  | none =>
    by_cases hx : x.id = k
    · simp [hx]
    · simp [hx]
/-- The votes in a map of at most n entries. -/
def VotesN (w : World) (b : Nat) (f : Int → Option Bool) (n : Nat) : Prop := ∃ m, MapV w b m ∧ m.length ≤ n ∧ ∀ k, get m k = (f k).map Value.bool
theorem VotesN.ext {w w' : World} {b n : Nat} {f : Int → Option Bool} (h : VotesN w b f n) (e : Ext w w') : VotesN w' b f n := by
  obtain ⟨m, h1, h2, h3⟩ := h
  exact ⟨m, h1.ext e, h2, h3⟩
theorem VotesN.votes {w : World} {b n : Nat} {f : Int → Option Bool} (h : VotesN w b f n) : VotesR w b f := by
  obtain ⟨m, h1, h2, h3⟩ := h
  exact ⟨m, h1, h3⟩

set_option maxRecDepth 100000 in
set_option maxHeartbeats 1000000 in
theorem recordVote_c (t b0 bp bv n : Nat) (v1 v2 v3 : Value) (auto : Bool) (bs : List Ballot) (x : Ballot) (w : World) (ht : Blk w t 71 (trCells b0 bp bv v1 v2 v3 auto)) (hv : VotesN w bv (firstB bs) n) (hn : n ≤ 2147483647) (hu : U64 x.id) :
    Calls Try.prog 37 #[.pointer (some ⟨t, 0, none⟩), .int .u64 x.id, .bool x.yes] w fun e w' => e = .returned (.tuple #[]) ∧ VotesN w' bv (firstB (bs ++ [x])) (n + 1) ∧ Chg (· = bv) w w' := by
  have c6 := ht.cell 6
  simp [trCells] at c6
  obtain ⟨m, hM, hml, hget⟩ := hv
  have hM' := Lib.hid hM
  have hget' := Lib.hid hget
  have hg := hget x.id
  have hrise := Lib.hid hM.rising
  clear ht hM hget
  cases hf : firstB bs x.id with
  | some v =>
    rw [hf] at hg
    simp only [Option.map] at hg
    have hf' := Lib.hid hf
    clear hf
    go_enter Try.func37, Try.ntmps37
    go_wp2_with (at_lookup; refine wpList_map_ok rfl _ _ _ rfl _ Try.underlying61 (.bool false) zero_bool bv m rfl hM'.out x.id rfl hu ?_)
    go_end0
    refine ⟨rfl, ⟨m, hM'.out, by omega, fun k => ?_⟩, Chg.refl _ _⟩
    rw [hget'.out k, firstB_snoc]
    cases hk : firstB bs k with
    | some u => rfl
    | none =>
      have : x.id ≠ k := by
        rintro rfl
        rw [hf'.out] at hk
        cases hk
      simp [this]
  | none =>
    rw [hf] at hg
    simp only [Option.map] at hg
    have hf' := Lib.hid hf
    clear hf
    go_enter Try.func37, Try.ntmps37
    go_wp2_with (first
      | (at_lookup; refine wpList_map_ok rfl _ _ _ rfl _ Try.underlying61 (.bool false) zero_bool bv m rfl hM'.out x.id rfl hu ?_)
      | (at_mapUpdate; refine wpList_map_put rfl _ _ _ _ rfl _ Try.underlying61 bv _ rfl hM'.out (by unfold maxLen; omega) x.id (.bool x.yes) rfl rfl hu ?_; intro w1 hM1 hC1))
    go_end0
    refine ⟨rfl, ⟨_, hM1, Nat.le_trans (put_len _ _ _) (by omega), fun k => ?_⟩, hC1⟩
    rw [get_put hrise.out hu, firstB_snoc]
    by_cases hk : x.id = k
    · subst hk
      rw [if_pos rfl, hf'.out]
      simp
    · rw [if_neg hk, hget'.out k]
      cases firstB bs k with
      | some u => rfl
      | none => simp [hk]

/-- How many of the nodes have voted so: with progress, and no learners. -/
def tallied (f : Int → Option Trk) (g : Int → Option Bool) (v : Bool) (l : List Int) : Nat := l.countP fun k => match f k with | some x => !x.learner && g k == some v | none => false
theorem tallied_snoc (f : Int → Option Trk) (g : Int → Option Bool) (v : Bool) (l : List Int) (k : Int) : tallied f g v (l ++ [k]) = tallied f g v l + if (match f k with | some x => !x.learner && g k == some v | none => false) then 1 else 0 := by
  unfold tallied
  rw [List.countP_append]
  simp [List.countP_cons]

theorem prog_entry {w : World} {m : List (Int × Value)} {f : Int → Option Trk} (h : ∀ k, match f k with
      | some x => ∃ p i, get m k = some (.pointer (some ⟨p, 0, none⟩)) ∧ Blk w p 95 (prCells x i) ∧ Blk w i 105 flNew
      | none => get m k = none) (hr : Rising m) {k : Int} {v : Value} (hk : (k, v) ∈ m) : ∃ (x : Trk) (p : Nat), f k = some x ∧ v = .pointer (some ⟨p, 0, none⟩) ∧ w.cell? ⟨p, 8, none⟩ = some (.bool x.learner) := by
  have hg := (get_mem hr).2 hk
  have hp := h k
  cases hf : f k with
  | none =>
    rw [hf] at hp
    simp only at hp
    rw [hp] at hg
    cases hg
  | some x =>
    rw [hf] at hp
    obtain ⟨p, i, h1, h2, h3⟩ := hp
    rw [h1] at hg
    injection hg with hg
    refine ⟨x, p, rfl, hg.symm, ?_⟩
    have := h2.cell 8
    simpa [prCells] using this
theorem tallied_le (f : Int → Option Trk) (g : Int → Option Bool) (v : Bool) (l : List Int) : tallied f g v l ≤ l.length := List.countP_le_length

set_option maxRecDepth 100000 in
set_option maxHeartbeats 2000000 in
theorem tallyVotes_c (t base b0 bp bv n np : Nat) (v1 v2 v3 : Value) (m1 : Option Nat) (auto : Bool) (f : Int → Option Trk) (g : Int → Option Bool) (m : List (Int × Value)) (ja jb : Int) (w : World) (hv1 : v1 = .map m1) (ht : Blk w t 71 (trCells b0 bp bv v1 v2 v3 auto)) (hP : MapV w bp m) (hPr : ∀ k, match f k with
      | some x => ∃ p i, get m k = some (.pointer (some ⟨p, 0, none⟩)) ∧ Blk w p 95 (prCells x i) ∧ Blk w i 105 flNew
      | none => get m k = none) (hml : m.length ≤ 2147483647) (hv : VotesN w bv g n) (hja : 1 ≤ ja ∧ ja ≤ 3) (hjb : 1 ≤ jb ∧ jb ≤ 3)
    (hQ : ∀ W, Ext w W → Calls Try.prog 32 #[.map (some b0), .map (some bv)] W fun e w' => e = .returned (.int .u8 ja) ∧ Ext W w')
    (hQ1 : ∀ W, Ext w W → Calls Try.prog 32 #[.map m1, .map (some bv)] W fun e w' => e = .returned (.int .u8 jb) ∧ Ext W w') :
    Calls Try.prog 38 #[.pointer (some ⟨t, 0, none⟩)] w fun e w' => (∃ done : List Int, done.Perm (m.map (·.1)) ∧ e = .returned (.tuple #[.int .i64 (tallied f g true done), .int .i64 (tallied f g false done), .int .u8 (jv ja jb)])) ∧ Ext w w' := by
  subst hv1
  have c0 := ht.cell 0
  have c1 := ht.cell 1
  have c5 := ht.cell 5
  have c6 := ht.cell 6
  simp [trCells] at c0 c1 c5 c6
  obtain ⟨mv, hV, hvl, hget⟩ := hv
  have hP' := Lib.hid hP
  have hPr' := Lib.hid hPr
  have hV' := Lib.hid hV
  have hget' := Lib.hid hget
  have hrise := Lib.hid hP.rising
  have QJ := Lib.hid (fun W (e : Ext w W) => jointVoteG_c (some b0) m1 bv ja jb W (fun W' e' => hQ W' (e.trans e')) (fun W' e' => hQ1 W' (e.trans e')) hja hjb)
  clear ht hP hPr hV hget hQ hQ1
  go_enter Try.func38, Try.ntmps38
  go_wp2_with (at_range; refine wpList_map_range rfl _ _ rfl _ Try.underlying69 bp _ rfl hP'.out ?_; intro w1 hR hE)
  go_frame
  have hR' := Lib.hid hR
  have hE' := Lib.hid hE
  clear hR hE
  go_loopg [2, 3] m.length (fun gg y o wr => ∃ (done : List Int), gg = m.length - done.length ∧ y = .int .i64 (tallied f g true done) ∧ o = .int .i64 (tallied f g false done) ∧ RangeV wr bp w.heap.size m done ∧ Ext w wr)
  case atStart => exact ⟨[], rfl, rfl, rfl, hR'.out, hE'.out⟩
  case round =>
    obtain ⟨done, hg, rfl, rfl, hR1, he⟩ := hrel
    have hg' := Lib.hid hg
    have hR1' := Lib.hid hR1
    have hdl := hR1.done_lt
    have hyl : (tallied f g true done : Int) ≤ 2147483647 := by have := tallied_le f g true done; omega
    have hol : (tallied f g false done : Int) ≤ 2147483647 := by have := tallied_le f g false done; omega
    have c0' := he.cellE c0
    have c1' := he.cellE c1
    have c6' := he.cellE c6
    clear hg hR1
    go_wp2_with (first
      | (at_next; refine wpList_map_next rfl _ rfl bp _ _ _ rfl hR1'.out ?_ ?_ <;> first
          | (intro k v w2 hkl hkd hku hR2 hC2 hen; have hE2 := he.chg_new hC2 (fun k hk => by omega); obtain ⟨x, p, hfk, rfl, hcl⟩ := prog_entry hPr'.out hrise.out hkl; have hcl2 := hE2.cellE hcl; have hvk := hget'.out k; have c6'' := hE2.cellE c6; have hfk' := Lib.hid hfk; have hR2' := Lib.hid hR2; have hE2' := Lib.hid hE2; clear hfk hcl hR2 hC2 hkl; rcases hle : x.learner with _ | _ <;> rw [hle] at hcl2 <;> rcases hgk : g k with _ | (_ | _) <;> rw [hgk] at hvk <;> simp only [Option.map] at hvk)
          | (intro hperm; have hperm' := Lib.hid hperm; clear hperm))
      | (at_lookup; refine wpList_map_ok rfl _ _ _ rfl _ Try.underlying61 (.bool false) zero_bool bv mv rfl (hV'.out.ext hE2'.out) k rfl hku ?_))
    · go_region_with (go_at_call 35; refine (QJ.out _ (he.trans (Ext.refl wr).drew)).mono ?_; rintro e w3 ⟨rfl, he3⟩)
      all_goals go_wp2
      all_goals refine bodyPost_ret (results_tmp3 rfl _ _ _) rfl ?_
      all_goals exact ⟨⟨done, hperm'.out, rfl⟩, (he.trans (Ext.refl wr).drew).trans he3⟩
    all_goals go_roundg (m.length - (done.length + 1))
    all_goals first
      | exact ⟨done ++ [k], by simp, by rw [tallied_snoc]; simp [hfk'.out, hle, hgk], by rw [tallied_snoc]; simp [hfk'.out, hle, hgk], hR2'.out, hE2'.out⟩
      | (have h1 := hR2'.out.done_lt; have h3 := hg'.out; rw [List.length_append, List.length_singleton] at h1; omega)

end Go.Proofs.Ytklhflbjkckhmaa
