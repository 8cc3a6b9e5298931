/- What is won, or lost, stays so. -/
import Derived.Test.YtklhflbjkckhmaaJointVote
import Derived.Test.YtklhflbjkckhmaaFew
import Derived.Deep.RegionLaw
namespace Go.Proofs.Ytklhflbjkckhmaa
open Go.ChangeShapes Go.WideShapes Go.ChangeAt Go.RowKit
set_option linter.unusedSimpArgs false
set_option linter.unusedVariables false

/-- g says what f says, where f says anything. -/
def More (f g : Int → Option Bool) : Prop := ∀ k, f k ≠ none → g k = f k
theorem yes_open (f : Int → Option Bool) (l : List Int) : yesIn f l + openIn f l = l.countP fun k => f k != some false := by
  unfold yesIn openIn
  induction l with
  | nil => rfl
  | cons x l ih =>
    simp only [List.countP_cons]
    generalize List.countP (fun k => f k == some true) l = p at *
    generalize List.countP (fun k => f k == none) l = q at *
    generalize List.countP (fun k => f k != some false) l = r at *
    rcases hx : f x with _ | (_ | _) <;> simp <;> omega
theorem more_yes {f g : Int → Option Bool} (h : More f g) (l : List Int) : yesIn f l ≤ yesIn g l := by
  unfold yesIn
  refine List.countP_mono_left fun k _ hk => ?_
  have hk' : f k = some true := by simpa using hk
  simp [h k (by rw [hk']; simp), hk']
theorem more_open {f g : Int → Option Bool} (h : More f g) (l : List Int) : yesIn g l + openIn g l ≤ yesIn f l + openIn f l := by
  rw [yes_open, yes_open]
  refine List.countP_mono_left fun k _ hk => ?_
  have hk' : g k ≠ some false := by simpa using hk
  by_cases hf : f k = none
  · simp [hf]
  · have := h k hf
    rw [this] at hk'
    simpa using hk'
theorem vote_final {f g : Int → Option Bool} (h : More f g) (l : List Int) : voteOf f l = 1 ∨ voteOf f l = voteOf g l := by
  have h1 := more_yes h l
  have h2 := more_open h l
  unfold voteOf vres
  split
  · exact .inr rfl
  · by_cases h3 : l.length / 2 + 1 ≤ yesIn f l
    · rw [if_pos h3, if_pos (by omega)]
      exact .inr rfl
    · rw [if_neg h3]
      by_cases h4 : l.length / 2 + 1 ≤ yesIn f l + openIn f l
      · rw [if_pos h4]
        exact .inl rfl
      · rw [if_neg h4, if_neg (by omega), if_neg (by omega)]
        exact .inr rfl
theorem joint_final {a b c d : Int} (h1 : a = 1 ∨ a = c) (h2 : b = 1 ∨ b = d) (ha : 1 ≤ a ∧ a ≤ 3) (hb : 1 ≤ b ∧ b ≤ 3) (hc : 1 ≤ c ∧ c ≤ 3) (hd : 1 ≤ d ∧ d ≤ 3) : jv a b = 1 ∨ jv a b = jv c d := by
  unfold jv
  split <;> split <;> (try split) <;> (try split) <;> omega
theorem lastB_more (bs : List Ballot) (x : Ballot) (h : ∀ y ∈ bs, y.id ≠ x.id) : More (lastB bs) (lastB (bs ++ [x])) := by
  intro k hk
  rw [lastB_snoc]
  by_cases hx : x.id = k
  · exfalso
    apply hk
    subst hx
    have : ∀ (l : List Ballot), (∀ y ∈ l, y.id ≠ x.id) → lastB l x.id = none := by
      intro l hl
      unfold lastB
      suffices hs : ∀ (l : List Ballot) (o : Option Bool), (∀ y ∈ l, y.id ≠ x.id) → l.foldl (fun o y => if y.id = x.id then some y.yes else o) o = o from hs l none hl
      intro l
      induction l with
      | nil => intro o _; rfl
      | cons y l ih =>
        intro o hy
        rw [List.foldl_cons, if_neg (hy y (by simp)), ih o (fun z hz => hy z (by simp [hz]))]
    exact this bs h
  · rw [if_neg hx]
theorem jv_bd {a b : Int} (ha : 1 ≤ a ∧ a ≤ 3) (hb : 1 ≤ b ∧ b ≤ 3) : 1 ≤ jv a b ∧ jv a b ≤ 3 := by
  unfold jv
  split <;> (try split) <;> omega

/-- append of a row onto a row of the call's own, as one step of a region that draws. -/
theorem step_append_row {P : Program} {ops : Array Oper} {o : Oper} {a : Act} {w : World} {K : Act → World → Prop} {Q : Exit → Act → World → Prop} {E : Prop} (hgd : o.guard = none) (s x : Operand) (t : TypeId)
    (ho : o.op = .call { callee := .builtin .append, args := #[s, x], argTypes := #[t, t] })
    (base : Nat) (e : TypeId) (z : Value) (size bytes : Nat) (ht : P.underlying t = some (.slice e)) (hi : (P.info? e).map (fun i => (i.zero, i.size, i.bytes)) = some (some z, size, bytes))
    (hzs : z.cells.size = size) (hsz : 0 < size)
    (v : Value) (n : Nat) (xs : List Value) (hs : a.eval s = v) (hown : w.ownsRow base e size v n xs)
    (A : Option Addr) (m c : Nat) (news : List Value) (hx : a.eval x = .slice A m c) (hl : news.length = m * size) (hr : RowR w A news) (h1 : ∀ u ∈ news, u.oneCell' = true)
    (h63 : n + m ≤ maxLen) (hbytes : (n + m) * bytes ≤ 140737488355328) (hbase : base ≤ w.heap.size)
    (h : ∀ A' c' w', w'.ownsRow base e size (.slice A' (n + m) c') (n + m) (xs ++ news) → w.grownBy w' v.ownBlock → ((Value.slice A' (n + m) c').ownBlock = v.ownBlock ∨ (Value.slice A' (n + m) c').ownBlock = some w.heap.size) → K (a.put o.dst (.slice A' (n + m) c')) w') :
    if Region.wanted o (yielded ops a.tmps) = true then Oper.wp P o a w K Q else E := by
  have hw : Region.wanted o (yielded ops a.tmps) = true := by simp [Region.wanted, hgd]
  rw [if_pos hw]
  obtain ⟨i, hi0, hz, hsize, hby⟩ := info_parts hi
  obtain ⟨v', w', hrun, h2, h3, h4⟩ := run_append_row (P := P) w base t o.type e i z size bytes ht hi0 hz hsize hby hzs hsz v n xs hown A m c news hl hr h1 h63 hbytes hbase
  obtain ⟨A', c', rfl, _, _⟩ := ownsRow_shape h2
  unfold Oper.wp execOp
  simp only [ho, resolve, invoke, builtin, Sem.run_bind, Sem.run_pure, Result.andThen_ok, List.map_toArray, List.map_cons, List.map_nil, hs, hx, hrun]
  exact h A' c' w' h2 h3 h4

theorem ext_append {w w' W0 : World} {base : Nat} {e : TypeId} {size n : Nat} {v : Value} {xs : List Value} (hown : w.ownsRow base e size v n xs) (hg : w.grownBy w' v.ownBlock) (hW : W0.heap.size ≤ base) (hE : Ext W0 w) : Ext W0 w' := by
  refine hE.grown hg (fun k hk => ?_)
  rcases hown.2 with ⟨hv, _⟩ | ⟨g, cap, cur, hv, hgb, _⟩
  · rw [hv] at hk
    cases hk
  · rw [hv] at hk
    have : g = k := Option.some.inj hk
    omega
theorem dec2 {a b : Int} (h : a = 1 ∨ a = b) : a = 1 ∨ (a = b ∧ (a == 1) = false) := by
  by_cases ha : a = 1
  · exact .inl ha
  · exact .inr ⟨h.resolve_left ha, by simpa using ha⟩
theorem info_ballot : (Try.prog.info? 29).map (fun i => (i.zero, i.size, i.bytes)) = some (some (.agg #[.int .u64 0, .bool false]), 2, 16) := by kernel_rfl
theorem ballots_one (xs : List Ballot) : ∀ u ∈ xs.flatMap ballotCells, u.oneCell' = true := by
  intro u hu
  obtain ⟨x, _, hx⟩ := List.mem_flatMap.1 hu
  simp only [ballotCells, List.mem_cons, List.not_mem_nil, or_false] at hx
  rcases hx with rfl | rfl <;> rfl
theorem allFew_two (x y : Option Addr × Nat × Nat) : allFew [x, y] = (decide (x.2.1 ≤ 40) && decide (y.2.1 ≤ 40)) := by simp [allFew]

set_option maxRecDepth 100000 in
set_option maxHeartbeats 4000000 in
theorem fnVoteFinal_main (A A1 A2 : Option Addr) (c c1 c2 : Nat) (ids ids1 : List Int) (bs : List Ballot) (x : Ballot) (w : World) (h : NumsR w (.slice A ids.length c) ids) (h1 : NumsR w (.slice A1 ids1.length c1) ids1) (h2 : BallotsR w (.slice A2 bs.length c2) bs)
    (hu : ∀ k ∈ ids, U64 k) (hu1 : ∀ k ∈ ids1, U64 k) (hub : ∀ y ∈ bs, U64 y.id) (hx : U64 x.id) (hn : ids.length ≤ 40) (hn1 : ids1.length ≤ 40) (hm : bs.length ≤ 40) :
    Calls Try.prog 4 #[.slice A ids.length c, .slice A1 ids1.length c1, .slice A2 bs.length c2, .agg #[.int .u64 x.id, .bool x.yes]] w (Yes w) := by
  have QJ := Lib.hid (fun u bs W (e : Ext w W) (hb : BallotsR W u bs) hm hub => implJointVote_c _ _ u ids ids1 bs W (h.ext e) (h1.ext e) hb (by omega) (by omega) hm hu hu1 hub)
  have QV := Lib.hid (fun u bs W (e : Ext w W) (hb : BallotsR W u bs) hm hub => implVoteResult_c _ u ids bs W (h.ext e) hb (by omega) hm hu hub)
  have hrow : RowR w A2 (bs.flatMap ballotCells) := by
    obtain ⟨A', c', e1, _, _, _, h4⟩ := h2
    injection e1 with e1 _ _
    subst e1
    exact h4
  have hrow' := Lib.hid hrow
  have h2' := Lib.hid h2
  clear h h1 h2 hrow hu hu1
  have hcl : bs.length ≤ c2 := by
    obtain ⟨A', c', e1, g1, _⟩ := h2'.out
    injection e1 with _ _ e3
    omega
  have hall : allFew [(A, ids.length, c), (A1, ids1.length, c1)] = true := by
    rw [allFew_two]
    simp [hn, hn1]
  have hmx0 : ∀ y ∈ [(A, ids.length, c), (A1, ids1.length, c1)], y.2.1 ≤ maxLen := by
    intro y hy
    simp only [List.mem_cons, List.not_mem_nil, or_false] at hy
    rcases hy with rfl | rfl
    · unfold maxLen
      simp only
      omega
    · unfold maxLen
      simp only
      omega
  have hmx := Lib.hid hmx0
  clear hmx0
  go_enter Try.func4, Try.ntmps4
  go_wp2_with (go_at_call 10; refine (few_c _ 2 2 [(A, ids.length, c), (A1, ids1.length, c1)] _ (RowR.of_blk (Blk.new_at (T := 22) (by simp))) rfl (by omega) hmx.out).mono ?_; rintro e w1 ⟨rfl, he⟩; rw [hall])
  have c0 : w1.cell? ⟨w.heap.size, 0, none⟩ = some (.int .u64 x.id) := by
    rw [he.rules.1 _ _ (by simp; omega)]
    simp
  have c1' : w1.cell? ⟨w.heap.size, 1, none⟩ = some (.bool x.yes) := by
    rw [he.rules.1 _ _ (by simp; omega)]
    simp
  have hsz : w.heap.size < w1.heap.size := by
    have := he.size_le
    simp at this
    omega
  have hE1 : Ext w w1 := (((Ext.refl w).alloc _).alloc _).trans he
  clear he
  go_loopg [41] bs.length (fun g i wr => ∃ k : Nat, g = bs.length - k ∧ k ≤ bs.length ∧ i = .int .i64 k ∧ (∀ (j : Nat) (hj : j < bs.length), j < k → bs[j].id ≠ x.id) ∧ Ext w1 wr)
  case atStart => exact ⟨0, rfl, Nat.zero_le _, rfl, fun j hj h => by omega, Ext.refl _⟩
  case round =>
    obtain ⟨k, hg, hk, rfl, hne, he⟩ := hrel
    have hg' := Lib.hid hg
    have hne' := Lib.hid hne
    have d0 := he.cellE c0
    have d1 := he.cellE c1'
    have hszr : w.heap.size < wr.heap.size := Nat.lt_of_lt_of_le hsz he.size_le
    clear hg hne
    by_cases hlt : k < bs.length
    · obtain ⟨b, o, rfl, hel⟩ := hrow'.out.elem ballotCells_len (by omega) hlt
      have hd0 := he.cellE (hE1.cellE (hel 0 _ rfl))
      have hd1 := he.cellE (hE1.cellE (hel 1 _ rfl))
      simp only [Nat.add_zero] at hd0
      have hel' := Lib.hid hel
      have hst : bs[k].id ≠ x.id → ∀ (j : Nat) (hj : j < bs.length), j < k + 1 → bs[j].id ≠ x.id := fun hh j hj hjk => by
        rcases Nat.lt_or_ge j k with h | h
        · exact hne'.out j hj h
        · have : j = k := by omega
          subst this
          exact hh
      have hst' := Lib.hid hst
      clear hel hst
      generalize hy : bs[k] = y at *
      have hy' := Lib.hid hy
      clear hy
      by_cases hid : y.id = x.id
      · go_wp2
        go_ret
        exact ⟨rfl, hE1.trans (he.alloc _)⟩
      · have hidb : (y.id == x.id) = false := by simpa using hid
        go_wp2
        go_roundg (bs.length - (k + 1))
        case rel => exact ⟨k + 1, rfl, by omega, by go_num, hst'.out hid, he.alloc _⟩
        case measure =>
          have := hg'.out
          omega
    · have hmore : More (lastB bs) (lastB (bs ++ [x])) := lastB_more bs x (fun y hy => by
        obtain ⟨i, hi, rfl⟩ := List.getElem_of_mem hy
        exact hne'.out i hi (by omega))
      have hmore' := Lib.hid hmore
      have hE := hE1.trans he
      have hE' := Lib.hid hE
      have hrw := Lib.hid (hrow'.out.ext hE)
      have hmi : (bs.length : Int) ≤ 40 := by omega
      clear hmore hE he
      go_wp2
      go_region_law (first
        | (refine step_append_row rfl (.tmp 51) (.tmp 52) 23 rfl wr.heap.size 29 (.agg #[.int .u64 0, .bool false]) 2 16 Try.underlying23 info_ballot rfl (by omega) (.slice (some ⟨_, 0, none⟩) 0 0) 0 [] rfl ⟨rfl, .inr ⟨_, 0, #[], rfl, (by simp), Blk.out (by (repeat (first | exact Blk.new_at (by simp) | refine Blk.drew ?_ | refine Blk.alloc ?_ _))), Nat.le_refl _, by simp [maxLen], rfl, rfl⟩⟩ A2 bs.length c2 (bs.flatMap ballotCells) rfl (flat_length ballotCells_len bs) (hrw.out.ext (by repeat (first | exact Ext.refl _ | apply Ext.drew | apply Ext.alloc))) (ballots_one bs) (by unfold maxLen; omega) (by omega) (Ext.size_le (a := wr) (by repeat (first | exact Ext.refl _ | apply Ext.drew | apply Ext.alloc))) ?_; intro A' c' w2 ho hg hb
           have hE2 : Ext wr w2 := Ext.grown (a := wr) (by repeat (first | exact Ext.refl _ | apply Ext.drew | apply Ext.alloc)) hg (fun k hk => by have hk' := Option.some.inj hk; subst hk'; simp)
           have d0' := hE2.cellE d0
           have d1' := hE2.cellE d1
           have hszr' : w.heap.size < w2.heap.size := Nat.lt_of_lt_of_le hszr hE2.size_le
           have hkp := Ext.chg_of_grown hg
           simp only [Nat.zero_add, List.nil_append] at ho ⊢)
        | (refine step_append_row rfl (.tmp 53) (.tmp 55) 23 rfl wr.heap.size 29 (.agg #[.int .u64 0, .bool false]) 2 16 Try.underlying23 info_ballot rfl (by omega) (.slice A' bs.length c') bs.length (bs.flatMap ballotCells) rfl (ownsRow_ext ho (by repeat (first | exact Ext.refl _ | apply Ext.drew | apply Ext.alloc))) (some ⟨_, 0, none⟩) 1 1 (ballotCells x) rfl rfl (RowR.of_blk (cs := #[.int .u64 x.id, .bool x.yes]) (T := 29) (by first | ((repeat (first | exact Blk.new_at (by simp) | refine Blk.drew ?_ | refine Blk.alloc ?_ _)); done) | (refine Blk.chg (S := fun k => some k = some _) ?_ hkp (by simp); (repeat (first | exact Blk.new_at (by simp) | refine Blk.drew ?_ | refine Blk.alloc ?_ _)); done))) (fun u hu => ballots_one [x] u (by simpa using hu)) (by unfold maxLen; omega) (by omega) (Ext.size_le (a := wr) (by repeat (first | exact hE2 | apply Ext.drew | apply Ext.alloc))) ?_; intro A'' c'' w3 ho3 hg3 hb3
           have hE3 : Ext wr w3 := ext_append (ownsRow_ext ho (by repeat (first | exact Ext.refl _ | apply Ext.drew | apply Ext.alloc))) hg3 (Nat.le_refl _) (by repeat (first | exact hE2 | apply Ext.drew | apply Ext.alloc))))
      all_goals (
        have hB3 : BallotsR w3 (.slice A'' (bs.length + 1) c'') (bs ++ [x]) := by
          have hs := SliceR.of_own ho3
          unfold BallotsR
          rw [List.flatMap_append, List.length_append]
          simpa using hs
        have hB3' := Lib.hid hB3
        have hE3' := Lib.hid hE3
        have hE3w := Lib.hid (hE'.out.trans hE3)
        have hub2 := Lib.hid (show ∀ y ∈ bs ++ [x], U64 y.id from fun y hy => by
          rcases List.mem_append.1 hy with hy | hy
          · exact hub y hy
          · simp at hy
            subst hy
            exact hx)
        clear hB3 hE3 ho3 hg3 hb3 ho hg hb hE2 hkp d0 d1 d0' d1'
        go_wp2_with (first
          | (go_at_call 13; first
            | (refine (QJ.out _ (bs ++ [x]) _ (hE3w.out.trans he4) (hB3'.out.ext he4) (by simp; omega) hub2.out).mono ?_; rintro e w5 ⟨⟨l2, l3, s2, s3, rfl⟩, he5⟩; obtain rfl := s2.eq s0; obtain rfl := s3.eq s1)
            | (refine (QJ.out _ bs _ hE3w.out (h2'.out.ext hE3w.out) (by omega) hub).mono ?_; rintro e w4 ⟨⟨l, l1, s0, s1, rfl⟩, he4⟩))
          | (go_at_call 11; first
            | (refine (QV.out _ (bs ++ [x]) _ (((hE3w.out.trans he4).trans he5).trans he6) (hB3'.out.ext ((he4.trans he5).trans he6)) (by simp; omega) hub2.out).mono ?_; rintro e w7 ⟨⟨l4, s4, rfl⟩, he7⟩; obtain rfl := s4.eq s0
               have hv1 := voteOf_bd (lastB bs) l4
               have hv2 := voteOf_bd (lastB (bs ++ [x])) l4
               have hv3 := voteOf_bd (lastB bs) l3
               have hv4 := voteOf_bd (lastB (bs ++ [x])) l3
               have hfin2 := vote_final hmore'.out l4
               have hfin := joint_final hfin2 (vote_final hmore'.out l3) hv1 hv3 hv2 hv4
               obtain ⟨hb1, hb3⟩ := jv_bd hv1 hv3
               obtain ⟨hc1, hc3⟩ := hv1
               clear hv2 hv3 hv4
               generalize jv (voteOf (lastB bs) l4) (voteOf (lastB bs) l3) = ja at *
               generalize jv (voteOf (lastB (bs ++ [x])) l4) (voteOf (lastB (bs ++ [x])) l3) = jb at *
               generalize voteOf (lastB bs) l4 = va at *
               generalize voteOf (lastB (bs ++ [x])) l4 = vb at *
               rcases dec2 hfin with rfl | ⟨rfl, ha⟩ <;> rcases dec2 hfin2 with rfl | ⟨rfl, hc⟩)
            | (refine (QV.out _ bs _ ((hE3w.out.trans he4).trans he5) (h2'.out.ext ((hE3w.out.trans he4).trans he5)) (by omega) hub).mono ?_; rintro e w6 ⟨⟨l5, s5, rfl⟩, he6⟩; obtain rfl := s5.eq s0))))
      all_goals go_ret
      all_goals exact ⟨rfl, (((hE3w.out.trans he4).trans he5).trans he6).trans he7⟩

end Go.Proofs.Ytklhflbjkckhmaa
