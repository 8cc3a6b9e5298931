/- The law FnTally: the walk. -/
import Derived.Test.YtklhflbjkckhmaaTallySpec
namespace Go.Proofs.Ytklhflbjkckhmaa
open Go.ChangeShapes Go.WideShapes Go.ChangeAt Go.RowKit
set_option linter.unusedSimpArgs false
set_option linter.unusedVariables false

theorem lastB_reverse (bs : List Ballot) (k : Int) : lastB bs.reverse k = firstB bs k := by
  have aux : ∀ (bs : List Ballot), (bs.reverse).foldl (fun o x => if x.id = k then some x.yes else o) none = (bs.find? fun x => x.id == k).map (·.yes) := by
    intro bs
    induction bs with
    | nil => rfl
    | cons x bs ih =>
      rw [List.reverse_cons, List.foldl_append, ih, List.find?_cons]
      simp only [List.foldl_cons, List.foldl_nil]
      by_cases hx : x.id = k
      · simp [hx]
      · have : (x.id == k) = false := by simpa using hx
        rw [if_neg hx, this]
  exact aux bs
theorem firstB_found {bs : List Ballot} {q : Nat} {y : Int} (hq : q < bs.length) (h : ∀ j (hj : j < bs.length), j < q → bs[j].id ≠ y) (he : bs[q].id = y) : firstB bs y = some bs[q].yes := by
  unfold firstB
  have : bs.find? (fun x => x.id == y) = some bs[q] := by
    rw [List.find?_eq_some_iff_getElem]
    refine ⟨by simpa using he, q, hq, rfl, fun j hj => ?_⟩
    have := h j (by omega) hj
    simpa using this
  rw [this]
  rfl
theorem firstB_none {bs : List Ballot} {y : Int} (h : ∀ j (hj : j < bs.length), bs[j].id ≠ y) : firstB bs y = none := by
  unfold firstB
  have : bs.find? (fun x => x.id == y) = none := by
    rw [List.find?_eq_none]
    intro x hx
    obtain ⟨j, hj, rfl⟩ := List.getElem_of_mem hx
    simpa using h j hj
  rw [this]
  rfl
theorem lastT_id {ts : List Trk} {y : Int} (h : y ∈ ts.map (·.id)) : lastT ts y = some (lastD ts y) ∧ (lastD ts y).id = y := by
  have aux : ∀ (ts : List Trk) (o : Option Trk), (∀ x, o = some x → x.id = y) → (o ≠ none ∨ y ∈ ts.map (·.id)) → ∃ x, ts.foldl (fun o x => if x.id = y then some x else o) o = some x ∧ x.id = y := by
    intro ts
    induction ts with
    | nil =>
      intro o ho hne
      cases o with
      | none => simp at hne
      | some x => exact ⟨x, rfl, ho x rfl⟩
    | cons x ts ih =>
      intro o ho hne
      rw [List.foldl_cons]
      by_cases hx : x.id = y
      · rw [if_pos hx]
        exact ih _ (fun z hz => by injection hz with hz; subst hz; exact hx) (.inl (by simp))
      · rw [if_neg hx]
        refine ih _ ho ?_
        rcases hne with hne | hne
        · exact .inl hne
        · rw [List.map_cons, List.mem_cons] at hne
          rcases hne with hne | hne
          · exact absurd hne.symm hx
          · exact .inr hne
  obtain ⟨x, hx, hid⟩ := aux ts none (fun x hx => by cases hx) (.inr h)
  have h1 : lastT ts y = some x := hx
  unfold lastD
  rw [h1]
  exact ⟨rfl, hid⟩
theorem conf_facts {w w' : World} {a b c d : Value} {auto : Bool} (h : Ext (w.alloc (.cells #[a, b, c, d, .bool auto] 33)) w') :
    w'.cell? ⟨w.heap.size, 0, none⟩ = some a ∧ w'.cell? ⟨w.heap.size, 1, none⟩ = some b ∧ w'.cell? ⟨w.heap.size, 2, none⟩ = some c ∧ w'.cell? ⟨w.heap.size, 3, none⟩ = some d ∧ w'.cell? ⟨w.heap.size, 4, none⟩ = some (.bool auto) :=
  ⟨((Blk.new w _ _).ext h).cell 0, ((Blk.new w _ _).ext h).cell 1, ((Blk.new w _ _).ext h).cell 2, ((Blk.new w _ _).ext h).cell 3, ((Blk.new w _ _).ext h).cell 4⟩

set_option maxRecDepth 100000 in
set_option maxHeartbeats 4000000 in
theorem fnTally_main (A B C D E F : Option Addr) (ca cb cc cd ce cf : Nat) (x : Conf4) (ts : List Trk) (bs : List Ballot) (w : World) (h : Conf4A w A B C D ca cb cc cd x) (ht : RowR w E (ts.flatMap trkCells)) (hb : RowR w F (bs.flatMap ballotCells))
    (hu1 : ∀ k ∈ x.ins, U64 k) (hu2 : ∀ k ∈ x.outs, U64 k) (hu3 : ∀ k ∈ x.learners, U64 k) (hu4 : ∀ k ∈ x.next, U64 k) (hu : ∀ t ∈ ts, U64 t.id) (hbu : ∀ y ∈ bs, U64 y.id) (hfew : few4 x = true) (hn : ts.length ≤ 40) (hm : bs.length ≤ 40) (hbc : bs.length ≤ cf) :
    Calls Try.prog 5 #[.agg (c4cells A B C D ca cb cc cd x), .slice E ts.length ce, .slice F bs.length cf] w (Yes w) := by
  have hf : x.ins.length ≤ 40 ∧ x.outs.length ≤ 40 ∧ x.learners.length ≤ 40 ∧ x.next.length ≤ 40 := by simpa [few4, Bool.and_assoc] using hfew
  obtain ⟨l1, l2, l3, l4⟩ := hf
  have hfit := Lib.hid (show fits15 x = true by simp [fits15]; omega)
  have hfew' := Lib.hid (show (few4 x && decide (ts.length ≤ 40)) = true by rw [hfew, decide_eq_true hn]; rfl)
  have QZ := Lib.hid (fun W => zzFits15_c A B C D ca cb cc cd x W)
  have QS := Lib.hid (fun W => small_c A B C D E ca cb cc cd ts.length ce x W (by unfold maxLen; omega) (by unfold maxLen; omega) (by unfold maxLen; omega) (by unfold maxLen; omega))
  have QT := Lib.hid (fun W (e : Ext w W) => specTracks_c E ce ts W (ht.ext e) (by omega))
  have hCA : ConfA w (.slice A x.ins.length ca) (.slice B x.outs.length cb) (.slice C x.learners.length cc) (.slice D x.next.length cd) x := ⟨h.ins, h.outs, h.learners, h.next, by omega, by omega, by omega, by omega, hu1, hu2, hu3, hu4⟩
  have QI := Lib.hid (fun W (e : Ext w W) => Tally_c _ _ _ _ x E F ce cf ts bs W (hCA.ext e) (ht.ext e) (by omega) hu (hb.ext e) (by omega) hbu)
  have hins := Lib.hid h.ins
  have houts := Lib.hid h.outs
  have hb' := Lib.hid hb
  clear h ht hb hu hbu hu1 hu2 hu3 hu4 hCA hfew
  go_enter Try.func5, Try.ntmps5
  unfold c4cells confCells
  go_wp2_with (first
    | (go_at_call 14; refine (QZ.out _).mono ?_; rintro e w1 ⟨rfl, he1⟩; rw [hfit.out]; obtain ⟨d0, d1, d2, d3, d4⟩ := conf_facts he1)
    | (go_at_call 15; refine (QS.out _).mono ?_; rintro e w2 ⟨rfl, he2⟩; rw [hfew'.out]))
  obtain ⟨wb, hwb⟩ : ∃ wb, wb = w.alloc (.cells #[.slice A x.ins.length ca, .slice B x.outs.length cb, .slice C x.learners.length cc, .slice D x.next.length cd, .bool x.auto] 33) := ⟨_, rfl⟩
  have hEb : Ext w wb := by rw [hwb]; exact (Ext.refl w).alloc _
  have hcf := Lib.hid (fun W (e : Ext wb W) => conf_facts (hwb ▸ e))
  rw [← hwb] at he1
  clear hwb d0 d1 d2 d3 d4
  have hE2 : Ext wb w2 := he1.trans he2
  go_loopg [7, 42] bs.length (fun g v i wr => ∃ (k : Nat) (A1 : Option Addr) (c1 : Nat), g = bs.length - k ∧ k ≤ bs.length ∧ i = .int .i64 k ∧ v = .slice A1 k c1 ∧ wr.ownsRow wb.heap.size 29 2 (.slice A1 k c1) k ((bs.reverse.take k).flatMap ballotCells) ∧ Ext wb wr)
  case atStart => exact ⟨0, none, 0, rfl, by omega, rfl, rfl, World.ownsRow_nil _ _ _ _, hE2⟩
  case round =>
    obtain ⟨k, A1, c1, hg, hk, rfl, rfl, hown, he⟩ := hrel
    have hg' := Lib.hid hg
    have hown' := Lib.hid hown
    clear hg hown
    by_cases hlt : k < bs.length
    · have hlt2 : bs.length - 1 - k < bs.length := by omega
      obtain ⟨bb, o, rfl, hel⟩ := hb'.out.elem ballotCells_len (by omega) hlt2
      have htk := Lib.hid (show bs.reverse.take (k + 1) = bs.reverse.take k ++ [bs[bs.length - 1 - k]] by
        rw [List.take_add_one, List.getElem?_eq_getElem (by simpa using hlt)]
        simp)
      generalize bs[bs.length - 1 - k] = y at hel htk
      have e0 := (hEb.trans he).cellE (hel 0 _ rfl)
      have e1 := (hEb.trans he).cellE (hel 1 _ rfl)
      simp only [Nat.add_zero] at e0
      have hltI : (k : Int) < (bs.length : Int) := by omega
      have hsub : (bs.length : Int) - 1 - (k : Int) = ((bs.length - 1 - k : Nat) : Int) := by omega
      have hsubN : bs.length - 1 - k < bs.length := hlt2
      have hsubI : ((bs.length - 1 - k : Nat) : Int) < (bs.length : Int) := by omega
      clear hel
      go_wp2_with (at_builtin; refine wpList_append_one wr rfl _ _ _ rfl wb.heap.size 29 _ 2 16 Try.underlying23 info_ballot rfl (by omega) (by omega) A1 k c1 _ rfl #[.int .u64 y.id, .bool y.yes] rfl rfl rfl hown'.out (by omega) he.size_le ?_; intro A2 c2 w3 ho hT hE)
      go_roundg (bs.length - (k + 1))
      case rel =>
        refine ⟨k + 1, A2, c2, rfl, by omega, by go_num, rfl, ?_, hE wb (Nat.le_refl _) he⟩
        rw [htk.out, List.flatMap_append]
        exact ho
      case measure =>
        have := hg'.out
        omega
    · have hkk : k = bs.length := by omega
      subst hkk
      have hrev := Lib.hid (show RowR wr A1 (bs.reverse.flatMap ballotCells) ∧ bs.length ≤ c1 ∧ c1 ≤ maxLen by
        have h1 := hown'.out
        rw [List.take_of_length_le (by simp)] at h1
        have h2 := RowR.of_own h1
        obtain ⟨_, c', h3, h4, h5⟩ := ownsRow_shape h1
        injection h3 with _ _ h3
        subst h3
        exact ⟨h2, h4, h5⟩)
      have hEr := Lib.hid he
      clear hown'
      go_wp2_with (go_at_call 16; refine (QT.out _ (hEb.trans he)).mono ?_; rintro e wt ⟨v, rfl, ⟨l, hset, hrow⟩, het⟩; have hset' := Lib.hid hset; have hrow' := Lib.hid hrow; obtain ⟨A3, c3, rfl, hrow3⟩ := hrow; have hrow3' := Lib.hid hrow3; clear hset hrow3; rw [List.length_map])
      have hll : l.length ≤ 40 := by
        have := hset'.out.len
        rw [List.length_map] at this
        omega
      have hEt : Ext wb wt := he.trans het
      have hrevT := Lib.hid (show RowR wt A1 (bs.reverse.flatMap ballotCells) from hrev.out.1.ext het)
      clear het hEr
      go_loopg [9, 10, 60] l.length (fun g y n i wr2 => ∃ (k : Nat), g = l.length - k ∧ k ≤ l.length ∧ y = .int .i64 (tallied (lastT ts) (firstB bs) true (l.take k)) ∧ n = .int .i64 (tallied (lastT ts) (firstB bs) false (l.take k)) ∧ i = .int .i64 k ∧ Ext wt wr2)
      case atStart => exact ⟨0, rfl, by omega, rfl, rfl, rfl, Ext.refl _⟩
      case round =>
        obtain ⟨i, hg2, hi, rfl, rfl, rfl, he3⟩ := hrel
        rename World => wo
        have hg2' := Lib.hid hg2
        clear hg2
        by_cases hil : i < l.length
        · obtain ⟨b3, o3, hA3, hel3⟩ := hrow3'.out.elem trkCells_len (by omega) (show i < (l.map (lastD ts)).length by simpa using hil)
          have hlk := Lib.hid (show l.take (i + 1) = l.take i ++ [l[i]] by rw [List.take_add_one, List.getElem?_eq_getElem hil]; rfl)
          have hmem := (hset'.out.2 l[i]).1 (List.getElem_mem hil)
          simp only [List.getElem_map] at hel3
          obtain ⟨hlt1, hlt2⟩ := lastT_id hmem
          generalize l[i] = y at hel3 hlk hmem hlt1 hlt2
          generalize hu : lastD ts y = u at hel3 hlt1 hlt2
          subst hA3
          have e0 := he3.cellE (hel3 0 _ rfl)
          have e1 := he3.cellE (hel3 1 _ rfl)
          have e2 := he3.cellE (hel3 2 _ rfl)
          have e3 := he3.cellE (hel3 3 _ rfl)
          have e4 := he3.cellE (hel3 4 _ rfl)
          simp only [Nat.add_zero] at e0
          have hilI : (i : Int) < (l.length : Int) := by omega
          have hltT := Lib.hid hlt1
          subst hlt2
          have hyl : (tallied (lastT ts) (firstB bs) true (l.take i) : Int) ≤ 40 := by have := tallied_le (lastT ts) (firstB bs) true (l.take i); rw [List.length_take] at this; omega
          have hnl : (tallied (lastT ts) (firstB bs) false (l.take i) : Int) ≤ 40 := by have := tallied_le (lastT ts) (firstB bs) false (l.take i); rw [List.length_take] at this; omega
          clear hel3 hmem hu hlt1
          go_wp2_with fail
          have hE9 : Ext wo (wo.alloc (.cells (trkCells u).toArray 39)) := (Ext.refl wo).alloc _
          have hB9 := Lib.hid (Blk.new wo 39 (trkCells u).toArray)
          have hEw : Ext w wo := hEb.trans (hEt.trans he3)
          go_loopg [9, 10, 66] bs.length (fun g y n j wi => ∃ (q : Nat), g = bs.length - q ∧ q ≤ bs.length ∧ y = .int .i64 (tallied (lastT ts) (firstB bs) true (l.take i)) ∧ n = .int .i64 (tallied (lastT ts) (firstB bs) false (l.take i)) ∧ j = .int .i64 q ∧ (∀ j (hj : j < bs.length), j < q → bs[j].id ≠ u.id) ∧ Ext (wo.alloc (.cells (trkCells u).toArray 39)) wi)
          case atStart => exact ⟨0, rfl, by omega, rfl, rfl, rfl, fun j hj hq => by omega, Ext.refl _⟩
          case round =>
            obtain ⟨q, hg3, hq, rfl, rfl, rfl, hno, he5⟩ := hrel
            have hg3' := Lib.hid hg3
            have hno' := Lib.hid hno
            have t0 := (hB9.out.ext he5).cell 0
            have t3 := (hB9.out.ext he5).cell 3
            have hlt9 : wo.heap.size < wr.heap.size := (hB9.out.ext he5).lt
            simp [trkCells] at t0 t3
            clear hg3 hno
            by_cases hlt : q < bs.length
            · obtain ⟨bb2, o2, rfl, hel⟩ := hb'.out.elem ballotCells_len (by omega) hlt
              have hfound := Lib.hid (fun he => firstB_found (y := u.id) hlt hno'.out he)
              have hnoq := Lib.hid (show bs[q].id ≠ u.id → ∀ j (hj : j < bs.length), j < q + 1 → bs[j].id ≠ u.id from fun hne j hj hjq => by
                by_cases h : j = q
                · subst h
                  exact hne
                · exact hno'.out j hj (by omega))
              generalize bs[q] = z at hel hfound hnoq
              have hE5 := hEw.trans (hE9.trans he5)
              have f0 := hE5.cellE (hel 0 _ rfl)
              have f1 := hE5.cellE (hel 1 _ rfl)
              simp only [Nat.add_zero] at f0
              have hltI : (q : Int) < (bs.length : Int) := by omega
              clear hel
              by_cases hid : z.id = u.id
              · have hfb := Lib.hid (hfound.out hid)
                have hidb : (z.id != u.id) = false := by simp [hid]
                have htl : ∀ v, tallied (lastT ts) (firstB bs) v (l.take (i + 1)) = tallied (lastT ts) (firstB bs) v (l.take i) + if (!u.learner && some z.yes == some v) then 1 else 0 := by
                  intro v
                  rw [hlk.out, tallied_snoc, hltT.out, hfb.out]
                have htl' := Lib.hid htl
                have hid' := Lib.hid hid
                clear htl hid hfound hnoq
                rcases hle : u.learner with _ | _ <;> rw [hle] at t3 <;> rcases hye : z.yes with _ | _ <;> rw [hye] at f1
                all_goals go_wp2_with fail
                all_goals go_roundg (l.length - (i + 1))
                all_goals first
                  | exact ⟨i + 1, rfl, by omega, by rw [htl'.out]; simp [hle, hye], by rw [htl'.out]; simp [hle, hye], by go_num, he3.trans ((hE9.trans he5).trans ((Ext.refl _).alloc _))⟩
                  | (have := hg2'.out; omega)
              · have hnz := Lib.hid (hnoq.out hid)
                have hidb : (z.id != u.id) = true := by simpa using hid
                clear hid hfound hnoq
                go_wp2_with fail
                go_roundg (bs.length - (q + 1))
                case rel => exact ⟨q + 1, rfl, by omega, rfl, rfl, by go_num, hnz.out, he5.trans ((Ext.refl _).alloc _)⟩
                case measure =>
                  have := hg3'.out
                  omega
            · have hqI : (bs.length : Int) ≤ (q : Int) := by omega
              have hfb := Lib.hid (firstB_none (bs := bs) (y := u.id) (fun j hj => hno'.out j hj (by omega)))
              have htl : ∀ v, tallied (lastT ts) (firstB bs) v (l.take (i + 1)) = tallied (lastT ts) (firstB bs) v (l.take i) := by
                intro v
                rw [hlk.out, tallied_snoc, hltT.out, hfb.out]
                simp
              have htl' := Lib.hid htl
              clear htl
              go_wp2_with fail
              go_roundg (l.length - (i + 1))
              case rel => exact ⟨i + 1, rfl, by omega, by rw [htl'.out], by rw [htl'.out], by go_num, he3.trans (hE9.trans he5)⟩
              case measure =>
                have := hg2'.out
                omega
        · have hii : i = l.length := by omega
          subst hii
          obtain ⟨d0, d1, d2, d3, d4⟩ := hcf.out wo (hEt.trans he3)
          have hEw : Ext w wo := hEb.trans (hEt.trans he3)
          have hrevB : lastB bs.reverse = firstB bs := funext (lastB_reverse bs)
          have QJ := Lib.hid (fun (l0 l1 : List Int) (W : World) (e : Ext wo W) (h0 : IsSet l0 x.ins) (h1 : IsSet l1 x.outs) => by
            have := specJoint_c A B A1 ca cb c1 x.ins x.outs bs.reverse W (hins.out.ext (hEw.trans e)) (houts.out.ext (hEw.trans e)) ⟨A1, c1, by rw [List.length_reverse], by rw [List.length_reverse]; exact hrev.out.2.1, hrev.out.2.2, by rw [flat_length ballotCells_len], hrevT.out.ext (he3.trans e)⟩ (by omega) (by omega) (by rw [List.length_reverse]; omega) l0 l1 h0 h1
            rwa [List.length_reverse, hrevB] at this)
          clear hrevB
          simp only [List.take_length]
          go_wp2_with (first
            | (go_at_call 17; refine (QI.out _ hEw).mono ?_; rintro e w6 ⟨⟨l', l0, l1, hs', hs0, hs1, rfl⟩, he6⟩; obtain rfl : l' = l := hs'.eq hset'.out; have hs0' := Lib.hid hs0; have hs1' := Lib.hid hs1; have k0 := he6.cellE d0; have k1 := he6.cellE d1; clear hs' hs0 hs1)
            | (go_at_call 18; refine (QJ.out l0 l1 _ he6 hs0'.out hs1'.out).mono ?_; rintro e w7 ⟨rfl, he7⟩))
          go_ret
          exact ⟨by simp, hEw.trans (he6.trans he7)⟩

end Go.Proofs.Ytklhflbjkckhmaa
