/- impl.Tally; the law's small helpers. -/
import Derived.Test.YtklhflbjkckhmaaTally
import Derived.Test.YtklhflbjkckhmaaFew
namespace Go.Proofs.Ytklhflbjkckhmaa
open Go.ChangeShapes Go.WideShapes Go.ChangeAt Go.RowKit
set_option linter.unusedSimpArgs false
set_option linter.unusedVariables false

theorem keys_set {w : World} {t : Nat} {m : List (Int × Value)} {ts : List Trk} (hr : Rising m) (h : ProgM w t m (lastT ts)) : IsSet (m.map (·.1)) (ts.map (·.id)) := by
  refine ⟨hr.keys, fun k => ?_⟩
  have hlt : ∀ ts : List Trk, lastT ts k = none ↔ k ∉ ts.map (·.id) := by
    have aux : ∀ (ts : List Trk) (o : Option Trk), ts.foldl (fun o x => if x.id = k then some x else o) o = none ↔ o = none ∧ k ∉ ts.map (·.id) := by
      intro ts
      induction ts with
      | nil => simp
      | cons x ts ih =>
        intro o
        rw [List.foldl_cons, ih, List.map_cons, List.mem_cons]
        by_cases hx : x.id = k
        · simp [hx]
        · simp [hx, Ne.symm hx]
    intro ts
    unfold lastT
    rw [aux]
    simp
  have hk := h k
  constructor
  · intro hm
    obtain ⟨p, hp, rfl⟩ := List.mem_map.1 hm
    have hg := (get_mem hr).2 (show (p.1, p.2) ∈ m from hp)
    cases hf : lastT ts p.1 with
    | none =>
      rw [hf] at hk
      simp only at hk
      rw [hk] at hg
      cases hg
    | some x =>
      have hn : lastT ts p.1 ≠ none := by rw [hf]; simp
      exact Classical.not_not.1 (fun hc => hn ((hlt ts).2 hc))
  · intro hm
    cases hf : lastT ts k with
    | none => exact absurd hm ((hlt ts).1 hf)
    | some x =>
      rw [hf] at hk
      obtain ⟨p, i, h1, _⟩ := hk
      have := (get_mem hr).1 h1
      exact List.mem_map.2 ⟨_, this, rfl⟩

theorem voteOf_nil (f : Int → Option Bool) : voteOf f [] = 3 := rfl
theorem tallied_perm {f : Int → Option Trk} {g : Int → Option Bool} {v : Bool} {a b : List Int} (h : a.Perm b) : tallied f g v a = tallied f g v b := h.countP_eq _

/-- What of a tracker stays while votes are recorded. -/
def TrkP (base : Nat) (w : World) (c : Conf4) (ts : List Trk) (b0 bp bv : Nat) (v1 : Value) : Prop :=
  (∃ l, SetR w b0 l ∧ IsSet l c.ins) ∧ SetO w base v1 c.outs ∧ ∃ m tt, MapV w bp m ∧ m.length ≤ 2147483647 ∧ ProgM w tt m (lastT ts) ∧ bp < tt ∧ bv < tt
theorem TrkP.ext {base : Nat} {w w' : World} {c : Conf4} {ts : List Trk} {b0 bp bv : Nat} {v1 : Value} (h : TrkP base w c ts b0 bp bv v1) (e : Ext w w') : TrkP base w' c ts b0 bp bv v1 := by
  obtain ⟨⟨l, h1, h2⟩, h3, m, tt, h4, h5, h6, h7⟩ := h
  exact ⟨⟨l, MapV.ext h1 e, h2⟩, h3.ext e, m, tt, h4.ext e, h5, h6.ext e, h7⟩
theorem TrkP.chg {base : Nat} {w w' : World} {c : Conf4} {ts : List Trk} {b0 bp bv : Nat} {v1 : Value} (h : TrkP base w c ts b0 bp bv v1) (e : Chg (· = bv) w w') (h0 : base ≤ b0) (hb : bv < base) (hne : bp ≠ bv) : TrkP base w' c ts b0 bp bv v1 := by
  obtain ⟨⟨l, h1, h2⟩, h3, m, tt, h4, h5, h6, h7⟩ := h
  exact ⟨⟨l, MapV.chg h1 e (by omega), h2⟩, h3.chg e (fun k hk (he : k = bv) => by omega), m, tt, h4.chg e hne, h5, h6.chg e (fun k hk (he : k = bv) => by omega), h7⟩

set_option maxRecDepth 100000 in
set_option maxHeartbeats 4000000 in
theorem Tally_c (a b c d : Value) (x : Conf4) (A B : Option Addr) (cc cb : Nat) (ts : List Trk) (bs : List Ballot) (w : World) (h : ConfA w a b c d x) (ht : RowR w A (ts.flatMap trkCells)) (hn : ts.length ≤ 2147483647) (hu : ∀ t ∈ ts, U64 t.id)
    (hb : RowR w B (bs.flatMap ballotCells)) (hbn : bs.length ≤ 2147483646) (hbu : ∀ y ∈ bs, U64 y.id) :
    Calls Try.prog 17 #[.agg (confCells a b c d x.auto), .slice A ts.length cc, .slice B bs.length cb] w fun e w' => (∃ l l0 l1, IsSet l (ts.map (·.id)) ∧ IsSet l0 x.ins ∧ IsSet l1 x.outs ∧
      e = .returned (.tuple #[.int .i64 (tallied (lastT ts) (firstB bs) true l), .int .i64 (tallied (lastT ts) (firstB bs) false l), .int .i64 (jv (voteOf (firstB bs) l0) (voteOf (firstB bs) l1))])) ∧ Ext w w' := by
  have QT := Lib.hid (fun W (e : Ext w W) => trackerOf_c a b c d x A cc ts W (h.ext e) (ht.ext e) hn hu)
  have hni := h.nin
  have hno := h.nout
  have hb' := Lib.hid hb
  have hbu' := Lib.hid hbu
  clear h ht hb hbu hu
  go_enter Try.func17, Try.ntmps17
  unfold confCells
  go_wp2_with (go_at_call 36; refine (QT.out _ ((Ext.refl w).alloc _)).mono ?_; rintro e w1 ⟨v, rfl, ⟨base, b0, bp, bv, v1, v2, v3, rfl, hR, hbplo, hbvlo'⟩, he1⟩; have hbvlo := Lib.hid hbvlo'; clear hbplo hbvlo'; have hR' := Lib.hid hR; obtain ⟨m1, rfl⟩ := hR.outs.shape; obtain ⟨m2, rfl⟩ := hR.learners.shape; obtain ⟨m3, rfl⟩ := hR.next.shape; clear hR; unfold trCells)
  obtain ⟨w2, t, hw2, hte, hB2, hE2, hbvt, hbvl⟩ : ∃ w2 t, w2 = w1.alloc (.cells (trCells b0 bp bv (.map m1) (.map m2) (.map m3) x.auto) 71) ∧ t = w1.heap.size ∧ Blk w2 t 71 (trCells b0 bp bv (.map m1) (.map m2) (.map m3) x.auto) ∧ Ext w1 w2 ∧ bv < t ∧ w.heap.size ≤ bv := by
    refine ⟨_, _, rfl, rfl, Blk.new _ _ _, (Ext.refl w1).alloc _, hR'.out.votes.lt, ?_⟩
    have := hbvlo.out
    rw [show (w.alloc (.cells #[a, b, c, d, .bool x.auto] 33)).heap.size = w.heap.size + 1 by simp] at this
    omega
  have hgoal := hw2
  unfold trCells at hgoal
  rw [← hgoal, ← hte]
  have hTP := Lib.hid (show TrkP base w2 x ts b0 bp bv (.map m1) from ⟨by obtain ⟨l, k1, k2⟩ := hR'.out.ins; exact ⟨l, MapV.ext k1 hE2, k2⟩, hR'.out.outs.ext hE2, by obtain ⟨m, tt, k1, k2, k3, k4⟩ := hR'.out.prog; exact ⟨m, tt, k1.ext hE2, k2, k3.ext hE2, k4⟩⟩)
  have hV2 := Lib.hid (show VotesN w2 bv (firstB []) 0 from ⟨[], hR'.out.votes.ext hE2, by simp, fun k => rfl⟩)
  have hEw : Ext w w2 := ((Ext.refl w).alloc _).trans (he1.trans hE2)
  have hb0' := hR'.out.b0_
  have hbv' := hR'.out.bv_
  have hne' := Lib.hid hR'.out.bpv
  have hB2' := Lib.hid hB2
  clear hw2 hte hgoal hB2 hE2 he1 hbvlo hR'
  go_loopg [20] bs.length (fun g i wr => ∃ (k : Nat), g = bs.length - k ∧ k ≤ bs.length ∧ i = .int .i64 k ∧ Blk wr t 71 (trCells b0 bp bv (.map m1) (.map m2) (.map m3) x.auto) ∧ TrkP base wr x ts b0 bp bv (.map m1) ∧ VotesN wr bv (firstB (bs.take k)) k ∧ Ext w wr)
  case atStart => exact ⟨0, rfl, by omega, rfl, hB2'.out, hTP.out, hV2.out, hEw⟩
  case round =>
    obtain ⟨k, hg, hk, rfl, hBr, hTr, hVr, he⟩ := hrel
    have hg' := Lib.hid hg
    have hBr' := Lib.hid hBr
    have hTr' := Lib.hid hTr
    have hVr' := Lib.hid hVr
    clear hg hBr hTr hVr
    by_cases hlt : k < bs.length
    · obtain ⟨bb, o, rfl, hel⟩ := hb'.out.elem ballotCells_len (by omega) hlt
      have hku := hbu'.out _ (List.getElem_mem hlt)
      have htk := Lib.hid (show bs.take (k + 1) = bs.take k ++ [bs[k]] by rw [List.take_add_one, List.getElem?_eq_getElem hlt]; rfl)
      generalize bs[k] = y at hel hku htk
      have e0 := he.cellE (hel 0 _ rfl)
      have e1 := he.cellE (hel 1 _ rfl)
      simp only [Nat.add_zero] at e0
      have hltI : (k : Int) < (bs.length : Int) := by omega
      have eA := Lib.hid ((Ext.refl wr).alloc (.cells #[.int .u64 y.id, .bool y.yes] 29))
      have QR := Lib.hid (recordVote_c t b0 bp bv k (.map m1) (.map m2) (.map m3) x.auto (bs.take k) y _ (hBr'.out.ext eA.out) (hVr'.out.ext eA.out) (by omega) hku)
      clear hel
      go_wp2_with (go_at_call 37; refine QR.out.mono ?_; rintro e w3 ⟨rfl, hV3, hC3⟩)
      go_roundg (bs.length - (k + 1))
      case rel => exact ⟨k + 1, rfl, by omega, by go_num, (hBr'.out.ext eA.out).chg hC3 (by omega), (hTr'.out.ext eA.out).chg hC3 hb0' hbv' hne'.out, by rw [htk.out]; exact hV3, (he.trans eA.out).chg_new hC3 (fun j (hj : j = bv) => by omega)⟩
      case measure =>
        have := hg'.out
        omega
    · have hkk : k = bs.length := by omega
      have hltI : (bs.length : Int) ≤ (k : Int) := by omega
      obtain ⟨⟨l0, hS0, hI0⟩, hO, m, tt, hM, hml, hPM, htt1, htt2⟩ := hTr'.out
      have hV := hVr'.out
      rw [hkk, List.take_of_length_le (Nat.le_refl _)] at hV
      obtain ⟨l1, hI1, hQ1⟩ : ∃ l1, IsSet l1 x.outs ∧ ∀ W, Ext wr W → Calls Try.prog 32 #[.map m1, .map (some bv)] W fun e w' => e = .returned (.int .u8 (voteOf (firstB bs) l1)) ∧ Ext W w' := by
        rcases hO with ⟨h0, h1⟩ | ⟨b1, l1, h1, h2, h3, h4⟩
        · injection h1 with h1
          subst h1
          refine ⟨[], by rw [h0]; exact ⟨List.Pairwise.nil, by simp⟩, fun W e => ?_⟩
          rw [voteOf_nil]
          exact majVoteNil_c bv W
        · injection h1 with h1
          subst h1
          exact ⟨l1, h4, fun W e => majVote_c b1 bv l1 (firstB bs) W (MapV.ext h3 e) (hV.votes.ext e) (Nat.le_trans h4.len hno)⟩
      have QV := Lib.hid (tallyVotes_c t base b0 bp bv bs.length 0 (.map m1) (.map m2) (.map m3) m1 x.auto (lastT ts) (firstB bs) m _ _ wr rfl hBr'.out hM hPM.prog hml hV (voteOf_bd (firstB bs) l0) (voteOf_bd (firstB bs) l1) (fun W e => majVote_c b0 bv l0 (firstB bs) W (MapV.ext hS0 e) (hV.votes.ext e) (Nat.le_trans hI0.len hni)) hQ1)
      have hks := Lib.hid (keys_set hM.rising hPM)
      have hI0' := Lib.hid hI0
      have hI1' := Lib.hid hI1
      have hja := Lib.hid (show 1 ≤ jv (voteOf (firstB bs) l0) (voteOf (firstB bs) l1) ∧ jv (voteOf (firstB bs) l0) (voteOf (firstB bs) l1) ≤ 3 by have := voteOf_bd (firstB bs) l0; have := voteOf_bd (firstB bs) l1; unfold jv; split <;> (try split) <;> omega)
      clear hS0 hI0 hO hM hPM hV hI1 hQ1
      generalize hjv : jv (voteOf (firstB bs) l0) (voteOf (firstB bs) l1) = j at *
      obtain ⟨hj1, hj3⟩ := hja.out
      have hjv' := Lib.hid hjv
      clear hjv
      go_wp2_with (go_at_call 38; refine QV.out.mono ?_; rintro e w4 ⟨⟨done, hperm, rfl⟩, he4⟩; have hperm' := Lib.hid hperm; clear hperm)
      refine bodyPost_ret (results_tmp3 rfl _ _ _) rfl ?_
      refine ⟨⟨_, l0, l1, hks.out, hI0'.out, hI1'.out, ?_⟩, he.trans he4⟩
      rw [hjv'.out, ← tallied_perm hperm'.out, ← tallied_perm hperm'.out]
      rfl

end Go.Proofs.Ytklhflbjkckhmaa
