/- The reference's flights: Do. -/
import Derived.Test.YtfoffejgpalmpaaFlyFree
import Derived.Laws.ResultCell
namespace Go.Proofs.Ytfoffejgpalmpaa
open Go.ChangeShapes Go.WideShapes Go.ChangeAt Go.RowKit
set_option linter.unusedSimpArgs false
set_option linter.unusedVariables false

theorem results_row_tmp {P : Program} {fn : Func} {p u : Tmp} {ty : TypeId} (h : fn.results = #[.cell p ty, .tmp u]) (tmps : Array Value) (w : World) (g : Nat) (t : TypeId) (cs : Array Value) (fr : Nat × Nat) (d : TypeDesc)
    (hp : tmps.getD p undef = .pointer (some ⟨g, 0, none⟩)) (hg : w.heap[g]? = some (.cells cs t fr))
    (hu : P.underlying ty = some d) (hd : (match d with | .struct _ | .array _ _ => true | _ => false) = true) (hi : (P.info? ty).map (·.size) = some cs.size) :
    (results fn tmps).run P w = .ok (.tuple #[.agg cs, tmps.getD u undef]) w := by
  rw [results_cell_tmp h, hp]
  simp [asAddr, run_loadVar_row w g t ty cs fr d hg hu hd hi, Result.andThen]

/-- What a call makes of the reference; none: nothing is said. -/
def fyStep (sz : Nat) (mx : Int) (q : List Fl) (kind a y : Int) : Option (List Fl) :=
  if kind = 1 then (if addOk q sz mx a y then some (q ++ [(a, y)]) else none) else if kind = 2 then some (freed a q) else if kind = 3 then some [] else some q
theorem fyStep_fl {sz : Nat} {mx : Int} {q q' : List Fl} {kind a y : Int} (h : fyStep sz mx q kind a y = some q') : flStep sz mx q kind a y = some q' := by
  unfold fyStep at h
  unfold flStep
  by_cases hk : kind = 1
  · rw [if_pos hk] at h ⊢
    by_cases ha : addOk q sz mx a y = true
    · rw [if_pos ha] at h
      have : isFull q.length (sumQ q) sz mx = false := by
        simp [addOk] at ha
        exact ha.1.1
      rw [this]
      exact h
    · rw [if_neg ha] at h
      cases h
  · rw [if_neg hk] at h ⊢
    exact h
/-- What Do answers. -/
def DoEnd (base b sz : Nat) (mx : Int) (r : Option (List Fl)) (w : World) (e : Ending) (w' : World) : Prop :=
  Chg0 base w w' ∧ match r with
  | some q => e = .returned (.tuple #[.agg (faCells q.length (isFull q.length (sumQ q) sz mx) false), .bool true]) ∧ FlyR base w' b sz mx q
  | none => e = .returned (.tuple #[.agg (faCells 0 false false), .bool false])
/-- The worlds of Do. -/
def dw2 (w : World) (kind a y : Int) : World := (w.alloc (.cells (fcCells kind a y) 36)).alloc (.cells (faCells 0 false false) 38)

theorem FlyR.chgk {base b sz k : Nat} {T : TypeId} {cs : Array Value} {mx : Int} {q : List Fl} {w w' : World} (h : FlyR base w b sz mx q) (hk : Blk w k T cs) (h1 : (31 : Nat) ≠ T) (h2 : (22 : Nat) ≠ T) (hg : Chg (· = k) w w') : FlyR base w' b sz mx q := by
  obtain ⟨A1, A2, c1, c2, hV⟩ := h
  exact ⟨A1, A2, c1, c2, hV.blk.chg hg (Blk.ne hV.blk hk h1), hV.i.chg hg (fun j hj => hV.i.ne hk h2 j hj), hV.y.chg hg (fun j hj => hV.y.ne hk h2 j hj), hV.ne, hV.base⟩

theorem FlyR.chgT {base b sz : Nat} {mx : Int} {q : List Fl} {Ts : List Nat} {w w' : World} (h : FlyR base w b sz mx q) (e : ChgT Ts w w') (h1 : Ts.contains (31 + 1) = false) (h2 : Ts.contains (22 + 1) = false) : FlyR base w' b sz mx q := by
  obtain ⟨A1, A2, c1, c2, hV⟩ := h
  exact ⟨A1, A2, c1, c2, hV.blk.chgT e h1, hV.i.chgT e h2, hV.y.chgT e h2, hV.ne, hV.base⟩

/-- The answer laid. -/
theorem do_end {base b sz ab : Nat} {mx : Int} {q q' : List Fl} {kind a y : Int} {w w0 w1 w4 : World} (hab : w.heap.size ≤ ab) (hbw : base ≤ w.heap.size) (h0 : Ext w w0) (hA : Blk w0 ab 38 (faCells 0 false false)) (hC : Chg0 base w0 w1) (hF : FlyR base w1 b sz mx q') (hE : Ext w1 w4) :
    let w' := ((w4.setCell ⟨ab, 0, none⟩ (.int .i64 q'.length)).setCell ⟨ab, 1, none⟩ (.bool (isFull q'.length (sumQ q') sz mx))).setCell ⟨ab, 2, none⟩ (.bool false)
    Blk w' ab 38 (faCells q'.length (isFull q'.length (sumQ q') sz mx) false) ∧ Chg0 base w w' ∧ FlyR base w' b sz mx q' := by
  intro w'
  have hA4 := (hA.chgT hC.1 (by decide)).ext hE
  have hB := ((hA4.set_ 0 (.int .i64 q'.length)).set_ 1 (.bool (isFull q'.length (sumQ q') sz mx))).set_ 2 (.bool false)
  have hg : Chg (· = ab) w4 w' := ((chg_setCell w4 ⟨ab, 0, none⟩ _).trans (chg_setCell _ ⟨ab, 1, none⟩ _)).trans (chg_setCell _ ⟨ab, 2, none⟩ _)
  have hc : Chg0 base w w4 := ((Chg0.ext h0).trans hC).trans (Chg0.ext hE)
  refine ⟨by simpa [faCells] using hB, ⟨hc.1.new hg (fun j hj => by omega), fun W0 hW he => (hc.2 W0 hW he).chg_new hg (fun j hj => by omega)⟩, (hF.ext hE).chgk hA4 (by decide) (by decide) hg⟩

theorem freed_len (to : Int) : ∀ q : List Fl, (freed to q).length ≤ q.length
  | [] => Nat.le_refl _
  | x :: q => by
    by_cases h : x.1 ≤ to
    · rw [freed_go h]
      have := freed_len to q
      rw [List.length_cons]
      omega
    · rw [freed_stop h]
      exact Nat.le_refl _

set_option maxRecDepth 100000 in
set_option maxHeartbeats 8000000 in
theorem flyDo_c (base b sz : Nat) (mx : Int) (q : List Fl) (kind a y : Int) (w : World) (h : FlyR base w b sz mx q) (hn : q.length ≤ 999999) (hsz : sz ≤ 1000000) :
    Calls Try.prog 18 #[.pointer (some ⟨b, 0, none⟩), .agg (fcCells kind a y)] w (DoEnd base b sz mx (fyStep sz mx q kind a y) w) := by
  have hq := Lib.hid (h.ext (((Ext.refl w).alloc (.cells (fcCells kind a y) 36)).alloc (.cells (faCells 0 false false) 38)))
  have hA0 := Lib.hid (Blk.new_at (show w.heap.size + 1 = (w.alloc (.cells (fcCells kind a y) 36)).heap.size from (size_alloc _ _).symm) : Blk ((w.alloc (.cells (fcCells kind a y) 36)).alloc (.cells (faCells 0 false false) 38)) (w.heap.size + 1) 38 (faCells 0 false false))
  have hbw : base ≤ w.heap.size := by
    obtain ⟨A1, A2, c1, c2, hV⟩ := h
    have := hV.blk.lt
    have := hV.base
    omega
  clear h
  go_enter Try.func18, Try.ntmps18
  by_cases hk1 : kind = 1
  · subst hk1
    have Q := flyAdd_c base b sz mx a y q _ hq.out (by omega)
    cases ha : addOk q sz mx a y with
    | false =>
      rw [ha] at Q
      have Q' := Lib.hid Q
      have hst' := Lib.hid (show fyStep sz mx q 1 a y = none by simp [fyStep, ha])
      clear Q ha
      unfold fcCells
      go_wp2_with (go_at_call 19; refine Q'.out.mono ?_; rintro e w1 ⟨rfl, hC, hF⟩; have hA1 := hA0.out.chgT hC.1 (by decide); have a0 := hA1.cell 0; have a1 := hA1.cell 1; have a2 := hA1.cell 2; have z0 := hA1.thaw 0; have z1 := hA1.thaw 1; have z2 := hA1.thaw 2; simp [faCells] at a0 a1 a2; have hA1' := Lib.hid hA1; have hC' := Lib.hid hC; clear hA1 hC hF)
      have hB := ((hA1'.out.set_ 0 (.int .i64 0)).set_ 1 (.bool false)).set_ 2 (.bool false)
      have hg : Chg (· = w.heap.size + 1) w1 _ := ((chg_setCell w1 ⟨w.heap.size + 1, 0, none⟩ (.int .i64 0)).trans (chg_setCell _ ⟨w.heap.size + 1, 1, none⟩ (.bool false))).trans (chg_setCell _ ⟨w.heap.size + 1, 2, none⟩ (.bool false))
      have hc : Chg0 base w w1 := (Chg0.ext (((Ext.refl w).alloc _).alloc _)).trans hC'.out
      refine bodyPost_ret (v := .tuple #[.agg (faCells 0 false false), .bool false]) (results_row_tmp (by rw [Try.results18]) _ _ (w.heap.size + 1) 38 (faCells 0 false false) (0, 0) _ rfl (by simpa [faCells] using hB.out) Try.underlying38 rfl info_answer) rfl ?_
      rw [hst'.out]
      exact ⟨⟨hc.1.new hg (fun j hj => by omega), fun W0 hW he => (hc.2 W0 hW he).chg_new hg (fun j hj => by omega)⟩, rfl⟩
    | true =>
      rw [ha] at Q
      have hst : fyStep sz mx q 1 a y = some (q ++ [(a, y)]) := by simp [fyStep, ha]
      simp only [if_true] at Q
      clear ha
      have hn' : (q ++ [(a, y)]).length ≤ 1000000 := by simp; omega
      generalize q ++ [(a, y)] = q' at Q hst hn'
      have Q' := Lib.hid Q
      have hst' := Lib.hid hst
      clear Q hst
      unfold fcCells
      go_wp2_with (go_at_call 19; refine Q'.out.mono ?_; rintro e w1 ⟨rfl, hC, hF⟩)
      have hF' := Lib.hid hF
      have hC' := Lib.hid hC
      have hA1 := Lib.hid (hA0.out.chgT hC.1 (by decide))
      obtain ⟨A1, A2, cc1, cc2, hV⟩ := hF
      have d2 := hV.blk.cell 2
      simp [fyCells] at d2
      have hV' := Lib.hid hV
      clear hC hV
      go_region_with (go_at_call 26; refine (flyFull_c base b sz mx _ _ (hF'.out.ext (Ext.refl w1).drew) (by omega)).mono ?_; rintro e w4 ⟨rfl, he4⟩; have hE4 : Ext w1 w4 := (Ext.refl w1).drew.trans he4; have d2' := hE4.cellE d2; have a0 := (hA1.out.ext hE4).cell 0; have a1 := (hA1.out.ext hE4).cell 1; have a2 := (hA1.out.ext hE4).cell 2; have z0 := (hA1.out.ext hE4).thaw 0; have z1 := (hA1.out.ext hE4).thaw 1; have z2 := (hA1.out.ext hE4).thaw 2; simp [faCells] at a0 a1 a2)
      all_goals
        go_wp2
        have hend := do_end (w := w) (by omega) hbw (((Ext.refl w).alloc _).alloc _) hA0.out hC'.out hF'.out hE4 (kind := 0) (a := 0) (y := 0) (q := [])
        refine bodyPost_ret (v := .tuple #[.agg (faCells q'.length (isFull q'.length (sumQ q') sz mx) false), .bool true]) (results_row_tmp (by rw [Try.results18]) _ _ (w.heap.size + 1) 38 _ (0, 0) _ rfl hend.1.out Try.underlying38 rfl info_answer) rfl ?_
        rw [hst'.out]
        exact ⟨hend.2.1, rfl, hend.2.2⟩
  have hk1b : (kind == 1) = false := by simpa using hk1
  by_cases hk2 : kind = 2
  · subst hk2
    have Q := flyFree_c base b sz mx a q _ hq.out (by omega)
    have hst : fyStep sz mx q 2 a y = some (freed a q) := by simp [fyStep]
    have hn' : (freed a q : List Fl).length ≤ 1000000 := by have := freed_len a q; omega
    generalize (freed a q : List Fl) = q' at Q hst hn'
    have Q' := Lib.hid Q
    have hst' := Lib.hid hst
    clear Q hst hk1
    unfold fcCells
    go_wp2_with (go_at_call 31; refine Q'.out.mono ?_; rintro e w1 ⟨rfl, hF, hC⟩)
    have hF' := Lib.hid hF
    have hC' := Lib.hid hC
    have hA1 := Lib.hid (hA0.out.chgT hC.1 (by decide))
    obtain ⟨A1, A2, cc1, cc2, hV⟩ := hF
    have d2 := hV.blk.cell 2
    simp [fyCells] at d2
    have hV' := Lib.hid hV
    clear hC hV
    go_region_with (go_at_call 26; refine (flyFull_c base b sz mx _ _ (hF'.out.ext (Ext.refl w1).drew) (by omega)).mono ?_; rintro e w4 ⟨rfl, he4⟩; have hE4 : Ext w1 w4 := (Ext.refl w1).drew.trans he4; have d2' := hE4.cellE d2; have a0 := (hA1.out.ext hE4).cell 0; have a1 := (hA1.out.ext hE4).cell 1; have a2 := (hA1.out.ext hE4).cell 2; have z0 := (hA1.out.ext hE4).thaw 0; have z1 := (hA1.out.ext hE4).thaw 1; have z2 := (hA1.out.ext hE4).thaw 2; simp [faCells] at a0 a1 a2)
    all_goals
      go_wp2
      have hend := do_end (w := w) (by omega) hbw (((Ext.refl w).alloc _).alloc _) hA0.out hC'.out hF'.out hE4 (kind := 0) (a := 0) (y := 0) (q := [])
      refine bodyPost_ret (v := .tuple #[.agg (faCells q'.length (isFull q'.length (sumQ q') sz mx) false), .bool true]) (results_row_tmp (by rw [Try.results18]) _ _ (w.heap.size + 1) 38 _ (0, 0) _ rfl hend.1.out Try.underlying38 rfl info_answer) rfl ?_
      rw [hst'.out]
      exact ⟨hend.2.1, rfl, hend.2.2⟩
  have hk2b : (kind == 2) = false := by simpa using hk2
  by_cases hk3 : kind = 3
  · subst hk3
    have Q := flyReset_c base b sz mx q _ hq.out
    have hst : fyStep sz mx q 3 a y = some ([]) := by simp [fyStep]
    have hn' : ([] : List Fl).length ≤ 1000000 := by simp
    generalize ([] : List Fl) = q' at Q hst hn'
    have Q' := Lib.hid Q
    have hst' := Lib.hid hst
    clear Q hst hk1 hk2
    unfold fcCells
    go_wp2_with (go_at_call 37; refine Q'.out.mono ?_; rintro e w1 ⟨rfl, hF, hC⟩)
    have hF' := Lib.hid hF
    have hC' := Lib.hid hC
    have hA1 := Lib.hid (hA0.out.chgT hC.1 (by decide))
    obtain ⟨A1, A2, cc1, cc2, hV⟩ := hF
    have d2 := hV.blk.cell 2
    simp [fyCells] at d2
    have hV' := Lib.hid hV
    clear hC hV
    go_region_with (go_at_call 26; refine (flyFull_c base b sz mx _ _ (hF'.out.ext (Ext.refl w1).drew) (by omega)).mono ?_; rintro e w4 ⟨rfl, he4⟩; have hE4 : Ext w1 w4 := (Ext.refl w1).drew.trans he4; have d2' := hE4.cellE d2; have a0 := (hA1.out.ext hE4).cell 0; have a1 := (hA1.out.ext hE4).cell 1; have a2 := (hA1.out.ext hE4).cell 2; have z0 := (hA1.out.ext hE4).thaw 0; have z1 := (hA1.out.ext hE4).thaw 1; have z2 := (hA1.out.ext hE4).thaw 2; simp [faCells] at a0 a1 a2)
    all_goals
      go_wp2
      have hend := do_end (w := w) (by omega) hbw (((Ext.refl w).alloc _).alloc _) hA0.out hC'.out hF'.out hE4 (kind := 0) (a := 0) (y := 0) (q := [])
      refine bodyPost_ret (v := .tuple #[.agg (faCells q'.length (isFull q'.length (sumQ q') sz mx) false), .bool true]) (results_row_tmp (by rw [Try.results18]) _ _ (w.heap.size + 1) 38 _ (0, 0) _ rfl hend.1.out Try.underlying38 rfl info_answer) rfl ?_
      rw [hst'.out]
      exact ⟨hend.2.1, rfl, hend.2.2⟩
  have hk3b : (kind == 3) = false := by simpa using hk3
  have hst : fyStep sz mx q kind a y = some q := by simp [fyStep, hk1, hk2, hk3]
  have hst' := Lib.hid hst
  clear hst hk1 hk2 hk3
  unfold fcCells
  go_wp2_with fail
  revert hq hA0 hst'
  generalize hq' : q = q'
  intro hq hA0 hst'
  have hq2 := Lib.hid hq'
  clear hq'
  · have hF := hq.out
    have hC := Chg0.refl base ((w.alloc (.cells (fcCells kind a y) 36)).alloc (.cells (faCells 0 false false) 38))
    have hn' : q'.length ≤ 1000000 := by rw [← hq2.out]; omega
    change Code.wp _ _ _ _ ((w.alloc (.cells (fcCells kind a y) 36)).alloc (.cells (faCells 0 false false) 38))
    generalize hw1 : (w.alloc (.cells (fcCells kind a y) 36)).alloc (.cells (faCells 0 false false) 38) = w1 at hF hC hq hA0 ⊢
    have hEE : Ext w w1 := by rw [← hw1]; exact ((Ext.refl w).alloc _).alloc _
    clear hw1
    have hF' := Lib.hid hF
    have hC' := Lib.hid hC
    have hA1 := Lib.hid (hA0.out.chgT hC.1 (by decide))
    obtain ⟨A1, A2, cc1, cc2, hV⟩ := hF
    have d2 := hV.blk.cell 2
    simp [fyCells] at d2
    have hV' := Lib.hid hV
    clear hC hV
    go_region_with (go_at_call 26; refine (flyFull_c base b sz mx _ _ (hF'.out.ext (Ext.refl w1).drew) (by omega)).mono ?_; rintro e w4 ⟨rfl, he4⟩; have hE4 : Ext w1 w4 := (Ext.refl w1).drew.trans he4; have d2' := hE4.cellE d2; have a0 := (hA1.out.ext hE4).cell 0; have a1 := (hA1.out.ext hE4).cell 1; have a2 := (hA1.out.ext hE4).cell 2; have z0 := (hA1.out.ext hE4).thaw 0; have z1 := (hA1.out.ext hE4).thaw 1; have z2 := (hA1.out.ext hE4).thaw 2; simp [faCells] at a0 a1 a2)
    all_goals
      go_wp2
      have hend := do_end (w := w) (by omega) hbw hEE hA0.out hC'.out hF'.out hE4 (kind := 0) (a := 0) (y := 0) (q := [])
      refine bodyPost_ret (v := .tuple #[.agg (faCells q'.length (isFull q'.length (sumQ q') sz mx) false), .bool true]) (results_row_tmp (by rw [Try.results18]) _ _ (w.heap.size + 1) 38 _ (0, 0) _ rfl hend.1.out Try.underlying38 rfl info_answer) rfl ?_
      have hst2 := hst'.out
      rw [← hq2.out] at hst2 hend ⊢
      rw [hst2]
      exact ⟨hend.2.1, rfl, hend.2.2⟩

end Go.Proofs.Ytfoffejgpalmpaa
