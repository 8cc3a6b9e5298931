/- flight: a call on an Inflights. -/
import Derived.Test.YtfoffejgpalmpaaFlightDoor
namespace Go.Proofs.Ytfoffejgpalmpaa
open Go.ChangeShapes Go.WideShapes Go.ChangeAt Go.RowKit
set_option linter.unusedSimpArgs false
set_option linter.unusedVariables false

theorem door_enter (args : Array Value) (w : World) : (callFunc 32 args).run Try.prog w = .ok (.enter 32 args) w := by
  simp [go_sem]

/-- What flight answers. -/
def FlightEnd (base b sz : Nat) (mx : Int) (r : Option (List Fl)) (w : World) (e : Ending) (w' : World) : Prop :=
  InChg base w w' ∧ match r with
  | some q => e = .returned (.agg (faCells q.length (isFull q.length (sumQ q) sz mx) false)) ∧ InR base w' b sz mx q
  | none => e = .returned (.agg (faCells 0 false true))

/-- The call behind the guard. -/
theorem door_c (base cb ib ab gb b sz : Nat) (mx : Int) (q : List Fl) (kind a y : Int) (w : World) (hI : InR base w b sz mx q) (hD : DoorR base w cb ib ab gb b sz mx q kind a y (faCells 0 false false)) (hsz : sz ≤ 1000000) :
    Calls Try.prog 32 #[.pointer (some ⟨cb, 0, none⟩), .pointer (some ⟨ib, 0, none⟩), .pointer (some ⟨ab, 0, none⟩)] w
      (GuardEnd gb (fun w' => ∃ q', flStep sz mx q kind a y = some q' ∧ InR base w' b sz mx q' ∧ Blk w' ab 38 (faCells q'.length (isFull q'.length (sumQ q') sz mx) false) ∧ ∃ w1, InChg base w w1 ∧ Chg (· = ab) w1 w')
        (fun w' => flStep sz mx q kind a y = none ∧ Ext w w')) := by
  cases hs : flStep sz mx q kind a y with
  | none =>
    have hk : kind = 1 := by
      by_cases h : kind = 1
      · exact h
      · simp only [flStep, h, if_false] at hs
        split at hs
        · cases hs
        · split at hs <;> cases hs
    have hf : isFull q.length (sumQ q) sz mx = true := by
      cases h : isFull q.length (sumQ q) sz mx with
      | true => rfl
      | false => simp [flStep, hk, h] at hs
    refine (door_none base cb ib ab gb b sz mx q kind a y w hI hD hsz hk hf).mono ?_
    rintro e w' ⟨⟨u, pv, rfl⟩, he⟩
    exact ⟨hD.g.ext he, .inr ⟨u, pv, rfl, rfl, he⟩⟩
  | some q' =>
    refine (door_some base cb ib ab gb b sz mx q q' kind a y w hI hD hsz hs).mono ?_
    rintro e w' ⟨rfl, h1, h2, h3⟩
    exact ⟨h2.g, .inl ⟨rfl, q', rfl, h1, h2.a, h3⟩⟩

theorem InR.far {base b sz k : Nat} {T : TypeId} {cs : Array Value} {mx : Int} {q : List Fl} {w w' : World} (h : InR base w b sz mx q) (hk : Blk w k T cs) (h1 : (79 : Nat) ≠ T) (h2 : (83 : Nat) ≠ T) (hg : Chg (· = k) w w') : InR base w' b sz mx q := by
  obtain ⟨st, v, r, k1, k2, k3, k4⟩ := h
  refine ⟨st, v, r, Blk.chg k1 hg (Blk.ne k1 hk h1), ?_, k3, k4⟩
  rcases k2 with h | ⟨g, e1, e2, e3⟩
  · exact .inl h
  · exact .inr ⟨g, e1, Blk.chg e2 hg (Blk.ne e2 hk h2), e3⟩

/-- The worlds of flight, one variable after the other. -/
def fw1 (w : World) (b : Nat) : World := w.alloc (.cells #[.pointer (some ⟨b, 0, none⟩)] 58)
def fw2 (w : World) (b : Nat) (kind a y : Int) : World := (fw1 w b).alloc (.cells (fcCells kind a y) 36)
def fw3 (w : World) (b : Nat) (kind a y : Int) : World := (fw2 w b kind a y).alloc (.cells (faCells 0 false false) 38)
def fw4 (w : World) (b : Nat) (kind a y : Int) : World := (fw3 w b kind a y).alloc (.cells (faCells 0 false false) 38)

theorem size_alloc (w : World) (o : Obj) : (w.alloc o).heap.size = w.heap.size + 1 := by simp
theorem flight_guard (base b sz : Nat) (mx : Int) (q : List Fl) (kind a y : Int) (w : World) (hI : InR base w b sz mx q) (hsz : sz ≤ 1000000) (hbw : base ≤ w.heap.size) :
    Calls Try.prog 20 #[.func (.func 32) #[] #[.pointer (some ⟨w.heap.size + 1, 0, none⟩), .pointer (some ⟨w.heap.size, 0, none⟩), .pointer (some ⟨w.heap.size + 1 + 1 + 1, 0, none⟩)]] (fw4 w b kind a y) fun e w' =>
      InChg base w w' ∧ Blk w' (w.heap.size + 1 + 1) 38 (faCells 0 false false) ∧
      ((∃ q', flStep sz mx q kind a y = some q' ∧ e = .returned (.bool false) ∧ InR base w' b sz mx q' ∧ Blk w' (w.heap.size + 1 + 1 + 1) 38 (faCells q'.length (isFull q'.length (sumQ q') sz mx) false)) ∨
        (flStep sz mx q kind a y = none ∧ e = .returned (.bool true))) := by
  have s1 : (fw1 w b).heap.size = w.heap.size + 1 := size_alloc _ _
  have s2 : (fw2 w b kind a y).heap.size = w.heap.size + 1 + 1 := by rw [fw2, size_alloc, s1]
  have s3 : (fw3 w b kind a y).heap.size = w.heap.size + 1 + 1 + 1 := by rw [fw3, size_alloc, s2]
  have s4 : (fw4 w b kind a y).heap.size = w.heap.size + 1 + 1 + 1 + 1 := by rw [fw4, size_alloc, s3]
  have e1 : Ext w (fw1 w b) := (Ext.refl w).alloc _
  have e2 : Ext w (fw2 w b kind a y) := e1.alloc _
  have e3 : Ext w (fw3 w b kind a y) := e2.alloc _
  have e4 : Ext w (fw4 w b kind a y) := e3.alloc _
  let w5 := (fw4 w b kind a y).alloc (.cells #[.bool false] 4)
  have e5 : Ext w w5 := e4.alloc _
  have bi : Blk w5 w.heap.size 58 #[.pointer (some ⟨b, 0, none⟩)] := ((((Blk.new w _ _).alloc _).alloc _).alloc _).alloc _
  have bc : Blk w5 (w.heap.size + 1) 36 (fcCells kind a y) := (((Blk.new_at s1.symm).alloc _).alloc _).alloc _
  have br : Blk w5 (w.heap.size + 1 + 1) 38 (faCells 0 false false) := ((Blk.new_at s2.symm).alloc _).alloc _
  have ba : Blk w5 (w.heap.size + 1 + 1 + 1) 38 (faCells 0 false false) := (Blk.new_at s3.symm).alloc _
  have bg : Blk w5 (fw4 w b kind a y).heap.size 4 #[.bool false] := Blk.new _ _ _
  have hD : DoorR base w5 (w.heap.size + 1) w.heap.size (w.heap.size + 1 + 1 + 1) (fw4 w b kind a y).heap.size b sz mx q kind a y (faCells 0 false false) := ⟨bc, bi, ba, bg⟩
  have G := guarded_c 32 #[.pointer (some ⟨w.heap.size + 1, 0, none⟩), .pointer (some ⟨w.heap.size, 0, none⟩), .pointer (some ⟨w.heap.size + 1 + 1 + 1, 0, none⟩)] (fw4 w b kind a y)
    (fun w' => Blk w' (fw4 w b kind a y).heap.size 4 #[.bool false] ∧ ∃ q', flStep sz mx q kind a y = some q' ∧ InR base w' b sz mx q' ∧ Blk w' (w.heap.size + 1 + 1 + 1) 38 (faCells q'.length (isFull q'.length (sumQ q') sz mx) false) ∧ ∃ w1, InChg base w5 w1 ∧ Chg (· = w.heap.size + 1 + 1 + 1) w1 w')
    (fun w' => Blk w' (fw4 w b kind a y).heap.size 4 #[.bool false] ∧ flStep sz mx q kind a y = none ∧ Ext w5 w') (fun w => door_enter _ w)
    ((door_c base _ _ _ _ b sz mx q kind a y w5 (hI.ext e5) hD hsz).mono (by
      rintro e w' ⟨hB, (⟨rfl, h⟩ | ⟨u, pv, rfl, h⟩)⟩
      · exact ⟨hB, .inl ⟨rfl, hB, h⟩⟩
      · exact ⟨hB, .inr ⟨u, pv, rfl, hB, h⟩⟩))
  refine G.mono ?_
  rintro e w' ⟨w2, hg, (⟨rfl, hB, q', hs, hI', hA, w1, hc1, hc2⟩ | ⟨rfl, hB, hs, he⟩)⟩
  · have k1 : InChg base w w2 := ((InChg.ext e5).trans hc1).new hc2 hbw (fun j hj => by omega)
    have r1 : Blk w2 (w.heap.size + 1 + 1) 38 (faCells 0 false false) := (br.chgT hc1.1 (by decide)).chg hc2 (by omega)
    refine ⟨k1.new hg hbw (fun j hj => by omega), r1.chg hg (by omega), .inl ⟨q', hs, rfl, hI'.far hB (by decide) (by decide) hg, hA.chg hg (by omega)⟩⟩
  · refine ⟨(InChg.ext (e5.trans he)).new hg hbw (fun j hj => by omega), (br.ext he).chg hg (by omega), .inr ⟨hs, rfl⟩⟩

theorem info_answer : (Try.prog.info? 38).map (·.size) = some 3 := by kernel_rfl

set_option maxRecDepth 100000 in
set_option maxHeartbeats 1000000 in
theorem flight_c (base b sz : Nat) (mx : Int) (q : List Fl) (kind a y : Int) (w : World) (hI : InR base w b sz mx q) (hsz : sz ≤ 1000000) (hbw : base ≤ w.heap.size) :
    Calls Try.prog 17 #[.pointer (some ⟨b, 0, none⟩), .agg (fcCells kind a y)] w (FlightEnd base b sz mx (flStep sz mx q kind a y) w) := by
  have hmf : ∀ (fn : Fn) (first cap : Array Value) (w : World), (Instr.makeFunc fn first cap).run Try.prog w = .ok (.func fn first cap) w := fun _ _ _ _ => rfl
  have Q := Lib.hid (flight_guard base b sz mx q kind a y w hI hsz hbw)
  clear hI
  go_enter Try.func17, Try.ntmps17
  unfold fcCells
  go_wp2_with (go_at_call 20; refine Q.out.mono ?_; rintro e w' ⟨hc, hr, h⟩; have r0 := hr.cell 0; have r1 := hr.cell 1; have r2 := hr.cell 2; have z0 := hr.thaw 0; have z1 := hr.thaw 1; have z2 := hr.thaw 2; simp [faCells] at r0 r1 r2; have hc' := Lib.hid hc; have hr' := Lib.hid hr; clear hc hr; rcases h with ⟨q', hs, rfl, hI', hA⟩ | ⟨hs, rfl⟩ <;> have hs' := Lib.hid hs <;> clear hs <;> try (have a0 := hA.cell 0; have a1 := hA.cell 1; have a2 := hA.cell 2; simp [faCells] at a0 a1 a2; have hA' := Lib.hid hA; have hI2 := Lib.hid hI'; clear hA hI'))
  · have hB := ((hr'.out.set_ 0 (.int .i64 q'.length)).set_ 1 (.bool (isFull q'.length (sumQ q') sz mx))).set_ 2 (.bool false)
    have hg : Chg (· = w.heap.size + 1 + 1) w' _ := ((chg_setCell w' ⟨w.heap.size + 1 + 1, 0, none⟩ (.int .i64 q'.length)).trans (chg_setCell _ ⟨w.heap.size + 1 + 1, 1, none⟩ (.bool (isFull q'.length (sumQ q') sz mx)))).trans (chg_setCell _ ⟨w.heap.size + 1 + 1, 2, none⟩ (.bool false))
    refine bodyPost_ret (v := .agg (faCells q'.length (isFull q'.length (sumQ q') sz mx) false)) (results_cell_row (by rw [Try.results17]) _ _ (w.heap.size + 1 + 1) 38 _ (0, 0) _ rfl (by simpa [faCells] using hB.out) Try.underlying38 rfl info_answer) rfl ?_
    rw [hs'.out]
    exact ⟨hc'.out.new hg hbw (fun j hj => by omega), rfl, hI2.out.far hr'.out (by decide) (by decide) hg⟩
  · have hB := ((hr'.out.set_ 0 (.int .i64 0)).set_ 1 (.bool false)).set_ 2 (.bool true)
    have hg : Chg (· = w.heap.size + 1 + 1) w' _ := ((chg_setCell w' ⟨w.heap.size + 1 + 1, 0, none⟩ (.int .i64 0)).trans (chg_setCell _ ⟨w.heap.size + 1 + 1, 1, none⟩ (.bool false))).trans (chg_setCell _ ⟨w.heap.size + 1 + 1, 2, none⟩ (.bool true))
    refine bodyPost_ret (v := .agg (faCells 0 false true)) (results_cell_row (by rw [Try.results17]) _ _ (w.heap.size + 1 + 1) 38 _ (0, 0) _ rfl (by simpa [faCells] using hB.out) Try.underlying38 rfl info_answer) rfl ?_
    rw [hs'.out]
    exact ⟨hc'.out.new hg hbw (fun j hj => by omega), rfl⟩

end Go.Proofs.Ytfoffejgpalmpaa
