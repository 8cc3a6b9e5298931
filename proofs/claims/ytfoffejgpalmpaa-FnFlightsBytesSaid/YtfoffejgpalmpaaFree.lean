/- An Inflights as a queue: FreeLE, reset, Full, Count, NewInflights. -/
import Derived.Test.YtfoffejgpalmpaaAddWalk
import Derived.Deep.LoopGhost
namespace Go.Proofs.Ytfoffejgpalmpaa
open Go.ChangeShapes Go.WideShapes Go.ChangeAt Go.RowKit
set_option linter.unusedSimpArgs false
set_option linter.unusedVariables false

/-- What is left when those up to an index are freed. -/
def freed (to : Int) (q : List Fl) : List Fl := q.dropWhile (fun x => decide (x.1 ≤ to))
theorem freed_stop {to : Int} {x : Fl} {q : List Fl} (h : ¬ x.1 ≤ to) : freed to (x :: q) = x :: q := by simp [freed, List.dropWhile, h]
theorem freed_go {to : Int} {x : Fl} {q : List Fl} (h : x.1 ≤ to) : freed to (x :: q) = freed to q := by simp [freed, List.dropWhile, h]
theorem freed_nil (to : Int) : freed to [] = [] := rfl

theorem pos_zero {st sz : Nat} (h : st < sz) : pos st 0 sz = st := by unfold pos; split <;> omega
theorem pos_succ {st k sz : Nat} (h : st < sz) (hk : k < sz) : pos st (k + 1) sz = if sz ≤ pos st k sz + 1 then pos st k sz + 1 - sz else pos st k sz + 1 := by
  unfold pos
  split <;> split <;> split <;> omega
theorem RingR.dropped {st sz : Nat} {r q : List Fl} (h : RingR st sz r q) (hst : st < sz) : ∀ (k : Nat), k < q.length → RingR (pos st k sz) sz r (q.drop k)
  | 0, _ => by rw [pos_zero hst]; exact h
  | k + 1, hk => by
    have ih := RingR.dropped h hst k (by omega)
    have hq := h.qlen
    rw [List.drop_eq_getElem_cons (by omega)] at ih
    have hf := ih.free (by
      intro e
      have := congrArg List.length e
      rw [List.length_drop, List.length_nil] at this
      omega)
    have hp : pos (pos st k sz) 1 sz = pos st (k + 1) sz := by
      rw [pos_succ hst (by omega)]
      rfl
    rw [hp] at hf
    exact hf
theorem ring_cells {w : World} {g n : Nat} {r : List Fl} {x : Fl} (h : Blk w g 83 (r.flatMap flCells).toArray) (hn : r[n]? = some x) : w.cell? ⟨g, n * 2, none⟩ = some (.int .u64 x.1) ∧ w.cell? ⟨g, n * 2 + 1, none⟩ = some (.int .u64 x.2) := by
  obtain ⟨hl, hx⟩ := List.getElem?_eq_some_iff.1 hn
  have h0 := flat_at flCells_len r n 0 hl (by omega)
  have h1 := flat_at flCells_len r n 1 hl (by omega)
  subst hx
  constructor
  · rw [h.cell, List.getElem?_toArray]
    simpa [flCells] using h0
  · rw [h.cell, List.getElem?_toArray]
    simpa [flCells] using h1
theorem BufR.chg {w w' : World} {base b T : Nat} {v : Value} {r : List Fl} {cs : Array Value} (h : BufR w base v r) (hb : Blk w b 79 cs) (hc : Chg (· = b) w w') : BufR w' base v r := by
  rcases h with h | ⟨g, h1, h2, h3⟩
  · exact .inl h
  · exact .inr ⟨g, h1, Blk.chg h2 hc (Blk.ne h2 hb fl_ne), h3⟩

/-- The end of FreeLE: the count and the bytes lowered, the new first place. -/
theorem free_end {base b st sz k n : Nat} {mx t : Int} {v : Value} {q r : List Fl} {w : World} (hI : InB w b st q.length (sumQ q) sz mx v) (hB : BufR w base v r) (hbb : base ≤ b) (hr : RingR st sz r q) (hst : st < sz) (hk : k ≤ q.length)
    (ht : sumQ (q.drop k) = (sumQ q - t) % 18446744073709551616) (hn : n = pos st k sz) :
    let w' := ((w.setCell ⟨b, 1, none⟩ (.int .i64 ((q.length : Int) - k))).setCell ⟨b, 2, none⟩ (.int .u64 ((sumQ q - t) % 18446744073709551616))).setCell ⟨b, 0, none⟩ (.int .i64 n)
    (k < q.length → InR base w' b sz mx (q.drop k) ∧ InChg base w w') ∧ (k = q.length → InR base (w'.setCell ⟨b, 0, none⟩ (.int .i64 0)) b sz mx [] ∧ InChg base w (w'.setCell ⟨b, 0, none⟩ (.int .i64 0))) := by
  intro w'
  have i1 := hI.set_ 1 (.int .i64 ((q.length : Int) - k))
  have i2 := i1.set_ 2 (.int .u64 ((sumQ q - t) % 18446744073709551616))
  have i3 := i2.set_ 0 (.int .i64 n)
  have i4 := i3.set_ 0 (.int .i64 0)
  have g1 : Chg (· = b) w w' := ((chg_setCell _ ⟨b, 1, none⟩ _).trans (chg_setCell _ ⟨b, 2, none⟩ _)).trans (chg_setCell _ ⟨b, 0, none⟩ _)
  have g2 : Chg (· = b) w (w'.setCell ⟨b, 0, none⟩ (.int .i64 0)) := g1.trans (chg_setCell _ ⟨b, 0, none⟩ _)
  refine ⟨fun hlt => ⟨⟨n, v, r, ?_, hB.chg (T := 0) hI g1, by subst hn; exact hr.dropped hst k hlt, hbb⟩, inChg_blk hI (by decide) hbb g1⟩, fun he => ⟨⟨0, v, r, ?_, hB.chg (T := 0) hI g2, hr.reset, hbb⟩, inChg_blk hI (by decide) hbb g2⟩⟩
  · have e : ((q.length : Int) - k) = (((q.drop k).length : Nat) : Int) := by rw [List.length_drop]; omega
    rw [← ht, e] at i3
    have e2 : w' = ((w.setCell ⟨b, 1, none⟩ (.int .i64 (((q.drop k).length : Nat) : Int))).setCell ⟨b, 2, none⟩ (.int .u64 (sumQ (q.drop k)))).setCell ⟨b, 0, none⟩ (.int .i64 n) := by rw [ht, ← e]
    rw [e2]
    simpa [InB, inCells] using i3
  · subst he
    rw [List.drop_length] at ht
    have e : ((q.length : Int) - (q.length : Nat)) = (([] : List Fl).length : Nat) := by simp
    rw [← ht, e] at i4
    have e2 : w' = ((w.setCell ⟨b, 1, none⟩ (.int .i64 (([] : List Fl).length : Nat))).setCell ⟨b, 2, none⟩ (.int .u64 (sumQ []))).setCell ⟨b, 0, none⟩ (.int .i64 n) := by rw [ht, ← e]
    rw [e2]
    simpa [InB, inCells] using i4

/-- reset. -/
theorem inClear_c (base b sz : Nat) (mx : Int) (q : List Fl) (w : World) (h : InR base w b sz mx q) :
    Calls Try.prog 51 #[.pointer (some ⟨b, 0, none⟩)] w fun e w' => e = .returned (.tuple #[]) ∧ InR base w' b sz mx [] ∧ InChg base w w' := by
  obtain ⟨st, v, r, hI, hB, hr, hbb⟩ := h
  refine (inReset_c b st _ _ sz mx v w hI).mono ?_
  rintro e w' ⟨rfl, hI', hc⟩
  exact ⟨rfl, ⟨0, v, r, hI', hB.chg (T := 0) hI hc, hr.reset, hbb⟩, inChg_blk hI (by decide) hbb hc⟩
/-- Full, Count of the queue. -/
theorem inFullQ_c (base b sz : Nat) (mx : Int) (q : List Fl) (w : World) (h : InR base w b sz mx q) :
    Calls Try.prog 36 #[.pointer (some ⟨b, 0, none⟩)] w fun e w' => e = .returned (.bool (isFull q.length (sumQ q) sz mx)) ∧ Ext w w' := by
  obtain ⟨st, v, r, hI, hB, hr, hbb⟩ := h
  exact inFull_c b st _ _ sz mx v w hI
theorem inCountQ_c (base b sz : Nat) (mx : Int) (q : List Fl) (w : World) (h : InR base w b sz mx q) :
    Calls Try.prog 35 #[.pointer (some ⟨b, 0, none⟩)] w fun e w' => e = .returned (.int .i64 q.length) ∧ w = w' := by
  obtain ⟨st, v, r, hI, hB, hr, hbb⟩ := h
  exact inCount_c b st _ _ sz mx v w hI
theorem InR.ext {base b sz : Nat} {mx : Int} {q : List Fl} {w w' : World} (h : InR base w b sz mx q) (e : Ext w w') : InR base w' b sz mx q := by
  obtain ⟨st, v, r, hI, hB, hr, hbb⟩ := h
  exact ⟨st, v, r, Blk.ext hI e, hB.ext e, hr, hbb⟩
theorem newQ_c (sz : Nat) (mx : Int) (w : World) : Calls Try.prog 16 #[.int .i64 sz, .int .u64 mx] w fun e w' => ∃ b, e = .returned (.pointer (some ⟨b, 0, none⟩)) ∧ InR w.heap.size w' b sz mx [] ∧ Ext w w' := by
  refine (newInflights_c sz mx w).mono ?_
  rintro e w' ⟨rfl, hI, he⟩
  exact ⟨_, rfl, ⟨0, .slice none 0 0, [], hI, .inl ⟨rfl, rfl⟩, RingR.new sz, Nat.le_refl _⟩, he⟩

set_option maxRecDepth 100000 in
set_option maxHeartbeats 1000000 in
/-- FreeLE where there is nothing to free. -/
theorem inFree_none (base b st sz : Nat) (mx to : Int) (q r : List Fl) (v : Value) (w : World) (hI : InB w b st q.length (sumQ q) sz mx v) (hg : BufR w base v r) (hbb : base ≤ b)
    (hr : RingR st sz r q) (hsz : sz ≤ 1000000) (hno : ∀ x ∈ q.head?, to < x.1) :
    Calls Try.prog 33 #[.pointer (some ⟨b, 0, none⟩), .int .u64 to] w fun e w' => e = .returned (.tuple #[]) ∧ Ext w w' := by
  have c0 := Blk.cell hI 0
  have c1 := Blk.cell hI 1
  have c5 := Blk.cell hI 5
  simp [inCells] at c0 c1 c5
  cases q with
  | nil =>
    have hc1 : ((0 : Int) == 0) = true := rfl
    simp only [List.length_nil, Int.ofNat_zero, Int.natCast_zero] at c1
    clear hI hg hr hno
    go_enter Try.func33, Try.ntmps33
    go_wp2_with fail
    go_quiet (fail)
    go_wp2
    refine bodyPost_ret (results_none rfl _ _ _) rfl ?_
    exact ⟨rfl, (Ext.refl w).drewN _⟩
  | cons x q =>
    have hx : to < x.1 := hno x (by simp)
    have hst := hr.stl (by simp)
    have hlen := hr.len
    have hat := hr.at_ 0 (by simp)
    rw [pos_zero (by omega)] at hat
    obtain ⟨g, rfl, hgB, hgb⟩ := hg.some (by omega)
    obtain ⟨e0, e1⟩ := ring_cells hgB hat
    simp only [List.getElem_cons_zero] at e0 e1
    have hc : (((x :: q).length : Nat) : Int) = (q.length : Int) + 1 := by simp
    rw [hc] at c1
    have hc1 : ((q.length : Int) + 1 == 0) = false := by
      rw [beq_eq_false_iff_ne]
      omega
    have hstI : (st : Int) < (r.length : Int) := by omega
    have hxb : decide (to < x.1) = true := decide_eq_true hx
    clear hI hg hr hno hat hgB hc e1 hx
    go_enter Try.func33, Try.ntmps33
    go_wp2_with fail
    go_quiet (fail)
    go_wp2
    refine bodyPost_ret (results_none rfl _ _ _) rfl ?_
    exact ⟨rfl, (Ext.refl w).drewN _⟩

end Go.Proofs.Ytfoffejgpalmpaa
