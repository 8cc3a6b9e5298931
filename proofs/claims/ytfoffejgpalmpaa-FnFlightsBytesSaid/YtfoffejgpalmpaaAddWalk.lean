/- Add: the walk. -/
import Derived.Test.YtfoffejgpalmpaaAdd
import Derived.Deep.QuietTactic
import Derived.BigQuiet
namespace Go.Proofs.Ytfoffejgpalmpaa
open Go.ChangeShapes Go.WideShapes Go.ChangeAt Go.RowKit
set_option linter.unusedSimpArgs false
set_option linter.unusedVariables false

theorem newLen_gt {n sz : Nat} (h : n < sz) : n < newLen n sz ∧ newLen n sz ≤ sz := by
  unfold newLen
  split
  · omega
  · split <;> omega
theorem BufR.slice {w : World} {base : Nat} {v : Value} {r : List Fl} (h : BufR w base v r) : ∃ A, v = .slice A r.length r.length := by
  obtain ⟨A, h, _⟩ := h.row
  exact ⟨A, h⟩
theorem BufR.some {w : World} {base : Nat} {v : Value} {r : List Fl} (h : BufR w base v r) (hr : 0 < r.length) : ∃ g, v = .slice (some ⟨g, 0, none⟩) r.length r.length ∧ Blk w g 83 (r.flatMap flCells).toArray ∧ base ≤ g := by
  rcases h with ⟨rfl, _⟩ | h
  · simp at hr
  · exact h
/-- What the walk reads behind a growth. -/
theorem grow_facts {base b st sz n ct : Nat} {mx by_ : Int} {v : Value} {r : List Fl} {w : World} (hI : InB w b st ct by_ sz mx v) (hg : BufR w base v r) (hn : n < r.length) :
    ∃ g, v = .slice (some ⟨g, 0, none⟩) r.length r.length ∧ base ≤ g ∧ Hid (InB w b st ct by_ sz mx (.slice (some ⟨g, 0, none⟩) r.length r.length)) ∧ Hid (Blk w g 83 (r.flatMap flCells).toArray) ∧
      w.cell? ⟨b, 1, none⟩ = some (.int .i64 ct) ∧ w.cell? ⟨b, 2, none⟩ = some (.int .u64 by_) ∧ w.cell? ⟨b, 5, none⟩ = some (.slice (some ⟨g, 0, none⟩) r.length r.length) ∧
      w.frozen? ⟨b, 1, none⟩ = false ∧ w.frozen? ⟨b, 2, none⟩ = false ∧ (∃ u, w.cell? ⟨g, n * 2, none⟩ = some u) ∧ (∃ u, w.cell? ⟨g, n * 2 + 1, none⟩ = some u) ∧
      w.frozen? ⟨g, n * 2, none⟩ = false ∧ w.frozen? ⟨g, n * 2 + 1, none⟩ = false ∧ g ≠ b ∧ b ≠ g := by
  obtain ⟨g, rfl, hb, hgb⟩ := hg.some (by omega)
  have c1 := Blk.cell hI 1
  have c2 := Blk.cell hI 2
  have c5 := Blk.cell hI 5
  simp [inCells] at c1 c2 c5
  have hp2 : n * 2 + 1 < (r.flatMap flCells).length := by
    rw [flat_length flCells_len]
    omega
  have hne : g ≠ b := Blk.ne hb hI fl_ne
  exact ⟨g, rfl, hgb, Lib.hid hI, Lib.hid hb, c1, c2, c5, hI.thaw 1, hI.thaw 2, ⟨_, (hb.cell _).trans (by simp only [List.getElem?_toArray]; exact List.getElem?_eq_getElem (by omega))⟩,
    ⟨_, (hb.cell _).trans (by simp only [List.getElem?_toArray]; exact List.getElem?_eq_getElem hp2)⟩, hb.thaw _, hb.thaw _, hne, fun e => hne e.symm⟩
theorem BufR.ext {w w' : World} {base : Nat} {v : Value} {r : List Fl} (h : BufR w base v r) (e : Ext w w') : BufR w' base v r := by
  rcases h with h | ⟨g, h1, h2, h3⟩
  · exact .inl h
  · exact .inr ⟨g, h1, Blk.ext h2 e, h3⟩

set_option maxRecDepth 100000 in
set_option maxHeartbeats 1000000 in
/-- Add where the buffer need not grow. -/
theorem inAdd_plain (base b st sz g n : Nat) (mx i y : Int) (q r : List Fl) (w : World) (hI : InB w b st q.length (sumQ q) sz mx (.slice (some ⟨g, 0, none⟩) r.length r.length)) (hg : Blk w g 83 (r.flatMap flCells).toArray) (hgb : base ≤ g) (hbb : base ≤ b)
    (hr : RingR st sz r q) (hf : q.length < sz) (hfull : isFull q.length (sumQ q) sz mx = false) (hsz : sz ≤ 1000000) (hst : st < sz) (hn : n = pos st q.length sz) (hp : n < r.length) (hw : ¬ sz ≤ st + q.length) :
    Calls Try.prog 22 #[.pointer (some ⟨b, 0, none⟩), .int .u64 i, .int .u64 y] w fun e w' => e = .returned (.tuple #[]) ∧ InR base w' b sz mx (q ++ [(i, y)]) ∧ InChg base w w' := by
  have hn' : n = st + q.length := by rw [hn, pos, if_neg hw]
  have Q := Lib.hid (inFull_c b st q.length (sumQ q) sz mx _ w hI)
  obtain ⟨hs0, hs1⟩ := sumQ_bd q
  have hlen := hr.len
  have c0 := Blk.cell hI 0
  have c1 := Blk.cell hI 1
  have c2 := Blk.cell hI 2
  have c3 := Blk.cell hI 3
  have c5 := Blk.cell hI 5
  simp [inCells] at c0 c1 c2 c3 c5
  have hI' := Lib.hid hI
  have hg' := Lib.hid hg
  have hfull' := Lib.hid hfull
  have hnL := Lib.hid hn
  have hr' := Lib.hid hr
  clear hI hg hfull hn hr
  go_enter Try.func22, Try.ntmps22
  go_wp2_with (go_at_call 36; refine Q.out.mono ?_; rintro e w1 ⟨rfl, he⟩; rw [hfull'.out]; have d0 := he.cellE c0; have d1 := he.cellE c1; have d2 := he.cellE c2; have d3 := he.cellE c3; have d5 := he.cellE c5)
  go_quiet (fail)
  have hq : Ext w (w1.drewN nq) := he.drewN nq
  generalize w1.drewN nq = w2 at hq ⊢
  clear d0 d1 d2 d3 d5
  have d1 := hq.cellE c1
  have d2 := hq.cellE c2
  have d3 := hq.cellE c3
  have d5 := hq.cellE c5
  have hI2 := Lib.hid (Blk.ext hI'.out hq)
  have hg2 := Lib.hid (Blk.ext hg'.out hq)
  have f1 := hI2.out.thaw 1
  have f2 := hI2.out.thaw 2
  have hp2 : (st + q.length) * 2 + 1 < (r.flatMap flCells).length := by
    rw [flat_length flCells_len]
    omega
  have e0 : ∃ u, w2.cell? ⟨g, (st + q.length) * 2, none⟩ = some u := ⟨_, (hg2.out.cell _).trans (by simp only [List.getElem?_toArray]; exact List.getElem?_eq_getElem (by omega))⟩
  have e1 : ∃ u, w2.cell? ⟨g, (st + q.length) * 2 + 1, none⟩ = some u := ⟨_, (hg2.out.cell _).trans (by simp only [List.getElem?_toArray]; exact List.getElem?_eq_getElem hp2)⟩
  obtain ⟨u0, e0⟩ := e0
  obtain ⟨u1, e1⟩ := e1
  have fg0 := hg2.out.thaw ((st + q.length) * 2)
  have fg1 := hg2.out.thaw ((st + q.length) * 2 + 1)
  have hne : g ≠ b := Blk.ne hg2.out hI2.out fl_ne
  have hne2 : b ≠ g := fun e => hne e.symm
  have hpI : (st : Int) + (q.length : Int) < (r.length : Int) := by omega
  clear hp2
  go_wp2
  go_end0
  have hE := add_end (x := (i, y)) hI2.out hg2.out hgb hbb hr'.out hf hnL.out hp hst (by2 := (sumQ q + y) % 18446744073709551616) (by rw [sumQ_snoc])
  subst hn'
  exact ⟨rfl, hE.1, (InChg.ext hq).trans hE.2⟩


set_option maxRecDepth 100000 in
set_option maxHeartbeats 1000000 in
/-- Add where the place lies ahead again. -/
theorem inAdd_wrap (base b st sz g n : Nat) (mx i y : Int) (q r : List Fl) (w : World) (hI : InB w b st q.length (sumQ q) sz mx (.slice (some ⟨g, 0, none⟩) r.length r.length)) (hg : Blk w g 83 (r.flatMap flCells).toArray) (hgb : base ≤ g) (hbb : base ≤ b)
    (hr : RingR st sz r q) (hf : q.length < sz) (hfull : isFull q.length (sumQ q) sz mx = false) (hsz : sz ≤ 1000000) (hst : st < sz) (hn : n = pos st q.length sz) (hp : n < r.length) (hw : sz ≤ st + q.length) :
    Calls Try.prog 22 #[.pointer (some ⟨b, 0, none⟩), .int .u64 i, .int .u64 y] w fun e w' => e = .returned (.tuple #[]) ∧ InR base w' b sz mx (q ++ [(i, y)]) ∧ InChg base w w' := by
  have hn' : n = st + q.length - sz := by rw [hn, pos, if_pos hw]
  have Q := Lib.hid (inFull_c b st q.length (sumQ q) sz mx _ w hI)
  obtain ⟨hs0, hs1⟩ := sumQ_bd q
  have hlen := hr.len
  have c0 := Blk.cell hI 0
  have c1 := Blk.cell hI 1
  have c2 := Blk.cell hI 2
  have c3 := Blk.cell hI 3
  have c5 := Blk.cell hI 5
  simp [inCells] at c0 c1 c2 c3 c5
  have hI' := Lib.hid hI
  have hg' := Lib.hid hg
  have hfull' := Lib.hid hfull
  have hnL := Lib.hid hn
  have hr' := Lib.hid hr
  clear hI hg hfull hn hr
  go_enter Try.func22, Try.ntmps22
  go_wp2_with (go_at_call 36; refine Q.out.mono ?_; rintro e w1 ⟨rfl, he⟩; rw [hfull'.out]; have d0 := he.cellE c0; have d1 := he.cellE c1; have d2 := he.cellE c2; have d3 := he.cellE c3; have d5 := he.cellE c5)
  go_quiet (fail)
  have hq : Ext w (w1.drewN nq) := he.drewN nq
  generalize w1.drewN nq = w2 at hq ⊢
  clear d0 d1 d2 d3 d5
  have d1 := hq.cellE c1
  have d2 := hq.cellE c2
  have d3 := hq.cellE c3
  have d5 := hq.cellE c5
  have hI2 := Lib.hid (Blk.ext hI'.out hq)
  have hg2 := Lib.hid (Blk.ext hg'.out hq)
  have f1 := hI2.out.thaw 1
  have f2 := hI2.out.thaw 2
  have hp2 : (st + q.length - sz) * 2 + 1 < (r.flatMap flCells).length := by
    rw [flat_length flCells_len]
    omega
  have e0 : ∃ u, w2.cell? ⟨g, (st + q.length - sz) * 2, none⟩ = some u := ⟨_, (hg2.out.cell _).trans (by simp only [List.getElem?_toArray]; exact List.getElem?_eq_getElem (by omega))⟩
  have e1 : ∃ u, w2.cell? ⟨g, (st + q.length - sz) * 2 + 1, none⟩ = some u := ⟨_, (hg2.out.cell _).trans (by simp only [List.getElem?_toArray]; exact List.getElem?_eq_getElem hp2)⟩
  obtain ⟨u0, e0⟩ := e0
  obtain ⟨u1, e1⟩ := e1
  have fg0 := hg2.out.thaw ((st + q.length - sz) * 2)
  have fg1 := hg2.out.thaw ((st + q.length - sz) * 2 + 1)
  have hne : g ≠ b := Blk.ne hg2.out hI2.out fl_ne
  have hne2 : b ≠ g := fun e => hne e.symm
  have hpI : (st : Int) + (q.length : Int) - (sz : Int) < (r.length : Int) := by omega
  have hpN : (st : Int) + (q.length : Int) - (sz : Int) = ((st + q.length - sz : Nat) : Int) := by omega
  have hpI2 : ((st + q.length - sz : Nat) : Int) < (r.length : Int) := by omega
  clear hp2
  go_wp2
  go_end0
  have hE := add_end (x := (i, y)) hI2.out hg2.out hgb hbb hr'.out hf hnL.out hp hst (by2 := (sumQ q + y) % 18446744073709551616) (by rw [sumQ_snoc])
  subst hn'
  exact ⟨rfl, hE.1, (InChg.ext hq).trans hE.2⟩


set_option maxRecDepth 100000 in
set_option maxHeartbeats 1000000 in
/-- Add where the buffer grows. -/
theorem inAdd_grow (base b st sz n : Nat) (mx i y : Int) (q r : List Fl) (v : Value) (w : World) (hI : InB w b st q.length (sumQ q) sz mx v) (hg : BufR w base v r) (hbb : base ≤ b)
    (hr : RingR st sz r q) (hf : q.length < sz) (hfull : isFull q.length (sumQ q) sz mx = false) (hsz : sz ≤ 1000000) (hst : st < sz) (hn : n = pos st q.length sz) (hp : r.length ≤ n) (hw : ¬ sz ≤ st + q.length) :
    Calls Try.prog 22 #[.pointer (some ⟨b, 0, none⟩), .int .u64 i, .int .u64 y] w fun e w' => e = .returned (.tuple #[]) ∧ InR base w' b sz mx (q ++ [(i, y)]) ∧ InChg base w w' := by
  have hn' : n = st + q.length := by rw [hn, pos, if_neg hw]
  have hlow : st + q.length ≤ r.length := hr.low (by omega)
  have hrn : r.length = st + q.length := by omega
  obtain ⟨A, rfl⟩ := hg.slice
  have Q := Lib.hid (inFull_c b st q.length (sumQ q) sz mx _ w hI)
  obtain ⟨hs0, hs1⟩ := sumQ_bd q
  have hlen := hr.len
  have c0 := Blk.cell hI 0
  have c1 := Blk.cell hI 1
  have c2 := Blk.cell hI 2
  have c3 := Blk.cell hI 3
  have c5 := Blk.cell hI 5
  simp [inCells] at c0 c1 c2 c3 c5
  have hI' := Lib.hid hI
  have hg' := Lib.hid hg
  have hfull' := Lib.hid hfull
  have hnL := Lib.hid hn
  have hr' := Lib.hid hr
  clear hI hg hfull hn hr
  go_enter Try.func22, Try.ntmps22
  go_wp2_with (go_at_call 36; refine Q.out.mono ?_; rintro e w1 ⟨rfl, he⟩; rw [hfull'.out]; have d0 := he.cellE c0; have d1 := he.cellE c1; have d2 := he.cellE c2; have d3 := he.cellE c3; have d5 := he.cellE c5)
  go_quiet (fail)
  have hq : Ext w (w1.drewN nq) := he.drewN nq
  generalize w1.drewN nq = w2 at hq ⊢
  clear d0 d1 d2 d3 d5
  have d1 := hq.cellE c1
  have d2 := hq.cellE c2
  have d3 := hq.cellE c3
  have d5 := hq.cellE c5
  have hI2 := Lib.hid (Blk.ext hI'.out hq)
  have hg2 := Lib.hid (hg'.out.ext hq)
  have hb0 : base ≤ w2.heap.size := by have := hI2.out.lt; omega
  have hnx := newLen_gt (sz := sz) (n := r.length) (by omega)
  have hrg := hr'.out.grown (by omega) (List.replicate (newLen r.length sz - r.length) (0, 0)) (by rw [List.length_replicate]; omega)
  have hrl : st + q.length < (r ++ List.replicate (newLen r.length sz - r.length) ((0, 0) : Fl)).length := by
    rw [List.length_append, List.length_replicate]
    omega
  have Qg := inGrow_c base b st q.length (sumQ q) sz mx _ r w2 hI2.out hg2.out hsz hlen (by omega) hb0
  generalize r ++ List.replicate (newLen r.length sz - r.length) ((0, 0) : Fl) = r2 at hrg hrl Qg
  have Qg' := Lib.hid Qg
  have hrg' := Lib.hid hrg
  have hpI : (r.length : Int) ≤ (st : Int) + (q.length : Int) := by omega
  have hpI2 : (st : Int) + (q.length : Int) < (r2.length : Int) := by omega
  clear hrn hlow Qg hrg hnx
  go_wp2_with (go_at_call 39; refine Qg'.out.mono ?_; rintro e w3 ⟨rfl, ⟨v', hI3, hB3⟩, hc3⟩; obtain ⟨g, rfl, hgb, hI3, hg3, k1, k2, k5, f1, f2, ⟨u0, e0⟩, ⟨u1, e1⟩, fg0, fg1, hne, hne2⟩ := grow_facts hI3 hB3 hrl)
  go_end0
  have hE := add_end (x := (i, y)) hI3.out hg3.out hgb hbb hrg'.out hf hnL.out (by omega) hst (by2 := (sumQ q + y) % 18446744073709551616) (by rw [sumQ_snoc])
  subst hn'
  exact ⟨rfl, hE.1, ((InChg.ext hq).trans (inChg_blk hI2.out (by decide) hbb hc3)).trans hE.2⟩


/-- Add into a queue that is not full. -/
theorem inAdd_c (base b sz : Nat) (mx i y : Int) (q : List Fl) (w : World) (h : InR base w b sz mx q) (hfull : isFull q.length (sumQ q) sz mx = false) (hsz : sz ≤ 1000000) :
    Calls Try.prog 22 #[.pointer (some ⟨b, 0, none⟩), .int .u64 i, .int .u64 y] w fun e w' => e = .returned (.tuple #[]) ∧ InR base w' b sz mx (q ++ [(i, y)]) ∧ InChg base w w' := by
  obtain ⟨st, v, r, hI, hB, hr, hbb⟩ := h
  have hf : q.length < sz := by
    have h1 := hr.qlen
    have h2 : q.length ≠ sz := by
      intro e
      simp [isFull, e] at hfull
    omega
  have hst : st < sz := by
    by_cases hq : q = []
    · have := hr.st0 hq
      omega
    · have := hr.stl hq
      have := hr.len
      omega
  have hlen := hr.len
  by_cases hw : sz ≤ st + q.length
  · have hn : pos st q.length sz = st + q.length - sz := by rw [pos, if_pos hw]
    have hrl : r.length = sz := by
      by_cases h : r.length < sz
      · have := hr.low h
        omega
      · omega
    obtain ⟨g, rfl, hg, hgb⟩ := hB.some (by omega)
    exact inAdd_wrap base b st sz g _ mx i y q r w hI hg hgb hbb hr hf hfull hsz hst rfl (by omega) hw
  · have hn : pos st q.length sz = st + q.length := by rw [pos, if_neg hw]
    by_cases hp : r.length ≤ pos st q.length sz
    · exact inAdd_grow base b st sz _ mx i y q r v w hI hB hbb hr hf hfull hsz hst rfl hp hw
    · obtain ⟨g, rfl, hg, hgb⟩ := hB.some (by omega)
      exact inAdd_plain base b st sz g _ mx i y q r w hI hg hgb hbb hr hf hfull hsz hst rfl (by omega) hw

end Go.Proofs.Ytfoffejgpalmpaa
