/- flight: a call on an Inflights behind its guard. -/
import Derived.Test.YtfoffejgpalmpaaFreeWalk
import Derived.Test.YtfoffejgpalmpaaGuard
import Derived.Deep.RegionWith
import Derived.WalkLawsBesides
namespace Go.Proofs.Ytfoffejgpalmpaa
open Go.ChangeShapes Go.WideShapes Go.ChangeAt Go.RowKit
set_option linter.unusedSimpArgs false
set_option linter.unusedVariables false

/-- A new block turned: of what was there nothing turns. -/
theorem ChgT.new {Ts : List Nat} {S : Nat → Prop} {a b c : World} (h : ChgT Ts a b) (k : Chg S b c) (hs : ∀ j, S j → a.heap.size ≤ j) : ChgT Ts a c := by
  unfold ChgT Chg at *
  obtain ⟨h1, h2, h3, h4, h5⟩ := h
  obtain ⟨k1, k2, k3, k4, k5⟩ := k
  refine ⟨k1.trans h1, k2.trans h2, k3.trans h3, Nat.le_trans h4 k4, fun i o hi ht => ?_⟩
  have hlt : i < a.heap.size := by
    rcases Nat.lt_or_ge i a.heap.size with hl | hl
    · exact hl
    · rw [Array.getElem?_eq_none hl] at hi
      cases hi
  rw [k5 i (by omega) (fun hS => by have := hs i hS; omega)]
  exact h5 i o hi ht
theorem InChg.new {base : Nat} {S : Nat → Prop} {a b c : World} (h : InChg base a b) (k : Chg S b c) (hb : base ≤ a.heap.size) (hs : ∀ j, S j → a.heap.size ≤ j) : InChg base a c :=
  ⟨h.1.new k hs, fun W0 hW he => (h.2 W0 hW he).chg_new k (fun j hj => by have := hs j hj; omega)⟩

/-- What a call makes of the queue; none: it panics. -/
def flStep (sz : Nat) (mx : Int) (q : List Fl) (kind a y : Int) : Option (List Fl) :=
  if kind = 1 then (if isFull q.length (sumQ q) sz mx then none else some (q ++ [(a, y)])) else if kind = 2 then some (freed a q) else if kind = 3 then some [] else some q

theorem zzReset_c (base b sz : Nat) (mx : Int) (q : List Fl) (w : World) (h : InR base w b sz mx q) :
    Calls Try.prog 34 #[.pointer (some ⟨b, 0, none⟩)] w fun e w' => e = .returned (.tuple #[]) ∧ InR base w' b sz mx [] ∧ InChg base w w' := by
  have Q := Lib.hid (inClear_c base b sz mx q w h)
  clear h
  go_enter Try.func34, Try.ntmps34
  go_wp2_with (go_at_call 51; refine Q.out.mono ?_; rintro e w' ⟨rfl, h1, h2⟩)
  first | go_end0 | refine bodyPost_ret (results_none rfl _ _ _) rfl ?_
  exact ⟨rfl, h1, h2⟩

set_option maxRecDepth 100000 in
set_option maxHeartbeats 1000000 in
/-- Add into a queue that is full. -/
theorem inAddFull_c (base b sz : Nat) (mx i y : Int) (q : List Fl) (w : World) (h : InR base w b sz mx q) (hfull : isFull q.length (sumQ q) sz mx = true) :
    Calls Try.prog 22 #[.pointer (some ⟨b, 0, none⟩), .int .u64 i, .int .u64 y] w fun e w' => (∃ u pv, e = .panicked [{ v := .iface u pv, recovered := false }]) ∧ Ext w w' := by
  have Q := Lib.hid (inFullQ_c base b sz mx q w h)
  have hfull' := Lib.hid hfull
  clear h hfull
  go_enter Try.func22, Try.ntmps22
  go_wp2_with (go_at_call 36; refine Q.out.mono ?_; rintro e w1 ⟨rfl, he⟩; rw [hfull'.out])
  exact ⟨rfl, ⟨_, _, rfl⟩, he⟩

def fcCells (kind a y : Int) : Array Value := #[.int .i64 kind, .int .u64 a, .int .u64 y]
def faCells (ct : Int) (full pan : Bool) : Array Value := #[.int .i64 ct, .bool full, .bool pan]
/-- What the door's closure finds: the call, the Inflights' pointer, the answer, the guard's result; the queue. -/
structure DoorR (base : Nat) (w : World) (cb ib ab gb b sz : Nat) (mx : Int) (q : List Fl) (kind a y : Int) (ans : Array Value) : Prop where
  c : Blk w cb 36 (fcCells kind a y)
  i : Blk w ib 58 #[.pointer (some ⟨b, 0, none⟩)]
  a : Blk w ab 38 ans
  g : Blk w gb 4 #[.bool false]
theorem DoorR.turn {base cb ib ab gb b sz : Nat} {mx : Int} {q q' : List Fl} {kind a y : Int} {ans : Array Value} {w w' : World} (h : DoorR base w cb ib ab gb b sz mx q kind a y ans) (e : ChgT inTs w w') : DoorR base w' cb ib ab gb b sz mx q' kind a y ans :=
  ⟨h.c.chgT e (by decide), h.i.chgT e (by decide), h.a.chgT e (by decide), h.g.chgT e (by decide)⟩

set_option maxRecDepth 100000 in
set_option maxHeartbeats 1000000 in
theorem door_none (base cb ib ab gb b sz : Nat) (mx : Int) (q : List Fl) (kind a y : Int) (w : World) (hI : InR base w b sz mx q) (hD : DoorR base w cb ib ab gb b sz mx q kind a y (faCells 0 false false)) (hsz : sz ≤ 1000000)
    (h1 : kind = 1) (hf : isFull q.length (sumQ q) sz mx = true) :
    Calls Try.prog 32 #[.pointer (some ⟨cb, 0, none⟩), .pointer (some ⟨ib, 0, none⟩), .pointer (some ⟨ab, 0, none⟩)] w fun e w' => (∃ u pv, e = .panicked [{ v := .iface u pv, recovered := false }]) ∧ Ext w w' := by
  have Q := Lib.hid (inAddFull_c base b sz mx a y q w hI hf)
  have c0 := hD.c.cell 0
  have c1 := hD.c.cell 1
  have c2 := hD.c.cell 2
  have ci := hD.i.cell 0
  simp [fcCells] at c0 c1 c2 ci
  subst h1
  clear hI hD hf
  go_enter Try.func32, Try.ntmps32
  go_wp2_with (go_at_call 22; refine Q.out.mono ?_; rintro e w' ⟨⟨u, pv, rfl⟩, he⟩)
  exact ⟨rfl, ⟨u, pv, rfl⟩, he⟩

theorem door_end {base cb ib ab gb b sz : Nat} {mx : Int} {q q' : List Fl} {kind a y : Int} {w w1 w4 : World} (hI1 : InR base w1 b sz mx q') (hD1 : DoorR base w1 cb ib ab gb b sz mx q kind a y (faCells 0 false false)) (hc1 : InChg base w w1) (hE : Ext w1 w4) :
    let w' := (w4.setCell ⟨ab, 0, none⟩ (.int .i64 (q'.length : Nat))).setCell ⟨ab, 1, none⟩ (.bool (isFull q'.length (sumQ q') sz mx))
    InR base w' b sz mx q' ∧ DoorR base w' cb ib ab gb b sz mx q' kind a y (faCells (q'.length : Nat) (isFull q'.length (sumQ q') sz mx) false) ∧ ∃ w1, InChg base w w1 ∧ Chg (· = ab) w1 w' := by
  intro w'
  have hg : Chg (· = ab) w4 w' := (chg_setCell w4 ⟨ab, 0, none⟩ _).trans (chg_setCell _ ⟨ab, 1, none⟩ _)
  have hA := hD1.a.ext hE
  have hA' := (hA.set_ 0 (.int .i64 (q'.length : Nat))).set_ 1 (.bool (isFull q'.length (sumQ q') sz mx))
  obtain ⟨st, v, r, k1, k2, k3, k4⟩ := hI1.ext hE
  refine ⟨⟨st, v, r, Blk.chg k1 hg (Blk.ne k1 hA (by decide)), ?_, k3, k4⟩, ⟨?_, ?_, ?_, ?_⟩, w4, hc1.trans (InChg.ext hE), hg⟩
  · rcases k2 with h | ⟨g, e1, e2, e3⟩
    · exact .inl h
    · exact .inr ⟨g, e1, Blk.chg e2 hg (Blk.ne e2 hA (by decide)), e3⟩
  · exact (hD1.c.ext hE).chg hg (Blk.ne (hD1.c.ext hE) hA (by decide))
  · exact (hD1.i.ext hE).chg hg (Blk.ne (hD1.i.ext hE) hA (by decide))
  · simpa [faCells] using hA'
  · exact (hD1.g.ext hE).chg hg (Blk.ne (hD1.g.ext hE) hA (by decide))

set_option maxRecDepth 100000 in
set_option maxHeartbeats 4000000 in
theorem door_some (base cb ib ab gb b sz : Nat) (mx : Int) (q q' : List Fl) (kind a y : Int) (w : World) (hI : InR base w b sz mx q) (hD : DoorR base w cb ib ab gb b sz mx q kind a y (faCells 0 false false)) (hsz : sz ≤ 1000000)
    (hs : flStep sz mx q kind a y = some q') :
    Calls Try.prog 32 #[.pointer (some ⟨cb, 0, none⟩), .pointer (some ⟨ib, 0, none⟩), .pointer (some ⟨ab, 0, none⟩)] w fun e w' =>
      e = .returned (.tuple #[]) ∧ InR base w' b sz mx q' ∧ DoorR base w' cb ib ab gb b sz mx q' kind a y (faCells q'.length (isFull q'.length (sumQ q') sz mx) false) ∧ ∃ w1, InChg base w w1 ∧ Chg (· = ab) w1 w' := by
  have c0 := hD.c.cell 0
  have c1 := hD.c.cell 1
  have c2 := hD.c.cell 2
  have ci := hD.i.cell 0
  simp [fcCells] at c0 c1 c2 ci
  have hI' := Lib.hid hI
  have hD' := Lib.hid hD
  clear hI hD
  go_enter Try.func32, Try.ntmps32
  by_cases hk1 : kind = 1
  · subst hk1
    have hf : isFull q.length (sumQ q) sz mx = false := by
      cases hf : isFull q.length (sumQ q) sz mx with
      | false => rfl
      | true => simp [flStep, hf] at hs
    have hq : q ++ [(a, y)] = q' := by simpa [flStep, hf] using hs
    have Q := inAdd_c base b sz mx a y q w hI'.out hf hsz
    rw [hq] at Q
    have Q' := Lib.hid Q
    clear hs hf hq Q
    go_wp2_with (go_at_call 22; refine Q'.out.mono ?_; rintro e w1 ⟨rfl, hI1, hc1⟩)
    have hD1 := Lib.hid (DoorR.turn (q' := q) hD'.out hc1.1)
    have hI1' := Lib.hid hI1
    have hc1' := Lib.hid hc1
    have ci1 := hD1.out.i.cell 0
    simp only [List.getElem?_toArray, List.getElem?_cons_zero] at ci1
    clear hI1 hc1
    go_region_with (first
      | (go_at_call 35; refine (inCountQ_c base b sz mx _ _ (hI1'.out.ext (Ext.refl w1).drew)).mono ?_; rintro e w3 ⟨rfl, rfl⟩)
      | (go_at_call 36; refine (inFullQ_c base b sz mx _ _ (hI1'.out.ext (Ext.refl w1).drew)).mono ?_; rintro e w4 ⟨rfl, he4⟩; have hE4 : Ext w1 w4 := (Ext.refl w1).drew.trans he4; have a0 := (hD1.out.a.ext hE4).cell 0; have a1 := (hD1.out.a.ext hE4).cell 1; have z0 := (hD1.out.a.ext hE4).thaw 0; have z1 := (hD1.out.a.ext hE4).thaw 1; simp [faCells] at a0 a1))
    all_goals go_end0
    all_goals exact ⟨rfl, door_end hI1'.out hD1.out hc1'.out hE4⟩
  have hk1b : (kind == 1) = false := by simpa using hk1
  by_cases hk2 : kind = 2
  · subst hk2
    have hq : freed a q = q' := by simpa [flStep] using hs
    have Q := inFree_c base b sz mx a q w hI'.out hsz
    rw [hq] at Q
    have Q' := Lib.hid Q
    clear hs hq Q hk1
    go_wp2_with (go_at_call 33; refine Q'.out.mono ?_; rintro e w1 ⟨rfl, hI1, hc1⟩)
    have hD1 := Lib.hid (DoorR.turn (q' := q) hD'.out hc1.1)
    have hI1' := Lib.hid hI1
    have hc1' := Lib.hid hc1
    have ci1 := hD1.out.i.cell 0
    simp only [List.getElem?_toArray, List.getElem?_cons_zero] at ci1
    clear hI1 hc1
    go_region_with (first
      | (go_at_call 35; refine (inCountQ_c base b sz mx _ _ (hI1'.out.ext (Ext.refl w1).drew)).mono ?_; rintro e w3 ⟨rfl, rfl⟩)
      | (go_at_call 36; refine (inFullQ_c base b sz mx _ _ (hI1'.out.ext (Ext.refl w1).drew)).mono ?_; rintro e w4 ⟨rfl, he4⟩; have hE4 : Ext w1 w4 := (Ext.refl w1).drew.trans he4; have a0 := (hD1.out.a.ext hE4).cell 0; have a1 := (hD1.out.a.ext hE4).cell 1; have z0 := (hD1.out.a.ext hE4).thaw 0; have z1 := (hD1.out.a.ext hE4).thaw 1; simp [faCells] at a0 a1))
    all_goals go_end0
    all_goals exact ⟨rfl, door_end hI1'.out hD1.out hc1'.out hE4⟩
  have hk2b : (kind == 2) = false := by simpa using hk2
  by_cases hk3 : kind = 3
  · subst hk3
    have hq : [] = q' := by simpa [flStep] using hs
    have Q := zzReset_c base b sz mx q w hI'.out
    rw [hq] at Q
    have Q' := Lib.hid Q
    clear hs hq Q hk1 hk2
    go_wp2_with (go_at_call 34; refine Q'.out.mono ?_; rintro e w1 ⟨rfl, hI1, hc1⟩)
    have hD1 := Lib.hid (DoorR.turn (q' := q) hD'.out hc1.1)
    have hI1' := Lib.hid hI1
    have hc1' := Lib.hid hc1
    have ci1 := hD1.out.i.cell 0
    simp only [List.getElem?_toArray, List.getElem?_cons_zero] at ci1
    clear hI1 hc1
    go_region_with (first
      | (go_at_call 35; refine (inCountQ_c base b sz mx _ _ (hI1'.out.ext (Ext.refl w1).drew)).mono ?_; rintro e w3 ⟨rfl, rfl⟩)
      | (go_at_call 36; refine (inFullQ_c base b sz mx _ _ (hI1'.out.ext (Ext.refl w1).drew)).mono ?_; rintro e w4 ⟨rfl, he4⟩; have hE4 : Ext w1 w4 := (Ext.refl w1).drew.trans he4; have a0 := (hD1.out.a.ext hE4).cell 0; have a1 := (hD1.out.a.ext hE4).cell 1; have z0 := (hD1.out.a.ext hE4).thaw 0; have z1 := (hD1.out.a.ext hE4).thaw 1; simp [faCells] at a0 a1))
    all_goals go_end0
    all_goals exact ⟨rfl, door_end hI1'.out hD1.out hc1'.out hE4⟩
  have hk3b : (kind == 3) = false := by simpa using hk3
  · have hq : q = q' := by simpa [flStep, hk1, hk2, hk3] using hs
    have hI1 := hI'.out
    have hc1 := InChg.refl base w
    rw [hq] at hI1
    clear hs hk1 hk2 hk3 hq
    revert hI1 hc1
    generalize hw1 : w = w1 at *
    intro hI1 hc1
    have hI1h := Lib.hid hI1
    have hc1h := Lib.hid hc1
    clear hI1 hc1
    go_wp2_with fail
    have hI1 := hI1h.out
    have hc1 := hc1h.out
    have hD1 := Lib.hid (DoorR.turn (q' := q) hD'.out hc1.1)
    have hI1' := Lib.hid hI1
    have hc1' := Lib.hid hc1
    have ci1 := hD1.out.i.cell 0
    simp only [List.getElem?_toArray, List.getElem?_cons_zero] at ci1
    clear hI1 hc1
    go_region_with (first
      | (go_at_call 35; refine (inCountQ_c base b sz mx _ _ (hI1'.out.ext (Ext.refl w1).drew)).mono ?_; rintro e w3 ⟨rfl, rfl⟩)
      | (go_at_call 36; refine (inFullQ_c base b sz mx _ _ (hI1'.out.ext (Ext.refl w1).drew)).mono ?_; rintro e w4 ⟨rfl, he4⟩; have hE4 : Ext w1 w4 := (Ext.refl w1).drew.trans he4; have a0 := (hD1.out.a.ext hE4).cell 0; have a1 := (hD1.out.a.ext hE4).cell 1; have z0 := (hD1.out.a.ext hE4).thaw 0; have z1 := (hD1.out.a.ext hE4).thaw 1; simp [faCells] at a0 a1))
    all_goals go_end0
    all_goals exact ⟨rfl, door_end hI1'.out hD1.out hc1'.out hE4⟩

end Go.Proofs.Ytfoffejgpalmpaa
