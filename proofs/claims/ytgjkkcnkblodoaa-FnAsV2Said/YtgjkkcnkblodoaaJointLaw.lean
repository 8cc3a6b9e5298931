/- The law FnJoint: the walk, and what its argument is. -/
import Derived.Test.YtgjkkcnkblodoaaJoint
import Derived.Test.YtgjkkcnkblodoaaOpenConf
namespace Go.Proofs.Ytgjkkcnkblodoaa
open Go.ChangeShapes Go.WideShapes Go.ChangeAt Go.RowKit
set_option linter.unusedSimpArgs false
set_option linter.unusedVariables false

set_option maxRecDepth 100000 in
set_option maxHeartbeats 1000000 in
theorem fnJoint_walk (cs : List Value) (c : Change) (w : World) (h : ChangeA w cs c) : Calls Try.prog 7 #[.agg cs.toArray] w (Yes w) := by
  have Q1 := Lib.hid (fun W (he : Ext w W) => zzFits12_c cs c W (h.ext he))
  have Q2 := Lib.hid (fun W (he : Ext w W) hf => rightChange_c cs c W (h.ext he) hf)
  have Q3 := Lib.hid (fun W (he : Ext w W) hf h0 h2 => EntersJoint_c cs c W (h.ext he) hf h0 h2)
  obtain ⟨v, rfl, A, cp, rfl, _⟩ := h
  go_enter Try.func7, Try.ntmps7
  go_wp2_with (go_at_call 15; refine (Q1.out _ ((Ext.refl w).alloc _)).mono ?_; rintro e w1 ⟨b, rfl, hb, he⟩; have hb' := Lib.hid hb; clear hb; obtain ⟨hcell, hfroz⟩ := he.rules)
  · go_ret
    exact ⟨rfl, ((Ext.refl w).alloc _).trans he⟩
  · have hbt : b = true := by simp_all
    have hfit := Lib.hid (hb'.out hbt)
    refine (Q2.out _ (((Ext.refl w).alloc _).trans he) hfit.out).mono ?_
    rintro e w2 ⟨b2, rfl, hb2, he2⟩
    have hE2 := he.trans he2
    have hb2' := Lib.hid hb2
    clear hcell hfroz hb2
    obtain ⟨hcell, hfroz⟩ := hE2.rules
    go_wp2_with fail
    · go_ret
      exact ⟨rfl, ((Ext.refl w).alloc _).trans hE2⟩
    · have hbt2 : b2 = true := by simp_all
      obtain ⟨hr1, hr2, hr3⟩ := hb2'.out hbt2
      refine (Q3.out _ (((Ext.refl w).alloc _).trans hE2) hfit.out hr2 hr3).mono ?_
      rintro e w3 ⟨rfl, he3⟩
      have hE3 := hE2.trans he3
      clear hcell hfroz hr1
      obtain ⟨hcell, hfroz⟩ := hE3.rules
      have ej : joins c = (decide ((1 : Int) < c.changes.length) || c.trans != 0) := rfl
      have ea : autos c = (joins c && c.trans != 2) := rfl
      generalize joins c = j at *
      generalize autos c = a at *
      have ej' := Lib.hid ej
      have ea' := Lib.hid ea
      clear ej ea
      go_wp2
      all_goals go_ret
      all_goals refine ⟨?_, ((Ext.refl w).alloc _).trans hE3⟩
      all_goals have ej := ej'.out
      all_goals have ea := ea'.out
      all_goals clear hcell hfroz hE3 he3 hE2 he2 he Q1 Q2 Q3 ej' ea' hb' hb2' hfit
      all_goals simp_all

theorem cells_single : Try.prog.cellsOf 42 = 2 := by kernel_rfl
set_option maxRecDepth 100000 in
theorem open_single {w : World} {cs : List Value} (h : Rd Try.prog w 42 cs) : ∃ x : Single, cs = singleCells x ∧ (Lit.int .i64 x.kind).wf = true ∧ (Lit.int .u64 x.node).wf = true := by
  obtain ⟨h1, h2⟩ := h.fields Try.underlying42 (by kernel_rfl) (by rw [cells_single]; rfl)
  obtain ⟨v0, v1, rfl⟩ := list2 h1
  obtain ⟨y0, e0, r0⟩ := h2 0 _ rfl
  obtain ⟨y1, e1, r1⟩ := h2 1 _ rfl
  obtain rfl : v0 = y0 := by simpa using e0
  obtain rfl : v1 = y1 := by simpa using e1
  obtain ⟨k, hk, wk⟩ := r0.int Try.underlying3
  obtain ⟨n, hn, wn⟩ := r1.int Try.underlying22
  obtain rfl : v0 = .int .i64 k := by simpa using hk
  obtain rfl : v1 = .int .u64 n := by simpa using hn
  exact ⟨⟨k, n⟩, rfl, wk, wn⟩

/-- A slice of elements of any width: what it reads as. -/
theorem open_list {α : Type} {f : α → List Value} {size : Nat} {p : α → Prop} {w : World} {t e : TypeId} {v : Value} (ht : Try.prog.underlying t = some (.slice e)) (hC : Try.prog.cellsOf e = size) (hs : 0 < size) (hf : ∀ x, (f x).length = size)
    (hel : ∀ cs, Rd Try.prog w e cs → ∃ x, cs = f x ∧ p x) (h : Rd Try.prog w t [v]) : ∃ xs : List α, SliceR w v size xs.length (xs.flatMap f) ∧ ∀ x ∈ xs, p x := by
  rcases h.slice ht with h0 | ⟨a, len, cap, h0, h1, h2, h3⟩
  · obtain rfl : v = .slice none 0 0 := by simpa using h0
    exact ⟨[], ⟨none, 0, rfl, Nat.le_refl _, by simp [maxLen], by simp, RowR.nil _ _⟩, by simp⟩
  · obtain rfl : v = .slice (some a) len cap := by simpa using h0
    rw [hC] at h3
    obtain ⟨xs, hx1, hx2⟩ := lists_of (p := fun i x => (∀ j, j < size → w.cell? ((a.add (i * size)).add j) = (f x)[j]?) ∧ p x) len (fun i hi => by
      obtain ⟨es, e1, e2, e3⟩ := h3 i hi
      obtain ⟨x, rfl, hp⟩ := hel es e3
      exact ⟨x, e2, hp⟩)
    refine ⟨xs, ⟨some a, cap, by rw [hx1], by omega, h2, flat_length hf xs, ?_⟩, fun x hx => ?_⟩
    · refine rowR_of hs (n := len) (f := fun i => ((xs[i]?).map f).getD []) (fun i hi => ?_) _ (by rw [flat_length hf, hx1]) (fun i j hi hj => ?_)
      · have hil : i < xs.length := by omega
        rw [List.getElem?_eq_getElem hil, Option.map_some, Option.getD_some]
        exact ⟨hf _, (hx2 i xs[i] (List.getElem?_eq_getElem hil)).1⟩
      · have hil : i < xs.length := by omega
        rw [List.getElem?_eq_getElem hil, Option.map_some, Option.getD_some]
        exact flat_at hf xs i j hil hj
    · obtain ⟨i, hi, rfl⟩ := List.getElem_of_mem hx
      exact (hx2 i _ (List.getElem?_eq_getElem hi)).2

theorem cells_change : Try.prog.cellsOf 37 = 3 := by kernel_rfl
set_option maxRecDepth 100000 in
theorem open_change {w : World} {cs : List Value} (h : Rd Try.prog w 37 cs) : ∃ c, ChangeA w cs c := by
  obtain ⟨h1, h2⟩ := h.fields Try.underlying37 (by kernel_rfl) (by rw [cells_change]; rfl)
  obtain ⟨v0, v1, v2, rfl⟩ := list3 h1
  obtain ⟨y0, e0, r0⟩ := h2 0 _ rfl
  obtain ⟨y1, e1, r1⟩ := h2 1 _ rfl
  obtain ⟨y2, e2, r2⟩ := h2 2 _ rfl
  obtain rfl : v0 = y0 := by simpa using e0
  obtain rfl : v1 = y1 := by simpa using e1
  obtain rfl : v2 = y2 := by simpa using e2
  obtain ⟨t, ht, _⟩ := r0.int Try.underlying3
  obtain ⟨s, hs, _⟩ := r2.string Try.underlying9
  obtain rfl : v0 = .int .i64 t := by simpa using ht
  obtain rfl : v2 = .string s := by simpa using hs
  obtain ⟨xs, hx, _⟩ := open_list (f := singleCells) (p := fun _ => True) Try.underlying35 cells_single (by omega) singleCells_len (fun cs hcs => by
    obtain ⟨x, hx, _⟩ := open_single hcs
    exact ⟨x, hx, trivial⟩) r1
  exact ⟨⟨t, xs, s⟩, _, rfl, hx⟩

end Go.Proofs.Ytgjkkcnkblodoaa
