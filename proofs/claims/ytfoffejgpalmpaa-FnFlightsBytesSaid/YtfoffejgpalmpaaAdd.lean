/- An Inflights as a queue: Add. -/
import Derived.Test.YtfoffejgpalmpaaQueue
namespace Go.Proofs.Ytfoffejgpalmpaa
open Go.ChangeShapes Go.WideShapes Go.ChangeAt Go.RowKit
set_option linter.unusedSimpArgs false
set_option linter.unusedVariables false

/-- The sum of the bytes, as a uint64 has it. -/
def sumQ (q : List Fl) : Int := (q.map (·.2)).sum % 18446744073709551616
theorem sumQ_bd (q : List Fl) : 0 ≤ sumQ q ∧ sumQ q ≤ 18446744073709551615 := by unfold sumQ; omega
theorem sumQ_snoc (q : List Fl) (x : Fl) : sumQ (q ++ [x]) = (sumQ q + x.2) % 18446744073709551616 := by
  unfold sumQ
  rw [List.map_append, List.sum_append]
  simp
theorem sumQ_cons (x : Fl) (q : List Fl) : sumQ q = (sumQ (x :: q) - x.2) % 18446744073709551616 := by
  unfold sumQ
  rw [List.map_cons, List.sum_cons]
  omega
/-- The Inflights in block b is the queue q, oldest first, of room sz and bytes mx. -/
def InR (base : Nat) (w : World) (b sz : Nat) (mx : Int) (q : List Fl) : Prop :=
  ∃ (st : Nat) (v : Value) (r : List Fl), InB w b st q.length (sumQ q) sz mx v ∧ BufR w base v r ∧ RingR st sz r q ∧ base ≤ b
def inTs : List Nat := [79 + 1, 83 + 1]
/-- What a call on it may have turned: itself and its buffer, which lie from base on. -/
def InChg (base : Nat) (w w' : World) : Prop := ChgT inTs w w' ∧ ∀ W0 : World, W0.heap.size ≤ base → Ext W0 w → Ext W0 w'
theorem InChg.refl (base : Nat) (w : World) : InChg base w w := ⟨ChgT.refl _ _, fun _ _ h => h⟩
theorem InChg.trans {base : Nat} {a b c : World} (h : InChg base a b) (k : InChg base b c) : InChg base a c := ⟨h.1.trans k.1, fun W0 hW he => k.2 W0 hW (h.2 W0 hW he)⟩
theorem InChg.ext {base : Nat} {a b : World} (h : Ext a b) : InChg base a b := ⟨h.chgT _, fun W0 _ he => he.trans h⟩
theorem inChg_blk {base b : Nat} {w w' : World} {T : TypeId} {cs : Array Value} (hb : Blk w b T cs) (hT : inTs.contains (T + 1) = true) (hB : base ≤ b) (h : Chg (· = b) w w') : InChg base w w' := by
  refine ⟨(h.chgT T (fun k o hk ho => ?_)).mono (fun x hx => ?_), fun W0 hW he => he.chg_new h (fun k hk => by omega)⟩
  · subst hk
    have := hb.out
    rw [this] at ho
    injection ho with ho
    subst ho
    rfl
  · simp only [List.contains_cons, List.contains_nil, Bool.or_false, beq_eq_false_iff_ne]
    rintro rfl
    rw [hT] at hx
    cases hx

theorem fl_ne : (83 : Nat) ≠ 79 := by decide
/-- The end of Add: the flight laid into its place, the count and the bytes raised. -/
theorem add_end {base b st sz g : Nat} {mx : Int} {q r : List Fl} {x : Fl} {w : World} {n : Nat} {by2 : Int} (hI : InB w b st q.length (sumQ q) sz mx (.slice (some ⟨g, 0, none⟩) r.length r.length)) (hg : Blk w g 83 (r.flatMap flCells).toArray) (hgb : base ≤ g) (hbb : base ≤ b)
    (hr : RingR st sz r q) (hf : q.length < sz) (hn : n = pos st q.length sz) (hp : n < r.length) (hst : st < sz) (hby : by2 = sumQ (q ++ [x])) :
    InR base ((((w.setCell ⟨g, n * 2, none⟩ (.int .u64 x.1)).setCell ⟨g, n * 2 + 1, none⟩ (.int .u64 x.2)).setCell ⟨b, 1, none⟩ (.int .i64 ((q.length : Int) + 1))).setCell ⟨b, 2, none⟩ (.int .u64 by2)) b sz mx (q ++ [x]) ∧
      InChg base w ((((w.setCell ⟨g, n * 2, none⟩ (.int .u64 x.1)).setCell ⟨g, n * 2 + 1, none⟩ (.int .u64 x.2)).setCell ⟨b, 1, none⟩ (.int .i64 ((q.length : Int) + 1))).setCell ⟨b, 2, none⟩ (.int .u64 by2)) := by
  have hne : g ≠ b := Blk.ne hg hI fl_ne
  have g1 := hg.set_ (n * 2) (.int .u64 x.1)
  have g2 := g1.set_ (n * 2 + 1) (.int .u64 x.2)
  have i1 := Blk.far hI (p := ⟨g, n * 2, none⟩) (fun e => hne e.symm) (.int .u64 x.1)
  have i2 := Blk.far i1 (p := ⟨g, n * 2 + 1, none⟩) (fun e => hne e.symm) (.int .u64 x.2)
  have i3 := i2.set_ 1 (.int .i64 ((q.length : Int) + 1))
  have i4 := i3.set_ 2 (.int .u64 by2)
  have g3 := (g2.far (p := ⟨b, 1, none⟩) hne (.int .i64 ((q.length : Int) + 1))).far (p := ⟨b, 2, none⟩) hne (.int .u64 by2)
  have hcells : ((r.flatMap flCells).toArray.setIfInBounds (n * 2) (.int .u64 x.1)).setIfInBounds (n * 2 + 1) (.int .u64 x.2) = ((r.set n x).flatMap flCells).toArray := by
    have e1 := flat_set flCells_len r n 0 hp (x.1, r[n].2) (.int .u64 x.1) (by omega) (by simp [flCells])
    have e2 := flat_set flCells_len (r.set n (x.1, r[n].2)) n 1 (by simpa using hp) x (.int .u64 x.2) (by omega) (by simp [flCells])
    rw [List.set_set] at e2
    rw [Nat.add_zero] at e1
    rw [← e2, ← e1]
    apply Array.ext'
    rw [Array.toList_setIfInBounds, Array.toList_setIfInBounds]
  refine ⟨⟨st, .slice (some ⟨g, 0, none⟩) r.length r.length, r.set n x, ?_, .inr ⟨g, by simp, ?_, hgb⟩, ?_, hbb⟩, ?_⟩
  · subst hby
    have e : q.length + 1 = (q ++ [x]).length := by simp
    have : ((q.length : Int) + 1) = (((q ++ [x]).length : Nat) : Int) := by rw [← e]; rfl
    rw [this] at i4 ⊢
    simpa [InB, inCells] using i4
  · rw [← hcells]
    exact g3
  · subst hn
    exact hr.add hf hp hst x
  · refine ((inChg_blk hg (by decide) hgb (chg_setCell _ ⟨g, n * 2, none⟩ _)).trans (inChg_blk g1 (by decide) hgb (chg_setCell _ ⟨g, n * 2 + 1, none⟩ _))).trans ((inChg_blk i2 (by decide) hbb (chg_setCell _ ⟨b, 1, none⟩ _)).trans (inChg_blk i3 (by decide) hbb (chg_setCell _ ⟨b, 2, none⟩ _)))

end Go.Proofs.Ytfoffejgpalmpaa
