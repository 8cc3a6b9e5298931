/- A tracker: trackerOf. (The rows of its drawn regions are printed by a program.) -/
import Derived.Test.YtklhflbjkckhmaaSetOf
import Derived.Test.YtklhflbjkckhmaaTail
import Derived.Test.YtklhflbjkckhmaaLate
import Derived.Deep.DeepCutAuto
import Derived.Deep.RegionWith
namespace Go.Proofs.Ytklhflbjkckhmaa
open Go.ChangeShapes Go.WideShapes Go.ChangeAt Go.RowKit
set_option linter.unusedSimpArgs false
set_option linter.unusedVariables false
set_option linter.unnecessarySimpa false

structure Conf4 where
  ins : List Int
  outs : List Int
  learners : List Int
  next : List Int
  auto : Bool
structure Trk where
  id : Int
  mat : Int
  next : Int
  learner : Bool
  active : Bool
def trkCells (x : Trk) : List Value := [.int .u64 x.id, .int .u64 x.mat, .int .u64 x.next, .bool x.learner, .bool x.active]
theorem trkCells_len (x : Trk) : (trkCells x).length = 5 := rfl
/-- The progress of a node, its Inflights in block i. -/
def prCells (x : Trk) (i : Nat) : Array Value := #[.int .u64 x.mat, .int .u64 x.next, .int .u64 0, .int .u64 0, .int .u64 0, .bool x.active, .bool false, .pointer (some ⟨i, 0, none⟩), .bool x.learner]
def flNew : Array Value := #[.int .i64 0, .int .i64 0, .int .u64 0, .int .i64 8, .int .u64 0, .slice none 0 0]
def lastT (ts : List Trk) (k : Int) : Option Trk := ts.foldl (fun o x => if x.id = k then some x else o) none
theorem lastT_snoc (ts : List Trk) (x : Trk) (k : Int) : lastT (ts ++ [x]) k = if x.id = k then some x else lastT ts k := by
  unfold lastT
  rw [List.foldl_append]
  rfl
/-- The progress map: of each node with progress its last one. -/
def ProgR (w : World) (b : Nat) (f : Int → Option Trk) : Prop := ∃ m, MapV w b m ∧ ∀ k, match f k with
  | some x => ∃ p i, get m k = some (.pointer (some ⟨p, 0, none⟩)) ∧ Blk w p 95 (prCells x i) ∧ Blk w i 105 flNew
  | none => get m k = none
theorem ProgR.ext {w w' : World} {b : Nat} {f : Int → Option Trk} (h : ProgR w b f) (e : Ext w w') : ProgR w' b f := by
  obtain ⟨m, h1, h2⟩ := h
  refine ⟨m, h1.ext e, fun k => ?_⟩
  have := h2 k
  revert this
  cases f k with
  | none => exact id
  | some x =>
    rintro ⟨p, i, h3, h4, h5⟩
    exact ⟨p, i, h3, h4.ext e, h5.ext e⟩

/-- The entries of the progress map, all behind block t. -/
def ProgM (w : World) (t : Nat) (m : List (Int × Value)) (f : Int → Option Trk) : Prop := ∀ k, match f k with
  | some x => ∃ p i, get m k = some (.pointer (some ⟨p, 0, none⟩)) ∧ t < p ∧ t < i ∧ Blk w p 95 (prCells x i) ∧ Blk w i 105 flNew
  | none => get m k = none
theorem ProgM.chg {S : Nat → Prop} {w w' : World} {t : Nat} {m : List (Int × Value)} {f : Int → Option Trk} (h : ProgM w t m f) (e : Chg S w w') (hs : ∀ k, t < k → ¬ S k) : ProgM w' t m f := by
  intro k
  have := h k
  revert this
  cases f k with
  | none => exact id
  | some x =>
    rintro ⟨p, i, h3, h1, h2, h4, h5⟩
    exact ⟨p, i, h3, h1, h2, h4.chg e (hs p h1), h5.chg e (hs i h2)⟩
theorem ProgM.ext {w w' : World} {t : Nat} {m : List (Int × Value)} {f : Int → Option Trk} (h : ProgM w t m f) (e : Ext w w') : ProgM w' t m f := h.chg (S := fun _ => False) e.chg (fun _ _ h => h)
theorem ProgM.prog {w : World} {t : Nat} {m : List (Int × Value)} {f : Int → Option Trk} (h : ProgM w t m f) : ∀ k, match f k with
  | some x => ∃ p i, get m k = some (.pointer (some ⟨p, 0, none⟩)) ∧ Blk w p 95 (prCells x i) ∧ Blk w i 105 flNew
  | none => get m k = none := by
  intro k
  have := h k
  revert this
  cases f k with
  | none => exact id
  | some x =>
    rintro ⟨p, i, h3, _, _, h4, h5⟩
    exact ⟨p, i, h3, h4, h5⟩
theorem ProgM.put {w w' : World} {t bp p i : Nat} {m : List (Int × Value)} {ts : List Trk} {y : Trk} (h : ProgM w t m (lastT ts)) (hr : Rising m) (hk : U64 y.id) (hp : t < p) (hi : t < i) (hB : Blk w p 95 (prCells y i)) (hI : Blk w i 105 flNew) (hbp : bp < t) (hc : Chg (· = bp) w w') :
    ProgM w' t (put y.id (.pointer (some ⟨p, 0, none⟩)) m) (lastT (ts ++ [y])) := by
  have h' := h.chg hc (fun k hk (he : k = bp) => by omega)
  intro k
  rw [lastT_snoc, get_put hr hk]
  by_cases he : y.id = k
  · rw [if_pos he, if_pos he]
    exact ⟨p, i, rfl, hp, hi, hB.chg hc (by omega), hI.chg hc (by omega)⟩
  · rw [if_neg he, if_neg he]
    exact h' k

def trCells (b0 bp bv : Nat) (v1 v2 v3 : Value) (auto : Bool) : Array Value := #[.map (some b0), v1, .bool auto, v2, v3, .map (some bp), .map (some bv), .int .i64 8, .int .u64 0]
/-- What a tracker's fields are. -/
structure TrkR (base : Nat) (w : World) (c : Conf4) (f : Int → Option Trk) (b0 bp bv : Nat) (v1 v2 v3 : Value) : Prop where
  ins : ∃ l, SetR w b0 l ∧ IsSet l c.ins
  outs : SetO w base v1 c.outs
  learners : SetO w base v2 c.learners
  next : SetO w base v3 c.next
  prog : ∃ m tt, MapV w bp m ∧ m.length ≤ 2147483647 ∧ ProgM w tt m f ∧ bp < tt ∧ bv < tt
  votes : MapV w bv []
  b0_ : base ≤ b0
  bpv : bp ≠ bv
  bp_ : bp < base
  bv_ : bv < base

theorem SetO.shape {w : World} {base : Nat} {v : Value} {ids : List Int} (h : SetO w base v ids) : ∃ m, v = .map m := by
  rcases h with ⟨_, h⟩ | ⟨b, l, h, _⟩
  · exact ⟨_, h⟩
  · exact ⟨_, h⟩
theorem newFl_c (w : World) : Calls Try.prog 51 #[.int .i64 8, .int .u64 0] w (RetV w fun v w' => ∃ i, v = .pointer (some ⟨i, 0, none⟩) ∧ w.heap.size ≤ i ∧ Blk w' i 105 flNew) := by
  go_enter Try.func51, Try.ntmps51
  go_wp2
  go_ret
  exact ⟨_, rfl, ⟨_, rfl, Nat.le_refl _, Blk.new _ _ _⟩, (Ext.refl w).alloc _⟩

theorem info_trk : (Try.prog.info? 71).map (·.size) = some 9 := by kernel_rfl
set_option maxRecDepth 100000 in
set_option maxHeartbeats 1000000 in
theorem makeTracker_c (w : World) : Calls Try.prog 49 #[.int .i64 8, .int .u64 0] w (RetV w fun v w' => ∃ b0 bp bv, v = .agg (trCells b0 bp bv (.map none) (.map none) (.map none) false) ∧ MapV w' bp [] ∧ MapV w' bv [] ∧ bp ≠ bv ∧ w.heap.size ≤ bp ∧ w.heap.size ≤ bv) := by
  have hmm := @run_makeMap Try.prog
  go_enter Try.func49, Try.ntmps49
  go_wp2
  have hB : Blk (w.alloc (.cells (trCells (w.heap.size + 1) (w.heap.size + 1 + 1 + 1) (w.heap.size + 1 + 1) (.map none) (.map none) (.map none) false) 71)) w.heap.size 71 (trCells (w.heap.size + 1) (w.heap.size + 1 + 1 + 1) (w.heap.size + 1 + 1) (.map none) (.map none) (.map none) false) := Blk.new _ _ _
  refine bodyPost_ret (v := .agg (trCells (w.heap.size + 1) (w.heap.size + 1 + 1 + 1) (w.heap.size + 1 + 1) (.map none) (.map none) (.map none) false)) (results_cell_row (by rw [Try.results49]) _ _ w.heap.size 71 _ (0, 0) _ rfl ((((hB.alloc _).alloc _).alloc _).alloc _).out Try.underlying71 rfl info_trk) rfl ?_
  have z1 : ∀ (w : World) (o : Obj), (w.alloc o).heap.size = w.heap.size + 1 := fun w o => by simp
  refine ⟨_, rfl, ⟨_, _, _, rfl, ?_, ?_, by omega, by omega, by omega⟩, ((((((Ext.refl w).alloc _).alloc _).alloc _).alloc _).alloc _)⟩
  · have := MapV.made ((((w.alloc (.cells (trCells (w.heap.size + 1) (w.heap.size + 1 + 1 + 1) (w.heap.size + 1 + 1) (.map none) (.map none) (.map none) false) 71)).alloc (.map #[] 0)).alloc (.map #[] 0)))
    rw [z1, z1, z1] at this
    exact this.ext ((Ext.refl _).alloc _)
  · have := MapV.made (((w.alloc (.cells (trCells (w.heap.size + 1) (w.heap.size + 1 + 1 + 1) (w.heap.size + 1 + 1) (.map none) (.map none) (.map none) false) 71)).alloc (.map #[] 0)))
    rw [z1, z1] at this
    exact this.ext (((Ext.refl _).alloc _).alloc _)

def confCells (a b c d : Value) (auto : Bool) : Array Value := #[a, b, c, d, .bool auto]
structure ConfA (w : World) (a b c d : Value) (x : Conf4) : Prop where
  ins : NumsR w a x.ins
  outs : NumsR w b x.outs
  learners : NumsR w c x.learners
  next : NumsR w d x.next
  nin : x.ins.length ≤ 2147483647
  nout : x.outs.length ≤ 2147483647
  nl : x.learners.length ≤ 2147483647
  nn : x.next.length ≤ 2147483647
  uin : ∀ k ∈ x.ins, U64 k
  uout : ∀ k ∈ x.outs, U64 k
  ul : ∀ k ∈ x.learners, U64 k
  un : ∀ k ∈ x.next, U64 k
theorem ConfA.ext {w w' : World} {a b c d : Value} {x : Conf4} (h : ConfA w a b c d x) (e : Ext w w') : ConfA w' a b c d x :=
  ⟨h.ins.ext e, h.outs.ext e, h.learners.ext e, h.next.ext e, h.nin, h.nout, h.nl, h.nn, h.uin, h.uout, h.ul, h.un⟩

/-- The variables of trackerOf: the configuration, the tracker, the result. -/
structure TrkV (w wr : World) (t b0 bp bv : Nat) (a b c d v1 v2 v3 : Value) (x : Conf4) (auto : Bool) : Prop where
  ext : Ext w wr
  conf : Blk wr w.heap.size 33 (confCells a b c d x.auto)
  res : ∃ cs : Array Value, cs.size = 9 ∧ Blk wr (w.heap.size + 1) 71 cs
  trk : Blk wr t 71 (trCells b0 bp bv v1 v2 v3 auto)
  far : w.heap.size + 1 < t
theorem TrkV.ext' {w wr wr' : World} {t b0 bp bv : Nat} {a b c d v1 v2 v3 : Value} {x : Conf4} {auto : Bool} (h : TrkV w wr t b0 bp bv a b c d v1 v2 v3 x auto) (e : Ext wr wr') : TrkV w wr' t b0 bp bv a b c d v1 v2 v3 x auto := by
  obtain ⟨cs, h1, h2⟩ := h.res
  exact ⟨h.ext.trans e, h.conf.ext e, ⟨cs, h1, h2.ext e⟩, h.trk.ext e, h.far⟩
theorem TrkV.chg {S : Nat → Prop} {w wr wr' : World} {t b0 bp bv : Nat} {a b c d v1 v2 v3 : Value} {x : Conf4} {auto : Bool} (h : TrkV w wr t b0 bp bv a b c d v1 v2 v3 x auto) (e : Chg S wr wr') (hs : ∀ k, S k → w.heap.size + 1 < k) {b0' : Nat} {v1' v2' v3' : Value} {auto' : Bool}
    (ht : Blk wr' t 71 (trCells b0' bp bv v1' v2' v3' auto')) : TrkV w wr' t b0' bp bv a b c d v1' v2' v3' x auto' := by
  obtain ⟨cs, h1, h2⟩ := h.res
  exact ⟨h.ext.chg_new e (fun k hk => by have := hs k hk; omega), h.conf.chg e (fun hk => by have := hs _ hk; omega), ⟨cs, h1, h2.chg e (fun hk => by have := hs _ hk; omega)⟩, ht, h.far⟩


/-- What the stores of region 3 leave. -/
def LateG2 (t : Nat) (x : Conf4) (w : World) : Prop := w.cell? ⟨t, 2, none⟩ = some (.bool x.auto)
def LateG3 (t base : Nat) (x : Conf4) (w : World) : Prop := ∃ m, w.cell? ⟨t, 3, none⟩ = some (.map m) ∧ SetO w base (.map m) x.learners
def LateG4 (t base : Nat) (x : Conf4) (w : World) : Prop := ∃ m, w.cell? ⟨t, 4, none⟩ = some (.map m) ∧ SetO w base (.map m) x.next
def LateB (t b0 bp bv : Nat) (v1 : Value) (w : World) : Prop := ∃ v2 v3 au, Blk w t 71 (trCells b0 bp bv v1 v2 v3 au)
def LateR (t base b0 bp bv : Nat) (v1 : Value) (x : Conf4) (w w' : World) : Prop := Chg (· = t) w w' ∧ (LateB t b0 bp bv v1 w → LateB t b0 bp bv v1 w') ∧ (LateG2 t x w → LateG2 t x w') ∧ (LateG3 t base x w → LateG3 t base x w') ∧ (LateG4 t base x w → LateG4 t base x w')
theorem LateR.refl (t base b0 bp bv : Nat) (v1 : Value) (x : Conf4) (w : World) : LateR t base b0 bp bv v1 x w w := ⟨Chg.refl _ _, id, id, id, id⟩
theorem LateR.trans {t base b0 bp bv : Nat} {v1 : Value} {x : Conf4} {a b c : World} (h : LateR t base b0 bp bv v1 x a b) (k : LateR t base b0 bp bv v1 x b c) : LateR t base b0 bp bv v1 x a c :=
  ⟨h.1.trans k.1, fun g => k.2.1 (h.2.1 g), fun g => k.2.2.1 (h.2.2.1 g), fun g => k.2.2.2.1 (h.2.2.2.1 g), fun g => k.2.2.2.2 (h.2.2.2.2 g)⟩
theorem LateR.ext {t base b0 bp bv : Nat} {v1 : Value} {x : Conf4} {a b : World} (h : Ext a b) : LateR t base b0 bp bv v1 x a b :=
  ⟨h.chg, fun ⟨v2, v3, au, g⟩ => ⟨v2, v3, au, g.ext h⟩, fun g => h.cellE g, fun ⟨m, g, k⟩ => ⟨m, h.cellE g, k.ext h⟩, fun ⟨m, g, k⟩ => ⟨m, h.cellE g, k.ext h⟩⟩
theorem cell_ne {w : World} {t i j : Nat} (v : Value) (h : i ≠ j) : (w.setCell ⟨t, i, none⟩ v).cell? ⟨t, j, none⟩ = w.cell? ⟨t, j, none⟩ := World.cell?_setCell_other w _ _ v (by simpa using h)
theorem LateR.cell2 {t b0 bp bv : Nat} {v1 v2 v3 : Value} {au : Bool} {w : World} (hB : Blk w t 71 (trCells b0 bp bv v1 v2 v3 au)) {u : Value} : (w.setCell ⟨t, 2, none⟩ u).cell? ⟨t, 2, none⟩ = some u := by
  have := (hB.set_ 2 u).cell 2
  simpa [trCells] using this
theorem LateR.cell3 {t b0 bp bv : Nat} {v1 v2 v3 : Value} {au : Bool} {w : World} (hB : Blk w t 71 (trCells b0 bp bv v1 v2 v3 au)) {u : Value} : (w.setCell ⟨t, 3, none⟩ u).cell? ⟨t, 3, none⟩ = some u := by
  have := (hB.set_ 3 u).cell 3
  simpa [trCells] using this
theorem LateR.cell4 {t b0 bp bv : Nat} {v1 v2 v3 : Value} {au : Bool} {w : World} (hB : Blk w t 71 (trCells b0 bp bv v1 v2 v3 au)) {u : Value} : (w.setCell ⟨t, 4, none⟩ u).cell? ⟨t, 4, none⟩ = some u := by
  have := (hB.set_ 4 u).cell 4
  simpa [trCells] using this
theorem LateR.set2 {t base b0 bp bv : Nat} {v1 v2 v3 : Value} {au : Bool} {x : Conf4} {w : World} (hb : t < base) (hB : Blk w t 71 (trCells b0 bp bv v1 v2 v3 au)) : LateR t base b0 bp bv v1 x w (w.setCell ⟨t, 2, none⟩ (.bool x.auto)) := by
  have hc := chg_setCell w ⟨t, 2, none⟩ (.bool x.auto)
  refine ⟨hc, fun _ => ⟨v2, v3, x.auto, by simpa [trCells] using hB.set_ 2 (.bool x.auto)⟩, fun _ => LateR.cell2 hB, fun ⟨m, g, k⟩ => ⟨m, by rw [cell_ne _ (by omega)]; exact g, k.chg hc (fun k hk (he : k = t) => by omega)⟩, fun ⟨m, g, k⟩ => ⟨m, by rw [cell_ne _ (by omega)]; exact g, k.chg hc (fun k hk (he : k = t) => by omega)⟩⟩
theorem LateR.set3 {t base b0 bp bv : Nat} {v1 v2 v3 : Value} {au : Bool} {x : Conf4} {w : World} {m : Option Nat} (hb : t < base) (hB : Blk w t 71 (trCells b0 bp bv v1 v2 v3 au)) (hm : SetO w base (.map m) x.learners) : LateR t base b0 bp bv v1 x w (w.setCell ⟨t, 3, none⟩ (.map m)) := by
  have hc := chg_setCell w ⟨t, 3, none⟩ (.map m)
  refine ⟨hc, fun _ => ⟨.map m, v3, au, by simpa [trCells] using hB.set_ 3 (.map m)⟩, fun g => (cell_ne _ (by omega)).trans g, fun _ => ⟨m, LateR.cell3 hB, hm.chg hc (fun k hk (he : k = t) => by omega)⟩, fun ⟨m, g, k⟩ => ⟨m, by rw [cell_ne _ (by omega)]; exact g, k.chg hc (fun k hk (he : k = t) => by omega)⟩⟩
theorem LateR.set4 {t base b0 bp bv : Nat} {v1 v2 v3 : Value} {au : Bool} {x : Conf4} {w : World} {m : Option Nat} (hb : t < base) (hB : Blk w t 71 (trCells b0 bp bv v1 v2 v3 au)) (hm : SetO w base (.map m) x.next) : LateR t base b0 bp bv v1 x w (w.setCell ⟨t, 4, none⟩ (.map m)) := by
  have hc := chg_setCell w ⟨t, 4, none⟩ (.map m)
  refine ⟨hc, fun _ => ⟨v2, .map m, au, by simpa [trCells] using hB.set_ 4 (.map m)⟩, fun g => (cell_ne _ (by omega)).trans g, fun ⟨m, g, k⟩ => ⟨m, by rw [cell_ne _ (by omega)]; exact g, k.chg hc (fun k hk (he : k = t) => by omega)⟩, fun _ => ⟨m, LateR.cell4 hB, hm.chg hc (fun k hk (he : k = t) => by omega)⟩⟩
theorem late_ext {w wr w' : World} {t b0 bp bv : Nat} {a b c d v1 v2 v3 : Value} {x : Conf4} {auto : Bool} (h : TrkV w wr t b0 bp bv a b c d v1 v2 v3 x auto) (hc : Chg (· = t) wr.drew w') : Ext w w' :=
  (h.ext.drew).chg_new hc (fun k (hk : k = t) => by have := h.far; omega)
theorem TrkV.cells {w wr : World} {t b0 bp bv : Nat} {a b c d v1 v2 v3 : Value} {x : Conf4} {auto : Bool} (h : TrkV w wr t b0 bp bv a b c d v1 v2 v3 x auto) :
    wr.cell? ⟨t, 2, none⟩ = some (.bool auto) ∧ wr.cell? ⟨t, 3, none⟩ = some v2 ∧ wr.cell? ⟨t, 4, none⟩ = some v3 ∧ wr.frozen? ⟨t, 2, none⟩ = false ∧ wr.frozen? ⟨t, 3, none⟩ = false ∧ wr.frozen? ⟨t, 4, none⟩ = false :=
  ⟨h.trk.cell 2, h.trk.cell 3, h.trk.cell 4, h.trk.thaw 2, h.trk.thaw 3, h.trk.thaw 4⟩

set_option maxRecDepth 100000 in
set_option maxHeartbeats 4000000 in
theorem trackerOf_c (a b c d : Value) (x : Conf4) (A : Option Addr) (cc : Nat) (ts : List Trk) (w : World) (h : ConfA w a b c d x) (ht : RowR w A (ts.flatMap trkCells)) (hn : ts.length ≤ 2147483647) (hu : ∀ t ∈ ts, U64 t.id) :
    Calls Try.prog 36 #[.agg (confCells a b c d x.auto), .slice A ts.length cc] w (RetV w fun v w' => ∃ base b0 bp bv v1 v2 v3, v = .agg (trCells b0 bp bv v1 v2 v3 x.auto) ∧ TrkR base w' x (lastT ts) b0 bp bv v1 v2 v3 ∧ w.heap.size ≤ bp ∧ w.heap.size ≤ bv) := by
  have h' := Lib.hid h
  have ht' := Lib.hid ht
  have hu' := Lib.hid hu
  clear h ht hu
  go_enter Try.func36, Try.ntmps36
  unfold confCells
  go_wp2_with (go_at_call 49; refine (makeTracker_c _).mono ?_; rintro e w1 ⟨v, rfl, ⟨b00, bp, bv, rfl, hP, hV, hne, hbp0'⟩, he1⟩; have hbp0 := Lib.hid hbp0'; clear hbp0'; have hP' := Lib.hid hP; have hV' := Lib.hid hV; have hne' := Lib.hid hne; clear hP hV hne; unfold trCells)
  have hw2 : ∃ w2 t, w2 = w1.alloc (.cells (trCells b00 bp bv (.map none) (.map none) (.map none) false) 71) ∧ t = w1.heap.size ∧ TrkV w w2 t b00 bp bv a b c d (.map none) (.map none) (.map none) x false ∧ MapV w2 bp [] ∧ MapV w2 bv [] ∧ t < w2.heap.size ∧ bp < t ∧ bv < t ∧ w.heap.size + 1 < bp ∧ w.heap.size + 1 < bv := by
    have z1 : ∀ (w : World) (o : Obj), (w.alloc o).heap.size = w.heap.size + 1 := fun w o => by simp
    have e1 := (Ext.refl w1).alloc (.cells (trCells b00 bp bv (.map none) (.map none) (.map none) false) 71)
    have hsz := he1.size_le
    rw [z1, z1] at hsz
    refine ⟨_, _, rfl, rfl, ⟨?_, ?_, ⟨#[.map none, .map none, .bool false, .map none, .map none, .map none, .map none, .int .i64 0, .int .u64 0], rfl, ?_⟩, Blk.new _ _ _, by omega⟩, hP'.out.ext e1, hV'.out.ext e1, by rw [z1]; omega, hP'.out.lt, hV'.out.lt, by have := hbp0.out.1; rw [z1, z1] at this; omega, by have := hbp0.out.2; rw [z1, z1] at this; omega⟩
    · exact (((Ext.refl w).alloc _).alloc _).trans (he1.trans e1)
    · exact (((Blk.new w 33 (confCells a b c d x.auto)).alloc _).ext he1).ext e1
    · exact ((Blk.new_at (z1 w _).symm).ext he1).ext e1
  obtain ⟨w2, t, hw2e, hte, hTV, hMP, hMV, ht2, hbpt, hbvt, hbp1, hbv1⟩ := hw2
  have hgoal := hw2e
  unfold trCells at hgoal
  rw [← hgoal, ← hte]
  obtain ⟨base, hbe⟩ : ∃ base, base = w2.heap.size := ⟨_, rfl⟩
  have hbase : base ≤ w2.heap.size := by omega
  have hbt : t < base := by omega
  have hE2 := Lib.hid hTV.ext
  have c0 := hTV.conf.cell 0
  have c1 := hTV.conf.cell 1
  simp [confCells] at c0 c1
  have hTV' := Lib.hid hTV
  have hMP' := Lib.hid hMP
  have hMV' := Lib.hid hMV
  clear hw2e hte hgoal hTV hMP hMV hP' hV' he1 hbe w1
  have hE2 : Ext w w2 := hE2.out
  refine wp_region_grow_tail 6 Ext
    [.val ?r0, .val ?r1, Fact.is (fun v w => ∃ b l, v = Value.map (some b) ∧ base ≤ b ∧ SetR w b l ∧ IsSet l x.ins), .val ?r3, .val ?r4, Fact.is (fun v w => SetO w base v x.outs)]
    [[], [(0, 9)], [(1, 10)], [], [(3, 12)], [(4, 13)]]
    (by kernel_rfl) Ext.refl (fun _ _ _ => Ext.trans) (by kernel_rfl) rfl ⟨trivial, trivial, fun _ _ _ h e => by obtain ⟨b, l, h1, h2, h3, h4⟩ := h; exact ⟨b, l, h1, h2, MapV.ext h3 e, h4⟩, trivial, trivial, fun _ _ _ h e => h.ext e, trivial⟩ ?ask ?fin
  case ask =>
    refine asks_cons ?a0 (asks_cons ?a1 (asks_cons ?a2 (asks_cons ?a3 (asks_cons ?a4 (asks_cons ?a5 (trivial))))))
    case a0 =>
      intro w' hS
      simp only [takes, List.map_cons, List.map_nil, List.getD_cons_zero, List.getD_cons_succ, feed, Act.put, List.setIfInBounds_toArray, List.set_cons_zero, List.set_cons_succ]
      refine alone_val ?_
      intro K hK
      show Oper.wp _ _ _ _ _ _
      go_simp
      exact hK _ (Ext.refl _)
    case a1 =>
      intro w' hS
      simp only [takes, List.map_cons, List.map_nil, List.getD_cons_zero, List.getD_cons_succ, feed, Act.put, List.setIfInBounds_toArray, List.set_cons_zero, List.set_cons_succ]
      refine alone_val ?_
      intro K hK
      show Oper.wp _ _ _ _ _ _
      have hd := ((Ext.refl w2).drew.trans hS).cellE c0
      go_simp
      exact hK _ (Ext.refl _)
    case a2 =>
      intro w' hS
      simp only [takes, List.map_cons, List.map_nil, List.getD_cons_zero, List.getD_cons_succ, feed, Act.put, List.setIfInBounds_toArray, List.set_cons_zero, List.set_cons_succ]
      intro K hK
      show Oper.wp _ _ _ _ _ _
      go_simp
      refine (votersAt_c _ _ _ (h'.out.ins.ext (hE2.trans ((Ext.refl w2).drew.trans hS))) h'.out.nin h'.out.uin).mono ?_
      rintro e w3 ⟨v, rfl, ⟨l, rfl, h1, h2⟩, he⟩
      exact hK _ _ he ⟨_, l, rfl, Nat.le_trans hbase ((Ext.refl w2).drew.trans hS).size_le, h1, h2⟩
    case a3 =>
      intro w' hS
      simp only [takes, List.map_cons, List.map_nil, List.getD_cons_zero, List.getD_cons_succ, feed, Act.put, List.setIfInBounds_toArray, List.set_cons_zero, List.set_cons_succ]
      refine alone_val ?_
      intro K hK
      show Oper.wp _ _ _ _ _ _
      go_simp
      exact hK _ (Ext.refl _)
    case a4 =>
      intro w' hS
      simp only [takes, List.map_cons, List.map_nil, List.getD_cons_zero, List.getD_cons_succ, feed, Act.put, List.setIfInBounds_toArray, List.set_cons_zero, List.set_cons_succ]
      refine alone_val ?_
      intro K hK
      show Oper.wp _ _ _ _ _ _
      have hd := ((Ext.refl w2).drew.trans hS).cellE c1
      go_simp
      exact hK _ (Ext.refl _)
    case a5 =>
      intro w' hS
      simp only [takes, List.map_cons, List.map_nil, List.getD_cons_zero, List.getD_cons_succ, feed, Act.put, List.setIfInBounds_toArray, List.set_cons_zero, List.set_cons_succ]
      intro K hK
      show Oper.wp _ _ _ _ _ _
      go_simp
      refine (setOf_c _ _ _ (h'.out.outs.ext (hE2.trans ((Ext.refl w2).drew.trans hS))) h'.out.nout h'.out.uout).mono ?_
      rintro e w3 ⟨v, rfl, h1, he⟩
      exact hK _ _ he (h1.le (Nat.le_trans hbase ((Ext.refl w2).drew.trans hS).size_le))
  case fin =>
    intro w' hS
    simp only [fills, Act.put, List.setIfInBounds_toArray, List.set_cons_zero, List.set_cons_succ, List.take_succ_cons, List.take_zero, List.drop_succ_cons, List.drop_zero]
    intro x2 hx2 x5 hx5
    obtain ⟨b0, l0, rfl, hb0, hS0, hI0⟩ := hx2
    obtain ⟨m1, rfl⟩ := hx5.shape
    have hTw := hTV'.out.ext' ((Ext.refl w2).drew.trans hS)
    have k0 := hTw.trk.cell 0
    have k1 := hTw.trk.cell 1
    have z0 := hTw.trk.thaw 0
    have z1 := hTw.trk.thaw 1
    simp [trCells] at k0 k1
    have hTw' := Lib.hid hTw
    have hS0' := Lib.hid hS0
    have hI0' := Lib.hid hI0
    have hx5' := Lib.hid hx5
    have hEE := Lib.hid ((Ext.refl w2).drew.trans hS)
    clear hTw hS0 hI0 hx5 hS c0 c1
    go_wp2_with fail
    have hg : Chg (· = t) w' ((w'.setCell ⟨t, 0, none⟩ (.map (some b0))).setCell ⟨t, 1, none⟩ (.map m1)) := (chg_setCell w' ⟨t, 0, none⟩ _).trans (chg_setCell _ ⟨t, 1, none⟩ _)
    have hT3 : TrkV w ((w'.setCell ⟨t, 0, none⟩ (.map (some b0))).setCell ⟨t, 1, none⟩ (.map m1)) t b0 bp bv a b c d (.map m1) (.map none) (.map none) x false := hTw'.out.chg hg (fun k hk => by have := hTw'.out.far; omega) (by simpa [trCells] using (hTw'.out.trk.set_ 0 (.map (some b0))).set_ 1 (.map m1))
    have hMP3 := Lib.hid ((hMP'.out.ext hEE.out).chg hg (by omega))
    have hMV3 := Lib.hid ((hMV'.out.ext hEE.out).chg hg (by omega))
    have hS3 := Lib.hid (MapV.chg hS0'.out hg (by omega))
    have hO3 := Lib.hid (hx5'.out.chg hg (fun k hk he => by omega))
    have hsz3 : w2.heap.size ≤ ((w'.setCell ⟨t, 0, none⟩ (.map (some b0))).setCell ⟨t, 1, none⟩ (.map m1)).heap.size := Nat.le_trans hEE.out.size_le hg.size_le
    generalize (w'.setCell ⟨t, 0, none⟩ (.map (some b0))).setCell ⟨t, 1, none⟩ (.map m1) = w3 at hg hT3 hMP3 hMV3 hS3 hO3 hsz3 ⊢
    clear k0 k1 z0 z1 hg hEE
    have hbase3 : base ≤ w3.heap.size := by omega
    have hE3 : Ext w w3 := hT3.ext
    have d2 := hT3.conf.cell 2
    have d3 := hT3.conf.cell 3
    have d4 := hT3.conf.cell 4
    simp [confCells] at d2 d3 d4
    have hfar : ¬ w.heap.size = t := by have := hT3.far; omega
    have hfar2 : ¬ t = w.heap.size := by omega
    have hT3' := Lib.hid hT3
    clear hT3 hsz3
    refine wp_region_late (LateR t base b0 bp bv (.map m1) x)
      [.val ?rb0, .val ?rb1, Fact.is (fun v w => SetO w base v x.learners), .val ?rb3, .val ?rb4, Fact.is (fun v w => SetO w base v x.next), .val ?rb6, .val ?rb7, .val ?rb8, .val ?rb9, Fact.is (fun _ w => LateG3 t base x w), .val ?rb11, .val ?rb12, Fact.is (fun _ w => LateG4 t base x w), .val ?rb14, .val ?rb15, Fact.is (fun _ w => LateG2 t x w)]
      [[], [(0, 18)], [(1, 19)], [], [(3, 21)], [(4, 22)], [], [(6, 24)], [], [(8, 26)], [(9, 27), (2, 20)], [], [(11, 28)], [(12, 29), (5, 23)], [], [(14, 30)], [(15, 31), (7, 25)]]
      (by kernel_rfl) (fun w => LateR.refl _ _ _ _ _ _ _ w) (fun _ _ _ => LateR.trans) (by kernel_rfl) rfl ⟨trivial, trivial, fun _ _ _ h e => h.chg e.1 (fun k hk he => by omega), trivial, trivial, fun _ _ _ h e => h.chg e.1 (fun k hk he => by omega), trivial, trivial, trivial, trivial, fun _ _ _ h e => e.2.2.2.1 h, trivial, trivial, fun _ _ _ h e => e.2.2.2.2 h, trivial, trivial, fun _ _ _ h e => e.2.2.1 h, trivial⟩ ?askb ?finb
    case askb =>
      refine asksL_cons ?ab0 (asksL_cons ?ab1 (asksL_cons ?ab2 (asksL_cons ?ab3 (asksL_cons ?ab4 (asksL_cons ?ab5 (asksL_cons ?ab6 (asksL_cons ?ab7 (asksL_cons ?ab8 (asksL_cons ?ab9 (asksL_cons ?ab10 (asksL_cons ?ab11 (asksL_cons ?ab12 (asksL_cons ?ab13 (asksL_cons ?ab14 (asksL_cons ?ab15 (asksL_cons ?ab16 (trivial)))))))))))))))))
      case ab0 =>
        intro w' hS
        simp only [takes, List.map_cons, List.map_nil, List.getD_cons_zero, List.getD_cons_succ, feed, Act.put, List.setIfInBounds_toArray, List.set_cons_zero, List.set_cons_succ]
        refine late_some rfl ?_
        refine alone_val ?_
        intro K hK
        show Oper.wp _ _ _ _ _ _
        go_simp
        exact hK _ ((fun w => LateR.refl _ _ _ _ _ _ _ w) _)
      case ab1 =>
        intro w' hS
        simp only [takes, List.map_cons, List.map_nil, List.getD_cons_zero, List.getD_cons_succ, feed, Act.put, List.setIfInBounds_toArray, List.set_cons_zero, List.set_cons_succ]
        refine late_some rfl ?_
        refine alone_val ?_
        intro K hK
        show Oper.wp _ _ _ _ _ _
        have hd := (hT3'.out.conf.drew.chg hS.1 hfar).cell 2
        simp [confCells] at hd
        go_simp
        exact hK _ (LateR.refl _ _ _ _ _ _ _ _)
      case ab2 =>
        intro w' hS
        simp only [takes, List.map_cons, List.map_nil, List.getD_cons_zero, List.getD_cons_succ, feed, Act.put, List.setIfInBounds_toArray, List.set_cons_zero, List.set_cons_succ]
        refine late_some rfl ?_
        intro K hK
        show Oper.wp _ _ _ _ _ _
        go_simp
        refine (setOf_c _ _ _ (h'.out.learners.ext (late_ext hT3'.out hS.1)) h'.out.nl h'.out.ul).mono ?_
        rintro e w4 ⟨v, rfl, h1, he⟩
        exact hK _ _ (LateR.ext he) (h1.le (Nat.le_trans hbase3 hS.1.size_le))
      case ab3 =>
        intro w' hS
        simp only [takes, List.map_cons, List.map_nil, List.getD_cons_zero, List.getD_cons_succ, feed, Act.put, List.setIfInBounds_toArray, List.set_cons_zero, List.set_cons_succ]
        refine late_some rfl ?_
        refine alone_val ?_
        intro K hK
        show Oper.wp _ _ _ _ _ _
        go_simp
        exact hK _ ((fun w => LateR.refl _ _ _ _ _ _ _ w) _)
      case ab4 =>
        intro w' hS
        simp only [takes, List.map_cons, List.map_nil, List.getD_cons_zero, List.getD_cons_succ, feed, Act.put, List.setIfInBounds_toArray, List.set_cons_zero, List.set_cons_succ]
        refine late_some rfl ?_
        refine alone_val ?_
        intro K hK
        show Oper.wp _ _ _ _ _ _
        have hd := (hT3'.out.conf.drew.chg hS.1 hfar).cell 3
        simp [confCells] at hd
        go_simp
        exact hK _ (LateR.refl _ _ _ _ _ _ _ _)
      case ab5 =>
        intro w' hS
        simp only [takes, List.map_cons, List.map_nil, List.getD_cons_zero, List.getD_cons_succ, feed, Act.put, List.setIfInBounds_toArray, List.set_cons_zero, List.set_cons_succ]
        refine late_some rfl ?_
        intro K hK
        show Oper.wp _ _ _ _ _ _
        go_simp
        refine (setOf_c _ _ _ (h'.out.next.ext (late_ext hT3'.out hS.1)) h'.out.nn h'.out.un).mono ?_
        rintro e w4 ⟨v, rfl, h1, he⟩
        exact hK _ _ (LateR.ext he) (h1.le (Nat.le_trans hbase3 hS.1.size_le))
      case ab6 =>
        intro w' hS
        simp only [takes, List.map_cons, List.map_nil, List.getD_cons_zero, List.getD_cons_succ, feed, Act.put, List.setIfInBounds_toArray, List.set_cons_zero, List.set_cons_succ]
        refine late_some rfl ?_
        refine alone_val ?_
        intro K hK
        show Oper.wp _ _ _ _ _ _
        go_simp
        exact hK _ ((fun w => LateR.refl _ _ _ _ _ _ _ w) _)
      case ab7 =>
        intro w' hS
        simp only [takes, List.map_cons, List.map_nil, List.getD_cons_zero, List.getD_cons_succ, feed, Act.put, List.setIfInBounds_toArray, List.set_cons_zero, List.set_cons_succ]
        refine late_some rfl ?_
        refine alone_val ?_
        intro K hK
        show Oper.wp _ _ _ _ _ _
        have hd := (hT3'.out.conf.drew.chg hS.1 hfar).cell 4
        simp [confCells] at hd
        go_simp
        exact hK _ (LateR.refl _ _ _ _ _ _ _ _)
      case ab8 =>
        intro w' hS
        simp only [takes, List.map_cons, List.map_nil, List.getD_cons_zero, List.getD_cons_succ, feed, Act.put, List.setIfInBounds_toArray, List.set_cons_zero, List.set_cons_succ]
        refine late_some rfl ?_
        refine alone_val ?_
        intro K hK
        show Oper.wp _ _ _ _ _ _
        go_simp
        exact hK _ ((fun w => LateR.refl _ _ _ _ _ _ _ w) _)
      case ab9 =>
        intro w' hS
        simp only [takes, List.map_cons, List.map_nil, List.getD_cons_zero, List.getD_cons_succ, feed, Act.put, List.setIfInBounds_toArray, List.set_cons_zero, List.set_cons_succ]
        refine late_some rfl ?_
        refine alone_val ?_
        intro K hK
        show Oper.wp _ _ _ _ _ _
        go_simp
        exact hK _ ((fun w => LateR.refl _ _ _ _ _ _ _ w) _)
      case ab10 =>
        intro w' hS
        simp only [takes, List.map_cons, List.map_nil, List.getD_cons_zero, List.getD_cons_succ, feed, Act.put, List.setIfInBounds_toArray, List.set_cons_zero, List.set_cons_succ]
        intro x2 hx2
        refine late_none rfl ?_
        intro K hK
        show Oper.wp _ _ _ _ _ _
        obtain ⟨m2, rfl⟩ := hx2.shape
        obtain ⟨v2, v3, au, hB⟩ := hS.2.1 ⟨_, _, _, hT3'.out.trk.drew⟩
        have k3 := hB.cell 3
        have z3 := hB.thaw 3
        simp [trCells] at k3
        have hB' := Lib.hid hB
        have hx2' := Lib.hid hx2
        clear hB hx2
        go_simp
        exact hK _ (LateR.set3 hbt hB'.out hx2'.out) (fun _ => ⟨m2, LateR.cell3 hB'.out, hx2'.out.chg (chg_setCell w' ⟨t, 3, none⟩ _) (fun k hk (he : k = t) => by omega)⟩)
      case ab11 =>
        intro w' hS
        simp only [takes, List.map_cons, List.map_nil, List.getD_cons_zero, List.getD_cons_succ, feed, Act.put, List.setIfInBounds_toArray, List.set_cons_zero, List.set_cons_succ]
        refine late_some rfl ?_
        refine alone_val ?_
        intro K hK
        show Oper.wp _ _ _ _ _ _
        go_simp
        exact hK _ ((fun w => LateR.refl _ _ _ _ _ _ _ w) _)
      case ab12 =>
        intro w' hS
        simp only [takes, List.map_cons, List.map_nil, List.getD_cons_zero, List.getD_cons_succ, feed, Act.put, List.setIfInBounds_toArray, List.set_cons_zero, List.set_cons_succ]
        refine late_some rfl ?_
        refine alone_val ?_
        intro K hK
        show Oper.wp _ _ _ _ _ _
        go_simp
        exact hK _ ((fun w => LateR.refl _ _ _ _ _ _ _ w) _)
      case ab13 =>
        intro w' hS
        simp only [takes, List.map_cons, List.map_nil, List.getD_cons_zero, List.getD_cons_succ, feed, Act.put, List.setIfInBounds_toArray, List.set_cons_zero, List.set_cons_succ]
        intro x5 hx5
        refine late_none rfl ?_
        intro K hK
        show Oper.wp _ _ _ _ _ _
        obtain ⟨m2, rfl⟩ := hx5.shape
        obtain ⟨v2, v3, au, hB⟩ := hS.2.1 ⟨_, _, _, hT3'.out.trk.drew⟩
        have k3 := hB.cell 4
        have z3 := hB.thaw 4
        simp [trCells] at k3
        have hB' := Lib.hid hB
        have hx2' := Lib.hid hx5
        clear hB hx5
        go_simp
        exact hK _ (LateR.set4 hbt hB'.out hx2'.out) (fun _ => ⟨m2, LateR.cell4 hB'.out, hx2'.out.chg (chg_setCell w' ⟨t, 4, none⟩ _) (fun k hk (he : k = t) => by omega)⟩)
      case ab14 =>
        intro w' hS
        simp only [takes, List.map_cons, List.map_nil, List.getD_cons_zero, List.getD_cons_succ, feed, Act.put, List.setIfInBounds_toArray, List.set_cons_zero, List.set_cons_succ]
        refine late_some rfl ?_
        refine alone_val ?_
        intro K hK
        show Oper.wp _ _ _ _ _ _
        go_simp
        exact hK _ ((fun w => LateR.refl _ _ _ _ _ _ _ w) _)
      case ab15 =>
        intro w' hS
        simp only [takes, List.map_cons, List.map_nil, List.getD_cons_zero, List.getD_cons_succ, feed, Act.put, List.setIfInBounds_toArray, List.set_cons_zero, List.set_cons_succ]
        refine late_some rfl ?_
        refine alone_val ?_
        intro K hK
        show Oper.wp _ _ _ _ _ _
        go_simp
        exact hK _ ((fun w => LateR.refl _ _ _ _ _ _ _ w) _)
      case ab16 =>
        intro w' hS
        simp only [takes, List.map_cons, List.map_nil, List.getD_cons_zero, List.getD_cons_succ, feed, Act.put, List.setIfInBounds_toArray, List.set_cons_zero, List.set_cons_succ]
        refine late_none rfl ?_
        intro K hK
        show Oper.wp _ _ _ _ _ _
        obtain ⟨v2, v3, au, hB⟩ := hS.2.1 ⟨_, _, _, hT3'.out.trk.drew⟩
        have k3 := hB.cell 2
        have z3 := hB.thaw 2
        simp [trCells] at k3
        have hB' := Lib.hid hB
        clear hB
        go_simp
        exact hK _ (LateR.set2 hbt hB'.out) (fun _ => LateR.cell2 hB'.out)
    case finb =>
      intro w' hS
      simp only [fills, Act.put, List.setIfInBounds_toArray, List.set_cons_zero, List.set_cons_succ]
      intro x2 hx2 x5 hx5 x10 hx10 x13 hx13 x16 hx16
      obtain ⟨m2, g3, hO2⟩ := hx10
      obtain ⟨m3, g4, hO4⟩ := hx13
      have hT4 : TrkV w w' t b0 bp bv a b c d (.map m1) (.map m2) (.map m3) x x.auto := by
        obtain ⟨v2, v3, au, hB⟩ := hS.2.1 ⟨_, _, _, hT3'.out.trk.drew⟩
        have e2 := hB.cell 2
        have e3 := hB.cell 3
        have e4 := hB.cell 4
        rw [hx16] at e2
        rw [g3] at e3
        rw [g4] at e4
        simp [trCells] at e2 e3 e4
        subst e2 e3 e4
        exact (hT3'.out.ext' (Ext.refl w3).drew).chg hS.1 (fun k (hk : k = t) => by have := hT3'.out.far; omega) hB
      have hMP4 := Lib.hid ((hMP3.out.ext (Ext.refl w3).drew).chg hS.1 (by omega))
      have hMV4 := Lib.hid ((hMV3.out.ext (Ext.refl w3).drew).chg hS.1 (by omega))
      have hS4 := Lib.hid (MapV.chg (MapV.ext hS3.out (Ext.refl w3).drew) hS.1 (by omega))
      have hO5 := Lib.hid ((hO3.out.ext (Ext.refl w3).drew).chg hS.1 (fun k hk (he : k = t) => by omega))
      have hO2' := Lib.hid hO2
      have hO4' := Lib.hid hO4
      have hT4' := Lib.hid hT4
      have htw : t < w'.heap.size := hT4.trk.lt
      clear g3 g4 hO2 hO4 hT4 hx16 hS d2 d3 d4 hx2 hx5
      go_wp2_with fail
      go_loopg [34] ts.length (fun g i wr => ∃ (k : Nat) (m : List (Int × Value)), g = ts.length - k ∧ k ≤ ts.length ∧ i = .int .i64 k ∧ TrkV w wr t b0 bp bv a b c d (.map m1) (.map m2) (.map m3) x x.auto ∧ (MapV wr bp m ∧ m.length ≤ k) ∧ ProgM wr t m (lastT (ts.take k)) ∧ MapV wr bv [] ∧ SetR wr b0 l0 ∧ SetO wr base (.map m1) x.outs ∧ SetO wr base (.map m2) x.learners ∧ SetO wr base (.map m3) x.next)
      case atStart => exact ⟨0, [], rfl, by omega, rfl, hT4'.out, ⟨hMP4.out, by simp⟩, fun k => rfl, hMV4.out, hS4.out, hO5.out, hO2'.out, hO4'.out⟩
      case round =>
        obtain ⟨k, m, hg, hk, rfl, hTr, ⟨hMp, hml⟩, hPr, hMv, hSr, hOo, hOl, hOn⟩ := hrel
        have hg' := Lib.hid hg
        have hTr' := Lib.hid hTr
        have hMp' := Lib.hid hMp
        have hPr' := Lib.hid hPr
        have hMv' := Lib.hid hMv
        have hSr' := Lib.hid hSr
        have hOo' := Lib.hid hOo
        have hOl' := Lib.hid hOl
        have hOn' := Lib.hid hOn
        have htr : t < wr.heap.size := hTr.trk.lt
        have he : Ext w wr := hTr.ext
        clear hg hTr hMp hPr hMv hSr hOo hOl hOn
        by_cases hlt : k < ts.length
        · obtain ⟨bb, o, rfl, hel⟩ := ht'.out.elem trkCells_len (by omega) hlt
          have hku := hu'.out _ (List.getElem_mem hlt)
          have htk := Lib.hid (show ts.take (k + 1) = ts.take k ++ [ts[k]] by rw [List.take_add_one, List.getElem?_eq_getElem hlt]; rfl)
          generalize ts[k] = y at hel hku htk
          have e0 := he.cellE (hel 0 _ rfl)
          have e1 := he.cellE (hel 1 _ rfl)
          have e2 := he.cellE (hel 2 _ rfl)
          have e3 := he.cellE (hel 3 _ rfl)
          have e4 := he.cellE (hel 4 _ rfl)
          simp only [Nat.add_zero] at e0
          have hltI : (k : Int) < (ts.length : Int) := by omega
          clear hel
          go_wp2_with fail
          have hE5 : Ext wr (wr.alloc (.cells #[.int .u64 y.id, .int .u64 y.mat, .int .u64 y.next, .bool y.learner, .bool y.active] 39)) := (Ext.refl wr).alloc _
          have hL := Blk.new wr 39 #[.int .u64 y.id, .int .u64 y.mat, .int .u64 y.next, .bool y.learner, .bool y.active]
          generalize wr.alloc (.cells #[.int .u64 y.id, .int .u64 y.mat, .int .u64 y.next, .bool y.learner, .bool y.active] 39) = w5 at hE5 hL ⊢
          have f0 := hL.cell 0
          have f1 := hL.cell 1
          have f2 := hL.cell 2
          have f3 := hL.cell 3
          have f4 := hL.cell 4
          simp only [List.getElem?_toArray, List.getElem?_cons_zero, List.getElem?_cons_succ] at f0 f1 f2 f3 f4
          have f5 := hE5.cellE ((hTr'.out.trk.cell 5).trans (show _ = some (Value.map (some bp)) from rfl))
          clear e0 e1 e2 e3 e4 hL
          refine wp_region_grow_tail 15 Ext
            [.val ?rc0, .val ?rc1, .val ?rc2, .val ?rc3, .val ?rc4, .val ?rc5, .val ?rc6, .val ?rc7, .val ?rc8, .val ?rc9, .val ?rc10, .val ?rc11, Fact.is (fun v w => ∃ i, v = Value.pointer (some ⟨i, 0, none⟩) ∧ t < i ∧ Blk w i 105 flNew), Fact.is (fun v w => ∃ i, v = Value.agg (prCells y i) ∧ t < i ∧ Blk w i 105 flNew), Fact.is (fun v w => ∃ p i, v = Value.pointer (some ⟨p, 0, none⟩) ∧ t < p ∧ t < i ∧ Blk w p 95 (prCells y i) ∧ Blk w i 105 flNew)]
            [[], [(0, 38)], [], [(2, 40)], [], [(4, 42)], [], [(6, 44)], [], [(8, 46)], [], [(10, 48)], [], [(5, 43), (7, 45), (9, 47), (11, 49), (12, 50)], [(13, 51)]]
            (by kernel_rfl) Ext.refl (fun _ _ _ => Ext.trans) (by kernel_rfl) rfl ⟨trivial, trivial, trivial, trivial, trivial, trivial, trivial, trivial, trivial, trivial, trivial, trivial, fun _ _ _ h e => by obtain ⟨i, h1, h2, h3⟩ := h; exact ⟨i, h1, h2, h3.ext e⟩, fun _ _ _ h e => by obtain ⟨i, h1, h2, h3⟩ := h; exact ⟨i, h1, h2, h3.ext e⟩, fun _ _ _ h e => by obtain ⟨p, i, h1, h2, h3, h4, h5⟩ := h; exact ⟨p, i, h1, h2, h3, h4.ext e, h5.ext e⟩, trivial⟩ ?askc ?finc
          case askc =>
            refine asks_cons ?ac0 (asks_cons ?ac1 (asks_cons ?ac2 (asks_cons ?ac3 (asks_cons ?ac4 (asks_cons ?ac5 (asks_cons ?ac6 (asks_cons ?ac7 (asks_cons ?ac8 (asks_cons ?ac9 (asks_cons ?ac10 (asks_cons ?ac11 (asks_cons ?ac12 (asks_cons ?ac13 (asks_cons ?ac14 (trivial)))))))))))))))
            case ac0 =>
              intro w' hS
              simp only [takes, List.map_cons, List.map_nil, List.getD_cons_zero, List.getD_cons_succ, feed, Act.put, List.setIfInBounds_toArray, List.set_cons_zero, List.set_cons_succ]
              refine alone_val ?_
              intro K hK
              show Oper.wp _ _ _ _ _ _
              go_simp
              exact hK _ (Ext.refl _)
            case ac1 =>
              intro w' hS
              simp only [takes, List.map_cons, List.map_nil, List.getD_cons_zero, List.getD_cons_succ, feed, Act.put, List.setIfInBounds_toArray, List.set_cons_zero, List.set_cons_succ]
              refine alone_val ?_
              intro K hK
              show Oper.wp _ _ _ _ _ _
              have hd := ((Ext.refl w5).drew.trans hS).cellE f5
              go_simp
              exact hK _ (Ext.refl _)
            case ac2 =>
              intro w' hS
              simp only [takes, List.map_cons, List.map_nil, List.getD_cons_zero, List.getD_cons_succ, feed, Act.put, List.setIfInBounds_toArray, List.set_cons_zero, List.set_cons_succ]
              refine alone_val ?_
              intro K hK
              show Oper.wp _ _ _ _ _ _
              go_simp
              exact hK _ (Ext.refl _)
            case ac3 =>
              intro w' hS
              simp only [takes, List.map_cons, List.map_nil, List.getD_cons_zero, List.getD_cons_succ, feed, Act.put, List.setIfInBounds_toArray, List.set_cons_zero, List.set_cons_succ]
              refine alone_val ?_
              intro K hK
              show Oper.wp _ _ _ _ _ _
              have hd := ((Ext.refl w5).drew.trans hS).cellE f0
              go_simp
              exact hK _ (Ext.refl _)
            case ac4 =>
              intro w' hS
              simp only [takes, List.map_cons, List.map_nil, List.getD_cons_zero, List.getD_cons_succ, feed, Act.put, List.setIfInBounds_toArray, List.set_cons_zero, List.set_cons_succ]
              refine alone_val ?_
              intro K hK
              show Oper.wp _ _ _ _ _ _
              go_simp
              exact hK _ (Ext.refl _)
            case ac5 =>
              intro w' hS
              simp only [takes, List.map_cons, List.map_nil, List.getD_cons_zero, List.getD_cons_succ, feed, Act.put, List.setIfInBounds_toArray, List.set_cons_zero, List.set_cons_succ]
              refine alone_val ?_
              intro K hK
              show Oper.wp _ _ _ _ _ _
              have hd := ((Ext.refl w5).drew.trans hS).cellE f1
              go_simp
              exact hK _ (Ext.refl _)
            case ac6 =>
              intro w' hS
              simp only [takes, List.map_cons, List.map_nil, List.getD_cons_zero, List.getD_cons_succ, feed, Act.put, List.setIfInBounds_toArray, List.set_cons_zero, List.set_cons_succ]
              refine alone_val ?_
              intro K hK
              show Oper.wp _ _ _ _ _ _
              go_simp
              exact hK _ (Ext.refl _)
            case ac7 =>
              intro w' hS
              simp only [takes, List.map_cons, List.map_nil, List.getD_cons_zero, List.getD_cons_succ, feed, Act.put, List.setIfInBounds_toArray, List.set_cons_zero, List.set_cons_succ]
              refine alone_val ?_
              intro K hK
              show Oper.wp _ _ _ _ _ _
              have hd := ((Ext.refl w5).drew.trans hS).cellE f2
              go_simp
              exact hK _ (Ext.refl _)
            case ac8 =>
              intro w' hS
              simp only [takes, List.map_cons, List.map_nil, List.getD_cons_zero, List.getD_cons_succ, feed, Act.put, List.setIfInBounds_toArray, List.set_cons_zero, List.set_cons_succ]
              refine alone_val ?_
              intro K hK
              show Oper.wp _ _ _ _ _ _
              go_simp
              exact hK _ (Ext.refl _)
            case ac9 =>
              intro w' hS
              simp only [takes, List.map_cons, List.map_nil, List.getD_cons_zero, List.getD_cons_succ, feed, Act.put, List.setIfInBounds_toArray, List.set_cons_zero, List.set_cons_succ]
              refine alone_val ?_
              intro K hK
              show Oper.wp _ _ _ _ _ _
              have hd := ((Ext.refl w5).drew.trans hS).cellE f3
              go_simp
              exact hK _ (Ext.refl _)
            case ac10 =>
              intro w' hS
              simp only [takes, List.map_cons, List.map_nil, List.getD_cons_zero, List.getD_cons_succ, feed, Act.put, List.setIfInBounds_toArray, List.set_cons_zero, List.set_cons_succ]
              refine alone_val ?_
              intro K hK
              show Oper.wp _ _ _ _ _ _
              go_simp
              exact hK _ (Ext.refl _)
            case ac11 =>
              intro w' hS
              simp only [takes, List.map_cons, List.map_nil, List.getD_cons_zero, List.getD_cons_succ, feed, Act.put, List.setIfInBounds_toArray, List.set_cons_zero, List.set_cons_succ]
              refine alone_val ?_
              intro K hK
              show Oper.wp _ _ _ _ _ _
              have hd := ((Ext.refl w5).drew.trans hS).cellE f4
              go_simp
              exact hK _ (Ext.refl _)
            case ac12 =>
              intro w' hS
              simp only [takes, List.map_cons, List.map_nil, List.getD_cons_zero, List.getD_cons_succ, feed, Act.put, List.setIfInBounds_toArray, List.set_cons_zero, List.set_cons_succ]
              intro K hK
              show Oper.wp _ _ _ _ _ _
              go_simp
              refine (newFl_c _).mono ?_
              rintro e w6 ⟨v, rfl, ⟨i, rfl, hi0, hi⟩, he⟩
              exact hK _ _ he ⟨i, rfl, by have := (hE5.trans ((Ext.refl w5).drew.trans hS)).size_le; omega, hi⟩
            case ac13 =>
              intro w' hS
              simp only [takes, List.map_cons, List.map_nil, List.getD_cons_zero, List.getD_cons_succ, feed, Act.put, List.setIfInBounds_toArray, List.set_cons_zero, List.set_cons_succ]
              intro x12 hx12
              intro K hK
              show Oper.wp _ _ _ _ _ _
              obtain ⟨i, rfl, h2, h3⟩ := hx12
              have h3' := Lib.hid h3
              clear h3
              go_simp
              exact hK _ _ (Ext.refl _) ⟨i, rfl, h2, h3'.out⟩
            case ac14 =>
              intro w' hS
              simp only [takes, List.map_cons, List.map_nil, List.getD_cons_zero, List.getD_cons_succ, feed, Act.put, List.setIfInBounds_toArray, List.set_cons_zero, List.set_cons_succ]
              intro x13 hx13
              intro K hK
              show Oper.wp _ _ _ _ _ _
              obtain ⟨i, rfl, h2, h3⟩ := hx13
              have h3' := Lib.hid h3
              clear h3
              unfold prCells
              go_simp
              exact hK _ _ ((Ext.refl _).alloc _) ⟨_, i, rfl, by have := (hE5.trans ((Ext.refl w5).drew.trans hS)).size_le; omega, h2, Blk.new _ _ _, h3'.out.ext ((Ext.refl _).alloc _)⟩
          case finc =>
            intro w' hS
            simp only [fills, Act.put, List.setIfInBounds_toArray, List.set_cons_zero, List.set_cons_succ, List.take_succ_cons, List.take_zero, List.drop_succ_cons, List.drop_zero]
            intro x12 hx12 x13 hx13 x14 hx14
            obtain ⟨p, i, rfl, htp, hti, hBp, hBi⟩ := hx14
            have hES := (Ext.refl w5).drew.trans hS
            have hEw := hE5.trans hES
            have hMp6 := Lib.hid (hMp'.out.ext hEw)
            have hBp' := Lib.hid hBp
            have hBi' := Lib.hid hBi
            have hEw' := Lib.hid hEw
            clear hBp hBi hES hEw hx12 hx13 f0 f1 f2 f3 f4 f5 hS
            go_wp2_with (at_mapUpdate; refine wpList_map_put rfl _ _ _ _ rfl _ Try.underlying69 bp _ rfl hMp6.out (by unfold maxLen; omega) _ _ rfl rfl hku ?_; intro w7 hM7 hC7)
            go_roundg (ts.length - (k + 1))
            case rel =>
              refine ⟨k + 1, put y.id (.pointer (some ⟨p, 0, none⟩)) m, rfl, by omega, by go_num, (hTr'.out.ext' hEw'.out).chg hC7 (fun j (hj : j = bp) => by omega) ((hTr'.out.trk.ext hEw'.out).chg hC7 (by omega)), ⟨hM7, Nat.le_trans (put_len _ _ _) (by omega)⟩, ?_, (hMv'.out.ext hEw'.out).chg hC7 (fun e => hne'.out e.symm), MapV.chg (MapV.ext hSr'.out hEw'.out) hC7 (by omega), (hOo'.out.ext hEw'.out).chg hC7 (fun j hj (he : j = bp) => by omega), (hOl'.out.ext hEw'.out).chg hC7 (fun j hj (he : j = bp) => by omega), (hOn'.out.ext hEw'.out).chg hC7 (fun j hj (he : j = bp) => by omega)⟩
              rw [htk.out]
              exact (hPr'.out.ext hEw'.out).put hMp'.out.rising hku htp hti hBp'.out hBi'.out hbpt hC7
            case measure =>
              have := hg'.out
              omega
        · have hkk : k = ts.length := by omega
          have hltI : (ts.length : Int) ≤ (k : Int) := by omega
          have k0 := hTr'.out.trk.cell 0
          have k1 := hTr'.out.trk.cell 1
          have k2 := hTr'.out.trk.cell 2
          have k3 := hTr'.out.trk.cell 3
          have k4 := hTr'.out.trk.cell 4
          have k5 := hTr'.out.trk.cell 5
          have k6 := hTr'.out.trk.cell 6
          have k7 := hTr'.out.trk.cell 7
          have k8 := hTr'.out.trk.cell 8
          simp [trCells] at k0 k1 k2 k3 k4 k5 k6 k7 k8
          obtain ⟨cs, hcs, hres⟩ := hTr'.out.res
          have hres' := Lib.hid hres
          have hfl : ¬ t = w.heap.size + 1 := by have := hTr'.out.far; omega
          clear hres
          go_wp2_with (refine wpList_store_blk rfl _ _ _ rfl (w.heap.size + 1) 71 cs (trCells b0 bp bv (.map m1) (.map m2) (.map m3) x.auto) rfl rfl hres'.out (by rw [hcs]; rfl) info_trk rfl ?_; intro w8 hB8 hC8)
          refine bodyPost_ret (v := .agg (trCells b0 bp bv (.map m1) (.map m2) (.map m3) x.auto)) (results_cell_row (by rw [Try.results36]) _ _ (w.heap.size + 1) 71 _ (0, 0) _ rfl hB8.out Try.underlying71 rfl info_trk) rfl ?_
          have hbt1 : w.heap.size + 1 < t := hTr'.out.far
          refine ⟨_, rfl, ⟨base, b0, bp, bv, _, _, _, rfl, ⟨⟨l0, MapV.chg hSr'.out hC8 (by omega), hI0'.out⟩, hOo'.out.chg hC8 (fun j hj (he : j = w.heap.size + 1) => by omega), hOl'.out.chg hC8 (fun j hj (he : j = w.heap.size + 1) => by omega), hOn'.out.chg hC8 (fun j hj (he : j = w.heap.size + 1) => by omega), ?_, hMv'.out.chg hC8 (fun (e : bv = w.heap.size + 1) => by omega), hb0, hne'.out, by omega, by omega⟩, by omega, by omega⟩, he.chg_new hC8 (fun j (hj : j = w.heap.size + 1) => by omega)⟩
          have hP := hPr'.out.chg hC8 (fun j hj (he : j = w.heap.size + 1) => by omega)
          rw [hkk, List.take_of_length_le (Nat.le_refl _)] at hP
          exact ⟨m, t, hMp'.out.chg hC8 (fun (e : bp = w.heap.size + 1) => by omega), by omega, hP, hbpt, hbvt⟩

end Go.Proofs.Ytklhflbjkckhmaa
