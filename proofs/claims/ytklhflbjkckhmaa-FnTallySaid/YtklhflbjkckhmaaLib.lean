/- General lemmas of this claim's own: blocks that are known whole, worlds that only grow, and how a law's statement follows from a walk that returns true and leaves all old memory as it was. -/
import Derived.Test.YtklhflbjkckhmaaRows
import Derived.WalkKit
import Derived.ProofKit
import Derived.OpenShut
import Derived.Deep.Draws
import Derived.Lib.Hide
import Derived.Deep.MidRow
namespace Go.Proofs.Ytklhflbjkckhmaa
open Go.ChangeShapes Go.WideShapes Go.ChangeAt Go.RowKit

/-! ### Worlds that only grow -/
/-- All blocks of w are in w' as they were. -/
def Ext (w w' : World) : Prop := Below w.heap.size w w'

theorem Ext.refl (w : World) : Ext w w := Below.refl _ _
theorem Ext.trans {a b c : World} (h : Ext a b) (k : Ext b c) : Ext a c := Below.trans h (Below.mono k h.size)
theorem Ext.alloc {a w : World} (h : Ext a w) (o : Obj) : Ext a (w.alloc o) := Below.alloc h h.size o
theorem Ext.drew {a w : World} (h : Ext a w) : Ext a w.drew := Below.drew h
theorem Ext.drewN {a w : World} (h : Ext a w) (n : Nat) : Ext a (w.drewN n) := ⟨h.os, h.tape, h.output, h.size, h.block⟩
theorem Ext.setCell {a w : World} (h : Ext a w) {p : Addr} (hp : a.heap.size ≤ p.block) (u : Value) : Ext a (w.setCell p u) := Below.setCell h hp u
theorem Ext.size_le {a w : World} (h : Ext a w) : a.heap.size ≤ w.heap.size := h.size
theorem Ext.blockE {a w : World} (h : Ext a w) {k : Nat} (hk : k < a.heap.size) : w.heap[k]? = a.heap[k]? := h.block k hk
theorem Ext.cellE {a w : World} (h : Ext a w) {p : Addr} {v : Value} (hp : a.cell? p = some v) : w.cell? p = some v :=
  (Below.cell h (World.block_lt_of_cell? _ _ hp)).trans hp
/-- The two rules by which a walk reads old cells in a world that only grew. -/
theorem Ext.rules {a w : World} (h : Ext a w) : (∀ b o, b < a.heap.size → w.cell? ⟨b, o, none⟩ = a.cell? ⟨b, o, none⟩) ∧ (∀ b o, b < a.heap.size → w.frozen? ⟨b, o, none⟩ = a.frozen? ⟨b, o, none⟩) :=
  ⟨fun b o hb => Below.cell (p := ⟨b, o, none⟩) h hb, fun b o hb => Below.frozen (p := ⟨b, o, none⟩) h hb⟩
theorem Ext.below {a w : World} (h : Ext a w) : Below a.heap.size a w := h

/-! ### Blocks that are known whole -/
/-- Block b is just the cells cs of element type T, none of them frozen. -/
def Blk (w : World) (b : Nat) (T : TypeId) (cs : Array Value) : Prop := w.heap[b]? = some (.cells cs T (0, 0))

theorem Blk.lt {w : World} {b : Nat} {T : TypeId} {cs : Array Value} (h : Blk w b T cs) : b < w.heap.size := by
  rcases Nat.lt_or_ge b w.heap.size with hlt | hge
  · exact hlt
  · unfold Blk at h
    rw [Array.getElem?_eq_none hge] at h
    cases h
theorem Blk.out {w : World} {b : Nat} {T : TypeId} {cs : Array Value} (h : Blk w b T cs) : w.heap[b]? = some (.cells cs T (0, 0)) := h
theorem Blk.cell {w : World} {b : Nat} {T : TypeId} {cs : Array Value} (h : Blk w b T cs) (i : Nat) : w.cell? ⟨b, i, none⟩ = cs[i]? := by
  unfold Blk at h
  simp [World.cell?, h]
theorem Blk.thaw {w : World} {b : Nat} {T : TypeId} {cs : Array Value} (h : Blk w b T cs) (i : Nat) : w.frozen? ⟨b, i, none⟩ = false := by
  unfold Blk at h
  simp [World.frozen?, h]
theorem Blk.new (w : World) (T : TypeId) (cs : Array Value) : Blk (w.alloc (.cells cs T)) w.heap.size T cs := by
  show (w.heap.push _)[w.heap.size]? = _
  simp
theorem Blk.new_at {w : World} {b : Nat} {T : TypeId} {cs : Array Value} (h : b = w.heap.size) : Blk (w.alloc (.cells cs T)) b T cs := h ▸ Blk.new w T cs
theorem Blk.ext {w w' : World} {b : Nat} {T : TypeId} {cs : Array Value} (h : Blk w b T cs) (e : Ext w w') : Blk w' b T cs :=
  (e.blockE h.lt).trans h
theorem Blk.alloc {w : World} {b : Nat} {T : TypeId} {cs : Array Value} (h : Blk w b T cs) (o : Obj) : Blk (w.alloc o) b T cs := h.ext ((Ext.refl w).alloc o)
theorem Blk.drew {w : World} {b : Nat} {T : TypeId} {cs : Array Value} (h : Blk w b T cs) : Blk w.drew b T cs := h
theorem Blk.set_ {w : World} {b : Nat} {T : TypeId} {cs : Array Value} (h : Blk w b T cs) (i : Nat) (u : Value) : Blk (w.setCell ⟨b, i, none⟩ u) b T (cs.setIfInBounds i u) := by
  unfold Blk at h ⊢
  simp [World.setCell, Array.getElem?_modify, h]
theorem Blk.far {w : World} {b : Nat} {T : TypeId} {cs : Array Value} (h : Blk w b T cs) {p : Addr} (hp : b ≠ p.block) (u : Value) : Blk (w.setCell p u) b T cs :=
  (Below.heap_setCell w p u b hp).trans h
theorem Blk.ne {w : World} {b b' : Nat} {T T' : TypeId} {cs cs' : Array Value} (h : Blk w b T cs) (h' : Blk w b' T' cs') (hne : T ≠ T') : b ≠ b' := by
  rintro rfl
  unfold Blk at h h'
  rw [h] at h'
  injection h' with h'
  injection h' with _ ht
  exact hne ht

/-! ### Worlds in which some old blocks may have turned -/
/-- From w to w' only blocks of S, and new ones, have turned. -/
def Chg (S : Nat → Prop) (w w' : World) : Prop :=
  w'.os = w.os ∧ w'.tape = w.tape ∧ w'.output = w.output ∧ w.heap.size ≤ w'.heap.size ∧ ∀ k, k < w.heap.size → ¬ S k → w'.heap[k]? = w.heap[k]?
theorem Chg.refl (S : Nat → Prop) (w : World) : Chg S w w := ⟨rfl, rfl, rfl, Nat.le_refl _, fun _ _ _ => rfl⟩
theorem Chg.size_le {S : Nat → Prop} {a b : World} (h : Chg S a b) : a.heap.size ≤ b.heap.size := h.2.2.2.1
theorem Chg.blockC {S : Nat → Prop} {a b : World} (h : Chg S a b) {k : Nat} (hk : k < a.heap.size) (hs : ¬ S k) : b.heap[k]? = a.heap[k]? := h.2.2.2.2 k hk hs
theorem Chg.trans {S : Nat → Prop} {a b c : World} (h : Chg S a b) (k : Chg S b c) : Chg S a c := by
  obtain ⟨h1, h2, h3, h4, h5⟩ := h
  obtain ⟨k1, k2, k3, k4, k5⟩ := k
  exact ⟨k1.trans h1, k2.trans h2, k3.trans h3, Nat.le_trans h4 k4, fun i hi hs => (k5 i (by omega) hs).trans (h5 i hi hs)⟩
theorem Chg.mono {S S' : Nat → Prop} {a b : World} (h : Chg S a b) (hs : ∀ k, k < a.heap.size → S k → S' k) : Chg S' a b :=
  ⟨h.1, h.2.1, h.2.2.1, h.2.2.2.1, fun i hi hn => h.2.2.2.2 i hi (fun e => hn (hs i hi e))⟩
theorem Ext.chg {S : Nat → Prop} {a b : World} (h : Ext a b) : Chg S a b := ⟨h.os, h.tape, h.output, h.size, fun i hi _ => h.block i hi⟩
theorem Chg.ext {S : Nat → Prop} {a b : World} (h : Chg S a b) (hs : ∀ k, k < a.heap.size → ¬ S k) : Ext a b :=
  ⟨h.1, h.2.1, h.2.2.1, h.2.2.2.1, fun i hi => h.2.2.2.2 i hi (hs i hi)⟩
theorem Ext.chg_new {S : Nat → Prop} {a b c : World} (h : Ext a b) (k : Chg S b c) (hs : ∀ k, S k → a.heap.size ≤ k) : Ext a c :=
  (h.chg.trans k).ext (fun i hi e => by have := hs i e; omega)
theorem Ext.chg_of_grown {w w' : World} {row : Option Nat} (hg : w.grownBy w' row) : Chg (fun k => some k = row) w w' := ⟨hg.os, hg.tape, hg.output, hg.size, fun k hk hs => hg.block k hk hs⟩
theorem Blk.chg {S : Nat → Prop} {w w' : World} {b : Nat} {T : TypeId} {cs : Array Value} (h : Blk w b T cs) (e : Chg S w w') (hs : ¬ S b) : Blk w' b T cs := (e.blockC h.lt hs).trans h
theorem chg_setCell (w : World) (p : Addr) (u : Value) : Chg (· = p.block) w (w.setCell p u) :=
  ⟨rfl, rfl, rfl, by simp, fun k _ hk => Below.heap_setCell w p u k hk⟩

/-! ### Worlds in which only old blocks of some element types may have turned -/
/-- What kind of block: the element type of a row, and one more; 0 for all else. -/
def tag : Obj → Nat
  | .cells _ T _ => T + 1
  | _ => 0
/-- From w to w' only blocks of the kinds Ts, and new ones, have turned. -/
def ChgT (Ts : List Nat) (w w' : World) : Prop :=
  w'.os = w.os ∧ w'.tape = w.tape ∧ w'.output = w.output ∧ w.heap.size ≤ w'.heap.size ∧ ∀ (k : Nat) (o : Obj), w.heap[k]? = some o → Ts.contains (tag o) = false → w'.heap[k]? = some o
theorem ChgT.refl (Ts : List Nat) (w : World) : ChgT Ts w w := ⟨rfl, rfl, rfl, Nat.le_refl _, fun _ _ h _ => h⟩
theorem ChgT.trans {Ts : List Nat} {a b c : World} (h : ChgT Ts a b) (k : ChgT Ts b c) : ChgT Ts a c := by
  obtain ⟨h1, h2, h3, h4, h5⟩ := h
  obtain ⟨k1, k2, k3, k4, k5⟩ := k
  exact ⟨k1.trans h1, k2.trans h2, k3.trans h3, Nat.le_trans h4 k4, fun i o hi hs => k5 i o (h5 i o hi hs) hs⟩
theorem Ext.chgT {a b : World} (h : Ext a b) (Ts : List Nat) : ChgT Ts a b := ⟨h.os, h.tape, h.output, h.size, fun k o hk _ => by
  have hlt : k < a.heap.size := by
    rcases Nat.lt_or_ge k a.heap.size with hl | hl
    · exact hl
    · rw [Array.getElem?_eq_none hl] at hk
      cases hk
  rw [h.block k hlt, hk]⟩
theorem ChgT.keep {Ts : List Nat} {w w' : World} (e : ChgT Ts w w') {k : Nat} {cs : Array Value} {T : TypeId} {fr : Nat × Nat} (h : w.heap[k]? = some (.cells cs T fr)) (hT : Ts.contains (T + 1) = false) : w'.heap[k]? = some (.cells cs T fr) :=
  e.2.2.2.2 k _ h hT
theorem Blk.chgT {Ts : List Nat} {w w' : World} {b : Nat} {T : TypeId} {cs : Array Value} (h : Blk w b T cs) (e : ChgT Ts w w') (hT : Ts.contains (T + 1) = false) : Blk w' b T cs := e.keep h hT
/-- One block has turned, and it was of element type T. -/
theorem Chg.chgT {S : Nat → Prop} {w w' : World} (h : Chg S w w') (T : TypeId) (hS : ∀ (k : Nat) (o : Obj), S k → w.heap[k]? = some o → tag o = T + 1) : ChgT [T + 1] w w' :=
  ⟨h.1, h.2.1, h.2.2.1, h.2.2.2.1, fun k o hk hs => by
    have hlt : k < w.heap.size := by
      rcases Nat.lt_or_ge k w.heap.size with hl | hl
      · exact hl
      · rw [Array.getElem?_eq_none hl] at hk
        cases hk
    rw [h.2.2.2.2 k hlt (fun hk' => by
      have := hS k o hk' hk
      simp [this] at hs), hk]⟩
theorem ChgT.mono {Ts Us : List Nat} {w w' : World} (h : ChgT Ts w w') (hs : ∀ x, Us.contains x = false → Ts.contains x = false) : ChgT Us w w' :=
  ⟨h.1, h.2.1, h.2.2.1, h.2.2.2.1, fun k o hk hn => h.2.2.2.2 k o hk (hs _ hn)⟩

theorem chgT_setCell {w : World} {b : Nat} {T : TypeId} {cs : Array Value} (h : Blk w b T cs) (i : Nat) (u : Value) : ChgT [T + 1] w (w.setCell ⟨b, i, none⟩ u) :=
  (chg_setCell w ⟨b, i, none⟩ u).chgT T (fun k o hk ho => by
    have hk' : k = b := hk
    subst hk'
    unfold Blk at h
    rw [h] at ho
    injection ho with ho
    subst ho
    rfl)

/-- A whole block stored anew, cell by cell. -/
theorem blk_setCells {b : Nat} {T : TypeId} : ∀ (vs pre post : List Value) (old : List Value) (w : World), old.length = vs.length → Blk w b T (pre ++ old ++ post).toArray →
    Blk (w.setCells b pre.length vs) b T (pre ++ vs ++ post).toArray ∧ Chg (· = b) w (w.setCells b pre.length vs)
  | [], pre, post, old, w, ho, h => by
    have : old = [] := List.eq_nil_of_length_eq_zero (by simpa using ho)
    subst this
    exact ⟨h, Chg.refl _ _⟩
  | v :: vs, pre, post, o :: old, w, ho, h => by
    have h1 := h.set_ pre.length v
    have h2 : Blk (w.setCell ⟨b, pre.length, none⟩ v) b T ((pre ++ [v]) ++ old ++ post).toArray := by
      have e : (pre ++ (o :: old) ++ post).toArray.setIfInBounds pre.length v = ((pre ++ [v]) ++ old ++ post).toArray := by simp
      rw [e] at h1
      exact h1
    have h3 := blk_setCells vs (pre ++ [v]) post old (w.setCell ⟨b, pre.length, none⟩ v) (by simpa using ho) h2
    have e2 : (pre ++ [v]).length = pre.length + 1 := by simp
    rw [e2] at h3
    rw [World.setCells]
    refine ⟨?_, (chg_setCell w ⟨b, pre.length, none⟩ v).trans h3.2⟩
    have e3 : pre ++ (v :: vs) ++ post = (pre ++ [v]) ++ vs ++ post := by simp
    rw [e3]
    exact h3.1

theorem blk_store {w : World} {b : Nat} {T : TypeId} {old cs : Array Value} (h : Blk w b T old) (hs : old.size = cs.size) :
    Blk (w.setCells b 0 cs.toList) b T cs ∧ Chg (· = b) w (w.setCells b 0 cs.toList) := by
  have h1 := blk_setCells (b := b) (T := T) cs.toList [] [] old.toList w (by simpa using hs) (by simpa using h)
  simpa using h1

/-- A whole struct or array stored into a block that is known whole. -/
theorem wpList_store_blk {P : Program} {ops : Array Oper} {rest : List Oper} {op : Oper} {a : Act} {w : World} {Q : Exit → Act → World → Prop} (hgd : op.guard = none) (ty : TypeId) (x y : Operand) (ho : op.op = .store ty x y)
    (b : Nat) (T : TypeId) (old cells : Array Value) (hx : a.eval x = .pointer (some ⟨b, 0, none⟩)) (hy : a.eval y = .agg cells)
    (hb : Blk w b T old) (hs : old.size = cells.size) (hi : (P.info? ty).map (·.size) = some cells.size) (h1 : cells.toList.all (·.oneCell') = true)
    (h : ∀ w', Blk w' b T cells → Chg (· = b) w w' → wpList P ops Q rest (a.put op.dst undef) w') : wpList P ops Q (op :: rest) a w := by
  obtain ⟨k1, k2⟩ := blk_store hb hs
  refine wpList_store_mid hgd ty x y ho b 0 cells hx hy (fun j hj => ?_) hi (by simpa using h1) (h _ k1 k2)
  have hc := hb.cell (0 + j)
  rw [hc]
  exact ⟨by simp [hs, hj], hb.thaw _⟩

attribute [irreducible] Ext Blk Chg ChgT

/-- A call that answers a bool of which φ holds, and lets the world grow. -/
def RetB (w : World) (φ : Bool → Prop) (e : Ending) (w' : World) : Prop := ∃ b, e = .returned (.bool b) ∧ φ b ∧ Ext w w'
/-- A call that answers a value of which F holds, and lets the world grow. -/
def RetV (w : World) (F : Value → World → Prop) (e : Ending) (w' : World) : Prop := ∃ v, e = .returned v ∧ F v w' ∧ Ext w w'
/-- A law's end: it returned true. -/
def Yes (w : World) (e : Ending) (w' : World) : Prop := e = .returned (.bool true) ∧ Ext w w'

/-! ### From the walk to the statement -/
section
variable {H : Type} {enc : TypeId × Value → H} {P : Program}

/-- Arguments read in a world that only grew as they read before. -/
theorem trodAll_ext (hl : laidOutB P = true) {W W' : World} {sp : Nat → Bool} (hb : Ext W W') :
    ∀ {ts : List TypeId} {vs : List Value} {ds : List (DataW H)} {ps : List MemPlace}, (∀ t ∈ ts, P.readableRec t = true ∧ t < P.types.size) →
      DataW.TrodAll enc P W 0 (fun _ => true) true ts vs ds ps → (∀ x ∈ ps, x.block < W.heap.size) → (∀ x ∈ ps, sp x.block = true) → DataW.TrodAll enc P W' 0 sp true ts vs ds ps
  | [], _, _, _, _, h, _, _ => by
    obtain ⟨rfl, rfl, rfl⟩ := trodAll_nil h
    exact trodAll_mk0
  | t :: ts, _, _, _, ht, h, hlt, hsp => by
    obtain ⟨v, vs, d, ds, p, q, rfl, rfl, rfl, h1, h2⟩ := trodAll_cons h
    obtain ⟨hr, hrow⟩ := ht t (by simp)
    exact trodAll_cons_mk (WideElems.Trod_stays hl hr hrow h1 (fun x hx => Below.same hb.below (hlt x (by simp [hx]))) (fun x hx => hsp x (by simp [hx])))
      (trodAll_ext hl hb (fun u hu => ht u (by simp [hu])) h2 (fun x hx => hlt x (by simp [hx])) (fun x hx => hsp x (by simp [hx])))

/-- What a law's row asks of the end of a call: it returned true, and old memory is as it was. -/
theorem law_post {f : Func} {s : ChangeSpec} {tb : TypeId} {apart fresh handsOn : Bool} {W W' : World} {args : Array Value} {ds gs : List (DataW H)} {before : List MemPlace}
    (hl : laidOutB P = true) (ht : ∀ t ∈ f.params.toList, P.readableRec t = true ∧ t < P.types.size)
    (hr : f.resultTypes = #[tb]) (hb : P.underlying tb = some .bool) (hvars : s.vars = [])
    (hspec : (s.fn H ds).results = [.lit (.bool true)] ∧ (s.fn H ds).args = ds ∧ (s.fn H ds).vars = [])
    (hW : DataW.Whole enc P f.params.toList s.vars apart W args.toList ds gs before) (he : Ext W W') :
    s.post enc P f apart fresh handsOn false W args (.bool true) W' := by
  have hlt : ∀ p ∈ before, p.block < W.heap.size := fun p hp => hW.lt p hp
  have hold : ∀ p ∈ before, (fun b => decide (b < W.heap.size)) p.block = true := fun p hp => by simpa using hlt p hp
  have hW0 := hW
  obtain ⟨pa, pv, hA, hV, hps, hz, hn⟩ := hW0
  rw [hvars] at hV
  obtain ⟨rfl, rfl⟩ := trodVars_none hV
  have hap : ds ++ ([] : List (DataW H)) = ds := List.append_nil ds
  simp only [List.append_nil] at hps
  subst hps
  refine ⟨ds, [], before, [], before, [], hW, ?_, ?_, ?_, World.keptBut_mono (fun p hp => ⟨hp, Or.inr (by simpa using hp)⟩) (he.below.frame (· ∈ before)), fun h => by cases h⟩
  · rw [hap, hspec.1, hr]
    exact trodAll_cons_mk (shut_bool hb _) trodAll_mk0
  · rw [hap, hspec.2.1]
    exact trodAll_ext hl he ht hA hlt hold
  · rw [hap, hspec.2.2, hvars]
    rfl
end

end Go.Proofs.Ytklhflbjkckhmaa
