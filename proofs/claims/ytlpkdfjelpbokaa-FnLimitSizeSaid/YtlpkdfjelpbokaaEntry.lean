/- Entries of a log: as the law's data, and as the package has them; what entryTo and entriesTo make, and what is read of an entry. -/
import Derived.Test.YtlpkdfjelpbokaaBytes
import Derived.Deep.LoopGhost
namespace Go.Proofs.Ytlpkdfjelpbokaa
open Go.ChangeShapes Go.WideShapes Go.ChangeAt Go.RowKit
set_option linter.unusedSimpArgs false
set_option linter.unusedVariables false

@[ext] structure Entry where
  term : Int
  index : Int
  kind : Int
  data : ByteArray
def entryCells (e : Entry) : List Value := [.int .u64 e.term, .int .u64 e.index, .int .i64 e.kind, .string e.data]
theorem entryCells_len (e : Entry) : (entryCells e).length = 4 := rfl
/-- The entries as the law's data. -/
def EntriesA (w : World) (v : Value) (es : List Entry) : Prop := SliceR w v 4 es.length (es.flatMap entryCells)
theorem EntriesA.ext {w w' : World} {v : Value} {es : List Entry} (h : EntriesA w v es) (e : Ext w w') : EntriesA w' v es := SliceR.ext h e
theorem EntriesA.shape {w : World} {v : Value} {es : List Entry} (h : EntriesA w v es) : ∃ A c, v = .slice A es.length c := by
  obtain ⟨A, c, h1, _⟩ := h
  exact ⟨A, c, h1⟩
/-- The same, in new memory. -/
def EntriesT (w : World) (v : Value) (es : List Entry) : Prop := SliceT w 27 v 4 es.length (es.flatMap entryCells)
theorem EntriesT.chgT {Ts : List Nat} {w w' : World} {v : Value} {es : List Entry} (h : EntriesT w v es) (e : ChgT Ts w w') (hT : Ts.contains (27 + 1) = false) : EntriesT w' v es := SliceT.chgT h e hT
theorem EntriesT.ext {w w' : World} {v : Value} {es : List Entry} (h : EntriesT w v es) (e : Ext w w') : EntriesT w' v es := SliceT.ext h e
theorem EntriesT.old {w : World} {v : Value} {es : List Entry} (h : EntriesT w v es) : EntriesA w v es := SliceT.slice h
theorem EntriesT.shape {w : World} {v : Value} {es : List Entry} (h : EntriesT w v es) : ∃ A c, v = .slice A es.length c := h.old.shape

/-- An entry's kind behind a pointer: none for a normal one. -/
def KindP (w : World) (v : Value) (k : Int) : Prop := (k = 0 ∧ v = .pointer none) ∨ (k ≠ 0 ∧ PtrR w v 64 (.int .i32 (wrap32 k)))
def entryTs : List Nat := [63 + 1, 64 + 1, 25 + 1, 5 + 1]
/-- One entry behind a pointer. -/
def EntryP (w : World) (v : Value) (e : Entry) : Prop :=
  ∃ (b : Nat) (v0 v1 v2 v3 : Value), v = .pointer (some ⟨b, 0, none⟩) ∧ Blk w b 63 #[v0, v1, v2, v3] ∧ PtrR w v0 25 (.int .u64 e.term) ∧ PtrR w v1 25 (.int .u64 e.index) ∧ KindP w v2 e.kind ∧ BytesR w v3 e.data
theorem EntryP.chgT {Ts : List Nat} {w w' : World} {v : Value} {x : Entry} (h : EntryP w v x) (e : ChgT Ts w w') (hT : ∀ x ∈ entryTs, Ts.contains x = false) : EntryP w' v x := by
  obtain ⟨b, v0, v1, v2, v3, h1, h2, h3, h4, h5, h6⟩ := h
  refine ⟨b, v0, v1, v2, v3, h1, h2.chgT e (hT _ (by simp [entryTs])), h3.chgT e (hT _ (by simp [entryTs])), h4.chgT e (hT _ (by simp [entryTs])), ?_, h6.chgT e (hT _ (by simp [entryTs]))⟩
  rcases h5 with h5 | ⟨h5, h7⟩
  · exact .inl h5
  · exact .inr ⟨h5, h7.chgT e (hT _ (by simp [entryTs]))⟩
theorem EntryP.ext {w w' : World} {v : Value} {x : Entry} (h : EntryP w v x) (e : Ext w w') : EntryP w' v x := h.chgT (e.chgT []) (fun _ _ => rfl)
theorem EntryP.shape {w : World} {v : Value} {x : Entry} (h : EntryP w v x) : ∃ b, v = .pointer (some ⟨b, 0, none⟩) := by
  obtain ⟨b, v0, v1, v2, v3, h1, _⟩ := h
  exact ⟨b, h1⟩
/-- Entries behind pointers, in a slice. -/
def EntriesP (w : World) (v : Value) (es : List Entry) : Prop := ∃ vs, SliceT w 50 v 1 es.length vs ∧ All2 (EntryP w) vs es
theorem EntriesP.chgT {Ts : List Nat} {w w' : World} {v : Value} {es : List Entry} (h : EntriesP w v es) (e : ChgT Ts w w') (hT : ∀ x ∈ entryTs, Ts.contains x = false) (h2 : Ts.contains (50 + 1) = false) : EntriesP w' v es := by
  obtain ⟨vs, h3, h4⟩ := h
  exact ⟨vs, h3.chgT e h2, h4.mono fun v x hx => hx.chgT e hT⟩
theorem EntriesP.ext {w w' : World} {v : Value} {es : List Entry} (h : EntriesP w v es) (e : Ext w w') : EntriesP w' v es := h.chgT (e.chgT []) (fun _ _ => rfl) rfl
theorem EntriesP.shape {w : World} {v : Value} {es : List Entry} (h : EntriesP w v es) : ∃ A c, v = .slice A es.length c := by
  obtain ⟨vs, ⟨A, c, h1, _⟩, _⟩ := h
  exact ⟨A, c, h1⟩

/-! ### What is made -/
set_option maxRecDepth 100000 in
set_option maxHeartbeats 1000000 in
theorem entryTo_c (x : Entry) (w : World) (hd : x.data.size ≤ maxLen) : Calls Try.prog 22 #[.agg #[.int .u64 x.term, .int .u64 x.index, .int .i64 x.kind, .string x.data]] w (RetV w fun v w' => EntryP w' v x) := by
  have hB : ∀ y, Blk (((w.alloc (.cells #[.int .u64 x.term, .int .u64 x.index, .int .i64 y, .string x.data] 27)).alloc (.cells #[.int .u64 x.term] 25)).alloc (.cells #[.int .u64 x.index] 25)) (w.heap.size + 1) 25 #[.int .u64 x.term] := fun y => by (repeat (first | exact Blk.new_at (by simp) | refine Blk.alloc ?_ _))
  have hC : ∀ y, Blk (((w.alloc (.cells #[.int .u64 x.term, .int .u64 x.index, .int .i64 y, .string x.data] 27)).alloc (.cells #[.int .u64 x.term] 25)).alloc (.cells #[.int .u64 x.index] 25)) (w.heap.size + 1 + 1) 25 #[.int .u64 x.index] := fun y => by (repeat (first | exact Blk.new_at (by simp) | refine Blk.alloc ?_ _))
  have hE : ∀ y, Ext w (((w.alloc (.cells #[.int .u64 x.term, .int .u64 x.index, .int .i64 y, .string x.data] 27)).alloc (.cells #[.int .u64 x.term] 25)).alloc (.cells #[.int .u64 x.index] 25)) := fun y => (((Ext.refl w).alloc _).alloc _).alloc _
  have hB' := Lib.hid hB
  have hC' := Lib.hid hC
  have hE' := Lib.hid hE
  clear hB hC hE
  by_cases hk : x.kind = 0
  · go_enter Try.func22, Try.ntmps22
    go_wp2_with (go_at_call 27; refine (bytesOf_c _ _ hd).mono ?_; rintro e w1 ⟨v, rfl, hv, he⟩; obtain ⟨A2, c2, e2⟩ := hv.shape; subst e2; obtain ⟨hcell, hfroz⟩ := he.rules; have hsz : w.heap.size < w1.heap.size := (by have := he.size_le; simp at this; omega))
    go_ret
    exact ⟨_, rfl, ⟨w1.heap.size, _, _, _, _, rfl, Blk.new _ _ _, PtrR.mk ((hB'.out _).ext (he.alloc _)), PtrR.mk ((hC'.out _).ext (he.alloc _)), .inl ⟨hk, rfl⟩, hv.ext ((Ext.refl _).alloc _)⟩, (hE'.out _).trans (he.alloc _)⟩
  · go_enter Try.func22, Try.ntmps22
    go_wp2_with (go_at_call 27; refine (bytesOf_c _ _ hd).mono ?_; rintro e w1 ⟨v, rfl, hv, he⟩; obtain ⟨A2, c2, e2⟩ := hv.shape; subst e2; obtain ⟨hcell, hfroz⟩ := he.rules; have hsz : w.heap.size < w1.heap.size := (by have := he.size_le; simp at this; omega))
    go_ret
    have e2 : ∀ o o', Ext w1 ((w1.alloc o).alloc o') := fun _ _ => ((Ext.refl w1).alloc _).alloc _
    refine ⟨_, rfl, ⟨w1.heap.size, _, _, _, _, rfl, (Blk.new _ _ _).alloc _, PtrR.mk ((hB'.out _).ext (he.trans (e2 _ _))), PtrR.mk ((hC'.out _).ext (he.trans (e2 _ _))), .inr ⟨hk, PtrR.mk (Blk.new_at (by simp))⟩, hv.ext (e2 _ _)⟩, (hE'.out _).trans (he.trans (e2 _ _))⟩

theorem info_pentry : (Try.prog.info? 50).map (fun i => (i.zero, i.size, i.bytes)) = some (some (.pointer none), 1, 8) := by kernel_rfl

set_option maxRecDepth 100000 in
set_option maxHeartbeats 1000000 in
theorem entriesTo_c (v : Value) (xs : List Entry) (w : World) (h : EntriesA w v xs) (hn : xs.length ≤ 2147483647) (hd : ∀ x ∈ xs, x.data.size ≤ maxLen) : Calls Try.prog 16 #[v] w (RetV w fun v w' => EntriesP w' v xs) := by
  obtain ⟨A, c, rfl, h1, h2, h3, h4⟩ := h
  have h4' := Lib.hid h4
  have hn' : xs.length ≤ 9223372036854775807 := by omega
  clear h2 h3 h4
  have hd' := Lib.hid hd
  clear hd
  go_enter Try.func16, Try.ntmps16
  go_wp2
  go_loopg [3, 8] xs.length (fun g v i wr => ∃ (k : Nat) (A : Option Addr) (c : Nat) (vs : List Value), g = xs.length - k ∧ k ≤ xs.length ∧ i = .int .i64 k ∧ v = .slice A k c ∧ wr.ownsRow w.heap.size 50 1 (.slice A k c) k vs ∧ All2 (EntryP wr) vs (xs.take k) ∧ Ext w wr)
  case atStart => exact ⟨0, none, 0, [], rfl, Nat.zero_le _, rfl, rfl, World.ownsRow_nil _ _ _ _, All2.nil _, Ext.refl _⟩
  case round =>
    obtain ⟨k, A1, c1, vs, hg, hk, rfl, rfl, hown, hall, he⟩ := hrel
    have hg' := Lib.hid hg
    clear hg
    by_cases hlt : k < xs.length
    · obtain ⟨b, o, rfl, hel⟩ := h4'.out.elem entryCells_len (by omega) hlt
      have hd0 := he.cellE (hel 0 _ rfl)
      have hd1 := he.cellE (hel 1 _ rfl)
      have hd2 := he.cellE (hel 2 _ rfl)
      have hd3 := he.cellE (hel 3 _ rfl)
      simp only [Nat.add_zero] at hd0
      have hel' := Lib.hid hel
      clear hel
      go_wp2_with (first
        | (go_at_call 22; refine (entryTo_c xs[k] _ (hd'.out _ (List.getElem_mem hlt))).mono ?_; rintro e w1 ⟨v, rfl, hv, he1⟩; obtain ⟨bv, rfl⟩ := hv.shape)
        | (at_builtin; refine wpList_append_one w1 rfl _ _ _ rfl w.heap.size 50 (.pointer none) 1 8 Try.underlying39 info_pentry rfl (by omega) (by omega) A1 k c1 vs rfl #[.pointer (some ⟨bv, 0, none⟩)] rfl rfl rfl (ownsRow_ext hown (((Ext.refl wr).alloc _).trans he1)) (by omega) (he.trans (((Ext.refl wr).alloc _).trans he1)).size_le ?_; intro A2 c2 w2 ho hT hE))
      go_roundg (xs.length - (k + 1))
      case rel =>
        have ew := ((Ext.refl wr).alloc (.cells #[.int .u64 xs[k].term, .int .u64 xs[k].index, .int .i64 xs[k].kind, .string xs[k].data] 27)).trans he1
        refine ⟨k + 1, A2, c2, _, rfl, by omega, by go_num, rfl, ho, ?_, hE w (Nat.le_refl _) (he.trans ew)⟩
        rw [List.take_add_one, List.getElem?_eq_getElem hlt]
        exact (hall.mono fun v x hx => (hx.ext ew).chgT hT (by decide)).snoc (hv.chgT hT (by decide))
      case measure =>
        have := hg'.out
        omega
    · go_wp2
      go_ret
      have hkk : k = xs.length := by omega
      subst hkk
      rw [List.take_of_length_le (Nat.le_refl _)] at hall
      exact ⟨_, rfl, ⟨vs, SliceT.of_own hown, hall⟩, he⟩

end Go.Proofs.Ytlpkdfjelpbokaa
