/- The ring of an Inflights: its buffer, and how it grows. -/
import Derived.Test.YtfoffejgpalmpaaFlight
import Derived.Test.YtfoffejgpalmpaaCopy
import Derived.OwnWalk
namespace Go.Proofs.Ytfoffejgpalmpaa
open Go.ChangeShapes Go.WideShapes Go.ChangeAt Go.RowKit
set_option linter.unusedSimpArgs false
set_option linter.unusedVariables false

/-- A flight: index and bytes. -/
abbrev Fl := Int × Int
def flCells (x : Fl) : List Value := [.int .u64 x.1, .int .u64 x.2]
theorem flCells_len (x : Fl) : (flCells x).length = 2 := rfl
theorem fl_one (xs : List Fl) : ∀ u ∈ xs.flatMap flCells, u.oneCell' = true := by
  intro u hu
  obtain ⟨x, _, hx⟩ := List.mem_flatMap.1 hu
  simp only [flCells, List.mem_cons, List.not_mem_nil, or_false] at hx
  rcases hx with rfl | rfl <;> rfl
/-- The buffer holds the flights r, in a block of its own. -/
def BufR (w : World) (base : Nat) (v : Value) (r : List Fl) : Prop :=
  (r = [] ∧ v = .slice none 0 0) ∨ ∃ g, v = .slice (some ⟨g, 0, none⟩) r.length r.length ∧ Blk w g 83 (r.flatMap flCells).toArray ∧ base ≤ g
theorem BufR.row {w : World} {base : Nat} {v : Value} {r : List Fl} (h : BufR w base v r) : ∃ A, v = .slice A r.length r.length ∧ RowR w A (r.flatMap flCells) := by
  rcases h with ⟨rfl, rfl⟩ | ⟨g, rfl, hb, _⟩
  · exact ⟨none, rfl, RowR.nil _ _⟩
  · refine ⟨_, rfl, ?_⟩
    have := RowR.of_blk hb
    simpa using this
theorem info_fl : (Try.prog.info? 83).map (fun i => (i.zero, i.size, i.bytes)) = some (some (.agg #[.int .u64 0, .int .u64 0]), 2, 16) := by kernel_rfl
theorem info_fl2 : (Try.prog.info? 83).map (·.size) = some 2 := by kernel_rfl
/-- The cells of n empty flights. -/
theorem made_fl (n : Nat) : (madeCells (Value.agg #[.int .u64 0, .int .u64 0]).cells (n * 2)).toList = (List.replicate n ((0, 0) : Fl)).flatMap flCells := by
  have h1 : (madeCells (Value.agg #[.int .u64 0, .int .u64 0]).cells (n * 2)).toList = List.replicate (n * 2) (.int .u64 0) := by
    rw [List.eq_replicate_iff]
    refine ⟨by simp [madeCells], fun b hb => ?_⟩
    simp only [madeCells, Array.toList_map, List.mem_map] at hb
    obtain ⟨j, _, rfl⟩ := hb
    have : j % 2 = 0 ∨ j % 2 = 1 := by omega
    rcases this with h | h <;> simp [Value.cells, h]
  have h2 : (List.replicate n ((0, 0) : Fl)).flatMap flCells = List.replicate (n * 2) (.int .u64 0) := by
    rw [List.eq_replicate_iff]
    refine ⟨by rw [flat_length flCells_len, List.length_replicate], fun b hb => ?_⟩
    obtain ⟨x, hx, hb⟩ := List.mem_flatMap.1 hb
    obtain ⟨_, rfl⟩ := List.mem_replicate.1 hx
    simpa [flCells] using hb
  rw [h1, h2]

/-- The new length of a buffer that is full. -/
def newLen (len sz : Nat) : Nat := if len = 0 then 1 else if sz < len * 2 then sz else len * 2

theorem blk_of_own {w : World} {base : Nat} {e : TypeId} {size n g : Nat} {xs : List Value} (h : w.ownsRow base e size (.slice (some ⟨g, 0, none⟩) n n) n xs) : Blk w g e xs.toArray ∧ base ≤ g := by
  obtain ⟨h1, h2⟩ := h
  rcases h2 with ⟨h2, _⟩ | ⟨g', cap, cur, hv, h3, h4, h5, h6, h7, h8⟩
  · cases h2
  · injection hv with e1 e2 e3
    injection e1 with e1
    injection e1 with e1 _ _
    subst e1 e3
    refine ⟨?_, h3⟩
    rw [List.take_of_length_le (by simp [h7])] at h8
    unfold Blk
    rw [h4, ← h8]

set_option maxRecDepth 100000 in
set_option maxHeartbeats 1000000 in
theorem inGrow_c (base b st ct : Nat) (by_ : Int) (sz : Nat) (mx : Int) (v : Value) (r : List Fl) (w : World) (h : InB w b st ct by_ sz mx v) (hr : BufR w base v r) (hsz : sz ≤ 1000000) (hlen : r.length ≤ sz) (hszp : 0 < sz) (hb0 : base ≤ w.heap.size) :
    Calls Try.prog 39 #[.pointer (some ⟨b, 0, none⟩)] w fun e w' => e = .returned (.tuple #[]) ∧
      (∃ v', InB w' b st ct by_ sz mx v' ∧ BufR w' base v' (r ++ List.replicate (newLen r.length sz - r.length) (0, 0))) ∧ Chg (· = b) w w' := by
  have c3 := Blk.cell h 3
  have c5 := Blk.cell h 5
  have f5 := Blk.thaw h 5
  simp [inCells] at c3 c5
  obtain ⟨A, rfl, hrow⟩ := hr.row
  have h' := Lib.hid h
  have hrow' := Lib.hid hrow
  obtain ⟨i0, hi, hz0, hz1, hz2⟩ := info_parts info_fl
  have hbl := h.lt
  have hz0' := Lib.hid hz0
  have hz1' := Lib.hid hz1
  have hz2' := Lib.hid hz2
  have hi' := Lib.hid hi
  have hszp' := Lib.hid hszp
  have hszp' := Lib.hid hszp
  clear h hr hrow hz0 hz1 hz2 hi
  by_cases h0 : r.length = 0
  · have hnl : newLen r.length sz = 1 := by rw [newLen, if_pos h0]
    have hnl' := Lib.hid hnl
    have hsplit : List.replicate (1) ((0, 0) : Fl) = List.replicate r.length (0, 0) ++ List.replicate (1 - r.length) (0, 0) := by
      rw [List.replicate_append_replicate]
      congr 1
      omega
    have hsplit' := Lib.hid hsplit
    clear hnl hsplit
    have hszp := hszp'.out
    have h0b : (((r.length : Int) * 2) == 0) = true := by
      rw [beq_iff_eq]
      omega
    have h0' := Lib.hid h0
    clear h0
    go_enter Try.func39, Try.ntmps39
    go_wp2_with (first
      | (at_make; refine wpList_make_full _ rfl _ _ _ rfl base 83 i0 _ 2 Try.underlying77 hi'.out hz0'.out hz1'.out .i64 .i64 _ _ (1) rfl rfl (by first | rfl | omega) (by first | rfl | omega) (by rw [hz2'.out]; omega) (by unfold maxLen; omega) hb0 ?_; intro w1 ho hg; have hE1 : Ext w w1 := (Ext.refl w).grown hg (fun k hk => by cases hk); obtain ⟨hB1, hgb⟩ := blk_of_own ho; rw [made_fl, hsplit'.out, List.flatMap_append] at hB1; have c5' := hE1.cellE c5; clear ho hg)
      | (refine wpList_copy_wide rfl _ _ _ _ rfl 83 2 Try.underlying77 info_fl2 (by omega) w.heap.size (1) (1) A r.length r.length rfl rfl (by first | omega | (have := h0'.out; omega)) 83 (r.flatMap flCells) _ _ hB1 (by rw [flat_length flCells_len, flat_length flCells_len, List.length_replicate]) (flat_length flCells_len r) (hrow'.out.ext hE1) (fl_one r) ?_; intro w2 hB2 hC2; have hin2 := Blk.chg (Blk.ext h'.out hE1) hC2 (show ¬ b = w.heap.size by omega); have c5a := hin2.cell 5; simp [inCells] at c5a; have f5a := hin2.thaw 5))
    go_end0
    have hE2 := hE1.chg_new hC2 (fun k hk => by omega)
    refine ⟨rfl, ⟨_, hin2.set_ 5 _, .inr ⟨w.heap.size, ?_, ?_, hgb⟩⟩, hE2.chg.trans (chg_setCell _ ⟨b, 5, none⟩ _)⟩
    · rw [hnl'.out, List.length_append, List.length_replicate, show r.length + ((1) - r.length) = 1 by first | omega | (have := h0'.out; omega)]
    · rw [hnl'.out, List.flatMap_append]
      exact hB2.far (show w.heap.size ≠ b by omega) _
  · have h0b : (((r.length : Int) * 2) == 0) = false := by
      rw [beq_eq_false_iff_ne]
      omega
    by_cases h2 : sz < r.length * 2
    · have hnl : newLen r.length sz = sz := by rw [newLen, if_neg h0, if_pos h2]
      have hnl' := Lib.hid hnl
      have hsplit : List.replicate (sz) ((0, 0) : Fl) = List.replicate r.length (0, 0) ++ List.replicate (sz - r.length) (0, 0) := by
        rw [List.replicate_append_replicate]
        congr 1
        omega
      have hsplit' := Lib.hid hsplit
      clear hnl hsplit
      have h2b : (sz : Int) < (r.length : Int) * 2 := by omega
      go_enter Try.func39, Try.ntmps39
      go_wp2_with (first
        | (at_make; refine wpList_make_full _ rfl _ _ _ rfl base 83 i0 _ 2 Try.underlying77 hi'.out hz0'.out hz1'.out .i64 .i64 _ _ (sz) rfl rfl (by first | rfl | omega) (by first | rfl | omega) (by rw [hz2'.out]; omega) (by unfold maxLen; omega) hb0 ?_; intro w1 ho hg; have hE1 : Ext w w1 := (Ext.refl w).grown hg (fun k hk => by cases hk); obtain ⟨hB1, hgb⟩ := blk_of_own ho; rw [made_fl, hsplit'.out, List.flatMap_append] at hB1; have c5' := hE1.cellE c5; clear ho hg)
        | (refine wpList_copy_wide rfl _ _ _ _ rfl 83 2 Try.underlying77 info_fl2 (by omega) w.heap.size (sz) (sz) A r.length r.length rfl rfl (by first | omega | (have := h0'.out; omega)) 83 (r.flatMap flCells) _ _ hB1 (by rw [flat_length flCells_len, flat_length flCells_len, List.length_replicate]) (flat_length flCells_len r) (hrow'.out.ext hE1) (fl_one r) ?_; intro w2 hB2 hC2; have hin2 := Blk.chg (Blk.ext h'.out hE1) hC2 (show ¬ b = w.heap.size by omega); have c5a := hin2.cell 5; simp [inCells] at c5a; have f5a := hin2.thaw 5))
      go_end0
      have hE2 := hE1.chg_new hC2 (fun k hk => by omega)
      refine ⟨rfl, ⟨_, hin2.set_ 5 _, .inr ⟨w.heap.size, ?_, ?_, hgb⟩⟩, hE2.chg.trans (chg_setCell _ ⟨b, 5, none⟩ _)⟩
      · rw [hnl'.out, List.length_append, List.length_replicate, show r.length + ((sz) - r.length) = sz by first | omega | (have := h0'.out; omega)]
      · rw [hnl'.out, List.flatMap_append]
        exact hB2.far (show w.heap.size ≠ b by omega) _
    · have hnl : newLen r.length sz = r.length * 2 := by rw [newLen, if_neg h0, if_neg h2]
      have hnl' := Lib.hid hnl
      have hsplit : List.replicate (r.length * 2) ((0, 0) : Fl) = List.replicate r.length (0, 0) ++ List.replicate (r.length * 2 - r.length) (0, 0) := by
        rw [List.replicate_append_replicate]
        congr 1
        omega
      have hsplit' := Lib.hid hsplit
      clear hnl hsplit
      have h2b : (r.length : Int) * 2 ≤ (sz : Int) := by omega
      go_enter Try.func39, Try.ntmps39
      go_wp2_with (first
        | (at_make; refine wpList_make_full _ rfl _ _ _ rfl base 83 i0 _ 2 Try.underlying77 hi'.out hz0'.out hz1'.out .i64 .i64 _ _ (r.length * 2) rfl rfl (by first | rfl | omega) (by first | rfl | omega) (by rw [hz2'.out]; omega) (by unfold maxLen; omega) hb0 ?_; intro w1 ho hg; have hE1 : Ext w w1 := (Ext.refl w).grown hg (fun k hk => by cases hk); obtain ⟨hB1, hgb⟩ := blk_of_own ho; rw [made_fl, hsplit'.out, List.flatMap_append] at hB1; have c5' := hE1.cellE c5; clear ho hg)
        | (refine wpList_copy_wide rfl _ _ _ _ rfl 83 2 Try.underlying77 info_fl2 (by omega) w.heap.size (r.length * 2) (r.length * 2) A r.length r.length rfl rfl (by first | omega | (have := h0'.out; omega)) 83 (r.flatMap flCells) _ _ hB1 (by rw [flat_length flCells_len, flat_length flCells_len, List.length_replicate]) (flat_length flCells_len r) (hrow'.out.ext hE1) (fl_one r) ?_; intro w2 hB2 hC2; have hin2 := Blk.chg (Blk.ext h'.out hE1) hC2 (show ¬ b = w.heap.size by omega); have c5a := hin2.cell 5; simp [inCells] at c5a; have f5a := hin2.thaw 5))
      go_end0
      have hE2 := hE1.chg_new hC2 (fun k hk => by omega)
      refine ⟨rfl, ⟨_, hin2.set_ 5 _, .inr ⟨w.heap.size, ?_, ?_, hgb⟩⟩, hE2.chg.trans (chg_setCell _ ⟨b, 5, none⟩ _)⟩
      · rw [hnl'.out, List.length_append, List.length_replicate, show r.length + ((r.length * 2) - r.length) = r.length * 2 by first | omega | (have := h0'.out; omega)]
      · rw [hnl'.out, List.flatMap_append]
        exact hB2.far (show w.heap.size ≠ b by omega) _

end Go.Proofs.Ytfoffejgpalmpaa
