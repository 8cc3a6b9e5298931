/- Flights: a list of calls on an Inflights. -/
import Derived.Test.YtfoffejgpalmpaaFlightCall
import Derived.Test.YtfoffejgpalmpaaAppend
namespace Go.Proofs.Ytfoffejgpalmpaa
open Go.ChangeShapes Go.WideShapes Go.ChangeAt Go.RowKit
set_option linter.unusedSimpArgs false
set_option linter.unusedVariables false

structure FCall where
  kind : Int
  a : Int
  y : Int
def FCall.cells (c : FCall) : List Value := [.int .i64 c.kind, .int .u64 c.a, .int .u64 c.y]
theorem FCall.cells_len (c : FCall) : c.cells.length = 3 := rfl
structure FAns where
  ct : Int
  full : Bool
  pan : Bool
def FAns.cells (x : FAns) : List Value := [.int .i64 x.ct, .bool x.full, .bool x.pan]
theorem FAns.cells_len (c : FAns) : c.cells.length = 3 := rfl
/-- What the queue says. -/
def saidQ (sz : Nat) (mx : Int) (q : List Fl) : FAns := ⟨q.length, isFull q.length (sumQ q) sz mx, false⟩
/-- What a list of calls answers. -/
def flRun (sz : Nat) (mx : Int) : List Fl → List FCall → List FAns
  | _, [] => []
  | q, c :: cs => match flStep sz mx q c.kind c.a c.y with
    | some q' => saidQ sz mx q' :: flRun sz mx q' cs
    | none => [⟨0, false, true⟩]

theorem InR.chgT {base b sz : Nat} {mx : Int} {q : List Fl} {Ts : List Nat} {w w' : World} (h : InR base w b sz mx q) (e : ChgT Ts w w') (h1 : Ts.contains (79 + 1) = false) (h2 : Ts.contains (83 + 1) = false) : InR base w' b sz mx q := by
  obtain ⟨st, v, r, k1, k2, k3, k4⟩ := h
  refine ⟨st, v, r, Blk.chgT k1 e h1, ?_, k3, k4⟩
  rcases k2 with h | ⟨g, e1, e2, e3⟩
  · exact .inl h
  · exact .inr ⟨g, e1, Blk.chgT e2 e h2, e3⟩
theorem info_ans : (Try.prog.info? 38).map (fun i => (i.zero, i.size, i.bytes)) = some (some (.agg #[.int .i64 0, .bool false, .bool false]), 3, 16) := by kernel_rfl
theorem drop_cons {α : Type} {l : List α} {k : Nat} {x : α} (hk : k < l.length) (hx : l[k] = x) : l.drop k = x :: l.drop (k + 1) := by
  rw [List.drop_eq_getElem_cons hk, hx]

set_option maxRecDepth 100000 in
set_option maxHeartbeats 2000000 in
theorem Flights_c (A : Option Addr) (c sz : Nat) (mx : Int) (cs : List FCall) (w : World) (h : RowR w A (cs.flatMap FCall.cells)) (hn : cs.length ≤ 1000000) (hsz : sz ≤ 1000000) (hc : cs.length ≤ c) :
    Calls Try.prog 8 #[.int .i64 sz, .int .u64 mx, .slice A cs.length c] w fun e w' => ∃ A' c', e = .returned (.slice A' (flRun sz mx [] cs).length c') ∧
      w'.ownsRow w.heap.size 38 3 (.slice A' (flRun sz mx [] cs).length c') (flRun sz mx [] cs).length ((flRun sz mx [] cs).flatMap FAns.cells) ∧ Ext w w' := by
  have h' := Lib.hid h
  clear h
  go_enter Try.func8, Try.ntmps8
  go_wp2_with (go_at_call 16; refine (newQ_c sz mx w).mono ?_; rintro e w1 ⟨b, rfl, hI, he1⟩; have hI' := Lib.hid hI; clear hI)
  go_loopg [8, 17] cs.length (fun g v i wr => ∃ (k : Nat) (q : List Fl) (outs : List FAns) (A' : Option Addr) (c' : Nat), g = cs.length - k ∧ (k ≤ cs.length ∧ outs.length = k) ∧ i = .int .i64 k ∧ v = .slice A' k c' ∧
    wr.ownsRow w.heap.size 38 3 (.slice A' k c') k (outs.flatMap FAns.cells) ∧ InR w.heap.size wr b sz mx q ∧ flRun sz mx [] cs = outs ++ flRun sz mx q (cs.drop k) ∧ Ext w wr)
  case atStart => exact ⟨0, [], [], none, 0, rfl, ⟨Nat.zero_le _, rfl⟩, rfl, rfl, World.ownsRow_nil _ _ _ _, hI'.out, by simp, he1⟩
  case round =>
    obtain ⟨k, q, outs, A1, c1, hg, ⟨hk, hol⟩, rfl, rfl, hown, hI, hrun, he⟩ := hrel
    have hg' := Lib.hid hg
    have hown' := Lib.hid hown
    have hI2 := Lib.hid hI
    have hrun' := Lib.hid hrun
    have hol' := Lib.hid hol
    clear hg hown hI hrun hol
    by_cases hlt : k < cs.length
    · obtain ⟨bb, o, rfl, hel⟩ := h'.out.elem FCall.cells_len (by omega) hlt
      have hd := Lib.hid (drop_cons hlt rfl)
      generalize cs[k] = x at hel hd
      have hd0 := he.cellE (hel 0 _ rfl)
      have hd1 := he.cellE (hel 1 _ rfl)
      have hd2 := he.cellE (hel 2 _ rfl)
      simp only [Nat.add_zero] at hd0
      have hltI : (k : Int) < (cs.length : Int) := by omega
      have ea := (Ext.refl wr).alloc (.cells #[.int .i64 x.kind, .int .u64 x.a, .int .u64 x.y] 36)
      have Q := flight_c w.heap.size b sz mx q x.kind x.a x.y (wr.alloc (.cells #[.int .i64 x.kind, .int .u64 x.a, .int .u64 x.y] 36)) (hI2.out.ext ea) hsz (he.trans ea).size_le
      have Q' := Lib.hid Q
      have ea' := Lib.hid ea
      have hnb : ∀ w2 : World, (wr.alloc (.cells #[.int .i64 x.kind, .int .u64 x.a, .int .u64 x.y] 36)).heap.size ≤ w2.heap.size → ¬ A1.map (·.block) = some w2.heap.size := fun w2 h2 hj => by
        have := (own_lt hown'.out hj).2
        rw [size_alloc] at h2
        omega
      clear hel Q ea
      cases hs : flStep sz mx q x.kind x.a x.y with
      | some q' =>
        have hs' := Lib.hid hs
        clear hs
        go_wp2_with (first
          | (go_at_call 17; refine Q'.out.mono ?_; rintro e w2 ⟨hC, hE⟩; rw [hs'.out] at hE; obtain ⟨rfl, hI3⟩ := hE; have hC' := Lib.hid hC; have hI3' := Lib.hid hI3; clear hC hI3; unfold faCells)
          | (at_builtin; refine wpList_append_keep (w2.alloc (.cells #[.int .i64 q'.length, .bool (isFull q'.length (sumQ q') sz mx), .bool false] 38)) rfl _ _ _ rfl w.heap.size 38 _ 3 16 Try.underlying25 info_ans rfl (by omega) (by omega) A1 k c1 _ rfl #[.int .i64 q'.length, .bool (isFull q'.length (sumQ q') sz mx), .bool false] rfl rfl (by rw [size_alloc]; rfl) (ownsRow_ext (ownsRow_chgT (ownsRow_ext hown'.out ea'.out) hC'.out.1 (by decide)) ((Ext.refl _).alloc _)) (by omega) (hC'.out.2 w (Nat.le_refl _) (he.trans ea'.out) |>.alloc _).size_le ?_; intro A2 c2 w4 ho hT hE hK; have a2 := (Blk.chg ((Blk.new w2 38 #[.int .i64 q'.length, .bool (isFull q'.length (sumQ q') sz mx), .bool false])) hK (fun hj => hnb w2 hC'.out.1.size_le hj)).cell 2; simp only [List.getElem?_toArray, List.getElem?_cons_zero, List.getElem?_cons_succ] at a2; have ho' := Lib.hid ho; have hT' := Lib.hid hT; have hE' := Lib.hid hE; have hK' := Lib.hid hK; clear ho hT hE hK))
        have e5 : Ext w w2 := hC'.out.2 w (Nat.le_refl _) (he.trans ea'.out)
        have hI5 := (hI3'.out.ext ((Ext.refl w2).alloc (.cells #[.int .i64 q'.length, .bool (isFull q'.length (sumQ q') sz mx), .bool false] 38))).chgT hT'.out (by decide) (by decide)
        have hE5 := hE'.out w (Nat.le_refl _) (e5.alloc _)
        go_roundg (cs.length - (k + 1))
        case rel =>
          refine ⟨k + 1, q', outs ++ [saidQ sz mx q'], A2, c2, rfl, ⟨by omega, by simp [hol'.out]⟩, by go_num, rfl, ?_, hI5, ?_, hE5⟩
          · rw [List.flatMap_append]
            exact ho'.out
          · rw [hrun'.out, hd.out, flRun, hs'.out, List.append_assoc]
            rfl
        case measure =>
          have := hg'.out
          omega
      | none =>
        have hs' := Lib.hid hs
        clear hs
        go_wp2_with (first
          | (go_at_call 17; refine Q'.out.mono ?_; rintro e w2 ⟨hC, hE⟩; rw [hs'.out] at hE; subst hE; have hC' := Lib.hid hC; clear hC; unfold faCells)
          | (at_builtin; refine wpList_append_keep (w2.alloc (.cells #[.int .i64 0, .bool false, .bool true] 38)) rfl _ _ _ rfl w.heap.size 38 _ 3 16 Try.underlying25 info_ans rfl (by omega) (by omega) A1 k c1 _ rfl #[.int .i64 0, .bool false, .bool true] rfl rfl (by rw [size_alloc]; rfl) (ownsRow_ext (ownsRow_chgT (ownsRow_ext hown'.out ea'.out) hC'.out.1 (by decide)) ((Ext.refl _).alloc _)) (by omega) (hC'.out.2 w (Nat.le_refl _) (he.trans ea'.out) |>.alloc _).size_le ?_; intro A2 c2 w4 ho hT hE hK; have a2 := (Blk.chg ((Blk.new w2 38 #[.int .i64 0, .bool false, .bool true])) hK (fun hj => hnb w2 hC'.out.1.size_le hj)).cell 2; simp only [List.getElem?_toArray, List.getElem?_cons_zero, List.getElem?_cons_succ] at a2; have ho' := Lib.hid ho; have hT' := Lib.hid hT; have hE' := Lib.hid hE; have hK' := Lib.hid hK; clear ho hT hE hK))
        go_ret
        have e5 : Ext w w2 := hC'.out.2 w (Nat.le_refl _) (he.trans ea'.out)
        have hr := hrun'.out
        rw [hd.out, flRun, hs'.out] at hr
        have hl : (flRun sz mx [] cs).length = k + 1 := by rw [hr]; simp [hol'.out]
        rw [hl]
        refine ⟨A2, c2, rfl, ?_, hE'.out w (Nat.le_refl _) (e5.alloc _)⟩
        rw [hr, List.flatMap_append]
        exact ho'.out
    · go_wp2
      go_ret
      have hkk : k = cs.length := by omega
      have hr := hrun'.out
      rw [List.drop_of_length_le (by omega), flRun, List.append_nil] at hr
      rw [hr, hol'.out]
      exact ⟨A1, c1, rfl, hown'.out, he⟩

end Go.Proofs.Ytfoffejgpalmpaa
