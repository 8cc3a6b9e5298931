/- The law FnFlightsBytes: the walk. -/
import Derived.Test.YtfoffejgpalmpaaFlightsLaw
namespace Go.Proofs.Ytfoffejgpalmpaa
open Go.ChangeShapes Go.WideShapes Go.ChangeAt Go.RowKit
set_option linter.unusedSimpArgs false
set_option linter.unusedVariables false

/-- The flights, the calls that add them, their bytes. -/
def bq (l : List Int) (k : Nat) : List Fl := (List.range k).map fun i => (((i + 1 : Nat) : Int), l.getD i 0)
def bc (l : List Int) (i : Nat) : FCall := ⟨1, ((i + 1 : Nat) : Int), l.getD i 0⟩
def bcs (l : List Int) (k : Nat) : List FCall := (List.range k).map (bc l)
def bs (l : List Int) : Nat → Int
  | 0 => 0
  | k + 1 => bs l k + l.getD k 0
theorem bq_len (l : List Int) (k : Nat) : (bq l k).length = k := by simp [bq]
theorem bcs_len (l : List Int) (k : Nat) : (bcs l k).length = k := by simp [bcs]
theorem bq_succ (l : List Int) (k : Nat) : bq l (k + 1) = bq l k ++ [(((k + 1 : Nat) : Int), l.getD k 0)] := by
  unfold bq
  rw [List.range_succ, List.map_append]
  rfl
theorem bcs_succ (l : List Int) (k : Nat) : bcs l (k + 1) = bcs l k ++ [bc l k] := by
  unfold bcs
  rw [List.range_succ, List.map_append]
  rfl
theorem getD_bd {l : List Int} (h : ∀ x ∈ l, 0 ≤ x ∧ x ≤ 4294967295) (k : Nat) : 0 ≤ l.getD k 0 ∧ l.getD k 0 ≤ 4294967295 := by
  rw [List.getD_eq_getElem?_getD]
  cases hk : l[k]? with
  | none => simp
  | some x => exact h x (List.mem_of_getElem? hk)
theorem bs_bd {l : List Int} (h : ∀ x ∈ l, 0 ≤ x ∧ x ≤ 4294967295) : ∀ k : Nat, 0 ≤ bs l k ∧ bs l k ≤ k * 4294967295
  | 0 => by simp [bs]
  | k + 1 => by
    have := bs_bd h k
    have := getD_bd h k
    rw [bs]
    omega
theorem bq_sum {l : List Int} (h : ∀ x ∈ l, 0 ≤ x ∧ x ≤ 4294967295) : ∀ k : Nat, k ≤ 1000 → sumQ (bq l k) = bs l k
  | 0, _ => rfl
  | k + 1, hk => by
    rw [bq_succ, sumQ_snoc, bq_sum h k (by omega), bs]
    have := bs_bd h (k + 1)
    rw [bs] at this
    exact Int.emod_eq_of_lt this.1 (by omega)
theorem bq_full {l : List Int} (h : ∀ x ∈ l, 0 ≤ x ∧ x ≤ 4294967295) {mx : Int} (hm : mx ≠ 0) {k : Nat} (hk : k ≤ 200) : isFull (bq l k).length (sumQ (bq l k)) 1000 mx = decide (mx ≤ bs l k) := by
  have h1 : (k == 1000) = false := by simp; omega
  have h2 : (mx != 0) = true := by simpa using hm
  rw [isFull, bq_len, bq_sum h k (by omega), h1, h2, Bool.false_or, Bool.true_and]
theorem bq_run {l : List Int} (h : ∀ x ∈ l, 0 ≤ x ∧ x ≤ 4294967295) {mx : Int} (hm : mx ≠ 0) : ∀ (n j : Nat), j + n ≤ 200 → (∀ i, i < j + n → bs l i < mx) →
    flRun 1000 mx (bq l j) ((List.range' j n).map (bc l)) = (List.range' j n).map fun i => saidQ 1000 mx (bq l (i + 1))
  | 0, j, _, _ => rfl
  | n + 1, j, hn, hs => by
    have hf : isFull (bq l j).length (sumQ (bq l j)) 1000 mx = false := by
      rw [bq_full h hm (by omega)]
      have := hs j (by omega)
      exact decide_eq_false (by omega)
    have hst : flStep 1000 mx (bq l j) (bc l j).kind (bc l j).a (bc l j).y = some (bq l (j + 1)) := by
      unfold flStep bc
      rw [if_pos rfl, hf, bq_succ]
      rfl
    rw [List.range'_succ, List.map_cons, List.map_cons, flRun, hst]
    change saidQ 1000 mx (bq l (j + 1)) :: flRun 1000 mx (bq l (j + 1)) _ = _
    rw [bq_run h hm n (j + 1) (by omega) (fun i hi => hs i (by omega))]
theorem bq_all {l : List Int} (h : ∀ x ∈ l, 0 ≤ x ∧ x ≤ 4294967295) {mx : Int} (hm : mx ≠ 0) {k : Nat} (hk : k ≤ 200) (hs : ∀ i, i < k → bs l i < mx) : flRun 1000 mx [] (bcs l k) = (List.range k).map fun i => saidQ 1000 mx (bq l (i + 1)) := by
  have := bq_run h hm k 0 (by omega) (fun i hi => hs i (by omega))
  rw [← List.range_eq_range'] at this
  exact this

set_option maxRecDepth 100000 in
set_option maxHeartbeats 4000000 in
theorem fnFlightsBytes_walk (mx : Int) (hmx : 0 ≤ mx ∧ mx ≤ 18446744073709551615) (v : Value) (l : List Int) (hl : ∀ x ∈ l, 0 ≤ x ∧ x ≤ 4294967295) (w : World) (h : SliceR w v 1 l.length (l.flatMap fun x => [Value.int .u32 x])) : Calls Try.prog 4 #[.int .u64 mx, v] w (Yes w) := by
  obtain ⟨A, c, rfl, h1, h2, h3, h4⟩ := h
  have h4' := Lib.hid h4
  clear h3 h4
  by_cases hbig : (2147483647 : Int) < (l.length : Int)
  · go_enter Try.func4, Try.ntmps4
    go_wp2_with fail
    go_ret
    exact ⟨rfl, Ext.refl _⟩
  by_cases hm : mx = 0
  · subst hm
    go_enter Try.func4, Try.ntmps4
    go_wp2_with fail
    go_ret
    exact ⟨rfl, Ext.refl _⟩
  have hmb : (mx == 0) = false := by simpa using hm
  have hm' := Lib.hid hm
  have hl' := Lib.hid hl
  clear hm hl
  go_enter Try.func4, Try.ntmps4
  go_wp2_with fail
  go_loopg [5, 6, 7] l.length (fun g s5 s6 s7 wr => ∃ (k : Nat) (A' : Option Addr) (c' : Nat) (t : Int), g = l.length - k ∧ k ≤ l.length ∧ k ≤ 200 ∧ s5 = .slice A' k c' ∧ s6 = .int .u64 t ∧ t = bs l k ∧ s7 = .int .i64 k ∧ wr.ownsRow w.heap.size 36 3 (.slice A' k c') k ((bcs l k).flatMap FCall.cells) ∧ (∀ i, i < k → bs l i < mx) ∧ Ext w wr)
  case atStart => exact ⟨0, none, 0, 0, rfl, by omega, by omega, rfl, rfl, rfl, rfl, World.ownsRow_nil _ _ _ _, fun i hi => by omega, Ext.refl _⟩
  case round =>
    obtain ⟨k, A', c', t, hg, hk, hk2, rfl, rfl, ht, rfl, hown, hsm, he⟩ := hrel
    have hg' := Lib.hid hg
    have ht' := Lib.hid ht
    have hown' := Lib.hid hown
    have hsm' := Lib.hid hsm
    clear hg ht hown hsm
    by_cases hgo : k < l.length ∧ k < 200 ∧ t < mx
    · obtain ⟨g1, g2, g3⟩ := hgo
      obtain ⟨bb, o, rfl, hel⟩ := h4'.out.elem (f := fun x => [Value.int .u32 x]) (size := 1) (fun _ => rfl) (by omega) g1
      have hd0 := he.cellE (hel 0 _ rfl)
      have hgd : l.getD k 0 = l[k] := by rw [List.getD_eq_getElem?_getD, List.getElem?_eq_getElem g1]; rfl
      have hxb := getD_bd hl'.out k
      rw [hgd] at hxb
      have hts := bs_bd hl'.out k
      rw [← ht'.out] at hts
      have hgd' := Lib.hid hgd
      generalize l[k] = x at hd0 hxb hgd'
      simp only [Nat.add_zero, Nat.mul_one] at hd0
      have g1I : (k : Int) < (l.length : Int) := by omega
      have g2I : (k : Int) < 200 := by omega
      have w1 : IntKind.u64.wrap x = x := IntWalk.u64_in _ (by omega)
      have w2 : IntKind.u64.wrap ((k : Int) + 1) = (k : Int) + 1 := IntWalk.u64_in _ (by omega)
      have w3 : IntKind.u64.wrap (t + x) = t + x := IntWalk.u64_in _ (by omega)
      clear hel hgd
      go_wp2_with (at_builtin; refine wpList_append_one wr rfl _ _ _ rfl w.heap.size 36 (.agg #[.int .i64 0, .int .u64 0, .int .u64 0]) 3 24 Try.underlying23 info_call rfl (by omega) (by omega) A' k c' _ rfl #[.int .i64 1, .int .u64 ((k : Int) + 1), .int .u64 x] rfl rfl rfl hown'.out (by omega) he.size_le ?_; intro A2 c2 w2 ho hT hE)
      go_roundg (l.length - (k + 1))
      case rel =>
        refine ⟨k + 1, A2, c2, t + x, rfl, by omega, by omega, rfl, rfl, by rw [bs, hgd'.out, ht'.out], by go_num, ?_, ?_, hE w (Nat.le_refl _) he⟩
        · rw [bcs_succ, List.flatMap_append]
          simp only [List.flatMap_cons, List.flatMap_nil, List.append_nil, bc, FCall.cells, hgd'.out]
          exact ho
        · intro i hi
          by_cases hik : i = k
          · rw [hik, ← ht'.out]
            exact g3
          · exact hsm'.out i (by omega)
      case measure =>
        have := hg'.out
        omega
    · have hmx0 := hm'.out
      have hxs := bq_all hl'.out hm'.out hk2 hsm'.out
      have QI : Calls Try.prog 8 #[.int .i64 1000, .int .u64 mx, .slice A' k c'] wr fun e w' => ∃ A2 c2, e = .returned (.slice A2 k c2) ∧
          RowR w' A2 (((List.range k).map fun i => saidQ 1000 mx (bq l (i + 1))).flatMap FAns.cells) ∧ Ext wr w' := by
        have := Flights_c A' c' 1000 mx (bcs l k) wr (RowR.of_own hown'.out) (by rw [bcs_len]; omega) (by omega) (by rw [bcs_len]; exact ownsRow_le hown'.out)
        rw [bcs_len, hxs] at this
        refine this.mono ?_
        rintro e w' ⟨A2, c2, rfl, ho, he⟩
        rw [List.length_map, List.length_range] at ho ⊢
        exact ⟨A2, c2, rfl, RowR.of_own ho, he⟩
      have hQI := Lib.hid QI
      have hrow := Lib.hid (RowR.of_own hown'.out)
      clear hmx0 hxs QI
      have h3 : (((l.length : Nat) : Int) ≤ (k : Int)) ∨ (((k : Int) < (l.length : Int)) ∧ ((200 : Int) ≤ (k : Int))) ∨ (((k : Int) < (l.length : Int)) ∧ ((k : Int) < (200 : Int)) ∧ mx ≤ t) := by omega
      clear hgo
      rcases h3 with g1 | ⟨g1, g2⟩ | ⟨g1, g2, g3⟩
      all_goals
        go_wp2_with (go_at_call 8; refine hQI.out.mono ?_; rintro e w2 ⟨A2, c2, rfl, ho2, he2⟩; have ho2' := Lib.hid ho2; clear ho2)
        go_loopg [9, 60] k (fun g s9 s60 wr2 => ∃ (i : Nat) (t2 : Int), g = k - i ∧ i ≤ k ∧ s9 = .int .u64 t2 ∧ t2 = bs l i ∧ s60 = .int .i64 i ∧ wr2 = w2)
        case atStart => exact ⟨0, 0, rfl, by omega, rfl, rfl, rfl, rfl⟩
        case round =>
          obtain ⟨i, t2, hg2, hik, rfl, ht2, rfl, rfl⟩ := hrel
          have hg2' := Lib.hid hg2
          have ht2' := Lib.hid ht2
          clear hg2 ht2
          by_cases hlt : i < k
          · obtain ⟨b1, o1, hA1, hel⟩ := hrow.out.elem FCall.cells_len (by omega) (show i < (bcs l k).length by rw [bcs_len]; exact hlt)
            subst hA1
            obtain ⟨b2, o2, hA2, hel2⟩ := ho2'.out.elem FAns.cells_len (by omega) (show i < ((List.range k).map fun i => saidQ 1000 mx (bq l (i + 1))).length by rw [List.length_map, List.length_range]; exact hlt)
            subst hA2
            have e1 : (bcs l k)[i]'(by rw [bcs_len]; exact hlt) = bc l i := by simp [bcs]
            have e2 : ((List.range k).map fun i => saidQ 1000 mx (bq l (i + 1)))[i]'(by rw [List.length_map, List.length_range]; exact hlt) = saidQ 1000 mx (bq l (i + 1)) := by simp
            rw [e1] at hel
            rw [e2] at hel2
            have d2 := he2.cellE (hel 2 _ rfl)
            have a0 := hel2 0 _ rfl
            have a1 := hel2 1 _ rfl
            have a2 := hel2 2 _ rfl
            simp only [bc, saidQ] at d2 a0 a1 a2
            rw [bq_full hl'.out hm'.out (by omega)] at a1
            rw [bq_len] at a0
            have hxb := getD_bd hl'.out i
            have hts := bs_bd hl'.out i
            have hb1 : bs l (i + 1) = t2 + l.getD i 0 := by rw [bs, ht2'.out]
            rw [← ht2'.out] at hts
            rw [hb1] at a1
            have hb1' := Lib.hid hb1
            generalize l.getD i 0 = x at d2 a1 hxb hb1'
            simp only [Nat.add_zero] at a0
            have hiI : (i : Int) < (k : Int) := by omega
            have w3 : IntKind.u64.wrap (t2 + x) = t2 + x := IntWalk.u64_in _ (by omega)
            have hcast : ((i + 1 : Nat) : Int) = (i : Int) + 1 := by omega
            rw [hcast] at a0
            clear hel hel2 e1 e2 hb1 hcast
            go_wp2
            go_roundg (k - (i + 1))
            case rel => exact ⟨i + 1, t2 + x, rfl, by omega, rfl, hb1'.out.symm, by go_num, rfl⟩
            case measure =>
              have := hg2'.out
              omega
          · have hki : (k : Int) ≤ (i : Int) := by omega
            go_wp2
            go_ret
            exact ⟨rfl, he.trans he2⟩

end Go.Proofs.Ytfoffejgpalmpaa
