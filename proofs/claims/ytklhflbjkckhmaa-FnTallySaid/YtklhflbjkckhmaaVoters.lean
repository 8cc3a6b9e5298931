/- Sets of IDs and ballots as maps: voters, ballots. -/
import Derived.Test.YtklhflbjkckhmaaMap
import Derived.Test.YtklhflbjkckhmaaNums
import Derived.Deep.LoopGhost
namespace Go.Proofs.Ytklhflbjkckhmaa
open Go.ChangeShapes Go.WideShapes Go.ChangeAt Go.RowKit
set_option linter.unusedSimpArgs false
set_option linter.unusedVariables false

/-- l has the IDs of ids, each once, rising. -/
def IsSet (l ids : List Int) : Prop := l.Pairwise (· < ·) ∧ ∀ k, k ∈ l ↔ k ∈ ids
theorem rising_eq : ∀ {a b : List Int}, a.Pairwise (· < ·) → b.Pairwise (· < ·) → (∀ k, k ∈ a ↔ k ∈ b) → a = b
  | [], [], _, _, _ => rfl
  | [], y :: b, _, _, h => by have := (h y).2 (by simp); simp at this
  | x :: a, [], _, _, h => by have := (h x).1 (by simp); simp at this
  | x :: a, y :: b, ha, hb, h => by
    obtain ⟨a1, a2⟩ := List.pairwise_cons.1 ha
    obtain ⟨b1, b2⟩ := List.pairwise_cons.1 hb
    have hxy : x = y := by
      have h1 := (h x).1 (by simp)
      have h2 := (h y).2 (by simp)
      rcases List.mem_cons.1 h1 with e | e
      · exact e
      · rcases List.mem_cons.1 h2 with e2 | e2
        · exact e2.symm
        · have := b1 x e
          have := a1 y e2
          omega
    subst hxy
    congr 1
    refine rising_eq a2 b2 (fun k => ⟨fun hk => ?_, fun hk => ?_⟩)
    · have h1 := (h k).1 (by simp [hk])
      rcases List.mem_cons.1 h1 with e | e
      · have := a1 k hk
        omega
      · exact e
    · have h1 := (h k).2 (by simp [hk])
      rcases List.mem_cons.1 h1 with e | e
      · have := b1 k hk
        omega
      · exact e
theorem IsSet.eq {a b ids : List Int} (ha : IsSet a ids) (hb : IsSet b ids) : a = b := rising_eq ha.1 hb.1 (fun k => (ha.2 k).trans (hb.2 k).symm)
theorem IsSet.nodup {a ids : List Int} (ha : IsSet a ids) : a.Nodup := ha.1.imp (fun {a b} (h : a < b) => by omega)
theorem IsSet.len {a ids : List Int} (ha : IsSet a ids) : a.length ≤ ids.length := nodup_len _ _ ha.nodup (fun x hx => (ha.2 x).1 hx)
/-- The entries of a set. -/
def unit (l : List Int) : List (Int × Value) := l.map fun k => (k, .agg #[])
theorem unit_keys (l : List Int) : (unit l).map (·.1) = l := by
  unfold unit
  rw [List.map_map]
  exact List.map_id' l
theorem unit_of (e : List (Int × Value)) (h : ∀ p ∈ e, p.2 = .agg #[]) : e = unit (e.map (·.1)) := by
  unfold unit
  rw [List.map_map]
  refine (List.map_id' e).symm.trans (List.map_congr_left fun p hp => ?_)
  simp only [Function.comp, ← h p hp]
def SetR (w : World) (b : Nat) (l : List Int) : Prop := MapV w b (unit l)
theorem MapV.rising {w : World} {b : Nat} {l : List (Int × Value)} (h : MapV w b l) : Rising l := by
  unfold MapV at h
  exact h.2
theorem SetR.put {w : World} {b : Nat} {l : List Int} {k : Int} (h : MapV w b (put k (.agg #[]) (unit l))) : SetR w b ((put k (.agg #[]) (unit l)).map (·.1)) := by
  unfold SetR
  rw [← unit_of]
  · exact h
  · intro p hp
    rcases mem_put.1 hp with rfl | ⟨hp, _⟩
    · rfl
    · obtain ⟨x, _, rfl⟩ := List.mem_map.1 hp
      rfl
theorem put_set {l xs : List Int} {k : Int} (h : IsSet l xs) (hr : Rising (put k (.agg #[]) (unit l))) : IsSet ((put k (.agg #[]) (unit l)).map (·.1)) (xs ++ [k]) := by
  refine ⟨hr.keys, fun j => ?_⟩
  rw [List.mem_append, ← h.2 j, List.mem_map]
  constructor
  · rintro ⟨p, hp, rfl⟩
    rcases mem_put.1 hp with rfl | ⟨hp, _⟩
    · simp
    · obtain ⟨x, hx, rfl⟩ := List.mem_map.1 hp
      exact .inl hx
  · intro hj
    by_cases hjk : j = k
    · exact ⟨(k, .agg #[]), mem_put.2 (.inl rfl), hjk.symm⟩
    · rcases hj with hj | hj
      · exact ⟨(j, .agg #[]), mem_put.2 (.inr ⟨List.mem_map.2 ⟨j, hj, rfl⟩, hjk⟩), rfl⟩
      · simp at hj
        exact absurd hj hjk

set_option maxRecDepth 100000 in
set_option maxHeartbeats 1000000 in
theorem votersAt_c (v : Value) (ids : List Int) (w : World) (h : NumsR w v ids) (hn : ids.length ≤ 2147483647) (hu : ∀ k ∈ ids, U64 k) : Calls Try.prog 31 #[v] w
    (RetV w fun v w' => ∃ l, v = .map (some w.heap.size) ∧ SetR w' w.heap.size l ∧ IsSet l ids) := by
  unfold NumsR at h
  obtain ⟨A, c, rfl, h1, h2, h3, h4⟩ := h
  have h4' := Lib.hid h4
  have hu' := Lib.hid hu
  have hn' : ids.length ≤ 9223372036854775807 := by omega
  clear h2 h3 h4 hu
  have hmm := @run_makeMap Try.prog
  go_enter Try.func31, Try.ntmps31
  go_wp2
  go_loopg [9] ids.length (fun g i wr => ∃ (k : Nat) (l : List Int), g = ids.length - k ∧ k ≤ ids.length ∧ i = .int .i64 k ∧ SetR wr w.heap.size l ∧ IsSet l (ids.take k) ∧ Ext w wr)
  case atStart => exact ⟨0, [], rfl, Nat.zero_le _, rfl, MapV.made w, ⟨List.Pairwise.nil, by simp⟩, (Ext.refl w).alloc _⟩
  case round =>
    obtain ⟨k, l, hg, hk, rfl, hM, hset, he⟩ := hrel
    have hg' := Lib.hid hg
    have hM' := Lib.hid hM
    have hset' := Lib.hid hset
    clear hg hM hset
    by_cases hlt : k < ids.length
    · obtain ⟨b, o, rfl, hc⟩ := h4'.out.at_ (i := k) (by simpa using hlt)
      have hc' := he.cellE hc
      simp only [List.getElem_map] at hc'
      have hku := hu'.out _ (List.getElem_mem hlt)
      have hll := Lib.hid hset'.out.len
      clear hc
      generalize hx : ids[k] = x at *
      have hx' := Lib.hid hx
      clear hx
      go_wp2_with (at_mapUpdate; refine wpList_map_put rfl _ _ _ _ rfl _ Try.underlying58 w.heap.size _ rfl hM'.out (by have := hll.out; rw [List.length_take] at this; simp only [unit, List.length_map]; unfold maxLen; omega) _ _ rfl rfl hku ?_; intro w1 hM1 hC1)
      go_roundg (ids.length - (k + 1))
      case rel =>
        refine ⟨k + 1, _, rfl, by omega, by go_num, SetR.put hM1, ?_, he.chg_new hC1 (fun k hk => by omega)⟩
        rw [List.take_add_one, List.getElem?_eq_getElem hlt, hx'.out]
        exact put_set hset'.out hM1.rising
      case measure =>
        have := hg'.out
        omega
    · have hkk : k = ids.length := by omega
      subst hkk
      go_wp2
      go_ret
      have hs := hset'.out
      rw [List.take_of_length_le (Nat.le_refl _)] at hs
      exact ⟨_, rfl, ⟨_, rfl, hM'.out, hs⟩, he⟩

theorem voters_c (v : Value) (ids : List Int) (w : World) (h : NumsR w v ids) (hn : ids.length ≤ 2147483647) (hu : ∀ k ∈ ids, U64 k) : Calls Try.prog 31 #[v] w
    (RetV w fun v w' => ∃ b l, v = .map (some b) ∧ SetR w' b l ∧ IsSet l ids) := by
  refine (votersAt_c v ids w h hn hu).mono ?_
  rintro e w' ⟨v, rfl, ⟨l, h1, h2, h3⟩, he⟩
  exact ⟨v, rfl, ⟨_, l, h1, h2, h3⟩, he⟩

theorem ins_len (k : Int) (v : Value) : ∀ l : List (Int × Value), (ins k v l).length = l.length + 1
  | [] => rfl
  | q :: r => by
    rw [ins]
    split
    · rfl
    · simp [ins_len k v r]
theorem put_len (k : Int) (v : Value) (l : List (Int × Value)) : (put k v l).length ≤ l.length + 1 := by
  rw [put, ins_len]
  have := List.length_filter_le (fun p : Int × Value => p.1 != k) l
  omega

/-! ### Ballots -/
structure Ballot where
  id : Int
  yes : Bool
def ballotCells (x : Ballot) : List Value := [.int .u64 x.id, .bool x.yes]
theorem ballotCells_len (x : Ballot) : (ballotCells x).length = 2 := rfl
def BallotsR (w : World) (v : Value) (bs : List Ballot) : Prop := SliceR w v 2 bs.length (bs.flatMap ballotCells)
theorem BallotsR.ext {w w' : World} {v : Value} {bs : List Ballot} (h : BallotsR w v bs) (e : Ext w w') : BallotsR w' v bs := SliceR.ext h e
theorem BallotsR.shape {w : World} {v : Value} {bs : List Ballot} (h : BallotsR w v bs) : ∃ A c, v = .slice A bs.length c := by
  obtain ⟨A, c, h1, _⟩ := h
  exact ⟨A, c, h1⟩
/-- The last ballot of an ID. -/
def lastB (bs : List Ballot) (k : Int) : Option Bool := bs.foldl (fun o x => if x.id = k then some x.yes else o) none
theorem lastB_snoc (bs : List Ballot) (x : Ballot) (k : Int) : lastB (bs ++ [x]) k = if x.id = k then some x.yes else lastB bs k := by
  unfold lastB
  rw [List.foldl_append]
  rfl
theorem get_put {l : List (Int × Value)} (h : Rising l) {k : Int} (hk : U64 k) (v : Value) (j : Int) : get (put k v l) j = if k = j then some v else get l j := by
  by_cases hj : k = j
  · subst hj
    rw [if_pos rfl, get_mem (h.put hk)]
    exact mem_put.2 (.inl rfl)
  · rw [if_neg hj]
    cases hg : get l j with
    | none =>
      rw [get_none] at hg ⊢
      intro p hp
      rcases mem_put.1 hp with rfl | ⟨hp, _⟩
      · exact hj
      · exact hg p hp
    | some u =>
      rw [get_mem h] at hg
      rw [get_mem (h.put hk)]
      exact mem_put.2 (.inr ⟨hg, fun e => hj e.symm⟩)
/-- Block b holds the ballots f. -/
def VotesR (w : World) (b : Nat) (f : Int → Option Bool) : Prop := ∃ m, MapV w b m ∧ ∀ k, get m k = (f k).map Value.bool
theorem VotesR.ext {w w' : World} {b : Nat} {f : Int → Option Bool} (h : VotesR w b f) (e : Ext w w') : VotesR w' b f := by
  obtain ⟨m, h1, h2⟩ := h
  exact ⟨m, h1.ext e, h2⟩

set_option maxRecDepth 100000 in
set_option maxHeartbeats 1000000 in
theorem ballots_c (v : Value) (bs : List Ballot) (w : World) (h : BallotsR w v bs) (hn : bs.length ≤ 2147483647) (hu : ∀ x ∈ bs, U64 x.id) : Calls Try.prog 33 #[v] w
    (RetV w fun v w' => ∃ b, v = .map (some b) ∧ VotesR w' b (lastB bs)) := by
  obtain ⟨A, c, rfl, h1, h2, h3, h4⟩ := h
  have h4' := Lib.hid h4
  have hu' := Lib.hid hu
  have hn' : bs.length ≤ 9223372036854775807 := by omega
  clear h2 h3 h4 hu
  have hmm := @run_makeMap Try.prog
  go_enter Try.func33, Try.ntmps33
  go_wp2
  go_loopg [9] bs.length (fun g i wr => ∃ (k : Nat) (m : List (Int × Value)), g = bs.length - k ∧ k ≤ bs.length ∧ i = .int .i64 k ∧ MapV wr w.heap.size m ∧ m.length ≤ k ∧ (∀ j, get m j = (lastB (bs.take k) j).map Value.bool) ∧ Ext w wr)
  case atStart => exact ⟨0, [], rfl, Nat.zero_le _, rfl, MapV.made w, by simp, fun j => by simp [get, lastB], (Ext.refl w).alloc _⟩
  case round =>
    obtain ⟨k, m, hg, hk, rfl, hM, hml, hget, he⟩ := hrel
    have hg' := Lib.hid hg
    have hM' := Lib.hid hM
    have hget' := Lib.hid hget
    clear hg hM hget
    by_cases hlt : k < bs.length
    · obtain ⟨b, o, rfl, hel⟩ := h4'.out.elem ballotCells_len (by omega) hlt
      have hd0 := he.cellE (hel 0 _ rfl)
      have hd1 := he.cellE (hel 1 _ rfl)
      simp only [Nat.add_zero] at hd0
      have hel' := Lib.hid hel
      have hku := hu'.out _ (List.getElem_mem hlt)
      clear hel
      generalize hx : bs[k] = x at *
      have hx' := Lib.hid hx
      clear hx
      go_wp2_with (at_mapUpdate; refine wpList_map_put rfl _ _ _ _ rfl _ Try.underlying61 w.heap.size _ rfl (hM'.out.ext ((Ext.refl wr).alloc _)) (by unfold maxLen; omega) _ _ rfl rfl hku ?_; intro w1 hM1 hC1)
      go_roundg (bs.length - (k + 1))
      case rel =>
        refine ⟨k + 1, _, rfl, by omega, by go_num, hM1, ?_, fun j => ?_, (he.alloc _).chg_new hC1 (fun k hk => by omega)⟩
        · exact Nat.le_trans (put_len _ _ m) (by omega)
        · rw [List.take_add_one, List.getElem?_eq_getElem hlt, hx'.out, Option.toList, lastB_snoc, get_put hM'.out.rising hku, hget'.out j]
          split <;> rfl
      case measure =>
        have := hg'.out
        omega
    · have hkk : k = bs.length := by omega
      subst hkk
      go_wp2
      go_ret
      have hs := hget'.out
      rw [List.take_of_length_le (Nat.le_refl _)] at hs
      exact ⟨_, rfl, ⟨_, rfl, _, hM'.out, hs⟩, he⟩

end Go.Proofs.Ytklhflbjkckhmaa
