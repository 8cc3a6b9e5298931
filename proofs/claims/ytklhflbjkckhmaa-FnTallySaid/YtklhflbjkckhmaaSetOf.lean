/- setOf: a set that is nil if the list is empty. -/
import Derived.Test.YtklhflbjkckhmaaVoters
namespace Go.Proofs.Ytklhflbjkckhmaa
open Go.ChangeShapes Go.WideShapes Go.ChangeAt Go.RowKit
set_option linter.unusedSimpArgs false
set_option linter.unusedVariables false

/-- A set that may be nil. -/
def SetO (w : World) (base : Nat) (v : Value) (ids : List Int) : Prop := (ids = [] ∧ v = .map none) ∨ ∃ b l, v = .map (some b) ∧ base ≤ b ∧ SetR w b l ∧ IsSet l ids
theorem SetO.chg {S : Nat → Prop} {w w' : World} {base : Nat} {v : Value} {ids : List Int} (h : SetO w base v ids) (e : Chg S w w') (hs : ∀ k, base ≤ k → ¬ S k) : SetO w' base v ids := by
  rcases h with h | ⟨b, l, h1, h2, h3, h4⟩
  · exact .inl h
  · exact .inr ⟨b, l, h1, h2, MapV.chg h3 e (hs b h2), h4⟩
theorem SetO.ext {w w' : World} {base : Nat} {v : Value} {ids : List Int} (h : SetO w base v ids) (e : Ext w w') : SetO w' base v ids := h.chg (S := fun _ => False) e.chg (fun _ _ h => h)
theorem SetO.le {w : World} {base base' : Nat} {v : Value} {ids : List Int} (h : SetO w base v ids) (hb : base' ≤ base) : SetO w base' v ids := by
  rcases h with h | ⟨b, l, h1, h2, h3, h4⟩
  · exact .inl h
  · exact .inr ⟨b, l, h1, by omega, h3, h4⟩

set_option maxRecDepth 100000 in
set_option maxHeartbeats 1000000 in
theorem setOf_c (v : Value) (ids : List Int) (w : World) (h : NumsR w v ids) (hn : ids.length ≤ 2147483647) (hu : ∀ k ∈ ids, U64 k) : Calls Try.prog 50 #[v] w
    (RetV w fun v w' => SetO w' w.heap.size v ids) := by
  unfold NumsR at h
  obtain ⟨A, c, rfl, h1, h2, h3, h4⟩ := h
  by_cases h0 : ids.length = 0
  · have hb : (ids.length : Int) = 0 := by omega
    have hnil := Lib.hid (List.eq_nil_of_length_eq_zero h0)
    clear h1 h2 h3 h4 h0
    go_enter Try.func50, Try.ntmps50
    go_wp2
    go_ret
    exact ⟨_, rfl, .inl ⟨hnil.out, rfl⟩, Ext.refl _⟩
  have hb : ((ids.length : Int) == 0) = false := by
    rw [beq_eq_false_iff_ne]
    omega
  have h4' := Lib.hid h4
  have hu' := Lib.hid hu
  have hn' : ids.length ≤ 9223372036854775807 := by omega
  clear h2 h3 h4 hu h0
  have hmm := @run_makeMap Try.prog
  go_enter Try.func50, Try.ntmps50
  go_wp2
  go_loopg [12] ids.length (fun g i wr => ∃ (k : Nat) (l : List Int), g = ids.length - k ∧ k ≤ ids.length ∧ i = .int .i64 k ∧ SetR wr w.heap.size l ∧ IsSet l (ids.take k) ∧ Ext w wr)
  case atStart => exact ⟨0, [], rfl, Nat.zero_le _, rfl, MapV.made w, ⟨List.Pairwise.nil, by simp⟩, (Ext.refl w).alloc _⟩
  case round =>
    obtain ⟨k, l, hg, hk, rfl, hM, hset, he⟩ := hrel
    have hg' := Lib.hid hg
    have hM' := Lib.hid hM
    have hset' := Lib.hid hset
    clear hg hM hset
    by_cases hlt : k < ids.length
    · obtain ⟨b, o, rfl, hc⟩ := h4'.out.at_ (i := k) (by simpa using hlt)
      have hc' := he.cellE hc
      simp only [List.getElem_map] at hc'
      have hku := hu'.out _ (List.getElem_mem hlt)
      have hll := Lib.hid hset'.out.len
      clear hc
      generalize hx : ids[k] = x at *
      have hx' := Lib.hid hx
      clear hx
      go_wp2_with (at_mapUpdate; refine wpList_map_put rfl _ _ _ _ rfl _ Try.underlying57 w.heap.size _ rfl hM'.out (by have := hll.out; rw [List.length_take] at this; simp only [unit, List.length_map]; unfold maxLen; omega) _ _ rfl rfl hku ?_; intro w1 hM1 hC1)
      go_roundg (ids.length - (k + 1))
      case rel =>
        refine ⟨k + 1, _, rfl, by omega, by go_num, SetR.put hM1, ?_, he.chg_new hC1 (fun k hk => by omega)⟩
        rw [List.take_add_one, List.getElem?_eq_getElem hlt, hx'.out]
        exact put_set hset'.out hM1.rising
      case measure =>
        have := hg'.out
        omega
    · have hkk : k = ids.length := by omega
      subst hkk
      go_wp2
      go_ret
      have hs := hset'.out
      rw [List.take_of_length_le (Nat.le_refl _)] at hs
      exact ⟨_, rfl, .inr ⟨_, _, rfl, Nat.le_refl _, hM'.out, hs⟩, he⟩

end Go.Proofs.Ytklhflbjkckhmaa
