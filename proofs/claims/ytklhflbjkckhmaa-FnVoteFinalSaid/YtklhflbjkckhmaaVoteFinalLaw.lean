/- The law FnVoteFinal: the walk. -/
import Derived.Test.YtklhflbjkckhmaaVoteFinal
namespace Go.Proofs.Ytklhflbjkckhmaa
open Go.ChangeShapes Go.WideShapes Go.ChangeAt Go.RowKit
set_option linter.unusedSimpArgs false
set_option linter.unusedVariables false

set_option maxRecDepth 100000 in
set_option maxHeartbeats 1000000 in
theorem fnVoteFinal_long (A A1 A2 : Option Addr) (n n1 n2 c c1 c2 : Nat) (i : Int) (y : Bool) (w : World) (hl : n ≤ 9223372036854775807) (hl1 : n1 ≤ 9223372036854775807) (hl2 : n2 ≤ 9223372036854775807) (h : ¬ (n ≤ 40 ∧ n1 ≤ 40 ∧ n2 ≤ 40)) :
    Calls Try.prog 4 #[.slice A n c, .slice A1 n1 c1, .slice A2 n2 c2, .agg #[.int .u64 i, .bool y]] w (Yes w) := by
  by_cases h0 : (2147483647 : Int) < (n : Int)
  · go_enter Try.func4, Try.ntmps4
    go_wp2
    go_ret
    exact ⟨rfl, (Ext.refl w).alloc _⟩
  · by_cases h1 : (2147483647 : Int) < (n1 : Int)
    · go_enter Try.func4, Try.ntmps4
      go_wp2
      go_ret
      exact ⟨rfl, (Ext.refl w).alloc _⟩
    · by_cases h2 : (2147483647 : Int) < (n2 : Int)
      · go_enter Try.func4, Try.ntmps4
        go_wp2
        go_ret
        exact ⟨rfl, (Ext.refl w).alloc _⟩
      · have hmx0 : ∀ y ∈ [(A, n, c), (A1, n1, c1)], y.2.1 ≤ maxLen := by
          intro y hy
          simp only [List.mem_cons, List.not_mem_nil, or_false] at hy
          rcases hy with rfl | rfl
          · unfold maxLen
            exact hl
          · unfold maxLen
            exact hl1
        have hmx := Lib.hid hmx0
        clear hmx0
        by_cases h3 : n ≤ 40 ∧ n1 ≤ 40
        · have hall : allFew [(A, n, c), (A1, n1, c1)] = true := by
            rw [allFew_two]
            simp [h3.1, h3.2]
          have h4 : (40 : Int) < (n2 : Int) := by omega
          go_enter Try.func4, Try.ntmps4
          go_wp2_with (go_at_call 10; refine (few_c _ 2 2 [(A, n, c), (A1, n1, c1)] _ (RowR.of_blk (Blk.new_at (T := 22) (by simp))) rfl (by omega) hmx.out).mono ?_; rintro e w1 ⟨rfl, he⟩; rw [hall])
          go_ret
          exact ⟨rfl, (((Ext.refl w).alloc _).alloc _).trans he⟩
        · have hall : allFew [(A, n, c), (A1, n1, c1)] = false := by
            rw [allFew_two, Bool.eq_false_iff]
            simp
            omega
          go_enter Try.func4, Try.ntmps4
          go_wp2_with (go_at_call 10; refine (few_c _ 2 2 [(A, n, c), (A1, n1, c1)] _ (RowR.of_blk (Blk.new_at (T := 22) (by simp))) rfl (by omega) hmx.out).mono ?_; rintro e w1 ⟨rfl, he⟩; rw [hall])
          go_ret
          exact ⟨rfl, (((Ext.refl w).alloc _).alloc _).trans he⟩

theorem fnVoteFinal_walk (v v1 u : Value) (ids ids1 : List Int) (bs : List Ballot) (x : Ballot) (w : World) (h : NumsR w v ids) (h1 : NumsR w v1 ids1) (h2 : BallotsR w u bs)
    (hu : ∀ k ∈ ids, U64 k) (hu1 : ∀ k ∈ ids1, U64 k) (hub : ∀ y ∈ bs, U64 y.id) (hx : U64 x.id) (hl : ids.length ≤ maxLen) (hl1 : ids1.length ≤ maxLen) (hl2 : bs.length ≤ maxLen) :
    Calls Try.prog 4 #[v, v1, u, .agg #[.int .u64 x.id, .bool x.yes]] w (Yes w) := by
  obtain ⟨A, c, rfl⟩ := h.shape
  obtain ⟨A1, c1, rfl⟩ := h1.shape
  obtain ⟨A2, c2, rfl⟩ := h2.shape
  unfold maxLen at hl hl1 hl2
  by_cases hs : ids.length ≤ 40 ∧ ids1.length ≤ 40 ∧ bs.length ≤ 40
  · exact fnVoteFinal_main A A1 A2 c c1 c2 ids ids1 bs x w h h1 h2 hu hu1 hub hx hs.1 hs.2.1 hs.2.2
  · exact fnVoteFinal_long A A1 A2 _ _ _ c c1 c2 x.id x.yes w hl hl1 hl2 hs

end Go.Proofs.Ytklhflbjkckhmaa
