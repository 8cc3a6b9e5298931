/- Rows of the call's own: one cell stored anew. -/
import Derived.Test.YtklhflbjkckhmaaMem
namespace Go.Proofs.Ytklhflbjkckhmaa
open Go.ChangeShapes Go.WideShapes Go.ChangeAt Go.RowKit

theorem ownsRow_set {w : World} {base : Nat} {e : TypeId} {size n m c g : Nat} {xs : List Value} (h : w.ownsRow base e size (.slice (some ⟨g, 0, none⟩) m c) n xs) (j : Nat) (u : Value) :
    (w.setCell ⟨g, j, none⟩ u).ownsRow base e size (.slice (some ⟨g, 0, none⟩) m c) n (xs.set j u) := by
  obtain ⟨h1, h2⟩ := h
  refine ⟨by simpa using h1, ?_⟩
  rcases h2 with ⟨h2, _⟩ | ⟨g', cap, cur, hv, h3, h4, h5, h6, h7, h8⟩
  · cases h2
  · injection hv with e1 e2 e3
    injection e1 with e1
    injection e1 with e1 _ _
    subst e1 e2 e3
    refine .inr ⟨g, c, cur.setIfInBounds j u, rfl, h3, ?_, h5, h6, by simpa using h7, ?_⟩
    · simp [World.setCell, Array.getElem?_modify, h4]
    · rw [← h8, Array.toList_setIfInBounds, List.take_set]
theorem ownsRow_chgSet {w : World} {base : Nat} {e : TypeId} {size n m c g : Nat} {xs : List Value} (h : w.ownsRow base e size (.slice (some ⟨g, 0, none⟩) m c) n xs) (j : Nat) (u : Value) :
    ChgT [e + 1] w (w.setCell ⟨g, j, none⟩ u) := by
  obtain ⟨h1, h2⟩ := h
  rcases h2 with ⟨h2, _⟩ | ⟨g', cap, cur, hv, h3, h4, h5, h6, h7, h8⟩
  · cases h2
  · injection hv with e1 e2 e3
    injection e1 with e1
    injection e1 with e1 _ _
    subst e1 e2 e3
    have hb : Blk w g e cur := by
      unfold Blk
      exact h4
    exact chgT_setCell hb j u
/-- The address of a row of the call's own that has elements; its cells may be written. -/
theorem ownsRow_addr {w : World} {base : Nat} {e : TypeId} {size n m c : Nat} {A : Option Addr} {xs : List Value} (h : w.ownsRow base e size (.slice A m c) n xs) (hn : 0 < n) :
    ∃ g, A = some ⟨g, 0, none⟩ ∧ base ≤ g ∧ (∀ j, w.frozen? ⟨g, j, none⟩ = false) ∧ g < w.heap.size := by
  obtain ⟨h1, h2⟩ := h
  rcases h2 with ⟨h2, h3⟩ | ⟨g', cap, cur, hv, h3, h4, h5, h6, h7, h8⟩
  · omega
  · injection hv with e1 e2 e3
    subst e1
    exact ⟨g', rfl, h3, fun j => by simp [World.frozen?, h4], (Array.getElem?_eq_some_iff.1 h4).1⟩
/-- One cell of one element set anew. -/
theorem flat_set {α : Type} {f : α → List Value} {size : Nat} (hf : ∀ x, (f x).length = size) : ∀ (xs : List α) (i j : Nat) (hi : i < xs.length) (y : α) (u : Value), j < size → f y = (f xs[i]).set j u → (xs.flatMap f).set (i * size + j) u = (xs.set i y).flatMap f
  | x :: xs, 0, j, _, y, u, hj, hy => by
    simp only [List.getElem_cons_zero] at hy
    rw [List.flatMap_cons, List.set_cons_zero, List.flatMap_cons, hy, Nat.zero_mul, Nat.zero_add, List.set_append_left _ _ (by rw [hf]; exact hj)]
  | x :: xs, i + 1, j, hi, y, u, hj, hy => by
    simp only [List.getElem_cons_succ] at hy
    have h := flat_set hf xs i j (by simpa using hi) y u hj hy
    rw [List.flatMap_cons, List.set_cons_succ, List.flatMap_cons, ← h, List.set_append_right _ _ (by rw [hf, Nat.succ_mul]; omega), hf]
    congr 2
    rw [Nat.succ_mul]
    omega

/-- min of two integers, by any name of the result. -/
theorem wpList_min2 {P : Program} {w : World} {ops : Array Oper} {rest : List Oper} {o : Oper} {a : Act} {Q : Exit → Act → World → Prop} (hgd : o.guard = none) (x y : Operand) (ts : Array TypeId)
    (ho : o.op = .call { callee := .builtin .min, args := #[x, y], argTypes := ts }) (k : IntKind) (p q m : Int) (hx : a.eval x = .int k p) (hy : a.eval y = .int k q) (hm : m = min p q)
    (h : wpList P ops Q rest (a.put o.dst (.int k m)) w) : wpList P ops Q (o :: rest) a w := by
  refine wpList_plain hgd fun _ hK => ?_
  have hrun : (Builtin.min_ ts o.type #[.int k p, .int k q]).run P w = .ok (.int k m) w := by
    subst hm
    simp only [Builtin.min_, List.foldlM_cons, List.foldlM_nil, Builtin.min2]
    by_cases hpq : q < p
    · simp [Sem.run_pure, hpq]
      omega
    · simp [Sem.run_pure, hpq]
      omega
  unfold Oper.wp execOp
  simp only [ho, resolve, invoke, builtin, Sem.run_bind, Sem.run_pure, Result.andThen_ok, List.map_toArray, List.map_cons, List.map_nil, hx, hy, hrun]
  exact hK _ _ h

end Go.Proofs.Ytklhflbjkckhmaa
