/- Rows of cells behind a slice's address; append onto a row of the call's own; strings as bytes and back. -/
import Derived.Test.YtklhflbjkckhmaaLib
import Derived.Maps.AppendAt
import Derived.Laws.IdiomStrings
namespace Go.Proofs.Ytklhflbjkckhmaa
open Go.ChangeShapes Go.WideShapes Go.ChangeAt Go.RowKit

/-- Behind the address A the cells vs stand in a row. -/
def RowR (w : World) (A : Option Addr) (vs : List Value) : Prop := ∀ i v, vs[i]? = some v → ∃ b o : Nat, A = some ⟨b, o, none⟩ ∧ w.cell? ⟨b, o + i, none⟩ = some v

theorem RowR.nil (w : World) (A : Option Addr) : RowR w A [] := fun i v h => by simp at h
theorem RowR.ext {w w' : World} {A : Option Addr} {vs : List Value} (h : RowR w A vs) (e : Ext w w') : RowR w' A vs := fun i v hi => by
  obtain ⟨b, o, h1, h2⟩ := h i v hi
  exact ⟨b, o, h1, e.cellE h2⟩
theorem RowR.at_ {w : World} {A : Option Addr} {vs : List Value} (h : RowR w A vs) {i : Nat} (hi : i < vs.length) : ∃ b o : Nat, A = some ⟨b, o, none⟩ ∧ w.cell? ⟨b, o + i, none⟩ = some vs[i] := h i _ (List.getElem?_eq_getElem hi)
theorem RowR.take {w : World} {A : Option Addr} {vs : List Value} (h : RowR w A vs) (n : Nat) : RowR w A (vs.take n) := fun i v hi => by
  refine h i v ?_
  rw [List.getElem?_take] at hi
  split at hi
  · exact hi
  · cases hi
theorem RowR.ne_none {w : World} {vs : List Value} (h : RowR w none vs) : vs = [] := by
  cases vs with
  | nil => rfl
  | cons v vs =>
    obtain ⟨b, o, h1, _⟩ := h 0 v rfl
    cases h1
theorem RowR.of_own {w : World} {base : Nat} {e : TypeId} {size n c : Nat} {A : Option Addr} {xs : List Value} (h : w.ownsRow base e size (.slice A n c) n xs) : RowR w A xs := by
  intro i v hi
  rcases h.2 with ⟨hv, hn⟩ | ⟨g, cap, cur, hv, _, _, _, _, _, _⟩
  · have := h.1
    subst hn
    have hx : xs = [] := List.eq_nil_of_length_eq_zero (by simpa using this)
    subst hx
    simp at hi
  · injection hv with hA _ _
    subst hA
    have := h.cells (g := g) rfl i v hi
    refine ⟨g, 0, rfl, ?_⟩
    rw [Nat.zero_add]
    unfold Addr.add at this
    split at this
    · rename_i h0
      subst h0
      exact this
    · simpa using this
theorem RowR.of_blk {w : World} {b : Nat} {T : TypeId} {cs : Array Value} (h : Blk w b T cs) : RowR w (some ⟨b, 0, none⟩) cs.toList := fun i v hi =>
  ⟨b, 0, rfl, by rw [Nat.zero_add, h.cell]; simpa using hi⟩
/-- A row of elements of 'size' cells, cut at its head. -/
theorem RowR.drop {w : World} {b o : Nat} {vs : List Value} (h : RowR w (some ⟨b, o, none⟩) vs) (k : Nat) : RowR w (some ⟨b, o + k, none⟩) (vs.drop k) := fun i v hi => by
  rw [List.getElem?_drop] at hi
  obtain ⟨b', o', h1, h2⟩ := h _ v hi
  injection h1 with h1
  injection h1 with h3 h4 _
  subst h3 h4
  exact ⟨b, o + k, rfl, by rw [Nat.add_assoc]; exact h2⟩

/-- The slice value v holds n elements of 'size' cells each, the cells vs. -/
def SliceR (w : World) (v : Value) (size n : Nat) (vs : List Value) : Prop := ∃ (A : Option Addr) (c : Nat), v = .slice A n c ∧ n ≤ c ∧ c ≤ maxLen ∧ vs.length = n * size ∧ RowR w A vs
theorem SliceR.ext {w w' : World} {v : Value} {size n : Nat} {vs : List Value} (h : SliceR w v size n vs) (e : Ext w w') : SliceR w' v size n vs := by
  obtain ⟨A, c, h1, h2, h3, h4, h5⟩ := h
  exact ⟨A, c, h1, h2, h3, h4, h5.ext e⟩
theorem SliceR.of_own {w : World} {base : Nat} {e : TypeId} {size n : Nat} {v : Value} {xs : List Value} (h : w.ownsRow base e size v n xs) : SliceR w v size n xs := by
  have h' := h
  rcases h.2 with ⟨hv, hn⟩ | ⟨g, cap, cur, hv, _, _, hnc, hcm, _, _⟩
  · subst hv hn
    exact ⟨none, 0, rfl, Nat.le_refl _, by simp [maxLen], h.1, RowR.of_own h'⟩
  · subst hv
    exact ⟨_, cap, rfl, hnc, hcm, h.1, RowR.of_own h'⟩

theorem ownsRow_shape {w : World} {base : Nat} {e : TypeId} {size n : Nat} {v : Value} {xs : List Value} (h : w.ownsRow base e size v n xs) : ∃ A c, v = .slice A n c ∧ n ≤ c ∧ c ≤ maxLen := by
  rcases h.2 with ⟨hv, hn⟩ | ⟨g, cap, cur, hv, _, _, hnc, hcm, _, _⟩
  · subst hv hn
    exact ⟨none, 0, rfl, Nat.le_refl _, by simp [maxLen]⟩
  · exact ⟨_, cap, hv, hnc, hcm⟩

/-! ### Rows whose element type is known -/
/-- Behind the address A the cells vs stand in a row, in a block of element type T. -/
def RowT (w : World) (T : TypeId) (A : Option Addr) (vs : List Value) : Prop :=
  ∀ i v, vs[i]? = some v → ∃ (b o : Nat) (cs : Array Value) (fr : Nat × Nat), A = some ⟨b, o, none⟩ ∧ w.heap[b]? = some (.cells cs T fr) ∧ cs[o + i]? = some v
theorem RowT.row {w : World} {T : TypeId} {A : Option Addr} {vs : List Value} (h : RowT w T A vs) : RowR w A vs := fun i v hi => by
  obtain ⟨b, o, cs, fr, h1, h2, h3⟩ := h i v hi
  exact ⟨b, o, h1, by simp [World.cell?, h2, h3]⟩
theorem RowT.nil (w : World) (T : TypeId) (A : Option Addr) : RowT w T A [] := fun i v h => by simp at h
theorem RowT.chgT {Ts : List Nat} {w w' : World} {T : TypeId} {A : Option Addr} {vs : List Value} (h : RowT w T A vs) (e : ChgT Ts w w') (hT : Ts.contains (T + 1) = false) : RowT w' T A vs := fun i v hi => by
  obtain ⟨b, o, cs, fr, h1, h2, h3⟩ := h i v hi
  exact ⟨b, o, cs, fr, h1, e.keep h2 hT, h3⟩
theorem RowT.ext {w w' : World} {T : TypeId} {A : Option Addr} {vs : List Value} (h : RowT w T A vs) (e : Ext w w') : RowT w' T A vs := h.chgT (e.chgT []) rfl
theorem RowT.take {w : World} {T : TypeId} {A : Option Addr} {vs : List Value} (h : RowT w T A vs) (n : Nat) : RowT w T A (vs.take n) := fun i v hi => by
  refine h i v ?_
  rw [List.getElem?_take] at hi
  split at hi
  · exact hi
  · cases hi
theorem RowT.drop {w : World} {T : TypeId} {b o : Nat} {vs : List Value} (h : RowT w T (some ⟨b, o, none⟩) vs) (k : Nat) : RowT w T (some ⟨b, o + k, none⟩) (vs.drop k) := fun i v hi => by
  rw [List.getElem?_drop] at hi
  obtain ⟨b', o', cs, fr, h1, h2, h3⟩ := h _ v hi
  injection h1 with h1
  injection h1 with h4 h5 _
  subst h4 h5
  exact ⟨b, o + k, cs, fr, rfl, h2, by rw [Nat.add_assoc]; exact h3⟩
theorem RowT.of_own {w : World} {base : Nat} {e : TypeId} {size n c : Nat} {A : Option Addr} {xs : List Value} (h : w.ownsRow base e size (.slice A n c) n xs) : RowT w e A xs := by
  intro i v hi
  rcases h.2 with ⟨hv, hn⟩ | ⟨g, cap, cur, hv, _, hh, _, _, _, ht⟩
  · have := h.1
    subst hn
    have hx : xs = [] := List.eq_nil_of_length_eq_zero (by simpa using this)
    subst hx
    simp at hi
  · injection hv with hA _ _
    subst hA
    refine ⟨g, 0, cur, (0, 0), rfl, hh, ?_⟩
    rw [← ht, List.getElem?_take] at hi
    split at hi
    · simpa using hi
    · cases hi

theorem RowT.of_blk {w : World} {b : Nat} {T : TypeId} {cs : Array Value} (h : Blk w b T cs) : RowT w T (some ⟨b, 0, none⟩) cs.toList := fun i v hi =>
  ⟨b, 0, cs, (0, 0), rfl, h.out, by simpa using hi⟩

/-- The slice value v holds n elements of 'size' cells each, the cells vs, in a block of element type T. -/
def SliceT (w : World) (T : TypeId) (v : Value) (size n : Nat) (vs : List Value) : Prop := ∃ (A : Option Addr) (c : Nat), v = .slice A n c ∧ n ≤ c ∧ c ≤ maxLen ∧ vs.length = n * size ∧ RowT w T A vs
theorem SliceT.slice {w : World} {T : TypeId} {v : Value} {size n : Nat} {vs : List Value} (h : SliceT w T v size n vs) : SliceR w v size n vs := by
  obtain ⟨A, c, h1, h2, h3, h4, h5⟩ := h
  exact ⟨A, c, h1, h2, h3, h4, h5.row⟩
theorem SliceT.chgT {Ts : List Nat} {w w' : World} {T : TypeId} {v : Value} {size n : Nat} {vs : List Value} (h : SliceT w T v size n vs) (e : ChgT Ts w w') (hT : Ts.contains (T + 1) = false) : SliceT w' T v size n vs := by
  obtain ⟨A, c, h1, h2, h3, h4, h5⟩ := h
  exact ⟨A, c, h1, h2, h3, h4, h5.chgT e hT⟩
theorem SliceT.ext {w w' : World} {T : TypeId} {v : Value} {size n : Nat} {vs : List Value} (h : SliceT w T v size n vs) (e : Ext w w') : SliceT w' T v size n vs := h.chgT (e.chgT []) rfl
theorem SliceT.of_own {w : World} {base : Nat} {e : TypeId} {size n : Nat} {v : Value} {xs : List Value} (h : w.ownsRow base e size v n xs) : SliceT w e v size n xs := by
  obtain ⟨A, c, rfl, h1, h2⟩ := ownsRow_shape h
  exact ⟨A, c, rfl, h1, h2, h.1, RowT.of_own h⟩
/-- What an append in place, or onto a new array, may have turned. -/
theorem chgT_of_append {w w' : World} {base : Nat} {e : TypeId} {size n : Nat} {v : Value} {xs : List Value} (h : w.ownsRow base e size v n xs) (hg : w.grownBy w' v.ownBlock) : ChgT [e + 1] w w' := by
  refine (Ext.chg_of_grown hg).chgT e (fun k o hk ho => ?_)
  rcases h.2 with ⟨hv, _⟩ | ⟨g, cap, cur, hv, _, hh, _⟩
  · subst hv
    cases hk
  · subst hv
    have : k = g := by
      have h0 : some k = some g := hk
      exact Option.some.inj h0
    subst this
    rw [hh] at ho
    injection ho with ho
    subst ho
    rfl

/-! ### Lists of values that stand for a list of data -/
def All2 {α : Type} (R : Value → α → Prop) (vs : List Value) (xs : List α) : Prop := vs.length = xs.length ∧ ∀ (i : Nat) (v : Value) (x : α), vs[i]? = some v → xs[i]? = some x → R v x
theorem All2.nil {α : Type} (R : Value → α → Prop) : All2 R [] [] := ⟨rfl, fun i v x h => by simp at h⟩
theorem All2.mono {α : Type} {R R' : Value → α → Prop} {vs : List Value} {xs : List α} (h : All2 R vs xs) (hr : ∀ v x, R v x → R' v x) : All2 R' vs xs := ⟨h.1, fun i v x h1 h2 => hr v x (h.2 i v x h1 h2)⟩
theorem All2.snoc {α : Type} {R : Value → α → Prop} {vs : List Value} {xs : List α} {v : Value} {x : α} (h : All2 R vs xs) (hr : R v x) : All2 R (vs ++ [v]) (xs ++ [x]) := by
  refine ⟨by simp [h.1], fun i u y h1 h2 => ?_⟩
  rcases Nat.lt_or_ge i vs.length with hi | hi
  · rw [List.getElem?_append_left hi] at h1
    rw [List.getElem?_append_left (by rw [← h.1]; exact hi)] at h2
    exact h.2 i u y h1 h2
  · rw [List.getElem?_append_right hi] at h1
    rw [List.getElem?_append_right (by rw [← h.1]; exact hi), ← h.1] at h2
    cases hj : i - vs.length with
    | zero =>
      rw [hj] at h1 h2
      simp at h1 h2
      subst h1 h2
      exact hr
    | succ j =>
      rw [hj] at h1
      simp at h1
theorem All2.append {α : Type} {R : Value → α → Prop} {vs us : List Value} {xs ys : List α} (h : All2 R vs xs) (k : All2 R us ys) : All2 R (vs ++ us) (xs ++ ys) := by
  refine ⟨by simp [h.1, k.1], fun i u y h1 h2 => ?_⟩
  rcases Nat.lt_or_ge i vs.length with hi | hi
  · rw [List.getElem?_append_left hi] at h1
    rw [List.getElem?_append_left (by rw [← h.1]; exact hi)] at h2
    exact h.2 i u y h1 h2
  · rw [List.getElem?_append_right hi] at h1
    rw [List.getElem?_append_right (by rw [← h.1]; exact hi), ← h.1] at h2
    exact k.2 _ u y h1 h2
theorem All2.take {α : Type} {R : Value → α → Prop} {vs : List Value} {xs : List α} (h : All2 R vs xs) (n : Nat) : All2 R (vs.take n) (xs.take n) := by
  refine ⟨by simp [h.1], fun i v x h1 h2 => ?_⟩
  rw [List.getElem?_take] at h1 h2
  split at h1
  · rename_i hi
    rw [if_pos hi] at h2
    exact h.2 i v x h1 h2
  · cases h1
theorem All2.drop {α : Type} {R : Value → α → Prop} {vs : List Value} {xs : List α} (h : All2 R vs xs) (n : Nat) : All2 R (vs.drop n) (xs.drop n) := by
  refine ⟨by simp [h.1], fun i v x h1 h2 => ?_⟩
  rw [List.getElem?_drop] at h1 h2
  exact h.2 _ v x h1 h2
theorem All2.at_ {α : Type} {R : Value → α → Prop} {vs : List Value} {xs : List α} (h : All2 R vs xs) {i : Nat} (hi : i < xs.length) : ∃ v, vs[i]? = some v ∧ R v xs[i] := by
  have hv : i < vs.length := by rw [h.1]; exact hi
  exact ⟨vs[i], List.getElem?_eq_getElem hv, h.2 i _ _ (List.getElem?_eq_getElem hv) (List.getElem?_eq_getElem hi)⟩

/-- Cells of elements of equal width, one behind the other. -/
theorem flat_at {α : Type} {f : α → List Value} {size : Nat} (hf : ∀ x, (f x).length = size) : ∀ (xs : List α) (i j : Nat) (hi : i < xs.length), j < size → (xs.flatMap f)[i * size + j]? = (f xs[i])[j]?
  | x :: xs, 0, j, _, hj => by
    simp only [List.flatMap_cons, Nat.zero_mul, Nat.zero_add, List.getElem_cons_zero]
    rw [List.getElem?_append_left (by rw [hf]; exact hj)]
  | x :: xs, i + 1, j, hi, hj => by
    have h := flat_at hf xs i j (by simpa using hi) hj
    simp only [List.flatMap_cons, List.getElem_cons_succ]
    rw [List.getElem?_append_right (by rw [hf, Nat.succ_mul]; omega), hf, ← h]
    congr 1
    rw [Nat.succ_mul]
    omega
theorem flat_length {α : Type} {f : α → List Value} {size : Nat} (hf : ∀ x, (f x).length = size) : ∀ (xs : List α), (xs.flatMap f).length = xs.length * size
  | [] => by simp
  | x :: xs => by rw [List.flatMap_cons, List.length_append, hf, flat_length hf xs, List.length_cons, Nat.succ_mul]; omega

/-- The cells of one element of a row. -/
theorem RowR.elem {α : Type} {f : α → List Value} {size : Nat} {w : World} {A : Option Addr} {xs : List α} (h : RowR w A (xs.flatMap f)) (hf : ∀ x, (f x).length = size) (hs : 0 < size) {i : Nat} (hi : i < xs.length) :
    ∃ b o : Nat, A = some ⟨b, o, none⟩ ∧ ∀ j v, (f xs[i])[j]? = some v → w.cell? ⟨b, o + i * size + j, none⟩ = some v := by
  have h0 := flat_at hf xs i 0 hi hs
  have hl0 : 0 < (f xs[i]).length := by rw [hf]; exact hs
  rw [List.getElem?_eq_getElem (l := f xs[i]) hl0] at h0
  obtain ⟨b, o, hA, _⟩ := h _ _ h0
  refine ⟨b, o, hA, fun j v hj => ?_⟩
  have hjs : j < size := by
    have := (List.getElem?_eq_some_iff.1 hj).1
    rwa [hf] at this
  have h1 := flat_at hf xs i j hi hjs
  rw [hj] at h1
  obtain ⟨b', o', hA', hc⟩ := h _ _ h1
  rw [hA] at hA'
  injection hA' with hA'
  injection hA' with e1 e2 _
  subst e1 e2
  rw [Nat.add_assoc]
  exact hc

/-! ### append onto a row of the call's own -/
theorem addr_add (b o j : Nat) : (⟨b, o, none⟩ : Addr).add j = ⟨b, o + j, none⟩ := by unfold Addr.add; split <;> simp_all

section
variable {P : Program} (w : World)

theorem run_append_none (base : Nat) (t ty e : TypeId) (i : TypeInfo) (size : Nat) (ht : P.underlying t = some (.slice e)) (hi : P.info? e = some i)
    (v : Value) (n : Nat) (xs : List Value) (hown : w.ownsRow base e size v n xs) (c : Nat) : (Builtin.append_ #[t, t] ty #[v, .slice none 0 c]).run P w = .ok v w := by
  rcases hown.2 with ⟨rfl, rfl⟩ | ⟨g, cap, cur, rfl, _, _, hnc, _⟩
  · simp [Builtin.append_, run_underlying ht, sizeOf, typeInfo, hi, Builtin.lenOf, Builtin.firstCells]
  · simp [Builtin.append_, run_underlying ht, sizeOf, typeInfo, hi, Builtin.lenOf, Builtin.firstCells, hnc, storeCells]

theorem run_append_row (base : Nat) (t ty e : TypeId) (i : TypeInfo) (z : Value) (size bytes : Nat) (ht : P.underlying t = some (.slice e)) (hi : P.info? e = some i) (hz : i.zero = some z)
    (hsize : i.size = size) (hby : i.bytes = bytes) (hzs : z.cells.size = size) (hsz : 0 < size)
    (v : Value) (n : Nat) (xs : List Value) (hown : w.ownsRow base e size v n xs)
    (A : Option Addr) (m c : Nat) (news : List Value) (hl : news.length = m * size) (hr : RowR w A news) (h1 : ∀ u ∈ news, u.oneCell' = true)
    (h63 : n + m ≤ maxLen) (hbytes : (n + m) * bytes ≤ 140737488355328) (hbase : base ≤ w.heap.size) :
    ∃ v' w', (Builtin.append_ #[t, t] ty #[v, .slice A m c]).run P w = .ok v' w' ∧ w'.ownsRow base e size v' (n + m) (xs ++ news) ∧ w.grownBy w' v.ownBlock ∧
      (v'.ownBlock = v.ownBlock ∨ v'.ownBlock = some w.heap.size) := by
  rcases A with _ | ad
  · have hn : news = [] := hr.ne_none
    subst hn
    have hm : m = 0 := by
      rcases Nat.eq_zero_or_pos m with h0 | h0
      · exact h0
      · have := Nat.mul_pos h0 hsz
        simp at hl
        omega
    subst hm
    exact ⟨v, w, run_append_none w base t ty e i size ht hi v n xs hown c, by simpa using hown, World.grownBy.refl w _, .inl rfl⟩
  · have hcells : ∀ j u, news[j]? = some u → w.cell? (ad.add j) = some u := by
      intro j u hu
      obtain ⟨b, o, h1, h2⟩ := hr j u hu
      injection h1 with h1
      subst h1
      rw [addr_add]
      exact h2
    obtain ⟨v', w', hrun, h2, h3, _, h5⟩ := run_append_own_at (P := P) w base t ty e i z size bytes ht hi hz hsize hby hzs hsz v n xs hown ad m c news hl hcells h1 h63 hbytes hbase
    exact ⟨v', w', hrun, h2, h3, h5⟩

theorem wpList_append_row {ops : Array Oper} {rest : List Oper} {o : Oper} {a : Act} {Q : Exit → Act → World → Prop} (hgd : o.guard = none) (s x : Operand) (t : TypeId)
    (ho : o.op = .call { callee := .builtin .append, args := #[s, x], argTypes := #[t, t] })
    (base : Nat) (e : TypeId) (z : Value) (size bytes : Nat) (ht : P.underlying t = some (.slice e)) (hi : (P.info? e).map (fun i => (i.zero, i.size, i.bytes)) = some (some z, size, bytes))
    (hzs : z.cells.size = size) (hsz : 0 < size)
    (v : Value) (n : Nat) (xs : List Value) (hs : a.eval s = v) (hown : w.ownsRow base e size v n xs)
    (A : Option Addr) (m c : Nat) (news : List Value) (hx : a.eval x = .slice A m c) (hl : news.length = m * size) (hr : RowR w A news) (h1 : ∀ u ∈ news, u.oneCell' = true)
    (h63 : n + m ≤ maxLen) (hbytes : (n + m) * bytes ≤ 140737488355328) (hbase : base ≤ w.heap.size)
    (h : ∀ A' c' w', w'.ownsRow base e size (.slice A' (n + m) c') (n + m) (xs ++ news) → w.grownBy w' v.ownBlock → ((Value.slice A' (n + m) c').ownBlock = v.ownBlock ∨ (Value.slice A' (n + m) c').ownBlock = some w.heap.size) → wpList P ops Q rest (a.put o.dst (.slice A' (n + m) c')) w') : wpList P ops Q (o :: rest) a w := by
  obtain ⟨i, hi0, hz, hsize, hby⟩ := info_parts hi
  obtain ⟨v', w', hrun, h2, h3, h4⟩ := run_append_row (P := P) w base t o.type e i z size bytes ht hi0 hz hsize hby hzs hsz v n xs hown A m c news hl hr h1 h63 hbytes hbase
  obtain ⟨A', c', rfl, _, _⟩ := ownsRow_shape h2
  refine wpList_plain hgd fun _ hK => ?_
  unfold Oper.wp execOp
  simp only [ho, resolve, invoke, builtin, Sem.run_bind, Sem.run_pure, Result.andThen_ok, List.map_toArray, List.map_cons, List.map_nil, hs, hx, hrun]
  exact hK _ _ (h A' c' w' h2 h3 h4)
end

theorem Ext.grown {a w w' : World} {row : Option Nat} (h : Ext a w) (hg : w.grownBy w' row) (hr : ∀ k, row = some k → a.heap.size ≤ k) : Ext a w' :=
  h.chg_new (S := fun k => some k = row) (Ext.chg_of_grown hg) (fun k hk => hr k hk.symm)

theorem ownsRow_ext {w w' : World} {base : Nat} {e : TypeId} {size n : Nat} {v : Value} {xs : List Value} (h : w.ownsRow base e size v n xs) (k : Ext w w') : w'.ownsRow base e size v n xs := by
  refine ⟨h.1, ?_⟩
  rcases h.2 with h2 | ⟨g, cap, cur, hv, hg, hh, r⟩
  · exact .inl h2
  · refine .inr ⟨g, cap, cur, hv, hg, ?_, r⟩
    have hlt : g < w.heap.size := by
      rcases Nat.lt_or_ge g w.heap.size with hl | hl
      · exact hl
      · rw [Array.getElem?_eq_none hl] at hh
        cases hh
    rw [k.blockE hlt, hh]
theorem ownsRow_chgT {Ts : List Nat} {w w' : World} {base : Nat} {e : TypeId} {size n : Nat} {v : Value} {xs : List Value} (h : w.ownsRow base e size v n xs) (k : ChgT Ts w w') (hT : Ts.contains (e + 1) = false) : w'.ownsRow base e size v n xs := by
  refine ⟨h.1, ?_⟩
  rcases h.2 with h2 | ⟨g, cap, cur, hv, hg, hh, r⟩
  · exact .inl h2
  · exact .inr ⟨g, cap, cur, hv, hg, k.keep hh hT, r⟩

/-- 'out = append(out, x)': the element lies in a block of its own, made just before. -/
theorem wpList_append_one {P : Program} (w : World) {ops : Array Oper} {rest : List Oper} {o : Oper} {a : Act} {Q : Exit → Act → World → Prop} (hgd : o.guard = none) (s x : Operand) (t : TypeId)
    (ho : o.op = .call { callee := .builtin .append, args := #[s, x], argTypes := #[t, t] })
    (base : Nat) (e : TypeId) (z : Value) (size bytes : Nat) (ht : P.underlying t = some (.slice e)) (hi : (P.info? e).map (fun i => (i.zero, i.size, i.bytes)) = some (some z, size, bytes))
    (hzs : z.cells.size = size) (hsz : 0 < size) (hby : bytes ≤ 256)
    (A : Option Addr) (n c : Nat) (xs : List Value) (hs : a.eval s = .slice A n c) (us : Array Value) (hus : us.size = size) (h1 : us.toList.all (·.oneCell') = true)
    (hx : a.eval x = .slice (some ⟨w.heap.size, 0, none⟩) 1 1) (hown : w.ownsRow base e size (.slice A n c) n xs) (hlen : n ≤ 274877906944) (hbase : base ≤ w.heap.size)
    (h : ∀ A' c' w', w'.ownsRow base e size (.slice A' (n + 1) c') (n + 1) (xs ++ us.toList) → ChgT [e + 1] w w' → (∀ W0, W0.heap.size ≤ base → Ext W0 w → Ext W0 w') → wpList P ops Q rest (a.put o.dst (.slice A' (n + 1) c')) w') : wpList P ops Q (o :: rest) a (w.alloc (.cells us e)) := by
  have e1 := (Ext.refl w).alloc (.cells us e)
  have hown1 := ownsRow_ext hown e1
  refine wpList_append_row (P := P) (w.alloc (.cells us e)) hgd s x t ho base e z size bytes ht hi hzs hsz (.slice A n c) n xs hs hown1 (some ⟨w.heap.size, 0, none⟩) 1 1 us.toList hx (by simpa using hus) (RowR.of_blk (Blk.new w e us)) (fun u hu => by
    rw [List.all_eq_true] at h1
    exact h1 u hu) (by unfold maxLen; omega) (Nat.le_trans (Nat.mul_le_mul (show n + 1 ≤ 274877906945 by omega) hby) (by omega)) (Nat.le_trans hbase e1.size_le) ?_
  intro A' c' w' ho' hg hb
  refine h A' c' w' ho' ((e1.chgT _).trans (chgT_of_append hown1 hg)) (fun W0 hW hE => ?_)
  refine (hE.alloc _).grown hg (fun k hk => ?_)
  rcases hown1.2 with ⟨hv, _⟩ | ⟨g, cap, cur, hv, hgb, _⟩
  · rw [hv] at hk
    cases hk
  · rw [hv] at hk
    have : g = k := Option.some.inj hk
    omega

/-! ### Strings and bytes -/
def byteCells (s : ByteArray) : List Value := s.data.toList.map fun b => .int .u8 b.toNat
theorem byteCells_length (s : ByteArray) : (byteCells s).length = s.size := by simp [byteCells]
theorem heap_new (w : World) (o : Obj) : (w.alloc o).heap[w.heap.size]? = some o := by
  show (w.heap.push o)[w.heap.size]? = _
  simp
/-- '[]byte(s)': the run, and what it makes. -/
theorem run_to_bytes {P : Program} (w : World) (src dst e : TypeId) (s : ByteArray) (hs : P.underlying src = some .string) (hd : P.underlying dst = some (.slice e)) (he : P.underlying e = some (.int .u8)) (hm : s.size ≤ maxLen) :
    ∃ A c w', (convert src dst (.string s)).run P w = .ok (.slice A s.size c) w' ∧ SliceT w' e (.slice A s.size c) 1 s.size (byteCells s) ∧ Ext w w' := by
  refine ⟨_, _, _, run_bytes_of_string w src dst e s hs hd he, ⟨_, _, rfl, grownCap_ge _ _ _ _, grownCap_le_maxLen _ _ _ _ hm, by rw [byteCells_length, Nat.mul_one], ?_⟩, (Ext.refl w).drew.alloc _⟩
  intro i v hi
  have hil : i < s.data.size := by
    have := (List.getElem?_eq_some_iff.1 hi).1
    simpa [byteCells] using this
  refine ⟨_, 0, _, _, rfl, heap_new w.drew _, ?_⟩
  rw [Nat.zero_add, bytesRow_at s _ i hil]
  simp only [byteCells, List.getElem?_map, Option.map_eq_some_iff] at hi
  obtain ⟨b, hb, rfl⟩ := hi
  have : s.data[i] = b := by
    rw [Array.getElem?_toList, Array.getElem?_eq_getElem hil] at hb
    exact Option.some.inj hb
  rw [this]

theorem bytes_of_string (s : ByteArray) : (⟨s.data.toList.toArray⟩ : ByteArray) = s := by simp
/-- 'string(b)': the bytes' string. -/
theorem run_from_bytes {P : Program} (w : World) (src dst e : TypeId) (s : ByteArray) (A : Option Addr) (c : Nat) (hs : P.underlying src = some (.slice e)) (he : P.underlying e = some (.int .u8)) (hd : P.underlying dst = some .string)
    (hr : RowR w A (byteCells s)) : (convert src dst (.slice A s.size c)).run P w = .ok (.string s) w := by
  have hsz : s.size = s.data.toList.length := by simp
  rcases A with _ | a
  · have h0 : byteCells s = [] := hr.ne_none
    have h1 : s.data.toList = [] := by simpa [byteCells] using h0
    have h2 : s = .empty := by
      rw [← bytes_of_string s, h1]
      rfl
    subst h2
    rw [run_convert_bytes_string w src dst e none _ c hs he hd]
    rfl
  · have h := run_convert_bytes_back (P := P) w src dst e a c s.data.toList hs he hd (fun j hj => by
      obtain ⟨b, o, h1, h2⟩ := hr j (.int .u8 (s.data.toList[j].toNat : Int)) (by
        simp only [byteCells, List.getElem?_map, List.getElem?_eq_getElem hj, Option.map_some])
      injection h1 with h1
      subst h1
      rw [addr_add]
      exact h2)
    rw [hsz, h, bytes_of_string]

end Go.Proofs.Ytklhflbjkckhmaa
