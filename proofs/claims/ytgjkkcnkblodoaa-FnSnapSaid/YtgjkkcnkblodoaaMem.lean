/- Rows of cells behind a slice's address; append onto a row of the call's own; strings as bytes and back. -/
import Derived.Test.YtgjkkcnkblodoaaLib
import Derived.Maps.AppendAt
import Derived.Laws.IdiomStrings
namespace Go.Proofs.Ytgjkkcnkblodoaa
open Go.ChangeShapes Go.WideShapes Go.ChangeAt Go.RowKit

/-- Behind the address A the cells vs stand in a row. -/
def RowR (w : World) (A : Option Addr) (vs : List Value) : Prop := ∀ i v, vs[i]? = some v → ∃ b o : Nat, A = some ⟨b, o, none⟩ ∧ w.cell? ⟨b, o + i, none⟩ = some v

theorem RowR.nil (w : World) (A : Option Addr) : RowR w A [] := fun i v h => by simp at h
theorem RowR.ext {w w' : World} {A : Option Addr} {vs : List Value} (h : RowR w A vs) (e : Ext w w') : RowR w' A vs := fun i v hi => by
  obtain ⟨b, o, h1, h2⟩ := h i v hi
  exact ⟨b, o, h1, e.cellE h2⟩
theorem RowR.at_ {w : World} {A : Option Addr} {vs : List Value} (h : RowR w A vs) {i : Nat} (hi : i < vs.length) : ∃ b o : Nat, A = some ⟨b, o, none⟩ ∧ w.cell? ⟨b, o + i, none⟩ = some vs[i] := h i _ (List.getElem?_eq_getElem hi)
theorem RowR.take {w : World} {A : Option Addr} {vs : List Value} (h : RowR w A vs) (n : Nat) : RowR w A (vs.take n) := fun i v hi => by
  refine h i v ?_
  rw [List.getElem?_take] at hi
  split at hi
  · exact hi
  · cases hi
theorem RowR.ne_none {w : World} {vs : List Value} (h : RowR w none vs) : vs = [] := by
  cases vs with
  | nil => rfl
  | cons v vs =>
    obtain ⟨b, o, h1, _⟩ := h 0 v rfl
    cases h1
theorem RowR.of_own {w : World} {base : Nat} {e : TypeId} {size n c : Nat} {A : Option Addr} {xs : List Value} (h : w.ownsRow base e size (.slice A n c) n xs) : RowR w A xs := by
  intro i v hi
  rcases h.2 with ⟨hv, hn⟩ | ⟨g, cap, cur, hv, _, _, _, _, _, _⟩
  · have := h.1
    subst hn
    have hx : xs = [] := List.eq_nil_of_length_eq_zero (by simpa using this)
    subst hx
    simp at hi
  · injection hv with hA _ _
    subst hA
    have := h.cells (g := g) rfl i v hi
    refine ⟨g, 0, rfl, ?_⟩
    rw [Nat.zero_add]
    unfold Addr.add at this
    split at this
    · rename_i h0
      subst h0
      exact this
    · simpa using this
theorem RowR.of_blk {w : World} {b : Nat} {T : TypeId} {cs : Array Value} (h : Blk w b T cs) : RowR w (some ⟨b, 0, none⟩) cs.toList := fun i v hi =>
  ⟨b, 0, rfl, by rw [Nat.zero_add, h.cell]; simpa using hi⟩
/-- A row of elements of 'size' cells, cut at its head. -/
theorem RowR.drop {w : World} {b o : Nat} {vs : List Value} (h : RowR w (some ⟨b, o, none⟩) vs) (k : Nat) : RowR w (some ⟨b, o + k, none⟩) (vs.drop k) := fun i v hi => by
  rw [List.getElem?_drop] at hi
  obtain ⟨b', o', h1, h2⟩ := h _ v hi
  injection h1 with h1
  injection h1 with h3 h4 _
  subst h3 h4
  exact ⟨b, o + k, rfl, by rw [Nat.add_assoc]; exact h2⟩

/-- The slice value v holds n elements of 'size' cells each, the cells vs. -/
def SliceR (w : World) (v : Value) (size n : Nat) (vs : List Value) : Prop := ∃ (A : Option Addr) (c : Nat), v = .slice A n c ∧ n ≤ c ∧ c ≤ maxLen ∧ vs.length = n * size ∧ RowR w A vs
theorem SliceR.ext {w w' : World} {v : Value} {size n : Nat} {vs : List Value} (h : SliceR w v size n vs) (e : Ext w w') : SliceR w' v size n vs := by
  obtain ⟨A, c, h1, h2, h3, h4, h5⟩ := h
  exact ⟨A, c, h1, h2, h3, h4, h5.ext e⟩
theorem SliceR.of_own {w : World} {base : Nat} {e : TypeId} {size n : Nat} {v : Value} {xs : List Value} (h : w.ownsRow base e size v n xs) : SliceR w v size n xs := by
  have h' := h
  rcases h.2 with ⟨hv, hn⟩ | ⟨g, cap, cur, hv, _, _, hnc, hcm, _, _⟩
  · subst hv hn
    exact ⟨none, 0, rfl, Nat.le_refl _, by simp [maxLen], h.1, RowR.of_own h'⟩
  · subst hv
    exact ⟨_, cap, rfl, hnc, hcm, h.1, RowR.of_own h'⟩

theorem ownsRow_shape {w : World} {base : Nat} {e : TypeId} {size n : Nat} {v : Value} {xs : List Value} (h : w.ownsRow base e size v n xs) : ∃ A c, v = .slice A n c ∧ n ≤ c ∧ c ≤ maxLen := by
  rcases h.2 with ⟨hv, hn⟩ | ⟨g, cap, cur, hv, _, _, hnc, hcm, _, _⟩
  · subst hv hn
    exact ⟨none, 0, rfl, Nat.le_refl _, by simp [maxLen]⟩
  · exact ⟨_, cap, hv, hnc, hcm⟩

/-! ### append onto a row of the call's own -/
theorem addr_add (b o j : Nat) : (⟨b, o, none⟩ : Addr).add j = ⟨b, o + j, none⟩ := by unfold Addr.add; split <;> simp_all

section
variable {P : Program} (w : World)

theorem run_append_none (base : Nat) (t ty e : TypeId) (i : TypeInfo) (size : Nat) (ht : P.underlying t = some (.slice e)) (hi : P.info? e = some i)
    (v : Value) (n : Nat) (xs : List Value) (hown : w.ownsRow base e size v n xs) (c : Nat) : (Builtin.append_ #[t, t] ty #[v, .slice none 0 c]).run P w = .ok v w := by
  rcases hown.2 with ⟨rfl, rfl⟩ | ⟨g, cap, cur, rfl, _, _, hnc, _⟩
  · simp [Builtin.append_, run_underlying ht, sizeOf, typeInfo, hi, Builtin.lenOf, Builtin.firstCells]
  · simp [Builtin.append_, run_underlying ht, sizeOf, typeInfo, hi, Builtin.lenOf, Builtin.firstCells, hnc, storeCells]

theorem run_append_row (base : Nat) (t ty e : TypeId) (i : TypeInfo) (z : Value) (size bytes : Nat) (ht : P.underlying t = some (.slice e)) (hi : P.info? e = some i) (hz : i.zero = some z)
    (hsize : i.size = size) (hby : i.bytes = bytes) (hzs : z.cells.size = size) (hsz : 0 < size)
    (v : Value) (n : Nat) (xs : List Value) (hown : w.ownsRow base e size v n xs)
    (A : Option Addr) (m c : Nat) (news : List Value) (hl : news.length = m * size) (hr : RowR w A news) (h1 : ∀ u ∈ news, u.oneCell' = true)
    (h63 : n + m ≤ maxLen) (hbytes : (n + m) * bytes ≤ 140737488355328) (hbase : base ≤ w.heap.size) :
    ∃ v' w', (Builtin.append_ #[t, t] ty #[v, .slice A m c]).run P w = .ok v' w' ∧ w'.ownsRow base e size v' (n + m) (xs ++ news) ∧ w.grownBy w' v.ownBlock ∧
      (v'.ownBlock = v.ownBlock ∨ v'.ownBlock = some w.heap.size) := by
  rcases A with _ | ad
  · have hn : news = [] := hr.ne_none
    subst hn
    have hm : m = 0 := by
      rcases Nat.eq_zero_or_pos m with h0 | h0
      · exact h0
      · have := Nat.mul_pos h0 hsz
        simp at hl
        omega
    subst hm
    exact ⟨v, w, run_append_none w base t ty e i size ht hi v n xs hown c, by simpa using hown, World.grownBy.refl w _, .inl rfl⟩
  · have hcells : ∀ j u, news[j]? = some u → w.cell? (ad.add j) = some u := by
      intro j u hu
      obtain ⟨b, o, h1, h2⟩ := hr j u hu
      injection h1 with h1
      subst h1
      rw [addr_add]
      exact h2
    obtain ⟨v', w', hrun, h2, h3, _, h5⟩ := run_append_own_at (P := P) w base t ty e i z size bytes ht hi hz hsize hby hzs hsz v n xs hown ad m c news hl hcells h1 h63 hbytes hbase
    exact ⟨v', w', hrun, h2, h3, h5⟩

theorem wpList_append_row {ops : Array Oper} {rest : List Oper} {o : Oper} {a : Act} {Q : Exit → Act → World → Prop} (hgd : o.guard = none) (s x : Operand) (t : TypeId)
    (ho : o.op = .call { callee := .builtin .append, args := #[s, x], argTypes := #[t, t] })
    (base : Nat) (e : TypeId) (z : Value) (size bytes : Nat) (ht : P.underlying t = some (.slice e)) (hi : (P.info? e).map (fun i => (i.zero, i.size, i.bytes)) = some (some z, size, bytes))
    (hzs : z.cells.size = size) (hsz : 0 < size)
    (v : Value) (n : Nat) (xs : List Value) (hs : a.eval s = v) (hown : w.ownsRow base e size v n xs)
    (A : Option Addr) (m c : Nat) (news : List Value) (hx : a.eval x = .slice A m c) (hl : news.length = m * size) (hr : RowR w A news) (h1 : ∀ u ∈ news, u.oneCell' = true)
    (h63 : n + m ≤ maxLen) (hbytes : (n + m) * bytes ≤ 140737488355328) (hbase : base ≤ w.heap.size)
    (h : ∀ A' c' w', w'.ownsRow base e size (.slice A' (n + m) c') (n + m) (xs ++ news) → w.grownBy w' v.ownBlock → ((Value.slice A' (n + m) c').ownBlock = v.ownBlock ∨ (Value.slice A' (n + m) c').ownBlock = some w.heap.size) → wpList P ops Q rest (a.put o.dst (.slice A' (n + m) c')) w') : wpList P ops Q (o :: rest) a w := by
  obtain ⟨i, hi0, hz, hsize, hby⟩ := info_parts hi
  obtain ⟨v', w', hrun, h2, h3, h4⟩ := run_append_row (P := P) w base t o.type e i z size bytes ht hi0 hz hsize hby hzs hsz v n xs hown A m c news hl hr h1 h63 hbytes hbase
  obtain ⟨A', c', rfl, _, _⟩ := ownsRow_shape h2
  refine wpList_plain hgd fun _ hK => ?_
  unfold Oper.wp execOp
  simp only [ho, resolve, invoke, builtin, Sem.run_bind, Sem.run_pure, Result.andThen_ok, List.map_toArray, List.map_cons, List.map_nil, hs, hx, hrun]
  exact hK _ _ (h A' c' w' h2 h3 h4)
end

theorem Ext.grown {a w w' : World} {row : Option Nat} (h : Ext a w) (hg : w.grownBy w' row) (hr : ∀ k, row = some k → a.heap.size ≤ k) : Ext a w' :=
  h.chg_new (S := fun k => some k = row) (Ext.chg_of_grown hg) (fun k hk => hr k hk.symm)

/-! ### Strings and bytes -/
def byteCells (s : ByteArray) : List Value := s.data.toList.map fun b => .int .u8 b.toNat
theorem byteCells_length (s : ByteArray) : (byteCells s).length = s.size := by simp [byteCells]
/-- '[]byte(s)': the run, and what it makes. -/
theorem run_to_bytes {P : Program} (w : World) (src dst e : TypeId) (s : ByteArray) (hs : P.underlying src = some .string) (hd : P.underlying dst = some (.slice e)) (he : P.underlying e = some (.int .u8)) (hm : s.size ≤ maxLen) :
    ∃ A c w', (convert src dst (.string s)).run P w = .ok (.slice A s.size c) w' ∧ SliceR w' (.slice A s.size c) 1 s.size (byteCells s) ∧ Ext w w' := by
  refine ⟨_, _, _, run_bytes_of_string w src dst e s hs hd he, ⟨_, _, rfl, grownCap_ge _ _ _ _, grownCap_le_maxLen _ _ _ _ hm, by rw [byteCells_length, Nat.mul_one], ?_⟩, (Ext.refl w).drew.alloc _⟩
  intro i v hi
  refine ⟨_, 0, rfl, ?_⟩
  have hil : i < s.data.size := by
    have := (List.getElem?_eq_some_iff.1 hi).1
    simpa [byteCells] using this
  rw [Nat.zero_add]
  refine (World.cell?_alloc_mark w.drew _ _ _ i).trans ?_
  rw [bytesRow_at s _ i hil]
  simp only [byteCells, List.getElem?_map, Option.map_eq_some_iff] at hi
  obtain ⟨b, hb, rfl⟩ := hi
  have : s.data[i] = b := by
    rw [Array.getElem?_toList, Array.getElem?_eq_getElem hil] at hb
    exact Option.some.inj hb
  rw [this]

theorem bytes_of_string (s : ByteArray) : (⟨s.data.toList.toArray⟩ : ByteArray) = s := by simp
/-- 'string(b)': the bytes' string. -/
theorem run_from_bytes {P : Program} (w : World) (src dst e : TypeId) (s : ByteArray) (A : Option Addr) (c : Nat) (hs : P.underlying src = some (.slice e)) (he : P.underlying e = some (.int .u8)) (hd : P.underlying dst = some .string)
    (hr : RowR w A (byteCells s)) : (convert src dst (.slice A s.size c)).run P w = .ok (.string s) w := by
  have hsz : s.size = s.data.toList.length := by simp
  rcases A with _ | a
  · have h0 : byteCells s = [] := hr.ne_none
    have h1 : s.data.toList = [] := by simpa [byteCells] using h0
    have h2 : s = .empty := by
      rw [← bytes_of_string s, h1]
      rfl
    subst h2
    rw [run_convert_bytes_string w src dst e none _ c hs he hd]
    rfl
  · have h := run_convert_bytes_back (P := P) w src dst e a c s.data.toList hs he hd (fun j hj => by
      obtain ⟨b, o, h1, h2⟩ := hr j (.int .u8 (s.data.toList[j].toNat : Int)) (by
        simp only [byteCells, List.getElem?_map, List.getElem?_eq_getElem hj, Option.map_some])
      injection h1 with h1
      subst h1
      rw [addr_add]
      exact h2)
    rw [hsz, h, bytes_of_string]

end Go.Proofs.Ytgjkkcnkblodoaa
