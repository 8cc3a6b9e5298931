/- A window into a row of one's own: 'x = x[1:]', 'x = append(x, y)' again and again. -/
import Derived.Test.YtfoffejgpalmpaaAppend
namespace Go.Proofs.Ytfoffejgpalmpaa
open Go.ChangeShapes Go.WideShapes Go.ChangeAt Go.RowKit
set_option linter.unusedSimpArgs false
set_option linter.unusedVariables false

/-- v is a window of n elements, the cells xs, into a block of element type e that lies from base on; or nil. -/
def WinR (w : World) (base : Nat) (e : TypeId) (size : Nat) (v : Value) (n : Nat) (xs : List Value) : Prop :=
  xs.length = n * size ∧ ((v = .slice none 0 0 ∧ n = 0) ∨
    ∃ g off cap cur, v = .slice (some ⟨g, off, none⟩) n cap ∧ base ≤ g ∧ w.heap[g]? = some (.cells cur e (0, 0)) ∧ n ≤ cap ∧ cap ≤ maxLen ∧ off + cap * size ≤ cur.size ∧ (cur.toList.drop off).take (n * size) = xs)
theorem WinR.nil (w : World) (base : Nat) (e : TypeId) (size : Nat) : WinR w base e size (.slice none 0 0) 0 [] := ⟨by simp, .inl ⟨rfl, rfl⟩⟩
theorem WinR.of_own {w : World} {base : Nat} {e : TypeId} {size : Nat} {v : Value} {n : Nat} {xs : List Value} (h : w.ownsRow base e size v n xs) : WinR w base e size v n xs := by
  refine ⟨h.1, ?_⟩
  rcases h.2 with h2 | ⟨g, cap, cur, h1, h2, h3, h4, h5, h6, h7⟩
  · exact .inl h2
  · exact .inr ⟨g, 0, cap, cur, h1, h2, h3, h4, h5, by omega, by simpa using h7⟩
theorem WinR.shape {w : World} {base : Nat} {e : TypeId} {size : Nat} {v : Value} {n : Nat} {xs : List Value} (h : WinR w base e size v n xs) : ∃ A c, v = .slice A n c ∧ n ≤ c ∧ c ≤ maxLen := by
  rcases h.2 with ⟨rfl, rfl⟩ | ⟨g, off, cap, cur, rfl, _, _, h1, h2, _⟩
  · exact ⟨none, 0, rfl, Nat.le_refl _, by decide⟩
  · exact ⟨_, cap, rfl, h1, h2⟩
theorem WinR.lt {w : World} {base : Nat} {e : TypeId} {size : Nat} {v : Value} {n : Nat} {xs : List Value} (h : WinR w base e size v n xs) : ∀ k, v.ownBlock = some k → base ≤ k ∧ k < w.heap.size := by
  intro k hk
  rcases h.2 with ⟨rfl, _⟩ | ⟨g, off, cap, cur, rfl, hb, hg, _⟩
  · simp [Value.ownBlock] at hk
  · simp [Value.ownBlock] at hk
    subst hk
    exact ⟨hb, (Array.getElem?_eq_some_iff.1 hg).1⟩
/-- It stays where its block does. -/
theorem WinR.chg {S : Nat → Prop} {w w' : World} {base : Nat} {e : TypeId} {size : Nat} {v : Value} {n : Nat} {xs : List Value} (h : WinR w base e size v n xs) (hc : Chg S w w') (hs : ∀ k, v.ownBlock = some k → ¬ S k) : WinR w' base e size v n xs := by
  refine ⟨h.1, ?_⟩
  rcases h.2 with h2 | ⟨g, off, cap, cur, rfl, h2, h3, r⟩
  · exact .inl h2
  · exact .inr ⟨g, off, cap, cur, rfl, h2, (hc.blockC (Array.getElem?_eq_some_iff.1 h3).1 (hs g rfl)).trans h3, r⟩
theorem WinR.chgT {Ts : List Nat} {w w' : World} {base : Nat} {e : TypeId} {size : Nat} {v : Value} {n : Nat} {xs : List Value} (h : WinR w base e size v n xs) (hc : ChgT Ts w w') (hT : Ts.contains (e + 1) = false) : WinR w' base e size v n xs := by
  refine ⟨h.1, ?_⟩
  rcases h.2 with h2 | ⟨g, off, cap, cur, rfl, h2, h3, r⟩
  · exact .inl h2
  · exact .inr ⟨g, off, cap, cur, rfl, h2, hc.keep h3 hT, r⟩
theorem WinR.ext {w w' : World} {base : Nat} {e : TypeId} {size : Nat} {v : Value} {n : Nat} {xs : List Value} (h : WinR w base e size v n xs) (k : Ext w w') : WinR w' base e size v n xs :=
  h.chg (S := fun _ => False) k.chg (fun _ _ h => h)
theorem WinR.ne {w : World} {base b : Nat} {e T : TypeId} {size : Nat} {v : Value} {n : Nat} {xs : List Value} {cs : Array Value} (h : WinR w base e size v n xs) (hb : Blk w b T cs) (hT : e ≠ T) : ∀ k, v.ownBlock = some k → ¬ k = b := by
  intro k hk he
  subst he
  rcases h.2 with ⟨rfl, _⟩ | ⟨g, off, cap, cur, rfl, h2, h3, r⟩
  · cases hk
  · simp only [Value.ownBlock, Option.some.injEq] at hk
    subst hk
    have := hb.out
    rw [this] at h3
    injection h3 with h3
    injection h3 with _ h3
    exact hT h3.symm
theorem WinR.row {w : World} {base : Nat} {e : TypeId} {size n c : Nat} {A : Option Addr} {xs : List Value} (h : WinR w base e size (.slice A n c) n xs) : RowR w A xs := by
  intro i u hu
  rcases h.2 with ⟨hv, hn⟩ | ⟨g, off, cap, cur, hv, h2, h3, h4, h5, h6, h7⟩
  · have := h.1
    rw [hn] at this
    have : xs = [] := List.eq_nil_of_length_eq_zero (by simpa using this)
    subst this
    simp at hu
  · injection hv with hv
    subst hv
    refine ⟨g, off, rfl, ?_⟩
    rw [cell_of_row w g (off + i) cur e (0, 0) h3]
    rw [← h7, List.getElem?_take] at hu
    split at hu
    · rw [List.getElem?_drop] at hu
      simpa using hu
    · cases hu
/-- 'x[k:]' -/
theorem WinR.drop {w : World} {base : Nat} {e : TypeId} {size g off n c : Nat} {xs : List Value} (h : WinR w base e size (.slice (some ⟨g, off, none⟩) n c) n xs) (k : Nat) (hk : k ≤ n) : WinR w base e size (.slice (some ⟨g, off + k * size, none⟩) (n - k) (c - k)) (n - k) (xs.drop (k * size)) := by
  have hlen := h.1
  rcases h.2 with ⟨hv, hn⟩ | ⟨g', off', cap, cur, hv, h2, h3, h4, h5, h6, h7⟩
  · injection hv with hv
    cases hv
  · injection hv with e1 e2 e3
    injection e1 with e1
    injection e1 with e1 e4
    subst e1 e4 e3
    refine ⟨by rw [List.length_drop, hlen, Nat.sub_mul], .inr ⟨g, off + k * size, c - k, cur, rfl, h2, h3, by omega, by omega, ?_, ?_⟩⟩
    · have : k * size ≤ c * size := Nat.mul_le_mul_right _ (by omega)
      rw [Nat.sub_mul]
      omega
    · rw [← h7, List.drop_take, List.drop_drop, Nat.sub_mul]
/-- 'x[:k]' -/
theorem WinR.take {w : World} {base : Nat} {e : TypeId} {size n c : Nat} {A : Option Addr} {xs : List Value} (h : WinR w base e size (.slice A n c) n xs) (k : Nat) (hk : k ≤ n) : WinR w base e size (.slice A k c) k (xs.take (k * size)) := by
  have hlen := h.1
  rcases h.2 with ⟨hv, hn⟩ | ⟨g', off', cap, cur, hv, h2, h3, h4, h5, h6, h7⟩
  · injection hv with e1 e2 e3
    subst e1 hn e3
    have : k = 0 := by omega
    subst this
    exact ⟨by simp, .inl ⟨rfl, rfl⟩⟩
  · injection hv with e1 e2 e3
    subst e1 e3
    have hkn : k * size ≤ n * size := Nat.mul_le_mul_right _ hk
    refine ⟨by rw [List.length_take, hlen]; omega, .inr ⟨g', off', c, cur, rfl, h2, h3, by omega, h5, h6, ?_⟩⟩
    rw [← h7, List.take_take, Nat.min_eq_left hkn]

section
variable {P : Program} (w : World)
theorem run_append_room_off (t ty e : TypeId) (i : TypeInfo) (ht : P.underlying t = some (.slice e)) (hi : P.info? e = some i)
    (g off sLen sCap : Nat) (cur : Array Value) (hg : w.heap[g]? = some (.cells cur e (0, 0)))
    (a : Addr) (m c : Nat) (news : List Value) (hl : news.length = m * i.size) (hnews : ∀ j u, news[j]? = some u → w.cell? (a.add j) = some u) (h1 : ∀ u ∈ news, u.oneCell' = true)
    (hroom : sLen + m ≤ sCap) (hfit : off + sLen * i.size + news.length ≤ cur.size) :
    (Builtin.append_ #[t, t] ty #[.slice (some ⟨g, off, none⟩) sLen sCap, .slice (some a) m c]).run P w =
      .ok (.slice (some ⟨g, off, none⟩) (sLen + m) sCap) (w.setRow g (cur.toList.take (off + sLen * i.size) ++ news ++ cur.toList.drop (off + sLen * i.size + news.length)).toArray) := by
  have hf := run_firstCells_some (P := P) w i.size m a m c news hl hnews
  have hst := run_storeCells_at P g (off + sLen * i.size) e news 0 cur w hg (by simpa using hfit) h1
  simp only [Nat.add_zero] at hst
  simp [Builtin.append_, run_underlying ht, sizeOf, typeInfo, hi, Builtin.lenOf, hroom, hf, Addr.add_lit, hst]

theorem run_append_win (base : Nat) (t ty e : TypeId) (i : TypeInfo) (z : Value) (size bytes : Nat) (ht : P.underlying t = some (.slice e)) (hi : P.info? e = some i) (hz : i.zero = some z)
    (hsize : i.size = size) (hby : i.bytes = bytes) (hzs : z.cells.size = size) (hsz : 0 < size)
    (v : Value) (n : Nat) (xs : List Value) (hown : WinR w base e size v n xs)
    (a : Addr) (m c : Nat) (news : List Value) (hl : news.length = m * size) (hnews : ∀ j u, news[j]? = some u → w.cell? (a.add j) = some u) (h1 : ∀ u ∈ news, u.oneCell' = true)
    (h63 : n + m ≤ maxLen) (hbytes : (n + m) * bytes ≤ 140737488355328) (hbase : base ≤ w.heap.size) :
    ∃ v' w', (Builtin.append_ #[t, t] ty #[v, .slice (some a) m c]).run P w = .ok v' w' ∧ WinR w' base e size v' (n + m) (xs ++ news) ∧ w.grownBy w' v.ownBlock ∧ (v'.ownBlock = v.ownBlock ∨ v'.ownBlock = some w.heap.size) := by
  subst hsize
  subst hby
  have hsmall : n + m ≤ 9223372036854775807 := by simp only [maxLen] at h63; omega
  have hlen : (xs ++ news).length = (n + m) * i.size := by rw [List.length_append, hown.1, hl, Nat.add_mul]
  have grown : ∀ (old : Nat), old < n + m → ∀ (row : Option Nat),
      WinR (w.drew.alloc (.cells (xs.toArray ++ news.toArray ++ Builtin.zeroCells z.cells (grownCap w (n + m) old e - (n + m))) e)) base e i.size
        (.slice (some ⟨w.heap.size, 0, none⟩) (n + m) (grownCap w (n + m) old e)) (n + m) (xs ++ news) ∧
      w.grownBy (w.drew.alloc (.cells (xs.toArray ++ news.toArray ++ Builtin.zeroCells z.cells (grownCap w (n + m) old e - (n + m))) e)) row := by
    intro old ho row
    have hge := grownCap_ge w (n + m) old e
    have hcm : grownCap w (n + m) old e ≤ maxLen := grownCap_le_maxLen w (n + m) old e h63
    refine ⟨⟨hlen, .inr ⟨w.heap.size, 0, _, _, rfl, hbase, heap_alloc_new w.drew _, hge, hcm, ?_, ?_⟩⟩, ⟨rfl, rfl, rfl, by simp, fun k hk _ => (((Ext.refl w).drew).alloc _).blockE hk⟩⟩
    · simp only [Array.size_append, List.size_toArray, size_zeroCells, hzs, hown.1, hl, ← Nat.add_mul, Nat.zero_add]
      exact Nat.mul_le_mul_right _ (by omega)
    · simp only [Array.toList_append, List.append_assoc, List.drop_zero]
      rw [← List.append_assoc, ← hlen]
      exact List.take_left
  rcases hown.2 with ⟨rfl, rfl⟩ | ⟨g, off, cap, cur, rfl, hbg, hg, hnc, hcm, hcs, htake⟩
  · have hx : xs = [] := List.eq_nil_of_length_eq_zero (by simpa using hown.1)
    subst hx
    by_cases hm : m = 0
    · subst hm
      have hn : news = [] := List.eq_nil_of_length_eq_zero (by simpa using hl)
      subst hn
      refine ⟨.slice none 0 0, w, ?_, WinR.nil w base e i.size, ⟨rfl, rfl, rfl, Nat.le_refl _, fun _ _ _ => rfl⟩, .inl rfl⟩
      simp [Builtin.append_, run_underlying ht, sizeOf, typeInfo, hi, Builtin.lenOf, Builtin.firstCells, loadCells, loadCellsFrom]
    · have hr := run_append_nil (P := P) w t ty e i z ht hi hz a m c news hl hnews (by omega) (by omega) (by have hb := hbytes; simp only [Nat.zero_add] at hb; omega)
      have hgr := grown 0 (by omega) (Value.ownBlock (.slice none 0 0))
      simp only [Nat.zero_add, List.nil_append, Array.empty_append] at hgr ⊢
      exact ⟨_, _, hr, hgr.1, hgr.2, .inr rfl⟩
  · by_cases hroom : n + m ≤ cap
    · have hfit : off + n * i.size + news.length ≤ cur.size := by
        have : (n + m) * i.size ≤ cap * i.size := Nat.mul_le_mul_right _ hroom
        rw [Nat.add_mul, ← hl] at this
        omega
      have hr := run_append_room_off (P := P) w t ty e i ht hi g off n cap cur hg a m c news hl hnews h1 hroom hfit
      refine ⟨_, _, hr, ⟨hlen, .inr ⟨g, off, cap, _, rfl, hbg, setRow_heap w g cur _ e _ hg, hroom, hcm, ?_, ?_⟩⟩, ⟨rfl, rfl, rfl, by simp, fun k _ hk => setRow_other w g k _ (fun e => hk (by simp [Value.ownBlock, e]))⟩, .inl rfl⟩
      · simp only [List.size_toArray, List.length_append, List.length_take, List.length_drop, Array.length_toList]
        omega
      · have hxl := hown.1
        have e1 : (cur.toList.take (off + n * i.size)).drop off = xs := by rw [List.drop_take, Nat.add_sub_cancel_left, htake]
        have e0 : off ≤ (cur.toList.take (off + n * i.size)).length := by
          rw [List.length_take, Array.length_toList]
          omega
        rw [List.append_assoc, List.drop_append_of_le_length e0, e1, ← List.append_assoc, ← hlen]
        exact List.take_left
    · have holds : ∀ j u, xs[j]? = some u → w.cell? ((⟨g, off, none⟩ : Addr).add j) = some u := by
        intro j u hu
        obtain ⟨b, o, e1, e2⟩ := hown.row j u hu
        injection e1 with e1
        injection e1 with e1 e3
        subst e1 e3
        rw [addr_add]
        exact e2
      have hr := run_append_grow (P := P) w t ty e i z ht hi hz ⟨g, off, none⟩ n cap xs hown.1 holds a m c news hl hnews (by omega) (by omega) (growslice_fits (by omega) hbytes)
      have hgr := grown cap (by omega) (Value.ownBlock (.slice (some ⟨g, off, none⟩) n cap))
      exact ⟨_, _, hr, hgr.1, hgr.2, .inr rfl⟩
end

/-- 'x = append(x, y)' on a window: the element lies in a block of its own, made just before. -/
theorem wpList_append_win {P : Program} (w : World) {ops : Array Oper} {rest : List Oper} {o : Oper} {a : Act} {Q : Exit → Act → World → Prop} (hgd : o.guard = none) (s x : Operand) (t : TypeId)
    (ho : o.op = .call { callee := .builtin .append, args := #[s, x], argTypes := #[t, t] })
    (base : Nat) (e : TypeId) (z : Value) (size bytes : Nat) (ht : P.underlying t = some (.slice e)) (hi : (P.info? e).map (fun i => (i.zero, i.size, i.bytes)) = some (some z, size, bytes))
    (hzs : z.cells.size = size) (hsz : 0 < size) (hby : bytes ≤ 256)
    (A : Option Addr) (n c : Nat) (xs : List Value) (hs : a.eval s = .slice A n c) (us : Array Value) (hus : us.size = size) (h1 : us.toList.all (·.oneCell') = true)
    (hx : a.eval x = .slice (some ⟨w.heap.size, 0, none⟩) 1 1) (hown : WinR w base e size (.slice A n c) n xs) (hlen : n ≤ 274877906944) (hbase : base ≤ w.heap.size)
    (h : ∀ A' c' w', WinR w' base e size (.slice A' (n + 1) c') (n + 1) (xs ++ us.toList) → (∀ W0, W0.heap.size ≤ base → Ext W0 w → Ext W0 w') → Chg (fun j => A.map (·.block) = some j) w w' →
      (A'.map (·.block) = A.map (·.block) ∨ A'.map (·.block) = some (w.heap.size + 1)) → wpList P ops Q rest (a.put o.dst (.slice A' (n + 1) c')) w') : wpList P ops Q (o :: rest) a (w.alloc (.cells us e)) := by
  have e1 := (Ext.refl w).alloc (.cells us e)
  have hown1 := hown.ext e1
  obtain ⟨i, hi0, hz, hsize, hby'⟩ := info_parts hi
  have hob : ∀ (A : Option Addr) (n c : Nat), (Value.slice A n c).ownBlock = A.map (·.block) := by
    intro A n c
    cases A <;> rfl
  obtain ⟨v', w', hrun, h2, h3, h4⟩ := run_append_win (P := P) (w.alloc (.cells us e)) base t o.type e i z size bytes ht hi0 hz hsize hby' hzs hsz (.slice A n c) n xs hown1 ⟨w.heap.size, 0, none⟩ 1 1 us.toList (by simpa using hus) (fun j u hu => by
    rw [addr_add, Nat.zero_add, (Blk.new w e us).cell]
    simpa using hu) (fun u hu => by
    rw [List.all_eq_true] at h1
    exact h1 u hu) (by unfold maxLen; omega) (Nat.le_trans (Nat.mul_le_mul (show n + 1 ≤ 274877906945 by omega) hby) (by omega)) (Nat.le_trans hbase e1.size_le)
  obtain ⟨A', c', rfl, _, _⟩ := h2.shape
  rw [hob, hob] at h4
  rw [hob] at h3
  have hsz1 : (w.alloc (.cells us e)).heap.size = w.heap.size + 1 := by simp
  rw [hsz1] at h4
  refine wpList_plain hgd fun _ hK => ?_
  unfold Oper.wp execOp
  simp only [ho, resolve, invoke, builtin, Sem.run_bind, Sem.run_pure, Result.andThen_ok, List.map_toArray, List.map_cons, List.map_nil, hs, hx, hrun]
  refine hK _ _ (h A' c' w' h2 (fun W0 hW hE => ?_) (e1.chg.trans ((Ext.chg_of_grown h3).mono (fun k _ hk => hk.symm))) h4)
  exact (hE.alloc _).grown h3 (fun k hk => by
    have := (hown1.lt k (by rw [hob]; exact hk)).1
    omega)

end Go.Proofs.Ytfoffejgpalmpaa
