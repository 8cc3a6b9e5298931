/- Append of one element to a row of one's own: only the row's own block turns. -/
import Derived.Test.YtfoffejgpalmpaaMem
namespace Go.Proofs.Ytfoffejgpalmpaa
open Go.ChangeShapes Go.WideShapes Go.ChangeAt Go.RowKit

theorem wpList_append_keep {P : Program} (w : World) {ops : Array Oper} {rest : List Oper} {o : Oper} {a : Act} {Q : Exit → Act → World → Prop} (hgd : o.guard = none) (s x : Operand) (t : TypeId)
    (ho : o.op = .call { callee := .builtin .append, args := #[s, x], argTypes := #[t, t] })
    (base : Nat) (e : TypeId) (z : Value) (size bytes : Nat) (ht : P.underlying t = some (.slice e)) (hi : (P.info? e).map (fun i => (i.zero, i.size, i.bytes)) = some (some z, size, bytes))
    (hzs : z.cells.size = size) (hsz : 0 < size) (hby : bytes ≤ 256)
    (A : Option Addr) (n c : Nat) (xs : List Value) (hs : a.eval s = .slice A n c) (us : Array Value) (hus : us.size = size) (h1 : us.toList.all (·.oneCell') = true)
    (hx : a.eval x = .slice (some ⟨w.heap.size, 0, none⟩) 1 1) (hown : w.ownsRow base e size (.slice A n c) n xs) (hlen : n ≤ 274877906944) (hbase : base ≤ w.heap.size)
    (h : ∀ A' c' w', w'.ownsRow base e size (.slice A' (n + 1) c') (n + 1) (xs ++ us.toList) → ChgT [e + 1] w w' → (∀ W0, W0.heap.size ≤ base → Ext W0 w → Ext W0 w') → Chg (fun j => A.map (·.block) = some j) w w' → wpList P ops Q rest (a.put o.dst (.slice A' (n + 1) c')) w') : wpList P ops Q (o :: rest) a (w.alloc (.cells us e)) := by
  have e1 := (Ext.refl w).alloc (.cells us e)
  have hown1 := ownsRow_ext hown e1
  refine wpList_append_row (P := P) (w.alloc (.cells us e)) hgd s x t ho base e z size bytes ht hi hzs hsz (.slice A n c) n xs hs hown1 (some ⟨w.heap.size, 0, none⟩) 1 1 us.toList hx (by simpa using hus) (RowR.of_blk (Blk.new w e us)) (fun u hu => by
    rw [List.all_eq_true] at h1
    exact h1 u hu) (by unfold maxLen; omega) (Nat.le_trans (Nat.mul_le_mul (show n + 1 ≤ 274877906945 by omega) hby) (by omega)) (Nat.le_trans hbase e1.size_le) ?_
  intro A' c' w' ho' hg hb
  refine h A' c' w' ho' ((e1.chgT _).trans (chgT_of_append hown1 hg)) (fun W0 hW hE => ?_) ?_
  · refine (hE.alloc _).grown hg (fun k hk => ?_)
    rcases hown1.2 with ⟨hv, _⟩ | ⟨g, cap, cur, hv, hgb, _⟩
    · rw [hv] at hk
      cases hk
    · rw [hv] at hk
      have : g = k := Option.some.inj hk
      omega
  · refine e1.chg.trans ((Ext.chg_of_grown hg).mono (fun k _ hk => ?_))
    cases A with
    | none => cases hk
    | some p => simpa [Value.ownBlock] using hk.symm

theorem ChgT.size_le {Ts : List Nat} {a b : World} (h : ChgT Ts a b) : a.heap.size ≤ b.heap.size := by
  unfold ChgT at h
  exact h.2.2.2.1
/-- A row of one's own lies in a block that is there. -/
theorem own_lt {w : World} {base : Nat} {e : TypeId} {size n c : Nat} {A : Option Addr} {xs : List Value} (h : w.ownsRow base e size (.slice A n c) n xs) {j : Nat} (hj : A.map (·.block) = some j) : base ≤ j ∧ j < w.heap.size := by
  rcases h.2 with ⟨hv, _⟩ | ⟨g, cap, cur, hv, hg, hh, _⟩
  · injection hv with hv
    subst hv
    cases hj
  · injection hv with hv
    subst hv
    simp only [Option.map_some, Option.some.injEq] at hj
    subst hj
    refine ⟨hg, ?_⟩
    rcases Nat.lt_or_ge g w.heap.size with hl | hl
    · exact hl
    · rw [Array.getElem?_eq_none hl] at hh
      cases hh

end Go.Proofs.Ytfoffejgpalmpaa
