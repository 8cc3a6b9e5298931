/- copy of elements of any width into a block that is known whole. -/
import Derived.Test.YtfoffejgpalmpaaRow
import Derived.Laws.IdiomCopy
namespace Go.Proofs.Ytfoffejgpalmpaa
open Go.ChangeShapes Go.WideShapes Go.ChangeAt Go.RowKit
set_option linter.unusedSimpArgs false

/-- copy(dst, src), dst a whole block of its own, src a row: the first n elements are src's. -/
theorem wpList_copy_wide {P : Program} {w : World} {ops : Array Oper} {rest : List Oper} {o : Oper} {a : Act} {Q : Exit → Act → World → Prop} (hgd : o.guard = none) (d s : Operand) (dT sT : TypeId)
    (ho : o.op = .call { callee := .builtin .copy, args := #[d, s], argTypes := #[dT, sT] }) (elem : TypeId) (size : Nat) (hu : P.underlying dT = some (.slice elem)) (hsz : (P.info? elem).map (·.size) = some size) (hpos : 0 < size)
    (g dLen dCap : Nat) (A : Option Addr) (sLen sCap : Nat) (hd : a.eval d = .slice (some ⟨g, 0, none⟩) dLen dCap) (hs : a.eval s = .slice A sLen sCap) (hle : sLen ≤ dLen)
    (T : TypeId) (cs old post : List Value) (hb : Blk w g T (old ++ post).toArray) (ho2 : old.length = cs.length) (hn : cs.length = sLen * size) (hsrc : RowR w A cs) (h1 : ∀ v ∈ cs, v.oneCell' = true)
    (h : ∀ w', Blk w' g T (cs ++ post).toArray → Chg (· = g) w w' → wpList P ops Q rest (a.put o.dst (goInt sLen)) w') : wpList P ops Q (o :: rest) a w := by
  refine wpList_plain hgd fun K hK => ?_
  obtain ⟨i, hi0, hi1⟩ : ∃ i, P.info? elem = some i ∧ i.size = size := by
    cases hq : P.info? elem with
    | none => simp [hq] at hsz
    | some i => exact ⟨i, rfl, by simpa [hq] using hsz⟩
  have hmin : Nat.min sLen dLen = sLen := Nat.min_eq_left hle
  have key := blk_setCells (b := g) (T := T) cs [] post old w ho2 (by simpa using hb)
  have hrun : (Builtin.copy_ #[dT, sT] o.type #[.slice (some ⟨g, 0, none⟩) dLen dCap, .slice A sLen sCap]).run P w = .ok (goInt sLen) (w.setCells g 0 cs) := by
    rcases A with _ | ad
    · have hc : cs = [] := hsrc.ne_none
      subst hc
      have h0 : sLen = 0 := by
        rcases Nat.eq_zero_or_pos sLen with h | h
        · exact h
        · have := Nat.mul_pos h hpos
          simp at hn
          omega
      subst h0
      simp [Builtin.copy_, run_underlying hu, Builtin.lenOf, Builtin.firstCells, sizeOf, typeInfo, hi0, storeCells, World.setCells]
    · have hl := run_loadCells_list (P := P) w ad cs (fun j v hv => by
        obtain ⟨b, o, e1, e2⟩ := hsrc j v hv
        injection e1 with e1
        subst e1
        rw [addr_add]
        exact e2)
      have hst := run_storeCells_cells (P := P) g 0 cs 0 w (fun j hj => by
        rw [hb.cell]
        simp
        omega) (fun j hj => hb.thaw _) h1
      rw [hn] at hl
      simp [Builtin.copy_, run_underlying hu, Builtin.lenOf, Builtin.firstCells, sizeOf, typeInfo, hi0, hi1, hmin, hl, hst]
  unfold Oper.wp
  simp [execOp, ho, resolve, invoke, builtin, hd, hs, hrun, Result.andThen]
  exact hK _ _ (h _ (by simpa using key.1) key.2)

end Go.Proofs.Ytfoffejgpalmpaa
