/- Single changes of a configuration: what singleTo and singlesTo make. -/
import Derived.Test.YtgjkkcnkblodoaaConf
import Derived.Deep.LoopGhost
namespace Go.Proofs.Ytgjkkcnkblodoaa
open Go.ChangeShapes Go.WideShapes Go.ChangeAt Go.RowKit
set_option linter.unusedSimpArgs false
set_option linter.unusedVariables false

structure Single where
  kind : Int
  node : Int
def singleCells (x : Single) : List Value := [.int .i64 x.kind, .int .u64 x.node]
theorem singleCells_len (x : Single) : (singleCells x).length = 2 := rfl
/-- The changes as the law's data. -/
def SinglesA (w : World) (v : Value) (xs : List Single) : Prop := SliceR w v 2 xs.length (xs.flatMap singleCells)
theorem SinglesA.ext {w w' : World} {v : Value} {xs : List Single} (h : SinglesA w v xs) (e : Ext w w') : SinglesA w' v xs := SliceR.ext h e
/-- The same, in new memory. -/
def SinglesT (w : World) (v : Value) (xs : List Single) : Prop := SliceT w 42 v 2 xs.length (xs.flatMap singleCells)
theorem SinglesT.chgT {Ts : List Nat} {w w' : World} {v : Value} {xs : List Single} (h : SinglesT w v xs) (e : ChgT Ts w w') (hT : Ts.contains (42 + 1) = false) : SinglesT w' v xs := SliceT.chgT h e hT
theorem SinglesT.ext {w w' : World} {v : Value} {xs : List Single} (h : SinglesT w v xs) (e : Ext w w') : SinglesT w' v xs := SliceT.ext h e
theorem SinglesT.old {w : World} {v : Value} {xs : List Single} (h : SinglesT w v xs) : SinglesA w v xs := SliceT.slice h
/-- One change behind a pointer. -/
def SingleP (w : World) (v : Value) (x : Single) : Prop :=
  ∃ (b : Nat) (v0 v1 : Value), v = .pointer (some ⟨b, 0, none⟩) ∧ Blk w b 96 #[v0, v1] ∧ PtrR w v0 60 (.int .i32 (wrap32 x.kind)) ∧ PtrR w v1 22 (.int .u64 x.node)
def singleTs : List Nat := [96 + 1, 60 + 1, 22 + 1]
theorem SingleP.chgT {Ts : List Nat} {w w' : World} {v : Value} {x : Single} (h : SingleP w v x) (e : ChgT Ts w w') (hT : ∀ x ∈ singleTs, Ts.contains x = false) : SingleP w' v x := by
  obtain ⟨b, v0, v1, h1, h2, h3, h4⟩ := h
  exact ⟨b, v0, v1, h1, h2.chgT e (hT _ (by simp [singleTs])), h3.chgT e (hT _ (by simp [singleTs])), h4.chgT e (hT _ (by simp [singleTs]))⟩
theorem SingleP.ext {w w' : World} {v : Value} {x : Single} (h : SingleP w v x) (e : Ext w w') : SingleP w' v x := h.chgT (e.chgT []) (fun _ _ => rfl)
/-- Changes behind pointers, in a slice. -/
def SinglesP (w : World) (v : Value) (xs : List Single) : Prop := ∃ vs, SliceT w 92 v 1 xs.length vs ∧ All2 (SingleP w) vs xs
theorem SinglesP.chgT {Ts : List Nat} {w w' : World} {v : Value} {xs : List Single} (h : SinglesP w v xs) (e : ChgT Ts w w') (hT : ∀ x ∈ singleTs, Ts.contains x = false) (h2 : Ts.contains (92 + 1) = false) : SinglesP w' v xs := by
  obtain ⟨vs, h3, h4⟩ := h
  exact ⟨vs, h3.chgT e h2, h4.mono fun v x hx => hx.chgT e hT⟩
theorem SinglesP.ext {w w' : World} {v : Value} {xs : List Single} (h : SinglesP w v xs) (e : Ext w w') : SinglesP w' v xs := h.chgT (e.chgT []) (fun _ _ => rfl) rfl
theorem SingleP.shape {w : World} {v : Value} {x : Single} (h : SingleP w v x) : ∃ b, v = .pointer (some ⟨b, 0, none⟩) := by
  obtain ⟨b, v0, v1, h1, _⟩ := h
  exact ⟨b, h1⟩
theorem SinglesP.shape {w : World} {v : Value} {xs : List Single} (h : SinglesP w v xs) : ∃ A c, v = .slice A xs.length c := by
  obtain ⟨vs, ⟨A, c, h1, _⟩, _⟩ := h
  exact ⟨A, c, h1⟩

theorem singleTo_c (x : Single) (w : World) : Calls Try.prog 49 #[.agg #[.int .i64 x.kind, .int .u64 x.node]] w (RetV w fun v w' => SingleP w' v x) := by
  go_enter Try.func49, Try.ntmps49
  go_wp2
  go_ret
  refine ⟨.pointer (some ⟨w.heap.size + 1 + 1 + 1, 0, none⟩), rfl, ⟨w.heap.size + 1 + 1 + 1, _, _, rfl, Blk.new_at (by simp), PtrR.mk ?_, PtrR.mk ?_⟩, ((((Ext.refl w).alloc _).alloc _).alloc _).alloc _⟩
  all_goals (repeat (first | exact Blk.new_at (by simp) | refine Blk.alloc ?_ _))

theorem info_psingle : (Try.prog.info? 92).map (fun i => (i.zero, i.size, i.bytes)) = some (some (.pointer none), 1, 8) := by kernel_rfl

set_option maxRecDepth 100000 in
set_option maxHeartbeats 1000000 in
theorem singlesTo_c (v : Value) (xs : List Single) (w : World) (h : SinglesA w v xs) (hn : xs.length ≤ 2147483647) : Calls Try.prog 40 #[v] w (RetV w fun v w' => SinglesP w' v xs) := by
  obtain ⟨A, c, rfl, h1, h2, h3, h4⟩ := h
  have h4' := Lib.hid h4
  have hn' : xs.length ≤ 9223372036854775807 := by omega
  clear h2 h3 h4
  go_enter Try.func40, Try.ntmps40
  go_wp2
  go_loopg [3, 8] xs.length (fun g v i wr => ∃ (k : Nat) (A : Option Addr) (c : Nat) (vs : List Value), g = xs.length - k ∧ k ≤ xs.length ∧ i = .int .i64 k ∧ v = .slice A k c ∧ wr.ownsRow w.heap.size 92 1 (.slice A k c) k vs ∧ All2 (SingleP wr) vs (xs.take k) ∧ Ext w wr)
  case atStart => exact ⟨0, none, 0, [], rfl, Nat.zero_le _, rfl, rfl, World.ownsRow_nil _ _ _ _, All2.nil _, Ext.refl _⟩
  case round =>
    obtain ⟨k, A1, c1, vs, hg, hk, rfl, rfl, hown, hall, he⟩ := hrel
    have hg' := Lib.hid hg
    clear hg
    by_cases hlt : k < xs.length
    · obtain ⟨b, o, rfl, hel⟩ := h4'.out.elem singleCells_len (by omega) hlt
      have hd0 := he.cellE (hel 0 _ rfl)
      have hd1 := he.cellE (hel 1 _ rfl)
      simp only [Nat.add_zero] at hd0
      have hel' := Lib.hid hel
      clear hel
      go_wp2_with (first
        | (go_at_call 49; refine (singleTo_c xs[k] _).mono ?_; rintro e w1 ⟨v, rfl, hv, he1⟩; obtain ⟨bv, rfl⟩ := hv.shape)
        | (at_builtin; refine wpList_append_one w1 rfl _ _ _ rfl w.heap.size 92 (.pointer none) 1 8 Try.underlying84 info_psingle rfl (by omega) (by omega) A1 k c1 vs rfl #[.pointer (some ⟨bv, 0, none⟩)] rfl rfl rfl (ownsRow_ext hown (((Ext.refl wr).alloc _).trans he1)) (by omega) (he.trans (((Ext.refl wr).alloc _).trans he1)).size_le ?_; intro A2 c2 w2 ho hT hE))
      go_roundg (xs.length - (k + 1))
      case rel =>
        have ew := ((Ext.refl wr).alloc (.cells #[.int .i64 xs[k].kind, .int .u64 xs[k].node] 42)).trans he1
        refine ⟨k + 1, A2, c2, _, rfl, by omega, by go_num, rfl, ho, ?_, hE w (Nat.le_refl _) (he.trans ew)⟩
        rw [List.take_add_one, List.getElem?_eq_getElem hlt]
        exact (hall.mono fun v x hx => (hx.ext ew).chgT hT (by decide)).snoc (hv.chgT hT (by decide))
      case measure =>
        have := hg'.out
        omega
    · go_wp2
      go_ret
      have hkk : k = xs.length := by omega
      subst hkk
      rw [List.take_of_length_le (Nat.le_refl _)] at hall
      exact ⟨_, rfl, ⟨vs, SliceT.of_own hown, hall⟩, he⟩

end Go.Proofs.Ytgjkkcnkblodoaa
