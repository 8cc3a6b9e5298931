/- few: lists that are not too long. -/
import Derived.Test.YtklhflbjkckhmaaNums
import Derived.Test.YtklhflbjkckhmaaRow
import Derived.Deep.LoopGhost
namespace Go.Proofs.Ytklhflbjkckhmaa
open Go.ChangeShapes Go.WideShapes Go.ChangeAt Go.RowKit
set_option linter.unusedSimpArgs false
set_option linter.unusedVariables false

def sl (x : Option Addr × Nat × Nat) : Value := .slice x.1 x.2.1 x.2.2
def allFew (vs : List (Option Addr × Nat × Nat)) : Bool := vs.all fun x => decide (x.2.1 ≤ 40)
theorem allFew_no {vs : List (Option Addr × Nat × Nat)} {i : Nat} (hi : i < vs.length) (h : ¬ vs[i].2.1 ≤ 40) : allFew vs = false := by
  unfold allFew
  rw [List.all_eq_false]
  exact ⟨vs[i], List.getElem_mem hi, by simpa using h⟩
theorem allFew_yes {vs : List (Option Addr × Nat × Nat)} (h : ∀ (i : Nat) (hi : i < vs.length), vs[i].2.1 ≤ 40) : allFew vs = true := by
  unfold allFew
  rw [List.all_eq_true]
  intro x hx
  obtain ⟨i, hi, rfl⟩ := List.getElem_of_mem hx
  simpa using h i hi

set_option maxRecDepth 100000 in
set_option maxHeartbeats 1000000 in
theorem few_c (b n c : Nat) (vs : List (Option Addr × Nat × Nat)) (w : World) (h : RowR w (some ⟨b, 0, none⟩) (vs.map sl)) (hl : vs.length = n) (hn : n ≤ 100) (hm : ∀ x ∈ vs, x.2.1 ≤ maxLen) :
    Calls Try.prog 10 #[.slice (some ⟨b, 0, none⟩) n c] w fun e w' => e = .returned (.bool (allFew vs)) ∧ Ext w w' := by
  have h' := Lib.hid h
  have hm' := Lib.hid hm
  have hl' := Lib.hid hl
  clear h hm
  go_enter Try.func10, Try.ntmps10
  go_wp2
  go_loopg [7] n (fun g i wr => ∃ k : Nat, g = n - k ∧ k ≤ n ∧ i = .int .i64 k ∧ (∀ (j : Nat) (hj : j < vs.length), j < k → vs[j].2.1 ≤ 40) ∧ Ext w wr)
  case atStart => exact ⟨0, rfl, Nat.zero_le _, rfl, fun j hj h => by omega, Ext.refl _⟩
  case round =>
    obtain ⟨k, hg, hk, rfl, hall, he⟩ := hrel
    have hg' := Lib.hid hg
    have hall' := Lib.hid hall
    clear hg hall
    by_cases hlt : k < n
    · have hkv : k < vs.length := by rw [hl'.out]; exact hlt
      obtain ⟨b2, o2, e0, hc⟩ := h'.out.at_ (i := k) (by simpa using hkv)
      injection e0 with e0
      injection e0 with e1 e2 e3
      subst e1 e2
      clear e3
      have hc' := he.cellE hc
      simp only [List.getElem_map, Nat.zero_add, sl] at hc'
      have hmx := hm'.out _ (List.getElem_mem hkv)
      unfold maxLen at hmx
      clear hc
      by_cases h40 : vs[k].2.1 ≤ 40
      · have hst : ∀ (j : Nat) (hj : j < vs.length), j < k + 1 → vs[j].2.1 ≤ 40 := fun j hj hjk => by
          rcases Nat.lt_or_ge j k with h | h
          · exact hall'.out j hj h
          · have : j = k := by omega
            subst this
            exact h40
        have hst' := Lib.hid hst
        clear hst
        generalize vs[k] = x at *
        obtain ⟨xa, xn, xc⟩ := x
        simp only at hc' hmx h40
        go_wp2
        go_roundg (n - (k + 1))
        case rel => exact ⟨k + 1, rfl, by omega, by go_num, hst'.out, he⟩
        case measure =>
          have := hg'.out
          omega
      · have hno := Lib.hid (allFew_no hkv h40)
        generalize vs[k] = x at *
        obtain ⟨xa, xn, xc⟩ := x
        simp only at hc' hmx h40
        go_wp2
        go_ret
        exact ⟨by rw [hno.out]; rfl, he⟩
    · have hyes := Lib.hid (allFew_yes (vs := vs) (fun i hi => hall'.out i hi (by have := hl'.out; omega)))
      go_wp2
      go_ret
      exact ⟨by rw [hyes.out]; rfl, he⟩

end Go.Proofs.Ytklhflbjkckhmaa
