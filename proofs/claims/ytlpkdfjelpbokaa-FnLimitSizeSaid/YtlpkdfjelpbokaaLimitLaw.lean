/- The law FnLimitSize: the walk. -/
import Derived.Test.YtlpkdfjelpbokaaLimitB
import Derived.Test.YtlpkdfjelpbokaaPay
namespace Go.Proofs.Ytlpkdfjelpbokaa
open Go.ChangeShapes Go.WideShapes Go.ChangeAt Go.RowKit
set_option linter.unusedSimpArgs false
set_option linter.unusedVariables false

theorem shorts_wf (l : List Entry) (h : ∀ x ∈ l, (0 ≤ x.term ∧ x.term ≤ 18446744073709551615) ∧ (0 ≤ x.index ∧ x.index ≤ 18446744073709551615)) : ∀ x ∈ shorts l, x.wf := by
  intro x hx
  have h2 := shorts_size l x hx
  obtain ⟨y, hy, rfl⟩ := List.mem_map.1 hx
  have h1 := h y (List.mem_of_mem_take hy)
  refine ⟨h1.1, h1.2, ?_, by omega⟩
  show 0 ≤ y.kind.tmod 3 % 3 ∧ y.kind.tmod 3 % 3 ≤ 2147483647
  omega

set_option maxRecDepth 100000 in
set_option maxHeartbeats 1000000 in
theorem fnLimitSize_walk (v : Value) (l : List Entry) (max : Int) (hm : 0 ≤ max ∧ max ≤ 18446744073709551615) (w : World) (h : EntriesA w v l) (hwf : ∀ x ∈ l, (0 ≤ x.term ∧ x.term ≤ 18446744073709551615) ∧ (0 ≤ x.index ∧ x.index ≤ 18446744073709551615)) :
    Calls Try.prog 5 #[v, .int .u64 max] w (Yes w) := by
  have Q := Lib.hid (fun W (e : Ext w W) => zzFits4_c v l W (h.ext e))
  have Q2 := Lib.hid (fun W (e : Ext w W) => shortEntries_c v l W (h.ext e))
  have hsl := shorts_len l
  have hsw := shorts_wf l hwf
  generalize hes : shorts l = es at *
  have hsw' := Lib.hid hsw
  have hszs : ∀ x ∈ sizes es, 0 ≤ x ∧ x ≤ 4294967296 := by
    intro x hx
    obtain ⟨y, hy, rfl⟩ := List.mem_map.1 hx
    exact esize_bd y (hsw y hy)
  have hszl : (sizes es).length ≤ 60 := by simpa [sizes] using hsl
  have hszs' := Lib.hid hszs
  have Q3 := Lib.hid (fun v W h => LimitSize_c v es max W h (by omega) hm hsw)
  have Q4 := Lib.hid (fun v W h => sizesOf_c v es W h (by omega) hsw)
  have Q5 := Lib.hid (fun v W h => specLongest_c v (sizes es) max W h (by omega) hm hszs)
  have hll : longest max (sizes es) ≤ 60 := Nat.le_trans (longest_le _ _) hszl
  obtain ⟨hm0, hm1⟩ := hm
  clear hes hsw hszs hwf
  obtain ⟨A, c, rfl⟩ := h.shape
  clear h
  go_enter Try.func5, Try.ntmps5
  go_wp2_with (first
    | (go_at_call 6; refine (Q.out _ (Ext.refl _)).mono ?_; rintro e w1 ⟨b, rfl, hfit, he⟩; cases b)
    | (go_at_call 7; refine (Q2.out _ he (hfit (by simp)).1 (hfit (by simp)).2).mono ?_; rintro e w2 ⟨v, rfl, hv, he2⟩; obtain ⟨A2, c2, rfl⟩ := hv.shape)
    | (go_at_call 11; refine (Q3.out _ _ hv.old).mono ?_; rintro e w3 ⟨rfl, he3⟩)
    | (go_at_call 13; refine (Q4.out _ _ (hv.old.ext he3)).mono ?_; rintro e w4 ⟨v4, rfl, hv4, he4⟩; obtain ⟨A4, c4, rfl⟩ := hv4.shape)
    | (go_at_call 12; refine (Q5.out _ _ hv4.nums).mono ?_; rintro e w5 ⟨rfl, he5⟩))
  · go_ret
    exact ⟨rfl, he⟩
  · go_ret
    exact ⟨rfl, (((he.trans he2).trans he3).trans he4).trans he5⟩

end Go.Proofs.Ytlpkdfjelpbokaa
