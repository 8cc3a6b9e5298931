/- The law FnTally: the walk, whatever the lengths. -/
import Derived.Test.YtklhflbjkckhmaaTallyLaw
namespace Go.Proofs.Ytklhflbjkckhmaa
open Go.ChangeShapes Go.WideShapes Go.ChangeAt Go.RowKit
set_option linter.unusedSimpArgs false
set_option linter.unusedVariables false

set_option maxRecDepth 100000 in
set_option maxHeartbeats 4000000 in
theorem fnTally_long (A B C D E F : Option Addr) (ca cb cc cd ce cf n m : Nat) (x : Conf4) (w : World) (h1 : x.ins.length ≤ maxLen) (h2 : x.outs.length ≤ maxLen) (h3 : x.learners.length ≤ maxLen) (h4 : x.next.length ≤ maxLen) (hno : ¬ (few4 x = true ∧ n ≤ 40 ∧ m ≤ 40)) :
    Calls Try.prog 5 #[.agg (c4cells A B C D ca cb cc cd x), .slice E n ce, .slice F m cf] w (Yes w) := by
  have QZ := Lib.hid (fun W => zzFits15_c A B C D ca cb cc cd x W)
  have QS := Lib.hid (fun W => small_c A B C D E ca cb cc cd n ce x W h1 h2 h3 h4)
  have hno' := Lib.hid hno
  clear h1 h2 h3 h4 hno
  cases hf : fits15 x with
  | false =>
    have hf' := Lib.hid hf
    clear hf
    go_enter Try.func5, Try.ntmps5
    unfold c4cells confCells
    go_wp2_with (go_at_call 14; refine (QZ.out _).mono ?_; rintro e w1 ⟨rfl, he1⟩; rw [hf'.out])
    go_ret
    exact ⟨rfl, ((Ext.refl w).alloc _).trans he1⟩
  | true =>
    have hf' := Lib.hid hf
    clear hf
    by_cases hn : (2147483647 : Int) < (n : Int)
    · go_enter Try.func5, Try.ntmps5
      unfold c4cells confCells
      go_wp2_with (go_at_call 14; refine (QZ.out _).mono ?_; rintro e w1 ⟨rfl, he1⟩; rw [hf'.out])
      go_ret
      exact ⟨rfl, ((Ext.refl w).alloc _).trans he1⟩
    by_cases hm : (2147483647 : Int) < (m : Int)
    · go_enter Try.func5, Try.ntmps5
      unfold c4cells confCells
      go_wp2_with (go_at_call 14; refine (QZ.out _).mono ?_; rintro e w1 ⟨rfl, he1⟩; rw [hf'.out])
      go_ret
      exact ⟨rfl, ((Ext.refl w).alloc _).trans he1⟩
    cases hs : (few4 x && decide (n ≤ 40)) with
    | false =>
      have hs' := Lib.hid hs
      clear hs
      go_enter Try.func5, Try.ntmps5
      unfold c4cells confCells
      go_wp2_with (first
        | (go_at_call 14; refine (QZ.out _).mono ?_; rintro e w1 ⟨rfl, he1⟩; rw [hf'.out]; obtain ⟨d0, d1, d2, d3, d4⟩ := conf_facts he1)
        | (go_at_call 15; refine (QS.out _).mono ?_; rintro e w2 ⟨rfl, he2⟩; rw [hs'.out]))
      go_ret
      exact ⟨rfl, (((Ext.refl w).alloc _).trans he1).trans he2⟩
    | true =>
      have hs' := Lib.hid hs
      have hm4 : (40 : Int) < (m : Int) := by
        have h5 := hs
        simp only [Bool.and_eq_true, decide_eq_true_eq] at h5
        by_cases h6 : m ≤ 40
        · exact absurd ⟨h5.1, h5.2, h6⟩ hno'.out
        · omega
      clear hs
      go_enter Try.func5, Try.ntmps5
      unfold c4cells confCells
      go_wp2_with (first
        | (go_at_call 14; refine (QZ.out _).mono ?_; rintro e w1 ⟨rfl, he1⟩; rw [hf'.out]; obtain ⟨d0, d1, d2, d3, d4⟩ := conf_facts he1)
        | (go_at_call 15; refine (QS.out _).mono ?_; rintro e w2 ⟨rfl, he2⟩; rw [hs'.out]))
      go_ret
      exact ⟨rfl, (((Ext.refl w).alloc _).trans he1).trans he2⟩

theorem nums_max {w : World} {A : Option Addr} {c : Nat} {xs : List Int} (h : NumsR w (.slice A xs.length c) xs) : xs.length ≤ maxLen := by
  unfold NumsR at h
  obtain ⟨A, c, _, h1, h2, _⟩ := h
  omega
theorem fnTally_walk (A B C D : Option Addr) (ca cb cc cd : Nat) (v u : Value) (x : Conf4) (ts : List Trk) (bs : List Ballot) (w : World) (h : Conf4A w A B C D ca cb cc cd x) (ht : SliceR w v 5 ts.length (ts.flatMap trkCells)) (hb : BallotsR w u bs)
    (hu1 : ∀ k ∈ x.ins, U64 k) (hu2 : ∀ k ∈ x.outs, U64 k) (hu3 : ∀ k ∈ x.learners, U64 k) (hu4 : ∀ k ∈ x.next, U64 k) (hu : ∀ t ∈ ts, U64 t.id) (hbu : ∀ y ∈ bs, U64 y.id) :
    Calls Try.prog 5 #[.agg (c4cells A B C D ca cb cc cd x), v, u] w (Yes w) := by
  obtain ⟨E, ce, rfl, _, _, _, hrow⟩ := ht
  obtain ⟨F, cf, rfl, hle, _, _, hbrow⟩ := hb
  by_cases hs : few4 x = true ∧ ts.length ≤ 40 ∧ bs.length ≤ 40
  · exact fnTally_main A B C D E F ca cb cc cd ce cf x ts bs w h hrow hbrow hu1 hu2 hu3 hu4 hu hbu hs.1 hs.2.1 hs.2.2 hle
  · exact fnTally_long A B C D E F ca cb cc cd ce cf _ _ x w (nums_max h.ins) (nums_max h.outs) (nums_max h.learners) (nums_max h.next) hs

end Go.Proofs.Ytklhflbjkckhmaa
