/- FreeLE where there is something to free. -/
import Derived.Test.YtfoffejgpalmpaaFree
namespace Go.Proofs.Ytfoffejgpalmpaa
open Go.ChangeShapes Go.WideShapes Go.ChangeAt Go.RowKit
set_option linter.unusedSimpArgs false
set_option linter.unusedVariables false

theorem sumQ_nil : sumQ [] = 0 := rfl
theorem sumQ_step {q : List Fl} {k : Nat} {x : Fl} {t : Int} (hd : q.drop k = x :: q.drop (k + 1)) (h : sumQ (q.drop k) = (sumQ q - t) % 18446744073709551616) : sumQ (q.drop (k + 1)) = (sumQ q - (t + x.2) % 18446744073709551616) % 18446744073709551616 := by
  have := sumQ_cons x (q.drop (k + 1))
  rw [← hd, h] at this
  rw [this]
  omega

set_option maxRecDepth 100000 in
set_option maxHeartbeats 2000000 in
theorem inFree_some (base b st sz g : Nat) (mx to : Int) (q r : List Fl) (w : World) (hI : InB w b st q.length (sumQ q) sz mx (.slice (some ⟨g, 0, none⟩) r.length r.length)) (hg : Blk w g 83 (r.flatMap flCells).toArray) (hgb : base ≤ g) (hbb : base ≤ b)
    (hr : RingR st sz r q) (hsz : sz ≤ 1000000) (hst : st < sz) (x0 : Fl) (hx0 : q[0]? = some x0) (hto : x0.1 ≤ to) :
    Calls Try.prog 33 #[.pointer (some ⟨b, 0, none⟩), .int .u64 to] w fun e w' => e = .returned (.tuple #[]) ∧ InR base w' b sz mx (freed to q) ∧ InChg base w w' := by
  have c0 := Blk.cell hI 0
  have c1 := Blk.cell hI 1
  have c2 := Blk.cell hI 2
  have c3 := Blk.cell hI 3
  have c5 := Blk.cell hI 5
  simp [inCells] at c0 c1 c2 c3 c5
  have hqlen := hr.qlen
  have hlen := hr.len
  obtain ⟨hq0, hx0e⟩ := List.getElem?_eq_some_iff.1 hx0
  have hat := hr.at_ 0 hq0
  rw [pos_zero hst, hx0e] at hat
  have hstl : st < r.length := (List.getElem?_eq_some_iff.1 hat).1
  obtain ⟨e0, e1⟩ := ring_cells hg hat
  have hI' := Lib.hid hI
  have hg' := Lib.hid hg
  have hr' := Lib.hid hr
  have hct : ((q.length : Int) == 0) = false := by
    rw [beq_eq_false_iff_ne]
    omega
  have hstI : (st : Int) < (r.length : Int) := by omega
  have hxb : decide (to < x0.1) = false := decide_eq_false (by omega)
  clear hI hg hr hat e1 hx0 hx0e hto
  go_enter Try.func33, Try.ntmps33
  go_wp2_with fail
  go_quiet (fail)
  have hq : Ext w (w.drewN nq) := (Ext.refl w).drewN nq
  generalize w.drewN nq = w2 at hq ⊢
  have d0 := hq.cellE c0
  have d1 := hq.cellE c1
  have d2 := hq.cellE c2
  have d3 := hq.cellE c3
  have d5 := hq.cellE c5
  have hI2 := Lib.hid (Blk.ext hI'.out hq)
  have hg2 := Lib.hid (Blk.ext hg'.out hq)
  have f0 := hI2.out.thaw 0
  have f1 := hI2.out.thaw 1
  have f2 := hI2.out.thaw 2
  clear c0 c1 c2 c3 c5 e0 hct hxb
  go_wp2
  go_loopg [4, 5, 6] q.length (fun gg s4 s5 s6 wr => ∃ (k n : Nat) (t : Int), gg = q.length - k ∧ k ≤ q.length ∧ n = pos st k sz ∧ s4 = .int .i64 n ∧ s5 = .int .i64 k ∧ s6 = .int .u64 t ∧ sumQ (q.drop k) = (sumQ q - t) % 18446744073709551616 ∧ freed to q = freed to (q.drop k) ∧ wr = w2)
  case atStart => exact ⟨0, st, 0, by simp, by omega, (pos_zero hst).symm, rfl, rfl, rfl, by rw [List.drop_zero, Int.sub_zero, Int.emod_eq_of_lt (sumQ_bd q).1 (by have := (sumQ_bd q).2; omega)], by rw [List.drop_zero], rfl⟩
  case round =>
    obtain ⟨k, n, t, hg3, hk, hn, rfl, rfl, rfl, hs, hfr, rfl⟩ := hrel
    have hg3' := Lib.hid hg3
    have hn' := Lib.hid hn
    have hs' := Lib.hid hs
    have hfr' := Lib.hid hfr
    clear hg3 hn hs hfr
    by_cases hkl : k < q.length
    · have hat := hr'.out.at_ k hkl
      rw [← hn'.out] at hat
      have hnl : n < r.length := (List.getElem?_eq_some_iff.1 hat).1
      have hd : q.drop k = q[k] :: q.drop (k + 1) := List.drop_eq_getElem_cons hkl
      generalize q[k] = x at hat hd
      obtain ⟨e0, e1⟩ := ring_cells hg2.out hat
      have hkI : (k : Int) < (q.length : Int) := by omega
      have hnI : (n : Int) < (r.length : Int) := by omega
      have hd' := Lib.hid hd
      clear hat hd
      by_cases hx : to < x.1
      · have hfe : freed to q = q.drop k := by rw [hfr'.out, hd'.out, freed_stop (by omega)]
        have hfe' := Lib.hid hfe
        have hnz : ((q.length : Int) - (k : Int) == 0) = false := by
          rw [beq_eq_false_iff_ne]
          omega
        clear hfe
        go_wp2
        go_end0
        have hE := (free_end hI2.out (.inr ⟨g, rfl, hg2.out, hgb⟩) hbb hr'.out hst hk hs'.out hn'.out).1 hkl
        rw [← hfe'.out] at hE
        exact ⟨rfl, hE.1, (InChg.ext hq).trans hE.2⟩
      · have hfe : freed to q = freed to (q.drop (k + 1)) := by rw [hfr'.out, hd'.out, freed_go (by omega)]
        have hfe' := Lib.hid hfe
        have hss := Lib.hid (sumQ_step hd'.out hs'.out)
        have hps := Lib.hid (pos_succ (k := k) hst (by omega))
        clear hfe
        by_cases hw : sz ≤ n + 1
        · have hwI : (sz : Int) ≤ (n : Int) + 1 := by omega
          go_wp2
          go_roundg (q.length - (k + 1))
          case rel => exact ⟨k + 1, n + 1 - sz, _, rfl, by omega, by rw [hps.out, ← hn'.out, if_pos hw], by congr 1; omega, rfl, rfl, hss.out, hfe'.out, rfl⟩
          case measure =>
            have := hg3'.out
            omega
        · have hwI : (n : Int) + 1 < (sz : Int) := by omega
          go_wp2
          go_roundg (q.length - (k + 1))
          case rel => exact ⟨k + 1, n + 1, _, rfl, by omega, by rw [hps.out, ← hn'.out, if_neg hw], rfl, rfl, rfl, hss.out, hfe'.out, rfl⟩
          case measure =>
            have := hg3'.out
            omega
    · have hke : k = q.length := by omega
      have hfe : freed to q = [] := by rw [hfr'.out, hke, List.drop_length, freed_nil]
      have hfe' := Lib.hid hfe
      have hke' := Lib.hid hke
      have hkI : (q.length : Int) ≤ (k : Int) := by omega
      have hnz : ((q.length : Int) - (k : Int) == 0) = true := by
        rw [beq_iff_eq]
        omega
      clear hfe hke
      go_wp2
      go_end0
      have hE := (free_end hI2.out (.inr ⟨g, rfl, hg2.out, hgb⟩) hbb hr'.out hst hk hs'.out hn'.out).2 hke'.out
      rw [← hfe'.out] at hE
      exact ⟨rfl, hE.1, (InChg.ext hq).trans hE.2⟩

/-- FreeLE. -/
theorem inFree_c (base b sz : Nat) (mx to : Int) (q : List Fl) (w : World) (h : InR base w b sz mx q) (hsz : sz ≤ 1000000) :
    Calls Try.prog 33 #[.pointer (some ⟨b, 0, none⟩), .int .u64 to] w fun e w' => e = .returned (.tuple #[]) ∧ InR base w' b sz mx (freed to q) ∧ InChg base w w' := by
  have h0 := h
  obtain ⟨st, v, r, hI, hB, hr, hbb⟩ := h
  by_cases hno : ∀ x ∈ q.head?, to < x.1
  · refine (inFree_none base b st sz mx to q r v w hI hB hbb hr hsz hno).mono ?_
    rintro e w' ⟨rfl, he⟩
    have : freed to q = q := by
      cases q with
      | nil => rfl
      | cons x q =>
        have := hno x (by simp)
        exact freed_stop (by omega)
    rw [this]
    exact ⟨rfl, h0.ext he, InChg.ext he⟩
  · cases q with
    | nil => exact absurd (by simp) hno
    | cons x q =>
      have hst := hr.stl (by simp)
      have hlen := hr.len
      obtain ⟨g, rfl, hg, hgb⟩ := hB.some (by omega)
      refine inFree_some base b st sz g mx to (x :: q) r w hI hg hgb hbb hr hsz (by omega) x rfl ?_
      by_cases hx : x.1 ≤ to
      · exact hx
      · exact absurd (by intro y hy; simp at hy; subst hy; omega) hno

end Go.Proofs.Ytfoffejgpalmpaa
