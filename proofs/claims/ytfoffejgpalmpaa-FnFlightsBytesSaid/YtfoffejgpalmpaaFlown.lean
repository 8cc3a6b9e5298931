/- flown: the answers are the reference's. -/
import Derived.Test.YtfoffejgpalmpaaFlyDo
namespace Go.Proofs.Ytfoffejgpalmpaa
open Go.ChangeShapes Go.WideShapes Go.ChangeAt Go.RowKit
set_option linter.unusedSimpArgs false
set_option linter.unusedVariables false

theorem flown_step {sz : Nat} {mx : Int} {q q' : List Fl} {c : FCall} {cs : List FCall} {pre xs : List FAns} {k : Nat} (hx : xs = pre ++ flRun sz mx q (c :: cs)) (hp : pre.length = k) (hs : fyStep sz mx q c.kind c.a c.y = some q') :
    xs[k]? = some (saidQ sz mx q') ∧ xs = (pre ++ [saidQ sz mx q']) ++ flRun sz mx q' cs ∧ k < xs.length := by
  have h := fyStep_fl hs
  rw [flRun, h] at hx
  refine ⟨?_, ?_, ?_⟩
  · rw [hx, List.getElem?_append_right (by omega), hp]
    simp
  · rw [hx, List.append_assoc]
    rfl
  · rw [hx, List.length_append, List.length_cons]
    omega
theorem fyStep_len {sz : Nat} {mx : Int} {q q' : List Fl} {kind a y : Int} (h : fyStep sz mx q kind a y = some q') : q'.length ≤ q.length + 1 := by
  unfold fyStep at h
  split at h
  · split at h
    · injection h with h
      subst h
      simp
    · cases h
  · split at h
    · injection h with h
      subst h
      have := freed_len a q
      omega
    · split at h <;> injection h with h <;> subst h <;> simp

set_option maxRecDepth 100000 in
set_option maxHeartbeats 4000000 in
theorem flown_c (base b sz : Nat) (mx : Int) (A B : Option Addr) (c d : Nat) (cs : List FCall) (xs : List FAns) (W0 w : World) (hF : FlyR base w b sz mx []) (hA : RowR W0 A (cs.flatMap FCall.cells)) (hB : RowR W0 B (xs.flatMap FAns.cells)) (hW : W0.heap.size ≤ base) (hE : Ext W0 w)
    (hx : xs = flRun sz mx [] cs) (hn : cs.length ≤ 1000) (hsz : sz ≤ 1000000) :
    Calls Try.prog 9 #[.pointer (some ⟨b, 0, none⟩), .slice A cs.length c, .slice B xs.length d] w fun e w' => e = .returned (.bool true) ∧ Ext W0 w' := by
  have hA' := Lib.hid hA
  have hB' := Lib.hid hB
  have hx' := Lib.hid hx
  have hF' := Lib.hid hF
  clear hA hB hx hF
  go_enter Try.func9, Try.ntmps9
  go_wp2
  go_loopg [12] cs.length (fun g i wr => ∃ (k : Nat) (q : List Fl) (pre : List FAns), g = cs.length - k ∧ k ≤ cs.length ∧ i = .int .i64 k ∧ q.length ≤ k ∧ xs = pre ++ flRun sz mx q (cs.drop k) ∧ pre.length = k ∧ FlyR base wr b sz mx q ∧ Ext W0 wr)
  case atStart => exact ⟨0, [], [], rfl, by omega, rfl, by simp, by rw [hx'.out]; rfl, rfl, hF'.out, hE⟩
  case round =>
    obtain ⟨k, q, pre, hg, hk, rfl, hql, hpre, hpl, hFk, he⟩ := hrel
    have hg' := Lib.hid hg
    have hpre' := Lib.hid hpre
    have hpl' := Lib.hid hpl
    have hFk' := Lib.hid hFk
    clear hg hpre hpl hFk
    by_cases hlt : k < cs.length
    · obtain ⟨bb, o, rfl, hel⟩ := hA'.out.elem FCall.cells_len (by omega) hlt
      have hd := Lib.hid (drop_cons hlt rfl)
      generalize cs[k] = x at hel hd
      have hd0 := he.cellE (hel 0 _ rfl)
      have hd1 := he.cellE (hel 1 _ rfl)
      have hd2 := he.cellE (hel 2 _ rfl)
      simp only [Nat.add_zero] at hd0
      have hltI : (k : Int) < (cs.length : Int) := by omega
      have Q := flyDo_c base b sz mx q x.kind x.a x.y wr hFk'.out (by omega) hsz
      clear hel
      cases hs : fyStep sz mx q x.kind x.a x.y with
      | none =>
        rw [hs] at Q
        have Q' := Lib.hid Q
        clear Q hs
        go_wp2_with (go_at_call 18; refine Q'.out.mono ?_; rintro e w2 ⟨hC, rfl⟩; have hC' := Lib.hid hC; clear hC; unfold faCells)
        go_ret
        exact ⟨rfl, (hC'.out.2 W0 hW he).alloc _⟩
      | some q' =>
        rw [hs] at Q
        have Q' := Lib.hid Q
        have hql' := fyStep_len hs
        have hst : xs = pre ++ flRun sz mx q (x :: cs.drop (k + 1)) := by rw [← hd.out]; exact hpre'.out
        obtain ⟨hxk, hx2, hxl⟩ := flown_step hst hpl'.out hs
        obtain ⟨hxl2, hxe⟩ := List.getElem?_eq_some_iff.1 hxk
        obtain ⟨b2, o2, hB2, hel2⟩ := hB'.out.elem FAns.cells_len (by omega) hxl
        rw [hxe] at hel2
        subst hB2
        have hq0 := hel2 0 _ rfl
        have hq1 := hel2 1 _ rfl
        have hq2 := hel2 2 _ rfl
        simp only [Nat.add_zero, saidQ] at hq0 hq1 hq2
        have hx2' := Lib.hid hx2
        have hxlI : decide ((xs.length : Int) ≤ (k : Int)) = false := by simp; omega
        have hxlN : decide (xs.length ≤ k) = false := by simp; omega
        have hxlJ : (k : Int) < (xs.length : Int) := by omega
        clear Q hs hst hxk hx2 hel2 hxe
        go_wp2_with (go_at_call 18; refine Q'.out.mono ?_; rintro e w2 ⟨hC, rfl, hF2⟩; have hC' := Lib.hid hC; have hF2' := Lib.hid hF2; have hE2 : Ext W0 w2 := hC.2 W0 hW he; have q0 := hE2.cellE hq0; have q1 := hE2.cellE hq1; have q2 := hE2.cellE hq2; clear hC hF2; unfold faCells)
        have hq : Ext w2 (w2.alloc (.cells #[.int .i64 q'.length, .bool (isFull q'.length (sumQ q') sz mx), .bool false] 38)) := (Ext.refl w2).alloc _
        have hN := Blk.new w2 38 #[.int .i64 q'.length, .bool (isFull q'.length (sumQ q') sz mx), .bool false]
        generalize w2.alloc (.cells #[.int .i64 q'.length, .bool (isFull q'.length (sumQ q') sz mx), .bool false] 38) = w3 at hq hN ⊢
        have n0 := hN.cell 0
        have n1 := hN.cell 1
        have n2 := hN.cell 2
        simp only [List.getElem?_toArray, List.getElem?_cons_zero, List.getElem?_cons_succ] at n0 n1 n2
        have p0 := hq.cellE q0
        have p1 := hq.cellE q1
        have p2 := hq.cellE q2
        clear q0 q1 q2 hN
        go_quiet (fail)
        have hq' : Ext w2 (w3.drewN nq) := hq.drewN nq
        clear hq n0 n1 n2 p0 p1 p2
        generalize w3.drewN nq = w4 at hq' ⊢
        go_wp2
        go_roundg (cs.length - (k + 1))
        case rel => exact ⟨k + 1, q', pre ++ [saidQ sz mx q'], rfl, by omega, by go_num, by omega, hx2'.out, by simp [hpl'.out], hF2'.out.ext hq', hE2.trans hq'⟩
        case measure =>
          have := hg'.out
          omega
    · have hkk : k = cs.length := by omega
      have hxl : xs.length = cs.length := by
        have h1 := hpre'.out
        rw [List.drop_of_length_le (by omega), flRun, List.append_nil] at h1
        rw [h1, hpl'.out, hkk]
      have hxI : ((xs.length : Int) == (cs.length : Int)) = true := by simp [hxl]
      have hxN : (xs.length == cs.length) = true := by simp [hxl]
      have hltI : (cs.length : Int) ≤ (k : Int) := by omega
      clear hxl
      go_wp2
      go_ret
      exact ⟨by first | rfl | simp_all, he⟩

end Go.Proofs.Ytfoffejgpalmpaa
