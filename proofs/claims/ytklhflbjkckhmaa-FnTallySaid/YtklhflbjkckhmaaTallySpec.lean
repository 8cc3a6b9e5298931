/- The law FnTally: its helpers: zzFits15, small, spec.JointVoteResult. -/
import Derived.Test.YtklhflbjkckhmaaTracks
import Derived.Test.YtklhflbjkckhmaaVoteFinal
namespace Go.Proofs.Ytklhflbjkckhmaa
open Go.ChangeShapes Go.WideShapes Go.ChangeAt Go.RowKit
set_option linter.unusedSimpArgs false
set_option linter.unusedVariables false

/-- The four lists of a configuration, as slices. -/
structure Conf4A (w : World) (A B C D : Option Addr) (ca cb cc cd : Nat) (x : Conf4) : Prop where
  ins : NumsR w (.slice A x.ins.length ca) x.ins
  outs : NumsR w (.slice B x.outs.length cb) x.outs
  learners : NumsR w (.slice C x.learners.length cc) x.learners
  next : NumsR w (.slice D x.next.length cd) x.next
def c4cells (A B C D : Option Addr) (ca cb cc cd : Nat) (x : Conf4) : Array Value := confCells (.slice A x.ins.length ca) (.slice B x.outs.length cb) (.slice C x.learners.length cc) (.slice D x.next.length cd) x.auto
def fits15 (x : Conf4) : Bool := decide (x.ins.length ≤ 2147483647) && decide (x.outs.length ≤ 2147483647) && decide (x.learners.length ≤ 2147483647) && decide (x.next.length ≤ 2147483647)
def few4 (x : Conf4) : Bool := decide (x.ins.length ≤ 40) && decide (x.outs.length ≤ 40) && decide (x.learners.length ≤ 40) && decide (x.next.length ≤ 40)

set_option maxRecDepth 100000 in
set_option maxHeartbeats 1000000 in
theorem zzFits15_c (A B C D : Option Addr) (ca cb cc cd : Nat) (x : Conf4) (w : World) : Calls Try.prog 14 #[.agg (c4cells A B C D ca cb cc cd x)] w fun e w' => e = .returned (.bool (fits15 x)) ∧ Ext w w' := by
  unfold c4cells confCells
  have e1 : Ext w (w.alloc (.cells #[.slice A x.ins.length ca, .slice B x.outs.length cb, .slice C x.learners.length cc, .slice D x.next.length cd, .bool x.auto] 33)) := (Ext.refl w).alloc _
  by_cases h1 : (2147483647 : Int) < (x.ins.length : Int)
  · have hr := Lib.hid (show fits15 x = false by simp [fits15]; omega)
    go_enter Try.func14, Try.ntmps14
    go_wp2
    go_ret
    exact ⟨by rw [hr.out]; rfl, e1⟩
  by_cases h2 : (2147483647 : Int) < (x.outs.length : Int)
  · have hr := Lib.hid (show fits15 x = false by simp [fits15]; omega)
    go_enter Try.func14, Try.ntmps14
    go_wp2
    go_ret
    exact ⟨by rw [hr.out]; rfl, e1⟩
  by_cases h3 : (2147483647 : Int) < (x.learners.length : Int)
  · have hr := Lib.hid (show fits15 x = false by simp [fits15]; omega)
    go_enter Try.func14, Try.ntmps14
    go_wp2
    go_ret
    exact ⟨by rw [hr.out]; rfl, e1⟩
  by_cases h4 : (2147483647 : Int) < (x.next.length : Int)
  · have hr := Lib.hid (show fits15 x = false by simp [fits15]; omega)
    go_enter Try.func14, Try.ntmps14
    go_wp2
    go_ret
    exact ⟨by rw [hr.out]; rfl, e1⟩
  have hr := Lib.hid (show fits15 x = true by simp [fits15]; omega)
  go_enter Try.func14, Try.ntmps14
  go_wp2
  go_ret
  exact ⟨by rw [hr.out]; rfl, e1⟩

set_option maxRecDepth 100000 in
set_option maxHeartbeats 1000000 in
theorem small_c (A B C D E : Option Addr) (ca cb cc cd n ce : Nat) (x : Conf4) (w : World) (h1 : x.ins.length ≤ maxLen) (h2 : x.outs.length ≤ maxLen) (h3 : x.learners.length ≤ maxLen) (h4 : x.next.length ≤ maxLen) :
    Calls Try.prog 15 #[.agg (c4cells A B C D ca cb cc cd x), .slice E n ce] w fun e w' => e = .returned (.bool (few4 x && decide (n ≤ 40))) ∧ Ext w w' := by
  unfold c4cells confCells
  have hmx := Lib.hid (show ∀ y ∈ [(A, x.ins.length, ca), (B, x.outs.length, cb), (C, x.learners.length, cc), (D, x.next.length, cd)], y.2.1 ≤ maxLen by
    intro y hy
    simp only [List.mem_cons, List.not_mem_nil, or_false] at hy
    rcases hy with rfl | rfl | rfl | rfl <;> assumption)
  have hall : allFew [(A, x.ins.length, ca), (B, x.outs.length, cb), (C, x.learners.length, cc), (D, x.next.length, cd)] = few4 x := by simp [allFew, few4, Bool.and_assoc]
  have hall' := Lib.hid hall
  clear hall h1 h2 h3 h4
  cases hf : few4 x with
  | false =>
    have hf' := Lib.hid hf
    clear hf
    go_enter Try.func15, Try.ntmps15
    go_wp2_with (go_at_call 10; refine (few_c _ 4 4 [(A, x.ins.length, ca), (B, x.outs.length, cb), (C, x.learners.length, cc), (D, x.next.length, cd)] _ (RowR.of_blk (Blk.new_at (T := 22) (by simp))) rfl (by omega) hmx.out).mono ?_; rintro e w1 ⟨rfl, he⟩; rw [hall'.out, hf'.out])
    go_ret
    exact ⟨rfl, (((Ext.refl w).alloc _).alloc _).trans he⟩
  | true =>
    have hf' := Lib.hid hf
    clear hf
    by_cases hn : n ≤ 40
    · have hnb : decide (n ≤ 40) = true := decide_eq_true hn
      have hnI : decide ((n : Int) ≤ 40) = true := decide_eq_true (by omega)
      have hnb' := Lib.hid hnb
      go_enter Try.func15, Try.ntmps15
      go_wp2_with (go_at_call 10; refine (few_c _ 4 4 [(A, x.ins.length, ca), (B, x.outs.length, cb), (C, x.learners.length, cc), (D, x.next.length, cd)] _ (RowR.of_blk (Blk.new_at (T := 22) (by simp))) rfl (by omega) hmx.out).mono ?_; rintro e w1 ⟨rfl, he⟩; rw [hall'.out, hf'.out])
      go_ret
      exact ⟨by first | rfl | (rw [hnb'.out]; rfl), (((Ext.refl w).alloc _).alloc _).trans he⟩
    · have hnb : decide (n ≤ 40) = false := decide_eq_false hn
      have hnI : decide ((n : Int) ≤ 40) = false := decide_eq_false (by omega)
      have hnb' := Lib.hid hnb
      go_enter Try.func15, Try.ntmps15
      go_wp2_with (go_at_call 10; refine (few_c _ 4 4 [(A, x.ins.length, ca), (B, x.outs.length, cb), (C, x.learners.length, cc), (D, x.next.length, cd)] _ (RowR.of_blk (Blk.new_at (T := 22) (by simp))) rfl (by omega) hmx.out).mono ?_; rintro e w1 ⟨rfl, he⟩; rw [hall'.out, hf'.out])
      go_ret
      exact ⟨by first | rfl | (rw [hnb'.out]; rfl), (((Ext.refl w).alloc _).alloc _).trans he⟩

set_option maxRecDepth 100000 in
set_option maxHeartbeats 1000000 in
theorem specJoint_c (A B C : Option Addr) (ca cb cc : Nat) (ids ids1 : List Int) (bs : List Ballot) (w : World) (h : NumsR w (.slice A ids.length ca) ids) (h1 : NumsR w (.slice B ids1.length cb) ids1) (h2 : BallotsR w (.slice C bs.length cc) bs) (hn : ids.length ≤ 1000000000) (hn1 : ids1.length ≤ 1000000000) (hm : bs.length ≤ 2147483647)
    (l l1 : List Int) (hl : IsSet l ids) (hl1 : IsSet l1 ids1) :
    Calls Try.prog 18 #[.slice A ids.length ca, .slice B ids1.length cb, .slice C bs.length cc] w fun e w' => e = .returned (.int .i64 (jv (voteOf (lastB bs) l) (voteOf (lastB bs) l1))) ∧ Ext w w' := by
  have Q := Lib.hid (specVoteResult_c _ _ ids bs w h h2 hn hm l hl)
  have Q1 := Lib.hid (fun W (e : Ext w W) => specVoteResult_c _ _ ids1 bs W (h1.ext e) (h2.ext e) hn1 hm l1 hl1)
  have ha := voteOf_bd (lastB bs) l
  have hb := voteOf_bd (lastB bs) l1
  generalize voteOf (lastB bs) l = a at *
  generalize voteOf (lastB bs) l1 = b at *
  clear h h1 h2 hl hl1
  have hcase : (a = 2 ∨ b = 2) ∨ (a = 3 ∧ b = 3) ∨ (¬ a = 2 ∧ ¬ b = 2 ∧ ¬ (a = 3 ∧ b = 3)) := by omega
  have hab : ((a = 1 ∨ a = 2) ∨ a = 3) ∧ ((b = 1 ∨ b = 2) ∨ b = 3) := by omega
  clear hcase ha hb
  obtain ⟨(rfl | rfl) | rfl, (rfl | rfl) | rfl⟩ := hab
  all_goals
    go_enter Try.func18, Try.ntmps18
    go_wp2_with (go_at_call 12; first
      | (refine (Q1.out _ he).mono ?_; rintro e w2 ⟨rfl, he2⟩)
      | (refine Q.out.mono ?_; rintro e w1 ⟨rfl, he⟩))
    go_ret
    exact ⟨rfl, he.trans he2⟩

end Go.Proofs.Ytklhflbjkckhmaa
