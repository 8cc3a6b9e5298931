/- The walks of FnTarget and FnLocal: both return true and leave old memory as it was. -/
import Derived.Test.YtgjkkcnkblodoaaLib
import Derived.Test.YtgjkkcnkblodoaaOpen
import Derived.Outline
namespace Go.Proofs.Ytgjkkcnkblodoaa
open Go.ChangeShapes Go.WideShapes Go.ChangeAt Go.RowKit

theorem target_e {n : Int} (h0 : 0 ≤ n) (h1 : n ≤ 18446744073709551615) : (n == 18446744073709551615 || n == 18446744073709551614) = decide (18446744073709551614 ≤ n) := by
  rw [Bool.eq_iff_iff]
  simp only [Bool.or_eq_true, beq_iff_eq, decide_eq_true_eq]
  omega

theorem fnTarget_walk (n : Int) (wn : (Lit.int .u64 n).wf = true) (w : World) :
    Calls Try.prog 3 #[.int .u64 n] w fun e w' => e = .returned (.bool true) ∧ Ext w w' := by
  have hb := u64_bd wn
  go_enter Try.func3, Try.ntmps3
  go_wp2
  all_goals go_ret
  all_goals refine ⟨?_, by repeat (first | exact Ext.refl _ | refine Ext.alloc ?_ _)⟩
  all_goals first | rfl | (simp [target_e hb.1 hb.2]; done)

/-- The kinds that are local. -/
def localB (n : Int) : Bool := n == 0 || n == 1 || n == 10 || n == 11 || n == 12 || n == 19 || n == 20 || n == 21 || n == 22

def tblLocal : Array Value := #[.bool true, .bool true, .bool false, .bool false, .bool false, .bool false, .bool false, .bool false, .bool false, .bool false, .bool true, .bool true, .bool true, .bool false, .bool false, .bool false, .bool false, .bool false, .bool false, .bool true, .bool true, .bool true, .bool true]
def tblZero : Array Value := #[.bool false, .bool false, .bool false, .bool false, .bool false, .bool false, .bool false, .bool false, .bool false, .bool false, .bool false, .bool false, .bool false, .bool false, .bool false, .bool false, .bool false, .bool false, .bool false, .bool false, .bool false, .bool false, .bool false]
theorem tbl_at (n : Nat) (h : n < 23) : tblLocal[n]? = some (.bool (localB n)) := by
  have h1 : n = 0 ∨ n = 1 ∨ n = 2 ∨ n = 3 ∨ n = 4 ∨ n = 5 ∨ n = 6 ∨ n = 7 ∨ n = 8 ∨ n = 9 ∨ n = 10 ∨ n = 11 ∨ n = 12 ∨ n = 13 ∨ n = 14 ∨ n = 15 ∨ n = 16 ∨ n = 17 ∨ n = 18 ∨ n = 19 ∨ n = 20 ∨ n = 21 ∨ n = 22 := by omega
  rcases h1 with rfl | rfl | rfl | rfl | rfl | rfl | rfl | rfl | rfl | rfl | rfl | rfl | rfl | rfl | rfl | rfl | rfl | rfl | rfl | rfl | rfl | rfl | rfl <;> rfl

theorem info_arr : (Try.prog.info? 67).map (·.size) = some 23 := by kernel_rfl

theorem zzLocalMsgs_c (w : World) : Calls Try.prog 33 #[] w fun e w' =>
    e = .returned (.agg tblLocal) ∧ Ext w w' := by
  go_enter Try.func33, Try.ntmps33
  go_wp2_with (refine wpList_store_blk rfl 67 _ _ rfl w.heap.size 67 tblZero tblLocal rfl rfl (Blk.new_at rfl) rfl info_arr rfl ?_; intro w1 hb hch)
  have he : Ext w w1 := ((Ext.refl w).alloc _).chg_new hch (fun k hk => by omega)
  exact bodyPost_ret (v := .agg tblLocal) (results_cell_row (by rw [Try.results33]) _ _ w.heap.size 67 tblLocal (0, 0) _ rfl hb.out Try.underlying67 rfl info_arr) rfl ⟨rfl, he⟩

theorem isMsgInArray_in (n : Int) (b : Nat) (x : Bool) (h0 : 0 ≤ n) (hn : n < 23) (w : World) (hx : w.cell? ⟨b, n.toNat, none⟩ = some (.bool x)) :
    Calls Try.prog 34 #[.int .i32 n, .slice (some ⟨b, 0, none⟩) 23 23] w fun e w' => e = .returned (.bool x) ∧ w = w' := by
  obtain ⟨k, rfl⟩ := Int.eq_ofNat_of_zero_le h0
  simp only [Int.toNat_natCast] at hx
  go_enter Try.func34, Try.ntmps34
  go_wp2
  go_ret
  exact ⟨rfl, rfl⟩

theorem isMsgInArray_out (b : Nat) (w : World) :
    Calls Try.prog 34 #[.int .i32 23, .slice (some ⟨b, 0, none⟩) 23 23] w fun e w' => e = .returned (.bool false) ∧ w = w' := by
  go_enter Try.func34, Try.ntmps34
  go_wp2
  go_ret
  exact ⟨rfl, rfl⟩

theorem IsLocalMsg_c (n : Int) (h0 : 0 ≤ n) (hn : n ≤ 23) (w : World) : Calls Try.prog 21 #[.int .i32 n] w fun e w' =>
    e = .returned (.bool (localB n)) ∧ Ext w w' := by
  have hq : ∀ w2 b, Blk w2 b 67 tblLocal → Calls Try.prog 34 #[.int .i32 n, .slice (some ⟨b, 0, none⟩) 23 23] w2 fun e w' => e = .returned (.bool (localB n)) ∧ w2 = w' := by
    intro w2 b hb
    rcases Int.lt_or_le n 23 with h | h
    · refine isMsgInArray_in n b _ h0 h w2 ?_
      rw [hb.cell, tbl_at _ (by omega), show ((n.toNat : Nat) : Int) = n by omega]
    · obtain rfl : n = 23 := by omega
      exact isMsgInArray_out b w2
  have Q := Lib.hid hq
  clear hq
  go_enter Try.func21, Try.ntmps21
  go_wp2_with (first
    | (go_at_call 33; refine (zzLocalMsgs_c _).mono ?_; rintro e w1 ⟨rfl, he1⟩)
    | (go_at_call 34; refine (Q.out _ _ hb).mono ?_; rintro e w3 ⟨rfl, rfl⟩)
    | (refine wpList_store_blk rfl 67 _ _ rfl w1.heap.size 67 tblZero tblLocal rfl rfl (Blk.new_at rfl) rfl info_arr rfl ?_; intro w2 hb hch))
  go_ret
  exact ⟨rfl, he1.trans (((Ext.refl _).alloc _).chg_new hch (fun k hk => by omega))⟩

theorem LocalMsg_c (n : Int) (h0 : 0 ≤ n) (hn : n ≤ 23) (w : World) : Calls Try.prog 10 #[.int .i64 n] w fun e w' =>
    e = .returned (.bool (localB n)) ∧ Ext w w' := by
  have hw : IntKind.i32.wrap n = n := by rw [IntKind.wrap_i32]; omega
  go_enter Try.func10, Try.ntmps10
  go_wp2_with (go_at_call 21; refine (IsLocalMsg_c n h0 hn _).mono ?_; rintro e w1 ⟨rfl, he1⟩)
  go_ret
  exact ⟨rfl, he1⟩

theorem localB_no {n : Int} (h1 : ¬ n = 0) (h2 : ¬ n = 1) (h3 : ¬ n = 10) (h4 : ¬ n = 11) (h5 : ¬ n = 12) (h6 : ¬ n = 19) (h7 : ¬ n = 20) (h8 : ¬ n = 21) (h9 : ¬ n = 22) : localB n = false := by
  simp [localB, h1, h2, h3, h4, h5, h6, h7, h8, h9]

theorem fnLocal_walk (n : Int) (w : World) :
    Calls Try.prog 4 #[.int .i64 n] w fun e w' => e = .returned (.bool true) ∧ Ext w w' := by
  go_enter Try.func4, Try.ntmps4
  go_wp2_with (go_at_call 10; refine (LocalMsg_c _ (by omega) (by omega) _).mono ?_; rintro e w1 ⟨rfl, he1⟩)
  all_goals go_ret
  all_goals refine ⟨?_, by first | exact Ext.refl _ | assumption⟩
  all_goals first | rfl | simp_all [localB]
end Go.Proofs.Ytgjkkcnkblodoaa
