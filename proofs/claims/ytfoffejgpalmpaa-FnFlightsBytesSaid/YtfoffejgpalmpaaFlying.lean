/- The reference's flights: spec.Flying, its Sum, Full, Add, Free, Reset. -/
import Derived.Test.YtfoffejgpalmpaaWin
import Derived.Test.YtfoffejgpalmpaaFlights
namespace Go.Proofs.Ytfoffejgpalmpaa
open Go.ChangeShapes Go.WideShapes Go.ChangeAt Go.RowKit
set_option linter.unusedSimpArgs false
set_option linter.unusedVariables false

def idxs (q : List Fl) : List Value := q.map fun x => .int .u64 x.1
def byts (q : List Fl) : List Value := q.map fun x => .int .u64 x.2
def fyCells (sz : Nat) (mx : Int) (v1 v2 : Value) : Array Value := #[.int .i64 sz, .int .u64 mx, v1, v2]
/-- The reference holds the queue q. -/
structure FlyV (base : Nat) (w : World) (b sz : Nat) (mx : Int) (q : List Fl) (A1 A2 : Option Addr) (c1 c2 : Nat) : Prop where
  blk : Blk w b 31 (fyCells sz mx (.slice A1 q.length c1) (.slice A2 q.length c2))
  i : WinR w base 22 1 (.slice A1 q.length c1) q.length (idxs q)
  y : WinR w base 22 1 (.slice A2 q.length c2) q.length (byts q)
  ne : ∀ k, A1.map (·.block) = some k → ¬ A2.map (·.block) = some k
  base : base ≤ b
def FlyR (base : Nat) (w : World) (b sz : Nat) (mx : Int) (q : List Fl) : Prop := ∃ A1 A2 c1 c2, FlyV base w b sz mx q A1 A2 c1 c2
def fyTs : List Nat := [31 + 1, 22 + 1]
def Chg0 (base : Nat) (w w' : World) : Prop := ChgT fyTs w w' ∧ ∀ W0 : World, W0.heap.size ≤ base → Ext W0 w → Ext W0 w'
theorem Chg0.refl (base : Nat) (w : World) : Chg0 base w w := ⟨ChgT.refl _ _, fun _ _ h => h⟩
theorem Chg0.trans {base : Nat} {a b c : World} (h : Chg0 base a b) (k : Chg0 base b c) : Chg0 base a c := ⟨h.1.trans k.1, fun W0 hW he => k.2 W0 hW (h.2 W0 hW he)⟩
theorem Chg0.ext {base : Nat} {a b : World} (h : Ext a b) : Chg0 base a b := ⟨h.chgT _, fun _ _ he => he.trans h⟩
theorem Chg0.blk {base b : Nat} {w w' : World} {cs : Array Value} (hb : Blk w b 31 cs) (hB : base ≤ b) (h : Chg (· = b) w w') : Chg0 base w w' := by
  refine ⟨(h.chgT 31 (fun k o hk ho => ?_)).mono (fun x hx => ?_), fun W0 hW he => he.chg_new h (fun k hk => by omega)⟩
  · subst hk
    have := hb.out
    rw [this] at ho
    injection ho with ho
    subst ho
    rfl
  · simp only [List.contains_cons, List.contains_nil, Bool.or_false, beq_eq_false_iff_ne]
    rintro rfl
    simp [fyTs] at hx
theorem Chg0.win {base n c : Nat} {w w' : World} {A : Option Addr} {xs : List Value} (hw : WinR w base 22 1 (.slice A n c) n xs) (h : Chg (fun j => A.map (·.block) = some j) w w') (k : ∀ W0 : World, W0.heap.size ≤ base → Ext W0 w → Ext W0 w') : Chg0 base w w' := by
  refine ⟨(h.chgT 22 (fun j o hj ho => ?_)).mono (fun x hx => ?_), k⟩
  · rcases hw.2 with ⟨hv, _⟩ | ⟨g, off, cap, cur, hv, h2, h3, _⟩
    · injection hv with e1
      subst e1
      cases hj
    · injection hv with e1
      subst e1
      simp only [Option.map_some, Option.some.injEq] at hj
      subst hj
      rw [h3] at ho
      injection ho with ho
      subst ho
      rfl
  · simp only [List.contains_cons, List.contains_nil, Bool.or_false, beq_eq_false_iff_ne]
    rintro rfl
    simp [fyTs] at hx
theorem FlyV.ext {base b sz : Nat} {mx : Int} {q : List Fl} {A1 A2 : Option Addr} {c1 c2 : Nat} {w w' : World} (h : FlyV base w b sz mx q A1 A2 c1 c2) (e : Ext w w') : FlyV base w' b sz mx q A1 A2 c1 c2 :=
  ⟨h.blk.ext e, h.i.ext e, h.y.ext e, h.ne, h.base⟩
theorem FlyR.ext {base b sz : Nat} {mx : Int} {q : List Fl} {w w' : World} (h : FlyR base w b sz mx q) (e : Ext w w') : FlyR base w' b sz mx q := by
  obtain ⟨A1, A2, c1, c2, h⟩ := h
  exact ⟨A1, A2, c1, c2, h.ext e⟩
theorem idxs_at {q : List Fl} {k : Nat} (hk : k < q.length) : (idxs q)[k]? = some (.int .u64 q[k].1) := by simp [idxs, hk]
theorem byts_at {q : List Fl} {k : Nat} (hk : k < q.length) : (byts q)[k]? = some (.int .u64 q[k].2) := by simp [byts, hk]

set_option maxRecDepth 100000 in
set_option maxHeartbeats 1000000 in
theorem flySum_c (base b sz : Nat) (mx : Int) (q : List Fl) (w : World) (h : FlyR base w b sz mx q) (hn : q.length ≤ 1000000) :
    Calls Try.prog 50 #[.pointer (some ⟨b, 0, none⟩)] w fun e w' => e = .returned (.int .u64 (sumQ q)) ∧ w = w' := by
  obtain ⟨A1, A2, cc1, cc2, h⟩ := h
  have c3 := Blk.cell h.blk 3
  simp [fyCells] at c3
  have hrow := Lib.hid h.y.row
  clear h
  go_enter Try.func50, Try.ntmps50
  go_wp2
  go_loopg [3, 4] q.length (fun g s i wr => ∃ k : Nat, g = q.length - k ∧ k ≤ q.length ∧ i = .int .i64 k ∧ s = .int .u64 (sumQ (q.take k)) ∧ wr = w)
  case atStart => exact ⟨0, rfl, Nat.zero_le _, rfl, rfl, rfl⟩
  case round =>
    obtain ⟨k, hg, hk, rfl, rfl, rfl⟩ := hrel
    have hg' := Lib.hid hg
    clear hg
    by_cases hlt : k < q.length
    · obtain ⟨bb, o, hA, hc⟩ := hrow.out k _ (byts_at hlt)
      subst hA
      have hs : sumQ (q.take (k + 1)) = (sumQ (q.take k) + q[k].2) % 18446744073709551616 := by
        rw [List.take_add_one, List.getElem?_eq_getElem hlt]
        exact sumQ_snoc _ _
      generalize q[k].2 = x at hc hs
      have hltI : (k : Int) < (q.length : Int) := by omega
      have hs' := Lib.hid hs
      clear hs
      go_wp2
      go_roundg (q.length - (k + 1))
      case rel => exact ⟨k + 1, rfl, by omega, rfl, by rw [hs'.out]; rfl, rfl⟩
      case measure =>
        have := hg'.out
        omega
    · have hkk : k = q.length := by omega
      have hltI : (q.length : Int) ≤ (k : Int) := by omega
      go_wp2
      go_ret
      rw [hkk, List.take_of_length_le (Nat.le_refl _)]
      exact ⟨rfl, rfl⟩

set_option maxRecDepth 100000 in
set_option maxHeartbeats 1000000 in
theorem flyFull_c (base b sz : Nat) (mx : Int) (q : List Fl) (w : World) (h : FlyR base w b sz mx q) (hn : q.length ≤ 1000000) :
    Calls Try.prog 26 #[.pointer (some ⟨b, 0, none⟩)] w fun e w' => e = .returned (.bool (isFull q.length (sumQ q) sz mx)) ∧ Ext w w' := by
  have Q := Lib.hid (fun w1 (he : Ext w w1) => flySum_c base b sz mx q w1 (h.ext he) hn)
  obtain ⟨A1, A2, cc1, cc2, h⟩ := h
  have c0 := Blk.cell h.blk 0
  have c1 := Blk.cell h.blk 1
  have c2 := Blk.cell h.blk 2
  simp [fyCells] at c0 c1 c2
  clear h
  by_cases h1 : q.length = sz
  · have hr : isFull q.length (sumQ q) sz mx = true := by simp [isFull, h1]
    have hr' := Lib.hid hr
    clear hr
    have hb : ((q.length : Int) == (sz : Int)) = true := by simp [h1]
    clear h1
    go_enter Try.func26, Try.ntmps26
    go_wp2_with fail
    go_quiet (fail)
    go_wp2
    go_ret
    exact ⟨by rw [hr'.out]; rfl, (Ext.refl w).drewN _⟩
  · have hb1 : ((q.length : Int) == (sz : Int)) = false := by
      rw [beq_eq_false_iff_ne]
      omega
    have hb1n : (q.length == sz) = false := by simpa using h1
    by_cases h2 : mx = 0
    · have hr : isFull q.length (sumQ q) sz mx = false := by simp [isFull, h1, h2]
      have hr' := Lib.hid hr
      clear hr
      subst h2
      go_enter Try.func26, Try.ntmps26
      go_wp2_with fail
      go_quiet (fail)
      go_wp2
      go_ret
      exact ⟨by rw [hr'.out]; rfl, (Ext.refl w).drewN _⟩
    · have hb2 : (mx != 0) = true := by simpa using h2
      have hr : isFull q.length (sumQ q) sz mx = decide (mx ≤ sumQ q) := by rw [isFull, hb1n, hb2, Bool.false_or, Bool.true_and]
      have hr' := Lib.hid hr
      clear hr
      go_enter Try.func26, Try.ntmps26
      go_wp2_with fail
      go_region_with (go_at_call 50; refine (Q.out _ (Ext.refl w).drew).mono ?_; rintro e w3 ⟨rfl, rfl⟩)
      all_goals go_wp2
      all_goals go_ret
      all_goals exact ⟨by rw [hr'.out]; rfl, (Ext.refl w).drew⟩

theorem flyReset_c (base b sz : Nat) (mx : Int) (q : List Fl) (w : World) (h : FlyR base w b sz mx q) :
    Calls Try.prog 37 #[.pointer (some ⟨b, 0, none⟩)] w fun e w' => e = .returned (.tuple #[]) ∧ FlyR base w' b sz mx [] ∧ Chg0 base w w' := by
  obtain ⟨A1, A2, cc1, cc2, h⟩ := h
  have c2 := Blk.cell h.blk 2
  have c3 := Blk.cell h.blk 3
  have f2 := Blk.thaw h.blk 2
  have f3 := Blk.thaw h.blk 3
  simp [fyCells] at c2 c3
  have h' := Lib.hid h
  clear h
  go_enter Try.func37, Try.ntmps37
  go_wp2
  go_end0
  refine ⟨rfl, ⟨none, none, 0, 0, ?_, WinR.nil _ _ _ _, WinR.nil _ _ _ _, (fun k hk => by cases hk), h'.out.base⟩, ?_⟩
  · exact (h'.out.blk.set_ 2 (.slice none 0 0)).set_ 3 (.slice none 0 0)
  · exact (Chg0.blk h'.out.blk h'.out.base (chg_setCell _ ⟨b, 2, none⟩ _)).trans (Chg0.blk (h'.out.blk.set_ 2 (.slice none 0 0)) h'.out.base (chg_setCell _ ⟨b, 3, none⟩ _))

end Go.Proofs.Ytfoffejgpalmpaa
