/- The law FnFlights: the walk. -/
import Derived.Test.YtfoffejgpalmpaaFlown
namespace Go.Proofs.Ytfoffejgpalmpaa
open Go.ChangeShapes Go.WideShapes Go.ChangeAt Go.RowKit
set_option linter.unusedSimpArgs false
set_option linter.unusedVariables false

theorem info_call : (Try.prog.info? 36).map (fun i => (i.zero, i.size, i.bytes)) = some (some (.agg #[.int .i64 0, .int .u64 0, .int .u64 0]), 3, 24) := by kernel_rfl
theorem calls_one (xs : List FCall) : ∀ u ∈ xs.flatMap FCall.cells, u.oneCell' = true := by
  intro u hu
  obtain ⟨x, _, hx⟩ := List.mem_flatMap.1 hu
  simp only [FCall.cells, List.mem_cons, List.not_mem_nil, or_false] at hx
  rcases hx with rfl | rfl | rfl <;> rfl

theorem flat_take' {α : Type} {f : α → List Value} {size : Nat} (hf : ∀ x, (f x).length = size) : ∀ (xs : List α) (k : Nat), (xs.flatMap f).take (k * size) = (xs.take k).flatMap f
  | [], k => by simp
  | x :: xs, 0 => by simp
  | x :: xs, k + 1 => by
    rw [List.flatMap_cons, List.take_succ_cons, List.flatMap_cons, Nat.add_mul, Nat.one_mul, Nat.add_comm, ← hf x, List.take_length_add_append, hf x, flat_take' hf xs k]

theorem fly_new (w : World) (sz : Nat) (mx : Int) : FlyR w.heap.size (w.alloc (.cells #[.int .i64 sz, .int .u64 mx, .slice none 0 0, .slice none 0 0] 31)) w.heap.size sz mx [] :=
  ⟨none, none, 0, 0, Blk.new w _ _, WinR.nil _ _ _ _, WinR.nil _ _ _ _, (fun k hk => by cases hk), Nat.le_refl _⟩
theorem ownsRow_le {w : World} {base : Nat} {e : TypeId} {size n c : Nat} {A : Option Addr} {xs : List Value} (h : w.ownsRow base e size (.slice A n c) n xs) : n ≤ c := by
  obtain ⟨A', c', h1, h2, _⟩ := ownsRow_shape h
  injection h1 with _ _ h1
  omega

set_option maxRecDepth 100000 in
theorem fits_c (n : Int) (w : World) : Calls Try.prog 7 #[.int .i64 n] w fun e w' => e = .returned (.bool (decide (0 ≤ n) && decide (n ≤ 1000))) ∧ Ext w w' := by
  by_cases h0 : 0 ≤ n
  · have hb : decide (0 ≤ n) = true := decide_eq_true h0
    go_enter Try.func7, Try.ntmps7
    go_wp2_with fail
    go_ret
    exact ⟨by simp [h0], Ext.refl _⟩
  · have hb : decide (0 ≤ n) = false := decide_eq_false h0
    go_enter Try.func7, Try.ntmps7
    go_wp2_with fail
    go_ret
    exact ⟨by simp [h0], Ext.refl _⟩

set_option maxRecDepth 100000 in
set_option maxHeartbeats 1000000 in
theorem fnFlights_walk (size mx : Int) (v : Value) (l : List FCall) (w : World) (h : SliceR w v 3 l.length (l.flatMap FCall.cells)) : Calls Try.prog 3 #[.int .i64 size, .int .u64 mx, v] w (Yes w) := by
  obtain ⟨A, c, rfl, h1, h2, h3, h4⟩ := h
  have QF := Lib.hid (fits_c size)
  by_cases hbig : (2147483647 : Int) < (l.length : Int)
  · clear h1 h2 h3 h4
    go_enter Try.func3, Try.ntmps3
    go_wp2_with fail
    go_ret
    exact ⟨rfl, Ext.refl _⟩
  by_cases hfit : (decide (0 ≤ size) && decide (size ≤ 1000)) = true
  · have hs := hfit
    simp only [Bool.and_eq_true, decide_eq_true_eq] at hs
    obtain ⟨sz, rfl⟩ := Int.eq_ofNat_of_zero_le hs.1
    have hsz : sz ≤ 1000 := by omega
    have hfit' := Lib.hid hfit
    obtain ⟨m, hm⟩ : ∃ m, m = min l.length 400 := ⟨_, rfl⟩
    have hm0 : m ≤ l.length := by omega
    have hm1 : m ≤ 400 := by omega
    have hmi : (m : Int) = min (l.length : Int) 400 := by omega
    have hmi' := Lib.hid hmi
    have h4' := h4.take (m * 3)
    rw [flat_take' FCall.cells_len] at h4'
    have hl : (l.take m).length = m := by rw [List.length_take]; omega
    have hlen : ((l.take m).flatMap FCall.cells).length = m * 3 := by rw [flat_length FCall.cells_len, hl]
    generalize l.take m = cs at h4' hl hlen
    have h4h := Lib.hid h4'
    have hlen' := Lib.hid hlen
    have hl' := Lib.hid hl
    have QI : ∀ (A : Option Addr) (c : Nat) (w : World), RowR w A (cs.flatMap FCall.cells) → m ≤ c → Calls Try.prog 8 #[.int .i64 sz, .int .u64 mx, .slice A m c] w fun e w' => ∃ A' c', e = .returned (.slice A' (flRun sz mx [] cs).length c') ∧
        w'.ownsRow w.heap.size 38 3 (.slice A' (flRun sz mx [] cs).length c') (flRun sz mx [] cs).length ((flRun sz mx [] cs).flatMap FAns.cells) ∧ Ext w w' := by
      intro A c w hr hc
      have := Flights_c A c sz mx cs w hr (by omega) (by omega) (by omega)
      rwa [hl] at this
    have QR : ∀ (b : Nat) (A B : Option Addr) (c d : Nat) (xs : List FAns) (W0 w : World), FlyR W0.heap.size w b sz mx [] → RowR W0 A (cs.flatMap FCall.cells) → RowR W0 B (xs.flatMap FAns.cells) → Ext W0 w → xs = flRun sz mx [] cs →
        Calls Try.prog 9 #[.pointer (some ⟨b, 0, none⟩), .slice A m c, .slice B xs.length d] w fun e w' => e = .returned (.bool true) ∧ Ext W0 w' := by
      intro b A B c d xs W0 w hF hA hB hE hx
      have := flown_c W0.heap.size b sz mx A B c d cs xs W0 w hF hA hB (Nat.le_refl _) hE hx (by omega) (by omega)
      rwa [hl] at this
    have hQI := Lib.hid QI
    have hQR := Lib.hid QR
    obtain ⟨xs, hxs⟩ : ∃ xs, xs = flRun sz mx [] cs := ⟨_, rfl⟩
    rw [← hxs] at hQI
    have hxs' := Lib.hid hxs
    clear QI QR hxs
    clear h3 h4 h4' hmi hlen hl hfit hs hm
    go_enter Try.func3, Try.ntmps3
    go_wp2_with (first
      | (go_at_call 9; refine (hQR.out _ _ _ _ _ xs w2 _ (fly_new w2 sz mx) ((RowR.of_own ho'.out).ext he2'.out) (RowR.of_own ho2'.out) ((Ext.refl w2).alloc _) hxs'.out).mono ?_; rintro e w3 ⟨rfl, he3⟩)
      | (go_at_call 8; refine (hQI.out _ _ _ (by simpa using RowR.of_own ho'.out) (ownsRow_le ho'.out)).mono ?_; rintro e w2 ⟨A2, c2, rfl, ho2, he2⟩; have ho2' := Lib.hid ho2; have he2' := Lib.hid he2; clear ho2 he2)
      | (go_at_call 7; refine (QF.out _).mono ?_; rintro e w0 ⟨rfl, he0⟩; rw [hfit'.out])
      | refine wpList_min2 rfl _ _ _ rfl .i64 _ _ m rfl rfl hmi'.out ?_
      | (at_builtin; refine wpList_append_row _ rfl _ _ _ rfl w0.heap.size 36 (.agg #[.int .i64 0, .int .u64 0, .int .u64 0]) 3 24 Try.underlying23 info_call rfl (by omega) (.slice (some ⟨w0.heap.size, 0, none⟩) 0 0) 0 [] rfl ⟨rfl, .inr ⟨w0.heap.size, 0, #[], rfl, Nat.le_refl _, (Blk.new w0 36 #[]).out, Nat.le_refl _, by simp [maxLen], rfl, rfl⟩⟩ A m c (cs.flatMap FCall.cells) rfl hlen'.out ((h4h.out).ext (he0.alloc _)) (calls_one _) (by unfold maxLen; omega) (by omega) ((Ext.refl w0).alloc _).size_le ?_; intro A' c' w1 ho hg hb; rw [Nat.zero_add, List.nil_append] at ho; have ho' := Lib.hid ho; have hg' := Lib.hid hg; clear ho hg hb))
    go_ret
    exact ⟨rfl, ((he0.alloc _).grown hg'.out (fun k hk => by cases hk; exact he0.size_le)).trans (he2'.out.trans he3)⟩
  · have hfit' : (decide (0 ≤ size) && decide (size ≤ 1000)) = false := by simpa using hfit
    have hfh := Lib.hid hfit'
    clear h1 h2 h3 h4 hfit hfit'
    go_enter Try.func3, Try.ntmps3
    go_wp2_with (go_at_call 7; refine (QF.out _).mono ?_; rintro e w0 ⟨rfl, he0⟩; rw [hfh.out])
    go_ret
    exact ⟨rfl, he0⟩

end Go.Proofs.Ytfoffejgpalmpaa
