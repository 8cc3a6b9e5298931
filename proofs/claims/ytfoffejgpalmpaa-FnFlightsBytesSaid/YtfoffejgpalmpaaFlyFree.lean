/- The reference's flights: Add told once; Free. -/
import Derived.Test.YtfoffejgpalmpaaFlyAdd
namespace Go.Proofs.Ytfoffejgpalmpaa
open Go.ChangeShapes Go.WideShapes Go.ChangeAt Go.RowKit
set_option linter.unusedSimpArgs false
set_option linter.unusedVariables false

/-- Whether the reference takes a flight. -/
def addOk (q : List Fl) (sz : Nat) (mx i y : Int) : Bool := !isFull q.length (sumQ q) sz mx && (match q.getLast? with | none => true | some l => decide (l.1 < i)) && decide (y < 1099511627776)
theorem flyAdd_c (base b sz : Nat) (mx i y : Int) (q : List Fl) (w : World) (h : FlyR base w b sz mx q) (hn : q.length ≤ 1000000) :
    Calls Try.prog 19 #[.pointer (some ⟨b, 0, none⟩), .int .u64 i, .int .u64 y] w fun e w' => e = .returned (.bool (addOk q sz mx i y)) ∧ Chg0 base w w' ∧ FlyR base w' b sz mx (if addOk q sz mx i y then q ++ [(i, y)] else q) := by
  have no : ∀ {e : Ending} {w' : World}, addOk q sz mx i y = false → (e = .returned (.bool false) ∧ Ext w w') → e = .returned (.bool (addOk q sz mx i y)) ∧ Chg0 base w w' ∧ FlyR base w' b sz mx (if addOk q sz mx i y then q ++ [(i, y)] else q) := by
    intro e w' ha he
    rw [ha]
    exact ⟨he.1, Chg0.ext he.2, h.ext he.2⟩
  have yes : ∀ {e : Ending} {w' : World}, addOk q sz mx i y = true → (e = .returned (.bool true) ∧ FlyR base w' b sz mx (q ++ [(i, y)]) ∧ Chg0 base w w') → e = .returned (.bool (addOk q sz mx i y)) ∧ Chg0 base w w' ∧ FlyR base w' b sz mx (if addOk q sz mx i y then q ++ [(i, y)] else q) := by
    intro e w' ha he
    rw [ha]
    exact ⟨he.1, he.2.2, he.2.1⟩
  cases hf : isFull q.length (sumQ q) sz mx with
  | true => exact (flyAdd_full base b sz mx i y q w h hn hf).mono fun e w' => no (by simp [addOk, hf])
  | false =>
    by_cases hq : q.length = 0
    · have hl : q.getLast? = none := by
        rw [List.getLast?_eq_none_iff]
        exact List.eq_nil_of_length_eq_zero hq
      by_cases hy : 1099511627776 ≤ y
      · exact (flyAdd_late0 base b sz mx i y q w h hn hf hq hy).mono fun e w' => no (by simp [addOk, hl]; omega)
      · exact (flyAdd_first base b sz mx i y q w h hn hf hq hy).mono fun e w' => yes (by simp [addOk, hl, hf]; omega)
    · have hlt : q.length - 1 < q.length := by omega
      have hl : q[q.length - 1]? = some q[q.length - 1] := List.getElem?_eq_getElem hlt
      have hgl : q.getLast? = some q[q.length - 1] := by rw [List.getLast?_eq_getElem?, hl]
      generalize q[q.length - 1] = l at hl hgl
      by_cases hi : i ≤ l.1
      · exact (flyAdd_low base b sz mx i y q w h hn hf l (by omega) hl hi).mono fun e w' => no (by simp [addOk, hgl]; intro _ _; omega)
      · by_cases hy : 1099511627776 ≤ y
        · exact (flyAdd_late base b sz mx i y q w h hn hf l (by omega) hl hi hy).mono fun e w' => no (by simp [addOk]; intros; omega)
        · exact (flyAdd_next base b sz mx i y q w h hn hf l (by omega) hl hi hy).mono fun e w' => yes (by simp [addOk, hgl, hf]; omega)

/-- 'x[1:]', as the model answers it. -/
theorem WinR.pop {w : World} {base : Nat} {e : TypeId} {g off n c : Nat} {xs : List Value} (h : WinR w base e 1 (.slice (some ⟨g, off, none⟩) n c) n xs) (hn : 1 ≤ n) :
    WinR w base e 1 (.slice (if c = 1 then some ⟨g, off, none⟩ else some ⟨g, off + 1, none⟩) (n - 1) (c - 1)) (n - 1) (xs.drop 1) := by
  obtain ⟨_, c', hc, hnc, _⟩ := h.shape
  injection hc with _ _ hc
  subst hc
  split
  · rename_i hc1
    have hn1 : n = 1 := by omega
    subst hn1 hc1
    have ht := h.take 0 (by omega)
    have hx : xs.drop 1 = [] := List.drop_of_length_le (by have := h.1; omega)
    rw [hx]
    rcases h.2 with ⟨hv, _⟩ | ⟨g', off', cap, cur, hv, h2, h3, h4, h5, h6, h7⟩
    · cases hv
    · injection hv with e1 e2 e3
      injection e1 with e1
      injection e1 with e1 e4
      subst e1 e4 e3
      exact ⟨by simp, .inr ⟨g, off, 0, cur, rfl, h2, h3, by omega, by omega, by omega, by simp⟩⟩
  · have := h.drop 1 hn
    simpa using this
theorem fly_pop {base b sz k : Nat} {mx : Int} {q : List Fl} {x : Fl} {g1 o1 g2 o2 c1 c2 : Nat} {w : World} (hV : FlyV base w b sz mx (q.drop k) (some ⟨g1, o1, none⟩) (some ⟨g2, o2, none⟩) c1 c2) (hl : (q.drop k).length = q.length - k) (hd : q.drop k = x :: q.drop (k + 1)) :
    FlyR base ((w.setCell ⟨b, 2, none⟩ (.slice (if c1 = 1 then some ⟨g1, o1, none⟩ else some ⟨g1, o1 + 1, none⟩) (q.length - k - 1) (c1 - 1))).setCell ⟨b, 3, none⟩ (.slice (if c2 = 1 then some ⟨g2, o2, none⟩ else some ⟨g2, o2 + 1, none⟩) (q.length - k - 1) (c2 - 1))) b sz mx (q.drop (k + 1)) := by
  have hl2 : (q.drop (k + 1)).length = q.length - k - 1 := by rw [List.length_drop]; omega
  have h1 : 1 ≤ q.length - k := by rw [← hl, hd]; simp
  have hi := hV.i
  have hy := hV.y
  have hblk := hV.blk
  rw [hl] at hi hy hblk
  have hi' := hi.pop h1
  have hy' := hy.pop h1
  have ei : (idxs (q.drop k)).drop 1 = idxs (q.drop (k + 1)) := by rw [hd]; simp [idxs]
  have ey : (byts (q.drop k)).drop 1 = byts (q.drop (k + 1)) := by rw [hd]; simp [byts]
  rw [ei] at hi'
  rw [ey] at hy'
  have b1 := hblk.set_ 2 (.slice (if c1 = 1 then some ⟨g1, o1, none⟩ else some ⟨g1, o1 + 1, none⟩) (q.length - k - 1) (c1 - 1))
  have b2 := b1.set_ 3 (.slice (if c2 = 1 then some ⟨g2, o2, none⟩ else some ⟨g2, o2 + 1, none⟩) (q.length - k - 1) (c2 - 1))
  have hb1 : ∀ (c g o : Nat), (if c = 1 then some (⟨g, o, none⟩ : Addr) else some ⟨g, o + 1, none⟩).map (·.block) = some g := by
    intro c g o
    split <;> rfl
  refine ⟨(if c1 = 1 then some ⟨g1, o1, none⟩ else some ⟨g1, o1 + 1, none⟩), (if c2 = 1 then some ⟨g2, o2, none⟩ else some ⟨g2, o2 + 1, none⟩), c1 - 1, c2 - 1, ?_, ?_, ?_, ?_, hV.base⟩
  · rw [hl2]
    simpa [fyCells] using b2
  · rw [hl2]
    exact (hi'.chg (chg_setCell w ⟨b, 2, none⟩ _) (fun k hk => hi'.ne hblk (by decide) k hk)).chg (chg_setCell _ ⟨b, 3, none⟩ _) (fun k hk => hi'.ne hblk (by decide) k hk)
  · rw [hl2]
    exact (hy'.chg (chg_setCell w ⟨b, 2, none⟩ _) (fun k hk => hy'.ne hblk (by decide) k hk)).chg (chg_setCell _ ⟨b, 3, none⟩ _) (fun k hk => hy'.ne hblk (by decide) k hk)
  · intro j hj
    rw [hb1] at hj ⊢
    exact hV.ne j hj
theorem fly_pop_chg {base b sz : Nat} {mx : Int} {q : List Fl} {A1 A2 : Option Addr} {c1 c2 : Nat} {w : World} (hV : FlyV base w b sz mx q A1 A2 c1 c2) (u v : Value) : Chg0 base w ((w.setCell ⟨b, 2, none⟩ u).setCell ⟨b, 3, none⟩ v) := by
  exact (Chg0.blk hV.blk hV.base (chg_setCell w ⟨b, 2, none⟩ u)).trans (Chg0.blk (hV.blk.set_ 2 u) hV.base (chg_setCell _ ⟨b, 3, none⟩ v))

set_option maxRecDepth 100000 in
set_option maxHeartbeats 2000000 in
theorem flyFree_c (base b sz : Nat) (mx to : Int) (q : List Fl) (w : World) (h : FlyR base w b sz mx q) (hn : q.length ≤ 1000000) :
    Calls Try.prog 31 #[.pointer (some ⟨b, 0, none⟩), .int .u64 to] w fun e w' => e = .returned (.tuple #[]) ∧ FlyR base w' b sz mx (freed to q) ∧ Chg0 base w w' := by
  have h' := Lib.hid h
  clear h
  go_enter Try.func31, Try.ntmps31
  go_wp2
  go_loopg [] q.length (fun g wr => ∃ k : Nat, g = q.length - k ∧ k ≤ q.length ∧ freed to q = freed to (q.drop k) ∧ FlyR base wr b sz mx (q.drop k) ∧ Chg0 base w wr)
  case atStart => exact ⟨0, by omega, by omega, by rw [List.drop_zero], by rw [List.drop_zero]; exact h'.out, Chg0.refl _ _⟩
  case round =>
    obtain ⟨k, hg, hk, hfr, hF, hC⟩ := hrel
    have hg' := Lib.hid hg
    have hfr' := Lib.hid hfr
    have hC' := Lib.hid hC
    obtain ⟨A1, A2, cc1, cc2, hV⟩ := hF
    have hV' := Lib.hid hV
    have d2 := hV.blk.cell 2
    have d3 := hV.blk.cell 3
    have z2 := hV.blk.thaw 2
    have z3 := hV.blk.thaw 3
    simp [fyCells] at d2 d3
    clear hg hfr hC
    by_cases hkl : k < q.length
    · have hd : q.drop k = q[k] :: q.drop (k + 1) := List.drop_eq_getElem_cons hkl
      have hlen : (q.drop k).length = q.length - k := List.length_drop
      generalize q[k] = x at hd
      have hrow := hV.i.row
      obtain ⟨g1, o1, hA1, e1⟩ := hrow 0 (.int .u64 x.1) (by rw [hd]; simp [idxs])
      obtain ⟨g2, o2, hA2, e2⟩ := hV.y.row 0 (.int .u64 x.2) (by rw [hd]; simp [byts])
      subst hA1 hA2
      rw [Nat.add_zero] at e1
      have hpos : (0 : Int) < ((q.length - k : Nat) : Int) := by omega
      have hpos0 : ((q.length - k : Nat) : Int) = (q.length : Int) - k := by omega
      have hkI : (k : Int) < (q.length : Int) := by omega
      obtain ⟨_, cx1, hcx1, hc1, hm1⟩ := hV.i.shape
      injection hcx1 with j1 j2 hcx1
      clear j1 j2
      obtain ⟨_, cx2, hcx2, hc2, hm2⟩ := hV.y.shape
      injection hcx2 with j1 j2 hcx2
      clear j1 j2
      subst hcx1 hcx2
      rw [hlen] at hc1 hc2
      have hgt : decide (0 < q.length - k) = true := by simp; omega
      have hltc : k < q.length := hkl
      have hd' := Lib.hid hd
      have hlen' := Lib.hid hlen
      clear hV hrow hd hlen e2
      by_cases hx : x.1 ≤ to
      · go_wp2_with fail
        have hcN1 : (1 : Int) ≤ (cc1 : Int) := by omega
        have hcN2 : (1 : Int) ≤ (cc2 : Int) := by omega
        have hk1 : (1 : Int) ≤ ((q.length - k : Nat) : Int) := by omega
        have hk2 : (1 : Int) ≤ (q.length : Int) - k := by omega
        go_region_with fail
        all_goals
          generalize hB1 : (if cc1 = 1 then (some ⟨g1, o1, none⟩ : Option Addr) else some ⟨g1, o1 + 1, none⟩) = B1
          generalize hB2 : (if cc2 = 1 then (some ⟨g2, o2, none⟩ : Option Addr) else some ⟨g2, o2 + 1, none⟩) = B2
          have hB1' := Lib.hid hB1
          have hB2' := Lib.hid hB2
          clear hB1 hB2
          go_wp2
          go_roundg (q.length - (k + 1))
          case rel => exact ⟨k + 1, rfl, by omega, by rw [hfr'.out, hd'.out, freed_go hx], by rw [← hB1'.out, ← hB2'.out]; exact (fly_pop hV'.out hlen'.out hd'.out).ext (Ext.refl _).drew, (hC'.out.trans (fly_pop_chg hV'.out _ _)).trans (Chg0.ext (Ext.refl _).drew)⟩
          case measure =>
            have := hg'.out
            omega
      · have hfe : freed to q = q.drop k := by rw [hfr'.out, hd'.out, freed_stop (by omega)]
        have hfe' := Lib.hid hfe
        clear hfe
        go_wp2
        go_end0
        rw [hfe'.out]
        exact ⟨rfl, ⟨_, _, cc1, cc2, hV'.out⟩, hC'.out⟩
    · have hl : (q.drop k).length = 0 := by rw [List.length_drop]; omega
      have hnil : q.drop k = [] := List.eq_nil_of_length_eq_zero hl
      have hl2 : q.length - k = 0 := by omega
      have hnil' := Lib.hid hnil
      rw [hl2] at d2 d3
      clear hV hl hnil hl2
      go_wp2
      go_end0
      rw [hfr'.out, hnil'.out, freed_nil]
      have hv := hV'.out
      rw [hnil'.out] at hv
      exact ⟨rfl, ⟨A1, A2, cc1, cc2, hv⟩, hC'.out⟩

end Go.Proofs.Ytfoffejgpalmpaa
