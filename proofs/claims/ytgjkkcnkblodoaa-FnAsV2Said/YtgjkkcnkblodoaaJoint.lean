/- Changes of a configuration: changeTo, what is read of it, EnterJoint; the law FnJoint's walk. -/
import Derived.Test.YtgjkkcnkblodoaaSingle
namespace Go.Proofs.Ytgjkkcnkblodoaa
open Go.ChangeShapes Go.WideShapes Go.ChangeAt Go.RowKit
set_option linter.unusedSimpArgs false
set_option linter.unusedVariables false

theorem i32_wrap (x : Int) : IntKind.i32.wrap x = wrap32 x := by rw [IntKind.wrap_i32]; unfold wrap32; omega

structure Change where
  trans : Int
  changes : List Single
  context : ByteArray
def Change.fits (c : Change) : Prop := c.changes.length ≤ 2147483647 ∧ c.context.size ≤ 2147483647
def ChangeA (w : World) (cs : List Value) (c : Change) : Prop := ∃ v, cs = [.int .i64 c.trans, v, .string c.context] ∧ SinglesA w v c.changes
theorem ChangeA.ext {w w' : World} {cs : List Value} {c : Change} (h : ChangeA w cs c) (e : Ext w w') : ChangeA w' cs c := by
  obtain ⟨v, h1, h2⟩ := h
  exact ⟨v, h1, h2.ext e⟩
def ChangeC (w : World) (v0 v1 v2 : Value) (c : Change) : Prop := PtrR w v0 83 (.int .i32 (wrap32 c.trans)) ∧ SinglesP w v1 c.changes ∧ BytesR w v2 c.context
theorem ChangeC.ext {w w' : World} {v0 v1 v2 : Value} {c : Change} (h : ChangeC w v0 v1 v2 c) (e : Ext w w') : ChangeC w' v0 v1 v2 c := ⟨h.1.ext e, h.2.1.ext e, h.2.2.ext e⟩
def ChangeP (w : World) (v : Value) (c : Change) : Prop := ∃ (b : Nat) (v0 v1 v2 : Value), v = .pointer (some ⟨b, 0, none⟩) ∧ Blk w b 87 #[v0, v1, v2] ∧ ChangeC w v0 v1 v2 c
theorem ChangeP.ext {w w' : World} {v : Value} {c : Change} (h : ChangeP w v c) (e : Ext w w') : ChangeP w' v c := by
  obtain ⟨b, v0, v1, v2, h1, h2, h3⟩ := h
  exact ⟨b, v0, v1, v2, h1, h2.ext e, h3.ext e⟩

set_option maxRecDepth 100000 in
set_option maxHeartbeats 1000000 in
theorem changeTo_c (cs : List Value) (c : Change) (w : World) (h : ChangeA w cs c) (hf : c.fits) : Calls Try.prog 27 #[.agg cs.toArray] w (RetV w fun v w' => ChangeP w' v c) := by
  obtain ⟨v, rfl, hs⟩ := h
  obtain ⟨f0, f1⟩ := hf
  have f2 : c.context.size ≤ maxLen := by unfold maxLen; omega
  obtain ⟨A, cp, e1⟩ : ∃ A cp, v = .slice A c.changes.length cp := by
    obtain ⟨A, cp, h1, _⟩ := hs
    exact ⟨A, cp, h1⟩
  subst e1
  go_enter Try.func27, Try.ntmps27
  go_wp2
  refine wp_region_grow Ext
    [.val ?r0, .val ?r1, .val ?r2, Fact.is (fun v w => PtrR w v 83 (.int .i32 (wrap32 c.trans))), .val ?r4, .val ?r5, Fact.is (fun v w => SinglesP w v c.changes), .val ?r7, .val ?r8, Fact.is (fun v w => BytesR w v c.context), Fact.is (fun v w => ∃ a0 a1 a2, v = .agg #[a0, a1, a2] ∧ ChangeC w a0 a1 a2 c), Fact.is (fun v w => ChangeP w v c), Fact.is (fun v w => ChangeP w v c)]
    [[], [(0, 3)], [(1, 4)], [(2, 5)], [], [(4, 7)], [(5, 8)], [], [(7, 10)], [(8, 11)], [(3, 6), (6, 9), (9, 12)], [(10, 13)], [(11, 14)]]
    (by kernel_rfl) Ext.refl (fun _ _ _ => Ext.trans) (by kernel_rfl) rfl ⟨trivial, trivial, trivial, fun _ _ _ h e => h.ext e, trivial, trivial, fun _ _ _ h e => h.ext e, trivial, trivial, fun _ _ _ h e => h.ext e, fun v w1 w2 h e => by obtain ⟨a, b, c', h1, h2⟩ := h; exact ⟨a, b, c', h1, h2.ext e⟩, fun _ _ _ h e => h.ext e, fun _ _ _ h e => h.ext e, trivial⟩ ?ask ?fin
  case ask =>
    refine asks_cons ?a0 (asks_cons ?a1 (asks_cons ?a2 (asks_cons ?a3 (asks_cons ?a4 (asks_cons ?a5 (asks_cons ?a6 (asks_cons ?a7 (asks_cons ?a8 (asks_cons ?a9 (asks_cons ?a10 (asks_cons ?a11 (asks_cons ?a12 (trivial)))))))))))))
    case a0 =>
      intro w' hS
      simp only [takes, List.map_cons, List.map_nil, List.getD_cons_zero, List.getD_cons_succ, feed, Act.put, List.setIfInBounds_toArray, List.set_cons_zero, List.set_cons_succ]
      refine alone_val ?_
      intro K hK
      show Oper.wp _ _ _ _ _ _
      go_simp
      exact hK _ (Ext.refl _)
    case a1 =>
      intro w' hS
      simp only [takes, List.map_cons, List.map_nil, List.getD_cons_zero, List.getD_cons_succ, feed, Act.put, List.setIfInBounds_toArray, List.set_cons_zero, List.set_cons_succ]
      refine alone_val ?_
      intro K hK
      show Oper.wp _ _ _ _ _ _
      obtain ⟨hc, hf⟩ := hS.rules
      go_simp
      exact hK _ (Ext.refl _)
    case a2 =>
      intro w' hS
      simp only [takes, List.map_cons, List.map_nil, List.getD_cons_zero, List.getD_cons_succ, feed, Act.put, List.setIfInBounds_toArray, List.set_cons_zero, List.set_cons_succ]
      refine alone_val ?_
      intro K hK
      show Oper.wp _ _ _ _ _ _
      go_simp
      exact hK _ (Ext.refl _)
    case a3 =>
      intro w' hS
      simp only [takes, List.map_cons, List.map_nil, List.getD_cons_zero, List.getD_cons_succ, feed, Act.put, List.setIfInBounds_toArray, List.set_cons_zero, List.set_cons_succ]
      intro K hK
      show Oper.wp _ _ _ _ _ _
      go_simp
      simp only [i32_wrap]
      exact hK _ _ ((Ext.refl _).alloc _) (PtrR.new _ _ _)
    case a4 =>
      intro w' hS
      simp only [takes, List.map_cons, List.map_nil, List.getD_cons_zero, List.getD_cons_succ, feed, Act.put, List.setIfInBounds_toArray, List.set_cons_zero, List.set_cons_succ]
      refine alone_val ?_
      intro K hK
      show Oper.wp _ _ _ _ _ _
      go_simp
      exact hK _ (Ext.refl _)
    case a5 =>
      intro w' hS
      simp only [takes, List.map_cons, List.map_nil, List.getD_cons_zero, List.getD_cons_succ, feed, Act.put, List.setIfInBounds_toArray, List.set_cons_zero, List.set_cons_succ]
      refine alone_val ?_
      intro K hK
      show Oper.wp _ _ _ _ _ _
      obtain ⟨hc, hf⟩ := hS.rules
      go_simp
      exact hK _ (Ext.refl _)
    case a6 =>
      intro w' hS
      simp only [takes, List.map_cons, List.map_nil, List.getD_cons_zero, List.getD_cons_succ, feed, Act.put, List.setIfInBounds_toArray, List.set_cons_zero, List.set_cons_succ]
      intro K hK
      show Oper.wp _ _ _ _ _ _
      go_simp
      refine (singlesTo_c _ c.changes _ (hs.ext (((Ext.refl w).alloc _).drew.trans hS)) f0).mono ?_
      rintro e w1 ⟨v, rfl, hv, he⟩
      exact hK _ _ he hv
    case a7 =>
      intro w' hS
      simp only [takes, List.map_cons, List.map_nil, List.getD_cons_zero, List.getD_cons_succ, feed, Act.put, List.setIfInBounds_toArray, List.set_cons_zero, List.set_cons_succ]
      refine alone_val ?_
      intro K hK
      show Oper.wp _ _ _ _ _ _
      go_simp
      exact hK _ (Ext.refl _)
    case a8 =>
      intro w' hS
      simp only [takes, List.map_cons, List.map_nil, List.getD_cons_zero, List.getD_cons_succ, feed, Act.put, List.setIfInBounds_toArray, List.set_cons_zero, List.set_cons_succ]
      refine alone_val ?_
      intro K hK
      show Oper.wp _ _ _ _ _ _
      obtain ⟨hc, hf⟩ := hS.rules
      go_simp
      exact hK _ (Ext.refl _)
    case a9 =>
      intro w' hS
      simp only [takes, List.map_cons, List.map_nil, List.getD_cons_zero, List.getD_cons_succ, feed, Act.put, List.setIfInBounds_toArray, List.set_cons_zero, List.set_cons_succ]
      intro K hK
      show Oper.wp _ _ _ _ _ _
      go_simp
      refine (bytesOf_c _ _ f2).mono ?_
      rintro e w1 ⟨v, rfl, hv, he⟩
      exact hK _ _ he hv
    case a10 =>
      intro w' hS
      simp only [takes, List.map_cons, List.map_nil, List.getD_cons_zero, List.getD_cons_succ, feed, Act.put, List.setIfInBounds_toArray, List.set_cons_zero, List.set_cons_succ]
      intro x3 hx3
      intro x6 hx6
      intro x9 hx9
      intro K hK
      show Oper.wp _ _ _ _ _ _
      obtain ⟨b3, e3⟩ := hx3.shape
      obtain ⟨A6, c6, e6⟩ := hx6.shape
      obtain ⟨A9, c9, e9⟩ := hx9.shape
      subst e3 e6 e9
      go_simp
      exact hK _ _ (Ext.refl _) ⟨_, _, _, rfl, hx3, hx6, hx9⟩
    case a11 =>
      intro w' hS
      simp only [takes, List.map_cons, List.map_nil, List.getD_cons_zero, List.getD_cons_succ, feed, Act.put, List.setIfInBounds_toArray, List.set_cons_zero, List.set_cons_succ]
      intro x10 hx10
      intro K hK
      show Oper.wp _ _ _ _ _ _
      obtain ⟨a0, a1, a2, rfl, g⟩ := hx10
      go_simp
      have e1 := (Ext.refl w').alloc (.cells #[a0, a1, a2] 87)
      exact hK _ _ e1 ⟨_, a0, a1, a2, rfl, Blk.new _ _ _, g.ext e1⟩
    case a12 =>
      intro w' hS
      simp only [takes, List.map_cons, List.map_nil, List.getD_cons_zero, List.getD_cons_succ, feed, Act.put, List.setIfInBounds_toArray, List.set_cons_zero, List.set_cons_succ]
      intro x11 hx11
      intro K hK
      show Oper.wp _ _ _ _ _ _
      obtain ⟨b, a0, a1, a2, rfl, g1, g2⟩ := hx11
      go_simp
      exact hK _ _ (Ext.refl _) ⟨b, a0, a1, a2, rfl, g1, g2⟩
  case fin =>
    intro w' hS
    simp only [fills, Act.put, List.setIfInBounds_toArray, List.set_cons_zero, List.set_cons_succ]
    intro x3 hx3 x6 hx6 x9 hx9 x10 hx10 x11 hx11 x12 hx12
    go_wp2
    go_ret
    exact ⟨_, rfl, hx12, ((Ext.refl w).alloc _).drew.trans hS⟩

theorem GetTransition_c (v : Value) (c : Change) (w : World) (h : ChangeP w v c) : Calls Try.prog 41 #[v] w fun e w' => e = .returned (.int .i32 (wrap32 c.trans)) ∧ w = w' := by
  obtain ⟨b, v0, v1, v2, rfl, h1, h2⟩ := h
  have h3 := h2.1
  unfold PtrR at h3
  obtain ⟨b1, rfl, hb⟩ := h3
  have c1 := h1.cell 0
  have c2 := hb.cell 0
  simp at c1 c2
  clear h1 h2 hb
  go_enter Try.func41, Try.ntmps41
  go_wp2
  go_ret
  exact ⟨rfl, rfl⟩

/-- What EnterJoint answers. -/
def joins (c : Change) : Bool := decide ((1 : Int) < c.changes.length) || c.trans != 0
def autos (c : Change) : Bool := joins c && c.trans != 2

theorem EnterJoint_c (v : Value) (c : Change) (w : World) (h : ChangeP w v c) (hn : c.changes.length ≤ 2147483647) (h0 : 0 ≤ c.trans) (h2 : c.trans ≤ 2) :
    Calls Try.prog 28 #[v] w fun e w' => e = .returned (.tuple #[.bool (autos c), .bool (joins c)]) ∧ w = w' := by
  have Q := Lib.hid (GetTransition_c v c w h)
  obtain ⟨b, v0, v1, v2, rfl, hb, hc⟩ := h
  obtain ⟨A, cp, rfl⟩ := hc.2.1.shape
  have c1 := hb.cell 1
  simp at c1
  clear hb hc
  have hq : Hid (∀ j : Bool, joins c = (decide ((1 : Int) < c.changes.length) || c.trans != 0)) := fun _ => rfl
  have hw : wrap32 c.trans = c.trans := by unfold wrap32; omega
  obtain ⟨tr, htr⟩ : ∃ t, t = c.trans := ⟨_, rfl⟩
  rw [hw] at Q
  rw [← htr] at h0 h2 Q
  have htr' := Lib.hid htr
  clear htr hw
  go_enter Try.func28, Try.ntmps28
  go_wp2_with (go_at_call 41; refine Q.out.mono ?_; rintro e w' ⟨rfl, rfl⟩)
  all_goals go_ret2
  all_goals refine ⟨?_, rfl⟩
  all_goals have hk := htr'.out
  all_goals clear Q htr' c1 hq
  all_goals (simp_all [autos, joins] <;> omega)

theorem EntersJoint_c (cs : List Value) (c : Change) (w : World) (h : ChangeA w cs c) (hf : c.fits) (h0 : 0 ≤ c.trans) (h2 : c.trans ≤ 2) :
    Calls Try.prog 17 #[.agg cs.toArray] w fun e w' => e = .returned (.tuple #[.bool (autos c), .bool (joins c)]) ∧ Ext w w' := by
  have Q := Lib.hid (fun W (he : Ext w W) => changeTo_c cs c W (h.ext he) hf)
  obtain ⟨v, rfl, hs⟩ := h
  obtain ⟨A, cp, e1⟩ : ∃ A cp, v = .slice A c.changes.length cp := by
    obtain ⟨A, cp, h1, _⟩ := hs
    exact ⟨A, cp, h1⟩
  subst e1
  clear hs
  go_enter Try.func17, Try.ntmps17
  go_wp2_with (first
    | (go_at_call 27; refine (Q.out _ ((Ext.refl w).alloc _)).mono ?_; rintro e w1 ⟨v, rfl, hv, he⟩)
    | (go_at_call 28; refine (EnterJoint_c _ c _ hv hf.1 h0 h2).mono ?_; rintro e w' ⟨rfl, rfl⟩))
  go_ret2
  exact ⟨rfl, ((Ext.refl w).alloc _).trans he⟩

theorem zzFits12_c (cs : List Value) (c : Change) (w : World) (h : ChangeA w cs c) : Calls Try.prog 15 #[.agg cs.toArray] w (RetB w fun b => b = true → c.fits) := by
  obtain ⟨v, rfl, A, cp, rfl, _⟩ := h
  go_enter Try.func15, Try.ntmps15
  go_wp2
  all_goals go_ret
  all_goals refine ⟨_, rfl, ?_, (Ext.refl w).alloc _⟩
  all_goals first | (intro h; exact absurd h (by decide)) | (intro _; unfold Change.fits; omega)

/-- Kinds and way are ones that there are. -/
def Change.right (c : Change) : Prop := (∀ x ∈ c.changes, 0 ≤ x.kind ∧ x.kind ≤ 3) ∧ 0 ≤ c.trans ∧ c.trans ≤ 2

set_option maxRecDepth 100000 in
set_option maxHeartbeats 1000000 in
theorem rightChange_c (cs : List Value) (c : Change) (w : World) (h : ChangeA w cs c) (hf : c.fits) : Calls Try.prog 16 #[.agg cs.toArray] w (RetB w fun b => b = true → c.right) := by
  obtain ⟨v, rfl, A, cp, rfl, h1, h2, h3, h4⟩ := h
  have h4' := Lib.hid h4
  have hn : c.changes.length ≤ 2147483647 := hf.1
  clear h2 h3 h4 hf
  go_enter Try.func16, Try.ntmps16
  go_wp2
  go_loopg [8] c.changes.length (fun g i wr => ∃ k : Nat, g = c.changes.length - k ∧ k ≤ c.changes.length ∧ i = .int .i64 k ∧ (∀ (j : Nat) (x : Single), j < k → c.changes[j]? = some x → 0 ≤ x.kind ∧ x.kind ≤ 3) ∧ Ext (w.alloc (.cells #[.int .i64 c.trans, .slice A c.changes.length cp, .string c.context] 37)) wr)
  case atStart => exact ⟨0, rfl, Nat.zero_le _, rfl, fun j x h => by omega, Ext.refl _⟩
  case round =>
    obtain ⟨k, hg, hk, rfl, hall, he⟩ := hrel
    have hg' := Lib.hid hg
    have hall' := Lib.hid hall
    clear hg hall
    obtain ⟨hcell, hfroz⟩ := he.rules
    by_cases hlt : k < c.changes.length
    · obtain ⟨b, o, rfl, hel⟩ := h4'.out.elem singleCells_len (by omega) hlt
      have hd0 := (((Ext.refl w).alloc _).trans he).cellE (hel 0 _ rfl)
      have hd1 := (((Ext.refl w).alloc _).trans he).cellE (hel 1 _ rfl)
      simp only [Nat.add_zero] at hd0
      have hel' := Lib.hid hel
      clear hel
      go_wp2
      · go_ret
        exact ⟨_, rfl, fun h => absurd h (by decide), (((Ext.refl w).alloc _).trans he).alloc _⟩
      · go_roundg (c.changes.length - (k + 1))
        case rel =>
          have hkd : 0 ≤ c.changes[k].kind ∧ c.changes[k].kind ≤ 3 := by assumption
          refine ⟨k + 1, rfl, by omega, by go_num, fun j x hj hx => ?_, he.alloc _⟩
          rcases Nat.lt_or_ge j k with hjk | hjk
          · exact hall'.out j x hjk hx
          · obtain rfl : j = k := by omega
            rw [List.getElem?_eq_getElem hlt] at hx
            cases hx
            exact hkd
        case measure =>
          have := hg'.out
          omega
      · go_ret
        exact ⟨_, rfl, fun h => absurd h (by decide), (((Ext.refl w).alloc _).trans he).alloc _⟩
    · go_wp2
      all_goals go_ret
      all_goals refine ⟨_, rfl, ?_, ((Ext.refl w).alloc _).trans he⟩
      all_goals intro h
      all_goals refine ⟨fun x hx => ?_, by simp_all, by simp_all⟩
      all_goals obtain ⟨i, hi, rfl⟩ := List.getElem_of_mem hx
      all_goals exact hall'.out i _ (by omega) (List.getElem?_eq_getElem hi)

end Go.Proofs.Ytgjkkcnkblodoaa
