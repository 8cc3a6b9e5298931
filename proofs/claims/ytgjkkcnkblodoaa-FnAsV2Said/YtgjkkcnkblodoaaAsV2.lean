/- Changes as data again: what is read of a ConfChange and a ConfChangeV2, singlesFrom, changeFrom, AsV2. -/
import Derived.Test.YtgjkkcnkblodoaaJoint
import Derived.Test.YtgjkkcnkblodoaaJointLaw
namespace Go.Proofs.Ytgjkkcnkblodoaa
open Go.ChangeShapes Go.WideShapes Go.ChangeAt Go.RowKit
set_option linter.unusedSimpArgs false
set_option linter.unusedVariables false

theorem ccType_c (b : Nat) (cs : Array Value) (v x : Value) (w : World) (hb : Blk w b 64 cs) (hi : cs[0]? = some v) (hp : PtrR w v 60 x) :
    Calls Try.prog 45 #[.pointer (some ⟨b, 0, none⟩)] w fun e w' => e = .returned x ∧ w = w' := by
  unfold PtrR at hp
  obtain ⟨b1, rfl, hb1⟩ := hp
  have c1 := (hb.cell 0).trans hi
  have c2 := hb1.cell 0
  simp at c2
  clear hb hb1 hi
  go_enter Try.func45, Try.ntmps45
  go_wp2
  go_ret
  exact ⟨rfl, rfl⟩

theorem ccNode_c (b : Nat) (cs : Array Value) (v x : Value) (w : World) (hb : Blk w b 64 cs) (hi : cs[1]? = some v) (hp : PtrR w v 22 x) :
    Calls Try.prog 47 #[.pointer (some ⟨b, 0, none⟩)] w fun e w' => e = .returned x ∧ w = w' := by
  unfold PtrR at hp
  obtain ⟨b1, rfl, hb1⟩ := hp
  have c1 := (hb.cell 1).trans hi
  have c2 := hb1.cell 0
  simp at c2
  clear hb hb1 hi
  go_enter Try.func47, Try.ntmps47
  go_wp2
  go_ret
  exact ⟨rfl, rfl⟩

theorem csType_c (b : Nat) (cs : Array Value) (v x : Value) (w : World) (hb : Blk w b 96 cs) (hi : cs[0]? = some v) (hp : PtrR w v 60 x) :
    Calls Try.prog 50 #[.pointer (some ⟨b, 0, none⟩)] w fun e w' => e = .returned x ∧ w = w' := by
  unfold PtrR at hp
  obtain ⟨b1, rfl, hb1⟩ := hp
  have c1 := (hb.cell 0).trans hi
  have c2 := hb1.cell 0
  simp at c2
  clear hb hb1 hi
  go_enter Try.func50, Try.ntmps50
  go_wp2
  go_ret
  exact ⟨rfl, rfl⟩

theorem csNode_c (b : Nat) (cs : Array Value) (v x : Value) (w : World) (hb : Blk w b 96 cs) (hi : cs[1]? = some v) (hp : PtrR w v 22 x) :
    Calls Try.prog 51 #[.pointer (some ⟨b, 0, none⟩)] w fun e w' => e = .returned x ∧ w = w' := by
  unfold PtrR at hp
  obtain ⟨b1, rfl, hb1⟩ := hp
  have c1 := (hb.cell 1).trans hi
  have c2 := hb1.cell 0
  simp at c2
  clear hb hb1 hi
  go_enter Try.func51, Try.ntmps51
  go_wp2
  go_ret
  exact ⟨rfl, rfl⟩

theorem v2Changes_c (b : Nat) (cs : Array Value) (v : Value) (w : World) (hb : Blk w b 87 cs) (hi : cs[1]? = some v) :
    Calls Try.prog 43 #[.pointer (some ⟨b, 0, none⟩)] w fun e w' => e = .returned v ∧ w = w' := by
  have c1 := (hb.cell 1).trans hi
  clear hb hi
  go_enter Try.func43, Try.ntmps43
  go_wp2
  go_ret
  exact ⟨rfl, rfl⟩

theorem v2Context_c (b : Nat) (cs : Array Value) (v : Value) (w : World) (hb : Blk w b 87 cs) (hi : cs[2]? = some v) :
    Calls Try.prog 44 #[.pointer (some ⟨b, 0, none⟩)] w fun e w' => e = .returned v ∧ w = w' := by
  have c1 := (hb.cell 2).trans hi
  clear hb hi
  go_enter Try.func44, Try.ntmps44
  go_wp2
  go_ret
  exact ⟨rfl, rfl⟩

theorem v2Trans_c (b : Nat) (cs : Array Value) (v x : Value) (w : World) (hb : Blk w b 87 cs) (hi : cs[0]? = some v) (hp : PtrR w v 83 x) :
    Calls Try.prog 41 #[.pointer (some ⟨b, 0, none⟩)] w fun e w' => e = .returned x ∧ w = w' := by
  unfold PtrR at hp
  obtain ⟨b1, rfl, hb1⟩ := hp
  have c1 := (hb.cell 0).trans hi
  have c2 := hb1.cell 0
  simp at c2
  clear hb hb1 hi
  go_enter Try.func41, Try.ntmps41
  go_wp2
  go_ret
  exact ⟨rfl, rfl⟩

theorem enum_c (n : Int) (w : World) : Calls Try.prog 46 #[.int .i32 n] w (RetV w fun v w' => PtrR w' v 60 (.int .i32 n)) := by
  go_enter Try.func46, Try.ntmps46
  go_wp2
  go_ret
  exact ⟨_, rfl, PtrR.new _ _ _, (Ext.refl w).alloc _⟩

theorem info_single : (Try.prog.info? 42).map (fun i => (i.zero, i.size, i.bytes)) = some (some (.agg #[.int .i64 0, .int .u64 0]), 2, 16) := by kernel_rfl

theorem SinglesT.shape {w : World} {v : Value} {xs : List Single} (h : SinglesT w v xs) : ∃ A c, v = .slice A xs.length c := by
  obtain ⟨A, c, h1, _⟩ := h
  exact ⟨A, c, h1⟩
/-- A single's kind as it comes back. -/
def Single.back (x : Single) : Single := ⟨wrap32 x.kind, x.node⟩

set_option maxRecDepth 100000 in
set_option maxHeartbeats 1000000 in
theorem singlesFrom_c (v : Value) (xs : List Single) (w : World) (h : SinglesP w v xs) (hn : xs.length ≤ 2147483647) : Calls Try.prog 42 #[v] w
    (RetV w fun v w' => SinglesT w' v (xs.map Single.back)) := by
  obtain ⟨vs, ⟨A, c, rfl, h1, h2, h3, h4⟩, h5⟩ := h
  have h4' := Lib.hid h4
  have h5' := Lib.hid h5
  have hl : Hid (vs.length = xs.length) := h5.1
  clear h2 h3 h4 h5
  go_enter Try.func42, Try.ntmps42
  go_wp2
  go_loopg [3, 8] xs.length (fun g v i wr => ∃ (k : Nat) (A : Option Addr) (c : Nat), g = xs.length - k ∧ k ≤ xs.length ∧ i = .int .i64 k ∧ v = .slice A k c ∧ wr.ownsRow w.heap.size 42 2 (.slice A k c) k (((xs.take k).map Single.back).flatMap singleCells) ∧ Ext w wr)
  case atStart => exact ⟨0, none, 0, rfl, Nat.zero_le _, rfl, rfl, World.ownsRow_nil _ _ _ _, Ext.refl _⟩
  case round =>
    obtain ⟨k, A1, c1, hg, hk, rfl, rfl, hown, he⟩ := hrel
    have hg' := Lib.hid hg
    clear hg
    by_cases hlt : k < xs.length
    · obtain ⟨u, hu, hsp⟩ := h5'.out.at_ hlt
      obtain ⟨b, o, cs, fr, rfl, hb, hcu⟩ := h4'.out k u hu
      have hd := he.cellE (show w.cell? ⟨b, o + k, none⟩ = some u by simp [World.cell?, hb, hcu])
      obtain ⟨bu, u0, u1, rfl, hbu, hp0, hp1⟩ := hsp.ext he
      have hx := Lib.hid hu
      clear hu hb hcu hsp
      have hw1 : -2147483648 ≤ wrap32 xs[k].kind := by unfold wrap32; omega
      have hw2 : wrap32 xs[k].kind ≤ 2147483647 := by unfold wrap32; omega
      go_wp2_with (first
        | (go_at_call 50; refine (csType_c _ _ _ _ _ hbu rfl hp0).mono ?_; rintro e w' ⟨rfl, rfl⟩)
        | (go_at_call 51; refine (csNode_c _ _ _ _ _ hbu rfl hp1).mono ?_; rintro e w' ⟨rfl, rfl⟩)
        | (at_builtin; refine wpList_append_one wr rfl _ _ _ rfl w.heap.size 42 _ 2 16 Try.underlying35 info_single rfl (by omega) (by omega) A1 k c1 _ rfl #[.int .i64 (wrap32 xs[k].kind), .int .u64 xs[k].node] rfl rfl rfl hown (by omega) he.size_le ?_; intro A2 c2 w2 ho hT hE))
      go_roundg (xs.length - (k + 1))
      case rel =>
        refine ⟨k + 1, A2, c2, rfl, by omega, by go_num, rfl, ?_, hE w (Nat.le_refl _) he⟩
        rw [List.take_add_one, List.getElem?_eq_getElem hlt, List.map_append, List.flatMap_append]
        simpa [singleCells, Single.back] using ho
      case measure =>
        have := hg'.out
        omega
    · go_wp2
      go_ret
      have hkk : k = xs.length := by omega
      subst hkk
      rw [List.take_of_length_le (Nat.le_refl _)] at hown
      have := SliceT.of_own hown
      refine ⟨_, rfl, ?_, he⟩
      unfold SinglesT
      rw [List.length_map]
      exact this

/-- A ConfChangeV2 of one change, no way asked for. -/
def OneP (w : World) (v : Value) (x : Single) (ctx : ByteArray) : Prop :=
  ∃ (b : Nat) (v1 v2 : Value), v = .pointer (some ⟨b, 0, none⟩) ∧ Blk w b 87 #[.pointer none, v1, v2] ∧ SinglesP w v1 [x] ∧ BytesR w v2 ctx
theorem OneP.ext {w w' : World} {v : Value} {x : Single} {ctx : ByteArray} (h : OneP w v x ctx) (e : Ext w w') : OneP w' v x ctx := by
  obtain ⟨b, v1, v2, h1, h2, h3, h4⟩ := h
  exact ⟨b, v1, v2, h1, h2.ext e, h3.ext e, h4.ext e⟩

set_option maxRecDepth 100000 in
set_option maxHeartbeats 1000000 in
theorem ccAsV2_c (x : Single) (ctx : ByteArray) (b : Nat) (v0 v1 v2 v3 : Value) (w : World) (hb : Blk w b 64 #[v0, v1, v2, v3]) (hp0 : PtrR w v0 60 (.int .i32 (wrap32 x.kind))) (hp1 : PtrR w v1 22 (.int .u64 x.node)) (hbs : BytesR w v2 ctx) :
    Calls Try.prog 31 #[.pointer (some ⟨b, 0, none⟩)] w (RetV w fun v w' => OneP w' v x ctx) := by
  obtain ⟨A2, c2, e2⟩ := hbs.shape
  subst e2
  go_enter Try.func31, Try.ntmps31
  go_wp2
  refine wp_region_grow Ext
    [.val ?r0, Fact.is (fun v w => v = .int .i32 (wrap32 x.kind)), Fact.is (fun v w => PtrR w v 60 (.int .i32 (wrap32 x.kind))), .val ?r3, Fact.is (fun v w => v = .int .u64 x.node), Fact.is (fun v w => PtrR w v 22 (.int .u64 x.node)), Fact.is (fun v w => ∃ a0 a1, v = .agg #[a0, a1] ∧ PtrR w a0 60 (.int .i32 (wrap32 x.kind)) ∧ PtrR w a1 22 (.int .u64 x.node)), Fact.is (fun v w => SingleP w v x), Fact.is (fun v w => SinglesP w v [x]), .val ?r9, .val ?r10, .val ?r11, Fact.is (fun v w => BytesR w v ctx), Fact.is (fun v w => ∃ a1 a2, v = .agg #[.pointer none, a1, a2] ∧ SinglesP w a1 [x] ∧ BytesR w a2 ctx), Fact.is (fun v w => OneP w v x ctx), Fact.is (fun v w => OneP w v x ctx)]
    [[], [(0, 3)], [(1, 4)], [], [(3, 6)], [(4, 7)], [(2, 5), (5, 8)], [(6, 9)], [(7, 10)], [], [(9, 12)], [(10, 13)], [(11, 14)], [(8, 11), (12, 15)], [(13, 16)], [(14, 17)]]
    (by kernel_rfl) Ext.refl (fun _ _ _ => Ext.trans) (by kernel_rfl) rfl ⟨trivial, fun _ _ _ h _ => h, fun _ _ _ h e => h.ext e, trivial, fun _ _ _ h _ => h, fun _ _ _ h e => h.ext e, fun v w1 w2 h e => by obtain ⟨a, b, h1, h2, h3⟩ := h; exact ⟨a, b, h1, h2.ext e, h3.ext e⟩, fun _ _ _ h e => h.ext e, fun _ _ _ h e => h.ext e, trivial, trivial, trivial, fun _ _ _ h e => h.ext e, fun v w1 w2 h e => by obtain ⟨a, b, h1, h2, h3⟩ := h; exact ⟨a, b, h1, h2.ext e, h3.ext e⟩, fun _ _ _ h e => h.ext e, fun _ _ _ h e => h.ext e, trivial⟩ ?ask ?fin
  case ask =>
    refine asks_cons ?a0 (asks_cons ?a1 (asks_cons ?a2 (asks_cons ?a3 (asks_cons ?a4 (asks_cons ?a5 (asks_cons ?a6 (asks_cons ?a7 (asks_cons ?a8 (asks_cons ?a9 (asks_cons ?a10 (asks_cons ?a11 (asks_cons ?a12 (asks_cons ?a13 (asks_cons ?a14 (asks_cons ?a15 (trivial))))))))))))))))
    case a0 =>
      intro w' hS
      simp only [takes, List.map_cons, List.map_nil, List.getD_cons_zero, List.getD_cons_succ, feed, Act.put, List.setIfInBounds_toArray, List.set_cons_zero, List.set_cons_succ]
      refine alone_val ?_
      intro K hK
      show Oper.wp _ _ _ _ _ _
      go_simp
      exact hK _ (Ext.refl _)
    case a1 =>
      intro w' hS
      simp only [takes, List.map_cons, List.map_nil, List.getD_cons_zero, List.getD_cons_succ, feed, Act.put, List.setIfInBounds_toArray, List.set_cons_zero, List.set_cons_succ]
      intro K hK
      show Oper.wp _ _ _ _ _ _
      go_simp
      refine (ccType_c _ _ _ _ _ (hb.ext (Ext.drew (Ext.refl w) |>.trans hS)) rfl (hp0.ext (Ext.drew (Ext.refl w) |>.trans hS))).mono ?_
      rintro e w1 ⟨rfl, rfl⟩
      exact hK _ _ (Ext.refl _) rfl
    case a2 =>
      intro w' hS
      simp only [takes, List.map_cons, List.map_nil, List.getD_cons_zero, List.getD_cons_succ, feed, Act.put, List.setIfInBounds_toArray, List.set_cons_zero, List.set_cons_succ]
      intro x1 hx1
      intro K hK
      show Oper.wp _ _ _ _ _ _
      subst hx1
      go_simp
      refine (enum_c _ _).mono ?_
      rintro e w1 ⟨v, rfl, hv, he⟩
      exact hK _ _ he hv
    case a3 =>
      intro w' hS
      simp only [takes, List.map_cons, List.map_nil, List.getD_cons_zero, List.getD_cons_succ, feed, Act.put, List.setIfInBounds_toArray, List.set_cons_zero, List.set_cons_succ]
      refine alone_val ?_
      intro K hK
      show Oper.wp _ _ _ _ _ _
      go_simp
      exact hK _ (Ext.refl _)
    case a4 =>
      intro w' hS
      simp only [takes, List.map_cons, List.map_nil, List.getD_cons_zero, List.getD_cons_succ, feed, Act.put, List.setIfInBounds_toArray, List.set_cons_zero, List.set_cons_succ]
      intro K hK
      show Oper.wp _ _ _ _ _ _
      go_simp
      refine (ccNode_c _ _ _ _ _ (hb.ext (Ext.drew (Ext.refl w) |>.trans hS)) rfl (hp1.ext (Ext.drew (Ext.refl w) |>.trans hS))).mono ?_
      rintro e w1 ⟨rfl, rfl⟩
      exact hK _ _ (Ext.refl _) rfl
    case a5 =>
      intro w' hS
      simp only [takes, List.map_cons, List.map_nil, List.getD_cons_zero, List.getD_cons_succ, feed, Act.put, List.setIfInBounds_toArray, List.set_cons_zero, List.set_cons_succ]
      intro x4 hx4
      intro K hK
      show Oper.wp _ _ _ _ _ _
      subst hx4
      go_simp
      exact hK _ _ ((Ext.refl _).alloc _) (PtrR.new _ _ _)
    case a6 =>
      intro w' hS
      simp only [takes, List.map_cons, List.map_nil, List.getD_cons_zero, List.getD_cons_succ, feed, Act.put, List.setIfInBounds_toArray, List.set_cons_zero, List.set_cons_succ]
      intro x2 hx2
      intro x5 hx5
      intro K hK
      show Oper.wp _ _ _ _ _ _
      obtain ⟨b2, e2⟩ := hx2.shape
      obtain ⟨b5, e5⟩ := hx5.shape
      subst e2 e5
      go_simp
      exact hK _ _ (Ext.refl _) ⟨_, _, rfl, hx2, hx5⟩
    case a7 =>
      intro w' hS
      simp only [takes, List.map_cons, List.map_nil, List.getD_cons_zero, List.getD_cons_succ, feed, Act.put, List.setIfInBounds_toArray, List.set_cons_zero, List.set_cons_succ]
      intro x6 hx6
      intro K hK
      show Oper.wp _ _ _ _ _ _
      obtain ⟨a0, a1, rfl, g1, g2⟩ := hx6
      go_simp
      have e1 := (Ext.refl w').alloc (.cells #[a0, a1] 96)
      exact hK _ _ e1 ⟨_, a0, a1, rfl, Blk.new _ _ _, g1.ext e1, g2.ext e1⟩
    case a8 =>
      intro w' hS
      simp only [takes, List.map_cons, List.map_nil, List.getD_cons_zero, List.getD_cons_succ, feed, Act.put, List.setIfInBounds_toArray, List.set_cons_zero, List.set_cons_succ]
      intro x7 hx7
      intro K hK
      show Oper.wp _ _ _ _ _ _
      obtain ⟨bp, ep⟩ := hx7.shape
      subst ep
      go_simp
      have e1 := (Ext.refl w').alloc (.cells #[.pointer (some ⟨bp, 0, none⟩)] 92)
      refine hK _ _ e1 ⟨[.pointer (some ⟨bp, 0, none⟩)], ⟨_, 1, rfl, Nat.le_refl _, by simp [maxLen], rfl, ?_⟩, ⟨rfl, fun i v y h1 h2 => ?_⟩⟩
      · exact RowT.of_blk (Blk.new _ _ _)
      · match i, h1, h2 with
        | 0, h1, h2 =>
          simp at h1 h2
          subst h1 h2
          exact hx7.ext e1
    case a9 =>
      intro w' hS
      simp only [takes, List.map_cons, List.map_nil, List.getD_cons_zero, List.getD_cons_succ, feed, Act.put, List.setIfInBounds_toArray, List.set_cons_zero, List.set_cons_succ]
      refine alone_val ?_
      intro K hK
      show Oper.wp _ _ _ _ _ _
      go_simp
      exact hK _ (Ext.refl _)
    case a10 =>
      intro w' hS
      simp only [takes, List.map_cons, List.map_nil, List.getD_cons_zero, List.getD_cons_succ, feed, Act.put, List.setIfInBounds_toArray, List.set_cons_zero, List.set_cons_succ]
      refine alone_val ?_
      intro K hK
      show Oper.wp _ _ _ _ _ _
      go_simp
      exact hK _ (Ext.refl _)
    case a11 =>
      intro w' hS
      simp only [takes, List.map_cons, List.map_nil, List.getD_cons_zero, List.getD_cons_succ, feed, Act.put, List.setIfInBounds_toArray, List.set_cons_zero, List.set_cons_succ]
      refine alone_val ?_
      intro K hK
      show Oper.wp _ _ _ _ _ _
      go_simp
      exact hK _ (Ext.refl _)
    case a12 =>
      intro w' hS
      simp only [takes, List.map_cons, List.map_nil, List.getD_cons_zero, List.getD_cons_succ, feed, Act.put, List.setIfInBounds_toArray, List.set_cons_zero, List.set_cons_succ]
      intro K hK
      show Oper.wp _ _ _ _ _ _
      have c2 := (hb.ext (Ext.drew (Ext.refl w) |>.trans hS)).cell 2
      simp at c2
      have hB := hbs.ext (Ext.drew (Ext.refl w) |>.trans hS)
      go_simp
      exact hK _ _ (Ext.refl _) hB
    case a13 =>
      intro w' hS
      simp only [takes, List.map_cons, List.map_nil, List.getD_cons_zero, List.getD_cons_succ, feed, Act.put, List.setIfInBounds_toArray, List.set_cons_zero, List.set_cons_succ]
      intro x8 hx8
      intro x12 hx12
      intro K hK
      show Oper.wp _ _ _ _ _ _
      obtain ⟨A8, c8, e8⟩ := hx8.shape
      obtain ⟨A12, c12, e12⟩ := hx12.shape
      subst e8 e12
      go_simp
      exact hK _ _ (Ext.refl _) ⟨_, _, rfl, hx8, hx12⟩
    case a14 =>
      intro w' hS
      simp only [takes, List.map_cons, List.map_nil, List.getD_cons_zero, List.getD_cons_succ, feed, Act.put, List.setIfInBounds_toArray, List.set_cons_zero, List.set_cons_succ]
      intro x13 hx13
      intro K hK
      show Oper.wp _ _ _ _ _ _
      obtain ⟨a1, a2, rfl, g1, g2⟩ := hx13
      go_simp
      have e1 := (Ext.refl w').alloc (.cells #[.pointer none, a1, a2] 87)
      exact hK _ _ e1 ⟨_, a1, a2, rfl, Blk.new _ _ _, g1.ext e1, g2.ext e1⟩
    case a15 =>
      intro w' hS
      simp only [takes, List.map_cons, List.map_nil, List.getD_cons_zero, List.getD_cons_succ, feed, Act.put, List.setIfInBounds_toArray, List.set_cons_zero, List.set_cons_succ]
      intro x14 hx14
      intro K hK
      show Oper.wp _ _ _ _ _ _
      obtain ⟨b, a1, a2, rfl, g0, g1, g2⟩ := hx14
      go_simp
      exact hK _ _ (Ext.refl _) ⟨b, a1, a2, rfl, g0, g1, g2⟩
  case fin =>
    intro w' hS
    simp only [fills, Act.put, List.setIfInBounds_toArray, List.set_cons_zero, List.set_cons_succ]
    intro x1 hx1 x2 hx2 x4 hx4 x5 hx5 x6 hx6 x7 hx7 x8 hx8 x12 hx12 x13 hx13 x14 hx14 x15 hx15
    go_wp2
    go_ret
    exact ⟨_, rfl, hx15, (Ext.drew (Ext.refl w)).trans hS⟩

theorem v2TransNil_c (b : Nat) (cs : Array Value) (w : World) (hb : Blk w b 87 cs) (hi : cs[0]? = some (.pointer none)) :
    Calls Try.prog 41 #[.pointer (some ⟨b, 0, none⟩)] w fun e w' => e = .returned (.int .i32 0) ∧ w = w' := by
  have c1 := (hb.cell 0).trans hi
  clear hb hi
  go_enter Try.func41, Try.ntmps41
  go_wp2
  go_ret
  exact ⟨rfl, rfl⟩

theorem info_change : (Try.prog.info? 37).map (·.size) = some 3 := by kernel_rfl

set_option maxRecDepth 100000 in
set_option maxHeartbeats 1000000 in
theorem changeFromOne_c (v : Value) (x : Single) (ctx : ByteArray) (w : World) (h : OneP w v x ctx) : Calls Try.prog 29 #[v] w
    (RetV w fun v w' => ∃ A c, v = .agg #[.int .i64 0, .slice A 1 c, .string ctx] ∧ SinglesT w' (.slice A 1 c) [x.back]) := by
  obtain ⟨b, v1, v2, rfl, hb, hs, hc⟩ := h
  obtain ⟨A2, c2, e2⟩ := hc.shape
  subst e2
  have e0 := (Ext.refl w).alloc (.cells #[.int .i64 0, .slice none 0 0, .string .empty] 37)
  have hb' := hb.ext e0
  have hs' := hs.ext e0
  have H := Lib.hid hc
  clear hb hs hc
  go_enter Try.func29, Try.ntmps29
  go_wp2_with (first
    | (go_at_call 41; refine (v2TransNil_c _ _ _ hb' rfl).mono ?_; rintro e w' ⟨rfl, rfl⟩)
    | (go_at_call 43; refine (v2Changes_c _ _ _ _ hb' rfl).mono ?_; rintro e w' ⟨rfl, rfl⟩)
    | (go_at_call 42; refine (singlesFrom_c _ [x] _ hs' (by simp)).mono ?_; rintro e w1 ⟨v, rfl, hv, he⟩; obtain ⟨A, c, rfl⟩ := hv.shape; have hcv := run_from_bytes (P := Try.prog) w1 61 9 5 ctx A2 c2 Try.underlying61 Try.underlying5 Try.underlying9 (bytes_row (H.out.ext (e0.trans he))); obtain ⟨hcell, hfroz⟩ := he.rules; have hsz := he.size_le)
    | (go_at_call 44; refine (v2Context_c _ _ _ _ (hb'.ext he) rfl).mono ?_; rintro e w' ⟨rfl, rfl⟩))
  have hB0 := (Blk.new w 37 #[.int .i64 0, .slice none 0 0, .string .empty]).ext he
  have hB1 := hB0.set_ 0 (.int .i64 0)
  have hB2 := hB1.set_ 1 (.slice A 1 c)
  have hB3 := hB2.set_ 2 (.string ctx)
  have hT := ((chgT_setCell hB0 0 (.int .i64 0)).trans (chgT_setCell hB1 1 (.slice A 1 c))).trans (chgT_setCell hB2 2 (.string ctx))
  refine bodyPost_ret (v := .agg #[.int .i64 0, .slice A 1 c, .string ctx]) (results_cell_row (by rw [Try.results29]) _ _ w.heap.size 37 _ (0, 0) _ rfl hB3.out Try.underlying37 rfl info_change) rfl ⟨_, rfl, ⟨A, c, rfl, hv.chgT hT (by decide)⟩, ?_⟩
  exact (((e0.trans he).setCell (by simp) _).setCell (by simp) _).setCell (by simp) _

end Go.Proofs.Ytgjkkcnkblodoaa
