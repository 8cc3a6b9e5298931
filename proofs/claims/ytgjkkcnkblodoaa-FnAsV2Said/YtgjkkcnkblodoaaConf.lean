/- Configurations and snapshots as the package has them: what confTo and snapTo make. -/
import Derived.Test.YtgjkkcnkblodoaaMem
import Derived.Test.YtgjkkcnkblodoaaRegion
import Derived.Outline
namespace Go.Proofs.Ytgjkkcnkblodoaa
open Go.ChangeShapes Go.WideShapes Go.ChangeAt Go.RowKit
set_option linter.unusedSimpArgs false
set_option linter.unusedVariables false

theorem mixed : Try.prog.follows .mixedOrders = true := Try.checked.mixed

/-- A slice of uint64 that reads as the numbers xs. -/
def NumsR (w : World) (v : Value) (xs : List Int) : Prop := SliceR w v 1 xs.length (xs.map (Value.int .u64))
theorem NumsR.ext {w w' : World} {v : Value} {xs : List Int} (h : NumsR w v xs) (e : Ext w w') : NumsR w' v xs := SliceR.ext h e
theorem nums_one (xs : List Int) : ∀ u ∈ xs.map (Value.int .u64), u.oneCell' = true := by
  intro u hu
  obtain ⟨n, _, rfl⟩ := List.mem_map.1 hu
  rfl
theorem info_u64 : (Try.prog.info? 22).map (fun i => (i.zero, i.size, i.bytes)) = some (some (.int .u64 0), 1, 8) := by kernel_rfl

/-- The same, in new memory: the block's element type is known. -/
def NumsT (w : World) (v : Value) (xs : List Int) : Prop := SliceT w 22 v 1 xs.length (xs.map (Value.int .u64))
theorem NumsT.nums {w : World} {v : Value} {xs : List Int} (h : NumsT w v xs) : NumsR w v xs := SliceT.slice h
theorem NumsT.chgT {Ts : List Nat} {w w' : World} {v : Value} {xs : List Int} (h : NumsT w v xs) (e : ChgT Ts w w') (hT : Ts.contains (22 + 1) = false) : NumsT w' v xs := SliceT.chgT h e hT
theorem NumsT.ext {w w' : World} {v : Value} {xs : List Int} (h : NumsT w v xs) (e : Ext w w') : NumsT w' v xs := SliceT.ext h e

/-- numbers: a copy. -/
theorem numbers_c (v : Value) (xs : List Int) (w : World) (h : NumsR w v xs) (hn : xs.length ≤ 2147483647) : Calls Try.prog 48 #[v] w fun e w' =>
    ∃ v', e = .returned v' ∧ NumsT w' v' xs ∧ Ext w w' := by
  obtain ⟨A, c, rfl, h1, h2, h3, h4⟩ := h
  go_enter Try.func48, Try.ntmps48
  go_wp2_with (at_builtin; refine wpList_append_row _ rfl _ _ _ rfl w.heap.size 22 (.int .u64 0) 1 8 Try.underlying28 info_u64 rfl (by omega) (.slice none 0 0) 0 [] rfl (World.ownsRow_nil _ _ _ _) A xs.length c (xs.map (Value.int .u64)) rfl (by simp) h4 (nums_one xs) (by unfold maxLen; omega) (by omega) (Nat.le_refl _) ?_; intro A' c' w1 ho hg hb)
  go_ret
  refine ⟨_, rfl, ?_, (Ext.refl w).grown hg (fun k hk => by cases hk)⟩
  have := SliceT.of_own ho
  simpa [NumsT] using this

/-- A configuration, list by list. -/
structure Conf where
  voters : List Int
  learners : List Int
  outgoing : List Int
  next : List Int
  auto : Bool
def Conf.fits (c : Conf) : Prop := c.voters.length ≤ 2147483647 ∧ c.learners.length ≤ 2147483647 ∧ c.outgoing.length ≤ 2147483647 ∧ c.next.length ≤ 2147483647
/-- The configuration as the law's data: five cells. -/
def ConfA (w : World) (cs : List Value) (c : Conf) : Prop :=
  ∃ v0 v1 v2 v3, cs = [v0, v1, v2, v3, .bool c.auto] ∧ NumsR w v0 c.voters ∧ NumsR w v1 c.learners ∧ NumsR w v2 c.outgoing ∧ NumsR w v3 c.next
theorem ConfA.ext {w w' : World} {cs : List Value} {c : Conf} (h : ConfA w cs c) (e : Ext w w') : ConfA w' cs c := by
  obtain ⟨v0, v1, v2, v3, rfl, h0, h1, h2, h3⟩ := h
  exact ⟨v0, v1, v2, v3, rfl, h0.ext e, h1.ext e, h2.ext e, h3.ext e⟩
/-- A pointer to one cell. -/
def PtrR (w : World) (v : Value) (T : TypeId) (x : Value) : Prop := ∃ b : Nat, v = .pointer (some ⟨b, 0, none⟩) ∧ Blk w b T #[x]
theorem PtrR.ext {w w' : World} {v x : Value} {T : TypeId} (h : PtrR w v T x) (e : Ext w w') : PtrR w' v T x := by
  obtain ⟨b, h1, h2⟩ := h
  exact ⟨b, h1, h2.ext e⟩
theorem PtrR.chgT {Ts : List Nat} {w w' : World} {v x : Value} {T : TypeId} (h : PtrR w v T x) (e : ChgT Ts w w') (hT : Ts.contains (T + 1) = false) : PtrR w' v T x := by
  obtain ⟨b, h1, h2⟩ := h
  exact ⟨b, h1, h2.chgT e hT⟩
theorem PtrR.mk {w : World} {b : Nat} {x : Value} {T : TypeId} (h : Blk w b T #[x]) : PtrR w (.pointer (some ⟨b, 0, none⟩)) T x := ⟨b, rfl, h⟩
theorem PtrR.new (w : World) (T : TypeId) (x : Value) : PtrR (w.alloc (.cells #[x] T)) (.pointer (some ⟨w.heap.size, 0, none⟩)) T x := ⟨_, rfl, Blk.new w T _⟩
/-- The package's configuration, its five cells. -/
def ConfC (w : World) (cs : List Value) (c : Conf) : Prop :=
  ∃ v0 v1 v2 v3 v4, cs = [v0, v1, v2, v3, v4] ∧ NumsT w v0 c.voters ∧ NumsT w v1 c.learners ∧ NumsT w v2 c.outgoing ∧ NumsT w v3 c.next ∧ PtrR w v4 4 (.bool c.auto)
def confTs : List Nat := [22 + 1, 4 + 1, 100 + 1]
theorem ConfC.chgT {Ts : List Nat} {w w' : World} {cs : List Value} {c : Conf} (h : ConfC w cs c) (e : ChgT Ts w w') (hT : ∀ x ∈ confTs, Ts.contains x = false) : ConfC w' cs c := by
  obtain ⟨v0, v1, v2, v3, v4, rfl, h0, h1, h2, h3, h4⟩ := h
  have a := hT (22 + 1) (by simp [confTs])
  have b := hT (4 + 1) (by simp [confTs])
  exact ⟨v0, v1, v2, v3, v4, rfl, h0.chgT e a, h1.chgT e a, h2.chgT e a, h3.chgT e a, h4.chgT e b⟩
theorem ConfC.ext {w w' : World} {cs : List Value} {c : Conf} (h : ConfC w cs c) (e : Ext w w') : ConfC w' cs c := h.chgT (e.chgT []) (fun _ _ => rfl)
/-- The package's configuration behind a pointer. -/
def ConfP (w : World) (v : Value) (c : Conf) : Prop := ∃ (b : Nat) (cs : List Value), v = .pointer (some ⟨b, 0, none⟩) ∧ Blk w b 100 cs.toArray ∧ ConfC w cs c
theorem ConfP.chgT {Ts : List Nat} {w w' : World} {v : Value} {c : Conf} (h : ConfP w v c) (e : ChgT Ts w w') (hT : ∀ x ∈ confTs, Ts.contains x = false) : ConfP w' v c := by
  obtain ⟨b, cs, h1, h2, h3⟩ := h
  exact ⟨b, cs, h1, h2.chgT e (hT _ (by simp [confTs])), h3.chgT e hT⟩
theorem ConfP.ext {w w' : World} {v : Value} {c : Conf} (h : ConfP w v c) (e : Ext w w') : ConfP w' v c := h.chgT (e.chgT []) (fun _ _ => rfl)
theorem NumsR.shape {w : World} {v : Value} {xs : List Int} (h : NumsR w v xs) : ∃ A c, v = .slice A xs.length c := by
  obtain ⟨A, c, h1, _⟩ := h
  exact ⟨A, c, h1⟩
theorem NumsT.shape {w : World} {v : Value} {xs : List Int} (h : NumsT w v xs) : ∃ A c, v = .slice A xs.length c := by
  obtain ⟨A, c, h1, _⟩ := h
  exact ⟨A, c, h1⟩
theorem PtrR.shape {w : World} {v x : Value} {T : TypeId} (h : PtrR w v T x) : ∃ b, v = .pointer (some ⟨b, 0, none⟩) := by
  obtain ⟨b, h1, _⟩ := h
  exact ⟨b, h1⟩
attribute [irreducible] NumsR NumsT PtrR

set_option maxRecDepth 100000 in
set_option maxHeartbeats 1000000 in
theorem confTo_c (cs : List Value) (c : Conf) (w : World) (h : ConfA w cs c) (hf : c.fits) : Calls Try.prog 39 #[.agg cs.toArray] w fun e w' =>
    ∃ v, e = .returned v ∧ ConfP w' v c ∧ Ext w w' := by
  obtain ⟨v0, v1, v2, v3, rfl, h0, h1, h2, h3⟩ := h
  obtain ⟨f0, f1, f2, f3⟩ := hf
  go_enter Try.func39, Try.ntmps39
  go_wp2
  refine wp_region_grow Ext
    [.val ?r0, .val ?r1, Fact.is (fun v w => NumsT w v c.voters), .val ?r3, .val ?r4, Fact.is (fun v w => NumsT w v c.learners), .val ?r6, .val ?r7, Fact.is (fun v w => NumsT w v c.outgoing), .val ?r9, .val ?r10, Fact.is (fun v w => NumsT w v c.next), .val ?r12, .val ?r13, Fact.is (fun v w => PtrR w v 4 (.bool c.auto)), Fact.is (fun v w => ∃ cs, v = .agg cs.toArray ∧ ConfC w cs c), Fact.is (fun v w => ConfP w v c), Fact.is (fun v w => ConfP w v c)]
    [[], [(0, 3)], [(1, 4)], [], [(3, 6)], [(4, 7)], [], [(6, 9)], [(7, 10)], [], [(9, 12)], [(10, 13)], [], [(12, 15)], [(13, 16)], [(2, 5), (5, 8), (8, 11), (11, 14), (14, 17)], [(15, 18)], [(16, 19)]]
    (by kernel_rfl) Ext.refl (fun _ _ _ => Ext.trans) (by kernel_rfl) rfl ⟨trivial, trivial, fun _ _ _ h e => h.ext e, trivial, trivial, fun _ _ _ h e => h.ext e, trivial, trivial, fun _ _ _ h e => h.ext e, trivial, trivial, fun _ _ _ h e => h.ext e, trivial, trivial, fun _ _ _ h e => h.ext e, fun v w1 w2 h e => (fun ⟨cs, h1, h2⟩ => ⟨cs, h1, h2.ext e⟩ : (∃ cs, v = Value.agg cs.toArray ∧ ConfC w1 cs c) → (∃ cs, v = Value.agg cs.toArray ∧ ConfC w2 cs c)) h, fun _ _ _ h e => h.ext e, fun _ _ _ h e => h.ext e, trivial⟩ ?ask ?fin
  case ask =>
    refine asks_cons ?a0 (asks_cons ?a1 (asks_cons ?a2 (asks_cons ?a3 (asks_cons ?a4 (asks_cons ?a5 (asks_cons ?a6 (asks_cons ?a7 (asks_cons ?a8 (asks_cons ?a9 (asks_cons ?a10 (asks_cons ?a11 (asks_cons ?a12 (asks_cons ?a13 (asks_cons ?a14 (asks_cons ?a15 (asks_cons ?a16 (asks_cons ?a17 (trivial))))))))))))))))))
    case a0 =>
      intro w' hS
      simp only [takes, List.map_cons, List.map_nil, List.getD_cons_zero, List.getD_cons_succ, feed, Act.put, List.setIfInBounds_toArray, List.set_cons_zero, List.set_cons_succ]
      refine alone_val ?_
      intro K hK
      show Oper.wp _ _ _ _ _ _
      go_simp
      exact hK _ (Ext.refl _)
    case a1 =>
      intro w' hS
      simp only [takes, List.map_cons, List.map_nil, List.getD_cons_zero, List.getD_cons_succ, feed, Act.put, List.setIfInBounds_toArray, List.set_cons_zero, List.set_cons_succ]
      refine alone_val ?_
      intro K hK
      show Oper.wp _ _ _ _ _ _
      obtain ⟨hc, hf⟩ := hS.rules
      go_simp
      exact hK _ (Ext.refl _)
    case a2 =>
      intro w' hS
      simp only [takes, List.map_cons, List.map_nil, List.getD_cons_zero, List.getD_cons_succ, feed, Act.put, List.setIfInBounds_toArray, List.set_cons_zero, List.set_cons_succ]
      intro K hK
      show Oper.wp _ _ _ _ _ _
      go_simp
      refine (numbers_c _ _ _ (h0.ext (((Ext.refl w).alloc _).drew.trans hS)) (by assumption)).mono ?_
      rintro e w1 ⟨v, rfl, hv, he⟩
      exact hK _ _ he hv
    case a3 =>
      intro w' hS
      simp only [takes, List.map_cons, List.map_nil, List.getD_cons_zero, List.getD_cons_succ, feed, Act.put, List.setIfInBounds_toArray, List.set_cons_zero, List.set_cons_succ]
      refine alone_val ?_
      intro K hK
      show Oper.wp _ _ _ _ _ _
      go_simp
      exact hK _ (Ext.refl _)
    case a4 =>
      intro w' hS
      simp only [takes, List.map_cons, List.map_nil, List.getD_cons_zero, List.getD_cons_succ, feed, Act.put, List.setIfInBounds_toArray, List.set_cons_zero, List.set_cons_succ]
      refine alone_val ?_
      intro K hK
      show Oper.wp _ _ _ _ _ _
      obtain ⟨hc, hf⟩ := hS.rules
      go_simp
      exact hK _ (Ext.refl _)
    case a5 =>
      intro w' hS
      simp only [takes, List.map_cons, List.map_nil, List.getD_cons_zero, List.getD_cons_succ, feed, Act.put, List.setIfInBounds_toArray, List.set_cons_zero, List.set_cons_succ]
      intro K hK
      show Oper.wp _ _ _ _ _ _
      go_simp
      refine (numbers_c _ _ _ (h1.ext (((Ext.refl w).alloc _).drew.trans hS)) (by assumption)).mono ?_
      rintro e w1 ⟨v, rfl, hv, he⟩
      exact hK _ _ he hv
    case a6 =>
      intro w' hS
      simp only [takes, List.map_cons, List.map_nil, List.getD_cons_zero, List.getD_cons_succ, feed, Act.put, List.setIfInBounds_toArray, List.set_cons_zero, List.set_cons_succ]
      refine alone_val ?_
      intro K hK
      show Oper.wp _ _ _ _ _ _
      go_simp
      exact hK _ (Ext.refl _)
    case a7 =>
      intro w' hS
      simp only [takes, List.map_cons, List.map_nil, List.getD_cons_zero, List.getD_cons_succ, feed, Act.put, List.setIfInBounds_toArray, List.set_cons_zero, List.set_cons_succ]
      refine alone_val ?_
      intro K hK
      show Oper.wp _ _ _ _ _ _
      obtain ⟨hc, hf⟩ := hS.rules
      go_simp
      exact hK _ (Ext.refl _)
    case a8 =>
      intro w' hS
      simp only [takes, List.map_cons, List.map_nil, List.getD_cons_zero, List.getD_cons_succ, feed, Act.put, List.setIfInBounds_toArray, List.set_cons_zero, List.set_cons_succ]
      intro K hK
      show Oper.wp _ _ _ _ _ _
      go_simp
      refine (numbers_c _ _ _ (h2.ext (((Ext.refl w).alloc _).drew.trans hS)) (by assumption)).mono ?_
      rintro e w1 ⟨v, rfl, hv, he⟩
      exact hK _ _ he hv
    case a9 =>
      intro w' hS
      simp only [takes, List.map_cons, List.map_nil, List.getD_cons_zero, List.getD_cons_succ, feed, Act.put, List.setIfInBounds_toArray, List.set_cons_zero, List.set_cons_succ]
      refine alone_val ?_
      intro K hK
      show Oper.wp _ _ _ _ _ _
      go_simp
      exact hK _ (Ext.refl _)
    case a10 =>
      intro w' hS
      simp only [takes, List.map_cons, List.map_nil, List.getD_cons_zero, List.getD_cons_succ, feed, Act.put, List.setIfInBounds_toArray, List.set_cons_zero, List.set_cons_succ]
      refine alone_val ?_
      intro K hK
      show Oper.wp _ _ _ _ _ _
      obtain ⟨hc, hf⟩ := hS.rules
      go_simp
      exact hK _ (Ext.refl _)
    case a11 =>
      intro w' hS
      simp only [takes, List.map_cons, List.map_nil, List.getD_cons_zero, List.getD_cons_succ, feed, Act.put, List.setIfInBounds_toArray, List.set_cons_zero, List.set_cons_succ]
      intro K hK
      show Oper.wp _ _ _ _ _ _
      go_simp
      refine (numbers_c _ _ _ (h3.ext (((Ext.refl w).alloc _).drew.trans hS)) (by assumption)).mono ?_
      rintro e w1 ⟨v, rfl, hv, he⟩
      exact hK _ _ he hv
    case a12 =>
      intro w' hS
      simp only [takes, List.map_cons, List.map_nil, List.getD_cons_zero, List.getD_cons_succ, feed, Act.put, List.setIfInBounds_toArray, List.set_cons_zero, List.set_cons_succ]
      refine alone_val ?_
      intro K hK
      show Oper.wp _ _ _ _ _ _
      go_simp
      exact hK _ (Ext.refl _)
    case a13 =>
      intro w' hS
      simp only [takes, List.map_cons, List.map_nil, List.getD_cons_zero, List.getD_cons_succ, feed, Act.put, List.setIfInBounds_toArray, List.set_cons_zero, List.set_cons_succ]
      refine alone_val ?_
      intro K hK
      show Oper.wp _ _ _ _ _ _
      obtain ⟨hc, hf⟩ := hS.rules
      go_simp
      exact hK _ (Ext.refl _)
    case a14 =>
      intro w' hS
      simp only [takes, List.map_cons, List.map_nil, List.getD_cons_zero, List.getD_cons_succ, feed, Act.put, List.setIfInBounds_toArray, List.set_cons_zero, List.set_cons_succ]
      intro K hK
      show Oper.wp _ _ _ _ _ _
      go_simp
      exact hK _ _ ((Ext.refl _).alloc _) (PtrR.new _ _ _)
    case a15 =>
      intro w' hS
      simp only [takes, List.map_cons, List.map_nil, List.getD_cons_zero, List.getD_cons_succ, feed, Act.put, List.setIfInBounds_toArray, List.set_cons_zero, List.set_cons_succ]
      intro x2 hx2
      intro x5 hx5
      intro x8 hx8
      intro x11 hx11
      intro x14 hx14
      intro K hK
      show Oper.wp _ _ _ _ _ _
      obtain ⟨A2, c2, e2⟩ := hx2.shape
      obtain ⟨A5, c5, e5⟩ := hx5.shape
      obtain ⟨A8, c8, e8⟩ := hx8.shape
      obtain ⟨A11, c11, e11⟩ := hx11.shape
      obtain ⟨b14, e14⟩ := hx14.shape
      subst e2 e5 e8 e11 e14
      go_simp
      exact hK _ _ (Ext.refl _) ⟨[_, _, _, _, _], rfl, _, _, _, _, _, rfl, hx2, hx5, hx8, hx11, hx14⟩
    case a16 =>
      intro w' hS
      simp only [takes, List.map_cons, List.map_nil, List.getD_cons_zero, List.getD_cons_succ, feed, Act.put, List.setIfInBounds_toArray, List.set_cons_zero, List.set_cons_succ]
      intro x15 hx15
      intro K hK
      show Oper.wp _ _ _ _ _ _
      obtain ⟨cs, rfl, hcs⟩ := hx15
      go_simp
      exact hK _ _ ((Ext.refl _).alloc _) ⟨_, cs, rfl, Blk.new _ _ _, hcs.ext ((Ext.refl _).alloc _)⟩
    case a17 =>
      intro w' hS
      simp only [takes, List.map_cons, List.map_nil, List.getD_cons_zero, List.getD_cons_succ, feed, Act.put, List.setIfInBounds_toArray, List.set_cons_zero, List.set_cons_succ]
      intro x16 hx16
      intro K hK
      show Oper.wp _ _ _ _ _ _
      obtain ⟨b, cs, rfl, h5, h6⟩ := hx16
      go_simp
      exact hK _ _ (Ext.refl _) ⟨b, cs, rfl, h5, h6⟩
  case fin =>
    intro w' hS
    simp only [fills, Act.put, List.setIfInBounds_toArray, List.set_cons_zero, List.set_cons_succ]
    intro x2 hx2 x5 hx5 x8 hx8 x11 hx11 x14 hx14 x15 hx15 x16 hx16 x17 hx17
    go_wp2
    go_ret
    exact ⟨_, rfl, hx17, ((Ext.refl w).alloc _).drew.trans hS⟩


/-- A slice of bytes that reads as the string s; nil just if it is empty. -/
def BytesR (w : World) (v : Value) (s : ByteArray) : Prop := SliceT w 5 v 1 s.size (byteCells s) ∧ (s.size = 0 → v = .slice none 0 0)
theorem BytesR.chgT {Ts : List Nat} {w w' : World} {v : Value} {s : ByteArray} (h : BytesR w v s) (e : ChgT Ts w w') (hT : Ts.contains (5 + 1) = false) : BytesR w' v s := ⟨h.1.chgT e hT, h.2⟩
theorem BytesR.ext {w w' : World} {v : Value} {s : ByteArray} (h : BytesR w v s) (e : Ext w w') : BytesR w' v s := ⟨h.1.ext e, h.2⟩
theorem BytesR.shape {w : World} {v : Value} {s : ByteArray} (h : BytesR w v s) : ∃ A c, v = .slice A s.size c := by
  obtain ⟨⟨A, c, h1, _⟩, _⟩ := h
  exact ⟨A, c, h1⟩

theorem bytesOf_c (s : ByteArray) (w : World) (hs : s.size ≤ maxLen) : Calls Try.prog 30 #[.string s] w fun e w' =>
    ∃ v, e = .returned v ∧ BytesR w' v s ∧ Ext w w' := by
  by_cases h0 : s.size = 0
  · have h1 : s.data.toList = [] := List.eq_nil_of_length_eq_zero (by simpa using h0)
    have he : s = .empty := by
      rw [← bytes_of_string s, h1]
      rfl
    subst he
    go_enter Try.func30, Try.ntmps30
    go_wp2
    go_ret
    exact ⟨_, rfl, ⟨⟨none, 0, rfl, Nat.le_refl _, by simp [maxLen], by simp [byteCells], fun i v hi => by simp [byteCells] at hi⟩, fun _ => rfl⟩, Ext.refl _⟩
  · obtain ⟨A, c, w1, hrun, hb, he⟩ := run_to_bytes (P := Try.prog) w 9 61 5 s Try.underlying9 Try.underlying61 Try.underlying5 hs
    have hne : s.toList.isEmpty = false := by
      rw [List.isEmpty_eq_false_iff]
      intro h
      apply h0
      have : s.toList.length = s.size := by simp [ByteArray.toList_eq]
      rw [← this, h]
      rfl
    go_enter Try.func30, Try.ntmps30
    go_wp2
    go_ret
    exact ⟨_, rfl, ⟨hb, fun h => absurd h h0⟩, he⟩


theorem bytes_row {w : World} {A : Option Addr} {c : Nat} {s : ByteArray} (h : BytesR w (.slice A s.size c) s) : RowR w A (byteCells s) := by
  obtain ⟨⟨A', c', h1, _, _, _, h5⟩, _⟩ := h
  injection h1 with e1 _ e2
  subst e1
  exact h5.row

attribute [irreducible] BytesR

/-- A snapshot. -/
structure Snap where
  data : ByteArray
  index : Int
  term : Int
  conf : Conf
def Snap.fits (s : Snap) : Prop := s.data.size ≤ 2147483647 ∧ s.conf.fits
/-- The snapshot as the law's data: eight cells. -/
def SnapA (w : World) (cs : List Value) (s : Snap) : Prop := ∃ cf, cs = .string s.data :: .int .u64 s.index :: .int .u64 s.term :: cf ∧ ConfA w cf s.conf
theorem SnapA.ext {w w' : World} {cs : List Value} {s : Snap} (h : SnapA w cs s) (e : Ext w w') : SnapA w' cs s := by
  obtain ⟨cf, h1, h2⟩ := h
  exact ⟨cf, h1, h2.ext e⟩
/-- The package's snapshot metadata behind a pointer. -/
def MetaP (w : World) (v : Value) (s : Snap) : Prop :=
  ∃ (b : Nat) (v0 v1 v2 : Value), v = .pointer (some ⟨b, 0, none⟩) ∧ Blk w b 79 #[v0, v1, v2] ∧ ConfP w v0 s.conf ∧ PtrR w v1 22 (.int .u64 s.index) ∧ PtrR w v2 22 (.int .u64 s.term)
def snapTs : List Nat := [5 + 1, 81 + 1, 79 + 1, 22 + 1, 4 + 1, 100 + 1]
theorem confTs_snapTs {x : Nat} (h : x ∈ confTs) : x ∈ snapTs := by
  simp only [confTs, snapTs, List.mem_cons, List.not_mem_nil, or_false] at h ⊢
  omega
theorem MetaP.chgT {Ts : List Nat} {w w' : World} {v : Value} {s : Snap} (h : MetaP w v s) (e : ChgT Ts w w') (hT : ∀ x ∈ snapTs, Ts.contains x = false) : MetaP w' v s := by
  obtain ⟨b, v0, v1, v2, h1, h2, h3, h4, h5⟩ := h
  have a := hT (22 + 1) (by simp [snapTs])
  exact ⟨b, v0, v1, v2, h1, h2.chgT e (hT _ (by simp [snapTs])), h3.chgT e (fun x hx => hT x (confTs_snapTs hx)), h4.chgT e a, h5.chgT e a⟩
theorem MetaP.ext {w w' : World} {v : Value} {s : Snap} (h : MetaP w v s) (e : Ext w w') : MetaP w' v s := h.chgT (e.chgT []) (fun _ _ => rfl)
/-- The package's snapshot behind a pointer. -/
def SnapP (w : World) (v : Value) (s : Snap) : Prop :=
  ∃ (b : Nat) (v0 v1 : Value), v = .pointer (some ⟨b, 0, none⟩) ∧ Blk w b 81 #[v0, v1] ∧ BytesR w v0 s.data ∧ MetaP w v1 s
theorem SnapP.chgT {Ts : List Nat} {w w' : World} {v : Value} {s : Snap} (h : SnapP w v s) (e : ChgT Ts w w') (hT : ∀ x ∈ snapTs, Ts.contains x = false) : SnapP w' v s := by
  obtain ⟨b, v0, v1, h1, h2, h3, h4⟩ := h
  exact ⟨b, v0, v1, h1, h2.chgT e (hT _ (by simp [snapTs])), h3.chgT e (hT _ (by simp [snapTs])), h4.chgT e hT⟩
theorem SnapP.ext {w w' : World} {v : Value} {s : Snap} (h : SnapP w v s) (e : Ext w w') : SnapP w' v s := h.chgT (e.chgT []) (fun _ _ => rfl)
theorem ConfP.shape {w : World} {v : Value} {c : Conf} (h : ConfP w v c) : ∃ b, v = .pointer (some ⟨b, 0, none⟩) := by
  obtain ⟨b, cs, h1, _⟩ := h
  exact ⟨b, h1⟩
theorem MetaP.shape {w : World} {v : Value} {s : Snap} (h : MetaP w v s) : ∃ b, v = .pointer (some ⟨b, 0, none⟩) := by
  obtain ⟨b, _, _, _, h1, _⟩ := h
  exact ⟨b, h1⟩
attribute [irreducible] ConfP

set_option maxRecDepth 100000 in
set_option maxHeartbeats 1000000 in
theorem snapTo_c (cs : List Value) (s : Snap) (w : World) (h : SnapA w cs s) (hf : s.fits) : Calls Try.prog 26 #[.agg cs.toArray] w fun e w' =>
    ∃ v, e = .returned v ∧ SnapP w' v s ∧ Ext w w' := by
  obtain ⟨cf, rfl, hc⟩ := h
  obtain ⟨f0, f1⟩ := hf
  have f2 : s.data.size ≤ maxLen := by unfold maxLen; omega
  have hc' := hc
  obtain ⟨v0, v1, v2, v3, rfl, _⟩ := hc
  go_enter Try.func26, Try.ntmps26
  go_wp2
  refine wp_region_grow Ext
    [.val ?r0, .val ?r1, Fact.is (fun v w => BytesR w v s.data), .val ?r3, .val ?r4, Fact.is (fun v w => ConfP w v s.conf), .val ?r6, .val ?r7, Fact.is (fun v w => PtrR w v 22 (.int .u64 s.index)), .val ?r9, .val ?r10, Fact.is (fun v w => PtrR w v 22 (.int .u64 s.term)), Fact.is (fun v w => ∃ a b c, v = .agg #[a, b, c] ∧ ConfP w a s.conf ∧ PtrR w b 22 (.int .u64 s.index) ∧ PtrR w c 22 (.int .u64 s.term)), Fact.is (fun v w => MetaP w v s), Fact.is (fun v w => ∃ a b, v = .agg #[a, b] ∧ BytesR w a s.data ∧ MetaP w b s), Fact.is (fun v w => SnapP w v s), Fact.is (fun v w => SnapP w v s)]
    [[], [(0, 3)], [(1, 4)], [], [(3, 6)], [(4, 7)], [], [(6, 9)], [(7, 10)], [], [(9, 12)], [(10, 13)], [(5, 8), (8, 11), (11, 14)], [(12, 15)], [(2, 5), (13, 16)], [(14, 17)], [(15, 18)]]
    (by kernel_rfl) Ext.refl (fun _ _ _ => Ext.trans) (by kernel_rfl) rfl ⟨trivial, trivial, fun _ _ _ h e => h.ext e, trivial, trivial, fun _ _ _ h e => h.ext e, trivial, trivial, fun _ _ _ h e => h.ext e, trivial, trivial, fun _ _ _ h e => h.ext e, fun v w1 w2 h e => by obtain ⟨a, b, c, h1, h2, h3, h4⟩ := h; exact ⟨a, b, c, h1, h2.ext e, h3.ext e, h4.ext e⟩, fun _ _ _ h e => h.ext e, fun v w1 w2 h e => by obtain ⟨a, b, h1, h2, h3⟩ := h; exact ⟨a, b, h1, h2.ext e, h3.ext e⟩, fun _ _ _ h e => h.ext e, fun _ _ _ h e => h.ext e, trivial⟩ ?ask ?fin
  case ask =>
    refine asks_cons ?a0 (asks_cons ?a1 (asks_cons ?a2 (asks_cons ?a3 (asks_cons ?a4 (asks_cons ?a5 (asks_cons ?a6 (asks_cons ?a7 (asks_cons ?a8 (asks_cons ?a9 (asks_cons ?a10 (asks_cons ?a11 (asks_cons ?a12 (asks_cons ?a13 (asks_cons ?a14 (asks_cons ?a15 (asks_cons ?a16 (trivial)))))))))))))))))
    case a0 =>
      intro w' hS
      simp only [takes, List.map_cons, List.map_nil, List.getD_cons_zero, List.getD_cons_succ, feed, Act.put, List.setIfInBounds_toArray, List.set_cons_zero, List.set_cons_succ]
      refine alone_val ?_
      intro K hK
      show Oper.wp _ _ _ _ _ _
      go_simp
      exact hK _ (Ext.refl _)
    case a1 =>
      intro w' hS
      simp only [takes, List.map_cons, List.map_nil, List.getD_cons_zero, List.getD_cons_succ, feed, Act.put, List.setIfInBounds_toArray, List.set_cons_zero, List.set_cons_succ]
      refine alone_val ?_
      intro K hK
      show Oper.wp _ _ _ _ _ _
      obtain ⟨hc, hf⟩ := hS.rules
      go_simp
      exact hK _ (Ext.refl _)
    case a2 =>
      intro w' hS
      simp only [takes, List.map_cons, List.map_nil, List.getD_cons_zero, List.getD_cons_succ, feed, Act.put, List.setIfInBounds_toArray, List.set_cons_zero, List.set_cons_succ]
      intro K hK
      show Oper.wp _ _ _ _ _ _
      go_simp
      refine (bytesOf_c _ _ f2).mono ?_
      rintro e w1 ⟨v, rfl, hv, he⟩
      exact hK _ _ he hv
    case a3 =>
      intro w' hS
      simp only [takes, List.map_cons, List.map_nil, List.getD_cons_zero, List.getD_cons_succ, feed, Act.put, List.setIfInBounds_toArray, List.set_cons_zero, List.set_cons_succ]
      refine alone_val ?_
      intro K hK
      show Oper.wp _ _ _ _ _ _
      go_simp
      exact hK _ (Ext.refl _)
    case a4 =>
      intro w' hS
      simp only [takes, List.map_cons, List.map_nil, List.getD_cons_zero, List.getD_cons_succ, feed, Act.put, List.setIfInBounds_toArray, List.set_cons_zero, List.set_cons_succ]
      refine alone_val ?_
      intro K hK
      show Oper.wp _ _ _ _ _ _
      obtain ⟨hc, hf⟩ := hS.rules
      go_simp
      exact hK _ (Ext.refl _)
    case a5 =>
      intro w' hS
      simp only [takes, List.map_cons, List.map_nil, List.getD_cons_zero, List.getD_cons_succ, feed, Act.put, List.setIfInBounds_toArray, List.set_cons_zero, List.set_cons_succ]
      intro K hK
      show Oper.wp _ _ _ _ _ _
      go_simp
      refine (confTo_c [v0, v1, v2, v3, .bool s.conf.auto] s.conf _ (hc'.ext (((Ext.refl w).alloc _).drew.trans hS)) f1).mono ?_
      rintro e w1 ⟨v, rfl, hv, he⟩
      exact hK _ _ he hv
    case a6 =>
      intro w' hS
      simp only [takes, List.map_cons, List.map_nil, List.getD_cons_zero, List.getD_cons_succ, feed, Act.put, List.setIfInBounds_toArray, List.set_cons_zero, List.set_cons_succ]
      refine alone_val ?_
      intro K hK
      show Oper.wp _ _ _ _ _ _
      go_simp
      exact hK _ (Ext.refl _)
    case a7 =>
      intro w' hS
      simp only [takes, List.map_cons, List.map_nil, List.getD_cons_zero, List.getD_cons_succ, feed, Act.put, List.setIfInBounds_toArray, List.set_cons_zero, List.set_cons_succ]
      refine alone_val ?_
      intro K hK
      show Oper.wp _ _ _ _ _ _
      obtain ⟨hc, hf⟩ := hS.rules
      go_simp
      exact hK _ (Ext.refl _)
    case a8 =>
      intro w' hS
      simp only [takes, List.map_cons, List.map_nil, List.getD_cons_zero, List.getD_cons_succ, feed, Act.put, List.setIfInBounds_toArray, List.set_cons_zero, List.set_cons_succ]
      intro K hK
      show Oper.wp _ _ _ _ _ _
      go_simp
      exact hK _ _ ((Ext.refl _).alloc _) (PtrR.new _ _ _)
    case a9 =>
      intro w' hS
      simp only [takes, List.map_cons, List.map_nil, List.getD_cons_zero, List.getD_cons_succ, feed, Act.put, List.setIfInBounds_toArray, List.set_cons_zero, List.set_cons_succ]
      refine alone_val ?_
      intro K hK
      show Oper.wp _ _ _ _ _ _
      go_simp
      exact hK _ (Ext.refl _)
    case a10 =>
      intro w' hS
      simp only [takes, List.map_cons, List.map_nil, List.getD_cons_zero, List.getD_cons_succ, feed, Act.put, List.setIfInBounds_toArray, List.set_cons_zero, List.set_cons_succ]
      refine alone_val ?_
      intro K hK
      show Oper.wp _ _ _ _ _ _
      obtain ⟨hc, hf⟩ := hS.rules
      go_simp
      exact hK _ (Ext.refl _)
    case a11 =>
      intro w' hS
      simp only [takes, List.map_cons, List.map_nil, List.getD_cons_zero, List.getD_cons_succ, feed, Act.put, List.setIfInBounds_toArray, List.set_cons_zero, List.set_cons_succ]
      intro K hK
      show Oper.wp _ _ _ _ _ _
      go_simp
      exact hK _ _ ((Ext.refl _).alloc _) (PtrR.new _ _ _)
    case a12 =>
      intro w' hS
      simp only [takes, List.map_cons, List.map_nil, List.getD_cons_zero, List.getD_cons_succ, feed, Act.put, List.setIfInBounds_toArray, List.set_cons_zero, List.set_cons_succ]
      intro x5 hx5
      intro x8 hx8
      intro x11 hx11
      intro K hK
      show Oper.wp _ _ _ _ _ _
      obtain ⟨b5, e5⟩ := hx5.shape
      obtain ⟨b8, e8⟩ := hx8.shape
      obtain ⟨b11, e11⟩ := hx11.shape
      subst e5 e8 e11
      go_simp
      exact hK _ _ (Ext.refl _) ⟨_, _, _, rfl, hx5, hx8, hx11⟩
    case a13 =>
      intro w' hS
      simp only [takes, List.map_cons, List.map_nil, List.getD_cons_zero, List.getD_cons_succ, feed, Act.put, List.setIfInBounds_toArray, List.set_cons_zero, List.set_cons_succ]
      intro x12 hx12
      intro K hK
      show Oper.wp _ _ _ _ _ _
      obtain ⟨a, b, c, rfl, g1, g2, g3⟩ := hx12
      go_simp
      have e1 := (Ext.refl w').alloc (.cells #[a, b, c] 79)
      exact hK _ _ e1 ⟨_, a, b, c, rfl, Blk.new _ _ _, g1.ext e1, g2.ext e1, g3.ext e1⟩
    case a14 =>
      intro w' hS
      simp only [takes, List.map_cons, List.map_nil, List.getD_cons_zero, List.getD_cons_succ, feed, Act.put, List.setIfInBounds_toArray, List.set_cons_zero, List.set_cons_succ]
      intro x2 hx2
      intro x13 hx13
      intro K hK
      show Oper.wp _ _ _ _ _ _
      obtain ⟨A2, c2, e2⟩ := hx2.shape
      obtain ⟨b13, e13⟩ := hx13.shape
      subst e2 e13
      go_simp
      exact hK _ _ (Ext.refl _) ⟨_, _, rfl, hx2, hx13⟩
    case a15 =>
      intro w' hS
      simp only [takes, List.map_cons, List.map_nil, List.getD_cons_zero, List.getD_cons_succ, feed, Act.put, List.setIfInBounds_toArray, List.set_cons_zero, List.set_cons_succ]
      intro x14 hx14
      intro K hK
      show Oper.wp _ _ _ _ _ _
      obtain ⟨a, b, rfl, g1, g2⟩ := hx14
      go_simp
      have e1 := (Ext.refl w').alloc (.cells #[a, b] 81)
      exact hK _ _ e1 ⟨_, a, b, rfl, Blk.new _ _ _, g1.ext e1, g2.ext e1⟩
    case a16 =>
      intro w' hS
      simp only [takes, List.map_cons, List.map_nil, List.getD_cons_zero, List.getD_cons_succ, feed, Act.put, List.setIfInBounds_toArray, List.set_cons_zero, List.set_cons_succ]
      intro x15 hx15
      intro K hK
      show Oper.wp _ _ _ _ _ _
      obtain ⟨b, a0, a1, rfl, g1, g2, g3⟩ := hx15
      go_simp
      exact hK _ _ (Ext.refl _) ⟨b, a0, a1, rfl, g1, g2, g3⟩
  case fin =>
    intro w' hS
    simp only [fills, Act.put, List.setIfInBounds_toArray, List.set_cons_zero, List.set_cons_succ]
    intro x2 hx2 x5 hx5 x8 hx8 x11 hx11 x12 hx12 x13 hx13 x14 hx14 x15 hx15 x16 hx16
    go_wp2
    go_ret
    exact ⟨_, rfl, hx16, ((Ext.refl w).alloc _).drew.trans hS⟩

/-! ### What is read of them -/
theorem GetMetadata_c (v : Value) (s : Snap) (w : World) (h : SnapP w v s) : Calls Try.prog 37 #[v] w fun e w' => ∃ m, e = .returned m ∧ MetaP w m s ∧ w = w' := by
  obtain ⟨b, v0, v1, rfl, h1, h2, h3⟩ := h
  have c1 := h1.cell 1
  simp at c1
  clear h1 h2
  go_enter Try.func37, Try.ntmps37
  go_wp2
  go_ret
  exact ⟨_, rfl, h3, rfl⟩
theorem metaIndex_c (v : Value) (s : Snap) (w : World) (h : MetaP w v s) : Calls Try.prog 38 #[v] w fun e w' => e = .returned (.int .u64 s.index) ∧ w = w' := by
  obtain ⟨b, v0, v1, v2, rfl, h1, h2, h3, h4⟩ := h
  unfold PtrR at h3
  obtain ⟨b1, rfl, hb⟩ := h3
  have c1 := h1.cell 1
  have c2 := hb.cell 0
  simp at c1 c2
  clear h1 h2 hb h4
  go_enter Try.func38, Try.ntmps38
  go_wp2
  go_ret
  exact ⟨rfl, rfl⟩

end Go.Proofs.Ytgjkkcnkblodoaa
