/- Maps keyed by uint64: block b is the map of the entries l, rising; the operations' laws; ranging, in whatever order. -/
import Derived.Test.YtklhflbjkckhmaaMem
import Derived.Maps.RangeWalk
namespace Go.Proofs.Ytklhflbjkckhmaa
open Go.ChangeShapes Go.WideShapes Go.ChangeAt Go.RowKit
set_option linter.unusedSimpArgs false
set_option linter.unusedVariables false

/-- A value read as itself. -/
def rawElem (v : Value) : Option (DataW Value × List MemPlace) := some (.held v, [])
def ent (p : Int × Value) : Lit × DataW Value := (.int .u64 p.1, .held p.2)
abbrev U64 (k : Int) : Prop := 0 ≤ k ∧ k ≤ 18446744073709551615
theorem u64_wf {k : Int} (h : U64 k) : (Lit.int .u64 k).wf = true := by simpa [Lit.wf, IntKind.min, IntKind.max, IntKind.signed, IntKind.bits] using h

/-! ### Lists of entries -/
def ins (k : Int) (v : Value) : List (Int × Value) → List (Int × Value)
  | [] => [(k, v)]
  | p :: r => if k < p.1 then (k, v) :: p :: r else p :: ins k v r
def put (k : Int) (v : Value) (l : List (Int × Value)) : List (Int × Value) := ins k v (l.filter fun p => p.1 != k)
def get (l : List (Int × Value)) (k : Int) : Option Value := (l.find? fun p => p.1 == k).map (·.2)
def Rising (l : List (Int × Value)) : Prop := l.Pairwise (fun p q => p.1 < q.1) ∧ ∀ p ∈ l, U64 p.1

theorem mem_ins {k : Int} {v : Value} : ∀ {l : List (Int × Value)} {p : Int × Value}, p ∈ ins k v l ↔ p = (k, v) ∨ p ∈ l
  | [], p => by simp [ins]
  | q :: r, p => by
    rw [ins]
    split
    · simp
    · simp only [List.mem_cons, mem_ins]
      constructor
      · rintro (h | h | h)
        · exact .inr (.inl h)
        · exact .inl h
        · exact .inr (.inr h)
      · rintro (h | h | h)
        · exact .inr (.inl h)
        · exact .inl h
        · exact .inr (.inr h)
theorem mem_put {k : Int} {v : Value} {l : List (Int × Value)} {p : Int × Value} : p ∈ put k v l ↔ p = (k, v) ∨ (p ∈ l ∧ p.1 ≠ k) := by
  rw [put, mem_ins, List.mem_filter]
  simp
theorem ins_rising {k : Int} {v : Value} : ∀ {l : List (Int × Value)}, l.Pairwise (fun p q => p.1 < q.1) → (∀ p ∈ l, p.1 ≠ k) → (ins k v l).Pairwise (fun p q => p.1 < q.1)
  | [], _, _ => by simp [ins]
  | q :: r, h, hn => by
    obtain ⟨h1, h2⟩ := List.pairwise_cons.1 h
    rw [ins]
    split
    · rename_i hlt
      refine List.pairwise_cons.2 ⟨fun p hp => ?_, h⟩
      rcases List.mem_cons.1 hp with rfl | hp
      · exact hlt
      · have := h1 p hp
        simp only at hlt ⊢
        omega
    · rename_i hlt
      refine List.pairwise_cons.2 ⟨fun p hp => ?_, ins_rising h2 (fun p hp => hn p (by simp [hp]))⟩
      rcases mem_ins.1 hp with rfl | hp
      · have := hn q (by simp)
        simp only
        omega
      · exact h1 p hp
theorem Rising.put {k : Int} {v : Value} {l : List (Int × Value)} (h : Rising l) (hk : U64 k) : Rising (put k v l) := by
  refine ⟨ins_rising (h.1.filter _) (fun p hp => ?_), fun p hp => ?_⟩
  · have := (List.mem_filter.1 hp).2
    simpa using this
  · rcases mem_put.1 hp with rfl | ⟨hp, _⟩
    · exact hk
    · exact h.2 p hp
theorem Rising.nil : Rising [] := ⟨List.Pairwise.nil, by simp⟩
theorem Rising.keys {l : List (Int × Value)} (h : Rising l) : (l.map (·.1)).Pairwise (· < ·) := List.pairwise_map.2 h.1
theorem Rising.nodup {l : List (Int × Value)} (h : Rising l) : (l.map (·.1)).Nodup := h.keys.imp (fun {a b} (hab : a < b) => by omega)
theorem get_mem {l : List (Int × Value)} (h : Rising l) {k : Int} {v : Value} : get l k = some v ↔ (k, v) ∈ l := by
  have h' := h.1
  clear h
  induction l with
  | nil => simp [get]
  | cons q r ih =>
    obtain ⟨h1, h2⟩ := List.pairwise_cons.1 h'
    unfold get at ih ⊢
    rw [List.find?_cons]
    by_cases hq : q.1 = k
    · have : (q.1 == k) = true := by simpa using hq
      simp only [this, Option.map_some, Option.some.injEq, List.mem_cons]
      constructor
      · rintro rfl
        exact .inl (by rw [← hq])
      · rintro (hp | hp)
        · rw [← hp]
        · have := h1 _ hp
          simp only at this
          omega
    · have : (q.1 == k) = false := by simpa using hq
      simp only [this, List.mem_cons]
      refine Iff.trans (ih h2) ⟨.inr, ?_⟩
      rintro (hp | hp)
      · exact absurd (by rw [← hp]) hq
      · exact hp
theorem get_none {l : List (Int × Value)} {k : Int} : get l k = none ↔ ∀ p ∈ l, p.1 ≠ k := by
  unfold get
  simp

/-! ### As the kit's datum -/
theorem emb_ins (k : Int) (v : Value) : ∀ l : List (Int × Value), (ins k v l).map ent = DataW.insert (ent (k, v)) (l.map ent)
  | [] => rfl
  | q :: r => by
    rw [List.map_cons, ins, DataW.insert]
    by_cases h : k < q.1
    · rw [if_pos h, if_pos (by simpa [ent, Lit.before] using h)]
      rfl
    · rw [if_neg h, if_neg (by simpa [ent, Lit.before] using h), List.map_cons, emb_ins k v r]
theorem emb_put (k : Int) (v : Value) (l : List (Int × Value)) : (DataW.map (l.map ent)).put (.int .u64 k) (.held v) = .map ((put k v l).map ent) := by
  unfold DataW.put put
  simp only
  rw [emb_ins, List.filter_map]
  congr 2
  refine congrArg _ (List.filter_congr fun p _ => ?_)
  simp only [Function.comp, ent, Lit.sameKey]
  by_cases h : p.1 = k <;> simp [h]
theorem emb_find (l : List (Int × Value)) (k : Int) : (l.map ent).find? (fun p => p.1.sameKey (.int .u64 k)) = (l.find? fun p => p.1 == k).map ent := by
  rw [List.find?_map]
  congr 1
  refine congrArg (fun f => List.find? f l) (funext fun p => ?_)
  simp only [Function.comp, ent, Lit.sameKey]
  by_cases h : p.1 = k <;> simp [h]
theorem emb_at (l : List (Int × Value)) (k : Int) (z : DataW Value) : (DataW.map (l.map ent)).atKey (.int .u64 k) z = match get l k with | some v => .held v | none => z := by
  unfold DataW.atKey get
  simp only
  rw [emb_find]
  cases l.find? (fun p => p.1 == k) <;> rfl
theorem emb_has (l : List (Int × Value)) (k : Int) : Maps.has (DataW.map (l.map ent)) (.int .u64 k) = (get l k).isSome := by
  have h1 := emb_find l k
  rw [Maps.has_eq]
  unfold get
  rw [Option.isSome_map, Bool.eq_iff_iff, List.any_eq_true, ← List.find?_isSome, h1, Option.isSome_map]

/-! ### The block -/
theorem ku : Maps.Keyed Try.prog 27 := Maps.int_keyed Try.underlying27
theorem key_u64 {k : Int} (h : U64 k) : keyOf Try.prog 27 (.int .u64 k) = some (.int .u64 k) := Maps.keyOf_int_mk Try.underlying27 (u64_wf h)
/-- Block b is the map of the entries l, rising. -/
def MapV (w : World) (b : Nat) (l : List (Int × Value)) : Prop := w.ownsMap Try.prog 27 rawElem b l.length (.map (l.map ent)) ∧ Rising l

theorem owns_tight {w : World} {P : Program} {k : TypeId} {H : Type} {R : Value → Option (DataW H × List MemPlace)} {b n : Nat} {es : List (Lit × DataW H)} (h : w.ownsMap P k R b n (.map es)) : w.ownsMap P k R b es.length (.map es) := by
  obtain ⟨es', clock, hb, F, hs, hD⟩ := h
  refine ⟨es', clock, hb, F, ?_, hD⟩
  injection hD with hD
  rw [hD, length_sorted]
  simp
theorem MapV.lt {w : World} {b : Nat} {l : List (Int × Value)} (h : MapV w b l) : b < w.heap.size := h.1.lt
theorem MapV.made (w : World) : MapV (w.alloc (.map #[] 0)) w.heap.size [] := ⟨World.ownsMap_made w _ _ _, Rising.nil⟩
theorem MapV.chg {S : Nat → Prop} {w w' : World} {b : Nat} {l : List (Int × Value)} (h : MapV w b l) (e : Chg S w w') (hs : ¬ S b) : MapV w' b l := by
  have hlt := h.lt
  obtain ⟨⟨es, clock, hb, r⟩, hl⟩ := h
  exact ⟨⟨es, clock, (e.blockC hlt hs).trans hb, r⟩, hl⟩
theorem MapV.ext {w w' : World} {b : Nat} {l : List (Int × Value)} (h : MapV w b l) (e : Ext w w') : MapV w' b l := h.chg (S := fun _ => False) e.chg (fun h => h)

section
variable {w : World} {ops : Array Oper} {rest : List Oper} {o : Oper} {a : Act} {Q : Exit → Act → World → Prop}

theorem wpList_map_len (hg : o.guard = none) (m : Operand) (t : TypeId) (hop : o.op = Op.call { callee := Callee.builtin Builtin.len, args := #[m], argTypes := #[t] }) (e : TypeId) (ht : Try.prog.underlying t = some (.map 27 e))
    (b : Nat) (l : List (Int × Value)) (hm : a.eval m = .map (some b)) (h : MapV w b l) (hK : wpList Try.prog ops Q rest (a.put o.dst (.int .i64 l.length)) w) : wpList Try.prog ops Q (o :: rest) a w := by
  refine wpList_len_own w hg m t hop _ e ht rawElem b _ _ hm h.1 ?_
  rw [Maps.size_eq, List.length_map]
  exact hK

theorem wpList_map_ok (hg : o.guard = none) (m x : Operand) (t : TypeId) (hop : o.op = Op.lookup t m x true) (e : TypeId) (ht : Try.prog.underlying t = some (.map 27 e)) (z : Value) (hz : ∀ w, (zeroValue e).run Try.prog w = .ok z w)
    (b : Nat) (l : List (Int × Value)) (hm : a.eval m = .map (some b)) (h : MapV w b l) (k : Int) (hx : a.eval x = .int .u64 k) (hk : U64 k)
    (hK : wpList Try.prog ops Q rest (a.put o.dst (.tuple #[(get l k).getD z, .bool (get l k).isSome])) w) : wpList Try.prog ops Q (o :: rest) a w := by
  refine wpList_lookup_own_ok w hg m x t hop _ e ku ht rawElem (hz w) (.held z) [] rfl b _ _ hm h.1 _ _ hx (key_u64 hk) (fun v ps hv => ?_)
  rw [emb_has]
  rw [emb_at] at hv
  have hvz : v = (get l k).getD z := by
    cases hgk : get l k with
    | none =>
      rw [hgk] at hv
      exact DataW.held.inj (congrArg Prod.fst (Option.some.inj hv))
    | some u =>
      rw [hgk] at hv
      exact DataW.held.inj (congrArg Prod.fst (Option.some.inj hv))
  rw [hvz]
  exact hK

theorem wpList_map_look (hg : o.guard = none) (m x : Operand) (t : TypeId) (hop : o.op = Op.lookup t m x false) (e : TypeId) (ht : Try.prog.underlying t = some (.map 27 e)) (z : Value) (hz : ∀ w, (zeroValue e).run Try.prog w = .ok z w)
    (b : Nat) (l : List (Int × Value)) (hm : a.eval m = .map (some b)) (h : MapV w b l) (k : Int) (hx : a.eval x = .int .u64 k) (hk : U64 k)
    (hK : wpList Try.prog ops Q rest (a.put o.dst ((get l k).getD z)) w) : wpList Try.prog ops Q (o :: rest) a w := by
  refine wpList_plain hg fun K' hK' => ?_
  obtain ⟨v, ps, hrun, hv⟩ := h.1.lookup ku ht (hz w) (zd := .held z) (zp := []) rfl (key_u64 hk)
  rw [emb_at] at hv
  have hvz : v = (get l k).getD z := by
    cases hgk : get l k with
    | none =>
      rw [hgk] at hv
      exact DataW.held.inj (congrArg Prod.fst (Option.some.inj hv))
    | some u =>
      rw [hgk] at hv
      exact DataW.held.inj (congrArg Prod.fst (Option.some.inj hv))
  subst hvz
  unfold Oper.wp
  simp [execOp, hop, hm, hx, hrun, Result.andThen]
  exact hK' _ _ hK

theorem wpList_map_put (hg : o.guard = none) (m x v : Operand) (t : TypeId) (hop : o.op = Op.mapUpdate t m x v) (e : TypeId) (ht : Try.prog.underlying t = some (.map 27 e))
    (b : Nat) (l : List (Int × Value)) (hm : a.eval m = .map (some b)) (h : MapV w b l) (hn : l.length < maxLen) (k : Int) (val : Value) (hx : a.eval x = .int .u64 k) (hv : a.eval v = val) (hk : U64 k)
    (hK : ∀ w', MapV w' b (put k val l) → Chg (· = b) w w' → wpList Try.prog ops Q rest (a.put o.dst undef) w') : wpList Try.prog ops Q (o :: rest) a w := by
  refine wpList_mapUpdate_in w hg m x v t hop _ e ku ht rawElem b _ _ hm h.1 hn _ val _ hx hv (key_u64 hk) (.held val) [] rfl (fun w' hown hturn => ?_)
  rw [emb_put] at hown
  have h1 := owns_tight hown
  rw [List.length_map] at h1
  refine hK w' ⟨h1, h.2.put hk⟩ ?_
  have := Ext.chg_of_grown hturn.grown
  exact this.mono (fun k _ hk => by injection hk)

/-! ### Ranging -/
/-- Block r ranges over the map in block b; those in 'done' have come. -/
def RangeV (w : World) (b r : Nat) (l : List (Int × Value)) (done : List Int) : Prop :=
  ∃ left cnt, w.ranges Try.prog 27 rawElem b r l.length (.map (l.map ent)) left cnt ∧ Rising l ∧ done.Nodup ∧ (∀ k ∈ done, k ∈ l.map (·.1)) ∧ (∀ p ∈ l, left (.int .u64 p.1) = !done.contains p.1)
theorem RangeV.map {w : World} {b r : Nat} {l : List (Int × Value)} {done : List Int} (h : RangeV w b r l done) : MapV w b l := by
  obtain ⟨left, cnt, h1, h2, _⟩ := h
  exact ⟨h1.owns, h2⟩
theorem RangeV.lt {w : World} {b r : Nat} {l : List (Int × Value)} {done : List Int} (h : RangeV w b r l done) : r < w.heap.size := by
  obtain ⟨left, cnt, h1, h2, _⟩ := h
  exact h1.lt
theorem RangeV.chg {S : Nat → Prop} {w w' : World} {b r : Nat} {l : List (Int × Value)} {done : List Int} (h : RangeV w b r l done) (e : Chg S w w') (hs : ¬ S b) (hr : ¬ S r) : RangeV w' b r l done := by
  have hb := h.map.lt
  have hr' := h.lt
  obtain ⟨left, cnt, ⟨es, clock, since, seen, c0, h1, F, h2, hD, h3, rest⟩, h4⟩ := h
  exact ⟨left, cnt, ⟨es, clock, since, seen, c0, (e.blockC hb hs).trans h1, F, h2, hD, (e.blockC hr' hr).trans h3, rest⟩, h4⟩
theorem RangeV.ext {w w' : World} {b r : Nat} {l : List (Int × Value)} {done : List Int} (h : RangeV w b r l done) (e : Ext w w') : RangeV w' b r l done := h.chg (S := fun _ => False) e.chg (fun h => h) (fun h => h)
theorem nodup_len : ∀ (xs ys : List Int), xs.Nodup → (∀ x ∈ xs, x ∈ ys) → xs.length ≤ ys.length
  | [], ys, _, _ => by simp
  | x :: xs, ys, h, hm => by
    obtain ⟨h1, h2⟩ := List.nodup_cons.1 h
    have hx : x ∈ ys := hm x (by simp)
    have h3 := nodup_len xs (ys.erase x) h2 (fun y hy => (List.mem_erase_of_ne (fun e => h1 (by rw [← e]; exact hy))).2 (hm y (by simp [hy])))
    rw [List.length_erase_of_mem hx] at h3
    have : 0 < ys.length := List.length_pos_of_mem hx
    simp only [List.length_cons]
    omega
theorem RangeV.done_lt {w : World} {b r : Nat} {l : List (Int × Value)} {done : List Int} (h : RangeV w b r l done) : done.length ≤ l.length := by
  obtain ⟨left, cnt, _, _, hd, hm, _⟩ := h
  have := nodup_len _ _ hd hm
  simpa using this

theorem wpList_map_range (hg : o.guard = none) (m : Operand) (t : TypeId) (hop : o.op = Op.range t m) (e : TypeId) (ht : Try.prog.underlying t = some (.map 27 e)) (b : Nat) (l : List (Int × Value)) (hm : a.eval m = .map (some b)) (h : MapV w b l)
    (hK : ∀ w', RangeV w' b w.heap.size l [] → Ext w w' → wpList Try.prog ops Q rest (a.put o.dst (.pointer (some ⟨w.heap.size, 0, none⟩))) w') : wpList Try.prog ops Q (o :: rest) a w := by
  refine wpList_range_own w hg m t hop _ e ku ht rawElem b _ _ hm h.1 (fun w' hr hgr hsz => ?_)
  refine hK w' ⟨_, _, hr, h.2, List.nodup_nil, by simp, fun p hp => ?_⟩ ((Ext.refl w).grown hgr (fun k hk => by cases hk))
  rw [emb_has, (get_mem h.2).2 (show (p.1, p.2) ∈ l from hp)]
  rfl

theorem wpList_map_next (hg : o.guard = none) (it : Operand) (hop : o.op = Op.next it false) (b r : Nat) (l : List (Int × Value)) (done : List Int) (hit : a.eval it = .pointer (some ⟨r, 0, none⟩)) (h : RangeV w b r l done)
    (hDone : done.Perm (l.map (·.1)) → wpList Try.prog ops Q rest (a.put o.dst (.tuple #[.bool false])) w)
    (hMore : ∀ (k : Int) (v : Value) (w' : World), (k, v) ∈ l → k ∉ done → U64 k → RangeV w' b r l (done ++ [k]) → Chg (· = r) w w' → (Instr.entry (.pointer (some ⟨r, 0, none⟩))).run Try.prog w' = .ok (.tuple #[.int .u64 k, v]) w' →
      wpList Try.prog ops Q rest (a.put o.dst (.tuple #[.bool true, .int .u64 k, v])) w') : wpList Try.prog ops Q (o :: rest) a w := by
  obtain ⟨left, cnt, h1, h2, h3, h4, h5⟩ := h
  refine wpList_next_ranges w hg it hop _ ku rawElem (Value.int .u64) (fun v => v) (fun key kl hkey => ?_) (fun v y hv => ⟨v, rfl⟩) b r _ _ left cnt hit h1 (fun h0 hl => hDone ?_) (fun k v kl y w' cnt' hkey hlk hv hat hrg hlt hgr hsz hen => ?_)
  · obtain ⟨x, hx, _⟩ := Maps.keyOf_int_inv Try.underlying27 hkey
    exact ⟨x, hx⟩
  · refine (List.perm_ext_iff_of_nodup h3 h2.nodup).2 (fun k => ⟨h4 k, fun hk => ?_⟩)
    obtain ⟨p, hp, rfl⟩ := List.mem_map.1 hk
    have := h5 p hp
    rw [hl] at this
    simpa using this
  · obtain ⟨x, e1, e2, hwf⟩ := Maps.keyOf_int_inv Try.underlying27 hkey
    injection e1 with _ e1
    subst e1 e2
    have hku : U64 k := by simpa [Lit.wf, IntKind.min, IntKind.max, IntKind.signed, IntKind.bits] using hwf
    have hy : y = (.held v, []) := by
      have := Option.some.inj hv
      exact this.symm
    subst hy
    have hg1 : get l k = some v := by
      have := hat .nil
      rw [emb_at] at this
      cases hgk : get l k with
      | none =>
        rw [hgk] at this
        cases this
      | some u =>
        rw [hgk] at this
        rw [DataW.held.inj this]
    have hkl : (k, v) ∈ l := (get_mem h2).1 hg1
    have hkd : k ∉ done := by
      have := h5 _ hkl
      rw [hlk] at this
      simpa using this.symm
    refine hMore k v w' hkl hkd hku ⟨_, cnt', hrg, h2, ?_, ?_, ?_⟩ ((Ext.chg_of_grown hgr).mono (fun j _ hj => by injection hj)) hen
    · rw [List.nodup_append]
      refine ⟨h3, by simp, fun x hx y hy => ?_⟩
      simp at hy
      subst hy
      exact fun e => hkd (e ▸ hx)
    · intro x hx
      rcases List.mem_append.1 hx with hx | hx
      · exact h4 x hx
      · simp at hx
        subst hx
        exact List.mem_map.2 ⟨_, hkl, rfl⟩
    · intro p hp
      simp only [Lit.sameKey]
      rw [h5 p hp]
      by_cases hpk : p.1 = k
      · simp [hpk]
      · simp [hpk]
end

attribute [irreducible] MapV RangeV

end Go.Proofs.Ytklhflbjkckhmaa
