/- A region that draws its order: operations that only let the world grow, and behind them all, one after the other, the rest (stores). -/
import Derived.Test.YtklhflbjkckhmaaRegion
import Derived.StillTail
namespace Go.Proofs.Ytklhflbjkckhmaa
open Go.ChangeShapes Go.WideShapes Go.ChangeAt Go.RowKit
set_option linter.unusedSimpArgs false

def chkH (ops : Array Oper) (n : Nat) (E : List (List (Nat × Tmp))) : Bool :=
  E.length == n && (List.range n).all fun i => match ops[i]? with
    | some o => chkOp ops i o (E.getD i [])
    | none => false
def tailAt (n m : Nat) : Array Bool := (List.replicate n true ++ List.replicate m false).toArray
section
variable {P : Program} {ops : Array Oper} {Q : Exit → Act → World → Prop} {R : World → World → Prop} {S : World → Prop} {a0 : Act} {T : List Fact} {E : List (List (Nat × Tmp))}

theorem chkH_at {n : Nat} (h : chkH ops n E = true) {i : Nat} (hi : i < n) {o : Oper} (ho : ops[i]? = some o) : chkOp ops i o (E.getD i []) = true := by
  simp only [chkH, Bool.and_eq_true, List.all_eq_true, List.mem_range] at h
  have := h.2 i hi
  rw [ho] at this
  exact this
theorem head_listed {n : Nat} (h : chkH ops n E = true) (hn : n ≤ ops.size) {listed : Array Bool} (hs : listed.size = ops.size) (hr : Region.ready .any ops listed = []) :
    ∀ i, i < n → listed.getD i false = true := by
  intro i
  induction i using Nat.strongRecOn with
  | ind i ih =>
    intro hi
    obtain ⟨o, ho⟩ : ∃ o, ops[i]? = some o := ⟨_, Array.getElem?_eq_getElem (by omega)⟩
    have hc := chkH_at h hi ho
    simp only [chkOp, Bool.and_eq_true, Array.all_eq_true_iff_forall_mem, Bool.or_eq_true, Bool.not_eq_true', decide_eq_true_eq] at hc
    cases hl : listed.getD i false with
    | true => rfl
    | false =>
      have hl' : listed.getD i true = false := by
        simp only [Array.getD_eq_getD_getElem?, Array.getElem?_eq_getElem (show i < listed.size by omega), Option.getD_some] at hl ⊢
        exact hl
      have : i ∈ Region.ready .any ops listed := mem_ready.2 ⟨hl', o, ho, fun e he hb => by
        have := (hc.1.2 e he).resolve_left (by simp [hb])
        exact ih e.on this (by omega)⟩
      rw [hr] at this
      cases this

theorem any_order_tail {n : Nat} {os : List Oper} (hk : chkH ops n E = true) (hn : n < ops.size) (hos : ∀ (i : Nat) (o : Oper), i < n → ops[i]? = some o → os[i]? = some o) (hb : ∀ (i : Nat) (o : Oper) (d : Tmp), i < n → ops[i]? = some o → o.dst = some d → d < a0.tmps.size)
    (hstay : ∀ f ∈ T, f.stays R) (hS : ∀ w w', S w → R w w' → S w') (hask : asks P ops R S a0 T os T E) (hs : Region.sinkB .any ops n = true) (hc : Region.chainB .any ops n = true) {g : Nat}
    (hfin : ∀ a w, Mid ops S a0 T (tailAt n (ops.size - n)) a w → wpAny P .any ops Q g (tailAt n (ops.size - n)) a w) :
    ∀ (c : Nat) (listed : Array Bool) (a : Act) (w : World), Mid ops S a0 T listed a w → HeadInv .any ops n listed → ((List.range n).filter fun i => !listed.getD i false).length = c → wpAny P .any ops Q (c + g) listed a w := by
  intro c
  induction c with
  | zero =>
    intro listed a w hm inv hf
    have h0 := List.eq_nil_of_length_eq_zero hf
    have : listed = tailAt n (ops.size - n) := by
      apply Array.ext
      · rw [hm.size]
        simp [tailAt]
        omega
      · intro i h1 h2
        by_cases hi : i < n
        · have hl : listed.getD i false = true := by
            cases hl : listed.getD i false with
            | true => rfl
            | false =>
              have : i ∈ (List.range n).filter fun i => !listed.getD i false := by
                rw [List.mem_filter]
                exact ⟨List.mem_range.2 hi, by simp [hl]⟩
              rw [h0] at this
              cases this
          simp only [Array.getD_eq_getD_getElem?, Array.getElem?_eq_getElem h1, Option.getD_some] at hl
          rw [hl]
          simp [tailAt, List.getElem_append, hi]
        · have hl := inv.tail i (by omega) (by rw [← hm.size]; exact h1)
          simp only [Array.getD_eq_getD_getElem?, Array.getElem?_eq_getElem h1, Option.getD_some] at hl
          rw [hl]
          simp [tailAt, List.getElem_append, hi]
    rw [this] at hm ⊢
    rw [Nat.zero_add]
    exact hfin a w hm
  | succ c ih =>
    intro listed a w hm inv hf
    have hne : ∃ i, i < n ∧ listed.getD i false = false := by
      cases hl : (List.range n).filter fun i => !listed.getD i false with
      | nil => rw [hl] at hf; simp at hf
      | cons x xs =>
        have hx : x ∈ (List.range n).filter fun i => !listed.getD i false := by rw [hl]; simp
        rw [List.mem_filter, List.mem_range] at hx
        exact ⟨x, hx.1, by simpa using hx.2⟩
    obtain ⟨j, hj, hjl⟩ := hne
    have hjl' : listed.getD j true = false := getD_in (by rw [hm.size]; omega) hjl
    rw [show c + 1 + g = (c + g) + 1 by omega]
    refine ⟨fun hr => ?_, fun i hi => ?_⟩
    · have := head_listed hk (by omega) hm.size hr j hj
      rw [hjl] at this
      cases this
    · have hin : i < n := by
        rcases Nat.lt_or_ge i n with h | h
        · exact h
        · exact absurd hi (tail_waits hs hc hn inv (n - j) j rfl hj hjl' i h)
      refine one_step_at (os := os) (fun o ho => chkH_at hk hin ho) (fun o ho => hos i o hin ho) (fun o d => hb i o d hin) hstay hS hask hm hi (fun j o ho hl => by
        have hjn : j < n := by
          rcases Nat.lt_or_ge j n with h | h
          · exact h
          · have := getD_both (inv.tail j h (Array.getElem?_eq_some_iff.1 ho).1)
            rw [hl] at this
            cases this
        exact ⟨chkH_at hk hjn ho, (List.getElem?_eq_some_iff.1 (hos j o hjn ho)).1⟩) fun a' w' hm' => ih _ _ _ hm' (inv.set hi hin) ?_
      obtain ⟨hni, o, ho, _⟩ := mem_ready.1 hi
      have hilt : i < ops.size := by omega
      have hni' : listed.getD i false = false := by
        simp only [Array.getD_eq_getD_getElem?, Array.getElem?_eq_getElem (show i < listed.size by rw [hm.size]; exact hilt), Option.getD_some] at hni ⊢
        exact hni
      have key : ∀ (l : List Nat), l.Nodup → i ∈ l → (l.filter fun j => !listed.getD j false).length = (l.filter fun j => !(listed.setIfInBounds i true).getD j false).length + 1 := by
        intro l
        induction l with
        | nil => intro _ h; cases h
        | cons x xs ihl =>
          intro hnd hmem
          rw [List.nodup_cons] at hnd
          by_cases hxi : x = i
          · subst hxi
            have h1 : (listed.setIfInBounds x true).getD x false = true := by simp [Array.getD_eq_getD_getElem?, hm.size, hilt]
            have h2 : (xs.filter fun j => !listed.getD j false) = (xs.filter fun j => !(listed.setIfInBounds x true).getD j false) := by
              apply List.filter_congr
              intro y hy
              have : x ≠ y := fun e => hnd.1 (e ▸ hy)
              simp [Array.getD_eq_getD_getElem?, Array.getElem?_setIfInBounds_ne this]
            rw [List.filter_cons, List.filter_cons, hni', h1, h2]
            simp
          · have hmem' : i ∈ xs := by
              rcases List.mem_cons.1 hmem with h | h
              · exact absurd h.symm hxi
              · exact h
            have h1 : (listed.setIfInBounds i true).getD x false = listed.getD x false := by
              simp [Array.getD_eq_getD_getElem?, Array.getElem?_setIfInBounds_ne (Ne.symm hxi)]
            have := ihl hnd.2 hmem'
            rw [List.filter_cons, List.filter_cons, h1]
            split
            · rw [List.length_cons, List.length_cons, this]
            · exact this
      have := key (List.range n) List.nodup_range (List.mem_range.2 hin)
      omega
end

/-- THE LAW. -/
theorem wp_region_grow_tail {P : Program} {id : Nat} {l : List Oper} {Q : Exit → Act → World → Prop} {a0 : Act} {w0 : World} (n : Nat) (R : World → World → Prop) (T : List Fact) (E : List (List (Nat × Tmp)))
    (hm : P.follows .mixedOrders = true) (hrefl : ∀ w, R w w) (htrans : ∀ a b c, R a b → R b c → R a c) (hk : (decide (n < l.length) && chkH l.toArray n E && Region.sinkB .any l.toArray n && Region.chainB .any l.toArray n && Region.seqB .any l.toArray (l.length - n) n (tailAt n (l.length - n))) = true)
    (hb : (l.take n).all (fun o => match o.dst with | some d => decide (d < a0.tmps.size) | none => true) = true)
    (hst : stayAll R T) (hask : asks P l.toArray R (R w0.drew) a0 T (l.take n) T E)
    (hfin : ∀ w, R w0.drew w → fills (l.take n) T a0 w (fun a => wpList P l.toArray Q (l.drop n) a w)) : (Code.region id l.toArray true).wp P Q a0 w0 := by
  simp only [Bool.and_eq_true, decide_eq_true_eq] at hk
  obtain ⟨⟨⟨⟨hn, hk⟩, hs⟩, hc⟩, hseq⟩ := hk
  have hstay := stayAll_at hst
  have hnl : n < l.toArray.size := by simpa using hn
  refine wp_region_any hm ?_
  have hcount : ((List.range n).filter fun i => !(Array.replicate l.toArray.size false).getD i false).length = n := by
    have : ((List.range n).filter fun i => !(Array.replicate l.toArray.size false).getD i false) = List.range n := by
      rw [List.filter_eq_self]
      intro i _
      rw [getD_replicate_false]
      rfl
    rw [this, List.length_range]
  have htk : ∀ (i : Nat), i < n → (l.take n)[i]? = l[i]? := fun i hi => by rw [List.getElem?_take, if_pos hi]
  have H := any_order_tail (P := P) (Q := Q) (R := R) (S := R w0.drew) (a0 := a0) (T := T) (E := E) (ops := l.toArray) (os := l.take n) (g := l.length - n) hk hnl (fun i o hi ho => by rw [htk i hi]; simpa using ho) (fun i o d hi ho hd => by
    rw [List.all_eq_true] at hb
    have := hb o (List.mem_of_getElem? (by rw [htk i hi]; simpa using ho))
    rw [hd] at this
    simpa using this) hstay (fun w w' h1 h2 => htrans _ _ _ h1 h2) hask hs hc (fun a w hmid => by
    have hsz : l.toArray.size - n = l.length - n := by simp
    rw [hsz] at hmid ⊢
    have hdl : (l.drop n).length = l.length - n := by simp
    have hdall : ∀ o ∈ l.take n, o.dst.isSome = true := by
      intro o ho
      obtain ⟨i, hi⟩ := List.getElem?_of_mem ho
      have hin : i < n := by
        have := (List.getElem?_eq_some_iff.1 hi).1
        rw [List.length_take] at this
        omega
      rw [htk i hin] at hi
      have := chkH_at hk hin (o := o) (by simpa using hi)
      simp only [chkOp, Bool.and_eq_true] at this
      exact this.1.1.1.1.1
    have hlen := asks_len _ _ _ hask
    have hout := fills_out (l.take n) T a0 w _ (fun t => a.tmps.getD t undef) (hfin w hmid.world) (fun i o f d h1 h2 h3 => by
      have hin : i < n := by
        have := (List.getElem?_eq_some_iff.1 h1).1
        rw [List.length_take] at this
        omega
      rw [htk i hin] at h1
      have := hmid.those i o d (by simpa using h1) (by simp [tailAt, Array.getD_eq_getD_getElem?, List.getElem?_append, List.getElem?_replicate, hin]) h3
      rwa [List.getD_eq_getElem?_getD, h2] at this) hdall
    have hae : (l.take n).foldl (fun c o => c.put o.dst (a.tmps.getD (o.dst.getD 0) undef)) a0 = a := by
      have e1 := puts_defers (l.take n) a0 (fun t => a.tmps.getD t undef)
      have e2 := puts_size (l.take n) a0 (fun t => a.tmps.getD t undef)
      have e3 := puts_at (l.take n) a0 (fun t => a.tmps.getD t undef)
      generalize (l.take n).foldl (fun c o => c.put o.dst (a.tmps.getD (o.dst.getD 0) undef)) a0 = b at *
      obtain ⟨bt, bd⟩ := b
      obtain ⟨at_, ad⟩ := a
      have hd := hmid.defers
      have hs2 := hmid.tmps
      simp only at hd hs2 e1 e2 e3
      subst hd
      congr
      · apply Array.ext (by omega)
        intro i h1 h2
        have h3 := e3 i (hs2 ▸ h2)
        have h4 : bt[i]? = at_[i]? := by
          rw [h3]
          by_cases hany : (l.take n).any (fun o => o.dst == some i) = true
          · rw [if_pos hany]
            simp [Array.getD_eq_getD_getElem?, h2]
          · rw [if_neg hany]
            refine (hmid.others i (fun j o ho hlj hd' => ?_)).symm
            apply hany
            rw [List.any_eq_true]
            have hjn : j < n := by
              rcases Nat.lt_or_ge j n with h | h
              · exact h
              · rw [tailAt] at hlj
                simp [Array.getD_eq_getD_getElem?, List.getElem?_append, List.getElem?_replicate, Nat.not_lt.2 h] at hlj
                split at hlj <;> simp at hlj
            exact ⟨o, List.mem_of_getElem? (by rw [htk j hjn]; simpa using ho), by simp [hd']⟩
        simpa [h1, h2] using h4
    rw [hae] at hout
    have := wpAny_of_seq (P := P) (md := .any) (ops := l.toArray) (Q' := Q) (l.drop n) n (tailAt n (l.length - n)) a w (fun j => by simp [List.getElem?_drop]) (by rw [hdl]; exact hseq) hout
    rwa [hdl] at this) n (Array.replicate l.toArray.size false) a0 w0.drew ⟨by simp, rfl, rfl, hrefl _, fun _ _ => rfl, fun j o d ho hl _ => by rw [getD_replicate_false] at hl; cases hl⟩
    ⟨by simp, fun j oj _ hl => (by rw [getD_replicate_false] at hl; cases hl), fun t _ ht => getD_in (by simpa using ht) (getD_replicate_false _ _)⟩ hcount
  rw [show n + (l.length - n) = l.toArray.size by simp; omega] at H
  exact H

end Go.Proofs.Ytklhflbjkckhmaa
