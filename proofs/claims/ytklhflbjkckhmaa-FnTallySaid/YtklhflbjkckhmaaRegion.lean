/- A region that draws its order, where each operation only lets the world grow (or turns what no other one looks at): one look at each operation serves every order. -/
import Derived.Test.YtklhflbjkckhmaaLib
import Derived.Orders
namespace Go.Proofs.Ytklhflbjkckhmaa
open Go.ChangeShapes Go.WideShapes Go.ChangeAt Go.RowKit

/-- What is known of what an operation leaves: the value itself, or a condition on it that goes on holding. -/
inductive Fact where
  | val (v : Value)
  | is (F : Value → World → Prop)
instance : Inhabited Fact := ⟨.is fun _ _ => True⟩
def Fact.holds : Fact → Value → World → Prop
  | .val v, x, _ => x = v
  | .is F, x, w => F x w
def Fact.stays (R : World → World → Prop) : Fact → Prop
  | .val _ => True
  | .is F => ∀ x w w', F x w → R w w' → F x w'

/-- k holds of the frame a, the slots filled with whatever fits their facts. -/
def feed : List (Tmp × Fact) → Act → World → (Act → Prop) → Prop
  | [], a, _, k => k a
  | (d, .val v) :: l, a, w, k => feed l (a.put (some d) v) w k
  | (d, .is F) :: l, a, w, k => ∀ x, F x w → feed l (a.put (some d) x) w k

/-- One operation, alone: it ends, its value fits its fact, the world goes on by R. -/
def Alone (P : Program) (ops : Array Oper) (R : World → World → Prop) (o : Oper) (f : Fact) (a : Act) (w : World) : Prop :=
  ∀ K : Value → World → Prop, (∀ v w', R w w' → f.holds v w' → K v w') →
    if Region.wanted o (yielded ops a.tmps) then o.wp P a w (fun a' w' => a'.defers = a.defers ∧ K (a'.tmps.getD (o.dst.getD 0) undef) w') (fun _ _ _ => False) else K undef w

/-- The list's bookkeeping, all closed: what each operation looks at stands in its list of those ahead, each of which it waits for; slots are written once. -/
def chkOp (ops : Array Oper) (i : Nat) (o : Oper) (E : List (Nat × Tmp)) : Bool :=
  o.dst.isSome && (match o.op with | .select _ _ => false | _ => true) &&
  (o.looksAt ops).all (fun t => E.any (fun x => x.2 == t) || (List.range ops.size).all (fun j => ((ops[j]?).bind (·.dst)) != some t)) &&
  E.all (fun x => x.1 < i && ((ops[x.1]?).bind (·.dst)) == some x.2 && o.after.any (fun e => Region.binds .any e && e.on == x.1)) &&
  o.after.all (fun e => !Region.binds .any e || e.on < i) &&
  (List.range i).all (fun j => ((ops[j]?).bind (·.dst)) != o.dst)
def chk (ops : Array Oper) (E : List (List (Nat × Tmp))) : Bool :=
  E.length == ops.size && (List.range ops.size).all fun i => match ops[i]? with
    | some o => chkOp ops i o (E.getD i [])
    | none => false

def takes (T : List Fact) (E : List (Nat × Tmp)) : List (Tmp × Fact) := E.map fun x => (x.2, T.getD x.1 default)

/-- What is asked of the operations from number i on. -/
def asks (P : Program) (ops : Array Oper) (R : World → World → Prop) (S : World → Prop) (a0 : Act) (T : List Fact) : List Oper → List Fact → List (List (Nat × Tmp)) → Prop
  | o :: os, f :: fs, E :: Es => (∀ w, S w → feed (takes T E) a0 w (Alone P ops R o f · w)) ∧ asks P ops R S a0 T os fs Es
  | [], [], [] => True
  | _, _, _ => False

def dsts (ops : List Oper) (T : List Fact) : List (Tmp × Fact) := (ops.zip T).filterMap fun x => x.1.dst.map (·, x.2)

/-! ### The proof -/
theorem feed_out : ∀ (l : List (Tmp × Fact)) (b : Act) (w : World) (k : Act → Prop) (g : Tmp → Value), feed l b w k → (∀ x ∈ l, x.2.holds (g x.1) w) →
    k (l.foldl (fun c x => c.put (some x.1) (g x.1)) b)
  | [], _, _, _, _, h, _ => h
  | (d, .val v) :: l, b, w, k, g, h, hh => by
    have e : g d = v := hh _ (List.mem_cons_self ..)
    simp only [List.foldl_cons]
    rw [e]
    exact feed_out l _ w k g h (fun x hx => hh x (List.mem_cons_of_mem _ hx))
  | (d, .is F) :: l, b, w, k, g, h, hh =>
    feed_out l _ w k g (h (g d) (hh (d, .is F) (List.mem_cons_self ..))) (fun x hx => hh x (List.mem_cons_of_mem _ hx))

theorem fold_defers : ∀ (l : List (Tmp × Fact)) (b : Act) (g : Tmp → Value), (l.foldl (fun c x => c.put (some x.1) (g x.1)) b).defers = b.defers
  | [], _, _ => rfl
  | x :: l, b, g => by simp only [List.foldl_cons]; rw [fold_defers l]; rfl
theorem fold_size : ∀ (l : List (Tmp × Fact)) (b : Act) (g : Tmp → Value), (l.foldl (fun c x => c.put (some x.1) (g x.1)) b).tmps.size = b.tmps.size
  | [], _, _ => rfl
  | x :: l, b, g => by simp only [List.foldl_cons]; rw [fold_size l]; simp [Act.put]
theorem fold_at : ∀ (l : List (Tmp × Fact)) (b : Act) (g : Tmp → Value) (t : Tmp), t < b.tmps.size →
    (l.foldl (fun c x => c.put (some x.1) (g x.1)) b).tmps[t]? = if l.any (fun x => x.1 == t) then some (g t) else b.tmps[t]?
  | [], _, _, _, _ => by simp
  | x :: l, b, g, t, ht => by
    simp only [List.foldl_cons]
    rw [fold_at l _ g t (by simpa [Act.put] using ht)]
    by_cases h1 : l.any (fun x => x.1 == t) = true
    · simp [h1]
    · simp only [h1, List.any_cons]
      by_cases h2 : x.1 = t
      · subst h2
        simp [Act.put, ht]
      · have h3 : (x.1 == t) = false := by simpa using h2
        simp [h3, Act.put, Array.getElem?_setIfInBounds_ne h2]

section
variable {P : Program} {ops : Array Oper} {Q : Exit → Act → World → Prop} {R : World → World → Prop} {S : World → Prop} {a0 : Act} {T : List Fact} {E : List (List (Nat × Tmp))}

theorem asks_at : ∀ (os : List Oper) (fs : List Fact) (Es : List (List (Nat × Tmp))), asks P ops R S a0 T os fs Es → ∀ (i : Nat) (o : Oper), os[i]? = some o →
    ∃ f e, fs[i]? = some f ∧ Es[i]? = some e ∧ ∀ w, S w → feed (takes T e) a0 w (Alone P ops R o f · w)
  | o :: os, f :: fs, e :: Es, h, 0, o', ho => by
    simp at ho
    subst ho
    exact ⟨f, e, rfl, rfl, h.1⟩
  | o :: os, f :: fs, e :: Es, h, i + 1, o', ho => by
    simpa using asks_at os fs Es h.2 i o' (by simpa using ho)
  | [], [], [], _, i, o, ho => by simp at ho
  | [], [], _ :: _, h, _, _, _ => h.elim
  | [], _ :: _, _, h, _, _, _ => h.elim
  | _ :: _, [], _, h, _, _, _ => h.elim
  | _ :: _, _ :: _, [], h, _, _, _ => h.elim

theorem asks_len : ∀ (os : List Oper) (fs : List Fact) (Es : List (List (Nat × Tmp))), asks P ops R S a0 T os fs Es → fs.length = os.length
  | o :: os, f :: fs, e :: Es, h => by simp [asks_len os fs Es h.2]
  | [], [], [], _ => rfl
  | [], [], _ :: _, h => h.elim
  | [], _ :: _, _, h => h.elim
  | _ :: _, [], _, h => h.elim
  | _ :: _, _ :: _, [], h => h.elim

/-- What holds between two operations of the region. -/
structure Mid (ops : Array Oper) (S : World → Prop) (a0 : Act) (T : List Fact) (listed : Array Bool) (a : Act) (w : World) : Prop where
  size : listed.size = ops.size
  defers : a.defers = a0.defers
  tmps : a.tmps.size = a0.tmps.size
  world : S w
  others : ∀ t, (∀ (j : Nat) (o : Oper), ops[j]? = some o → listed.getD j false = true → o.dst ≠ some t) → a.tmps[t]? = a0.tmps[t]?
  those : ∀ (j : Nat) (o : Oper) (d : Tmp), ops[j]? = some o → listed.getD j false = true → o.dst = some d → (T.getD j default).holds (a.tmps.getD d undef) w

theorem chk_at (h : chk ops E = true) {i : Nat} {o : Oper} (ho : ops[i]? = some o) : chkOp ops i o (E.getD i []) = true := by
  simp only [chk, Bool.and_eq_true, List.all_eq_true, List.mem_range] at h
  have := h.2 i (Array.getElem?_eq_some_iff.1 ho).1
  rw [ho] at this
  exact this

theorem all_listed (h : chk ops E = true) {listed : Array Bool} (hs : listed.size = ops.size) (hr : Region.ready .any ops listed = []) :
    ∀ i, i < ops.size → listed.getD i false = true := by
  intro i
  induction i using Nat.strongRecOn with
  | ind i ih =>
    intro hi
    obtain ⟨o, ho⟩ : ∃ o, ops[i]? = some o := ⟨_, Array.getElem?_eq_getElem hi⟩
    have hc := chk_at h ho
    simp only [chkOp, Bool.and_eq_true, Array.all_eq_true_iff_forall_mem, Bool.or_eq_true, Bool.not_eq_true', decide_eq_true_eq] at hc
    cases hl : listed.getD i false with
    | true => rfl
    | false =>
      have hl' : listed.getD i true = false := by
        simp only [Array.getD_eq_getD_getElem?, Array.getElem?_eq_getElem (show i < listed.size by omega), Option.getD_some] at hl ⊢
        exact hl
      have : i ∈ Region.ready .any ops listed := mem_ready.2 ⟨hl', o, ho, fun e he hb => by
        have := (hc.1.2 e he).resolve_left (by simp [hb])
        exact ih e.on this (by omega)⟩
      rw [hr] at this
      cases this

theorem countP_lt {p q : Nat → Bool} : ∀ {l : List Nat} {i : Nat}, i ∈ l → (∀ j ∈ l, q j = true → p j = true) → p i = true → ¬ q i = true → l.countP q < l.countP p
  | x :: l, i, hi, h, hp, hq => by
    have hle : l.countP q ≤ l.countP p := List.countP_mono_left fun j hj => h j (by simp [hj])
    rcases List.mem_cons.1 hi with rfl | hi
    · rw [List.countP_cons_of_pos hp, List.countP_cons_of_neg hq]
      omega
    · have := countP_lt hi (fun j hj => h j (by simp [hj])) hp hq
      simp only [List.countP_cons]
      have hx := h x (by simp)
      cases hqx : q x with
      | true => simp [hx hqx]; omega
      | false => simp; split <;> omega

/-- One operation, in whatever frame the order has led to. -/
theorem one_step_at {os : List Oper} {i : Nat} (hki : ∀ o, ops[i]? = some o → chkOp ops i o (E.getD i []) = true) (hos : ∀ o, ops[i]? = some o → os[i]? = some o) (hb : ∀ (o : Oper) (d : Tmp), ops[i]? = some o → o.dst = some d → d < a0.tmps.size)
    (hstay : ∀ f ∈ T, f.stays R) (hS : ∀ w w', S w → R w w' → S w') (hask : asks P ops R S a0 T os T E)
    {listed : Array Bool} {a : Act} {w : World} (hm : Mid ops S a0 T listed a w) (hi : i ∈ Region.ready .any ops listed) (hkl : ∀ j o, ops[j]? = some o → listed.getD j false = true → chkOp ops j o (E.getD j []) = true ∧ j < os.length) {K : Act → World → Prop}
    (hK : ∀ a' w', Mid ops S a0 T (listed.setIfInBounds i true) a' w' → K a' w') : wpOp P ops Q i K a w := by
  obtain ⟨hni, o, ho, haft⟩ := mem_ready.1 hi
  have hilt : i < ops.size := (Array.getElem?_eq_some_iff.1 ho).1
  have hc := hki o ho
  simp only [chkOp, Bool.and_eq_true, List.all_eq_true, Bool.or_eq_true, List.any_eq_true, beq_iff_eq, decide_eq_true_eq, List.mem_range, bne_iff_ne] at hc
  obtain ⟨⟨⟨⟨⟨hdst, hsel⟩, hlook⟩, hE⟩, _⟩, hdif⟩ := hc
  obtain ⟨d, hd⟩ := Option.isSome_iff_exists.1 hdst
  have hdlt : d < a0.tmps.size := hb o d ho hd
  obtain ⟨f, e, hf, he, halone⟩ := asks_at os T E hask i o (hos o ho)
  have heE : E.getD i [] = e := by rw [List.getD_eq_getElem?_getD, he]; rfl
  have hfT : T.getD i default = f := by rw [List.getD_eq_getElem?_getD, hf]; rfl
  rw [heE] at hlook hE
  -- those ahead have come up
  have hprev : ∀ x ∈ e, listed.getD x.1 false = true ∧ ∃ o', ops[x.1]? = some o' ∧ o'.dst = some x.2 := by
    intro x hx
    obtain ⟨⟨_, h2⟩, h3⟩ := hE x hx
    obtain ⟨gi, hgi, hgb⟩ := Array.any_eq_true.1 h3
    simp only [Bool.and_eq_true, beq_iff_eq] at hgb
    refine ⟨by rw [← hgb.2]; exact haft _ (Array.getElem_mem hgi) hgb.1, ?_⟩
    cases hx1 : ops[x.1]? with
    | none => rw [hx1] at h2; simp at h2
    | some o' => rw [hx1] at h2; exact ⟨o', rfl, by simpa using h2⟩
  let g : Tmp → Value := fun t => a.tmps.getD t undef
  have hfed := feed_out (takes T e) a0 w _ g (halone w hm.world) (by
    intro x hx
    simp only [takes, List.mem_map] at hx
    obtain ⟨y, hy, rfl⟩ := hx
    obtain ⟨hl, o', ho', hd'⟩ := hprev y hy
    exact hm.those y.1 o' y.2 ho' hl hd')
  generalize hai : (takes T e).foldl (fun c x => c.put (some x.1) (g x.1)) a0 = ai at hfed
  have hsz : ai.tmps.size = a0.tmps.size := by rw [← hai]; exact fold_size _ _ _
  -- both frames look alike to the operation
  have hat : ∀ t, t ∈ o.looksAt ops → ai.tmps[t]? = a.tmps[t]? := by
    intro t ht
    by_cases htl : t < a0.tmps.size
    · rw [← hai, fold_at _ _ _ _ htl]
      by_cases hany : (takes T e).any (fun x => x.1 == t) = true
      · rw [if_pos hany]
        simp [g, Array.getD_eq_getD_getElem?, show t < a.tmps.size by rw [hm.tmps]; exact htl]
      · rw [if_neg hany]
        have hno : ¬ ∃ x ∈ e, x.2 = t := by
          rintro ⟨x, hx, rfl⟩
          apply hany
          simp only [takes, List.any_map, List.any_eq_true, Function.comp, beq_iff_eq]
          exact ⟨x, hx, rfl⟩
        refine (hm.others t (fun j o' ho' _ hd' => ?_)).symm
        rcases hlook t ht with h | h
        · exact hno h
        · have := h j (Array.getElem?_eq_some_iff.1 ho').1
          rw [ho'] at this
          exact this hd'
    · have h1 : ai.tmps[t]? = none := Array.getElem?_eq_none (by rw [hsz]; exact Nat.le_of_not_lt htl)
      have h2 : a.tmps[t]? = none := Array.getElem?_eq_none (by rw [hm.tmps]; exact Nat.le_of_not_lt htl)
      rw [h1, h2]
  have hev : ∀ x ∈ o.op.operands, ai.eval x = a.eval x := by
    intro x hx
    cases x with
    | tmp t =>
      have : t ∈ o.looksAt ops := by
        unfold Oper.looksAt
        refine List.mem_append.2 (.inl (List.mem_filterMap.2 ⟨.tmp t, by simpa using hx, rfl⟩))
      simp only [Act.eval, Array.getD_eq_getD_getElem?, hat t this]
    | _ => rfl
  have hexec : execOp ai.eval o = execOp a.eval o := execOp_congr o (fun cs b h => by rw [h] at hsel; simp at hsel) hev
  have hwant : Region.wanted o (yielded ops ai.tmps) = Region.wanted o (yielded ops a.tmps) := by
    unfold Region.wanted
    cases hgd : o.guard with
    | none => rfl
    | some gw =>
      obtain ⟨gi, want⟩ := gw
      have hy : yielded ops ai.tmps gi = yielded ops a.tmps gi := by
        unfold yielded
        cases ht : (ops[gi]?).bind (·.dst) with
        | none => rfl
        | some t =>
          have : t ∈ o.looksAt ops := by
            unfold Oper.looksAt
            refine List.mem_append.2 (.inr ?_)
            rw [hgd]
            simp [ht]
          simp only [Option.bind_some, hat t this]
      simp only [hy]
  -- the next state
  have hnext : ∀ v w', R w w' → f.holds v w' → Mid ops S a0 T (listed.setIfInBounds i true) (a.put (some d) v) w' := by
    intro v w' hr hv
    have hlist : ∀ j, (listed.setIfInBounds i true).getD j false = true → j = i ∨ listed.getD j false = true := by
      intro j hj
      by_cases hji : j = i
      · exact .inl hji
      · right
        simpa [Array.getD_eq_getD_getElem?, Array.getElem?_setIfInBounds_ne (Ne.symm hji)] using hj
    refine ⟨by simp [hm.size], hm.defers, by simp [Act.put, hm.tmps], hS _ _ hm.world hr, fun t ht => ?_, fun j o' d' ho' hl hd' => ?_⟩
    · have hdt : d ≠ t := by
        rintro rfl
        exact ht i o ho (by simp [Array.getD_eq_getD_getElem?, hm.size, hilt]) hd
      have h1 : (a.put (some d) v).tmps[t]? = a.tmps[t]? := by simp [Act.put, Array.getElem?_setIfInBounds_ne hdt]
      rw [h1]
      refine hm.others t (fun j o' ho' hl => ht j o' ho' ?_)
      by_cases hji : j = i
      · subst hji
        simp [Array.getD_eq_getD_getElem?, hm.size, hilt]
      · simpa [Array.getD_eq_getD_getElem?, Array.getElem?_setIfInBounds_ne (Ne.symm hji)] using hl
    · by_cases hji : j = i
      · subst hji
        rw [ho] at ho'
        cases ho'
        rw [hd] at hd'
        cases hd'
        rw [hfT]
        have : (a.put (some d) v).tmps.getD d undef = v := by
          simp [Act.put, Array.getD_eq_getD_getElem?, hm.tmps, hdlt]
        rw [this]
        exact hv
      · have hl' := (hlist j hl).resolve_left hji
        have hdd : d ≠ d' := by
          rintro rfl
          rcases Nat.lt_or_ge j i with h | h
          · have := hdif j h
            rw [ho'] at this
            exact this (by simp [hd, hd'])
          · have hjs := (Array.getElem?_eq_some_iff.1 ho').1
            have hcj := (hkl j o' ho' hl').1
            simp only [chkOp, Bool.and_eq_true, List.all_eq_true, List.mem_range, bne_iff_ne] at hcj
            have := hcj.2 i (by omega)
            rw [ho] at this
            exact this (by simp [hd, hd'])
        have h1 : (a.put (some d) v).tmps.getD d' undef = a.tmps.getD d' undef := by
          simp [Act.put, Array.getD_eq_getD_getElem?, Array.getElem?_setIfInBounds_ne hdd]
        rw [h1]
        have h2 := hm.those j o' d' ho' hl' hd'
        have hjT : j < T.length := by
          rw [asks_len _ _ _ hask]
          exact (hkl j o' ho' hl').2
        have hst := hstay _ (List.getElem_mem hjT)
        have hg : T.getD j default = T[j] := by simp [List.getD_eq_getElem?_getD, List.getElem?_eq_getElem hjT]
        rw [hg] at h2 ⊢
        cases hq : T[j] with
        | val u => rw [hq] at h2; exact h2
        | is F => rw [hq] at h2 hst; exact hst _ _ _ h2 hr
  -- and the operation
  have hrun := hfed (fun v w' => R w w' ∧ f.holds v w') (fun v w' h1 h2 => ⟨h1, h2⟩)
  unfold wpOp
  simp only [ho]
  rw [hwant] at hrun
  by_cases hw : Region.wanted o (yielded ops a.tmps) = true
  · rw [if_pos hw] at hrun ⊢
    left
    unfold Oper.wp at hrun ⊢
    rw [hexec] at hrun
    rw [hd] at hrun
    have hput : ∀ v, (ai.put (some d) v).tmps.getD ((some d).getD 0) undef = v := by
      intro v
      simp [Act.put, Array.getD_eq_getD_getElem?, hsz, hdlt]
    generalize (execOp a.eval o).run P w = r at *
    cases r with
    | ok n w' =>
      cases n <;> simp only [Oper.upon, hd] at hrun ⊢
      case value u =>
        rw [hput] at hrun
        exact hK _ _ (hnext _ _ hrun.2.1 hrun.2.2)
      case skip =>
        rw [hput] at hrun
        exact hK _ _ (hnext _ _ hrun.2.1 hrun.2.2)
      case enter fn args =>
        refine Calls.mono hrun fun e w'' he => ?_
        cases e with
        | returned u =>
          simp only at he ⊢
          rw [hput] at he
          exact hK _ _ (hnext _ _ he.2.1 he.2.2)
        | panicked c => exact he.elim
        | outgrown => exact absurd he (by rintro ⟨_, _, h⟩; exact h)
      case row row args =>
        refine Rows.mono hrun fun u w'' he => ?_
        rw [hput] at he
        exact hK _ _ (hnext _ _ he.2.1 he.2.2)
      case defer d' =>
        have h0 : (d' :: ai.defers).length = ai.defers.length := congrArg List.length (show d' :: ai.defers = ai.defers from hrun.1)
        simp at h0
    | halt x w' =>
      cases x <;> simp only [Oper.upon] at hrun
  · rw [if_neg hw] at hrun ⊢
    rw [hd]
    exact hK _ _ (hnext _ _ hrun.1 hrun.2)

theorem one_step (hk : chk ops E = true) (hb : ∀ (i : Nat) (o : Oper) (d : Tmp), ops[i]? = some o → o.dst = some d → d < a0.tmps.size)
    (hstay : ∀ f ∈ T, f.stays R) (hS : ∀ w w', S w → R w w' → S w') (hask : asks P ops R S a0 T ops.toList T E)
    {listed : Array Bool} {a : Act} {w : World} (hm : Mid ops S a0 T listed a w) {i : Nat} (hi : i ∈ Region.ready .any ops listed) {K : Act → World → Prop}
    (hK : ∀ a' w', Mid ops S a0 T (listed.setIfInBounds i true) a' w' → K a' w') : wpOp P ops Q i K a w :=
  one_step_at (os := ops.toList) (fun o ho => chk_at hk ho) (fun o ho => by simpa using ho) (hb i) hstay hS hask hm hi (fun j o ho _ => ⟨chk_at hk ho, by simpa using (Array.getElem?_eq_some_iff.1 ho).1⟩) hK

theorem any_order (hk : chk ops E = true) (hb : ∀ (i : Nat) (o : Oper) (d : Tmp), ops[i]? = some o → o.dst = some d → d < a0.tmps.size)
    (hstay : ∀ f ∈ T, f.stays R) (hS : ∀ w w', S w → R w w' → S w') (hask : asks P ops R S a0 T ops.toList T E)
    (hfin : ∀ a w, Mid ops S a0 T (Array.replicate ops.size true) a w → Q .normal a w) :
    ∀ (fuel : Nat) (listed : Array Bool) (a : Act) (w : World), Mid ops S a0 T listed a w → ((List.range ops.size).filter fun i => !listed.getD i false).length ≤ fuel → wpAny P .any ops Q fuel listed a w := by
  have hend : ∀ (listed : Array Bool) a w, Mid ops S a0 T listed a w → Region.ready .any ops listed = [] → Q .normal a w := by
    intro listed a w hm hr
    have hal := all_listed hk hm.size hr
    have : listed = Array.replicate ops.size true := by
      apply Array.ext (by simp [hm.size])
      intro i h1 h2
      have := hal i (by simpa using h2)
      simpa [Array.getD_eq_getD_getElem?, h1] using this
    rw [this] at hm
    exact hfin a w hm
  intro fuel
  induction fuel with
  | zero =>
    intro listed a w hm hf
    have h0 : (List.range ops.size).filter (fun i => !listed.getD i false) = [] := List.eq_nil_of_length_eq_zero (by omega)
    have hr : Region.ready .any ops listed = [] := by
      rw [List.eq_nil_iff_forall_not_mem]
      intro i hi
      obtain ⟨hni, o, ho, _⟩ := mem_ready.1 hi
      have hilt : i < ops.size := (Array.getElem?_eq_some_iff.1 ho).1
      have h1 : i ∈ (List.range ops.size).filter (fun i => !listed.getD i false) := by
        rw [List.mem_filter]
        refine ⟨List.mem_range.2 hilt, ?_⟩
        simp only [Array.getD_eq_getD_getElem?, Array.getElem?_eq_getElem (show i < listed.size by rw [hm.size]; exact hilt), Option.getD_some] at hni ⊢
        simp [hni]
      rw [h0] at h1
      cases h1
    exact ⟨hr, hend _ _ _ hm hr⟩
  | succ fuel ih =>
    intro listed a w hm hf
    refine ⟨fun hr => hend _ _ _ hm hr, fun i hi => one_step hk hb hstay hS hask hm hi fun a' w' hm' => ih _ _ _ hm' ?_⟩
    obtain ⟨hni, o, ho, _⟩ := mem_ready.1 hi
    have hilt : i < ops.size := (Array.getElem?_eq_some_iff.1 ho).1
    have hni' : listed.getD i false = false := by
      simp only [Array.getD_eq_getD_getElem?, Array.getElem?_eq_getElem (show i < listed.size by rw [hm.size]; exact hilt), Option.getD_some] at hni ⊢
      exact hni
    have hlt : ((List.range ops.size).filter fun j => !(listed.setIfInBounds i true).getD j false).length < ((List.range ops.size).filter fun j => !listed.getD j false).length := by
      rw [← List.countP_eq_length_filter, ← List.countP_eq_length_filter]
      refine countP_lt (List.mem_range.2 hilt) (fun j hj => ?_) ?_ ?_
      · by_cases hji : j = i
        · subst hji
          simp [Array.getD_eq_getD_getElem?, hm.size, hilt]
        · simp [Array.getD_eq_getD_getElem?, Array.getElem?_setIfInBounds_ne (Ne.symm hji)]
      · simp [hni']
      · simp [Array.getD_eq_getD_getElem?, hm.size, hilt]
    omega
end

/-- k holds of the frame, each operation's slot filled with whatever fits its fact. -/
def fills : List Oper → List Fact → Act → World → (Act → Prop) → Prop
  | o :: os, .val v :: fs, a, w, k => fills os fs (a.put o.dst v) w k
  | o :: os, .is F :: fs, a, w, k => ∀ x, F x w → fills os fs (a.put o.dst x) w k
  | [], [], a, _, k => k a
  | _, _, _, _, _ => False

theorem fills_out : ∀ (os : List Oper) (fs : List Fact) (b : Act) (w : World) (k : Act → Prop) (g : Tmp → Value), fills os fs b w k →
    (∀ (i : Nat) (o : Oper) (f : Fact) (d : Tmp), os[i]? = some o → fs[i]? = some f → o.dst = some d → f.holds (g d) w) → (∀ o ∈ os, o.dst.isSome = true) →
    k (os.foldl (fun c o => c.put o.dst (g (o.dst.getD 0))) b)
  | [], [], _, _, _, _, h, _, _ => h
  | [], _ :: _, _, _, _, _, h, _, _ => h.elim
  | _ :: _, [], _, _, _, _, h, _, _ => h.elim
  | o :: os, .val v :: fs, b, w, k, g, h, hh, hd => by
    obtain ⟨d, hdd⟩ := Option.isSome_iff_exists.1 (hd o (List.mem_cons_self ..))
    have e : g d = v := hh 0 o (.val v) d rfl rfl hdd
    simp only [List.foldl_cons]
    rw [hdd, Option.getD_some, e, ← hdd]
    exact fills_out os fs _ w k g h (fun i o' f d' h1 h2 h3 => hh (i + 1) o' f d' (by simpa using h1) (by simpa using h2) h3) (fun o' ho' => hd o' (List.mem_cons_of_mem _ ho'))
  | o :: os, .is F :: fs, b, w, k, g, h, hh, hd => by
    obtain ⟨d, hdd⟩ := Option.isSome_iff_exists.1 (hd o (List.mem_cons_self ..))
    simp only [List.foldl_cons]
    exact fills_out os fs _ w k g (h _ (by rw [hdd]; exact hh 0 o (.is F) d rfl rfl hdd)) (fun i o' f d' h1 h2 h3 => hh (i + 1) o' f d' (by simpa using h1) (by simpa using h2) h3) (fun o' ho' => hd o' (List.mem_cons_of_mem _ ho'))

theorem puts_defers : ∀ (os : List Oper) (b : Act) (g : Tmp → Value), (os.foldl (fun c o => c.put o.dst (g (o.dst.getD 0))) b).defers = b.defers
  | [], _, _ => rfl
  | o :: os, b, g => by simp only [List.foldl_cons]; rw [puts_defers os]; cases o.dst <;> rfl
theorem puts_size : ∀ (os : List Oper) (b : Act) (g : Tmp → Value), (os.foldl (fun c o => c.put o.dst (g (o.dst.getD 0))) b).tmps.size = b.tmps.size
  | [], _, _ => rfl
  | o :: os, b, g => by simp only [List.foldl_cons]; rw [puts_size os]; cases o.dst <;> simp [Act.put]
theorem puts_at : ∀ (os : List Oper) (b : Act) (g : Tmp → Value) (t : Tmp), t < b.tmps.size →
    (os.foldl (fun c o => c.put o.dst (g (o.dst.getD 0))) b).tmps[t]? = if os.any (fun o => o.dst == some t) then some (g t) else b.tmps[t]?
  | [], _, _, _, _ => by simp
  | o :: os, b, g, t, ht => by
    simp only [List.foldl_cons]
    rw [puts_at os _ g t (by cases o.dst <;> simpa [Act.put] using ht)]
    by_cases h1 : os.any (fun o => o.dst == some t) = true
    · simp [h1]
    · simp only [h1, List.any_cons]
      cases hd : o.dst with
      | none => simp [Act.put]
      | some d =>
        by_cases h2 : d = t
        · subst h2
          simp [Act.put, ht]
        · have h3 : (some d == some t) = false := by simpa using h2
          simp [h3, Act.put, Array.getElem?_setIfInBounds_ne h2]

def stayAll (R : World → World → Prop) : List Fact → Prop
  | [] => True
  | f :: fs => f.stays R ∧ stayAll R fs
theorem stayAll_at {R : World → World → Prop} : ∀ {T : List Fact}, stayAll R T → ∀ f ∈ T, f.stays R
  | _ :: _, h, f, hf => by
    rcases List.mem_cons.1 hf with rfl | hf
    · exact h.1
    · exact stayAll_at h.2 f hf

/-- THE LAW. -/
theorem wp_region_grow {P : Program} {id : Nat} {l : List Oper} {Q : Exit → Act → World → Prop} {a0 : Act} {w0 : World} (R : World → World → Prop) (T : List Fact) (E : List (List (Nat × Tmp)))
    (hm : P.follows .mixedOrders = true) (hrefl : ∀ w, R w w) (htrans : ∀ a b c, R a b → R b c → R a c) (hk : chk l.toArray E = true) (hb : l.all (fun o => match o.dst with | some d => decide (d < a0.tmps.size) | none => true) = true)
    (hst : stayAll R T) (hask : asks P l.toArray R (R w0.drew) a0 T l T E)
    (hfin : ∀ w, R w0.drew w → fills l T a0 w (fun a => Q .normal a w)) : (Code.region id l.toArray true).wp P Q a0 w0 := by
  have hstay := stayAll_at hst
  refine wp_region_any hm (any_order (R := R) (S := R w0.drew) (a0 := a0) (T := T) (E := E) hk ?_ hstay (fun w w' h1 h2 => htrans _ _ _ h1 h2) (by simpa using hask) ?_ _ _ a0 _ ⟨by simp, rfl, rfl, hrefl _, fun _ _ => rfl, fun j o d ho hl _ => ?_⟩ ?_)
  · intro i o d ho hd
    simp only [List.all_eq_true] at hb
    have := hb o (List.mem_of_getElem? (by simpa using ho))
    rw [hd] at this
    simpa using this
  · intro a w hmid
    have hdall : ∀ o ∈ l, o.dst.isSome = true := by
      intro o ho
      obtain ⟨i, hi⟩ := List.getElem?_of_mem ho
      have := chk_at hk (i := i) (o := o) (by simpa using hi)
      simp only [chkOp, Bool.and_eq_true] at this
      exact this.1.1.1.1.1
    have hlen := asks_len _ _ _ hask
    have hout := fills_out l T a0 w _ (fun t => a.tmps.getD t undef) (hfin w hmid.world) (fun i o f d h1 h2 h3 => by
      have hil : i < l.length := (List.getElem?_eq_some_iff.1 h1).1
      have := hmid.those i o d (by simpa using h1) (by simp [Array.getD_eq_getD_getElem?, hil]) h3
      rwa [List.getD_eq_getElem?_getD, h2] at this) hdall
    have : l.foldl (fun c o => c.put o.dst (a.tmps.getD (o.dst.getD 0) undef)) a0 = a := by
      have e1 := puts_defers l a0 (fun t => a.tmps.getD t undef)
      have e2 := puts_size l a0 (fun t => a.tmps.getD t undef)
      have e3 := puts_at l a0 (fun t => a.tmps.getD t undef)
      generalize l.foldl (fun c o => c.put o.dst (a.tmps.getD (o.dst.getD 0) undef)) a0 = b at *
      obtain ⟨bt, bd⟩ := b
      obtain ⟨at_, ad⟩ := a
      have hd := hmid.defers
      have hs := hmid.tmps
      simp only at hd hs e1 e2 e3
      subst hd
      congr
      · apply Array.ext (by omega)
        intro i h1 h2
        have h3 := e3 i (hs ▸ h2)
        have h4 : bt[i]? = at_[i]? := by
          rw [h3]
          by_cases hany : l.any (fun o => o.dst == some i) = true
          · rw [if_pos hany]
            simp [Array.getD_eq_getD_getElem?, h2]
          · rw [if_neg hany]
            refine (hmid.others i (fun j o ho _ hd' => ?_)).symm
            apply hany
            rw [List.any_eq_true]
            exact ⟨o, List.mem_of_getElem? (by simpa using ho), by simp [hd']⟩
        simpa [h1, h2] using h4
    rw [this] at hout
    exact hout
  · rw [Array.getD_eq_getD_getElem?, Array.getElem?_replicate] at hl
    split at hl <;> simp at hl
  · exact Nat.le_trans (List.length_filter_le _ _) (by simp)

theorem asks_cons {P : Program} {ops : Array Oper} {R : World → World → Prop} {S : World → Prop} {a0 : Act} {T : List Fact} {o : Oper} {os : List Oper} {f : Fact} {fs : List Fact} {e : List (Nat × Tmp)} {es : List (List (Nat × Tmp))}
    (h : ∀ w, S w → feed (takes T e) a0 w (Alone P ops R o f · w)) (h2 : asks P ops R S a0 T os fs es) : asks P ops R S a0 T (o :: os) (f :: fs) (e :: es) := ⟨h, h2⟩

theorem alone_val {P : Program} {ops : Array Oper} {R : World → World → Prop} {o : Oper} {x : Value} {a : Act} {w : World}
    (h : ∀ K : Value → World → Prop, (∀ w', R w w' → K x w') → if Region.wanted o (yielded ops a.tmps) then o.wp P a w (fun a' w' => a'.defers = a.defers ∧ K (a'.tmps.getD (o.dst.getD 0) undef) w') (fun _ _ _ => False) else K undef w) :
    Alone P ops R o (.val x) a w := fun K hK => h K fun w' hr => hK x w' hr rfl

end Go.Proofs.Ytklhflbjkckhmaa
