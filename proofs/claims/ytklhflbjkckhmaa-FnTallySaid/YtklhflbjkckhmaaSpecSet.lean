/- The reference: spec.Set, spec.vote; few. -/
import Derived.Test.YtklhflbjkckhmaaVote
import Derived.IntWalk
namespace Go.Proofs.Ytklhflbjkckhmaa
open Go.ChangeShapes Go.WideShapes Go.ChangeAt Go.RowKit
set_option linter.unusedSimpArgs false
set_option linter.unusedVariables false

/-- A ballot's number. -/
def voteV : Option Bool → Int
  | none => 0
  | some true => 1
  | some false => -1

set_option maxRecDepth 100000 in
set_option maxHeartbeats 1000000 in
theorem specVote_c (k : Int) (v : Value) (bs : List Ballot) (w : World) (h : BallotsR w v bs) (hn : bs.length ≤ 2147483647) :
    Calls Try.prog 34 #[.int .u64 k, v] w fun e w' => e = .returned (.int .i64 (voteV (lastB bs k))) ∧ Ext w w' := by
  obtain ⟨A, c, rfl, h1, h2, h3, h4⟩ := h
  have h4' := Lib.hid h4
  clear h2 h3 h4
  go_enter Try.func34, Try.ntmps34
  go_wp2
  go_loopg [5, 10] bs.length (fun g y i wr => ∃ (j : Nat), g = bs.length - j ∧ j ≤ bs.length ∧ i = .int .i64 j ∧ y = .int .i64 (voteV (lastB (bs.take j) k)) ∧ Ext w wr)
  case atStart => exact ⟨0, rfl, Nat.zero_le _, rfl, rfl, Ext.refl _⟩
  case round =>
    obtain ⟨j, hg, hk, rfl, rfl, he⟩ := hrel
    have hg' := Lib.hid hg
    clear hg
    by_cases hlt : j < bs.length
    · obtain ⟨b, o, rfl, hel⟩ := h4'.out.elem ballotCells_len (by omega) hlt
      have hd0 := he.cellE (hel 0 _ rfl)
      have hd1 := he.cellE (hel 1 _ rfl)
      simp only [Nat.add_zero] at hd0
      have hel' := Lib.hid hel
      have hst : ∀ k, lastB (bs.take (j + 1)) k = if bs[j].id = k then some bs[j].yes else lastB (bs.take j) k := fun k => by
        rw [List.take_add_one, List.getElem?_eq_getElem hlt, Option.toList, lastB_snoc]
      clear hel
      generalize hx : bs[j] = x at *
      have hx' := Lib.hid hx
      have hst' := Lib.hid hst
      clear hx hst
      obtain ⟨xi, xy⟩ := x
      simp only at hd0 hd1
      by_cases hid : xi = k
      · subst hid
        cases xy
        · go_wp2
          go_roundg (bs.length - (j + 1))
          case rel =>
            refine ⟨j + 1, rfl, by omega, by go_num, ?_, he.alloc _⟩
            rw [hst'.out]
            simp [voteV]
          case measure =>
            have := hg'.out
            omega
        · go_wp2
          go_roundg (bs.length - (j + 1))
          case rel =>
            refine ⟨j + 1, rfl, by omega, by go_num, ?_, he.alloc _⟩
            rw [hst'.out]
            simp [voteV]
          case measure =>
            have := hg'.out
            omega
      · have hib : (xi != k) = true := by simpa using hid
        go_wp2
        go_roundg (bs.length - (j + 1))
        case rel =>
          refine ⟨j + 1, rfl, by omega, by go_num, ?_, he.alloc _⟩
          rw [hst'.out, if_neg hid]
        case measure =>
          have := hg'.out
          omega
    · have hkk : j = bs.length := by omega
      subst hkk
      go_wp2
      go_ret
      rw [List.take_of_length_le (Nat.le_refl _)]
      exact ⟨rfl, he⟩

theorem info_u64b : (Try.prog.info? 27).map (fun i => (i.zero, i.size, i.bytes)) = some (some (.int .u64 0), 1, 8) := by kernel_rfl

/-- Above all of o (the last one, as o rises). -/
def above (o : List Int) (x : Int) : Prop := ∀ y ∈ o, y < x
theorem above_last {o : List Int} {x : Int} (h : o.Pairwise (· < ·)) (h0 : o ≠ []) : above o x ↔ o.getLast h0 < x := by
  constructor
  · exact fun ha => ha _ (List.getLast_mem h0)
  · intro hl y hy
    have : y ≤ o.getLast h0 := by
      obtain ⟨i, hi, rfl⟩ := List.getElem_of_mem hy
      rw [List.getLast_eq_getElem]
      rcases Nat.lt_or_ge i (o.length - 1) with h1 | h1
      · have := List.pairwise_iff_getElem.1 h i (o.length - 1) hi (by omega) h1
        omega
      · have : i = o.length - 1 := by omega
        subst this
        exact Int.le_refl _
    omega
/-- What has been taken: the least ones. -/
def Taken (o ids : List Int) : Prop := o.Pairwise (· < ·) ∧ (∀ y ∈ o, y ∈ ids) ∧ ∀ x ∈ ids, x ∈ o ∨ above o x
theorem Taken.all {o ids : List Int} (h : Taken o ids) (hn : ∀ x ∈ ids, ¬ above o x) : IsSet o ids :=
  ⟨h.1, fun k => ⟨h.2.1 k, fun hk => (h.2.2 k hk).resolve_right (hn k hk)⟩⟩
theorem Taken.full {o ids : List Int} (h : Taken o ids) (hn : ids.length ≤ o.length) : IsSet o ids := by
  refine ⟨h.1, fun k => ⟨h.2.1 k, fun hk => ?_⟩⟩
  have hnd : o.Nodup := h.1.imp (fun {a b} (h : a < b) => by omega)
  by_cases hko : k ∈ o
  · exact hko
  · exfalso
    have h1 := nodup_len o (ids.erase k) hnd (fun x hx => (List.mem_erase_of_ne (fun e => hko (by rw [← e]; exact hx))).2 (h.2.1 x hx))
    rw [List.length_erase_of_mem hk] at h1
    have := List.length_pos_of_mem hk
    omega
theorem Taken.snoc {o ids : List Int} {m : Int} (h : Taken o ids) (hm : m ∈ ids) (ha : above o m) (hl : ∀ x ∈ ids, above o x → m ≤ x) : Taken (o ++ [m]) ids := by
  refine ⟨List.pairwise_append.2 ⟨h.1, by simp, fun x hx y hy => ?_⟩, fun y hy => ?_, fun x hx => ?_⟩
  · simp at hy
    subst hy
    exact ha x hx
  · rcases List.mem_append.1 hy with hy | hy
    · exact h.2.1 y hy
    · simp at hy
      subst hy
      exact hm
  · rcases h.2.2 x hx with h1 | h1
    · exact .inl (by simp [h1])
    · have := hl x hx h1
      by_cases hxm : x = m
      · exact .inl (by simp [hxm])
      · refine .inr (fun y hy => ?_)
        rcases List.mem_append.1 hy with hy | hy
        · exact h1 y hy
        · simp at hy
          subst hy
          omega
/-- Found so far: nothing above o, or the least. -/
def Found (o xs : List Int) (f : Bool) (m : Int) : Prop := (f = false ∧ ∀ x ∈ xs, ¬ above o x) ∨ (f = true ∧ m ∈ xs ∧ above o m ∧ ∀ x ∈ xs, above o x → m ≤ x)
theorem Found.skip {o xs : List Int} {f : Bool} {m x : Int} (h : Found o xs f m) (hx : above o x → f = true ∧ m ≤ x) : Found o (xs ++ [x]) f m := by
  rcases h with ⟨h1, h2⟩ | ⟨h1, h2, h3, h4⟩
  · refine .inl ⟨h1, fun y hy => ?_⟩
    rcases List.mem_append.1 hy with hy | hy
    · exact h2 y hy
    · simp at hy
      subst hy
      intro ha
      have := (hx ha).1
      rw [h1] at this
      cases this
  · refine .inr ⟨h1, by simp [h2], h3, fun y hy ha => ?_⟩
    rcases List.mem_append.1 hy with hy | hy
    · exact h4 y hy ha
    · simp at hy
      subst hy
      exact (hx ha).2
theorem Found.take {o xs : List Int} {f : Bool} {m x : Int} (h : Found o xs f m) (ha : above o x) (hx : f = true → x < m) : Found o (xs ++ [x]) true x := by
  refine .inr ⟨rfl, by simp, ha, fun y hy hay => ?_⟩
  rcases List.mem_append.1 hy with hy | hy
  · rcases h with ⟨h1, h2⟩ | ⟨h1, h2, h3, h4⟩
    · exact absurd hay (h2 y hy)
    · have := h4 y hy hay
      have := hx h1
      omega
  · simp at hy
    omega

set_option maxRecDepth 100000 in
set_option maxHeartbeats 4000000 in
theorem specSet_c (v : Value) (ids : List Int) (w : World) (h : NumsR w v ids) (hn : ids.length ≤ 1000000000) : Calls Try.prog 23 #[v] w (RetV w fun v w' => ∃ l, NumsT w' v l ∧ IsSet l ids) := by
  unfold NumsR at h
  obtain ⟨A, c, rfl, h1, h2, h3, h4⟩ := h
  have h4' := Lib.hid h4
  have hni : (ids.length : Int) ≤ 1000000000 := by omega
  clear h2 h3 h4
  go_enter Try.func23, Try.ntmps23
  go_wp2
  go_loopg [3] ids.length (fun g v wr => ∃ (o : List Int) (A : Option Addr) (c : Nat), g = ids.length - o.length ∧ v = .slice A o.length c ∧ wr.ownsRow w.heap.size 27 1 (.slice A o.length c) o.length (o.map (Value.int .u64)) ∧ Taken o ids ∧ Ext w wr)
  case atStart => exact ⟨[], none, 0, rfl, rfl, World.ownsRow_nil _ _ _ _, ⟨List.Pairwise.nil, by simp, fun x _ => .inr (by simp [above])⟩, Ext.refl _⟩
  case round =>
    obtain ⟨o, A1, c1, hg, rfl, hown, htak, he⟩ := hrel
    have hg' := Lib.hid hg
    have hown' := Lib.hid hown
    have htak' := Lib.hid htak
    clear hg hown htak
    by_cases hlo : o.length < ids.length
    · have hloI : (o.length : Int) < (ids.length : Int) := by omega
      go_wp2
      go_loopg [4, 5, 15] ids.length (fun g f m i wr2 => ∃ (j : Nat) (fb : Bool) (mm : Int), g = ids.length - j ∧ j ≤ ids.length ∧ i = .int .i64 j ∧ f = .bool fb ∧ m = .int .u64 mm ∧ Found o (ids.take j) fb mm ∧ wr2 = wr)
      case atStart => exact ⟨0, false, 0, rfl, Nat.zero_le _, rfl, rfl, rfl, .inl ⟨rfl, by simp⟩, rfl⟩
      case round =>
        obtain ⟨j, fb, mm, hg2, hj, rfl, rfl, rfl, hfound, hw2⟩ := hrel
        subst hw2
        have hg2' := Lib.hid hg2
        have hf' := Lib.hid hfound
        clear hg2 hfound
        by_cases hlt : j < ids.length
        · obtain ⟨b, of, rfl, hc⟩ := h4'.out.at_ (i := j) (by simpa using hlt)
          have hc' := he.cellE hc
          simp only [List.getElem_map] at hc'
          have hst : ids.take (j + 1) = ids.take j ++ [ids[j]] := by
            rw [List.take_add_one, List.getElem?_eq_getElem hlt]
            rfl
          clear hc
          generalize hx : ids[j] = x at *
          have hst' := Lib.hid hst
          clear hst hx
          by_cases h0 : o.length = 0
          · have habv0 : above o x := by
              rw [List.eq_nil_of_length_eq_zero h0]
              simp [above]
            have habv := Lib.hid habv0
            have h0b : ((o.length : Int) == 0) = true := by simpa using h0
            clear h0 habv0
            cases fb
            · go_wp2
              go_roundg (ids.length - (j + 1))
              case rel => exact ⟨j + 1, _, _, rfl, by omega, by go_num, rfl, rfl, by rw [hst'.out]; exact hf'.out.take habv.out (by simp), rfl⟩
              case measure =>
                have := hg2'.out
                omega
            · by_cases hxm : x < mm
              · go_wp2
                go_roundg (ids.length - (j + 1))
                case rel => exact ⟨j + 1, _, _, rfl, by omega, by go_num, rfl, rfl, by rw [hst'.out]; exact hf'.out.take habv.out (fun _ => hxm), rfl⟩
                case measure =>
                  have := hg2'.out
                  omega
              · go_wp2
                go_roundg (ids.length - (j + 1))
                case rel => exact ⟨j + 1, _, _, rfl, by omega, by go_num, rfl, rfl, by rw [hst'.out]; exact hf'.out.skip (fun _ => ⟨rfl, by omega⟩), rfl⟩
                case measure =>
                  have := hg2'.out
                  omega
          · obtain ⟨q, hq⟩ : ∃ q, o.length = q + 1 := ⟨o.length - 1, by omega⟩
            obtain ⟨b3, o3, rfl, hc3⟩ := (RowR.of_own hown'.out).at_ (i := q) (by simp; omega)
            simp only [List.getElem_map] at hc3
            have hne : o ≠ [] := by
              intro e
              rw [e] at h0
              simp at h0
            have hlast : o[q]'(by omega) = o.getLast hne := by
              rw [List.getLast_eq_getElem]
              congr 1
              omega
            rw [hlast] at hc3
            have hab := Lib.hid (above_last (x := x) htak'.out.1 hne)
            have hqn : (q : Int) ≤ 1000000000 := by omega
            generalize o.getLast hne = la at *
            have hop : (0 : Int) < (o.length : Int) := by omega
            have hqs : (o.length : Int) - 1 = (q : Int) := by omega
            have hqlt : (q : Int) < (o.length : Int) := by omega
            have hob : ((o.length : Int) == 0) = false := by simpa using h0
            have hq' := Lib.hid hq
            clear hlast hq h0
            by_cases hla : la < x
            · cases fb
              · go_wp2
                go_roundg (ids.length - (j + 1))
                case rel => exact ⟨j + 1, _, _, rfl, by omega, by go_num, rfl, rfl, by rw [hst'.out]; exact hf'.out.take (hab.out.2 hla) (by simp), rfl⟩
                case measure =>
                  have := hg2'.out
                  omega
              · by_cases hxm : x < mm
                · go_wp2
                  go_roundg (ids.length - (j + 1))
                  case rel => exact ⟨j + 1, _, _, rfl, by omega, by go_num, rfl, rfl, by rw [hst'.out]; exact hf'.out.take (hab.out.2 hla) (fun _ => hxm), rfl⟩
                  case measure =>
                    have := hg2'.out
                    omega
                · go_wp2
                  go_roundg (ids.length - (j + 1))
                  case rel => exact ⟨j + 1, _, _, rfl, by omega, by go_num, rfl, rfl, by rw [hst'.out]; exact hf'.out.skip (fun _ => ⟨rfl, by omega⟩), rfl⟩
                  case measure =>
                    have := hg2'.out
                    omega
            · go_wp2
              go_roundg (ids.length - (j + 1))
              case rel => exact ⟨j + 1, _, _, rfl, by omega, by go_num, rfl, rfl, by rw [hst'.out]; exact hf'.out.skip (fun ha => absurd (hab.out.1 ha) (by omega)), rfl⟩
              case measure =>
                have := hg2'.out
                omega
        · have hjj : j = ids.length := by omega
          have hf2 := hf'.out
          rw [hjj, List.take_of_length_le (Nat.le_refl _)] at hf2
          have hf2' := Lib.hid hf2
          clear hf2 hjj
          cases fb
          · go_wp2
            go_ret
            have hset : IsSet o ids := htak'.out.all (by
              rcases hf2'.out with ⟨_, h⟩ | ⟨h, _⟩
              · exact h
              · cases h)
            refine ⟨_, rfl, ⟨o, ?_, hset⟩, he⟩
            unfold NumsT
            exact SliceT.of_own hown'.out
          · go_wp2_with (at_builtin; refine wpList_append_one wr rfl _ _ _ rfl w.heap.size 27 (.int .u64 0) 1 8 Try.underlying22 info_u64 rfl (by omega) (by omega) A1 o.length c1 _ rfl #[.int .u64 mm] rfl rfl rfl hown'.out (by omega) he.size_le ?_; intro A2 c2 w2 ho hT hE)
            go_roundg (ids.length - (o.length + 1))
            case rel =>
              refine ⟨o ++ [mm], A2, c2, by simp, by simp, ?_, ?_, hE w (Nat.le_refl _) he⟩
              · rw [List.length_append, List.length_singleton, List.map_append]
                exact ho
              · rcases hf2'.out with ⟨h, _⟩ | ⟨_, h1, h2, h3⟩
                · cases h
                · exact htak'.out.snoc h1 h2 h3
            case measure =>
              have := hg'.out
              omega
    · go_wp2
      go_ret
      refine ⟨_, rfl, ⟨o, ?_, htak'.out.full (by omega)⟩, he⟩
      unfold NumsT
      exact SliceT.of_own hown'.out

end Go.Proofs.Ytklhflbjkckhmaa
