/- Entries under a limit of size: entsSize, limitSize, LimitSize, sizesOf, spec.Longest; the law FnLimitSize's walk. -/
import Derived.Test.YtlpkdfjelpbokaaSize
import Derived.Test.YtlpkdfjelpbokaaNums
import Derived.Test.YtlpkdfjelpbokaaShort
import Derived.Deep.LoopGhost
namespace Go.Proofs.Ytlpkdfjelpbokaa
open Go.ChangeShapes Go.WideShapes Go.ChangeAt Go.RowKit
set_option linter.unusedSimpArgs false
set_option linter.unusedVariables false

/-- How many more of the sizes fit, s being the sum so far. -/
def lim (max : Int) : Int → List Int → Nat
  | _, [] => 0
  | s, x :: xs => if max < s + x then 0 else 1 + lim max (s + x) xs
theorem lim_le (max : Int) : ∀ (xs : List Int) (s : Int), lim max s xs ≤ xs.length
  | [], s => by simp [lim]
  | x :: xs, s => by
    rw [lim]
    split
    · simp
    · have := lim_le max xs (s + x)
      simp only [List.length_cons]
      omega
/-- How many are taken: at least one. -/
def longest (max : Int) : List Int → Nat
  | [] => 0
  | x :: xs => 1 + lim max x xs
theorem longest_le (max : Int) (xs : List Int) : longest max xs ≤ xs.length := by
  cases xs with
  | nil => simp [longest]
  | cons x xs =>
    have := lim_le max xs x
    simp only [longest, List.length_cons]
    omega
theorem longest_lim (max : Int) (xs : List Int) (h : lim max 0 xs ≠ 0) : longest max xs = lim max 0 xs := by
  cases xs with
  | nil => simp [lim] at h
  | cons x xs =>
    rw [lim] at h ⊢
    split at h
    · simp at h
    · rename_i hx
      rw [if_neg hx, longest, Int.zero_add]
theorem longest_one (max : Int) (x : Int) (xs : List Int) (h : lim max 0 (x :: xs) = 0) (hp : ∀ y ∈ xs, 0 ≤ y) : longest max (x :: xs) = 1 := by
  rw [lim] at h
  split at h
  · rename_i hx
    rw [longest]
    cases xs with
    | nil => simp [lim]
    | cons y ys =>
      have := hp y (by simp)
      rw [lim, if_pos (by omega)]
  · omega

theorem longest_end {max : Int} {xs : List Int} {k : Nat} (h : lim max 0 xs = k) (hp : ∀ y ∈ xs, 0 ≤ y) : longest max xs = if k = 0 ∧ 0 < xs.length then 1 else k := by
  cases xs with
  | nil => simp [longest, lim] at h ⊢; omega
  | cons x xs =>
    by_cases hk : k = 0
    · subst hk
      rw [if_pos ⟨rfl, by simp⟩, longest_one max x xs h (fun y hy => hp y (by simp [hy]))]
    · rw [if_neg (by omega), longest_lim max _ (by omega), h]

/-- The sizes of entries. -/
def sizes (es : List Entry) : List Int := es.map fun x => (esize x : Int)
def sum (xs : List Int) : Int := xs.foldl (· + ·) 0

set_option maxRecDepth 100000 in
set_option maxHeartbeats 1000000 in
theorem specLongest_c (v : Value) (xs : List Int) (max : Int) (w : World) (h : NumsR w v xs) (hn : xs.length ≤ 2147483647) (hm : 0 ≤ max ∧ max ≤ 18446744073709551615) (hx : ∀ x ∈ xs, 0 ≤ x ∧ x ≤ 4294967296) :
    Calls Try.prog 12 #[v, .int .u64 max] w fun e w' => e = .returned (.int .i64 (longest max xs)) ∧ Ext w w' := by
  unfold NumsR at h
  obtain ⟨A, c, rfl, h1, h2, h3, h4⟩ := h
  have h4' := Lib.hid h4
  have hx' := Lib.hid hx
  clear h2 h3 h4 hx
  go_enter Try.func12, Try.ntmps12
  go_wp2
  go_loopg [5, 6] xs.length (fun g i s wr => ∃ (k : Nat) (t : Int), g = xs.length - k ∧ k ≤ xs.length ∧ i = .int .i64 k ∧ s = .int .u64 t ∧ (0 ≤ t ∧ t ≤ max) ∧ lim max 0 xs = k + lim max t (xs.drop k) ∧ Ext w wr)
  case atStart => exact ⟨0, 0, rfl, Nat.zero_le _, rfl, rfl, ⟨by omega, hm.1⟩, by simp, Ext.refl _⟩
  case round =>
    obtain ⟨k, t, hg, hk, rfl, rfl, ⟨ht0, htm⟩, hlim, he⟩ := hrel
    have hg' := Lib.hid hg
    have hlim' := Lib.hid hlim
    obtain ⟨hm0, hm1⟩ := hm
    clear hg hlim
    by_cases hlt : k < xs.length
    · obtain ⟨b, o, rfl, hc⟩ := h4'.out.at_ (i := k) (by simpa using hlt)
      have hc' := he.cellE hc
      simp only [List.getElem_map] at hc'
      have hd := List.drop_eq_getElem_cons hlt
      have hx0 := hx'.out _ (List.getElem_mem hlt)
      generalize hxk : xs[k] = x at *
      have hd' := Lib.hid hd
      obtain ⟨hx1, hx2⟩ := hx0
      have hltI : (k : Int) < (xs.length : Int) := by omega
      clear hd hxk hc
      by_cases hxm : x ≤ max
      · have hw : IntKind.u64.wrap (max - x) = max - x := by
          rw [IntWalk.u64_in _ (by omega)]
        by_cases hts : t ≤ max - x
        · have hf : lim max t (xs.drop k) = 1 + lim max (t + x) (xs.drop (k + 1)) := by
            rw [hd'.out, lim, if_neg (by omega)]
          have hf' := Lib.hid hf
          clear hf
          go_wp2
          go_roundg (xs.length - (k + 1))
          case rel =>
            refine ⟨k + 1, t + x, rfl, by omega, by go_num, rfl, ⟨by omega, by omega⟩, ?_, he⟩
            rw [hlim'.out, hf'.out]
            omega
          case measure =>
            have := hg'.out
            omega
        · have hf : lim max t (xs.drop k) = 0 := by
            rw [hd'.out, lim, if_pos (by omega)]
          have hL : longest max xs = if k = 0 ∧ 0 < xs.length then 1 else k := longest_end (by rw [hlim'.out, hf]; omega) (fun y hy => (hx'.out y hy).1)
          clear hf
          by_cases hk0 : k = 0
          · subst hk0
            rw [if_pos ⟨rfl, hlt⟩] at hL
            simp only [Nat.add_zero] at hc'
            have hL' := Lib.hid hL
            have hl0 : (0 : Int) < (xs.length : Int) := by omega
            clear hL
            go_wp2
            go_ret
            exact ⟨by rw [hL'.out]; rfl, he⟩
          · rw [if_neg (by omega)] at hL
            have hL' := Lib.hid hL
            have hkb : ((k : Int) == 0) = false := by simpa using hk0
            clear hL
            go_wp2
            go_ret
            exact ⟨by rw [hL'.out]; rfl, he⟩
      · have hf : lim max t (xs.drop k) = 0 := by
          rw [hd'.out, lim, if_pos (by omega)]
        have hL : longest max xs = if k = 0 ∧ 0 < xs.length then 1 else k := longest_end (by rw [hlim'.out, hf]; omega) (fun y hy => (hx'.out y hy).1)
        clear hf
        by_cases hk0 : k = 0
        · subst hk0
          rw [if_pos ⟨rfl, hlt⟩] at hL
          simp only [Nat.add_zero] at hc'
          have hL' := Lib.hid hL
          have hl0 : (0 : Int) < (xs.length : Int) := by omega
          clear hL
          go_wp2
          go_ret
          exact ⟨by rw [hL'.out]; rfl, he⟩
        · rw [if_neg (by omega)] at hL
          have hL' := Lib.hid hL
          have hkb : ((k : Int) == 0) = false := by simpa using hk0
          clear hL
          go_wp2
          go_ret
          exact ⟨by rw [hL'.out]; rfl, he⟩
    · have hkk : k = xs.length := by omega
      have hf : lim max t (xs.drop k) = 0 := by
        rw [hkk, List.drop_length, lim]
      have hL : longest max xs = if k = 0 ∧ 0 < xs.length then 1 else k := longest_end (by rw [hlim'.out, hf]; omega) (fun y hy => (hx'.out y hy).1)
      rw [if_neg (by omega)] at hL
      have hL' := Lib.hid hL
      clear hL hf
      by_cases hk0 : k = 0
      · subst hk0
        have hl0 : (xs.length : Int) = 0 := by omega
        have hx0 := Lib.hid hkk
        clear hkk
        go_wp2
        go_ret
        exact ⟨by rw [hL'.out]; rfl, he⟩
      · have hkb : ((k : Int) == 0) = false := by simpa using hk0
        have hx0 := Lib.hid hkk
        clear hkk
        go_wp2
        go_ret
        exact ⟨by rw [hL'.out]; rfl, he⟩

end Go.Proofs.Ytlpkdfjelpbokaa
