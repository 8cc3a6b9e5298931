/- The size of an entry's written form: zzVarint, ZzSize. -/
import Derived.Test.YtlpkdfjelpbokaaEntryGet
import Derived.Deep.QuietTactic
import Derived.BigQuiet
import Derived.IntWalk
import Derived.WalkSpells
namespace Go.Proofs.Ytlpkdfjelpbokaa
open Go.ChangeShapes Go.WideShapes Go.ChangeAt Go.RowKit
set_option linter.unusedSimpArgs false
set_option linter.unusedVariables false

/-- How many bytes a number takes, seven bits a byte. -/
def vlen (n : Nat) : Nat := if n < 128 then 1 else 1 + vlen (n / 128)
theorem vlen_le : ∀ (k n : Nat), n < 128 ^ (k + 1) → vlen n ≤ k + 1
  | 0, n, h => by
    rw [vlen, if_pos (by omega)]
    omega
  | k + 1, n, h => by
    rw [vlen]
    split
    · omega
    · have h1 : n / 128 < 128 ^ (k + 1) := by
        rw [Nat.div_lt_iff_lt_mul (by decide)]
        rw [Nat.pow_succ] at h
        exact h
      have := vlen_le k (n / 128) h1
      omega
theorem vlen_ten (n : Nat) (h : n ≤ 18446744073709551615) : vlen n ≤ 10 := vlen_le 9 n (Nat.lt_of_le_of_lt h (by decide))
theorem vlen_pos (n : Nat) : 1 ≤ vlen n := by
  rw [vlen]
  split <;> omega

set_option maxRecDepth 100000 in
set_option maxHeartbeats 1000000 in
theorem zzVarint_c (n : Nat) (hn : n ≤ 18446744073709551615) (w : World) : Calls Try.prog 35 #[.int .u64 n] w fun e w' => e = .returned (.int .i64 (vlen n)) ∧ w' = w := by
  have h10 := vlen_ten n hn
  go_enter Try.func35, Try.ntmps35
  go_wp2
  go_loopg [0, 3] n (fun g a s wr => ∃ (m t : Nat), g = m ∧ a = .int .u64 m ∧ s = .int .i64 t ∧ m ≤ n ∧ t + vlen m = vlen n + 1 ∧ wr = w)
  case atStart => exact ⟨n, 1, rfl, rfl, rfl, Nat.le_refl _, by omega, rfl⟩
  case round =>
    obtain ⟨m, t, hg, rfl, rfl, hm, ht, hw⟩ := hrel
    subst hw
    have hg' := Lib.hid hg
    have ht' := Lib.hid ht
    have h1 := vlen_pos m
    have ht2 : (t : Int) ≤ 10 := by omega
    clear hg ht
    by_cases hlt : m < 128
    · go_wp2
      go_ret
      have hv : vlen m = 1 := by rw [vlen, if_pos hlt]
      have := ht'.out
      refine ⟨?_, rfl⟩
      have : t = vlen n := by omega
      rw [this]
      rfl
    · have hge : (128 : Int) ≤ (m : Int) := by omega
      go_wp2
      go_roundg (m / 128)
      case rel =>
        have := ht'.out
        have hv : vlen m = 1 + vlen (m / 128) := by rw [vlen, if_neg hlt]
        exact ⟨m / 128, t + 1, rfl, rfl, rfl, Nat.le_trans (Nat.div_le_self _ _) hm, by omega, rfl⟩
      case measure =>
        have := hg'.out
        omega

/-- The size of an entry's written form. -/
def esize (x : Entry) : Nat := (if x.kind = 0 then 0 else 1 + vlen x.kind.toNat) + (1 + vlen x.term.toNat) + (1 + vlen x.index.toNat) + (if x.data.size = 0 then 0 else 1 + vlen x.data.size + x.data.size)
/-- The numbers of an entry fit. -/
def Entry.wf (x : Entry) : Prop := (0 ≤ x.term ∧ x.term ≤ 18446744073709551615) ∧ (0 ≤ x.index ∧ x.index ≤ 18446744073709551615) ∧ (0 ≤ x.kind ∧ x.kind ≤ 2147483647) ∧ x.data.size ≤ 2147483647
theorem esize_le (x : Entry) (h : x.wf) : esize x ≤ 44 + x.data.size := by
  obtain ⟨⟨a1, a2⟩, ⟨b1, b2⟩, ⟨c1, c2⟩, d⟩ := h
  have h1 := vlen_ten x.term.toNat (by omega)
  have h2 := vlen_ten x.index.toNat (by omega)
  have h3 := vlen_ten x.kind.toNat (by omega)
  have h4 := vlen_ten x.data.size (by omega)
  unfold esize
  split <;> split <;> omega

theorem BytesR.nil {w : World} {v : Value} {s : ByteArray} (h : BytesR w v s) (hz : s.size = 0) : v = .slice none 0 0 := by
  unfold BytesR at h
  exact h.2 hz
theorem BytesR.some {w : World} {v : Value} {s : ByteArray} (h : BytesR w v s) (hz : s.size ≠ 0) : ∃ a c, v = .slice (some a) s.size c := by
  unfold BytesR at h
  obtain ⟨⟨A, c, h1, h2, h3, h4, h5⟩, _⟩ := h
  cases A with
  | some a => exact ⟨a, c, h1⟩
  | none =>
    exfalso
    have h6 := h5.row.ne_none
    rw [h6] at h4
    simp at h4
    exact hz h4.symm

set_option maxRecDepth 100000 in
set_option maxHeartbeats 1000000 in
theorem ZzSize_c (v : Value) (x : Entry) (w : World) (h : EntryP w v x) (hx : x.wf) : Calls Try.prog 30 #[v] w fun e w' => e = .returned (.int .i64 (esize x)) ∧ Ext w w' := by
  obtain ⟨⟨a1, a2⟩, ⟨b1, b2⟩, ⟨c1, c2⟩, hd⟩ := hx
  obtain ⟨b, v0, v1, v2, v3, rfl, h2, h3, h4, h5, h6⟩ := h
  unfold PtrR at h3 h4
  obtain ⟨p0, rfl, hp0⟩ := h3
  obtain ⟨p1, rfl, hp1⟩ := h4
  have hv1 : (vlen x.term.toNat : Int) ≤ 10 := by have := vlen_ten x.term.toNat (by omega); omega
  have hv2 : (vlen x.index.toNat : Int) ≤ 10 := by have := vlen_ten x.index.toNat (by omega); omega
  have hv3 : (vlen x.kind.toNat : Int) ≤ 10 := by have := vlen_ten x.kind.toNat (by omega); omega
  have hv4 : (vlen x.data.size : Int) ≤ 10 := by have := vlen_ten x.data.size (by omega); omega
  have et : x.term = (x.term.toNat : Int) := by omega
  have ei : x.index = (x.index.toNat : Int) := by omega
  have ek : wrap32 x.kind = (x.kind.toNat : Int) := by unfold wrap32; omega
  have hes : esize x = (if x.kind = 0 then 0 else 1 + vlen x.kind.toNat) + (1 + vlen x.term.toNat) + (1 + vlen x.index.toNat) + (if x.data.size = 0 then 0 else 1 + vlen x.data.size + x.data.size) := rfl
  generalize hnt : x.term.toNat = nt at *
  generalize hni : x.index.toNat = ni at *
  rw [et] at hp0
  rw [ei] at hp1
  have k0 := hp0.cell 0
  have k1 := hp1.cell 0
  have c2' := h2.cell 2
  have c0 := h2.cell 0
  have c1' := h2.cell 1
  have c3 := h2.cell 3
  simp at k0 k1 c2' c0 c1' c3
  have hes' := Lib.hid hes
  have hnt0 : (nt : Int) ≤ 18446744073709551615 := by omega
  have hni0 : (ni : Int) ≤ 18446744073709551615 := by omega
  clear et ei hp0 hp1 h2 hes hnt hni
  have hkk : ((wrap32 x.kind : Int) = (x.kind.toNat : Int)) := ek
  generalize hnk : x.kind.toNat = nk at *
  have hnk0 : (nk : Int) ≤ 2147483647 := by omega
  rcases h5 with ⟨hk0, rfl⟩ | ⟨hk0, h5⟩
  · by_cases hz : x.data.size = 0
    · obtain rfl := h6.nil hz
      have hcmp := fun W => run_neq_slice_nil_any (P := Try.prog) W 59 5 none 0 0 0 0 Try.underlying59
      go_enter Try.func30, Try.ntmps30
      go_wp2_with (go_at_call 35; refine (zzVarint_c _ (by omega) _).mono ?_; rintro e w1 ⟨rfl, rfl⟩)
      go_ret
      refine ⟨?_, Ext.refl _⟩
      rw [hes'.out, if_pos hk0, if_pos hz]
      exact congrArg (fun z => Ending.returned (Value.int .i64 z)) (by omega)
    · obtain ⟨a, c, rfl⟩ := h6.some hz
      have hcmp := fun W => run_neq_slice_nil_any (P := Try.prog) W 59 5 (some a) x.data.size c 0 0 Try.underlying59
      simp only [Option.isNone_some, Bool.not_false] at hcmp
      have hz0 : (0 : Int) < (x.data.size : Int) := by omega
      go_enter Try.func30, Try.ntmps30
      go_wp2_with (go_at_call 35; refine (zzVarint_c _ (by omega) _).mono ?_; rintro e w1 ⟨rfl, rfl⟩)
      go_quiet ((go_at_call 35; exact Calls.quiet_of_same (zzVarint_c _ (by omega) _)))
      go_wp2
      go_ret
      refine ⟨?_, (Ext.refl _).drewN _⟩
      rw [hes'.out, if_pos hk0, if_neg hz]
      exact congrArg (fun z => Ending.returned (Value.int .i64 z)) (by omega)
  · unfold PtrR at h5
    obtain ⟨p2, rfl, hp2⟩ := h5
    rw [ek] at hp2
    have k2 := hp2.cell 0
    simp at k2
    clear hp2 hkk ek
    by_cases hz : x.data.size = 0
    · obtain rfl := h6.nil hz
      have hcmp := fun W => run_neq_slice_nil_any (P := Try.prog) W 59 5 none 0 0 0 0 Try.underlying59
      go_enter Try.func30, Try.ntmps30
      go_wp2_with (go_at_call 35; refine (zzVarint_c _ (by omega) _).mono ?_; rintro e w1 ⟨rfl, rfl⟩)
      go_ret
      refine ⟨?_, Ext.refl _⟩
      rw [hes'.out, if_neg hk0, if_pos hz]
      exact congrArg (fun z => Ending.returned (Value.int .i64 z)) (by omega)
    · obtain ⟨a, c, rfl⟩ := h6.some hz
      have hcmp := fun W => run_neq_slice_nil_any (P := Try.prog) W 59 5 (some a) x.data.size c 0 0 Try.underlying59
      simp only [Option.isNone_some, Bool.not_false] at hcmp
      have hz0 : (0 : Int) < (x.data.size : Int) := by omega
      go_enter Try.func30, Try.ntmps30
      go_wp2_with (go_at_call 35; refine (zzVarint_c _ (by omega) _).mono ?_; rintro e w1 ⟨rfl, rfl⟩)
      go_quiet ((go_at_call 35; exact Calls.quiet_of_same (zzVarint_c _ (by omega) _)))
      go_wp2
      go_ret
      refine ⟨?_, (Ext.refl _).drewN _⟩
      rw [hes'.out, if_neg hk0, if_neg hz]
      exact congrArg (fun z => Ending.returned (Value.int .i64 z)) (by omega)

end Go.Proofs.Ytlpkdfjelpbokaa
