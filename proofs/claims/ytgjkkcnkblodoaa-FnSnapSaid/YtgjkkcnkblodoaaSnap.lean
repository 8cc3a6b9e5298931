/- The law FnSnap: the walk. -/
import Derived.Test.YtgjkkcnkblodoaaConf
import Derived.Test.YtgjkkcnkblodoaaOpenConf
namespace Go.Proofs.Ytgjkkcnkblodoaa
open Go.ChangeShapes Go.WideShapes Go.ChangeAt Go.RowKit

theorem IsEmptySnap_c (v : Value) (s : Snap) (w : World) (h : SnapP w v s) : Calls Try.prog 25 #[v] w fun e w' => e = .returned (.bool (s.index == 0)) ∧ w = w' := by
  go_enter Try.func25, Try.ntmps25
  go_wp2_with (first
    | (go_at_call 37; refine (GetMetadata_c _ _ _ h).mono ?_; rintro e w' ⟨m, rfl, hm, rfl⟩)
    | (go_at_call 38; refine (metaIndex_c _ _ _ hm).mono ?_; rintro e w' ⟨rfl, rfl⟩))
  go_ret
  exact ⟨rfl, rfl⟩

set_option maxRecDepth 100000 in
theorem EmptySnap_c (cs : List Value) (s : Snap) (w : World) (h : SnapA w cs s) (hf : s.fits) : Calls Try.prog 14 #[.agg cs.toArray] w fun e w' => e = .returned (.bool (s.index == 0)) ∧ Ext w w' := by
  have h' := h
  obtain ⟨cf, rfl, hc⟩ := h
  obtain ⟨v0, v1, v2, v3, rfl, _⟩ := hc
  have Q := Lib.hid (fun W (he : Ext w W) => snapTo_c _ s W (h'.ext he) hf)
  clear h' hf
  go_enter Try.func14, Try.ntmps14
  go_wp2_with (first
    | (go_at_call 26; refine (Q.out _ ((Ext.refl w).alloc _)).mono ?_; rintro e w1 ⟨v, rfl, hv, he⟩)
    | (go_at_call 25; refine (IsEmptySnap_c _ _ _ hv).mono ?_; rintro e w' ⟨rfl, rfl⟩))
  go_ret
  exact ⟨rfl, ((Ext.refl w).alloc _).trans he⟩

theorem zzFits3_c (cs : List Value) (c : Conf) (w : World) (h : ConfA w cs c) : Calls Try.prog 24 #[.agg cs.toArray] w (RetB w fun b => b = true → c.fits) := by
  obtain ⟨v0, v1, v2, v3, rfl, h0, h1, h2, h3⟩ := h
  obtain ⟨A0, c0, rfl⟩ := h0.shape
  obtain ⟨A1, c1, rfl⟩ := h1.shape
  obtain ⟨A2, c2, rfl⟩ := h2.shape
  obtain ⟨A3, c3, rfl⟩ := h3.shape
  clear h0 h1 h2 h3
  go_enter Try.func24, Try.ntmps24
  go_wp2
  all_goals go_ret
  all_goals refine ⟨_, rfl, ?_, (Ext.refl w).alloc _⟩
  all_goals first | (intro h; exact absurd h (by decide)) | (intro _; unfold Conf.fits; omega)

theorem zzFits2_c (cs : List Value) (s : Snap) (w : World) (h : SnapA w cs s) : Calls Try.prog 12 #[.agg cs.toArray] w (RetB w fun b => b = true → s.fits) := by
  obtain ⟨cf, rfl, hc⟩ := h
  have hc' := hc
  obtain ⟨v0, v1, v2, v3, rfl, _⟩ := hc
  have Q := Lib.hid (fun W (he : Ext w W) => zzFits3_c _ s.conf W (hc'.ext he))
  clear hc'
  go_enter Try.func12, Try.ntmps12
  go_wp2_with (go_at_call 24; refine (Q.out _ ((Ext.refl w).alloc _)).mono ?_; rintro e w1 ⟨b, rfl, hb, he⟩; have hb' := Lib.hid hb; clear hb)
  all_goals go_ret
  · exact ⟨_, rfl, fun h => absurd h (by decide), (Ext.refl w).alloc _⟩
  · exact ⟨_, rfl, fun h => absurd h (by decide), ((Ext.refl w).alloc _).trans he⟩
  · refine ⟨_, rfl, fun _ => ⟨by omega, hb'.out (by simp_all)⟩, ((Ext.refl w).alloc _).trans he⟩

theorem fewConf_c (cs : List Value) (c : Conf) (w : World) (h : ConfA w cs c) : Calls Try.prog 13 #[.agg cs.toArray] w (RetB w fun _ => True) := by
  obtain ⟨v0, v1, v2, v3, rfl, h0, h1, h2, h3⟩ := h
  obtain ⟨A0, c0, rfl⟩ := h0.shape
  obtain ⟨A1, c1, rfl⟩ := h1.shape
  obtain ⟨A2, c2, rfl⟩ := h2.shape
  obtain ⟨A3, c3, rfl⟩ := h3.shape
  clear h0 h1 h2 h3
  go_enter Try.func13, Try.ntmps13
  go_wp2
  all_goals go_ret
  all_goals exact ⟨_, rfl, trivial, (Ext.refl w).alloc _⟩

theorem zeroConf (w : World) : ConfA w [.slice none 0 0, .slice none 0 0, .slice none 0 0, .slice none 0 0, .bool false] ⟨[], [], [], [], false⟩ := by
  have h : NumsR w (.slice none 0 0) [] := by
    unfold NumsR
    exact ⟨none, 0, rfl, Nat.le_refl _, by simp [maxLen], rfl, RowR.nil _ _⟩
  exact ⟨_, _, _, _, rfl, h, h, h, h⟩
theorem zeroSnap (w : World) : SnapA w [.string .empty, .int .u64 0, .int .u64 0, .slice none 0 0, .slice none 0 0, .slice none 0 0, .slice none 0 0, .bool false] ⟨.empty, 0, 0, ⟨[], [], [], [], false⟩⟩ :=
  ⟨_, rfl, zeroConf w⟩
theorem zeroFits : Snap.fits ⟨.empty, 0, 0, ⟨[], [], [], [], false⟩⟩ := ⟨by simp, by simp [Conf.fits]⟩

set_option maxRecDepth 100000 in
set_option maxHeartbeats 1000000 in
theorem fnSnap_walk (cs : List Value) (s : Snap) (w : World) (h : SnapA w cs s) : Calls Try.prog 6 #[.agg cs.toArray] w (Yes w) := by
  have Q2 := Lib.hid (fun W (he : Ext w W) => zzFits2_c cs s W (h.ext he))
  have QE := Lib.hid (fun W (he : Ext w W) => EmptySnap_c cs s W (h.ext he))
  have QZ := Lib.hid (fun W => EmptySnap_c _ _ W (zeroSnap W) zeroFits)
  obtain ⟨cf, rfl, hc⟩ := h
  have QF := Lib.hid (fun W (he : Ext w W) => fewConf_c cf s.conf W (hc.ext he))
  obtain ⟨v0, v1, v2, v3, rfl, _⟩ := hc
  go_enter Try.func6, Try.ntmps6
  go_wp2_with (first
    | (go_at_call 12; refine (Q2.out _ ((Ext.refl w).alloc _)).mono ?_; rintro e w1 ⟨b, rfl, hb, he⟩; have hb' := Lib.hid hb; clear hb; obtain ⟨hcell, hfroz⟩ := he.rules)
    | (go_at_call 13; refine (QF.out _ (((Ext.refl w).alloc _).trans he)).mono ?_; rintro e w2 ⟨b2, rfl, _, he2⟩; have hE := he.trans he2; clear hcell hfroz; obtain ⟨hcell, hfroz⟩ := hE.rules))
  · go_ret
    exact ⟨rfl, ((Ext.refl w).alloc _).trans he⟩
  · go_ret
    exact ⟨rfl, (((Ext.refl w).alloc _).trans he).trans he2⟩
  · have hbt : b = true := by simp_all
    have hfit := Lib.hid (hb'.out hbt)
    refine (QZ.out _).mono ?_
    rintro e w3 ⟨rfl, he3⟩
    have hE3 := hE.trans he3
    clear hcell hfroz
    obtain ⟨hcell, hfroz⟩ := hE3.rules
    rcases Decidable.em (s.index = 0) with h0 | h0
    · have h1 : (s.index == 0) = true := by simpa using h0
      have h0' := Lib.hid h0
      clear h0
      go_wp2
      all_goals go_ret
      all_goals exact ⟨rfl, ((Ext.refl w).alloc _).trans hE3⟩
    · have h1 : (s.index == 0) = false := by simpa using h0
      have h0' := Lib.hid h0
      clear h0
      go_wp2_with (go_at_call 14; refine (QE.out _ ((((Ext.refl w).alloc _).trans he).trans (he2.trans he3)) hfit.out).mono ?_; rintro e w4 ⟨rfl, he4⟩)
      all_goals go_ret
      all_goals exact ⟨rfl, (((Ext.refl w).alloc _).trans hE3).trans he4⟩

end Go.Proofs.Ytgjkkcnkblodoaa
