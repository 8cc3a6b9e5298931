/- What is read of an entry of the package. -/
import Derived.Test.YtlpkdfjelpbokaaEntry
namespace Go.Proofs.Ytlpkdfjelpbokaa
open Go.ChangeShapes Go.WideShapes Go.ChangeAt Go.RowKit
set_option linter.unusedSimpArgs false
set_option linter.unusedVariables false

theorem bGetTerm_c (b : Nat) (cs : Array Value) (v x : Value) (w : World) (hb : Blk w b 63 cs) (hi : cs[0]? = some v) (hp : PtrR w v 25 x) :
    Calls Try.prog 33 #[.pointer (some ⟨b, 0, none⟩)] w fun e w' => e = .returned x ∧ w = w' := by
  unfold PtrR at hp
  obtain ⟨b1, rfl, hb1⟩ := hp
  have c1 := (hb.cell 0).trans hi
  have c2 := hb1.cell 0
  simp at c2
  clear hb hb1 hi
  go_enter Try.func33, Try.ntmps33
  go_wp2
  go_ret
  exact ⟨rfl, rfl⟩

theorem bGetIndex_c (b : Nat) (cs : Array Value) (v x : Value) (w : World) (hb : Blk w b 63 cs) (hi : cs[1]? = some v) (hp : PtrR w v 25 x) :
    Calls Try.prog 34 #[.pointer (some ⟨b, 0, none⟩)] w fun e w' => e = .returned x ∧ w = w' := by
  unfold PtrR at hp
  obtain ⟨b1, rfl, hb1⟩ := hp
  have c1 := (hb.cell 1).trans hi
  have c2 := hb1.cell 0
  simp at c2
  clear hb hb1 hi
  go_enter Try.func34, Try.ntmps34
  go_wp2
  go_ret
  exact ⟨rfl, rfl⟩

theorem bGetData_c (b : Nat) (cs : Array Value) (v : Value) (w : World) (hb : Blk w b 63 cs) (hi : cs[3]? = some v) :
    Calls Try.prog 32 #[.pointer (some ⟨b, 0, none⟩)] w fun e w' => e = .returned v ∧ w = w' := by
  have c1 := (hb.cell 3).trans hi
  clear hb hi
  go_enter Try.func32, Try.ntmps32
  go_wp2
  go_ret
  exact ⟨rfl, rfl⟩

theorem GetTerm_c (v : Value) (x : Entry) (w : World) (h : EntryP w v x) : Calls Try.prog 33 #[v] w fun e w' => e = .returned (.int .u64 x.term) ∧ w = w' := by
  obtain ⟨b, v0, v1, v2, v3, rfl, h2, h3, h4, h5, h6⟩ := h
  exact bGetTerm_c b _ v0 _ w h2 rfl h3
theorem GetIndex_c (v : Value) (x : Entry) (w : World) (h : EntryP w v x) : Calls Try.prog 34 #[v] w fun e w' => e = .returned (.int .u64 x.index) ∧ w = w' := by
  obtain ⟨b, v0, v1, v2, v3, rfl, h2, h3, h4, h5, h6⟩ := h
  exact bGetIndex_c b _ v1 _ w h2 rfl h4
theorem GetData_c (v : Value) (x : Entry) (w : World) (h : EntryP w v x) : Calls Try.prog 32 #[v] w fun e w' => ∃ u, e = .returned u ∧ BytesR w u x.data ∧ w = w' := by
  obtain ⟨b, v0, v1, v2, v3, rfl, h2, h3, h4, h5, h6⟩ := h
  refine (bGetData_c b _ v3 w h2 rfl).mono ?_
  rintro e w' ⟨rfl, rfl⟩
  exact ⟨_, rfl, h6, rfl⟩
/-- One entry of a slice of pointers. -/
theorem EntriesP.elem {w : World} {A : Option Addr} {n c : Nat} {es : List Entry} (h : EntriesP w (.slice A n c) es) {k : Nat} (hk : k < es.length) :
    ∃ b o v, A = some ⟨b, o, none⟩ ∧ w.cell? ⟨b, o + k, none⟩ = some v ∧ EntryP w v es[k] := by
  obtain ⟨vs, ⟨A', c', e1, h1, h2, h3, h4⟩, h5⟩ := h
  injection e1 with e1 e2 e3
  subst e1
  obtain ⟨v, hv, hx⟩ := h5.at_ hk
  obtain ⟨b, o, hA, hc⟩ := h4.row k v hv
  exact ⟨b, o, v, hA, hc, hx⟩

end Go.Proofs.Ytlpkdfjelpbokaa
