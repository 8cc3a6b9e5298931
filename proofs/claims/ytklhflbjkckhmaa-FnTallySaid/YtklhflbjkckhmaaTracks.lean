/- spec.Tracks: of each node with progress its last one, rising. -/
import Derived.Test.YtklhflbjkckhmaaTallyImpl
namespace Go.Proofs.Ytklhflbjkckhmaa
open Go.ChangeShapes Go.WideShapes Go.ChangeAt Go.RowKit
set_option linter.unusedSimpArgs false
set_option linter.unusedVariables false

def zeroT : Trk := ⟨0, 0, 0, false, false⟩
def lastD (ts : List Trk) (k : Int) : Trk := (lastT ts k).getD zeroT
theorem lastD_snoc (ts : List Trk) (x : Trk) (k : Int) : lastD (ts ++ [x]) k = if x.id = k then x else lastD ts k := by
  unfold lastD
  rw [lastT_snoc]
  split <;> rfl
theorem info_trkv : (Try.prog.info? 39).map (fun i => (i.zero, i.size, i.bytes)) = some (some (.agg #[.int .u64 0, .int .u64 0, .int .u64 0, .bool false, .bool false]), 5, 32) := by kernel_rfl
theorem info_trk5 : (Try.prog.info? 39).map (·.size) = some 5 := by kernel_rfl
theorem info_u64v : (Try.prog.info? 27).map (fun i => (i.zero, i.size, i.bytes)) = some (some (.int .u64 0), 1, 8) := by kernel_rfl
def TrksR (w : World) (v : Value) (xs : List Trk) : Prop := ∃ A c, v = .slice A xs.length c ∧ RowR w A (xs.flatMap trkCells)

theorem nums_of_own {w : World} {base c : Nat} {A : Option Addr} {ts : List Trk} (h : w.ownsRow base 27 1 (.slice A ts.length c) ts.length (ts.map fun x => Value.int .u64 x.id)) : NumsR w (.slice A ts.length c) (ts.map (·.id)) := by
  have h2 := SliceT.slice (SliceT.of_own h)
  unfold NumsR
  have e1 : (ts.map (·.id)).length = ts.length := List.length_map _
  have e2 : (ts.map (·.id)).map (Value.int .u64) = ts.map fun x => Value.int .u64 x.id := by rw [List.map_map]; rfl
  rw [e1, e2]
  exact h2

set_option maxRecDepth 100000 in
set_option maxHeartbeats 4000000 in
theorem specTracks_c (A : Option Addr) (c : Nat) (ts : List Trk) (w : World) (ht : RowR w A (ts.flatMap trkCells)) (hn : ts.length ≤ 1000000) :
    Calls Try.prog 16 #[.slice A ts.length c] w (RetV w fun v w' => ∃ l, IsSet l (ts.map (·.id)) ∧ TrksR w' v (l.map (lastD ts))) := by
  have ht' := Lib.hid ht
  clear ht
  go_enter Try.func16, Try.ntmps16
  go_wp2
  go_loopg [3, 14] ts.length (fun g v i wr => ∃ (k : Nat) (A1 : Option Addr) (c1 : Nat), g = ts.length - k ∧ k ≤ ts.length ∧ i = .int .i64 k ∧ v = .slice A1 k c1 ∧ wr.ownsRow w.heap.size 27 1 (.slice A1 k c1) k ((ts.take k).map fun x => Value.int .u64 x.id) ∧ Ext w wr)
  case atStart => exact ⟨0, none, 0, rfl, by omega, rfl, rfl, World.ownsRow_nil _ _ _ _, Ext.refl _⟩
  case round =>
    obtain ⟨k, A1, c1, hg, hk, rfl, rfl, hown, he⟩ := hrel
    have hg' := Lib.hid hg
    have hown' := Lib.hid hown
    clear hg hown
    by_cases hlt : k < ts.length
    · obtain ⟨bb, o, rfl, hel⟩ := ht'.out.elem trkCells_len (by omega) hlt
      have htk := Lib.hid (show ts.take (k + 1) = ts.take k ++ [ts[k]] by rw [List.take_add_one, List.getElem?_eq_getElem hlt]; rfl)
      generalize ts[k] = y at hel htk
      have e0 := he.cellE (hel 0 _ rfl)
      have e1 := he.cellE (hel 1 _ rfl)
      have e2 := he.cellE (hel 2 _ rfl)
      have e3 := he.cellE (hel 3 _ rfl)
      have e4 := he.cellE (hel 4 _ rfl)
      simp only [Nat.add_zero] at e0
      have hltI : (k : Int) < (ts.length : Int) := by omega
      have eA := Lib.hid ((Ext.refl wr).alloc (.cells #[.int .u64 y.id, .int .u64 y.mat, .int .u64 y.next, .bool y.learner, .bool y.active] 39))
      clear hel
      go_wp2_with (at_builtin; refine wpList_append_one (wr.alloc (.cells #[.int .u64 y.id, .int .u64 y.mat, .int .u64 y.next, .bool y.learner, .bool y.active] 39)) rfl _ _ _ rfl w.heap.size 27 (.int .u64 0) 1 8 Try.underlying22 info_u64v rfl (by omega) (by omega) A1 k c1 _ rfl #[.int .u64 y.id] rfl rfl (by rw [show (wr.alloc (.cells #[.int .u64 y.id, .int .u64 y.mat, .int .u64 y.next, .bool y.learner, .bool y.active] 39)).heap.size = wr.heap.size + 1 by simp]; rfl) (ownsRow_ext hown'.out eA.out) (by omega) (he.trans eA.out).size_le ?_; intro A2 c2 w2 ho hT hE)
      go_roundg (ts.length - (k + 1))
      case rel =>
        refine ⟨k + 1, A2, c2, rfl, by omega, by go_num, rfl, ?_, hE w (Nat.le_refl _) (he.trans eA.out)⟩
        rw [htk.out, List.map_append]
        exact ho
      case measure =>
        have := hg'.out
        omega
    · have hkk : k = ts.length := by omega
      subst hkk
      have hids := hown'.out
      rw [List.take_of_length_le (Nat.le_refl _)] at hids
      have hnums := nums_of_own hids
      have QS := Lib.hid (specSet_c _ _ wr hnums (by rw [List.length_map]; omega))
      clear hids hnums
      go_wp2_with (go_at_call 23; refine QS.out.mono ?_; rintro e w1 ⟨v, rfl, ⟨l, hl, hset⟩, he1⟩; obtain ⟨A5, c5, rfl⟩ := hl.shape; have hl' := Lib.hid hl; have hset' := Lib.hid hset; clear hl hset)
      have hll : l.length ≤ 1000000 := by
        have := hset'.out.len
        rw [List.length_map] at this
        omega
      have hE1 : Ext w w1 := he.trans he1
      go_loopg [6, 27] l.length (fun g v i wr2 => ∃ (k : Nat) (A1 : Option Addr) (c1 : Nat), g = l.length - k ∧ k ≤ l.length ∧ i = .int .i64 k ∧ v = .slice A1 k c1 ∧ wr2.ownsRow w1.heap.size 39 5 (.slice A1 k c1) k (((l.take k).map (lastD ts)).flatMap trkCells) ∧ Ext w1 wr2)
      case atStart => exact ⟨0, none, 0, rfl, by omega, rfl, rfl, World.ownsRow_nil _ _ _ _, Ext.refl _⟩
      case round =>
        obtain ⟨i, A6, c6, hg2, hi, rfl, rfl, hown2, he2⟩ := hrel
        rename World => wo
        have hg2' := Lib.hid hg2
        have hown2' := Lib.hid hown2
        clear hg2 hown2
        by_cases hil : i < l.length
        · have hrow := hl'.out.nums
          unfold NumsR at hrow
          obtain ⟨A7, c7, e7, k1, k2, k3, hrow⟩ := hrow
          injection e7 with j1 j2 j3
          clear k1 k2 k3 j2 j3
          subst j1
          obtain ⟨bb, o, rfl, hc⟩ := hrow.at_ (i := i) (by simpa using hil)
          simp only [List.getElem_map] at hc
          have hc' := he2.cellE hc
          have hlk := Lib.hid (show l.take (i + 1) = l.take i ++ [l[i]] by rw [List.take_add_one, List.getElem?_eq_getElem hil]; rfl)
          generalize l[i] = y at hc' hlk
          have hilI : (i : Int) < (l.length : Int) := by omega
          clear hc hrow
          have hbA : A6.map (·.block) = A6.map (·.block) := rfl
          go_wp2_with fail
          have hB9 := Blk.new wo 39 (trkCells zeroT).toArray
          have hE9 : Ext wo (wo.alloc (.cells (trkCells zeroT).toArray 39)) := (Ext.refl wo).alloc _
          have hB9' := Lib.hid hB9
          clear hB9 hbA
          have hEw : Ext w wo := hE1.trans he2
          go_loopg [33] ts.length (fun g j wi => ∃ (q : Nat), g = ts.length - q ∧ q ≤ ts.length ∧ j = .int .i64 q ∧ Blk wi wo.heap.size 39 (trkCells (lastD (ts.take q) y)).toArray ∧ Ext wo wi)
          case atStart => exact ⟨0, rfl, by omega, rfl, hB9'.out, hE9⟩
          case round =>
            obtain ⟨q, hg3, hq, rfl, hB, he3⟩ := hrel
            have hg3' := Lib.hid hg3
            have hB' := Lib.hid hB
            clear hg3 hB
            by_cases hlt : q < ts.length
            · obtain ⟨bb2, o2, rfl, hel⟩ := ht'.out.elem trkCells_len (by omega) hlt
              have htk := Lib.hid (show ts.take (q + 1) = ts.take q ++ [ts[q]] by rw [List.take_add_one, List.getElem?_eq_getElem hlt]; rfl)
              generalize ts[q] = z at hel htk
              have hE4 := hEw.trans he3
              have e0 := hE4.cellE (hel 0 _ rfl)
              have e1 := hE4.cellE (hel 1 _ rfl)
              have e2 := hE4.cellE (hel 2 _ rfl)
              have e3 := hE4.cellE (hel 3 _ rfl)
              have e4 := hE4.cellE (hel 4 _ rfl)
              simp only [Nat.add_zero] at e0
              have hltI : (q : Int) < (ts.length : Int) := by omega
              have eA := Lib.hid ((Ext.refl wr).alloc (.cells #[.int .u64 z.id, .int .u64 z.mat, .int .u64 z.next, .bool z.learner, .bool z.active] 39))
              clear hel
              by_cases hid : z.id = y
              · subst hid
                go_wp2_with (refine wpList_store_blk rfl _ _ _ rfl wo.heap.size 39 _ (trkCells z).toArray rfl rfl (hB'.out.ext eA.out) rfl info_trk5 rfl ?_; intro w8 hB8 hC8)
                go_roundg (ts.length - (q + 1))
                case rel => exact ⟨q + 1, rfl, by omega, by go_num, by rw [htk.out, lastD_snoc, if_pos rfl]; exact hB8, (he3.trans eA.out).chg_new hC8 (fun j (hj : j = wo.heap.size) => by omega)⟩
                case measure =>
                  have := hg3'.out
                  omega
              · have hidb : (z.id == y) = false := by simpa using hid
                go_wp2_with fail
                go_roundg (ts.length - (q + 1))
                case rel => exact ⟨q + 1, rfl, by omega, by go_num, by rw [htk.out, lastD_snoc, if_neg hid]; exact hB'.out.ext eA.out, he3.trans eA.out⟩
                case measure =>
                  have := hg3'.out
                  omega
            · have hqq : q = ts.length := by omega
              subst hqq
              have hBf := hB'.out
              rw [List.take_of_length_le (Nat.le_refl _)] at hBf
              have hv : lastD ts y = lastD ts y := rfl
              clear hv
              have hcs : (trkCells (lastD ts y)).toArray = #[.int .u64 (lastD ts y).id, .int .u64 (lastD ts y).mat, .int .u64 (lastD ts y).next, .bool (lastD ts y).learner, .bool (lastD ts y).active] := rfl
              rw [hcs] at hBf
              have hy : ((l.take i).map (lastD ts)).flatMap trkCells ++ [.int .u64 (lastD ts y).id, .int .u64 (lastD ts y).mat, .int .u64 (lastD ts y).next, .bool (lastD ts y).learner, .bool (lastD ts y).active] = ((l.take (i + 1)).map (lastD ts)).flatMap trkCells := by
                rw [hlk.out, List.map_append, List.flatMap_append]
                rfl
              have hy' := Lib.hid hy
              generalize lastD ts y = u at hBf hy'
              have f0 := hBf.cell 0
              have f1 := hBf.cell 1
              have f2 := hBf.cell 2
              have f3 := hBf.cell 3
              have f4 := hBf.cell 4
              simp only [List.getElem?_toArray, List.getElem?_cons_zero, List.getElem?_cons_succ] at f0 f1 f2 f3 f4
              clear hBf hcs hy hlt
              go_wp2_with (at_builtin; refine wpList_append_one wr rfl _ _ _ rfl w1.heap.size 39 _ 5 32 Try.underlying34 info_trkv rfl (by omega) (by omega) A6 i c6 _ rfl #[.int .u64 u.id, .int .u64 u.mat, .int .u64 u.next, .bool u.learner, .bool u.active] rfl rfl rfl (ownsRow_ext hown2'.out he3) (by omega) (he2.trans he3).size_le ?_; intro A8 c8 w8 ho hT hE)
              go_roundg (l.length - (i + 1))
              case rel => exact ⟨i + 1, A8, c8, rfl, by omega, by go_num, rfl, by rw [← hy'.out]; exact ho, hE w1 (Nat.le_refl _) (he2.trans he3)⟩
              case measure =>
                have := hg2'.out
                omega
        · have hii : i = l.length := by omega
          subst hii
          have hown3 := Lib.hid hown2'.out
          go_wp2
          go_ret
          have ho := hown3.out
          rw [List.take_of_length_le (Nat.le_refl _)] at ho
          exact ⟨.slice A6 l.length c6, rfl, ⟨l, hset'.out, A6, c6, by rw [List.length_map], RowR.of_own ho⟩, hE1.trans he2⟩

end Go.Proofs.Ytklhflbjkckhmaa
