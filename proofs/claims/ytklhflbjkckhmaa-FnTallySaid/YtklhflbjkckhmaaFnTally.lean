/- FnTally, the statement: it follows from the walk (TallyAll), whose conditions hold of every input that reads as data. -/
import Derived.Test.YtklhflbjkckhmaaTallyAll
import Derived.Test.YtklhflbjkckhmaaOpen
import Derived.Test.YtklhflbjkckhmaaOpenList
import Derived.Test.YtklhflbjkckhmaaOpenNums
import Derived.Test.YtklhflbjkckhmaaOpenBallots
import Derived.Test.YtklhflbjkckhmaaOpenConf4
namespace Go.Proofs.Ytklhflbjkckhmaa.fnTally
open Go.ChangeShapes Go.WideShapes Go.ChangeAt Go.RowKit
set_option linter.unusedVariables false

theorem own : ownKnob Try.prog.godebug = none := by kernel_rfl
theorem laid : laidOutB Try.prog = true := by kernel_rfl
theorem pars : ∀ t ∈ Try.f5.params.toList, Try.prog.readableRec t = true ∧ t < Try.prog.types.size := by
  rw [Try.params5]
  intro t ht
  simp only [List.mem_cons, List.not_mem_nil, or_false] at ht
  rcases ht with rfl | rfl | rfl
  all_goals exact ⟨by kernel_rfl, of_decide_eq_true (by kernel_rfl)⟩

set_option maxRecDepth 100000 in
set_option maxHeartbeats 1000000 in
theorem lifted (os : Os) (started : os.Started) (H : Type) (enc : TypeId × Value → H) :
    ReturnsInHanded {} Try.checked os 5 .any (Rows.fnTallySpec.pre6 enc Try.prog Try.f5 Rows.fnTallyRow.domain false) (Rows.fnTallySpec.post enc Try.prog Try.f5 false true false false) := by
  refine returnsInHanded_of_change (C := Try.checked) own started (by kernel_rfl) Try.func5
    (ChangeSpec.witness6 (enc := enc) (C := Try.checked) false ⟨#[], #[.agg #[.slice none 0 0, .slice none 0 0, .slice none 0 0, .slice none 0 0, .bool false], .slice none 0 0, .slice none 0 0], []⟩ 16 (by kernel_rfl) (by kernel_rfl) (by kernel_rfl) (by kernel_rfl)) ?_
  intro W base args ds gs before hval0 hW hcnd _
  have hval : ∀ (j : Nat) t v, Try.f5.params[j]? = some t → args[j]? = some v → Value.okWide Try.prog W .any base t v := hval0
  have hW' := hW
  obtain ⟨p, q, hA0, hV, hps, hfz, hnd⟩ := hW
  have hA : DataW.TrodAll enc Try.prog W 0 (fun _ => true) true Try.f5.params.toList args.toList ds p := hA0
  rw [Try.params5] at hA hval
  obtain ⟨v0, vs0, d0, ds0, p0, q0, hargs, rfl, rfl, h0, r0⟩ := trodAll_cons hA
  obtain ⟨v1, vs1, d1, ds1, p1, q1, rfl, rfl, rfl, h1, r1⟩ := trodAll_cons r0
  obtain ⟨v2, vs2, d2, ds2, p2, q2, rfl, rfl, rfl, h2, r2⟩ := trodAll_cons r1
  obtain ⟨rfl, rfl, rfl⟩ := trodAll_nil r2
  obtain rfl : args = #[v0, v1, v2] := by cases args; simp_all
  have k0 : Rd Try.prog W 33 v0.cells.toList := ⟨_, _, _, _, _, _, _, h0.choose_spec⟩
  have o0 := hval 0 33 v0 rfl rfl
  have k1 : Rd Try.prog W 34 v1.cells.toList := ⟨_, _, _, _, _, _, _, h1.choose_spec⟩
  have o1 := hval 1 34 v1 rfl rfl
  have k2 : Rd Try.prog W 23 v2.cells.toList := ⟨_, _, _, _, _, _, _, h2.choose_spec⟩
  have o2 := hval 2 23 v2 rfl rfl
  clear hA0 hval0 hval hcnd hfz hnd hps hV
  obtain ⟨l, rfl, g⟩ := arg_struct Try.underlying33 o0 k0
  obtain ⟨A, B, C, D, ca, cb, cc, cd, x, rfl, hx, hu1, hu2, hu3, hu4⟩ := open_conf4 g
  obtain ⟨a1, n1, c1, rfl, g1⟩ := arg_slice Try.underlying34 o1 k1
  obtain ⟨ts, hts, htu⟩ := open_trks g1
  obtain ⟨a2, n2, c2, rfl, g2⟩ := arg_slice Try.underlying23 o2 k2
  obtain ⟨bs, hbs, hbu⟩ := open_ballots g2
  refine (fnTally_walk A B C D ca cb cc cd _ _ x ts bs W hx hts hbs hu1 hu2 hu3 hu4 htu hbu).mono fun e W' ⟨he, hg⟩ => ?_
  subst he
  exact ⟨_, rfl, law_post laid pars rfl Try.underlying4 rfl ⟨rfl, rfl, rfl⟩ hW' hg⟩

theorem over : Rows.fnTallyRow.holds Try.pinned (OpenSpec.ofChange Rows.fnTallySpec) :=
  OpenClaim.holds_of_wide 5 Try.f5 rfl rfl rfl rfl rfl rfl rfl ⟨rfl, rfl, rfl, rfl, rfl⟩ rfl rfl rfl rfl rfl (by kernel_rfl) Try.func5 (by kernel_rfl)
    (of_decide_eq_true (by kernel_rfl)) (by unfold Func.isWrapper; first | (rw [if_pos (by decide +kernel)]; kernel_rfl) | (rw [if_neg (by decide +kernel)]; exact ⟨rfl, rfl⟩))
    (fun os started H enc _ => lifted os started H enc)

/-- The statement. -/
theorem proved : Rows.FnTallySaid := over
#print axioms proved
end Go.Proofs.Ytklhflbjkckhmaa.fnTally
