/- FnFlightsBytes, the statement: it follows from the walk (FlightsBytes), whose conditions hold of every input that reads as data. -/
import Derived.Test.YtfoffejgpalmpaaFlightsBytes
import Derived.Test.YtfoffejgpalmpaaOpen
import Derived.Test.YtfoffejgpalmpaaOpenList
import Derived.Test.YtfoffejgpalmpaaOpenU32
namespace Go.Proofs.Ytfoffejgpalmpaa.fnFlightsBytes
open Go.ChangeShapes Go.WideShapes Go.ChangeAt Go.RowKit
set_option linter.unusedVariables false

theorem own : ownKnob Try.prog.godebug = none := by kernel_rfl
theorem laid : laidOutB Try.prog = true := by kernel_rfl
theorem pars : ∀ t ∈ Try.f4.params.toList, Try.prog.readableRec t = true ∧ t < Try.prog.types.size := by
  rw [Try.params4]
  intro t ht
  simp only [List.mem_cons, List.not_mem_nil, or_false] at ht
  rcases ht with rfl | rfl
  all_goals exact ⟨by kernel_rfl, of_decide_eq_true (by kernel_rfl)⟩

set_option maxRecDepth 100000 in
set_option maxHeartbeats 1000000 in
theorem lifted (os : Os) (started : os.Started) (H : Type) (enc : TypeId × Value → H) :
    ReturnsInHanded {} Try.checked os 4 .any (Rows.fnFlightsBytesSpec.pre6 enc Try.prog Try.f4 Rows.fnFlightsBytesRow.domain false) (Rows.fnFlightsBytesSpec.post enc Try.prog Try.f4 false true false false) := by
  refine returnsInHanded_of_change (C := Try.checked) own started (by kernel_rfl) Try.func4
    (ChangeSpec.witness6 (enc := enc) (C := Try.checked) false ⟨#[], #[.int .u64 0, .slice none 0 0], []⟩ 16 (by kernel_rfl) (by kernel_rfl) (by kernel_rfl) (by kernel_rfl)) ?_
  intro W base args ds gs before hval0 hW hcnd _
  have hval : ∀ (j : Nat) t v, Try.f4.params[j]? = some t → args[j]? = some v → Value.okWide Try.prog W .any base t v := hval0
  have hW' := hW
  obtain ⟨p, q, hA0, hV, hps, hfz, hnd⟩ := hW
  have hA : DataW.TrodAll enc Try.prog W 0 (fun _ => true) true Try.f4.params.toList args.toList ds p := hA0
  rw [Try.params4] at hA hval
  obtain ⟨v0, vs0, d0, ds0, p0, q0, hargs, rfl, rfl, h0, r0⟩ := trodAll_cons hA
  obtain ⟨v1, vs1, d1, ds1, p1, q1, rfl, rfl, rfl, h1, r1⟩ := trodAll_cons r0
  obtain ⟨rfl, rfl, rfl⟩ := trodAll_nil r1
  obtain rfl : args = #[v0, v1] := by cases args; simp_all
  have k0 : Rd Try.prog W 22 v0.cells.toList := ⟨_, _, _, _, _, _, _, h0.choose_spec⟩
  have o0 := hval 0 22 v0 rfl rfl
  have k1 : Rd Try.prog W 33 v1.cells.toList := ⟨_, _, _, _, _, _, _, h1.choose_spec⟩
  have o1 := hval 1 33 v1 rfl rfl
  clear hA0 hval0 hval hcnd hfz hnd hps hV
  obtain ⟨max, rfl, wn⟩ := arg_int Try.underlying22 o0 k0
  obtain ⟨a, n, c, rfl, g⟩ := arg_slice Try.underlying33 o1 k1
  obtain ⟨es, hes, hei⟩ := open_u32s g
  refine (fnFlightsBytes_walk max (u64_bd wn) _ es hei W hes).mono fun e W' ⟨he, hg⟩ => ?_
  subst he
  exact ⟨_, rfl, law_post laid pars rfl Try.underlying4 rfl ⟨rfl, rfl, rfl⟩ hW' hg⟩

theorem over : Rows.fnFlightsBytesRow.holds Try.pinned (OpenSpec.ofChange Rows.fnFlightsBytesSpec) :=
  OpenClaim.holds_of_wide 4 Try.f4 rfl rfl rfl rfl rfl rfl rfl ⟨rfl, rfl, rfl, rfl, rfl⟩ rfl rfl rfl rfl rfl (by kernel_rfl) Try.func4 (by kernel_rfl)
    (of_decide_eq_true (by kernel_rfl)) (by unfold Func.isWrapper; first | (rw [if_pos (by decide +kernel)]; kernel_rfl) | (rw [if_neg (by decide +kernel)]; exact ⟨rfl, rfl⟩))
    (fun os started H enc _ => lifted os started H enc)

/-- The statement. -/
theorem proved : Rows.FnFlightsBytesSaid := over
#print axioms proved
end Go.Proofs.Ytfoffejgpalmpaa.fnFlightsBytes
