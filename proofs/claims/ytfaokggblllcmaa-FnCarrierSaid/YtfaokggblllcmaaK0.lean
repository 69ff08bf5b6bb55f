/- PROVED: for every kind of carrier and every list of steps, laws.FnCarrier returns true and leaves its arguments as they were. Conditions: those of the given row (none). -/
import Derived.Test.YtfaokggblllcmaaRows
import Derived.Test.YtfaokggblllcmaaF0
import Derived.Test.YtfaokggblllcmaaE6
import Derived.Deep.DeepHandedRow
import Derived.Deep.DeepWitnessRowRef
import Derived.ProofKit
import Derived.Lib.SmallJoins
set_option linter.unusedVariables false
set_option linter.unusedSimpArgs false
namespace Go.Proofs.Ytfaokggblllcmaa
open Go Go.RowKit Go.ChangeShapes Go.WideShapes Go.ChangeAt Go.Joins

namespace CarrierRow
theorem own : ownKnob Try.prog.godebug = none := by kernel_rfl
theorem laidOut : laidOutB Try.prog = true := by kernel_rfl
theorem reads (os : Os) {H : Type} (enc : TypeId × Value → H) :
    (OpenSpec.ofChange Rows.fnCarrierSpec).preRow enc Try.prog Try.f3 Rows.fnCarrierRow.domain false Rows.fnCarrierRow.laid (((World.settled Try.prog os)).forCall (fun _ _ => 0) ⟨#[], #[.bool false, .slice none 0 0], []⟩).memory #[.bool false, .slice none 0 0] := by
  have hw : (DataW.whole enc Try.prog (((World.settled Try.prog os)).forCall (fun _ _ => 0) ⟨#[], #[.bool false, .slice none 0 0], []⟩).memory Try.f3.params.toList Rows.fnCarrierSpec.vars false #[Value.bool false, Value.slice none 0 0].toList 8).map (fun x => (x.1, x.2.1)) =
      some ([.lit (.bool false), .nil], []) := by kernel_rfl
  obtain ⟨⟨x1, x2, x3⟩, hx, hx1⟩ := Option.map_eq_some_iff.1 hw
  simp only [Prod.mk.injEq] at hx1
  obtain ⟨rfl, rfl⟩ := hx1
  exact OpenSpec.preRow_of_cond 8 hx (by kernel_rfl) (fun k hk => by cases hk) (by kernel_rfl) (laidMet_nil _ _)

set_option maxRecDepth 100000 in
set_option maxHeartbeats 2000000 in
theorem lifted (os : Os) (started : os.Started) (H : Type) (enc : TypeId × Value → H) (F : Stop.Interp) :
    ReturnsInHanded {} Try.checked os 3 .any ((OpenSpec.ofChange Rows.fnCarrierSpec).preRow enc Try.prog Try.f3 Rows.fnCarrierRow.domain false Rows.fnCarrierRow.laid) (((OpenSpec.ofChange Rows.fnCarrierSpec).at F).post enc Try.prog Try.f3 false true false false) := by
  refine returnsInHanded_of_row (C := Try.checked) (s := OpenSpec.ofChange Rows.fnCarrierSpec) own started (by kernel_rfl) Try.func3
    (witness_row_atRef (enc := enc) (C := Try.checked) false (World.settled Try.prog os) #[.bool false, .slice none 0 0] rfl (by kernel_rfl) (by kernel_rfl) (by kernel_rfl) (reads os enc)) ?_
  intro W base args ds gs before hval0 hW _ _ _ hL _ _
  have hval : ∀ (j : Nat) t v, Try.f3.params[j]? = some t → args[j]? = some v → Value.okWide Try.prog W .any base t v := hval0
  have hW' := hW
  obtain ⟨p, q, hA0, hV0, rfl, _, _⟩ := hW
  have hA : DataW.TrodAll enc Try.prog W 0 (fun _ => true) true Try.f3.params.toList args.toList ds p := hA0
  rw [Try.params3] at hA hval
  obtain ⟨v0, v1, d0, d1, p0, p1, rfl, rfl, rfl, h0, h1⟩ := trodAll_two hA
  obtain ⟨rfl, rfl⟩ := trodVars_none hV0
  simp only [List.append_nil] at hW'
  have hlt : ∀ x ∈ p0 ++ p1, x.block < W.heap.size := fun x hx => by simpa using hW'.lt x hx
  have h0k := h0
  have h1k := h1
  obtain ⟨b, rfl, rfl, rfl⟩ := open_bool Try.underlying4 (hval 0 4 v0 rfl rfl) h0
  obtain ⟨st, hst⟩ := open_steps_arg (hval 1 22 v1 rfl rfl) h1
  clear hA0 hV0 hval0
  refine (fnCarrier_any b v1 st W hst).mono ?_
  rintro e W' ⟨rfl, bel⟩
  refine ⟨_, rfl, _, _, _, [], [] ++ p1, [], hW', ?_, ?_, ?_, bel.frame _, fun h => by cases h⟩
  · exact trodAll_mk1 (shut_bool Try.underlying4 _)
  · exact trodAll_mk2 (Below.trod laidOut (by kernel_rfl) (of_decide_eq_true (by kernel_rfl)) h0k bel (fun x hx => by cases hx)) (Below.trod laidOut (by kernel_rfl) (of_decide_eq_true (by kernel_rfl)) h1k bel (fun x hx => hlt x (by simp [hx])))
  · rfl

theorem said : Rows.FnCarrierSaid :=
  OpenClaim.holds_of_cond 3 Try.f3 rfl rfl rfl rfl rfl rfl rfl ⟨rfl, rfl, rfl, rfl, rfl⟩ rfl rfl rfl rfl rfl (by kernel_rfl) Try.func3 (by kernel_rfl)
    (of_decide_eq_true (by kernel_rfl)) (by unfold Func.isWrapper; first | (rw [if_pos (by decide +kernel)]; kernel_rfl) | (rw [if_neg (by decide +kernel)]; exact ⟨rfl, rfl⟩))
    (fun os started H enc _ F => by rw [OpenClaim.pre_eq_preRow]; exact lifted os started H enc F)
end CarrierRow
/-- The statement. -/
theorem fnCarrier_holds : Rows.FnCarrierSaid := CarrierRow.said
end Go.Proofs.Ytfaokggblllcmaa
