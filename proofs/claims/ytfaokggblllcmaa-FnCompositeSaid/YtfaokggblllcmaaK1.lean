/- PROVED: for every list of pieces, laws.FnComposite returns true and leaves its argument as it was. Conditions: those of the given row (none). -/
import Derived.Test.YtfaokggblllcmaaRows
import Derived.Test.YtfaokggblllcmaaF0
import Derived.Test.YtfaokggblllcmaaE7
import Derived.Deep.DeepHandedRow
import Derived.Deep.DeepWitnessRowRef
import Derived.ProofKit
import Derived.Lib.SmallJoins
set_option linter.unusedVariables false
set_option linter.unusedSimpArgs false
namespace Go.Proofs.Ytfaokggblllcmaa
open Go Go.RowKit Go.ChangeShapes Go.WideShapes Go.ChangeAt Go.Joins

namespace CompositeRow
theorem own : ownKnob Try.prog.godebug = none := by kernel_rfl
theorem laidOut : laidOutB Try.prog = true := by kernel_rfl
theorem reads (os : Os) {H : Type} (enc : TypeId × Value → H) :
    (OpenSpec.ofChange Rows.fnCompositeSpec).preRow enc Try.prog Try.f4 Rows.fnCompositeRow.domain false Rows.fnCompositeRow.laid (((World.settled Try.prog os)).forCall (fun _ _ => 0) ⟨#[], #[.slice none 0 0], []⟩).memory #[.slice none 0 0] := by
  have hw : (DataW.whole enc Try.prog (((World.settled Try.prog os)).forCall (fun _ _ => 0) ⟨#[], #[.slice none 0 0], []⟩).memory Try.f4.params.toList Rows.fnCompositeSpec.vars false #[Value.slice none 0 0].toList 8).map (fun x => (x.1, x.2.1)) =
      some ([.nil], []) := by kernel_rfl
  obtain ⟨⟨x1, x2, x3⟩, hx, hx1⟩ := Option.map_eq_some_iff.1 hw
  simp only [Prod.mk.injEq] at hx1
  obtain ⟨rfl, rfl⟩ := hx1
  exact OpenSpec.preRow_of_cond 8 hx (by kernel_rfl) (fun k hk => by cases hk) (by kernel_rfl) (laidMet_nil _ _)

set_option maxRecDepth 100000 in
set_option maxHeartbeats 2000000 in
theorem lifted (os : Os) (started : os.Started) (H : Type) (enc : TypeId × Value → H) (F : Stop.Interp) :
    ReturnsInHanded {} Try.checked os 4 .any ((OpenSpec.ofChange Rows.fnCompositeSpec).preRow enc Try.prog Try.f4 Rows.fnCompositeRow.domain false Rows.fnCompositeRow.laid) (((OpenSpec.ofChange Rows.fnCompositeSpec).at F).post enc Try.prog Try.f4 false true false false) := by
  refine returnsInHanded_of_row (C := Try.checked) (s := OpenSpec.ofChange Rows.fnCompositeSpec) own started (by kernel_rfl) Try.func4
    (witness_row_atRef (enc := enc) (C := Try.checked) false (World.settled Try.prog os) #[.slice none 0 0] rfl (by kernel_rfl) (by kernel_rfl) (by kernel_rfl) (reads os enc)) ?_
  intro W base args ds gs before hval0 hW _ _ _ hL _ _
  have hval : ∀ (j : Nat) t v, Try.f4.params[j]? = some t → args[j]? = some v → Value.okWide Try.prog W .any base t v := hval0
  have hW' := hW
  obtain ⟨p, q, hA0, hV0, rfl, _, _⟩ := hW
  have hA : DataW.TrodAll enc Try.prog W 0 (fun _ => true) true Try.f4.params.toList args.toList ds p := hA0
  rw [Try.params4] at hA hval
  obtain ⟨v0, d0, rfl, rfl, h0⟩ := trodAll_one hA
  obtain ⟨rfl, rfl⟩ := trodVars_none hV0
  simp only [List.append_nil] at hW'
  have hlt : ∀ x ∈ p, x.block < W.heap.size := fun x hx => by simpa using hW'.lt x hx
  have h0k := h0
  obtain ⟨ps, hps⟩ := open_pieces_arg (hval 0 39 v0 rfl rfl) h0
  clear hA0 hV0 hval0
  refine (fnComposite_any v0 ps W hps).mono ?_
  rintro e W' ⟨rfl, bel⟩
  refine ⟨_, rfl, _, _, _, [], p, [], hW', ?_, ?_, ?_, bel.frame _, fun h => by cases h⟩
  · exact trodAll_mk1 (shut_bool Try.underlying4 _)
  · exact trodAll_mk1 (Below.trod laidOut (by kernel_rfl) (of_decide_eq_true (by kernel_rfl)) h0k bel (fun x hx => hlt x hx))
  · rfl

theorem said : Rows.FnCompositeSaid :=
  OpenClaim.holds_of_cond 4 Try.f4 rfl rfl rfl rfl rfl rfl rfl ⟨rfl, rfl, rfl, rfl, rfl⟩ rfl rfl rfl rfl rfl (by kernel_rfl) Try.func4 (by kernel_rfl)
    (of_decide_eq_true (by kernel_rfl)) (by unfold Func.isWrapper; first | (rw [if_pos (by decide +kernel)]; kernel_rfl) | (rw [if_neg (by decide +kernel)]; exact ⟨rfl, rfl⟩))
    (fun os started H enc _ F => by rw [OpenClaim.pre_eq_preRow]; exact lifted os started H enc F)
end CompositeRow
/-- The statement. -/
theorem fnComposite_holds : Rows.FnCompositeSaid := CompositeRow.said
end Go.Proofs.Ytfaokggblllcmaa
