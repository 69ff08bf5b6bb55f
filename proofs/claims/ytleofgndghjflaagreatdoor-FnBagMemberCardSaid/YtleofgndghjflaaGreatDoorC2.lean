/- PROVED: for every percent flag and every member, laws.FnBagMember returns true and leaves its arguments as they were. Conditions: those of the given row and card (the listed variables hold what the program's text lays). -/
import Derived.Test.YtleofgndghjflaaGreatDoorY9
import Derived.Test.YtleofgndghjflaaGreatDoorY8
import Derived.Test.YtleofgndghjflaaGreatDoorCards
import Derived.Test.YtleofgndghjflaaGreatDoorTie
import Derived.Lib.SmallJoins
set_option linter.unusedVariables false
set_option linter.unusedSimpArgs false
namespace Go.Proofs.YtleofgndghjflaaGreatDoor
open Go Go.RowKit Go.ChangeShapes Go.WideShapes Go.ChangeAt Go.Joins
open Go.ChangeMaps (open_string shut_string)

namespace BagMember
theorem laidOut : laidOutB Tryz.prog = true := by kernel_rfl
theorem reads (os : Os) {H : Type} (enc : TypeId × Value → H) :
    (OpenSpec.ofChange Rows.fnBagMemberSpec).preRow enc Tryz.prog Tryz.f4 Rows.fnBagMemberRow.domain false Rows.fnBagMemberRow.laid ((laidWorld os).forCall (fun _ _ => 0) ⟨#[], #[.bool false, .agg #[.string ⟨#[]⟩, .string ⟨#[]⟩, .slice none 0 0]], []⟩).memory #[.bool false, .agg #[.string ⟨#[]⟩, .string ⟨#[]⟩, .slice none 0 0]] := by
  have hw : (DataW.whole enc Tryz.prog ((laidWorld os).forCall (fun _ _ => 0) ⟨#[], #[.bool false, .agg #[.string ⟨#[]⟩, .string ⟨#[]⟩, .slice none 0 0]], []⟩).memory Tryz.f4.params.toList Rows.fnBagMemberSpec.vars false #[Value.bool false, Value.agg #[.string ⟨#[]⟩, .string ⟨#[]⟩, .slice none 0 0]].toList 8).map (fun x => (x.1, x.2.1)) =
      some ([.lit (.bool false), .agg [.lit (.string []), .lit (.string []), .nil]], []) := by kernel_rfl
  obtain ⟨⟨x1, x2, x3⟩, hx, hx1⟩ := Option.map_eq_some_iff.1 hw
  simp only [Prod.mk.injEq] at hx1
  obtain ⟨rfl, rfl⟩ := hx1
  exact OpenSpec.preRow_of_cond 8 hx (by kernel_rfl) (fun k hk => by cases hk) (by kernel_rfl) (laid_met os _)

set_option maxRecDepth 100000 in
set_option maxHeartbeats 2000000 in
theorem lifted (os : Os) (started : os.Started) (H : Type) (enc : TypeId × Value → H) (F : Stop.Interp) :
    ReturnsInHanded {} Tryz.checked os 4 .any ((OpenSpec.ofChange Rows.fnBagMemberSpec).preRow enc Tryz.prog Tryz.f4 Rows.fnBagMemberRow.domain false Rows.fnBagMemberRow.laid) (((OpenSpec.ofChange Rows.fnBagMemberSpec).at F).post enc Tryz.prog Tryz.f4 false true false false) := by
  refine returnsInHanded_of_row (C := Tryz.checked) (s := OpenSpec.ofChange Rows.fnBagMemberSpec) Tryz.own started (by kernel_rfl) Tryz.func4
    (witness_row_atRef (enc := enc) (C := Tryz.checked) false (laidWorld os) #[.bool false, .agg #[.string ⟨#[]⟩, .string ⟨#[]⟩, .slice none 0 0]] rfl (by kernel_rfl) (by kernel_rfl) (by kernel_rfl) (reads os enc)) ?_
  intro W base args ds gs before hval0 hW _ _ _ hL _ _
  have hval : ∀ (j : Nat) t v, Tryz.f4.params[j]? = some t → args[j]? = some v → Value.okWide Tryz.prog W .any base t v := hval0
  have hW' := hW
  obtain ⟨p, q, hA0, hV0, rfl, _, _⟩ := hW
  have hA : DataW.TrodAll enc Tryz.prog W 0 (fun _ => true) true Tryz.f4.params.toList args.toList ds p := hA0
  rw [Tryz.params4] at hA hval
  obtain ⟨v0, v1, d0, d1, p0, p1, rfl, rfl, rfl, h0, h1⟩ := trodAll_two hA
  obtain ⟨rfl, rfl⟩ := trodVars_none hV0
  simp only [List.append_nil] at hW'
  have hlt : ∀ x ∈ p0 ++ p1, x.block < W.heap.size := fun x hx => by simpa using hW'.lt x hx
  have h0k := h0
  have h1k := h1
  obtain ⟨pct, rfl, rfl, rfl⟩ := open_bool Tryz.underlying4 (hval 0 4 v0 rfl rfl) h0
  obtain ⟨c0, c1, c2, y0, y1, y2, m, rfl, rfl, rfl, hy0, hy1, hy2⟩ := open_agg3 Tryz.underlying28 (by kernel_rfl) Tryz.cells28 (hval 1 28 v1 rfl rfl) h1
  obtain ⟨k, e0, _⟩ := DataW.trod_string Tryz.underlying9 hy0
  obtain ⟨v, e1, _⟩ := DataW.trod_string Tryz.underlying9 hy1
  obtain ⟨A, c, rs, e2, hrd⟩ := open_props hy2
  simp only [List.cons.injEq, and_true] at e0 e1 e2
  subst e0 e1 e2
  clear hA0 hV0 hval0
  refine (fnBagMember_any pct k v A c rs W (laid_of hL) hrd).mono ?_
  rintro e W' ⟨rfl, bel⟩
  refine ⟨_, rfl, _, _, _, [], [] ++ (y0.2 ++ (y1.2 ++ y2.2)), [], hW', ?_, ?_, ?_, bel.frame _, fun h => by cases h⟩
  · exact trodAll_mk1 (shut_bool Tryz.underlying4 _)
  · exact trodAll_mk2 (Below.trod laidOut (by kernel_rfl) (of_decide_eq_true (by kernel_rfl)) h0k bel (fun x hx => by cases hx)) (Below.trod laidOut (by kernel_rfl) (of_decide_eq_true (by kernel_rfl)) h1k bel (fun x hx => hlt x (by simpa using hx)))
  · rfl

theorem said : Rows.FnBagMemberSaid :=
  OpenClaim.holds_of_cond 4 Tryz.f4 rfl rfl rfl rfl rfl rfl rfl ⟨rfl, rfl, rfl, rfl, rfl⟩ rfl rfl rfl rfl rfl (by kernel_rfl) Tryz.func4 (by kernel_rfl)
    (of_decide_eq_true (by kernel_rfl)) (by unfold Func.isWrapper; first | (rw [if_pos (by decide +kernel)]; kernel_rfl) | (rw [if_neg (by decide +kernel)]; exact ⟨rfl, rfl⟩))
    (fun os started H enc _ F => by rw [OpenClaim.pre_eq_preRow]; exact lifted os started H enc F)

theorem plain (f : FuncId) (fn : Func) (hf : Tryz.pinned.checked.prog.funcNamed "pub-sextary/laws.FnBagMember" = some f) (hfn : Tryz.pinned.checked.prog.funcs[f]? = some fn) :
    false = Tryz.pinned.checked.prog.looks [] ∧ ∀ (j : Nat) t, fn.params[j]? = some t → Tryz.pinned.checked.prog.wantsStandIn t = false := by
  obtain rfl : f = 4 := Option.some.inj ((show Tryz.prog.funcNamed "pub-sextary/laws.FnBagMember" = some 4 by kernel_rfl).symm.trans hf) |>.symm
  obtain rfl : fn = Tryz.f4 := (Option.some.inj (Tryz.func4.symm.trans hfn)).symm
  refine ⟨by kernel_rfl, fun j t ht => ?_⟩
  rw [Tryz.params4] at ht
  have hm : t = 4 ∨ t = 28 := by simpa using Array.mem_of_getElem? ht
  rcases hm with rfl | rfl
  · exact (show Tryz.prog.wantsStandIn 4 = false by kernel_rfl)
  · exact (show Tryz.prog.wantsStandIn 28 = false by kernel_rfl)

theorem card : Rows.FnBagMemberCardSaid :=
  Claim7.holds_tied_plain_at .later [] _ _ _ _ said (fun _ h => by cases h) (by kernel_rfl) (fun _ h => by cases h) fnBagMember_row_tie rfl ⟨rfl, rfl⟩ (by kernel_rfl) rfl plain (by kernel_rfl)
end BagMember
/-- The card. -/
theorem fnBagMember_card : Rows.FnBagMemberCardSaid := BagMember.card
end Go.Proofs.YtleofgndghjflaaGreatDoor
