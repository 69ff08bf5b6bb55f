/- Contract: piece.Extract. -/
import Derived.Test.YtfaokggblllcmaaD3
set_option linter.unusedVariables false
set_option linter.unusedSimpArgs false
namespace Go.Proofs.Ytfaokggblllcmaa
open Go Go.RowKit

/-- A context that holds a list of entries, or none. -/
def CxV (w : World) (u : Value) (es : KVs) : Prop :=
  (es = [] ∧ u = .iface 96 (.agg #[])) ∨ ∃ tp p g c, u = .iface 167 (.agg #[.iface tp p, .iface 86 (.agg #[]), .iface 48 (.slice (some ⟨g, 0, none⟩) es.length c)]) ∧ Rd true w 52 (.slice (some ⟨g, 0, none⟩) es.length c) es.length 2 (es.flatMap ecells)
def ExtPost (es : KVs) (w : World) (e : Ending) (w' : World) : Prop := ∃ u, e = .returned u ∧ CxV w' u es ∧ Below w.heap.size w w'
theorem assert_nil (W : World) : (Instr.typeAssert .nilIface 20 48 true).run Try.prog W = .ok (.tuple #[.slice none 0 0, .bool false]) W := by kernel_rfl
theorem assert_48 (A : Option Addr) (n c : Nat) (W : World) : (Instr.typeAssert (.iface 48 (.slice A n c)) 20 48 true).run Try.prog W = .ok (.tuple #[.slice A n c, .bool true]) W := by kernel_rfl
theorem method_get59 (b : Nat) (W : World) : (method 272 59 (.map (some b)) "Get").run Try.prog W = .ok (92, .map (some b)) W := by kernel_rfl

set_option maxHeartbeats 2000000 in
set_option maxRecDepth 100000 in
theorem pieceExtract0_any (k x : ByteArray) (A1 : Option Addr) (n1 c1 : Nat) (b : Nat) (M : KVs) (w : World) (hc : CarAt false w b M) :
    Calls Try.prog 102 #[.agg #[.string k, .string x, .slice A1 n1 c1], .iface 96 (.agg #[]), .iface 59 (.map (some b))] w (ExtPost [(bs k, (getA (bs k) M).getD [])] w) := by
  obtain ⟨w1, hw1⟩ : ∃ w1, w.alloc (.cells #[.string k, .string x, .slice A1 n1 c1] 74) = w1 := ⟨_, rfl⟩
  have hb1 : Below w.heap.size w w1 := by rw [← hw1]; exact (Below.refl _ _).alloc (Nat.le_refl _) _
  have hp1 : w1.heap[w.heap.size]? = some (.cells #[.string k, .string x, .slice A1 n1 c1] 74 (0, 0)) := by rw [← hw1]; exact heap_alloc_new _ _
  have hem := emptyValue_any (.iface 86 (.agg #[])) w1
  have ha := assert_nil
  have hmg := method_get59 b
  go_enter Try.func102, Try.ntmps102
  go_wp2_with (go_at_fn 109; fail)
  refine hem.mono ?_
  rintro e w2 ⟨rfl, hb2⟩
  have hb12 := below_then hb1 hb1.size hb2
  have hp2 := (hb2.block _ (Array.getElem?_eq_some_iff.1 hp1).1).trans hp1
  have hb2d : Below w.heap.size w w2.drew := hb12.drew
  have hge := mapGet_any b M k w2.drew (hc.below hb2d)
  obtain ⟨t, ht, hts⟩ := S_str ((getA (keyOf false (bs k)) M).getD [])
  unfold GetPost at hge
  rw [ht] at hge
  have T : Aside (bs t = (getA (bs k) M).getD []) := hts
  have hpd : w2.drew.heap[w.heap.size]? = some (.cells #[.string k, .string x, .slice A1 n1 c1] 74 (0, 0)) := hp2
  obtain ⟨⟨c0, _, _⟩, _, _, _⟩ := row3 hpd
  clear hem ht hts hw1 hc hb2
  go_wp2_with fail
  go_region_law (first
    | (go_simp; go_at_call 92; refine hge.mono ?_; rintro e w5 ⟨rfl, hb5⟩; have hA5 : Below w5.heap.size w5 (w5.alloc (.cells #[.string k, .string t] 52)) := (Below.refl _ _).alloc (Nat.le_refl _) _; obtain ⟨⟨c0', _, _⟩, _, _, _⟩ := row3 ((hb5.block _ (Array.getElem?_eq_some_iff.1 hpd).1).trans hpd))
    | (refine step_appNil w2.drew (by rfl) _ _ 48 (by rfl) 52 _ 2 32 Try.underlying48 Try.info52 (by rfl) (by rfl) ?_)
    | (refine step_app (w5.alloc (.cells #[.string k, .string t] 52)) w.heap.size (by rfl) (.tmp 18) (.tmp 28) 48 (by rfl) 52 _ 2 32 Try.underlying48 Try.info52 rfl (by decide) (.slice none 0 0) 0 [] [.string k, .string t] (by rfl) w5.heap.size (by rfl) rfl (by intro u hu; simp at hu; rcases hu with rfl | rfl <;> rfl) (own_nil _ _ _ _) (heap_alloc_new _ _) (below_then hb2d hb2d.size (hb5.trans (hA5.mono hb5.size))).size (by omega) (by omega) ?_
       intro v7 w7 ho7 hb7 hf7 hs7
       obtain ⟨A7, c7, rfl⟩ := own_shape ho7))
  all_goals
    have hb57 : Below w.heap.size w w7 := (below_then hb2d hb2d.size (hb5.trans (hA5.mono hb5.size))).trans hb7
    have hF : ∃ g c, A7 = some ⟨g, 0, none⟩ ∧ c = c7 := by
      obtain ⟨g, cap, h⟩ := Go.Joins.ownsRow_form ho7 (by omega)
      injection h with h1 h2 h3
      exact ⟨g, c7, h1, rfl⟩
    obtain ⟨g7, _, rfl, _⟩ := hF
    have hrd7 := Rd.of_own ho7
    have hwv := withValue_any 96 86 48 (.agg #[]) (.agg #[]) (.slice (some ⟨g7, 0, none⟩) (0 + 1) c7) w7
    have R : Aside (Rd true w7 52 (.slice (some ⟨g7, 0, none⟩) (0 + 1) c7) (0 + 1) 2 ([] ++ [.string k, .string t]) ∧ Below w.heap.size w w7) := ⟨hrd7, hb57⟩
    clear hge ho7 hb7 hf7 hb5 hA5 hrd7 hb57
    go_wp2_with (go_at_fn 105; fail)
    refine hwv.mono ?_
    rintro e w' ⟨rfl, rfl⟩
    go_wp2_with fail
    go_ret
    refine ⟨_, rfl, .inr ⟨96, .agg #[], g7, c7, rfl, ?_⟩, R.out.2⟩
    have := R.out.1
    rw [← T.out]
    simpa [ecells, S_bs] using this
end Go.Proofs.Ytfaokggblllcmaa
