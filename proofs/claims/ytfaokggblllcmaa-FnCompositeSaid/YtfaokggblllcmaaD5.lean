/- Contract: piece.Extract behind another. -/
import Derived.Test.YtfaokggblllcmaaD4
set_option linter.unusedVariables false
set_option linter.unusedSimpArgs false
namespace Go.Proofs.Ytfaokggblllcmaa
open Go Go.RowKit

theorem ones_ents (es : KVs) : ∀ u ∈ es.flatMap ecells, u.oneCell' = true := by
  intro u hu
  obtain ⟨q, _, hq⟩ := List.mem_flatMap.1 hu
  simp [ecells] at hq
  rcases hq with rfl | rfl <;> rfl
set_option maxHeartbeats 2000000 in
set_option maxRecDepth 100000 in
theorem pieceExtract1_any (k x : ByteArray) (A1 : Option Addr) (n1 c1 : Nat) (b : Nat) (M : KVs) (w : World) (hc : CarAt false w b M) (tp : TypeId) (p : Value) (g c : Nat) (es : KVs) (hrd : Rd true w 52 (.slice (some ⟨g, 0, none⟩) es.length c) es.length 2 (es.flatMap ecells)) (hes : es.length ≤ 1000) :
    Calls Try.prog 102 #[.agg #[.string k, .string x, .slice A1 n1 c1], .iface 167 (.agg #[.iface tp p, .iface 86 (.agg #[]), .iface 48 (.slice (some ⟨g, 0, none⟩) es.length c)]), .iface 59 (.map (some b))] w (ExtPost (es ++ [(bs k, (getA (bs k) M).getD [])]) w) := by
  obtain ⟨w1, hw1⟩ : ∃ w1, w.alloc (.cells #[.string k, .string x, .slice A1 n1 c1] 74) = w1 := ⟨_, rfl⟩
  have hb1 : Below w.heap.size w w1 := by rw [← hw1]; exact (Below.refl _ _).alloc (Nat.le_refl _) _
  have hp1 : w1.heap[w.heap.size]? = some (.cells #[.string k, .string x, .slice A1 n1 c1] 74 (0, 0)) := by rw [← hw1]; exact heap_alloc_new _ _
  have hem := valuedValue_any tp 48 p (.slice (some ⟨g, 0, none⟩) es.length c) w1
  have ha := assert_48 (some ⟨g, 0, none⟩) es.length c
  have hmg := method_get59 b
  go_enter Try.func102, Try.ntmps102
  go_wp2_with (go_at_fn 115; fail)
  refine hem.mono ?_
  rintro e w2 ⟨rfl, hb2⟩
  have hb12 := below_then hb1 hb1.size hb2
  have hp2 := (hb2.block _ (Array.getElem?_eq_some_iff.1 hp1).1).trans hp1
  have hb2d : Below w.heap.size w w2.drew := hb12.drew
  have hge := fun (W : World) (hW : Below w.heap.size w W) => mapGet_any b M k W (hc.below hW)
  have hrdd := hrd.below hb2d
  obtain ⟨t, ht, hts⟩ := S_str ((getA (keyOf false (bs k)) M).getD [])
  unfold GetPost at hge
  rw [ht] at hge
  have T : Aside (bs t = (getA (bs k) M).getD []) := hts
  have hpd : w2.drew.heap[w.heap.size]? = some (.cells #[.string k, .string x, .slice A1 n1 c1] 74 (0, 0)) := hp2
  obtain ⟨⟨c0, _, _⟩, _, _, _⟩ := row3 hpd
  clear hem ht hts hw1 hb2 hrd
  go_wp2_with fail
  go_region_law (first
    | (go_simp; go_at_call 92; refine (hge w4 (hb2d.trans (hb4.mono hb2d.size))).mono ?_; rintro e w5 ⟨rfl, hb5⟩; have hA5 : Below w5.heap.size w5 (w5.alloc (.cells #[.string k, .string t] 52)) := (Below.refl _ _).alloc (Nat.le_refl _) _; have ho5 := own_below (C := 0) ho4 hb5; obtain ⟨⟨c0'', _, _⟩, _, _, _⟩ := row3 ((hb5.block _ (Array.getElem?_eq_some_iff.1 hp4).1).trans hp4))
    | (refine step_appN w2.drew w2.drew.heap.size (by rfl) _ (.tmp 17) 48 (by rfl) 52 _ 2 32 Try.underlying48 Try.info52 rfl (by decide) (.slice none 0 0) 0 [] (es.flatMap ecells) (by rfl) ⟨g, 0, none⟩ es.length c (by rfl) hrdd.length (fun j u hj => by rw [addr_add]; exact hrdd.at' (j := j) (k := j) (by omega) hj) (ones_ents es) (own_nil _ _ _ _) (Nat.le_refl _) (by omega) (by omega) ?_
       intro v4 w4 ho4 hb4 hf4 hs4
       rw [Nat.zero_add, List.nil_append] at ho4
       have hp4 := (hb4.block _ (Array.getElem?_eq_some_iff.1 hpd).1).trans hpd
       obtain ⟨A4, c4, rfl⟩ := own_shape ho4
       obtain ⟨⟨c0', _, _⟩, _, _, _⟩ := row3 hp4)
    | (refine step_app (w5.alloc (.cells #[.string k, .string t] 52)) w2.drew.heap.size (by rfl) (.tmp 18) (.tmp 28) 48 (by rfl) 52 _ 2 32 Try.underlying48 Try.info52 rfl (by decide) (.slice A4 es.length c4) es.length (es.flatMap ecells) [.string k, .string t] (by rfl) w5.heap.size (by rfl) rfl (by intro u hu; simp at hu; rcases hu with rfl | rfl <;> rfl) (ho5.alloc _) (heap_alloc_new _ _) (hb4.trans ((hb5.trans (hA5.mono hb5.size)).mono hb4.size)).size (by omega) (by omega) ?_
       intro v7 w7 ho7 hb7 hf7 hs7
       obtain ⟨A7, c7, rfl⟩ := own_shape ho7))
  all_goals
    have hb57 : Below w.heap.size w w7 := (hb2d.trans ((hb4.trans ((hb5.trans (hA5.mono hb5.size)).mono hb4.size)).mono hb2d.size)).trans (hb7.mono hb2d.size)
    have hF : ∃ g c, A7 = some ⟨g, 0, none⟩ ∧ c = c7 := by
      obtain ⟨g, cap, h⟩ := Go.Joins.ownsRow_form ho7 (by omega)
      injection h with h1 h2 h3
      exact ⟨g, c7, h1, rfl⟩
    obtain ⟨g7, _, rfl, _⟩ := hF
    have hrd7 := Rd.of_own ho7
    have hwv := withValue_any 167 86 48 (.agg #[.iface tp p, .iface 86 (.agg #[]), .iface 48 (.slice (some ⟨g, 0, none⟩) es.length c)]) (.agg #[]) (.slice (some ⟨g7, 0, none⟩) (es.length + 1) c7) w7
    have R : Aside (Rd true w7 52 (.slice (some ⟨g7, 0, none⟩) (es.length + 1) c7) (es.length + 1) 2 (es.flatMap ecells ++ [.string k, .string t]) ∧ Below w.heap.size w w7) := ⟨hrd7, hb57⟩
    clear hge ho7 hb7 hf7 hb5 hA5 hrd7 hb57 ho4 hb4 ho5
    go_wp2_with (go_at_fn 105; fail)
    refine hwv.mono ?_
    rintro e w' ⟨rfl, rfl⟩
    go_wp2_with fail
    go_ret
    refine ⟨_, rfl, .inr ⟨167, _, g7, c7, by rw [List.length_append]; rfl, ?_⟩, R.out.2⟩
    have := R.out.1
    rw [← T.out, List.length_append, List.flatMap_append]
    simpa [ecells, S_bs] using this
end Go.Proofs.Ytfaokggblllcmaa
