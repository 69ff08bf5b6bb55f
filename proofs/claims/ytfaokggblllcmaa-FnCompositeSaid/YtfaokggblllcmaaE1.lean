/- Contracts: zzFits2, zzFits11. -/
import Derived.Test.YtfaokggblllcmaaE0
set_option linter.unusedVariables false
set_option linter.unusedSimpArgs false
namespace Go.Proofs.Ytfaokggblllcmaa
open Go Go.RowKit

set_option maxHeartbeats 2000000 in
set_option maxRecDepth 100000 in
theorem fits2_any {ty : Bool} (v : Value) (fs : List (List UInt8)) (w : World) (h : Rd ty w 9 v fs.length 1 (strs fs)) : Calls Try.prog 25 #[v] w (AnyB w) := by
  obtain ⟨A, c, rfl, hnc, hcm⟩ := h.shape
  have H : Aside (Rd ty w 9 (.slice A fs.length c) fs.length 1 (strs fs)) := h
  clear h
  by_cases a1 : (2147483647 : Int) < fs.length
  · go_enter Try.func25, Try.ntmps25
    go_wp2_with fail
    go_ret
    exact AnyB.mk _ (Below.refl _ _)
  · go_enter Try.func25, Try.ntmps25
    go_wp2_with fail
    go_loopg [10] (fs.length + 1) (fun gk i W => W = w ∧ ∃ j : Nat, i = .int .i64 j ∧ j ≤ fs.length ∧ j + gk = fs.length + 1)
    case atStart => exact ⟨rfl, 0, rfl, Nat.zero_le _, Nat.zero_add _⟩
    case round =>
      obtain ⟨rfl, j, rfl, hj, hg⟩ := hrel
      by_cases hlt : j < fs.length
      · obtain ⟨f, hf⟩ : ∃ f, fs[j] = f := ⟨_, rfl⟩
        obtain ⟨fb, hfb, _⟩ := S_str f
        have hrd := H.out
        obtain ⟨bk, o, c', he, -, -, -⟩ := hrd.cells (by omega)
        injection he with he1 he2 he3
        subst he1 he3
        clear he2
        have e0 : wr.cell? ⟨bk, o + j, none⟩ = some (.string fb) := hrd.at' (j := j) (by omega) (by unfold strs; rw [List.getElem?_map, List.getElem?_eq_getElem hlt, hf, ← hfb]; rfl)
        clear hrd hfb hf
        by_cases a2 : (2147483647 : Int) < fb.size
        · go_wp2_with fail
          go_ret
          exact AnyB.mk _ (Below.refl _ _)
        · go_wp2_with fail
          go_roundg (gk - 1)
          case rel => exact ⟨rfl, j + 1, by go_num, by omega, by omega⟩
          case measure => omega
      · go_wp2_with fail
        go_ret
        exact AnyB.mk _ (Below.refl _ _)
set_option maxHeartbeats 2000000 in
set_option maxRecDepth 100000 in
theorem fits11_any {ty : Bool} (k x : ByteArray) (A : Option Addr) (c : Nat) (fs : List (List UInt8)) (w : World) (h : Rd ty w 9 (.slice A fs.length c) fs.length 1 (strs fs)) : Calls Try.prog 17 #[.agg #[.string k, .string x, .slice A fs.length c]] w (AnyB w) := by
  obtain ⟨w1, hw1⟩ : ∃ w1, w.alloc (.cells #[.string k, .string x, .slice A fs.length c] 43) = w1 := ⟨_, rfl⟩
  have hb1 : Below w.heap.size w w1 := by rw [← hw1]; exact (Below.refl _ _).alloc (Nat.le_refl _) _
  have hp1 : w1.heap[w.heap.size]? = some (.cells #[.string k, .string x, .slice A fs.length c] 43 (0, 0)) := by rw [← hw1]; exact heap_alloc_new _ _
  obtain ⟨⟨c0, c1, c2⟩, _, _, _⟩ := row3 hp1
  have hf := fits2_any _ fs w1 (h.below hb1)
  clear h hp1
  by_cases a1 : (2147483647 : Int) < k.size
  · go_enter Try.func17, Try.ntmps17
    go_wp2_with fail
    go_ret
    exact AnyB.mk _ hb1
  · by_cases a2 : (2147483647 : Int) < x.size
    · go_enter Try.func17, Try.ntmps17
      go_wp2_with fail
      go_ret
      exact AnyB.mk _ hb1
    · go_enter Try.func17, Try.ntmps17
      go_wp2_with (go_at_fn 25; fail)
      refine hf.mono ?_
      intro e w5 hpost
      obtain ⟨r, rfl, hb5⟩ := hpost
      have hb6 := below_then hb1 hb1.size hb5
      clear hf hb5
      cases r
      all_goals
        go_wp2_with fail
        go_ret
        exact AnyB.mk _ hb6
end Go.Proofs.Ytfaokggblllcmaa
