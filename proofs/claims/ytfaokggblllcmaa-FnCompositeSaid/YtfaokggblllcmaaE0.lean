/- Contracts: zzFits9, zzFits8. -/
import Derived.Test.YtfaokggblllcmaaC6
set_option linter.unusedVariables false
set_option linter.unusedSimpArgs false
namespace Go.Proofs.Ytfaokggblllcmaa
open Go Go.RowKit

def AnyB (w : World) (e : Ending) (w' : World) : Prop := ∃ r, e = .returned (.bool r) ∧ Below w.heap.size w w'
theorem AnyB.mk {w w' : World} (r : Bool) (h : Below w.heap.size w w') : AnyB w (.returned (.bool r)) w' := ⟨r, rfl, h⟩
set_option maxHeartbeats 1000000 in
set_option maxRecDepth 100000 in
theorem fits9_any (op : Int) (k v : ByteArray) (w : World) : Calls Try.prog 13 #[.agg #[.int .u8 op, .string k, .string v]] w (AnyB w) := by
  have hb1 : Below w.heap.size w (w.alloc (.cells #[.int .u8 op, .string k, .string v] 27)) := (Below.refl _ _).alloc (Nat.le_refl _) _
  by_cases a1 : (2147483647 : Int) < k.size <;> by_cases a2 : (2147483647 : Int) < v.size
  all_goals
    go_enter Try.func13, Try.ntmps13
    go_wp2_with fail
    go_ret
    exact AnyB.mk _ hb1
set_option maxHeartbeats 2000000 in
set_option maxRecDepth 100000 in
theorem fits8_any {ty : Bool} (v : Value) (st : List Stp) (w : World) (h : Rd ty w 27 v st.length 3 (st.flatMap scells)) : Calls Try.prog 5 #[v] w (AnyB w) := by
  obtain ⟨A, c, rfl, hnc, hcm⟩ := h.shape
  have H : Aside (Rd ty w 27 (.slice A st.length c) st.length 3 (st.flatMap scells)) := h
  clear h
  by_cases a1 : (2147483647 : Int) < st.length
  · go_enter Try.func5, Try.ntmps5
    go_wp2_with fail
    go_ret
    exact AnyB.mk _ (Below.refl _ _)
  · go_enter Try.func5, Try.ntmps5
    go_wp2_with fail
    go_loopg [10] (st.length + 1) (fun gk i W => Below w.heap.size w W ∧ ∃ j : Nat, i = .int .i64 j ∧ j ≤ st.length ∧ j + gk = st.length + 1)
    case atStart => exact ⟨Below.refl _ _, 0, rfl, Nat.zero_le _, Nat.zero_add _⟩
    case round =>
      obtain ⟨hb, j, rfl, hj, hg⟩ := hrel
      have hws := hb.size
      by_cases hlt : j < st.length
      · obtain ⟨s, hs⟩ : ∃ s, st[j] = s := ⟨_, rfl⟩
        have hsk : st[j]? = some s := by rw [List.getElem?_eq_getElem hlt, hs]
        have hrd := H.out.below hb
        obtain ⟨bk, o, c', he, -, -, -⟩ := hrd.cells (by omega)
        injection he with he1 he2 he3
        subst he1 he3
        clear he2
        obtain ⟨kb, hkb, hkbs⟩ := S_str s.2.1
        obtain ⟨vb, hvb, hvbs⟩ := S_str s.2.2
        obtain ⟨op, hop⟩ : ∃ op : Int, (s.1 : Int) = op := ⟨_, rfl⟩
        have hat := fun j' hj' => fm3 scells scells_len st j s hsk j' hj'
        have e0 : wr.cell? ⟨bk, o + j * 3, none⟩ = some (.int .u8 op) := hrd.at' rfl (by have := hat 0 (by omega); rw [scells, hop] at this; simpa using this)
        have e1 : wr.cell? ⟨bk, o + j * 3 + 1, none⟩ = some (.string kb) := hrd.at' (j := j * 3 + 1) (by omega) (by have := hat 1 (by omega); rw [scells, hkb] at this; simpa using this)
        have e2 : wr.cell? ⟨bk, o + j * 3 + 2, none⟩ = some (.string vb) := hrd.at' (j := j * 3 + 2) (by omega) (by have := hat 2 (by omega); rw [scells, hvb] at this; simpa using this)
        have hA : Below wr.heap.size wr (wr.alloc (.cells #[.int .u8 op, .string kb, .string vb] 27)) := (Below.refl _ _).alloc (Nat.le_refl _) _
        have hf := fits9_any op kb vb (wr.alloc (.cells #[.int .u8 op, .string kb, .string vb] 27))
        clear hat hrd hsk hs hkb hvb hkbs hvbs hop
        go_wp2_with (go_at_fn 13; fail)
        refine hf.mono ?_
        intro e w5 hpost
        obtain ⟨r, rfl, hb5⟩ := hpost
        have hb6 := below_then hb hws (hA.trans (hb5.mono hA.size))
        clear hf hb5 hA hb
        cases r
        · go_wp2_with fail
          go_ret
          exact AnyB.mk _ hb6
        · go_wp2_with fail
          go_roundg (gk - 1)
          case rel => exact ⟨hb6, j + 1, by go_num, by omega, by omega⟩
          case measure => omega
      · go_wp2_with fail
        go_ret
        exact AnyB.mk _ hb
end Go.Proofs.Ytfaokggblllcmaa
