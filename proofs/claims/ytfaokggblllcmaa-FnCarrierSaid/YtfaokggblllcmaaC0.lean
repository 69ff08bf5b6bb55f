/- Contracts: slices.Index, Contains of bytes; headerSign, HeaderName, zzCanonical. -/
import Derived.Test.YtfaokggblllcmaaG0
import Derived.Lib.ConvBytes
set_option linter.unusedVariables false
set_option linter.unusedSimpArgs false
namespace Go.Proofs.Ytfaokggblllcmaa
open Go Go.RowKit

def IdxIn (x : UInt8) (zs : List UInt8) (w : World) (e : Ending) (w' : World) : Prop := (∃ r : Int, e = .returned (.int .i64 r) ∧ decide (0 ≤ r) = zs.contains x) ∧ w' = w
theorem int_beq (a b : UInt8) : ((a.toNat : Int) == (b.toNat : Int)) = decide (a = b) := by
  by_cases h : a = b
  · rw [h, decide_eq_true rfl]; simp
  · rw [decide_eq_false h, beq_eq_false_iff_ne]
    intro e
    exact h (UInt8.toNat_inj.1 (by omega))
set_option maxHeartbeats 1000000 in
set_option maxRecDepth 100000 in
theorem index_byte {ty : Bool} (v : Value) (zs : List UInt8) (x : UInt8) (w : World) (h : Rd ty w 5 v zs.length 1 (zs.map U8)) : Calls Try.prog 46 #[v, .int .u8 (x.toNat : Int)] w (IdxIn x zs w) := by
  obtain ⟨A, c, rfl, hnc, hcm⟩ := h.shape
  have H : Aside (Rd ty w 5 (.slice A zs.length c) zs.length 1 (zs.map U8)) := h
  clear h
  go_enter Try.func46, Try.ntmps46
  go_wp2_with fail
  go_loopg [8] (zs.length + 1) (fun gk i W => W = w ∧ ∃ k : Nat, i = .int .i64 k ∧ k ≤ zs.length ∧ k + gk = zs.length + 1 ∧ Aside (x ∉ zs.take k))
  case atStart => exact ⟨rfl, 0, rfl, Nat.zero_le _, Nat.zero_add _, by show x ∉ _; simp⟩
  case round =>
    obtain ⟨rfl, k, rfl, hk, hg, hX⟩ := hrel
    by_cases hlt : k < zs.length
    · obtain ⟨z, hz⟩ : ∃ z, zs[k] = z := ⟨_, rfl⟩
      have hrd := H.out
      obtain ⟨b, o, c', he, -, -, -⟩ := hrd.cells (by omega)
      injection he with he1 he2 he3
      subst he1 he3
      clear he2
      have e0 : wr.cell? ⟨b, o + k, none⟩ = some (.int .u8 (z.toNat : Int)) := hrd.at' (j := k) (by omega) (by rw [List.getElem?_map, List.getElem?_eq_getElem hlt, hz]; rfl)
      have Z : Aside (zs[k]? = some z) := by show _ = _; rw [List.getElem?_eq_getElem hlt, hz]
      clear hrd hz
      have hbq := int_beq x z
      by_cases hxz : x = z
      · rw [decide_eq_true hxz] at hbq
        have E : Aside (x = z) := hxz
        clear hxz
        go_wp2_with fail
        go_ret
        refine ⟨⟨k, rfl, ?_⟩, rfl⟩
        have hm : x ∈ zs := by rw [E.out]; exact List.mem_of_getElem? Z.out
        rw [List.contains_iff_mem.2 hm]
        simp
      · rw [decide_eq_false hxz] at hbq
        have E : Aside (¬ x = z) := hxz
        clear hxz
        go_wp2_with fail
        go_roundg (gk - 1)
        case rel =>
          refine ⟨rfl, k + 1, by go_num, by omega, by omega, ?_⟩
          show x ∉ _
          rw [List.take_add_one, Z.out]
          simp only [Option.toList_some, List.mem_append, List.mem_singleton, not_or]
          exact ⟨hX.out, E.out⟩
        case measure => omega
    · have hX2 := hX.out
      rw [List.take_of_length_le (by omega)] at hX2
      have N : Aside (zs.contains x = false) := by
        show _ = _
        simpa using hX2
      clear hX2
      go_wp2_with fail
      go_ret
      exact ⟨⟨-1, rfl, by rw [N.out]; decide⟩, rfl⟩
set_option maxHeartbeats 1000000 in
set_option maxRecDepth 100000 in
theorem contains_byte {ty : Bool} (v : Value) (zs : List UInt8) (x : UInt8) (w : World) (h : Rd ty w 5 v zs.length 1 (zs.map U8)) : Calls Try.prog 30 #[v, .int .u8 (x.toNat : Int)] w fun e w' => e = .returned (.bool (zs.contains x)) ∧ w' = w := by
  have hi := index_byte v zs x w h
  obtain ⟨r0, hr0⟩ : ∃ r, zs.contains x = r := ⟨_, rfl⟩
  unfold IdxIn at hi
  rw [hr0] at hi ⊢
  clear hr0 h
  go_enter Try.func30, Try.ntmps30
  go_wp2_with (go_at_fn 46; fail)
  refine hi.mono ?_
  rintro e w' ⟨⟨r, rfl, hr⟩, rfl⟩
  clear hi
  go_wp2_with fail
  go_ret
  exact ⟨by rw [← hr]; rfl, rfl⟩

def signs : List UInt8 := [33, 35, 36, 37, 38, 39, 42, 43, 45, 46, 94, 95, 96, 124, 126]
/-- May a byte stand in a header's name? -/
def sgn (c : UInt8) : Bool := decide (97 ≤ c.toNat ∧ c.toNat ≤ 122) || decide (65 ≤ c.toNat ∧ c.toNat ≤ 90) || decide (48 ≤ c.toNat ∧ c.toNat ≤ 57) || signs.contains c
set_option maxHeartbeats 1000000 in
set_option maxRecDepth 100000 in
theorem headerSign_any (c : UInt8) (w : World) : Calls Try.prog 22 #[.int .u8 (c.toNat : Int)] w fun e w' => e = .returned (.bool (sgn c)) ∧ Below w.heap.size w w' := by
  have kc : (convert 88 88 (.slice (some ⟨w.heap.size, 0, none⟩) 15 15)).run Try.prog (w.alloc (.cells #[.int .u8 33, .int .u8 35, .int .u8 36, .int .u8 37, .int .u8 38, .int .u8 39, .int .u8 42, .int .u8 43, .int .u8 45, .int .u8 46, .int .u8 94, .int .u8 95, .int .u8 96, .int .u8 124, .int .u8 126] 5)) = .ok (.slice (some ⟨w.heap.size, 0, none⟩) 15 15) (w.alloc (.cells #[.int .u8 33, .int .u8 35, .int .u8 36, .int .u8 37, .int .u8 38, .int .u8 39, .int .u8 42, .int .u8 43, .int .u8 45, .int .u8 46, .int .u8 94, .int .u8 95, .int .u8 96, .int .u8 124, .int .u8 126] 5 (15, 16))) :=
    Lib.run_convert_bytes_const (P := Try.prog) w 88 5 _ 15 15 Try.underlying88 Try.underlying5
  obtain ⟨w1, hw1⟩ : ∃ w1, w.alloc (.cells #[.int .u8 33, .int .u8 35, .int .u8 36, .int .u8 37, .int .u8 38, .int .u8 39, .int .u8 42, .int .u8 43, .int .u8 45, .int .u8 46, .int .u8 94, .int .u8 95, .int .u8 96, .int .u8 124, .int .u8 126] 5 (15, 16)) = w1 := ⟨_, rfl⟩
  rw [hw1] at kc
  have hbel : Below w.heap.size w w1 := by rw [← hw1]; exact (Below.refl _ _).alloc (Nat.le_refl _) _
  have hrow : w1.heap[w.heap.size]? = some (.cells (signs.map U8).toArray 5 (15, 16)) := by rw [← hw1]; exact heap_alloc_new _ _
  have hrd : Rd true w1 5 (.slice (some ⟨w.heap.size, 0, none⟩) 15 15) 15 1 (signs.map U8) := by
    refine ⟨_, 15, rfl, Nat.le_refl _, by omega, rfl, .inr ⟨w.heap.size, 0, rfl, fun j u hj => ?_, fun _ => ⟨_, _, hrow⟩⟩⟩
    rw [cell_of_row _ _ _ _ _ _ hrow, Nat.zero_add]
    simpa using hj
  have hc := contains_byte _ signs c _ hrd
  obtain ⟨q, hq⟩ : ∃ q, signs.contains c = q := ⟨_, rfl⟩
  rw [hq] at hc
  obtain ⟨r, hr⟩ : ∃ r, sgn c = r := ⟨_, rfl⟩
  rw [hr]
  have A : Aside (r = (decide (97 ≤ c.toNat ∧ c.toNat ≤ 122) || decide (65 ≤ c.toNat ∧ c.toNat ≤ 90) || decide (48 ≤ c.toNat ∧ c.toNat ≤ 57) || q)) := by show _ = _; rw [← hr, ← hq]; rfl
  clear hr hq hrd hrow hw1
  have hcb := c.toNat_lt
  go_enter Try.func22, Try.ntmps22
  go_wp2_with (go_at_call 30; refine hc.mono ?_; rintro e w' ⟨rfl, rfl⟩)
  all_goals
    go_ret
    first
      | exact ⟨ret_bool (by rw [A.out, Bool.eq_iff_iff]; simp; omega), Below.refl _ _⟩
      | exact ⟨ret_bool (by rw [A.out]; simp; omega), hbel⟩
end Go.Proofs.Ytfaokggblllcmaa
