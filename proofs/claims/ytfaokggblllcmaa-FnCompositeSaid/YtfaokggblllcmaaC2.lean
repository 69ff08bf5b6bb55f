/- Contract: spec.HeaderName. -/
import Derived.Test.YtfaokggblllcmaaC1
set_option linter.unusedVariables false
set_option linter.unusedSimpArgs false
namespace Go.Proofs.Ytfaokggblllcmaa
open Go Go.RowKit

def NamePost (s : ByteArray) (w : World) (e : Ending) (w' : World) : Prop := e = .returned (S (hname (bs s))) ∧ Below w.heap.size w w'
theorem cap_of {w : World} {s : ByteArray} : ∃ c, grownCap w s.size 0 5 = c := ⟨_, rfl⟩
set_option maxHeartbeats 4000000 in
set_option maxRecDepth 100000 in
theorem HeaderName_any (s : ByteArray) (w : World) (hs : s.size ≤ 1000000) : Calls Try.prog 14 #[.string s] w (NamePost s w) := by
  obtain ⟨R, hR⟩ : ∃ R, hname (bs s) = R := ⟨_, rfl⟩
  obtain ⟨rb, hrb, hrbs⟩ := S_str R
  have A : Aside (∀ e w', e = Ending.returned (.string rb) → Below w.heap.size w w' → NamePost s w e w') := fun e w' h1 h2 => ⟨by rw [hR, hrb]; exact h1, h2⟩
  have N : Aside (((bs s).all sgn = true → canL true (bs s) = R) ∧ ((bs s).all sgn = false → rb = s) ∧ S R = .string rb) := by
    refine ⟨fun h => ?_, fun h => ?_, hrb⟩
    · rw [← hR, hname, if_pos h]
    · have : bs rb = bs s := by rw [hrbs, ← hR, hname, if_neg (by rw [h]; simp)]
      exact bs_inj this
  clear hR hrb hrbs
  have kc := Lib.run_convert_string_bytes (P := Try.prog) w 9 88 5 s Try.underlying9 Try.underlying88 Try.underlying5
  have hB0 := Buf.made w s
  have hb0 := bytesWorld_below w s
  obtain ⟨w1, hw1⟩ : ∃ w1, Lib.bytesWorld w 5 s = w1 := ⟨_, rfl⟩
  obtain ⟨cp, hcp⟩ : ∃ cp, grownCap w s.size 0 5 = cp := ⟨_, rfl⟩
  rw [hw1] at kc hB0 hb0
  rw [hcp] at kc
  have L := bs_length s
  have hB0' : Aside (Buf w1 w.heap.size ([] ++ (bs s).drop 0)) := by show Buf _ _ _; simpa using hB0
  clear hw1 hcp hB0
  go_enter Try.func14, Try.ntmps14
  go_wp2_with fail
  go_loopg [4, 11] (s.size + 1) (fun gk uv i W => Below w.heap.size w W ∧ ∃ (k : Nat) (up : Bool) (d : List UInt8), i = .int .i64 k ∧ uv = .bool up ∧ k ≤ s.size ∧ k + gk = s.size + 1 ∧ Aside (Buf W w.heap.size (d ++ (bs s).drop k) ∧ CanAt (bs s) k up d ∧ (bs s).all sgn = ((bs s).drop k).all sgn))
  case atStart => exact ⟨hb0, 0, true, [], rfl, rfl, Nat.zero_le _, Nat.zero_add _, hB0'.out, ⟨rfl, by simp⟩, by simp⟩
  case round =>
    clear hb0 hB0' kc
    obtain ⟨hb, k, up, d, rfl, rfl, hk, hg, hX⟩ := hrel
    have hws := hb.size
    by_cases hlt : k < s.size
    · obtain ⟨c, hc⟩ : ∃ c, s[k] = c := ⟨_, rfl⟩
      have D : Aside ((bs s).drop k = c :: (bs s).drop (k + 1)) := by rw [← hc]; exact bs_drop s k hlt
      obtain ⟨e0, f0⟩ := hX.out.1.cell k c (by rw [D.out, List.getElem?_append_right (by rw [hX.out.2.1.1]; exact Nat.le_refl _), hX.out.2.1.1, Nat.sub_self]; rfl)
      clear hc
      have hsg := headerSign_any c wr
      obtain ⟨sg, hsge⟩ : ∃ sg, sgn c = sg := ⟨_, rfl⟩
      rw [hsge] at hsg
      have SG : Aside (sgn c = sg) := hsge
      clear hsge
      go_wp2_with (go_at_fn 22; fail)
      refine hsg.mono ?_
      rintro e w2 ⟨rfl, hb2⟩
      have hb12 := below_then hb hws hb2
      have hB2 : Aside (Buf w2 w.heap.size (d ++ c :: (bs s).drop (k + 1))) := by
        show Buf _ _ _
        rw [← D.out]
        obtain ⟨cs, fr, q1, q2⟩ := hX.out.1
        exact ⟨cs, fr, (hb2.block _ (Array.getElem?_eq_some_iff.1 q1).1).trans q1, q2⟩
      obtain ⟨e2, f2⟩ := hB2.out.cell k c (by rw [List.getElem?_append_right (by rw [hX.out.2.1.1]; exact Nat.le_refl _), hX.out.2.1.1, Nat.sub_self]; rfl)
      clear hsg hb2 e0 f0
      cases sg with
      | false =>
        have Z : rb = s := N.out.2.1 (by rw [hX.out.2.2, D.out, List.all_cons, SG.out]; rfl)
        go_wp2_with fail
        go_ret
        exact A.out _ _ (by rw [Z]; rfl) hb12
      | true =>
        have hcb := c.toNat_lt
        have hdl := hX.out.2.1.1
        have hnext : Aside (CanAt (bs s) (k + 1) (c == 45) (d ++ [canC up c]) ∧ (bs s).all sgn = ((bs s).drop (k + 1)).all sgn) := ⟨hX.out.2.1.step c D.out, by rw [hX.out.2.2, D.out, List.all_cons, SG.out]; rfl⟩
        have h45 : ((c.toNat : Int) == 45) = (c == 45) := by
          have := int_beq c 45
          rw [show (((45 : UInt8).toNat : Nat) : Int) = 45 from rfl] at this
          rw [this]
          cases h : (c == 45) with
          | true => rw [beq_iff_eq] at h; rw [decide_eq_true h]
          | false => rw [beq_eq_false_iff_ne] at h; rw [decide_eq_false h]
        by_cases a1 : (97 : Int) ≤ (c.toNat : Int) <;> by_cases a2 : (c.toNat : Int) ≤ 122 <;> by_cases a3 : (65 : Int) ≤ (c.toNat : Int) <;> by_cases a4 : (c.toNat : Int) ≤ 90
        all_goals first | (exfalso; omega) | skip
        all_goals
          cases up
          all_goals
            go_wp2_with fail
            go_roundg (gk - 1)
            case rel =>
              refine ⟨by first | exact hb12 | exact hb12.setCell (Nat.le_refl _) _, k + 1, (c == 45), d ++ [canC _ c], by go_num, rfl, by omega, by omega, ?_, hnext.out.1, hnext.out.2⟩
              first
                | (rw [show canC _ c = c by unfold canC; rw [if_neg (by rintro ⟨h, h2, h3⟩; first | omega | cases h), if_neg (by rintro ⟨h, h2, h3⟩; first | omega | cases h)], List.append_assoc]; exact hB2.out)
                | (rw [← set_mid d ((bs s).drop (k + 1)) c _ k hdl]; refine hB2.out.set k _ _ ?_; unfold U8 canC; first | (rw [if_pos ⟨rfl, by omega, by omega⟩, can_low c (by omega) (by omega)]) | (rw [if_neg (by rintro ⟨h, h2, h3⟩; first | omega | cases h), if_pos ⟨rfl, by omega, by omega⟩, can_up c (by omega) (by omega)]))
            case measure => omega
    · have hk2 : k = s.size := by omega
      have hd0 : (bs s).drop k = [] := List.drop_eq_nil_of_le (by omega)
      have hB := hX.out.1
      have hC := hX.out.2.1.2
      have hall := hX.out.2.2
      rw [hd0] at hB hC hall
      simp only [List.append_nil, canL, List.all_nil] at hB hC hall
      have hcv := hB.conv (c := cp) s.size (by rw [hX.out.2.1.1, hk2])
      rw [← hC, N.out.1 hall, N.out.2.2] at hcv
      clear hB hC hall hd0
      go_wp2_with fail
      go_ret
      exact A.out _ _ rfl hb
end Go.Proofs.Ytfaokggblllcmaa
