/- Contract: propagation.zzCanonical. -/
import Derived.Test.YtfaokggblllcmaaC2
import Derived.Deep.CutBlock
import Derived.Deep.CutRange
set_option linter.unusedVariables false
set_option linter.unusedSimpArgs false
namespace Go.Proofs.Ytfaokggblllcmaa
open Go Go.RowKit

theorem sgn_z (c : UInt8) (z : Int) (h : (c.toNat : Int) = z) : sgn c = true ↔ (97 ≤ z ∧ z ≤ 122) ∨ (65 ≤ z ∧ z ≤ 90) ∨ (48 ≤ z ∧ z ≤ 57) ∨ (z = 33 ∨ z = 35 ∨ z = 36 ∨ z = 37 ∨ z = 38 ∨ z = 39 ∨ z = 42 ∨ z = 43 ∨ z = 45 ∨ z = 46 ∨ z = 94 ∨ z = 95 ∨ z = 96 ∨ z = 124 ∨ z = 126) := by
  subst h
  have := all8 (fun c => sgn c = decide ((97 ≤ (c.toNat : Int) ∧ (c.toNat : Int) ≤ 122) ∨ (65 ≤ (c.toNat : Int) ∧ (c.toNat : Int) ≤ 90) ∨ (48 ≤ (c.toNat : Int) ∧ (c.toNat : Int) ≤ 57) ∨ ((c.toNat : Int) = 33 ∨ (c.toNat : Int) = 35 ∨ (c.toNat : Int) = 36 ∨ (c.toNat : Int) = 37 ∨ (c.toNat : Int) = 38 ∨ (c.toNat : Int) = 39 ∨ (c.toNat : Int) = 42 ∨ (c.toNat : Int) = 43 ∨ (c.toNat : Int) = 45 ∨ (c.toNat : Int) = 46 ∨ (c.toNat : Int) = 94 ∨ (c.toNat : Int) = 95 ∨ (c.toNat : Int) = 96 ∨ (c.toNat : Int) = 124 ∨ (c.toNat : Int) = 126))) (by decide +kernel) c
  rw [this, decide_eq_true_eq]
theorem run_idxz (s : ByteArray) (i : Int) (k : Nat) (hi : i = k) (h : k < s.size) (z : Int) (hc : (s[k].toNat : Int) = z) : ∀ W, (Instr.index 9 (.string s) (.int .i64 i)).run Try.prog W = .ok (.int .u8 z) W := by
  subst hc
  exact run_idx s i k hi h _ rfl
set_option maxHeartbeats 8000000 in
set_option maxRecDepth 100000 in
theorem zzCanonical_any (s : ByteArray) (w : World) (hs : s.size ≤ 1000000) : Calls Try.prog 101 #[.string s] w (NamePost s w) := by
  obtain ⟨R, hR⟩ : ∃ R, hname (bs s) = R := ⟨_, rfl⟩
  obtain ⟨rb, hrb, hrbs⟩ := S_str R
  have A : Aside (∀ e w', e = Ending.returned (.string rb) → Below w.heap.size w w' → NamePost s w e w') := fun e w' h1 h2 => ⟨by rw [hR, hrb]; exact h1, h2⟩
  have N : Aside (((bs s).all sgn = true → canL true (bs s) = R) ∧ ((bs s).all sgn = false → rb = s) ∧ S R = .string rb) := by
    refine ⟨fun h => ?_, fun h => ?_, hrb⟩
    · rw [← hR, hname, if_pos h]
    · have : bs rb = bs s := by rw [hrbs, ← hR, hname, if_neg (by rw [h]; simp)]
      exact bs_inj this
  clear hR hrb hrbs
  have L := bs_length s
  go_enter Try.func101, Try.ntmps101
  go_upto_block 0 with fail
  go_cut [3] (fun v W => W = w ∧ (bs s).all sgn = true)
  case first =>
    go_wp2_with fail
    go_loopg [3] (s.size + 1) (fun gk i W => W = w ∧ ∃ k : Nat, i = .int .i64 k ∧ k ≤ s.size ∧ k + gk = s.size + 1 ∧ Aside ((bs s).all sgn = ((bs s).drop k).all sgn))
    case atStart => exact ⟨rfl, 0, rfl, Nat.zero_le _, Nat.zero_add _, by show _ = _; simp⟩
    case round =>
      obtain ⟨rfl, k, rfl, hk, hg, hX⟩ := hrel
      by_cases hlt : k < s.size
      · obtain ⟨z, hz⟩ : ∃ z : Int, (s[k].toNat : Int) = z := ⟨_, rfl⟩
        have hix := run_idxz s (k : Int) k rfl hlt z hz
        have D : Aside ((bs s).drop k = s[k] :: (bs s).drop (k + 1)) := bs_drop s k hlt
        have Z := sgn_z s[k] z hz
        have Z' : Aside (sgn s[k] = true ↔ (97 ≤ z ∧ z ≤ 122) ∨ (65 ≤ z ∧ z ≤ 90) ∨ (48 ≤ z ∧ z ≤ 57) ∨ (z = 33 ∨ z = 35 ∨ z = 36 ∨ z = 37 ∨ z = 38 ∨ z = 39 ∨ z = 42 ∨ z = 43 ∨ z = 45 ∨ z = 46 ∨ z = 94 ∨ z = 95 ∨ z = 96 ∨ z = 124 ∨ z = 126)) := Z
        clear hz Z
        by_cases hm : z = 33 ∨ z = 35 ∨ z = 36 ∨ z = 37 ∨ z = 38 ∨ z = 39 ∨ z = 42 ∨ z = 43 ∨ z = 45 ∨ z = 46 ∨ z = 94 ∨ z = 95 ∨ z = 96 ∨ z = 124 ∨ z = 126
        · have G : Aside (sgn s[k] = true) := Z'.out.2 (.inr (.inr (.inr hm)))
          have hrelk : Aside ((bs s).all sgn = ((bs s).drop (k + 1)).all sgn) := by show _ = _; rw [hX.out, D.out, List.all_cons, G.out]; rfl
          clear Z' G
          rcases hm with rfl | rfl | rfl | rfl | rfl | rfl | rfl | rfl | rfl | rfl | rfl | rfl | rfl | rfl | rfl
          all_goals
            go_wp2_with fail
            go_roundg (gk - 1)
            case rel => exact ⟨rfl, k + 1, by go_num, by omega, by omega, hrelk.out⟩
            case measure => omega
        · simp only [not_or] at hm
          obtain ⟨h33, h35, h36, h37, h38, h39, h42, h43, h45, h46, h94, h95, h96, h124, h126⟩ := hm
          have b33 : (z == 33) = false := beq_eq_false_iff_ne.2 h33
          have b35 : (z == 35) = false := beq_eq_false_iff_ne.2 h35
          have b36 : (z == 36) = false := beq_eq_false_iff_ne.2 h36
          have b37 : (z == 37) = false := beq_eq_false_iff_ne.2 h37
          have b38 : (z == 38) = false := beq_eq_false_iff_ne.2 h38
          have b39 : (z == 39) = false := beq_eq_false_iff_ne.2 h39
          have b42 : (z == 42) = false := beq_eq_false_iff_ne.2 h42
          have b43 : (z == 43) = false := beq_eq_false_iff_ne.2 h43
          have b45 : (z == 45) = false := beq_eq_false_iff_ne.2 h45
          have b46 : (z == 46) = false := beq_eq_false_iff_ne.2 h46
          have b94 : (z == 94) = false := beq_eq_false_iff_ne.2 h94
          have b95 : (z == 95) = false := beq_eq_false_iff_ne.2 h95
          have b96 : (z == 96) = false := beq_eq_false_iff_ne.2 h96
          have b124 : (z == 124) = false := beq_eq_false_iff_ne.2 h124
          have b126 : (z == 126) = false := beq_eq_false_iff_ne.2 h126
          by_cases a1 : (97 : Int) ≤ z <;> by_cases a2 : z ≤ 122 <;> by_cases a3 : (65 : Int) ≤ z <;> by_cases a4 : z ≤ 90 <;> by_cases a5 : (48 : Int) ≤ z <;> by_cases a6 : z ≤ 57
          all_goals first | (exfalso; omega) | skip
          all_goals first
            | (have G : Aside (sgn s[k] = true) := Z'.out.2 (by omega)
               have hrelk : Aside ((bs s).all sgn = ((bs s).drop (k + 1)).all sgn) := by show _ = _; rw [hX.out, D.out, List.all_cons, G.out]; rfl
               clear Z' G
               go_wp2_with fail
               go_roundg (gk - 1)
               case rel => exact ⟨rfl, k + 1, by go_num, by omega, by omega, hrelk.out⟩
               case measure => omega)
            | (have G : Aside (sgn s[k] = false) := by
                 show _ = _
                 cases h : sgn s[k] with
                 | false => rfl
                 | true => have := Z'.out.1 h; omega
               have E : Aside (rb = s) := N.out.2.1 (by rw [hX.out, D.out, List.all_cons, G.out]; rfl)
               clear Z' G
               go_wp2_with fail
               go_ret
               exact A.out _ _ (by rw [E.out]; rfl) (Below.refl _ _))
      · have hall := hX.out
        rw [List.drop_eq_nil_of_le (by omega)] at hall
        have HA : Aside ((bs s).all sgn = true) := hall
        clear hall
        go_wp2_with fail
        go_meet
        exact ⟨rfl, HA.out⟩
  case rest =>
    obtain ⟨rfl, hall⟩ := hcut
    have HA : Aside ((bs s).all sgn = true) := hall
    clear hall
    have kc := Lib.run_convert_string_bytes (P := Try.prog) wc 9 88 5 s Try.underlying9 Try.underlying88 Try.underlying5
    have hB0 := Buf.made wc s
    have hb0 := bytesWorld_below wc s
    obtain ⟨w1, hw1⟩ : ∃ w1, Lib.bytesWorld wc 5 s = w1 := ⟨_, rfl⟩
    obtain ⟨cp, hcp⟩ : ∃ cp, grownCap wc s.size 0 5 = cp := ⟨_, rfl⟩
    rw [hw1] at kc hB0 hb0
    rw [hcp] at kc
    have hB0' : Aside (Buf w1 wc.heap.size ([] ++ (bs s).drop 0)) := by show Buf _ _ _; simpa using hB0
    clear hw1 hcp hB0
    go_wp2_with fail
    go_loopg [6, 62] (s.size + 1) (fun gk uv i W => Below wc.heap.size wc W ∧ ∃ (k : Nat) (up : Bool) (d : List UInt8), i = .int .i64 k ∧ uv = .bool up ∧ k ≤ s.size ∧ k + gk = s.size + 1 ∧ Aside (Buf W wc.heap.size (d ++ (bs s).drop k) ∧ CanAt (bs s) k up d))
    case atStart => exact ⟨hb0, 0, true, [], rfl, rfl, Nat.zero_le _, Nat.zero_add _, hB0'.out, ⟨rfl, by simp⟩⟩
    case round =>
      clear hb0 hB0' kc
      obtain ⟨hb, k, up, d, rfl, rfl, hk, hg, hX⟩ := hrel
      have hws := hb.size
      by_cases hlt : k < s.size
      · obtain ⟨c, hc⟩ : ∃ c, s[k] = c := ⟨_, rfl⟩
        have D : Aside ((bs s).drop k = c :: (bs s).drop (k + 1)) := by rw [← hc]; exact bs_drop s k hlt
        have hB2 : Aside (Buf wr wc.heap.size (d ++ c :: (bs s).drop (k + 1))) := by show Buf _ _ _; rw [← D.out]; exact hX.out.1
        obtain ⟨e2, f2⟩ := hB2.out.cell k c (by rw [List.getElem?_append_right (by rw [hX.out.2.1]; exact Nat.le_refl _), hX.out.2.1, Nat.sub_self]; rfl)
        clear hc
        have hb12 := hb
        have hcb := c.toNat_lt
        have hdl := hX.out.2.1
        have hnext : Aside (CanAt (bs s) (k + 1) (c == 45) (d ++ [canC up c])) := hX.out.2.step c D.out
        have h45 : ((c.toNat : Int) == 45) = (c == 45) := by
          have := int_beq c 45
          rw [show (((45 : UInt8).toNat : Nat) : Int) = 45 from rfl] at this
          rw [this]
          cases h : (c == 45) with
          | true => rw [beq_iff_eq] at h; rw [decide_eq_true h]
          | false => rw [beq_eq_false_iff_ne] at h; rw [decide_eq_false h]
        by_cases a1 : (97 : Int) ≤ (c.toNat : Int) <;> by_cases a2 : (c.toNat : Int) ≤ 122 <;> by_cases a3 : (65 : Int) ≤ (c.toNat : Int) <;> by_cases a4 : (c.toNat : Int) ≤ 90
        all_goals first | (exfalso; omega) | skip
        all_goals
          cases up
          all_goals
            go_wp2_with fail
            go_roundg (gk - 1)
            case rel =>
              refine ⟨by first | exact hb12 | exact hb12.setCell (Nat.le_refl _) _, k + 1, (c == 45), d ++ [canC _ c], by go_num, rfl, by omega, by omega, ?_, hnext.out⟩
              first
                | (rw [show canC _ c = c by unfold canC; rw [if_neg (by rintro ⟨h, h2, h3⟩; first | omega | cases h), if_neg (by rintro ⟨h, h2, h3⟩; first | omega | cases h)], List.append_assoc]; exact hB2.out)
                | (rw [← set_mid d ((bs s).drop (k + 1)) c _ k hdl]; refine hB2.out.set k _ _ ?_; unfold U8 canC; first | (rw [if_pos ⟨rfl, by omega, by omega⟩, can_low c (by omega) (by omega)]) | (rw [if_neg (by rintro ⟨h, h2, h3⟩; first | omega | cases h), if_pos ⟨rfl, by omega, by omega⟩, can_up c (by omega) (by omega)]))
            case measure => omega
      · have hk2 : k = s.size := by omega
        have hd0 : (bs s).drop k = [] := List.drop_eq_nil_of_le (by omega)
        have hB := hX.out.1
        have hC := hX.out.2.2
        rw [hd0] at hB hC
        simp only [List.append_nil, canL] at hB hC
        have hcv := hB.conv (c := cp) s.size (by rw [hX.out.2.1, hk2])
        rw [← hC, N.out.1 HA.out, N.out.2.2] at hcv
        clear hB hC hd0
        go_wp2_with fail
        go_ret
        exact A.out _ _ rfl hb
end Go.Proofs.Ytfaokggblllcmaa
