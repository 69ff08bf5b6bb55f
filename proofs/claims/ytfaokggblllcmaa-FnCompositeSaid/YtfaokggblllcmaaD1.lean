/- Contract: impl.entriesOf. -/
import Derived.Test.YtfaokggblllcmaaD0
import Derived.Deep.CutBlock
set_option linter.unusedVariables false
set_option linter.unusedSimpArgs false
namespace Go.Proofs.Ytfaokggblllcmaa
open Go Go.RowKit

theorem Try.info52 : (Try.prog.info? 52).map (fun i => (i.zero, i.size, i.bytes)) = some (some (.agg #[.string ⟨#[]⟩, .string ⟨#[]⟩]), 2, 32) := by kernel_rfl
def ecells (q : List UInt8 × List UInt8) : List Value := [S q.1, S q.2]
theorem ecells_len (q : List UInt8 × List UInt8) : (ecells q).length = 2 := rfl
/-- A carrier's entries, by rising keys. -/
def entsOf (M : KVs) : KVs := (sortT (M.map (·.1))).map fun k => (k, (getA k M).getD [])
def EntPost (M : KVs) (w : World) (e : Ending) (w' : World) : Prop := ∃ v, e = .returned v ∧ Rd true w' 52 v (entsOf M).length 2 ((entsOf M).flatMap ecells) ∧ Below w.heap.size w w'
def imOf (M : KVs) (k : List UInt8) : IM := (⟨k.toArray⟩, ⟨((getA k M).getD []).toArray⟩)
theorem im_cells (M : KVs) (k : List UInt8) : encM (imOf M k) = ecells (k, (getA k M).getD []) := rfl
theorem bs_mk (l : List UInt8) : bs ⟨l.toArray⟩ = l := by simp [bs]
theorem ents_sorted (M : KVs) (ks : List (List UInt8)) (ds2 : List IM) (h1 : ks.Perm (M.map (·.1))) (h2 : (ks.map (imOf M)).Perm ds2) (h3 : ds2.Pairwise fun a b => ltM b a = false) : ds2.flatMap encM = (entsOf M).flatMap ecells := by
  have hd : ∀ d ∈ ds2, d = imOf M (bs d.1) := by
    intro d hd
    obtain ⟨k, _, rfl⟩ := List.mem_map.1 (h2.mem_iff.2 hd)
    show _ = imOf M (bs ⟨k.toArray⟩)
    rw [bs_mk]
  have hk : ds2.map (fun d => bs d.1) = sortT (M.map (·.1)) := by
    have p1 : (ds2.map fun d => bs d.1).Perm (M.map (·.1)) := by
      refine ((h2.map fun d => bs d.1).symm.trans ?_).trans h1
      rw [List.map_map]
      refine List.Perm.of_eq ?_
      conv => rhs; rw [← List.map_id ks]
      refine List.map_congr_left fun k _ => ?_
      show bs ⟨k.toArray⟩ = k
      exact bs_mk k
    have p2 := p1.trans (List.mergeSort_perm (M.map (·.1)) (fun x y => decide (x ≤ y))).symm
    have tr : ∀ x y z : List UInt8, decide (x ≤ y) = true → decide (y ≤ z) = true → decide (x ≤ z) = true := by
      intro x y z h1 h2
      simp only [decide_eq_true_eq, le8] at h1 h2 ⊢
      intro h3
      rcases lt8_tri y z with h | h | h
      · exact h1 (lt8_trans _ _ _ h h3)
      · rw [h] at h1; exact h1 h3
      · exact h2 h
    have tt : ∀ x y : List UInt8, (decide (x ≤ y) || decide (y ≤ x)) = true := by
      intro x y
      simp only [Bool.or_eq_true, decide_eq_true_eq, le8]
      rcases lt8_tri x y with h | h | h
      · exact .inl fun h3 => lt8_irr _ (lt8_trans _ _ _ h h3)
      · subst h; exact .inl (lt8_irr _)
      · exact .inr fun h3 => lt8_irr _ (lt8_trans _ _ _ h h3)
    have s2 := List.pairwise_mergeSort tr tt (M.map (·.1))
    refine List.Perm.eq_of_pairwise (le := fun x y => decide (x ≤ y) = true) ?_ ?_ s2 p2
    · intro x y _ _ h3 h4
      simp only [decide_eq_true_eq, le8] at h3 h4
      rcases lt8_tri x y with h | h | h
      · exact absurd h h4
      · exact h
      · exact absurd h h3
    · rw [List.pairwise_map]
      refine h3.imp ?_
      intro a b hab
      unfold ltM at hab
      rw [bl_eq] at hab
      simp only [decide_eq_true_eq, le8]
      exact of_decide_eq_false hab
  unfold entsOf
  rw [← hk, List.map_map]
  clear hk h2 h3 h1
  induction ds2 with
  | nil => rfl
  | cons d r ih =>
    rw [List.flatMap_cons, List.map_cons, List.flatMap_cons, ih (fun x hx => hd x (by simp [hx]))]
    congr 1
    conv => lhs; rw [hd d (by simp)]
    rfl

theorem pw_short {α β : Type} (R : β → β → Prop) (f : α → β) : ∀ (l : List α), l.length ≤ 1 → (l.map f).Pairwise R
  | [], _ => List.Pairwise.nil
  | [x], _ => List.pairwise_singleton _ _
  | _ :: _ :: _, h => by simp at h
set_option maxHeartbeats 2000000 in
set_option maxRecDepth 100000 in
theorem entriesOf_any (b : Nat) (M : KVs) (w : World) (h : CarAt false w b M) (hn : M.length ≤ 1000) : Calls Try.prog 21 #[.map (some b)] w (EntPost M w) := by
  obtain ⟨w1, hw1⟩ : ∃ w1, w.alloc (.cells #[.slice none 0 0] 48) = w1 := ⟨_, rfl⟩
  have hb1 : Below w.heap.size w w1 := by rw [← hw1]; exact (Below.refl _ _).alloc (Nat.le_refl _) _
  have hB1 : w1.heap[w.heap.size]? = some (.cells #[.slice none 0 0] 48 (0, 0)) := by rw [← hw1]; exact heap_alloc_new _ _
  have hc1 := h.below hb1
  obtain ⟨L, hL, hLM, hKM⟩ := hc1.len
  have hke := keys27_any b L w1 hL (by omega)
  have HW : w.alloc (.cells #[.slice none 0 0] 48) = w1 := hw1
  clear h hw1
  go_enter Try.func21, Try.ntmps21
  go_wp2_with (go_at_fn 27; fail)
  refine hke.mono ?_
  intro e w2 hpost
  obtain ⟨v2, ks, rfl, ho2, hpk, hb2, g2, c2, rfl⟩ := hpost
  have hrd2 := Rd.of_own ho2
  have hb12 := below_then hb1 hb1.size hb2
  have hB2 := (hb2.block _ (Array.getElem?_eq_some_iff.1 hB1).1).trans hB1
  have hc2 := hc1.below hb2
  have hkl : ks.length ≤ 1000 := by have := hpk.length_eq; rw [List.length_map] at this; omega
  have HP : Aside (ks.Perm (M.map (·.1))) := by show ks.Perm _; rw [← hKM]; exact hpk
  have hsh := hrd2.shape
  obtain ⟨_, _, _, hnc2, hcm2⟩ := hsh
  clear hke hb1 hB1 hc1 hL hLM hKM ho2 hpk hb2 HW
  go_upto_block 0 with fail
  go_cut [9] (fun v9 W => ∃ (A : Option Addr) (cc : Nat), Below w.heap.size w W ∧ W.heap[w.heap.size]? = some (.cells #[.slice A ks.length cc] 48 (0, 0)) ∧ W.ownsRow w.heap.size 52 2 (.slice A ks.length cc) ks.length ((ks.map (imOf M)).flatMap encM))
  case first =>
    go_wp2_with fail
    go_loopg [9] (ks.length + 1) (fun gk i W => Below w.heap.size w W ∧ ∃ (j : Nat) (A : Option Addr) (cc : Nat), i = .int .i64 j ∧ j ≤ ks.length ∧ j + gk = ks.length + 1 ∧ W.heap[w.heap.size]? = some (.cells #[.slice A j cc] 48 (0, 0)) ∧ W.ownsRow w.heap.size 52 2 (.slice A j cc) j (((ks.take j).map (imOf M)).flatMap encM) ∧ Rd true W 9 (.slice (some ⟨g2, 0, none⟩) ks.length c2) ks.length 1 (strs ks) ∧ CarAt false W b M)
    case atStart => exact ⟨hb12, 0, none, 0, rfl, Nat.zero_le _, Nat.zero_add _, hB2, own_nil _ _ _ _, hrd2, hc2⟩
    case round =>
      clear hb12 hB2 hrd2 hc2
      obtain ⟨hb, j, A, cc, rfl, hj, hg, hB, ho, hrd, hc⟩ := hrel
      have hws := hb.size
      by_cases hlt : j < ks.length
      · obtain ⟨k, hk⟩ : ∃ k, ks[j] = k := ⟨_, rfl⟩
        obtain ⟨kb, hkb, hkbs⟩ := S_str k
        have e0 : wr.cell? ⟨g2, j, none⟩ = some (.string kb) := hrd.at' (j := j) (by omega) (by unfold strs; rw [List.getElem?_map, List.getElem?_eq_getElem hlt, hk, ← hkb]; rfl)
        obtain ⟨L, hL, hA⟩ := hc
        have hlk := hL.look1 Try.underlying59 Try.underlying9 (Try.zeroValue9 _) kb
        obtain ⟨t, ht, hts⟩ := S_str ((getA k M).getD [])
        have e : (asc L kb).getD (.string ⟨#[]⟩) = .string t := by
          rw [← ht, ← hkbs]
          rcases asc_kr kb L M hA with ⟨h1, h2⟩ | ⟨y, v, h1, h2, h3⟩
          · rw [h1, h2]; rfl
          · rw [h1, h2]; exact h3
        rw [e] at hlk
        have TK : Aside (((ks.take (j + 1)).map (imOf M)).flatMap encM = ((ks.take j).map (imOf M)).flatMap encM ++ [.string kb, .string t]) := by
          show _ = _
          rw [List.take_succ_eq_append_getElem hlt, hk, List.map_append, List.flatMap_append]
          congr 1
          show encM (imOf M k) ++ [] = _
          rw [im_cells, List.append_nil, ecells, hkb, ht]
        have CC : Aside (CarAt false wr b M) := ⟨L, hL, hA⟩
        obtain ⟨d0, f0⟩ := row1 hB
        clear e ht hts hkb hkbs hk hA
        go_wp2_with (at_builtin; go_must (refine wp_app (W := wr) w.heap.size rfl (.tmp 13) (.tmp 19) 48 rfl 52 _ 2 32 Try.underlying48 Try.info52 rfl (by decide) (.slice A j cc) j _ [.string kb, .string t] rfl rfl rfl (by intro u hu; simp at hu; rcases hu with rfl | rfl <;> rfl) ho hws (by omega) (by omega) ?_); intro v1 w6 ho6 hb6 hf6 hs6; obtain ⟨A6, c6, rfl⟩ := own_shape ho6; have hB6 := (hf6.block _ (Array.getElem?_eq_some_iff.1 hB).1 (by intro c f h; rw [hB] at h; cases h)).trans hB; obtain ⟨q0, r0⟩ := row1 hB6)
        go_roundg (gk - 1)
        case rel =>
          have hf48 : Fr 48 w6 (w6.setCell ⟨w.heap.size, 0, none⟩ (.slice A6 (j + 1) c6)) := ⟨by simp, fun k hk hne => Below.heap_setCell _ _ _ _ (fun e => by subst e; exact hne _ _ hB6)⟩
          refine ⟨(hb.trans hb6).setCell (Nat.le_refl _) _, j + 1, A6, c6, by go_num, by omega, by omega, row_set hB6 0 _, ?_, (hrd.fr hf6 (by decide)).fr hf48 (by decide), (CC.out.fr hf6 (by decide)).fr hf48 (by decide)⟩
          rw [TK.out]
          exact own_setOther ho6 hB6 (by decide) _
        case measure => omega
      · have hjl : j = ks.length := by omega
        subst hjl
        rw [List.take_length] at ho
        go_wp2_with fail
        go_meet
        exact ⟨A, cc, hb, hB, ho⟩
  case rest =>
    obtain ⟨A, cc, hb, hB, ho⟩ := hcut
    have hws := hb.size
    have hkM : ks.length = M.length := by have := HP.out.length_eq; rw [List.length_map] at this; exact this
    have hel : (entsOf M).length = ks.length := by unfold entsOf; rw [List.length_map, sortT_len, List.length_map, hkM]
    have EL : Aside ((entsOf M).length = ks.length) := hel
    obtain ⟨d0, f0⟩ := row1 hB
    clear hb12 hB2 hrd2 hc2 hel hkM
    by_cases h1 : ks.length ≤ 1
    · have hso := sort_tiny A ks.length cc h1 (.func 29) #[] #[.pointer (some ⟨w.heap.size, 0, none⟩)] wc
      have hE : Aside (((ks.map (imOf M)).flatMap encM) = (entsOf M).flatMap ecells) := by
        exact ents_sorted M ks _ HP.out (List.Perm.refl _) (pw_short _ _ _ h1)
      go_wp2_with (go_at_fn 28; fail)
      refine hso.mono ?_
      intro e w5 hpost
      obtain ⟨rfl, hb5⟩ := hpost
      have hB5 := (hb5.block _ (Array.getElem?_eq_some_iff.1 hB).1).trans hB
      obtain ⟨q0, _⟩ := row1 hB5
      have R5 : Aside (Rd true w5 52 (.slice A ks.length cc) ks.length 2 ((ks.map (imOf M)).flatMap encM) ∧ Below w.heap.size w w5) := ⟨(Rd.of_own ho).below hb5, below_then hb hws hb5⟩
      clear hso hb5 hB5 ho d0 f0 hB hb
      go_wp2_with fail
      go_ret
      refine ⟨_, rfl, ?_, R5.out.2⟩
      rw [EL.out, ← hE.out]
      exact R5.out.1
    · obtain ⟨hxl, hx⟩ := ho
      rcases hx with ⟨_, h0⟩ | ⟨g, cap, cur, he, hbg, hh, hnc, hcm, hcs, htake⟩
      · rw [h0] at hxl
        simp at hxl
        omega
      · injection he with he1 _ he3
        subst he1 he3
        have hne : w.heap.size ≠ g := by
          intro e
          rw [e, hh] at hB
          injection hB with hB
          injection hB with _ h2
          exact absurd h2 (by decide)
        have hlm : (ks.map (imOf M)).length = ks.length := by simp
        have hso := sort_IM wc w.heap.size g cc (ks.map (imOf M)) (by rw [hlm]; omega) (by rw [hlm]; omega) cur hh (fun j u hj => by
          rw [← htake, List.getElem?_take] at hj
          split at hj
          · simpa using hj
          · cases hj) (by rw [hlm]; exact d0) hne
        rw [hlm] at hso
        go_wp2_with (go_at_fn 28; fail)
        refine hso.mono ?_
        intro e w5 hpost
        obtain ⟨rfl, ds2, hp2, hpw, ⟨cs1, hr5, hc5⟩, hg5⟩ := hpost
        have hB5 := (hg5.block _ (Array.getElem?_eq_some_iff.1 hB).1 (by intro e; injection e with e; exact hne e)).trans hB
        obtain ⟨q0, _⟩ := row1 hB5
        have hE := ents_sorted M ks ds2 HP.out hp2 hpw
        have R5 : Aside (Rd true w5 52 (.slice (some ⟨g, 0, none⟩) ks.length cc) ks.length 2 ((entsOf M).flatMap ecells) ∧ Below w.heap.size w w5) := by
          refine ⟨⟨_, cc, rfl, hnc, by simpa [maxLen] using hcm, ?_, .inr ⟨g, 0, rfl, fun j u hj => ?_, fun _ => ⟨_, _, hr5⟩⟩⟩, hb.grown hg5 hws (by intro q hq; injection hq with hq; omega)⟩
          · rw [← EL.out]
            clear hE hc5
            induction entsOf M with
            | nil => rfl
            | cons x r ih => rw [List.flatMap_cons, List.length_append, ih, ecells_len, List.length_cons]; omega
          · rw [cell_of_row _ _ _ _ _ _ hr5, Nat.zero_add]
            exact hc5 j u (by rw [hE]; exact hj)
        clear hso hp2 hpw hr5 hc5 hg5 hB5 hE d0 f0 hB hb hh htake hxl
        go_wp2_with fail
        go_ret
        refine ⟨_, rfl, ?_, R5.out.2⟩
        rw [EL.out]
        exact R5.out.1
end Go.Proofs.Ytfaokggblllcmaa
