/- Contracts: the carriers' Get, Set, Values, Keys. -/
import Derived.Test.YtfaokggblllcmaaC3
set_option linter.unusedVariables false
set_option linter.unusedSimpArgs false
namespace Go.Proofs.Ytfaokggblllcmaa
open Go Go.RowKit

theorem own_made (w : World) (B : Nat) (z : Value) (n size : Nat) (e : TypeId) (hB : B ≤ w.heap.size) (h63 : n ≤ 9223372036854775807) :
    (w.alloc (.cells (madeCells z.cells (n * size)) e)).ownsRow B e size (.slice (some ⟨w.heap.size, 0, none⟩) 0 n) 0 [] := World.ownsRow_made w _ n hB (by simpa [maxLen] using h63) (size_madeCells _ _)
def KeysPost (L : List KV) (w : World) (e : Ending) (w' : World) : Prop := ∃ v ks, e = .returned v ∧ w'.ownsRow w.heap.size 9 1 v ks.length (strs ks) ∧ ks.Perm (L.map fun p => bs p.1) ∧ Below w.heap.size w w' ∧ ∃ g c, v = .slice (some ⟨g, 0, none⟩) ks.length c
set_option maxHeartbeats 2000000 in
set_option maxRecDepth 100000 in
theorem keys27_any (b : Nat) (L : List KV) (w : World) (h : MapAt w b L) (hn : L.length ≤ 10000) : Calls Try.prog 27 #[.map (some b)] w (KeysPost L w) := by
  have hlen := h.len Try.underlying59
  have hmk := run_make0 33 9 _ 1 16 Try.underlying33 Try.infoStr L.length L.length rfl (by omega) (by omega) w
  rw [Nat.mul_one] at hmk
  have ho := own_made w w.heap.size (.string ⟨#[]⟩) L.length 1 9 (Nat.le_refl _) (by omega)
  rw [Nat.mul_one] at ho
  have hbm : Below w.heap.size w (w.alloc (.cells (madeCells (Value.string ⟨#[]⟩).cells L.length) 9)) := (Below.refl _ _).alloc (Nat.le_refl _) _
  obtain ⟨wm, hwm⟩ : ∃ wm, w.alloc (.cells (madeCells (Value.string ⟨#[]⟩).cells L.length) 9) = wm := ⟨_, rfl⟩
  rw [hwm] at ho hmk hbm
  have hL := h.below hbm
  obtain ⟨oi, hro, hrg⟩ := hL.range Try.underlying59
  obtain ⟨V, hV⟩ : ∃ V : Value, .slice (some ⟨w.heap.size, 0, none⟩) 0 L.length = V := ⟨_, rfl⟩
  rw [hV] at ho hmk
  have VF : Aside (∃ g c, V = .slice (some ⟨g, 0, none⟩) 0 c) := ⟨_, _, hV.symm⟩
  clear hV hwm h hL
  go_enter Try.func27, Try.ntmps27
  go_wp2_with fail
  have hbi : Below w.heap.size w (wm.alloc oi) := hbm.alloc hbm.size _
  have hoi := ho.alloc oi
  obtain ⟨wi, hwi⟩ : ∃ wi, wm.alloc oi = wi := ⟨_, rfl⟩
  obtain ⟨it, hit⟩ : ∃ it, wm.heap.size = it := ⟨_, rfl⟩
  rw [hwi] at hbi hoi hrg ⊢
  have hitw : w.heap.size ≤ it := by rw [← hit]; exact hbm.size
  rw [hit] at hrg ⊢
  clear hwi hit ho hro hmk hlen hbm
  go_loopg [3] (L.length + 1) (fun gk ow W => Below w.heap.size w W ∧ ∃ (left : List KV) (done : List (List UInt8)), RangeAt W it b L left ∧ left.length + 1 = gk ∧ (L.map fun p => bs p.1).Perm (done ++ left.map fun p => bs p.1) ∧ W.ownsRow w.heap.size 9 1 ow done.length (strs done) ∧ Aside (done = [] → ow = V))
  case atStart => exact ⟨hbi, L, [], hrg, rfl, List.Perm.refl _, hoi, fun _ => rfl⟩
  case round =>
    clear hbi hoi hrg
    obtain ⟨hb, left, done, hrg, hg, hperm, ho, hnil⟩ := hrel
    have hws := hb.size
    have hdl : done.length ≤ L.length := by
      have := hperm.length_eq
      rw [List.length_append, List.length_map] at this
      omega
    rcases hrg.next 0 with ⟨rfl, hnx⟩ | ⟨p, left', w1, hpm, hnx, hrg1, hg1, hen⟩
    · have hnx' : ∀ ty, (Instr.next (.pointer (some ⟨it, 0, none⟩)) false ty).run Try.prog wr = .ok (.tuple #[.bool false]) wr := fun _ => hnx
      clear hnx
      have HP : Aside (done.Perm (L.map fun p => bs p.1)) := by
        have := hperm
        rw [List.map_nil, List.append_nil] at this
        exact this.symm
      clear hperm
      have HV : Aside (∃ g c, u3 = Value.slice (some ⟨g, 0, none⟩) done.length c) := by
        cases done with
        | nil =>
          obtain ⟨g, c, h⟩ := VF.out
          exact ⟨g, c, by rw [hnil.out rfl]; exact h⟩
        | cons x r => exact Go.Joins.ownsRow_form ho (by simp)
      go_wp2_with fail
      go_ret
      exact ⟨_, done, rfl, ho, HP.out, hb, HV.out⟩
    · have hnx' : ∀ ty, (Instr.next (.pointer (some ⟨it, 0, none⟩)) false ty).run Try.prog wr = .ok (.tuple #[.bool true, .string p.1, p.2]) w1 := fun _ => hnx
      have hb1 : Below w.heap.size w w1 := hb.grown hg1 hws (by intro q hq; injection hq with hq; omega)
      obtain ⟨OA, oc, rfl⟩ := own_shape ho
      have hri : ∃ es a c d, wr.heap[it]? = some (.mapIter es a c d) := by
        obtain ⟨es, clock, seen, _, h2, _⟩ := hrg
        exact ⟨_, _, _, _, h2⟩
      have ho1 : w1.ownsRow w.heap.size 9 1 (.slice OA done.length oc) done.length (strs done) := by
        refine ho.kept hg1 (.inr ?_)
        intro e
        obtain ⟨es, a, c, d, h2⟩ := hri
        rcases ho.2 with ⟨h0, _⟩ | ⟨g, cap, cur, hv, _, hh, _⟩
        · rw [h0] at e
          cases e
        · rw [hv] at e
          have : g = it := by simpa [Value.ownBlock] using e
          subst this
          rw [hh] at h2
          cases h2
      have hws1 := hb1.size
      have PP : Aside (left.Perm (p :: left')) := hpm
      have hpl := hpm.length_eq
      rw [List.length_cons] at hpl
      have HP : Aside ((L.map fun p => bs p.1).Perm (done ++ left.map fun p => bs p.1)) := hperm
      clear hnx hb hrg ho hg1 hri hpm hperm
      obtain ⟨kb, vb⟩ := p
      simp only at hnx' hen
      go_wp2_with (at_builtin; go_must (refine wp_app w.heap.size rfl (.tmp 14) (.tmp 16) 33 rfl 9 (.string ⟨#[]⟩) 1 16 Try.underlying33 Try.infoStr rfl (by decide) (.slice OA done.length oc) done.length _ [.string kb] rfl rfl rfl (one_str kb) ho1 hws1 (by omega) (by omega) ?_); intro v1 w2 ho2 hb2 hf2 hs2)
      go_roundg (gk - 1)
      case rel =>
        refine ⟨hb1.trans hb2, left', done ++ [bs kb], hrg1.fr hf2, by omega, ?_, ?_, fun h => by (simp at h)⟩
        · refine HP.out.trans ?_
          rw [List.append_assoc]
          refine List.Perm.append_left done ?_
          exact PP.out.map fun p => bs p.1
        · rw [List.length_append]
          rw [S_bs] at ho2
          simpa [strs] using ho2
      case measure => omega
set_option maxHeartbeats 2000000 in
set_option maxRecDepth 100000 in
theorem keys95_any (b : Nat) (L : List KV) (w : World) (h : MapAt w b L) (hn : L.length ≤ 10000) : Calls Try.prog 95 #[.map (some b)] w (KeysPost L w) := by
  have hlen := h.len Try.underlying63
  have hmk := run_make0 33 9 _ 1 16 Try.underlying33 Try.infoStr L.length L.length rfl (by omega) (by omega) w
  rw [Nat.mul_one] at hmk
  have ho := own_made w w.heap.size (.string ⟨#[]⟩) L.length 1 9 (Nat.le_refl _) (by omega)
  rw [Nat.mul_one] at ho
  have hbm : Below w.heap.size w (w.alloc (.cells (madeCells (Value.string ⟨#[]⟩).cells L.length) 9)) := (Below.refl _ _).alloc (Nat.le_refl _) _
  obtain ⟨wm, hwm⟩ : ∃ wm, w.alloc (.cells (madeCells (Value.string ⟨#[]⟩).cells L.length) 9) = wm := ⟨_, rfl⟩
  rw [hwm] at ho hmk hbm
  have hL := h.below hbm
  obtain ⟨oi, hro, hrg⟩ := hL.range Try.underlying63
  obtain ⟨V, hV⟩ : ∃ V : Value, .slice (some ⟨w.heap.size, 0, none⟩) 0 L.length = V := ⟨_, rfl⟩
  rw [hV] at ho hmk
  have VF : Aside (∃ g c, V = .slice (some ⟨g, 0, none⟩) 0 c) := ⟨_, _, hV.symm⟩
  clear hV hwm h hL
  go_enter Try.func95, Try.ntmps95
  go_wp2_with fail
  have hbi : Below w.heap.size w (wm.alloc oi) := hbm.alloc hbm.size _
  have hoi := ho.alloc oi
  obtain ⟨wi, hwi⟩ : ∃ wi, wm.alloc oi = wi := ⟨_, rfl⟩
  obtain ⟨it, hit⟩ : ∃ it, wm.heap.size = it := ⟨_, rfl⟩
  rw [hwi] at hbi hoi hrg ⊢
  have hitw : w.heap.size ≤ it := by rw [← hit]; exact hbm.size
  rw [hit] at hrg ⊢
  clear hwi hit ho hro hmk hlen hbm
  go_loopg [3] (L.length + 1) (fun gk ow W => Below w.heap.size w W ∧ ∃ (left : List KV) (done : List (List UInt8)), RangeAt W it b L left ∧ left.length + 1 = gk ∧ (L.map fun p => bs p.1).Perm (done ++ left.map fun p => bs p.1) ∧ W.ownsRow w.heap.size 9 1 ow done.length (strs done) ∧ Aside (done = [] → ow = V))
  case atStart => exact ⟨hbi, L, [], hrg, rfl, List.Perm.refl _, hoi, fun _ => rfl⟩
  case round =>
    clear hbi hoi hrg
    obtain ⟨hb, left, done, hrg, hg, hperm, ho, hnil⟩ := hrel
    have hws := hb.size
    have hdl : done.length ≤ L.length := by
      have := hperm.length_eq
      rw [List.length_append, List.length_map] at this
      omega
    rcases hrg.next 0 with ⟨rfl, hnx⟩ | ⟨p, left', w1, hpm, hnx, hrg1, hg1, hen⟩
    · have hnx' : ∀ ty, (Instr.next (.pointer (some ⟨it, 0, none⟩)) false ty).run Try.prog wr = .ok (.tuple #[.bool false]) wr := fun _ => hnx
      clear hnx
      have HP : Aside (done.Perm (L.map fun p => bs p.1)) := by
        have := hperm
        rw [List.map_nil, List.append_nil] at this
        exact this.symm
      clear hperm
      have HV : Aside (∃ g c, u3 = Value.slice (some ⟨g, 0, none⟩) done.length c) := by
        cases done with
        | nil =>
          obtain ⟨g, c, h⟩ := VF.out
          exact ⟨g, c, by rw [hnil.out rfl]; exact h⟩
        | cons x r => exact Go.Joins.ownsRow_form ho (by simp)
      go_wp2_with fail
      go_ret
      exact ⟨_, done, rfl, ho, HP.out, hb, HV.out⟩
    · have hnx' : ∀ ty, (Instr.next (.pointer (some ⟨it, 0, none⟩)) false ty).run Try.prog wr = .ok (.tuple #[.bool true, .string p.1, p.2]) w1 := fun _ => hnx
      have hb1 : Below w.heap.size w w1 := hb.grown hg1 hws (by intro q hq; injection hq with hq; omega)
      obtain ⟨OA, oc, rfl⟩ := own_shape ho
      have hri : ∃ es a c d, wr.heap[it]? = some (.mapIter es a c d) := by
        obtain ⟨es, clock, seen, _, h2, _⟩ := hrg
        exact ⟨_, _, _, _, h2⟩
      have ho1 : w1.ownsRow w.heap.size 9 1 (.slice OA done.length oc) done.length (strs done) := by
        refine ho.kept hg1 (.inr ?_)
        intro e
        obtain ⟨es, a, c, d, h2⟩ := hri
        rcases ho.2 with ⟨h0, _⟩ | ⟨g, cap, cur, hv, _, hh, _⟩
        · rw [h0] at e
          cases e
        · rw [hv] at e
          have : g = it := by simpa [Value.ownBlock] using e
          subst this
          rw [hh] at h2
          cases h2
      have hws1 := hb1.size
      have PP : Aside (left.Perm (p :: left')) := hpm
      have hpl := hpm.length_eq
      rw [List.length_cons] at hpl
      have HP : Aside ((L.map fun p => bs p.1).Perm (done ++ left.map fun p => bs p.1)) := hperm
      clear hnx hb hrg ho hg1 hri hpm hperm
      obtain ⟨kb, vb⟩ := p
      simp only at hnx' hen
      go_wp2_with (at_builtin; go_must (refine wp_app w.heap.size rfl (.tmp 14) (.tmp 16) 33 rfl 9 (.string ⟨#[]⟩) 1 16 Try.underlying33 Try.infoStr rfl (by decide) (.slice OA done.length oc) done.length _ [.string kb] rfl rfl rfl (one_str kb) ho1 hws1 (by omega) (by omega) ?_); intro v1 w2 ho2 hb2 hf2 hs2)
      go_roundg (gk - 1)
      case rel =>
        refine ⟨hb1.trans hb2, left', done ++ [bs kb], hrg1.fr hf2, by omega, ?_, ?_, fun h => by (simp at h)⟩
        · refine HP.out.trans ?_
          rw [List.append_assoc]
          refine List.Perm.append_left done ?_
          exact PP.out.map fun p => bs p.1
        · rw [List.length_append]
          rw [S_bs] at ho2
          simpa [strs] using ho2
      case measure => omega
end Go.Proofs.Ytfaokggblllcmaa
