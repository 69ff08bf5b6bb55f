/- Contract: laws.carrierAwake. -/
import Derived.Test.YtfaokggblllcmaaE4
import Derived.Test.YtfaokggblllcmaaC8
set_option linter.unusedVariables false
set_option linter.unusedSimpArgs false
namespace Go.Proofs.Ytfaokggblllcmaa
open Go Go.RowKit

def AwSt : List Stp := [(0, [97], [98]), (1, [97], [])]
def AwPc : List Pc := [([120], [121], [[120]])]
theorem aw_run : runC false AwSt [] = [([], []), ([98], [])] := by decide
theorem sortT_one (x : List UInt8) : sortT [x] = [x] := by simp [sortT]
theorem aw_inj : injM AwPc [] = [([120], [121])] := by decide
theorem aw_ents : entsOf (injM AwPc []) = [([120], [121])] := by
  rw [aw_inj, entsOf, List.map_cons, List.map_nil, sortT_one]
  decide
theorem aw_fields : sortT (fieldsOf AwPc) = [[120]] := by
  rw [show fieldsOf AwPc = [[120]] by decide, sortT_one]
def AwPost (w : World) (e : Ending) (w' : World) : Prop := e = .returned (.bool true) ∧ Below w.heap.size w w'
def Aw1 (w : World) (e : Ending) (w' : World) : Prop := ∃ b o c, e = .returned (.slice (some ⟨b, o, none⟩) 2 c) ∧ w'.cell? ⟨b, o + 2, none⟩ = some (.string ⟨#[98]⟩) ∧ Below w.heap.size w w'
def Aw2 (w : World) (e : Ending) (w' : World) : Prop := ∃ b o c A2 c2 v3, e = .returned (.tuple #[.slice (some ⟨b, o, none⟩) 1 c, .slice A2 1 c2, v3]) ∧ w'.cell? ⟨b, o + 1, none⟩ = some (.string ⟨#[121]⟩) ∧ Below w.heap.size w w'
theorem aw1 (v : Value) (w : World) (h : Rd true w 28 v 2 3 (AwSt.flatMap scells)) : Calls Try.prog 8 #[.bool false, v] w (Aw1 w) := by
  refine (CarrierRunM_any v AwSt w h (by decide) (by intro s hs; simp [AwSt] at hs; rcases hs with rfl | rfl <;> exact ⟨by decide, by decide, by decide⟩)).mono ?_
  intro e w' hpost
  obtain ⟨v2, css, rfl, hrd, hall, hb⟩ := hpost
  rw [aw_run] at hrd hall
  match css, hall with
  | [c0, c1], hall =>
    obtain ⟨t0, l0, rfl, _, _⟩ := hall.1
    obtain ⟨t, lv, rfl, ht, _⟩ := hall.2.1
    obtain ⟨b, o, c, rfl, _, _, hc⟩ := hrd.cells (by decide)
    refine ⟨b, o, c, rfl, ?_, hb⟩
    have ht' : t = ⟨#[98]⟩ := bs_inj ht
    have := hc 2 (.string t) rfl
    rw [ht'] at this
    exact this
theorem aw2 (v : Value) (w : World) (h : PcRow true true w 44 v AwPc) : Calls Try.prog 12 #[v] w (Aw2 w) := by
  refine (Composite_any v AwPc w h (by decide) (by intro p hp; simp [AwPc] at hp; subst hp; decide)).mono ?_
  intro e w' hpost
  obtain ⟨v1, v2, v3, rfl, hrd1, hrd2, hrd3, hb⟩ := hpost
  rw [aw_ents] at hrd1
  rw [aw_fields] at hrd2
  obtain ⟨b, o, c, rfl, _, _, hc⟩ := hrd1.cells (by decide)
  obtain ⟨A2, c2, rfl, _, _⟩ := hrd2.shape
  exact ⟨b, o, c, A2, c2, v3, rfl, hc 1 _ rfl, hb⟩
set_option maxHeartbeats 4000000 in
set_option maxRecDepth 100000 in
theorem awake_any (w : World) : Calls Try.prog 6 #[] w (AwPost w) := by
  obtain ⟨w1, hw1⟩ : ∃ w1, w.alloc (.cells #[.int .u8 0, .string ⟨#[97]⟩, .string ⟨#[98]⟩, .int .u8 1, .string ⟨#[97]⟩, .string ⟨#[]⟩] 28) = w1 := ⟨_, rfl⟩
  have hb1 : Below w.heap.size w w1 := by rw [← hw1]; exact (Below.refl _ _).alloc (Nat.le_refl _) _
  have hp1 : w1.heap[w.heap.size]? = some (.cells #[.int .u8 0, .string ⟨#[97]⟩, .string ⟨#[98]⟩, .int .u8 1, .string ⟨#[97]⟩, .string ⟨#[]⟩] 28 (0, 0)) := by rw [← hw1]; exact heap_alloc_new _ _
  have hr1 : Rd true w1 28 (.slice (some ⟨w.heap.size, 0, none⟩) 2 2) 2 3 (AwSt.flatMap scells) := by
    refine ⟨_, 2, rfl, Nat.le_refl _, by omega, rfl, .inr ⟨w.heap.size, 0, rfl, fun j u hj => ?_, fun _ => ⟨_, _, hp1⟩⟩⟩
    rw [cell_of_row _ _ _ _ _ _ hp1, Nat.zero_add]
    rw [show AwSt.flatMap scells = [.int .u8 0, .string ⟨#[97]⟩, .string ⟨#[98]⟩, .int .u8 1, .string ⟨#[97]⟩, .string ⟨#[]⟩] from rfl] at hj
    simpa using hj
  have hc1 := aw1 _ w1 hr1
  have HW : w.alloc (.cells #[.int .u8 0, .string ⟨#[97]⟩, .string ⟨#[98]⟩, .int .u8 1, .string ⟨#[97]⟩, .string ⟨#[]⟩] 28) = w1 := hw1
  clear hw1 hp1 hr1
  go_enter Try.func6, Try.ntmps6
  go_wp2_with (go_at_fn 8; fail)
  refine hc1.mono ?_
  intro e w2 hpost
  obtain ⟨b, o, c, rfl, hcell, hb2⟩ := hpost
  have hb12 := below_then hb1 hb1.size hb2
  obtain ⟨w3, hw3⟩ : ∃ w3, (w2.alloc (.cells #[.string ⟨#[120]⟩] 9)).alloc (.cells #[.string ⟨#[120]⟩, .string ⟨#[121]⟩, .slice (some ⟨w2.heap.size, 0, none⟩) 1 1] 44) = w3 := ⟨_, rfl⟩
  have hb3 : Below w2.heap.size w2 w3 := by rw [← hw3]; exact ((Below.refl _ _).alloc (Nat.le_refl _) _).alloc (by simp) _
  have hp3 : w3.heap[w2.heap.size]? = some (.cells #[.string ⟨#[120]⟩] 9 (0, 0)) := by rw [← hw3]; exact row_alloc (heap_alloc_new _ _) _
  have hq3 : w3.heap[w2.heap.size + 1]? = some (.cells #[.string ⟨#[120]⟩, .string ⟨#[121]⟩, .slice (some ⟨w2.heap.size, 0, none⟩) 1 1] 44 (0, 0)) := by rw [← hw3]; exact heap_alloc_2 _ _ _
  have hr3 : PcRow true true w3 44 (.slice (some ⟨w2.heap.size + 1, 0, none⟩) 1 1) AwPc := by
    refine ⟨[[.string ⟨#[120]⟩, .string ⟨#[121]⟩, .slice (some ⟨w2.heap.size, 0, none⟩) 1 1]], ⟨_, 1, rfl, Nat.le_refl _, by omega, rfl, .inr ⟨w2.heap.size + 1, 0, rfl, fun j u hj => ?_, fun _ => ⟨_, _, hq3⟩⟩⟩, ⟨_, _, some ⟨w2.heap.size, 0, none⟩, 1, rfl, rfl, rfl, ?_⟩, trivial⟩
    · rw [cell_of_row _ _ _ _ _ _ hq3, Nat.zero_add]
      simpa using hj
    · refine ⟨_, 1, rfl, Nat.le_refl _, by omega, rfl, .inr ⟨w2.heap.size, 0, rfl, fun j u hj => ?_, fun _ => ⟨_, _, hp3⟩⟩⟩
      rw [cell_of_row _ _ _ _ _ _ hp3, Nat.zero_add]
      rw [show strs [[120]] = [.string ⟨#[120]⟩] from rfl] at hj
      simpa using hj
  have hc3 := aw2 _ w3 hr3
  have hcell3 := cell_bel hb3 hcell
  have hb13 := below_then hb12 hb12.size hb3
  have HW3 : (w2.alloc (.cells #[.string ⟨#[120]⟩] 9)).alloc (.cells #[.string ⟨#[120]⟩, .string ⟨#[121]⟩, .slice (some ⟨w2.heap.size, 0, none⟩) 1 1] 44) = w3 := hw3
  clear hw3 hp3 hq3 hr3 hc1 hcell hb1 hb2 hb12 HW
  go_wp2_with (go_at_fn 12; fail)
  refine hc3.mono ?_
  intro e w4 hpost
  obtain ⟨b1, o1, c1, A2, c2, v3, rfl, hcell4, hb4⟩ := hpost
  have hcell34 := cell_bel hb4 hcell3
  have hb14 := below_then hb13 hb13.size hb4
  clear hc3 hcell3 hb4 hb13 hb3 HW3
  go_wp2_with fail
  go_ret
  exact ⟨rfl, hb14⟩
end Go.Proofs.Ytfaokggblllcmaa
