/- Contracts: piece.Inject, Fields; contexts. -/
import Derived.Test.YtfaokggblllcmaaD1
set_option linter.unusedVariables false
set_option linter.unusedSimpArgs false
namespace Go.Proofs.Ytfaokggblllcmaa
open Go Go.RowKit

set_option maxHeartbeats 1000000 in
set_option maxRecDepth 100000 in
theorem pieceInject_any (k x : ByteArray) (A : Option Addr) (n c : Nat) (cv : Value) (b : Nat) (M : KVs) (w : World) (h : CarAt false w b M) : Calls Try.prog 104 #[.agg #[.string k, .string x, .slice A n c], cv, .iface 59 (.map (some b))] w (SetPost false b M (bs k) (bs x) w) := by
  obtain ⟨w1, hw1⟩ : ∃ w1, w.alloc (.cells #[.string k, .string x, .slice A n c] 74) = w1 := ⟨_, rfl⟩
  have hb1 : Below w.heap.size w w1 := by rw [← hw1]; exact (Below.refl _ _).alloc (Nat.le_refl _) _
  have hp1 : w1.heap[w.heap.size]? = some (.cells #[.string k, .string x, .slice A n c] 74 (0, 0)) := by rw [← hw1]; exact heap_alloc_new _ _
  obtain ⟨⟨c0, c1, c2⟩, _, _, _⟩ := row3 hp1
  have hse := mapSet_any b M k x w1 (h.below hb1)
  clear h
  go_enter Try.func104, Try.ntmps104
  go_wp2_with (go_at_fn 93; fail)
  refine hse.mono ?_
  intro e w2 hpost
  obtain ⟨rfl, hcar, hg⟩ := hpost
  have P : Aside (CarAt false w2 b (putA (keyOf false (bs k)) (bs x) M) ∧ w.grownBy w2 (some b)) := ⟨hcar, World.grownBy.trans (grown_of_below hb1) hg⟩
  clear hse hcar hg
  go_wp2_with fail
  go_returns
  exact ⟨rfl, P.out.1, P.out.2⟩
set_option maxHeartbeats 1000000 in
set_option maxRecDepth 100000 in
theorem pieceFields_any (k x : ByteArray) (A : Option Addr) (n c : Nat) (w : World) : Calls Try.prog 103 #[.agg #[.string k, .string x, .slice A n c]] w fun e w' => e = .returned (.slice A n c) ∧ Below w.heap.size w w' := by
  obtain ⟨w1, hw1⟩ : ∃ w1, w.alloc (.cells #[.string k, .string x, .slice A n c] 74) = w1 := ⟨_, rfl⟩
  have hb1 : Below w.heap.size w w1 := by rw [← hw1]; exact (Below.refl _ _).alloc (Nat.le_refl _) _
  have hp1 : w1.heap[w.heap.size]? = some (.cells #[.string k, .string x, .slice A n c] 74 (0, 0)) := by rw [← hw1]; exact heap_alloc_new _ _
  obtain ⟨⟨c0, c1, c2⟩, _, _, _⟩ := row3 hp1
  go_enter Try.func103, Try.ntmps103
  go_wp2_with fail
  go_ret
  exact ⟨rfl, by rw [hw1] at *; exact hb1⟩
theorem background_any (w : World) : Calls Try.prog 20 #[] w fun e w' => e = .returned (.iface 96 (.agg #[])) ∧ w' = w := by
  go_enter Try.func20, Try.ntmps20
  go_wp2_with fail
  go_ret
  exact ⟨rfl, rfl⟩
theorem newComposite_any (A : Option Addr) (n c : Nat) (w : World) : Calls Try.prog 19 #[.slice A n c] w fun e w' => e = .returned (.iface 95 (.slice A n c)) ∧ w' = w := by
  go_enter Try.func19, Try.ntmps19
  go_wp2_with fail
  go_ret
  exact ⟨rfl, rfl⟩
theorem withValue_any (tp tk tv : TypeId) (p k v : Value) (w : World) : Calls Try.prog 105 #[.iface tp p, .iface tk k, .iface tv v] w fun e w' => e = .returned (.iface 167 (.agg #[.iface tp p, .iface tk k, .iface tv v])) ∧ w' = w := by
  go_enter Try.func105, Try.ntmps105
  go_wp2_with fail
  go_ret
  exact ⟨rfl, rfl⟩
theorem emptyValue_any (v : Value) (w : World) : Calls Try.prog 109 #[.agg #[], v] w fun e w' => e = .returned .nilIface ∧ Below w.heap.size w w' := by
  go_enter Try.func109, Try.ntmps109
  go_wp2_with fail
  go_ret
  exact ⟨rfl, (Below.refl _ _).alloc (Nat.le_refl _) _⟩
theorem eql86 (W : World) : (binOp .eql 20 (.iface 86 (.agg #[])) (.iface 86 (.agg #[]))).run Try.prog W = .ok (.bool true) W := by kernel_rfl
set_option maxHeartbeats 1000000 in
set_option maxRecDepth 100000 in
theorem valuedValue_any (tp tv : TypeId) (p v : Value) (w : World) : Calls Try.prog 115 #[.agg #[.iface tp p, .iface 86 (.agg #[]), .iface tv v], .iface 86 (.agg #[])] w fun e w' => e = .returned (.iface tv v) ∧ Below w.heap.size w w' := by
  obtain ⟨w1, hw1⟩ : ∃ w1, w.alloc (.cells #[.iface tp p, .iface 86 (.agg #[]), .iface tv v] 167) = w1 := ⟨_, rfl⟩
  have hb1 : Below w.heap.size w w1 := by rw [← hw1]; exact (Below.refl _ _).alloc (Nat.le_refl _) _
  have hp1 : w1.heap[w.heap.size]? = some (.cells #[.iface tp p, .iface 86 (.agg #[]), .iface tv v] 167 (0, 0)) := by rw [← hw1]; exact heap_alloc_new _ _
  obtain ⟨⟨c0, c1, c2⟩, _, _, _⟩ := row3 hp1
  have he := eql86
  go_enter Try.func115, Try.ntmps115
  go_wp2_with fail
  go_ret
  exact ⟨rfl, by rw [hw1] at *; exact hb1⟩
end Go.Proofs.Ytfaokggblllcmaa
