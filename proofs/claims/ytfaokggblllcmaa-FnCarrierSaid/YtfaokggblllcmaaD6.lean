/- Contract: the composite propagator's Extract. -/
import Derived.Test.YtfaokggblllcmaaD5
set_option linter.unusedVariables false
set_option linter.unusedSimpArgs false
namespace Go.Proofs.Ytfaokggblllcmaa
open Go Go.RowKit

def seenOf (ps : List Pc) (M : KVs) : KVs := ps.map fun p => (p.1, (getA p.1 M).getD [])
set_option maxHeartbeats 2000000 in
set_option maxRecDepth 100000 in
theorem extract_any {ty : Bool} (v : Value) (ps : List Pc) (b : Nat) (M : KVs) (w : World) (h : PRow ty w v ps) (hn : ps.length ≤ 1000) (hc : CarAt false w b M) : Calls Try.prog 106 #[v, .iface 96 (.agg #[]), .iface 59 (.map (some b))] w (ExtPost (seenOf ps M) w) := by
  obtain ⟨us, hrd, hall⟩ := h
  obtain ⟨A, c, rfl, hnc, hcm⟩ := hrd.shape
  have H : Aside (Rd true w 76 (.slice A ps.length c) ps.length 1 us ∧ All2 (PcV ty w) us ps ∧ CarAt false w b M) := ⟨hrd, hall, hc⟩
  clear hrd hall hc
  go_enter Try.func106, Try.ntmps106
  go_wp2_with fail
  go_loopg [1, 11] (ps.length + 1) (fun gk cv i W => Below w.heap.size w W ∧ ∃ j : Nat, i = .int .i64 j ∧ j ≤ ps.length ∧ j + gk = ps.length + 1 ∧ CxV W cv (seenOf (ps.take j) M))
  case atStart => exact ⟨Below.refl _ _, 0, rfl, Nat.zero_le _, Nat.zero_add _, .inl ⟨rfl, rfl⟩⟩
  case round =>
    obtain ⟨hb, j, rfl, hj, hgk, hcx⟩ := hrel
    have hws := hb.size
    by_cases hlt : j < ps.length
    · obtain ⟨p, hp⟩ : ∃ p, ps[j] = p := ⟨_, rfl⟩
      have hpk : ps[j]? = some p := by rw [List.getElem?_eq_getElem hlt, hp]
      obtain ⟨u, huk, k, x, A1, c1, rfl, hk, hx, _⟩ := All2.get j p H.out.2.1 hpk
      have hrd := H.out.1.below hb
      obtain ⟨bk, o, c', he, -, -, -⟩ := hrd.cells (by omega)
      injection he with he1 he2 he3
      subst he1 he3
      clear he2
      have e0 : wr.cell? ⟨bk, o + j, none⟩ = some (.iface 74 (.agg #[.string k, .string x, .slice A1 p.2.2.length c1])) := hrd.at' (j := j) (by omega) huk
      have hsl : (seenOf (ps.take j) M).length ≤ 1000 := by unfold seenOf; rw [List.length_map, List.length_take]; omega
      have TK : Aside (seenOf (ps.take (j + 1)) M = seenOf (ps.take j) M ++ [(bs k, (getA (bs k) M).getD [])]) := by
        show _ = _
        unfold seenOf
        rw [List.take_succ_eq_append_getElem hlt, hp, List.map_append, hk]
        rfl
      have hcw := H.out.2.2.below hb
      obtain ⟨es, hes⟩ : ∃ es, seenOf (ps.take j) M = es := ⟨_, rfl⟩
      rw [hes] at hcx hsl TK
      clear hrd huk hk hx hpk hp hes
      rcases hcx with ⟨rfl, rfl⟩ | ⟨tp, pv, g, cc, rfl, hre⟩
      · have hex := pieceExtract0_any k x A1 p.2.2.length c1 b M wr hcw
        go_wp2_with (go_at_fn 102; fail)
        refine hex.mono ?_
        intro e w5 hpost
        obtain ⟨u5, rfl, hcx5, hb5⟩ := hpost
        have P : Aside (Below w.heap.size w w5 ∧ CxV w5 u5 (seenOf (ps.take (j + 1)) M)) := ⟨below_then hb hws hb5, by rw [TK.out]; exact hcx5⟩
        clear hex hcx5 hb5 hb hcw
        go_wp2_with fail
        go_roundg (gk - 1)
        case rel => exact ⟨P.out.1, j + 1, by go_num, by omega, by omega, P.out.2⟩
        case measure => omega
      · have hex := pieceExtract1_any k x A1 p.2.2.length c1 b M wr hcw tp pv g cc es hre hsl
        go_wp2_with (go_at_fn 102; fail)
        refine hex.mono ?_
        intro e w5 hpost
        obtain ⟨u5, rfl, hcx5, hb5⟩ := hpost
        have P : Aside (Below w.heap.size w w5 ∧ CxV w5 u5 (seenOf (ps.take (j + 1)) M)) := ⟨below_then hb hws hb5, by rw [TK.out]; exact hcx5⟩
        clear hex hcx5 hb5 hb hcw hre
        go_wp2_with fail
        go_roundg (gk - 1)
        case rel => exact ⟨P.out.1, j + 1, by go_num, by omega, by omega, P.out.2⟩
        case measure => omega
    · rw [List.take_of_length_le (by omega)] at hcx
      have P : Aside (CxV wr u1 (seenOf ps M) ∧ Below w.heap.size w wr) := ⟨hcx, hb⟩
      clear hcx hb
      go_wp2_with fail
      go_ret
      exact ⟨_, rfl, P.out.1, P.out.2⟩
end Go.Proofs.Ytfaokggblllcmaa
