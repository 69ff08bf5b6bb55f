/- Contract: the composite propagator's Inject. -/
import Derived.Test.YtfaokggblllcmaaD2
set_option linter.unusedVariables false
set_option linter.unusedSimpArgs false
namespace Go.Proofs.Ytfaokggblllcmaa
open Go Go.RowKit

/-- A propagator by hand, as data: its key, its value, its fields. -/
abbrev Pc := List UInt8 × List UInt8 × List (List UInt8)
/-- An interface value that holds such a propagator. -/
def PcV (ty : Bool) (w : World) (u : Value) (p : Pc) : Prop :=
  ∃ k x A c, u = .iface 74 (.agg #[.string k, .string x, .slice A p.2.2.length c]) ∧ bs k = p.1 ∧ bs x = p.2.1 ∧ Rd ty w 9 (.slice A p.2.2.length c) p.2.2.length 1 (strs p.2.2)
/-- A row of propagators. -/
def PRow (ty : Bool) (w : World) (v : Value) (ps : List Pc) : Prop := ∃ us, Rd true w 76 v ps.length 1 us ∧ All2 (PcV ty w) us ps
def injM (ps : List Pc) (M : KVs) : KVs := ps.foldl (fun M p => putA p.1 p.2.1 M) M
theorem injM_snoc (ps : List Pc) (p : Pc) (M : KVs) : injM (ps ++ [p]) M = putA p.1 p.2.1 (injM ps M) := by simp [injM]
def InjPost (b : Nat) (M : KVs) (w : World) (e : Ending) (w' : World) : Prop := e = .returned (.tuple #[]) ∧ CarAt false w' b M ∧ w.grownBy w' (some b)

set_option maxHeartbeats 2000000 in
set_option maxRecDepth 100000 in
theorem inject_any {ty : Bool} (v cv : Value) (ps : List Pc) (b : Nat) (M : KVs) (w : World) (h : PRow ty w v ps) (hc : CarAt false w b M) : Calls Try.prog 108 #[v, cv, .iface 59 (.map (some b))] w (InjPost b (injM ps M) w) := by
  obtain ⟨us, hrd, hall⟩ := h
  obtain ⟨A, c, rfl, hnc, hcm⟩ := hrd.shape
  obtain ⟨L0, hL0, _⟩ := id hc
  have H : Aside (Rd true w 76 (.slice A ps.length c) ps.length 1 us ∧ All2 (PcV ty w) us ps ∧ MapAt w b L0) := ⟨hrd, hall, hL0⟩
  clear hrd hall hL0
  go_enter Try.func108, Try.ntmps108
  go_wp2_with fail
  go_loopg [10] (ps.length + 1) (fun gk i W => w.grownBy W (some b) ∧ ∃ j : Nat, i = .int .i64 j ∧ j ≤ ps.length ∧ j + gk = ps.length + 1 ∧ CarAt false W b (injM (ps.take j) M))
  case atStart => exact ⟨grown_of_below (Below.refl _ _), 0, rfl, Nat.zero_le _, Nat.zero_add _, hc⟩
  case round =>
    clear hc
    obtain ⟨hg, j, rfl, hj, hgk, hcar⟩ := hrel
    by_cases hlt : j < ps.length
    · obtain ⟨p, hp⟩ : ∃ p, ps[j] = p := ⟨_, rfl⟩
      have hpk : ps[j]? = some p := by rw [List.getElem?_eq_getElem hlt, hp]
      obtain ⟨u, huk, k, x, A1, c1, rfl, hk, hx, _⟩ := All2.get j p H.out.2.1 hpk
      have hrd := H.out.1.grownMap H.out.2.2 hg
      obtain ⟨bk, o, c', he, -, -, -⟩ := hrd.cells (by omega)
      injection he with he1 he2 he3
      subst he1 he3
      clear he2
      have e0 : wr.cell? ⟨bk, o + j, none⟩ = some (.iface 74 (.agg #[.string k, .string x, .slice A1 p.2.2.length c1])) := hrd.at' (j := j) (by omega) huk
      have TK : Aside (injM (ps.take (j + 1)) M = putA (keyOf false (bs k)) (bs x) (injM (ps.take j) M)) := by
        show _ = _
        rw [List.take_succ_eq_append_getElem hlt, hp, injM_snoc, hk, hx]
        rfl
      have hin := pieceInject_any k x A1 p.2.2.length c1 cv b _ wr hcar
      clear hrd huk hk hx hpk hp hcar
      go_wp2_with (go_at_fn 104; fail)
      refine hin.mono ?_
      intro e w5 hpost
      obtain ⟨rfl, hcar5, hg5⟩ := hpost
      have P : Aside (w.grownBy w5 (some b) ∧ CarAt false w5 b (injM (ps.take (j + 1)) M)) := ⟨World.grownBy.trans hg hg5, by rw [TK.out]; exact hcar5⟩
      clear hin hcar5 hg5 hg
      go_wp2_with fail
      go_roundg (gk - 1)
      case rel => exact ⟨P.out.1, j + 1, by go_num, by omega, by omega, P.out.2⟩
      case measure => omega
    · rw [List.take_of_length_le (by omega)] at hcar
      have P : Aside (CarAt false wr b (injM ps M) ∧ w.grownBy wr (some b)) := ⟨hcar, hg⟩
      clear hcar hg
      go_wp2_with fail
      go_returns
      exact ⟨rfl, P.out.1, P.out.2⟩
end Go.Proofs.Ytfaokggblllcmaa
