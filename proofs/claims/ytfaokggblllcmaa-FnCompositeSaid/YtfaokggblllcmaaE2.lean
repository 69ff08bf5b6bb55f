/- Contracts: rows of pieces; zzFits10. -/
import Derived.Test.YtfaokggblllcmaaE1
import Derived.Test.YtfaokggblllcmaaD3
set_option linter.unusedVariables false
set_option linter.unusedSimpArgs false
namespace Go.Proofs.Ytfaokggblllcmaa
open Go Go.RowKit

theorem flat_get {n : Nat} : ∀ (css : List (List Value)) (i : Nat) (cs : List Value), (∀ c ∈ css, c.length = n) → css[i]? = some cs → ∀ j : Nat, j < n → css.flatten[i * n + j]? = cs[j]?
  | [], i, cs, _, hi, j, hj => by simp at hi
  | x :: r, 0, cs, h, hi, j, hj => by
    simp at hi
    subst hi
    rw [List.flatten_cons, Nat.zero_mul, Nat.zero_add, List.getElem?_append_left (by rw [h x (by simp)]; exact hj)]
  | x :: r, i + 1, cs, h, hi, j, hj => by
    have hx := h x (by simp)
    rw [List.flatten_cons, List.getElem?_append_right (by rw [hx, Nat.succ_mul]; omega), hx]
    have := flat_get r i cs (fun c hc => h c (by simp [hc])) (by simpa using hi) j hj
    rw [← this]
    congr 1
    rw [Nat.succ_mul]
    omega
/-- The three cells of a piece. -/
def PcC (ty : Bool) (w : World) (cs : List Value) (p : Pc) : Prop :=
  ∃ k x A c, cs = [.string k, .string x, .slice A p.2.2.length c] ∧ bs k = p.1 ∧ bs x = p.2.1 ∧ Rd ty w 9 (.slice A p.2.2.length c) p.2.2.length 1 (strs p.2.2)
/-- A row of pieces. -/
def PcRow (tr ty : Bool) (w : World) (e : TypeId) (v : Value) (ps : List Pc) : Prop := ∃ css, Rd tr w e v ps.length 3 css.flatten ∧ All2 (PcC ty w) css ps
theorem PcC.below {ty : Bool} {w w' : World} {cs : List Value} {p : Pc} (h : PcC ty w cs p) (hb : Below w.heap.size w w') : PcC ty w' cs p := by
  obtain ⟨k, x, A, c, h1, h2, h3, h4⟩ := h
  exact ⟨k, x, A, c, h1, h2, h3, h4.below hb⟩
theorem PcRow.below {tr ty : Bool} {w w' : World} {e : TypeId} {v : Value} {ps : List Pc} (h : PcRow tr ty w e v ps) (hb : Below w.heap.size w w') : PcRow tr ty w' e v ps := by
  obtain ⟨css, h1, h2⟩ := h
  exact ⟨css, h1.below hb, h2.imp (fun _ _ h => h.below hb)⟩
theorem all2_len3 {ty : Bool} {w : World} : ∀ (css : List (List Value)) (ps : List Pc), All2 (PcC ty w) css ps → ∀ c ∈ css, c.length = 3
  | [], _, _, c, h => by cases h
  | x :: r, [], h, _, _ => h.elim
  | x :: r, p :: ps, h, c, hc => by
    rcases List.mem_cons.1 hc with rfl | hc
    · obtain ⟨k, x, A, c, rfl, _⟩ := h.1
      rfl
    · exact all2_len3 r ps h.2 c hc
/-- What one reads at place j of a row of pieces. -/
theorem PcRow.get {tr ty : Bool} {w : World} {e : TypeId} {A : Option Addr} {c : Nat} {ps : List Pc} (h : PcRow tr ty w e (.slice A ps.length c) ps) {j : Nat} {p : Pc} (hp : ps[j]? = some p) :
    ∃ b o, A = some ⟨b, o, none⟩ ∧ ∃ k x A1 c1, bs k = p.1 ∧ bs x = p.2.1 ∧ Rd ty w 9 (.slice A1 p.2.2.length c1) p.2.2.length 1 (strs p.2.2) ∧ w.cell? ⟨b, o + j * 3, none⟩ = some (.string k) ∧ w.cell? ⟨b, o + j * 3 + 1, none⟩ = some (.string x) ∧ w.cell? ⟨b, o + j * 3 + 2, none⟩ = some (.slice A1 p.2.2.length c1) := by
  obtain ⟨css, hrd, hall⟩ := h
  have hlt := (List.getElem?_eq_some_iff.1 hp).1
  obtain ⟨b, o, c', he, -, -, -⟩ := hrd.cells (by omega)
  injection he with he1 he2 he3
  subst he1 he3
  obtain ⟨cs, hcs, k, x, A1, c1, rfl, hk, hx, hr⟩ := All2.get j p hall hp
  have hat := flat_get css j _ (all2_len3 css ps hall) hcs
  refine ⟨b, o, rfl, k, x, A1, c1, hk, hx, hr, hrd.at' (j := j * 3) rfl ?_, hrd.at' (j := j * 3 + 1) (by omega) ?_, hrd.at' (j := j * 3 + 2) (by omega) ?_⟩
  · have := hat 0 (by omega)
    simpa using this
  · have := hat 1 (by omega)
    simpa using this
  · have := hat 2 (by omega)
    simpa using this

set_option maxHeartbeats 2000000 in
set_option maxRecDepth 100000 in
theorem fits10_any {tr ty : Bool} (v : Value) (ps : List Pc) (w : World) (h : PcRow tr ty w 43 v ps) : Calls Try.prog 10 #[v] w (AnyB w) := by
  obtain ⟨A, c, rfl, hnc, hcm⟩ := (show ∃ A c, v = .slice A ps.length c ∧ ps.length ≤ c ∧ c ≤ 9223372036854775807 by obtain ⟨css, h1, _⟩ := h; exact h1.shape)
  have H : Aside (PcRow tr ty w 43 (.slice A ps.length c) ps) := h
  clear h
  by_cases a1 : (2147483647 : Int) < ps.length
  · go_enter Try.func10, Try.ntmps10
    go_wp2_with fail
    go_ret
    exact AnyB.mk _ (Below.refl _ _)
  · go_enter Try.func10, Try.ntmps10
    go_wp2_with fail
    go_loopg [10] (ps.length + 1) (fun gk i W => Below w.heap.size w W ∧ ∃ j : Nat, i = .int .i64 j ∧ j ≤ ps.length ∧ j + gk = ps.length + 1)
    case atStart => exact ⟨Below.refl _ _, 0, rfl, Nat.zero_le _, Nat.zero_add _⟩
    case round =>
      obtain ⟨hb, j, rfl, hj, hg⟩ := hrel
      have hws := hb.size
      by_cases hlt : j < ps.length
      · obtain ⟨p, hp⟩ : ∃ p, ps[j]? = some p := ⟨_, List.getElem?_eq_getElem hlt⟩
        obtain ⟨bk, o, hA, k, x, A1, c1, hk, hx, hr, e0, e1, e2⟩ := (H.out.below hb).get hp
        subst hA
        obtain ⟨fs, hfs⟩ : ∃ fs, p.2.2 = fs := ⟨_, rfl⟩
        rw [hfs] at hr e2
        have hA : Below wr.heap.size wr (wr.alloc (.cells #[.string k, .string x, .slice A1 fs.length c1] 43)) := (Below.refl _ _).alloc (Nat.le_refl _) _
        have hf := fits11_any k x A1 c1 fs (wr.alloc (.cells #[.string k, .string x, .slice A1 fs.length c1] 43)) (hr.below hA)
        clear hr hfs hk hx hp
        go_wp2_with (go_at_fn 17; fail)
        refine hf.mono ?_
        intro e w5 hpost
        obtain ⟨r, rfl, hb5⟩ := hpost
        have hb6 := below_then hb hws (hA.trans (hb5.mono hA.size))
        clear hf hb5 hA hb
        cases r
        · go_wp2_with fail
          go_ret
          exact AnyB.mk _ hb6
        · go_wp2_with fail
          go_roundg (gk - 1)
          case rel => exact ⟨hb6, j + 1, by go_num, by omega, by omega⟩
          case measure => omega
      · go_wp2_with fail
        go_ret
        exact AnyB.mk _ hb
end Go.Proofs.Ytfaokggblllcmaa
