/- Contract: laws.FnComposite. -/
import Derived.Test.YtfaokggblllcmaaE5
set_option linter.unusedVariables false
set_option linter.unusedSimpArgs false
namespace Go.Proofs.Ytfaokggblllcmaa
open Go Go.RowKit

theorem Try.info44 : (Try.prog.info? 44).map (fun i => (i.zero, i.size, i.bytes)) = some (some (.agg #[.string ⟨#[]⟩, .string ⟨#[]⟩, .slice none 0 0]), 3, 56) := by kernel_rfl
theorem Try.guard53 : Try.prog.eqGuardType Try.prog.depth 53 = false := by kernel_rfl
theorem equal53 (a b : ByteArray) (W : World) : (Op.equalIn 10000 53 (.agg #[.string a, .string b]) (.agg #[.string a, .string b])).run Try.prog W = .ok true W := by
  have hs : Try.prog.stoodInHeld 53 = false := by kernel_rfl
  go_simp
theorem neq53 (a b : ByteArray) (W : World) : (binOp .neq 53 (.agg #[.string a, .string b]) (.agg #[.string a, .string b])).run Try.prog W = .ok (.bool false) W := by
  rw [run_neq_struct, equal53]
  rfl
def StT (ty : Bool) (w : World) (ps : List Pc) (tv : Value) (W : World) : Prop := Below w.heap.size w W ∧ (∀ p ∈ ps, p.2.2.length ≤ 20) ∧ ∃ css, W.ownsRow w.heap.size 44 3 tv ps.length css.flatten ∧ All2 (PcC ty w) css ps
theorem ent_get {w : World} {T : TypeId} {A : Option Addr} {c : Nat} {es : KVs} (h : Rd true w T (.slice A es.length c) es.length 2 (es.flatMap ecells)) {j : Nat} {q : List UInt8 × List UInt8} (hq : es[j]? = some q) :
    ∃ b o, A = some ⟨b, o, none⟩ ∧ w.cell? ⟨b, o + j * 2, none⟩ = some (.string ⟨q.1.toArray⟩) ∧ w.cell? ⟨b, o + j * 2 + 1, none⟩ = some (.string ⟨q.2.toArray⟩) := by
  have hlt := (List.getElem?_eq_some_iff.1 hq).1
  obtain ⟨b, o, c', he, -, -, -⟩ := h.cells (by omega)
  injection he with he1 he2 he3
  subst he1 he3
  have hat := fun j' hj' => fm2 ecells ecells_len es j q hq j' hj'
  refine ⟨b, o, rfl, h.at' (j := j * 2) rfl ?_, h.at' (j := j * 2 + 1) (by omega) ?_⟩
  · have := hat 0 (by omega)
    simpa [ecells, S] using this
  · have := hat 1 (by omega)
    simpa [ecells, S] using this

set_option maxHeartbeats 8000000 in
set_option maxRecDepth 100000 in
theorem fnComposite_any {tr ty : Bool} (v : Value) (ps : List Pc) (w : World) (h : PcRow tr ty w 43 v ps) : Calls Try.prog 4 #[v] w (AwPost w) := by
  obtain ⟨A, c, rfl, hnc, hcm⟩ := (show ∃ A c, v = .slice A ps.length c ∧ ps.length ≤ c ∧ c ≤ 9223372036854775807 by obtain ⟨css, h1, _⟩ := h; exact h1.shape)
  have H : Aside (PcRow tr ty w 43 (.slice A ps.length c) ps) := h
  have hfi := fits10_any _ ps w h
  clear h
  go_enter Try.func4, Try.ntmps4
  go_wp2_with (go_at_fn 10; fail)
  refine hfi.mono ?_
  intro e w1 hpost
  obtain ⟨r, rfl, hb1⟩ := hpost
  clear hfi
  cases r
  · go_wp2_with fail
    go_ret
    exact ⟨rfl, hb1⟩
  · by_cases a1 : (50 : Int) < ps.length
    · have haw := awake_any w1
      go_wp2_with (go_at_fn 6; fail)
      refine haw.mono ?_
      rintro e w2 ⟨rfl, hb2⟩
      clear haw
      go_wp2_with fail
      go_ret
      exact ⟨rfl, below_then hb1 hb1.size hb2⟩
    · have hst : ps.length ≤ 50 := by omega
      go_upto_block 0 with fail
      clear a1
      go_cut [3] (fun tv W => StT ty w ps tv W)
      case first =>
        go_wp2_with fail
        go_loopg [3, 25] (ps.length + 1) (fun gk tv i W => Below w.heap.size w W ∧ ∃ (j : Nat) (css : List (List Value)), i = .int .i64 j ∧ j ≤ ps.length ∧ j + gk = ps.length + 1 ∧ Aside (∀ p ∈ ps.take j, p.2.2.length ≤ 20) ∧ W.ownsRow w.heap.size 44 3 tv j css.flatten ∧ Aside (All2 (PcC ty w) css (ps.take j)))
        case atStart => exact ⟨hb1, 0, [], rfl, Nat.zero_le _, Nat.zero_add _, fun s hs => by simp at hs, own_nil _ _ _ _, trivial⟩
        case round =>
          clear hb1
          obtain ⟨hb, j, css, rfl, hj, hgk, hok, ho, hall⟩ := hrel
          have hws := hb.size
          obtain ⟨PA, pc, rfl⟩ := own_shape ho
          by_cases hlt : j < ps.length
          · obtain ⟨p, hp⟩ : ∃ p, ps[j]? = some p := ⟨_, List.getElem?_eq_getElem hlt⟩
            obtain ⟨bk, o, hA, k, x, A1, c1, hk, hx, hr, e0, e1, e2⟩ := H.out.get hp
            subst hA
            replace e0 := cell_bel hb e0
            replace e1 := cell_bel hb e1
            replace e2 := cell_bel hb e2
            have TK : Aside (ps.take (j + 1) = ps.take j ++ [p] ∧ All2 (PcC ty w) (css ++ [[.string k, .string x, .slice A1 p.2.2.length c1]]) (ps.take (j + 1))) := by
              have e : ps.take (j + 1) = ps.take j ++ [p] := by rw [List.take_add_one, hp]; rfl
              refine ⟨e, ?_⟩
              rw [e]
              exact hall.out.append (l' := [_]) (m' := [p]) ⟨⟨k, x, A1, c1, rfl, hk, hx, hr⟩, trivial⟩
            obtain ⟨n1, hn1⟩ : ∃ n1, p.2.2.length = n1 := ⟨_, rfl⟩
            have PN : Aside (p.2.2.length = n1) := hn1
            rw [hn1] at hr e2 TK
            have hA : Below wr.heap.size wr (wr.alloc (.cells #[.string k, .string x, .slice A1 n1 c1] 43)) := (Below.refl _ _).alloc (Nat.le_refl _) _
            have hrow := heap_alloc_new wr (.cells #[.string k, .string x, .slice A1 n1 c1] 43)
            obtain ⟨w2, hw2⟩ : ∃ w2, wr.alloc (.cells #[.string k, .string x, .slice A1 n1 c1] 43) = w2 := ⟨_, rfl⟩
            rw [hw2] at hA hrow
            obtain ⟨⟨c0, c1', c2⟩, f0, f1, f2⟩ := row3 hrow
            have ho2 := own_below (C := 0) ho hA
            have hb2 := below_then hb hws hA
            have hws2 := hb2.size
            have haw := awake_any w2
            have HW : wr.alloc (.cells #[.string k, .string x, .slice A1 n1 c1] 43) = w2 := hw2
            clear hr hp hn1 hk hx ho hA hrow hw2 hall hb
            by_cases b1 : (20 : Int) < n1
            · go_wp2_with (go_at_fn 6; fail)
              refine haw.mono ?_
              rintro e w3 ⟨rfl, hb3⟩
              clear haw
              go_wp2_with fail
              go_ret
              exact ⟨rfl, below_then hb2 hws2 hb3⟩
            · clear haw
              go_wp2_with (at_builtin; go_must (refine wp_app (W := w2) w.heap.size rfl (.tmp 34) (.tmp 36) 41 rfl 44 _ 3 56 Try.underlying41 Try.info44 rfl (by decide) (.slice PA j pc) j _ [.string k, .string x, .slice A1 n1 c1] rfl rfl rfl (by intro u hu; simp at hu; rcases hu with rfl | rfl | rfl <;> rfl) ho2 hws2 (by omega) (by omega) ?_); intro v1 w6 ho6 hb6 hf6 hs6)
              go_roundg (gk - 1)
              case rel =>
                refine ⟨hb2.trans hb6, j + 1, css ++ [[.string k, .string x, .slice A1 n1 c1]], by go_num, by omega, by omega, ?_, ?_, ?_⟩
                · show ∀ s ∈ _, _
                  rw [TK.out.1]
                  intro s' hs'
                  rcases List.mem_append.1 hs' with hs' | hs'
                  · exact hok.out s' hs'
                  · rw [List.mem_singleton.1 hs', PN.out]
                    omega
                · rw [List.flatten_append]
                  simpa using ho6
                · exact TK.out.2
              case measure => omega
          · have hjl : j = ps.length := by omega
            subst hjl
            have hok2 := hok.out
            have hall2 := hall.out
            rw [List.take_length] at hok2 hall2
            have P : Aside ((∀ p ∈ ps, p.2.2.length ≤ 20) ∧ All2 (PcC ty w) css ps) := ⟨hok2, hall2⟩
            clear hok2 hok hall hall2
            go_wp2_with fail
            go_meet
            exact ⟨hb, P.out.1, css, ho, P.out.2⟩
      case rest =>
        clear hb1
        obtain ⟨hb, hok, css, ho, hall⟩ := hcut
        obtain ⟨TA, tc, rfl⟩ := own_shape ho
        have hws := hb.size
        have OK : Aside ((∀ p ∈ ps, p.2.2.length ≤ 100) ∧ PcRow true ty wc 44 (.slice TA ps.length tc) ps) := ⟨fun p hp => Nat.le_trans (hok p hp) (by omega), css, Rd.of_own ho, hall.imp (fun _ _ h => h.below hb)⟩
        have hpd := PiecesDo_any _ ps wc (H.out.below hb) (by omega) OK.out.1
        clear hok ho hall
        go_wp2_with (go_at_fn 11; fail)
        refine hpd.mono ?_
        intro e w2 hpost
        obtain ⟨v1, v2, v3, rfl, hr1, hr2, hr3, hb2⟩ := hpost
        have hb12 := below_then hb hws hb2
        have hco := Composite_any _ ps w2 (OK.out.2.below hb2) (by omega) OK.out.1
        obtain ⟨A1, c1, rfl, _, _⟩ := hr1.shape
        obtain ⟨A2, c2, rfl, _, _⟩ := hr2.shape
        obtain ⟨A3, c3, rfl, _, _⟩ := hr3.shape
        have hEl : (entsOf (injM ps [])).length ≤ 50 := by
          unfold entsOf
          rw [List.length_map, sortT_len, List.length_map]
          exact Nat.le_trans (injM_len ps) hst
        have hGl : (seenOf ps (injM ps [])).length ≤ 50 := by
          unfold seenOf
          rw [List.length_map]
          exact hst
        obtain ⟨E, hE⟩ : ∃ E, entsOf (injM ps []) = E := ⟨_, rfl⟩
        obtain ⟨F, hF⟩ : ∃ F, sortT (fieldsOf ps) = F := ⟨_, rfl⟩
        obtain ⟨G, hG⟩ : ∃ G, seenOf ps (injM ps []) = G := ⟨_, rfl⟩
        unfold PiecesPost at hco
        rw [hE, hF, hG] at hco
        rw [hE] at hr1 hEl ⊢
        rw [hF] at hr2 ⊢
        rw [hG] at hr3 hGl ⊢
        have R2 : Aside (Rd true w2 53 (.slice A1 E.length c1) E.length 2 (E.flatMap ecells) ∧ Rd true w2 9 (.slice A2 F.length c2) F.length 1 (strs F) ∧ Rd true w2 53 (.slice A3 G.length c3) G.length 2 (G.flatMap ecells)) := ⟨hr1, hr2, hr3⟩
        clear hpd hr1 hr2 hr3 hb2 hb hE hF hG
        go_wp2_with (go_at_fn 12; fail)
        refine hco.mono ?_
        intro e w3 hpost
        obtain ⟨u1, u2, u3, rfl, hr1, hr2, hr3, hb3⟩ := hpost
        have hb13 := below_then hb12 hb12.size hb3
        obtain ⟨B1, d1, rfl, _, _⟩ := hr1.shape
        obtain ⟨B2, d2, rfl, _, _⟩ := hr2.shape
        obtain ⟨B3, d3, rfl, _, _⟩ := hr3.shape
        have heq := eq_strs _ _ F F w3 hr2 (R2.out.2.1.below hb3)
        rw [decide_eq_true rfl] at heq
        have R3 : Aside (Rd true w3 53 (.slice A1 E.length c1) E.length 2 (E.flatMap ecells) ∧ Rd true w3 53 (.slice A3 G.length c3) G.length 2 (G.flatMap ecells) ∧ Rd true w3 52 (.slice B1 E.length d1) E.length 2 (E.flatMap ecells) ∧ Rd true w3 52 (.slice B3 G.length d3) G.length 2 (G.flatMap ecells)) := ⟨R2.out.1.below hb3, R2.out.2.2.below hb3, hr1, hr3⟩
        clear hco hr1 hr2 hr3 hb3 hb12 R2
        have hbl := hb13.size
        go_wp2_with (go_at_fn 9; fail)
        refine heq.mono ?_
        rintro e w4 ⟨rfl, q, rfl⟩
        have hb34 : Below w3.heap.size w3 (w3.drewN q) := below_drewN' (Below.refl _ _) _
        obtain ⟨w4, hw4⟩ : ∃ w4, w3.drewN q = w4 := ⟨_, rfl⟩
        rw [hw4] at hb34 ⊢
        clear heq hw4
        go_upto_block 2 with fail
        go_cut [] (fun W => Below w3.heap.size w3 W)
        case first =>
          go_wp2_with fail
          go_loopg [71] (E.length + 1) (fun gk i W => Below w3.heap.size w3 W ∧ ∃ j : Nat, i = .int .i64 j ∧ j ≤ E.length ∧ j + gk = E.length + 1)
          case atStart => exact ⟨hb34, 0, rfl, Nat.zero_le _, Nat.zero_add _⟩
          case round =>
            obtain ⟨hb, j, rfl, hj, hgk⟩ := hrel
            have hws := hb.size
            by_cases hlt : j < E.length
            · obtain ⟨q, hq⟩ : ∃ q, E[j]? = some q := ⟨_, List.getElem?_eq_getElem hlt⟩
              obtain ⟨b1, o1, hA1, x0, x1⟩ := ent_get (R3.out.1.below hb) hq
              obtain ⟨b2, o2, hB1, y0, y1⟩ := ent_get (R3.out.2.2.1.below hb) hq
              subst hA1 hB1
              obtain ⟨a, ha⟩ : ∃ a : ByteArray, (⟨q.1.toArray⟩ : ByteArray) = a := ⟨_, rfl⟩
              obtain ⟨b, hb'⟩ : ∃ b : ByteArray, (⟨q.2.toArray⟩ : ByteArray) = b := ⟨_, rfl⟩
              rw [ha] at x0 y0
              rw [hb'] at x1 y1
              have hA : Below wr.heap.size wr (wr.alloc (.cells #[.string a, .string b] 52)) := (Below.refl _ _).alloc (Nat.le_refl _) _
              have hrow := heap_alloc_new wr (.cells #[.string a, .string b] 52)
              obtain ⟨w5, hw5⟩ : ∃ w5, wr.alloc (.cells #[.string a, .string b] 52) = w5 := ⟨_, rfl⟩
              rw [hw5] at hA hrow
              obtain ⟨⟨c0, c1'⟩, f0, f1⟩ := row2 hrow
              have hb5 := below_then hb hws hA
              have hb6 : Below w3.heap.size w3 w5.drew := hb5.drew
              have HW : wr.alloc (.cells #[.string a, .string b] 52) = w5 := hw5
              have x0' := cell_bel hA x0
              have x1' := cell_bel hA x1
              have q0 : w5.drew.cell? ⟨b1, o1 + j * 2, none⟩ = some (.string a) := x0'
              have q1 : w5.drew.cell? ⟨b1, o1 + j * 2 + 1, none⟩ = some (.string b) := x1'
              have p0 : w5.drew.cell? ⟨wr.heap.size, 0, none⟩ = some (.string a) := c0
              have p1 : w5.drew.cell? ⟨wr.heap.size, 1, none⟩ = some (.string b) := c1'
              have hgd := Try.guard53
              have hne := neq53 a b
              clear hq ha hb' hA hrow hw5 hb
              go_wp2_with fail
              clear x0 x1 y0 y1 x0' x1' c0 c1' f0 f1 HW hb5
              go_region_law (fail)
              all_goals
                go_wp2_with fail
                go_roundg (gk - 1)
                case rel => exact ⟨hb6, j + 1, by go_num, by omega, by omega⟩
                case measure => omega
            · go_wp2_with fail
              go_meet
              exact hb
        case rest =>
          clear hb34
          go_wp2_with fail
          go_loopg [85] (G.length + 1) (fun gk i W => Below w3.heap.size w3 W ∧ ∃ j : Nat, i = .int .i64 j ∧ j ≤ G.length ∧ j + gk = G.length + 1)
          case atStart => exact ⟨hcut, 0, rfl, Nat.zero_le _, Nat.zero_add _⟩
          case round =>
            obtain ⟨hb, j, rfl, hj, hgk⟩ := hrel
            have hws := hb.size
            by_cases hlt : j < G.length
            · obtain ⟨q, hq⟩ : ∃ q, G[j]? = some q := ⟨_, List.getElem?_eq_getElem hlt⟩
              obtain ⟨b1, o1, hA1, x0, x1⟩ := ent_get (R3.out.2.1.below hb) hq
              obtain ⟨b2, o2, hB1, y0, y1⟩ := ent_get (R3.out.2.2.2.below hb) hq
              subst hA1 hB1
              obtain ⟨a, ha⟩ : ∃ a : ByteArray, (⟨q.1.toArray⟩ : ByteArray) = a := ⟨_, rfl⟩
              obtain ⟨b, hb'⟩ : ∃ b : ByteArray, (⟨q.2.toArray⟩ : ByteArray) = b := ⟨_, rfl⟩
              rw [ha] at x0 y0
              rw [hb'] at x1 y1
              have hA : Below wr.heap.size wr (wr.alloc (.cells #[.string a, .string b] 52)) := (Below.refl _ _).alloc (Nat.le_refl _) _
              have hrow := heap_alloc_new wr (.cells #[.string a, .string b] 52)
              obtain ⟨w5, hw5⟩ : ∃ w5, wr.alloc (.cells #[.string a, .string b] 52) = w5 := ⟨_, rfl⟩
              rw [hw5] at hA hrow
              obtain ⟨⟨c0, c1'⟩, f0, f1⟩ := row2 hrow
              have hb5 := below_then hb hws hA
              have hb6 : Below w3.heap.size w3 w5.drew := hb5.drew
              have HW : wr.alloc (.cells #[.string a, .string b] 52) = w5 := hw5
              have x0' := cell_bel hA x0
              have x1' := cell_bel hA x1
              have q0 : w5.drew.cell? ⟨b1, o1 + j * 2, none⟩ = some (.string a) := x0'
              have q1 : w5.drew.cell? ⟨b1, o1 + j * 2 + 1, none⟩ = some (.string b) := x1'
              have p0 : w5.drew.cell? ⟨wr.heap.size, 0, none⟩ = some (.string a) := c0
              have p1 : w5.drew.cell? ⟨wr.heap.size, 1, none⟩ = some (.string b) := c1'
              have hgd := Try.guard53
              have hne := neq53 a b
              clear hq ha hb' hA hrow hw5 hb
              go_wp2_with fail
              clear x0 x1 y0 y1 x0' x1' c0 c1' f0 f1 HW hb5
              go_region_law (fail)
              all_goals
                go_wp2_with fail
                go_roundg (gk - 1)
                case rel => exact ⟨hb6, j + 1, by go_num, by omega, by omega⟩
                case measure => omega
            · have hb14 := below_then hb13 hbl hb
              have haw := awake_any wr
              go_wp2_with (go_at_fn 6; fail)
              refine haw.mono ?_
              rintro e w4 ⟨rfl, hb4⟩
              clear haw
              go_wp2_with fail
              go_ret
              exact ⟨rfl, below_then hb14 hb14.size hb4⟩
end Go.Proofs.Ytfaokggblllcmaa
