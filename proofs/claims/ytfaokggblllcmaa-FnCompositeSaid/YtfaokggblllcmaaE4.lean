/- Contract: impl.Composite. -/
import Derived.Test.YtfaokggblllcmaaE3
set_option linter.unusedVariables false
set_option linter.unusedSimpArgs false
namespace Go.Proofs.Ytfaokggblllcmaa
open Go Go.RowKit

theorem Try.info76 : (Try.prog.info? 76).map (fun i => (i.zero, i.size, i.bytes)) = some (some .nilIface, 1, 16) := by kernel_rfl
theorem PcV.below {ty : Bool} {w w' : World} {u : Value} {p : Pc} (h : PcV ty w u p) (hb : Below w.heap.size w w') : PcV ty w' u p := by
  obtain ⟨k, x, A, c, h1, h2, h3, h4⟩ := h
  exact ⟨k, x, A, c, h1, h2, h3, h4.below hb⟩
theorem PRow.below {ty : Bool} {w w' : World} {v : Value} {ps : List Pc} (h : PRow ty w v ps) (hb : Below w.heap.size w w') : PRow ty w' v ps := by
  obtain ⟨us, h1, h2⟩ := h
  exact ⟨us, h1.below hb, h2.imp (fun _ _ h => h.below hb)⟩
theorem nil_inj95 (A : Option Addr) (n c : Nat) (W : World) : (nilAhead 272 95 (.slice A n c) "Inject").run Try.prog W = .ok (some false) W := by kernel_rfl
theorem nil_ext95 (A : Option Addr) (n c : Nat) (W : World) : (nilAhead 272 95 (.slice A n c) "Extract").run Try.prog W = .ok (some false) W := by kernel_rfl
theorem method_inj95 (A : Option Addr) (n c : Nat) (W : World) : (method 272 95 (.slice A n c) "Inject").run Try.prog W = .ok (108, .slice A n c) W := by kernel_rfl
theorem method_ext95 (A : Option Addr) (n c : Nat) (W : World) : (method 272 95 (.slice A n c) "Extract").run Try.prog W = .ok (106, .slice A n c) W := by kernel_rfl
theorem method_val96 (W : World) : (method 272 96 (.agg #[]) "Value").run Try.prog W = .ok (109, .agg #[]) W := by kernel_rfl
theorem method_val167 (v : Value) (W : World) : (method 272 167 v "Value").run Try.prog W = .ok (115, v) W := by kernel_rfl
theorem Rd.grownMapF {ty : Bool} {w w' : World} {t : TypeId} {v : Value} {n sz : Nat} {xs : List Value} {b : Nat} {L : List KV} (h : Rd ty w t v n sz xs) (hm : MapAt w b L) (hg : w.grownBy w' (some b)) : Rd ty w' t v n sz xs := by
  obtain ⟨A, c, h1, h2, h3, h4, h5⟩ := h
  obtain ⟨es, cl, q, _⟩ := hm
  refine ⟨A, c, h1, h2, h3, h4, h5.imp id fun ⟨k, o, k1, k2, k3⟩ => ⟨k, o, k1, fun j u hj => ?_, fun hty => ?_⟩⟩
  · have hc := k2 j u hj
    have hkb : k ≠ b := by
      intro e
      subst e
      unfold World.cell? at hc
      simp [q] at hc
    exact cell_keep (hg.block k (lt_of_cell hc) (by intro e; injection e with e; omega)) hc
  · obtain ⟨cs, fr, hc⟩ := k3 hty
    have hkb : k ≠ b := by
      intro e
      subst e
      rw [q] at hc
      cases hc
    exact ⟨cs, fr, (hg.block k (Array.getElem?_eq_some_iff.1 hc).1 (by intro e; injection e with e; omega)).trans hc⟩
theorem PRow.grownMap {ty : Bool} {w w' : World} {v : Value} {ps : List Pc} {b : Nat} {L : List KV} (h : PRow ty w v ps) (hm : MapAt w b L) (hg : w.grownBy w' (some b)) : PRow ty w' v ps := by
  obtain ⟨us, h1, h2⟩ := h
  refine ⟨us, h1.grownMapF hm hg, h2.imp (fun u p hp => ?_)⟩
  obtain ⟨k, x, A, c, q1, q2, q3, q4⟩ := hp
  exact ⟨k, x, A, c, q1, q2, q3, q4.grownMapF hm hg⟩
set_option maxHeartbeats 1000000 in
set_option maxRecDepth 100000 in
theorem extract_nil (A : Option Addr) (n c : Nat) (hn : n = 0) (cv m : Value) (w : World) : Calls Try.prog 106 #[.slice A n c, cv, m] w fun e w' => e = .returned cv ∧ w' = w := by
  subst hn
  go_enter Try.func106, Try.ntmps106
  go_wp2_with fail
  go_loopg [1, 11] 1 (fun gk c1 i W => W = w ∧ c1 = cv ∧ i = .int .i64 0)
  case atStart => exact ⟨rfl, rfl, rfl⟩
  case round =>
    obtain ⟨rfl, rfl, rfl⟩ := hrel
    go_wp2_with fail
    go_ret
    exact ⟨rfl, rfl⟩
theorem ext_some {w : World} {u : Value} {es : KVs} (h : CxV w u es) (hne : es ≠ []) : ∃ tp pv g cc, u = .iface 167 (.agg #[.iface tp pv, .iface 86 (.agg #[]), .iface 48 (.slice (some ⟨g, 0, none⟩) es.length cc)]) ∧ Rd true w 52 (.slice (some ⟨g, 0, none⟩) es.length cc) es.length 2 (es.flatMap ecells) := by
  rcases h with ⟨h2, _⟩ | h
  · exact (hne h2).elim
  · exact h
def StS (w : World) (es : KVs) (sv : Value) (W : World) : Prop := Below w.heap.size w W ∧ Rd true W 52 sv es.length 2 (es.flatMap ecells)
def StP (ty : Bool) (w : World) (ps : List Pc) (pv : Value) (W : World) : Prop := Below w.heap.size w W ∧ ∃ us, W.ownsRow w.heap.size 76 1 pv ps.length us ∧ All2 (PcV ty w) us ps

set_option maxHeartbeats 8000000 in
set_option maxRecDepth 100000 in
theorem Composite_any {tr ty : Bool} (v : Value) (ps : List Pc) (w : World) (h : PcRow tr ty w 44 v ps) (hn : ps.length ≤ 100) (hf : ∀ p ∈ ps, p.2.2.length ≤ 100) : Calls Try.prog 12 #[v] w (PiecesPost 52 ps w) := by
  obtain ⟨A, c, rfl, hnc, hcm⟩ := (show ∃ A c, v = .slice A ps.length c ∧ ps.length ≤ c ∧ c ≤ 9223372036854775807 by obtain ⟨css, h1, _⟩ := h; exact h1.shape)
  have H : Aside (PcRow tr ty w 44 (.slice A ps.length c) ps ∧ ∀ p ∈ ps, p.2.2.length ≤ 100) := ⟨h, hf⟩
  clear h hf
  go_enter Try.func12, Try.ntmps12
  go_upto_block 0 with fail
  go_cut [5] (fun pv W => StP ty w ps pv W)
  case first =>
    go_wp2_with fail
    go_loopg [5, 12] (ps.length + 1) (fun gk pv i W => Below w.heap.size w W ∧ ∃ (j : Nat) (us : List Value), i = .int .i64 j ∧ j ≤ ps.length ∧ j + gk = ps.length + 1 ∧ W.ownsRow w.heap.size 76 1 pv j us ∧ Aside (All2 (PcV ty w) us (ps.take j)))
    case atStart => exact ⟨Below.refl _ _, 0, [], rfl, Nat.zero_le _, Nat.zero_add _, own_nil _ _ _ _, trivial⟩
    case round =>
      obtain ⟨hb, j, us, rfl, hj, hgk, ho, hall⟩ := hrel
      have hws := hb.size
      obtain ⟨PA, pc, rfl⟩ := own_shape ho
      by_cases hlt : j < ps.length
      · obtain ⟨p, hp⟩ : ∃ p, ps[j]? = some p := ⟨_, List.getElem?_eq_getElem hlt⟩
        obtain ⟨bk, o, hA, k, x, A1, c1, hk, hx, hr, e0, e1, e2⟩ := H.out.1.get hp
        subst hA
        replace e0 := cell_bel hb e0
        replace e1 := cell_bel hb e1
        replace e2 := cell_bel hb e2
        have TK : Aside (All2 (PcV ty w) (us ++ [.iface 74 (.agg #[.string k, .string x, .slice A1 p.2.2.length c1])]) (ps.take (j + 1))) := by
          show All2 _ _ _
          rw [List.take_add_one, hp]
          exact hall.out.append (l' := [_]) (m' := [p]) ⟨⟨k, x, A1, c1, rfl, hk, hx, hr⟩, trivial⟩
        obtain ⟨n1, hn1⟩ : ∃ n1, p.2.2.length = n1 := ⟨_, rfl⟩
        rw [hn1] at hr e2 TK
        have hA : Below wr.heap.size wr (wr.alloc (.cells #[.string k, .string x, .slice A1 n1 c1] 44)) := (Below.refl _ _).alloc (Nat.le_refl _) _
        have hrow := heap_alloc_new wr (.cells #[.string k, .string x, .slice A1 n1 c1] 44)
        obtain ⟨w2, hw2⟩ : ∃ w2, wr.alloc (.cells #[.string k, .string x, .slice A1 n1 c1] 44) = w2 := ⟨_, rfl⟩
        rw [hw2] at hA hrow
        obtain ⟨⟨c0, c1', c2⟩, f0, f1, f2⟩ := row3 hrow
        have ho2 := own_below (C := 0) ho hA
        have hb2 := below_then hb hws hA
        have hws2 := hb2.size
        have HW : wr.alloc (.cells #[.string k, .string x, .slice A1 n1 c1] 44) = w2 := hw2
        clear hr hp hn1 hk hx ho hA hrow hw2 hall hb
        go_wp2_with (at_builtin; go_must (refine wp_app (W := w2) w.heap.size rfl (.tmp 16) (.tmp 20) 72 rfl 76 .nilIface 1 16 Try.underlying72 Try.info76 rfl (by decide) (.slice PA j pc) j _ [.iface 74 (.agg #[.string k, .string x, .slice A1 n1 c1])] rfl rfl rfl (by intro u hu; rw [List.mem_singleton.1 hu]; rfl) ho2 hws2 (by omega) (by omega) ?_); intro v1 w6 ho6 hb6 hf6 hs6)
        go_roundg (gk - 1)
        case rel => exact ⟨hb2.trans hb6, j + 1, _, by go_num, by omega, by omega, ho6, TK.out⟩
        case measure => omega
      · have hjl : j = ps.length := by omega
        subst hjl
        have hall2 := hall.out
        rw [List.take_length] at hall2
        go_wp2_with fail
        go_meet
        exact ⟨hb, us, ho, hall2⟩
  case rest =>
    obtain ⟨hb, us, ho, hall⟩ := hcut
    obtain ⟨PA, pc, rfl⟩ := own_shape ho
    have hws := hb.size
    have hPR : PRow ty wc (.slice PA ps.length pc) ps := ⟨us, Rd.of_own ho, hall.imp (fun _ _ h => h.below hb)⟩
    have hb1 : Below wc.heap.size wc (wc.alloc (.map #[] 0)) := (Below.refl _ _).alloc (Nat.le_refl _) _
    have hM1 : CarAt false (wc.alloc (.map #[] 0)) wc.heap.size [] := ⟨[], MapAt.made wc, trivial⟩
    have hPR1 := hPR.below hb1
    have hmk := run_mm 59
    obtain ⟨w1, hw1⟩ : ∃ w1, wc.alloc (.map #[] 0) = w1 := ⟨_, rfl⟩
    rw [hw1] at hb1 hM1 hPR1
    have HW : wc.alloc (.map #[] 0) = w1 := hw1
    have hbw1 := below_then hb hws hb1
    have hnc2 := newComposite_any PA ps.length pc w1
    clear hw1 ho hall hPR hb hb1
    go_wp2_with (go_at_fn 19; fail)
    refine hnc2.mono ?_
    rintro e w2 ⟨rfl, hw2⟩
    replace hw2 := hw2.symm
    subst hw2
    clear hnc2
    go_upto_region 9 with fail
    obtain ⟨mb, hmb⟩ : ∃ mb, wc.heap.size = mb := ⟨_, rfl⟩
    rw [hmb] at hM1 hws ⊢
    clear HW hmk hmb
    go_cut [] (fun W => Below w.heap.size w W ∧ PRow ty W (.slice PA ps.length pc) ps ∧ CarAt false W mb (injM ps []))
    case first =>
      have hin := inject_any (.slice PA ps.length pc) (.iface 96 (.agg #[])) ps mb [] w1.drew (hPR1.below (Below.refl _ _).drew) (hM1.below (Below.refl _ _).drew)
      have hbg := background_any w1.drew
      have hni := nil_inj95 PA ps.length pc
      have hmi := method_inj95 PA ps.length pc
      have hMd : CarAt false w1.drew mb [] := hM1.below (Below.refl _ _).drew
      have hPd : PRow ty w1.drew (.slice PA ps.length pc) ps := hPR1.below (Below.refl _ _).drew
      clear hM1 hPR1
      go_region_law (first
        | (go_simp; go_at_call 20; refine hbg.mono ?_; rintro e w4 ⟨rfl, hw4⟩; replace hw4 := hw4.symm; subst hw4)
        | (go_simp; go_at_call 108; refine hin.mono ?_; intro e w5 hpost; obtain ⟨rfl, hcar5, hg5⟩ := hpost))
      all_goals
        go_wp2_with fail
        go_meet
        obtain ⟨L1, hL1, hA1⟩ := hMd
        exact ⟨(hbw1.drew).grown hg5 hbw1.size (by intro q hq; injection hq with hq; omega), hPd.grownMap hL1 hg5, hcar5⟩
    case rest =>
      clear hM1 hPR1 hbw1
      obtain ⟨hb, hPR, hcar⟩ := hcut
      obtain ⟨w2, hw2⟩ : ∃ w2, wc = w2 := ⟨_, rfl⟩
      rw [hw2] at hb hPR hcar ⊢
      clear hw2
      have hfl := fieldsOf_le 100 ps H.out.2
      have hMl := injM_len ps
      obtain ⟨M, hM⟩ : ∃ M, injM ps [] = M := ⟨_, rfl⟩
      obtain ⟨F, hF⟩ : ∃ F, fieldsOf ps = F := ⟨_, rfl⟩
      have MF : Aside (injM ps [] = M ∧ fieldsOf ps = F) := ⟨hM, hF⟩
      have hfd := fields_any _ ps w2 hPR (by omega) H.out.2 (by omega)
      rw [hM] at hcar hMl
      clear hM hF hfl
      have hws2 := hb.size
      go_wp2_with (go_at_fn 107; fail)
      refine hfd.mono ?_
      intro e w3 hpost
      obtain ⟨v3, ks, rfl, ho3, hpk, hb3, g3, c3, rfl⟩ := hpost
      have hkl := hpk.length_eq
      have hfl := fieldsOf_le 100 ps H.out.2
      have hso := sort16 _ _ ks w3 ho3 (by omega)
      have KS : Aside (sortT ks = sortT F ∧ (sortT F).length = ks.length) := by
        refine ⟨by rw [sortT_perm hpk, MF.out.2], ?_⟩
        rw [sortT_len, ← MF.out.2, hkl]
      clear hfd hkl hfl hpk ho3
      go_wp2_with (go_at_fn 16; fail)
      refine hso.mono ?_
      intro e w4 hpost
      obtain ⟨rfl, hrd4, hf4, hb4⟩ := hpost
      have hb24 := hb3.trans hb4
      rw [KS.out.1] at hrd4
      have HF : Aside (Rd true w4 9 (.slice (some ⟨g3, 0, none⟩) ks.length c3) ks.length 1 (strs (sortT F))) := hrd4
      have hb14 := below_then hb hws2 hb24
      have hcar4 := hcar.below hb24
      have hPR4 := hPR.below hb24
      clear hso hrd4 hf4 hb4 hb3 hb24 hcar hPR hb hws2
      go_upto_region 12 with fail
      go_cut [4] (fun sv W => StS w4 (seenOf ps M) sv W)
      case first =>
        have hbd : Below w4.heap.size w4 w4.drew := (Below.refl _ _).drew
        have hbg := background_any w4.drew
        have hne := nil_ext95 PA ps.length pc
        have hme := method_ext95 PA ps.length pc
        have hcard := hcar4.below hbd
        have hPRd := hPR4.below hbd
        clear hcar4 hPR4
        by_cases hz : ps = []
        · have hl0 : ps.length = 0 := by rw [hz]; rfl
          have HE : Aside (seenOf ps M = []) := by show _ = _; rw [hz]; rfl
          have hex := extract_nil PA ps.length pc hl0 (.iface 96 (.agg #[])) (.iface 59 (.map (some mb))) w4.drew
          have hem := emptyValue_any (.iface 86 (.agg #[])) w4.drew
          have hm96 := method_val96
          have han := assert_nil
          clear hz hl0 hcard hPRd hn hnc
          go_region_law (first
            | (go_simp; go_at_call 20; refine hbg.mono ?_; rintro e w5 ⟨rfl, hw5⟩; replace hw5 := hw5.symm; subst hw5)
            | (go_simp; go_at_call 106; refine hex.mono ?_; rintro e w5 ⟨rfl, hw5⟩; replace hw5 := hw5.symm; subst hw5)
            | (go_simp; go_at_call 109; refine hem.mono ?_; rintro e w6 ⟨rfl, hb6⟩))
          all_goals
            go_wp2_with fail
            go_meet
            refine ⟨hbd.trans hb6, ?_⟩
            rw [HE.out]
            exact Rd.nil _ _ _ _
        · have hnz : seenOf ps M ≠ [] := by
            intro e
            apply hz
            have := congrArg List.length e
            unfold seenOf at this
            rw [List.length_map] at this
            exact List.eq_nil_of_length_eq_zero this
          have NZ : Aside (seenOf ps M ≠ []) := hnz
          have hex := extract_any (.slice PA ps.length pc) ps mb M w4.drew hPRd (by omega) hcard
          obtain ⟨es, hes⟩ : ∃ es, seenOf ps M = es := ⟨_, rfl⟩
          have HE : Aside (seenOf ps M = es) := hes
          rw [hes] at hex NZ
          clear hz hnz hes hcard hPRd
          have hm167 := method_val167
          have ha48 := assert_48
          go_region_law (first
            | (go_simp; go_at_call 20; refine hbg.mono ?_; rintro e w4 ⟨rfl, hw4⟩; replace hw4 := hw4.symm; subst hw4)
            | (go_simp; go_at_call 106; refine hex.mono ?_; intro e w5 hpost; obtain ⟨u5, rfl, hcx5, hb5⟩ := hpost; obtain ⟨tp, pv, g5, c5, rfl, hr5⟩ := ext_some hcx5 NZ.out; have hvv := valuedValue_any tp 48 pv (.slice (some ⟨g5, 0, none⟩) es.length c5) w5)
            | (go_simp; go_at_call 115; refine hvv.mono ?_; rintro e w6 ⟨rfl, hb6⟩))
          all_goals
            go_wp2_with fail
            go_meet
            refine ⟨(hbd.trans hb5).trans (hb6.mono hb5.size), ?_⟩
            rw [HE.out]
            exact hr5.below hb6
      case rest =>
        obtain ⟨hb, hrdS⟩ := hcut
        obtain ⟨SA, sc, rfl, _, _⟩ := hrdS.shape
        have HS : Aside (Rd true wc 52 (.slice SA (seenOf ps M).length sc) (seenOf ps M).length 2 ((seenOf ps M).flatMap ecells) ∧ Rd true wc 9 (.slice (some ⟨g3, 0, none⟩) ks.length c3) ks.length 1 (strs (sortT F)) ∧ Below w.heap.size w wc) := ⟨hrdS, HF.out.below hb, below_then hb14 hb14.size hb⟩
        have hen := entriesOf_any mb M wc (hcar4.below hb) (by omega)
        clear hrdS hb hcar4 hPR4 HF hb14
        go_wp2_with (go_at_fn 21; fail)
        refine hen.mono ?_
        intro e w7 hpost
        obtain ⟨v7, rfl, hrd7, hb7⟩ := hpost
        have HE : Aside (Rd true w7 52 v7 (entsOf M).length 2 ((entsOf M).flatMap ecells) ∧ Below wc.heap.size wc w7) := ⟨hrd7, hb7⟩
        clear hen hrd7 hb7
        go_wp2_with fail
        go_ret3
        refine ⟨_, _, _, rfl, ?_, ?_, ?_, below_then HS.out.2.2 HS.out.2.2.size HE.out.2⟩
        · rw [MF.out.1]; exact HE.out.1
        · rw [MF.out.2, KS.out.2]; exact HS.out.2.1.below HE.out.2
        · rw [MF.out.1]; exact HS.out.1.below HE.out.2
end Go.Proofs.Ytfaokggblllcmaa
