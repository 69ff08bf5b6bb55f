/- Contract: laws.FnCarrier. -/
import Derived.Test.YtfaokggblllcmaaE5
import Derived.Test.YtfaokggblllcmaaC9
set_option linter.unusedVariables false
set_option linter.unusedSimpArgs false
namespace Go.Proofs.Ytfaokggblllcmaa
open Go Go.RowKit

theorem Try.info28 : (Try.prog.info? 28).map (fun i => (i.zero, i.size, i.bytes)) = some (some (.agg #[.int .u8 0, .string ⟨#[]⟩, .string ⟨#[]⟩]), 3, 40) := by kernel_rfl
theorem run8_any {ty : Bool} (hd : Bool) (v : Value) (st : List Stp) (w : World) (h : Rd ty w 28 v st.length 3 (st.flatMap scells)) (hn : st.length ≤ 1000) (hok : ∀ s ∈ st, StOk s) :
    Calls Try.prog 8 #[.bool hd, v] w (AnsPost 35 (runC hd st []) w) := by
  cases hd
  · exact CarrierRunM_any v st w h hn hok
  · exact CarrierRunH_any v st w h hn hok
theorem all2_ans {w : World} : ∀ (css : List (List Value)) (rs : List Ans), All2 (AnsR w) css rs → ∀ c ∈ css, c.length = 2
  | [], _, _, c, h => by cases h
  | x :: r, [], h, _, _ => h.elim
  | x :: r, p :: ps, h, c, hc => by
    rcases List.mem_cons.1 hc with rfl | hc
    · obtain ⟨t, lv, rfl, _⟩ := h.1
      rfl
    · exact all2_ans r ps h.2 c hc
/-- A row of answers. -/
def AnsRow (w : World) (T : TypeId) (v : Value) (rs : List Ans) : Prop := ∃ css, Rd true w T v rs.length 2 css.flatten ∧ All2 (AnsR w) css rs
theorem AnsRow.below {w w' : World} {T : TypeId} {v : Value} {rs : List Ans} (h : AnsRow w T v rs) (hb : Below w.heap.size w w') : AnsRow w' T v rs := by
  obtain ⟨css, h1, h2⟩ := h
  exact ⟨css, h1.below hb, h2.imp (fun _ _ h => h.below hb)⟩
theorem AnsRow.get {w : World} {T : TypeId} {A : Option Addr} {c : Nat} {rs : List Ans} (h : AnsRow w T (.slice A rs.length c) rs) {j : Nat} {a : Ans} (ha : rs[j]? = some a) :
    ∃ b o, A = some ⟨b, o, none⟩ ∧ ∃ t A1 c1, bs t = a.1 ∧ Rd true w 9 (.slice A1 a.2.length c1) a.2.length 1 (strs a.2) ∧ w.cell? ⟨b, o + j * 2, none⟩ = some (.string t) ∧ w.cell? ⟨b, o + j * 2 + 1, none⟩ = some (.slice A1 a.2.length c1) := by
  obtain ⟨css, hrd, hall⟩ := h
  have hlt := (List.getElem?_eq_some_iff.1 ha).1
  obtain ⟨b, o, c', he, -, -, -⟩ := hrd.cells (by omega)
  injection he with he1 he2 he3
  subst he1 he3
  obtain ⟨cs, hcs, t, lv, rfl, ht, hr⟩ := All2.get j a hall ha
  have hat := flat_get css j _ (all2_ans css rs hall) hcs
  obtain ⟨A1, c1, rfl, _, _⟩ := hr.shape
  refine ⟨b, o, rfl, t, A1, c1, ht, hr, hrd.at' (j := j * 2) rfl ?_, hrd.at' (j := j * 2 + 1) (by omega) ?_⟩
  · have := hat 0 (by omega)
    simpa using this
  · have := hat 1 (by omega)
    simpa using this
def StK (w : World) (st : List Stp) (tv : Value) (W : World) : Prop := Below w.heap.size w W ∧ (∀ s ∈ st, StOk s) ∧ W.ownsRow w.heap.size 28 3 tv st.length (st.flatMap scells)

set_option maxHeartbeats 8000000 in
set_option maxRecDepth 100000 in
theorem fnCarrier_any {ty : Bool} (hd : Bool) (v : Value) (st : List Stp) (w : World) (h : Rd ty w 27 v st.length 3 (st.flatMap scells)) : Calls Try.prog 3 #[.bool hd, v] w (AwPost w) := by
  obtain ⟨A, c, rfl, hnc, hcm⟩ := h.shape
  have H : Aside (Rd ty w 27 (.slice A st.length c) st.length 3 (st.flatMap scells)) := h
  have hfi := fits8_any _ st w h
  clear h
  go_enter Try.func3, Try.ntmps3
  go_wp2_with (go_at_fn 5; fail)
  refine hfi.mono ?_
  intro e w1 hpost
  obtain ⟨r, rfl, hb1⟩ := hpost
  clear hfi
  cases r
  · go_wp2_with fail
    go_ret
    exact ⟨rfl, hb1⟩
  · by_cases a1 : (100 : Int) < st.length
    · have haw := awake_any w1
      go_wp2_with (go_at_fn 6; fail)
      refine haw.mono ?_
      rintro e w2 ⟨rfl, hb2⟩
      clear haw
      go_wp2_with fail
      go_ret
      exact ⟨rfl, below_then hb1 hb1.size hb2⟩
    · have hst : st.length ≤ 100 := by omega
      go_upto_block 0 with fail
      clear a1
      go_cut [5] (fun tv W => StK w st tv W)
      case first =>
        go_wp2_with fail
        go_loopg [5, 21] (st.length + 1) (fun gk tv i W => Below w.heap.size w W ∧ ∃ j : Nat, i = .int .i64 j ∧ j ≤ st.length ∧ j + gk = st.length + 1 ∧ Aside (∀ s ∈ st.take j, StOk s) ∧ W.ownsRow w.heap.size 28 3 tv j ((st.take j).flatMap scells))
        case atStart => exact ⟨hb1, 0, rfl, Nat.zero_le _, Nat.zero_add _, fun s hs => by simp at hs, own_nil _ _ _ _⟩
        case round =>
          clear hb1
          obtain ⟨hb, j, rfl, hj, hgk, hok, ho⟩ := hrel
          have hws := hb.size
          obtain ⟨PA, pc, rfl⟩ := own_shape ho
          by_cases hlt : j < st.length
          · obtain ⟨s, hs⟩ : ∃ s, st[j] = s := ⟨_, rfl⟩
            have hsk : st[j]? = some s := by rw [List.getElem?_eq_getElem hlt, hs]
            have hrd := H.out.below hb
            obtain ⟨bk, o, c', he, -, -, -⟩ := hrd.cells (by omega)
            injection he with he1 he2 he3
            subst he1 he3
            clear he2
            obtain ⟨kb, hkb, hkbs⟩ := S_str s.2.1
            obtain ⟨vb, hvb, hvbs⟩ := S_str s.2.2
            have hat := fun j' hj' => fm3 scells scells_len st j s hsk j' hj'
            obtain ⟨op, hop⟩ : ∃ op : Int, (s.1 : Int) = op := ⟨_, rfl⟩
            have e0 : wr.cell? ⟨bk, o + j * 3, none⟩ = some (.int .u8 op) := hrd.at' rfl (by have := hat 0 (by omega); rw [scells, hop] at this; simpa using this)
            have e1 : wr.cell? ⟨bk, o + j * 3 + 1, none⟩ = some (.string kb) := hrd.at' (j := j * 3 + 1) (by omega) (by have := hat 1 (by omega); rw [scells, hkb] at this; simpa using this)
            have e2 : wr.cell? ⟨bk, o + j * 3 + 2, none⟩ = some (.string vb) := hrd.at' (j := j * 3 + 2) (by omega) (by have := hat 2 (by omega); rw [scells, hvb] at this; simpa using this)
            have SS : Aside (st.take (j + 1) = st.take j ++ [s] ∧ s.1 = op ∧ bs kb = s.2.1 ∧ bs vb = s.2.2 ∧ scells s = [.int .u8 op, .string kb, .string vb]) := ⟨by rw [List.take_succ_eq_append_getElem hlt, hs], hop, hkbs, hvbs, by rw [scells, hkb, hvb, hop]⟩
            have hA : Below wr.heap.size wr (wr.alloc (.cells #[.int .u8 op, .string kb, .string vb] 27)) := (Below.refl _ _).alloc (Nat.le_refl _) _
            have hrow := heap_alloc_new wr (.cells #[.int .u8 op, .string kb, .string vb] 27)
            obtain ⟨w2, hw2⟩ : ∃ w2, wr.alloc (.cells #[.int .u8 op, .string kb, .string vb] 27) = w2 := ⟨_, rfl⟩
            rw [hw2] at hA hrow
            obtain ⟨⟨c0, c1', c2⟩, f0, f1, f2⟩ := row3 hrow
            have ho2 := own_below (C := 0) ho hA
            have hb2 := below_then hb hws hA
            have hws2 := hb2.size
            have haw := awake_any w2
            have HW : wr.alloc (.cells #[.int .u8 op, .string kb, .string vb] 27) = w2 := hw2
            clear hat hrd hs hsk hkb hvb hkbs hvbs ho hA hrow hw2 hb hop
            by_cases b1 : (3 : Int) < op
            · go_wp2_with (go_at_fn 6; fail)
              refine haw.mono ?_
              rintro e w3 ⟨rfl, hb3⟩
              clear haw
              go_wp2_with fail
              go_ret
              exact ⟨rfl, below_then hb2 hws2 hb3⟩
            · by_cases b2 : (1000 : Int) < kb.size
              · go_wp2_with (go_at_fn 6; fail)
                refine haw.mono ?_
                rintro e w3 ⟨rfl, hb3⟩
                clear haw
                go_wp2_with fail
                go_ret
                exact ⟨rfl, below_then hb2 hws2 hb3⟩
              · by_cases b3 : (1000 : Int) < vb.size
                · go_wp2_with (go_at_fn 6; fail)
                  refine haw.mono ?_
                  rintro e w3 ⟨rfl, hb3⟩
                  clear haw
                  go_wp2_with fail
                  go_ret
                  exact ⟨rfl, below_then hb2 hws2 hb3⟩
                · clear haw
                  go_wp2_with (at_builtin; go_must (refine wp_app (W := w2) w.heap.size rfl (.tmp 41) (.tmp 43) 25 rfl 28 _ 3 40 Try.underlying25 Try.info28 rfl (by decide) (.slice PA j pc) j _ [.int .u8 op, .string kb, .string vb] rfl rfl rfl (by intro u hu; simp at hu; rcases hu with rfl | rfl | rfl <;> rfl) ho2 hws2 (by omega) (by omega) ?_); intro v1 w6 ho6 hb6 hf6 hs6)
                  go_roundg (gk - 1)
                  case rel =>
                    refine ⟨hb2.trans hb6, j + 1, by go_num, by omega, by omega, ?_, ?_⟩
                    · show ∀ s ∈ _, _
                      rw [SS.out.1]
                      intro s' hs'
                      rcases List.mem_append.1 hs' with hs' | hs'
                      · exact hok.out s' hs'
                      · rw [List.mem_singleton.1 hs']
                        have h1 := SS.out.2.1
                        refine ⟨by omega, ?_, ?_⟩
                        · rw [← SS.out.2.2.1, bs_length]; omega
                        · rw [← SS.out.2.2.2.1, bs_length]; omega
                    · rw [SS.out.1, List.flatMap_append]
                      have : [s].flatMap scells = [.int .u8 op, .string kb, .string vb] := by rw [← SS.out.2.2.2.2]; simp
                      rw [this]
                      exact ho6
                  case measure => omega
          · have hjl : j = st.length := by omega
            subst hjl
            have hok2 := hok.out
            rw [List.take_length] at hok2 ho
            have P : Aside (∀ s ∈ st, StOk s) := hok2
            clear hok2 hok
            go_wp2_with fail
            go_meet
            exact ⟨hb, P.out, ho⟩
      case rest =>
        clear hb1
        obtain ⟨hb, hok, ho⟩ := hcut
        obtain ⟨TA, tc, rfl⟩ := own_shape ho
        have hws := hb.size
        have hrd28 := Rd.of_own ho
        have hdo := CarrierDo_any hd _ st wc (H.out.below hb) (by omega) hok
        have OK : Aside (∀ s ∈ st, StOk s) := hok
        have hlen := runC_len hd st []
        obtain ⟨R, hR⟩ : ∃ R, runC hd st [] = R := ⟨_, rfl⟩
        have RR : Aside (runC hd st [] = R) := hR
        rw [hR] at hdo hlen
        have HLEN : Aside (R.length = st.length) := hlen
        have hR1 : R.length ≤ 100 := by omega
        clear hok ho hR hlen
        go_wp2_with (go_at_fn 7; fail)
        refine hdo.mono ?_
        intro e w2 hpost
        obtain ⟨v2, css2, rfl, hrd2, hall2, hb2⟩ := hpost
        obtain ⟨A2, c2, rfl, _, _⟩ := hrd2.shape
        have hb12 := below_then hb hws hb2
        have hru := run8_any hd _ st w2 (hrd28.below hb2) (by omega) OK.out
        rw [RR.out] at hru
        have R2 : Aside (AnsRow w2 36 (.slice A2 R.length c2) R) := ⟨css2, hrd2, hall2⟩
        clear hdo hrd2 hall2 hb2 hrd28 hb
        go_wp2_with (go_at_fn 8; fail)
        refine hru.mono ?_
        intro e w3 hpost
        obtain ⟨v3, css3, rfl, hrd3, hall3, hb3⟩ := hpost
        obtain ⟨A3, c3, rfl, _, _⟩ := hrd3.shape
        have hb13 := below_then hb12 hb12.size hb3
        have R3 : Aside (AnsRow w3 35 (.slice A3 R.length c3) R ∧ AnsRow w3 36 (.slice A2 R.length c2) R) := ⟨⟨css3, hrd3, hall3⟩, R2.out.below hb3⟩
        clear hru hrd3 hall3 hb3 hb12 R2
        have hbl := hb13.size
        go_wp2_with fail
        go_loopg [59] (R.length + 1) (fun gk i W => Below w3.heap.size w3 W ∧ ∃ j : Nat, i = .int .i64 j ∧ j ≤ R.length ∧ j + gk = R.length + 1)
        case atStart => exact ⟨Below.refl _ _, 0, rfl, Nat.zero_le _, Nat.zero_add _⟩
        case round =>
          obtain ⟨hb, j, rfl, hj, hgk⟩ := hrel
          have hws := hb.size
          by_cases hlt : j < R.length
          · obtain ⟨a, ha⟩ : ∃ a, R[j]? = some a := ⟨_, List.getElem?_eq_getElem hlt⟩
            obtain ⟨b3, o3, hA3, t3, L3, d3, ht3, hl3, e0, e1⟩ := (R3.out.1.below hb).get ha
            obtain ⟨b2, o2, hA2, t2, L2, d2, ht2, hl2, g0, g1⟩ := (R3.out.2.below hb).get ha
            subst hA3 hA2
            have htt : t2 = t3 := bs_inj (ht2.trans ht3.symm)
            subst htt
            obtain ⟨ls, hls⟩ : ∃ ls, a.2 = ls := ⟨_, rfl⟩
            rw [hls] at hl3 hl2 e1 g1
            have hA : Below wr.heap.size wr (wr.alloc (.cells #[.string t2, .slice L3 ls.length d3] 35)) := (Below.refl _ _).alloc (Nat.le_refl _) _
            have hrow := heap_alloc_new wr (.cells #[.string t2, .slice L3 ls.length d3] 35)
            obtain ⟨w5, hw5⟩ : ∃ w5, wr.alloc (.cells #[.string t2, .slice L3 ls.length d3] 35) = w5 := ⟨_, rfl⟩
            rw [hw5] at hA hrow
            obtain ⟨⟨c0, c1'⟩, f0, f1⟩ := row2 hrow
            have heq := eq_strs _ _ ls ls w5.drew ((hl3.below hA).below (Below.refl _ _).drew) ((hl2.below hA).below (Below.refl _ _).drew)
            rw [decide_eq_true rfl] at heq
            have hb5 := below_then hb hws hA
            have HW : wr.alloc (.cells #[.string t2, .slice L3 ls.length d3] 35) = w5 := hw5
            have g0' := cell_bel hA g0
            have g1' := cell_bel hA g1
            have hself := ba_self t2
            clear hl3 hl2 ht3 ht2 hls ha hrow hw5
            have p0 : w5.drew.cell? ⟨wr.heap.size, 0, none⟩ = some (.string t2) := c0
            have p1 : w5.drew.cell? ⟨wr.heap.size, 1, none⟩ = some (.slice L3 ls.length d3) := c1'
            have q0 : w5.drew.cell? ⟨b2, o2 + j * 2, none⟩ = some (.string t2) := g0'
            have q1 : w5.drew.cell? ⟨b2, o2 + j * 2 + 1, none⟩ = some (.slice L2 ls.length d2) := g1'
            clear g0 g1 g0' g1' hA hb
            go_wp2_with fail
            clear e0 e1 c0 c1' f0 f1 HW
            go_region_law (first
              | (go_simp; go_at_call 9; refine heq.mono ?_; rintro e w7 ⟨rfl, q, rfl⟩))
            all_goals
              have hb7 : Below w3.heap.size w3 (w5.drewN (1 + q)) := below_drewN' hb5 _
              clear hb5 heq p0 p1 q0 q1
              go_wp2_with fail
              go_roundg (gk - 1)
              case rel => exact ⟨hb7, j + 1, by go_num, by omega, by omega⟩
              case measure => omega
          · have hb14 := below_then hb13 hbl hb
            have haw := awake_any wr
            go_wp2_with (go_at_fn 6; fail)
            refine haw.mono ?_
            rintro e w4 ⟨rfl, hb4⟩
            clear haw
            go_wp2_with fail
            go_ret
            exact ⟨rfl, below_then hb14 hb14.size hb4⟩
end Go.Proofs.Ytfaokggblllcmaa
