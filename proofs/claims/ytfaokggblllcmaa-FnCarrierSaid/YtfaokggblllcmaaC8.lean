/- Contract: impl.CarrierRun over a map. -/
import Derived.Test.YtfaokggblllcmaaC7
import Derived.Stop.Asserts
set_option linter.unusedVariables false
set_option linter.unusedSimpArgs false
namespace Go.Proofs.Ytfaokggblllcmaa
open Go Go.RowKit

/-- append(v, x...) as a step of a region that draws: x a row of m elements. -/
theorem step_appN {P : Program} {ops : Array Oper} {o : Oper} {a : Act} {Q : Exit → Act → World → Prop} {K : Act → World → Prop} {E : Prop} (W : World) (B : Nat) (hgd : o.guard = none) (s x : Operand) (t : TypeId)
    (ho : o.op = .call { callee := .builtin .append, args := #[s, x], argTypes := #[t, t] }) (e : TypeId) (z : Value) (size bytes : Nat)
    (ht : P.underlying t = some (.slice e)) (hinfo : (P.info? e).map (fun i => (i.zero, i.size, i.bytes)) = some (some z, size, bytes)) (hz : z.cells.size = size) (hs0 : 0 < size)
    (v : Value) (n : Nat) (xs ys : List Value) (hs : a.eval s = v) (ad : Addr) (m c : Nat) (hx : a.eval x = .slice (some ad) m c) (hys : ys.length = m * size) (hnews : ∀ (j : Nat) u, ys[j]? = some u → W.cell? (ad.add j) = some u) (h1 : ∀ u ∈ ys, u.oneCell' = true)
    (HO : W.ownsRow B e size v n xs) (hB : B ≤ W.heap.size) (hl : (n + m) * bytes ≤ 140737488355328) (hn : n + m ≤ 140737488355328)
    (h : ∀ v1 w1, w1.ownsRow B e size v1 (n + m) (xs ++ ys) → Below B W w1 → Fr e W w1 → W.heap.size ≤ w1.heap.size → K (a.put o.dst v1) w1) :
    if Region.wanted o (yielded ops a.tmps) = true then Oper.wp P o a W K Q else E := by
  obtain ⟨i0, hi, hzz⟩ := Option.map_eq_some_iff.1 hinfo
  simp only [Prod.mk.injEq] at hzz
  obtain ⟨hz0, hz1, hz2⟩ := hzz
  rw [if_pos (by simp [Region.wanted, hgd])]
  obtain ⟨v1, w1, hr, hown, hg, _, hat⟩ := run_append_own_at (P := P) W B t o.type e i0 z size bytes ht hi hz0 hz1 hz2 hz hs0 v n xs HO ad m c ys hys hnews h1 (by simp only [maxLen]; omega) hl hB
  unfold Oper.wp execOp
  simp only [ho, resolve, invoke, builtin, Sem.run_bind, Sem.run_pure, Result.andThen_ok, List.map_toArray, List.map_cons, List.map_nil, hs, hx, hr]
  exact h v1 w1 hown ((Below.refl B W).grown hg hB (own_base' HO)) (Fr.of_grown HO hg) hg.size
theorem method_keys59 (b : Nat) (W : World) : (method 272 59 (.map (some b)) "Keys").run Try.prog W = .ok (27, .map (some b)) W := by kernel_rfl
theorem addr_add (g j : Nat) : (⟨g, 0, none⟩ : Addr).add j = ⟨g, j, none⟩ := by
  by_cases h : j = 0
  · subst h; simp [Addr.add]
  · simp [Addr.add, h]
theorem sort16 (B : Nat) (v : Value) (ts : List (List UInt8)) (w : World) (h : w.ownsRow B 9 1 v ts.length (strs ts)) (hn : ts.length ≤ 100000) : Calls Try.prog 16 #[v] w (SortSPost B v ts w) := by
  have hs := sort_strs B v ts w h hn
  clear h
  go_enter Try.func16, Try.ntmps16
  go_wp2_with (go_at_fn 15; fail)
  refine hs.mono ?_
  intro e w' hpost
  obtain ⟨rfl, h1, h2, h3⟩ := hpost
  clear hs
  go_wp2_with fail
  go_returns
  exact ⟨rfl, h1, h2, h3⟩
theorem noVals59 (v : Value) (xT : TypeId) (w : World) : (Instr.typeAssert (.iface 59 v) xT 66 true).run Try.prog w = .ok (.tuple #[.nilIface, .bool false]) w := run_typeAssert_lacksB Try.underlying66 (by kernel_rfl) (by kernel_rfl) v xT w
theorem hasVals63 (v : Value) (xT : TypeId) (w : World) : (Instr.typeAssert (.iface 63 v) xT 66 true).run Try.prog w = .ok (.tuple #[.iface 63 v, .bool true]) w := run_typeAssert_hasB Try.underlying66 (by kernel_rfl) v xT w
set_option maxHeartbeats 8000000 in
set_option maxRecDepth 100000 in
theorem CarrierRunM_any {ty : Bool} (v : Value) (st : List Stp) (w : World) (h : Rd ty w 28 v st.length 3 (st.flatMap scells)) (hn : st.length ≤ 1000) (hok : ∀ s ∈ st, StOk s) :
    Calls Try.prog 8 #[.bool false, v] w (AnsPost 35 (runC false st []) w) := by
  obtain ⟨AD, c, rfl, hnc, hcm⟩ := h.shape
  have H : Aside (Rd ty w 28 (.slice AD st.length c) st.length 3 (st.flatMap scells) ∧ ∀ s ∈ st, StOk s) := ⟨h, hok⟩
  clear h hok
  have hmk := run_mm 59
  have hb1 : Below w.heap.size w (w.alloc (.map #[] 0)) := (Below.refl _ _).alloc (Nat.le_refl _) _
  have hM1 : CarAt false (w.alloc (.map #[] 0)) w.heap.size (endC false (st.take 0) []) := ⟨[], MapAt.made w, trivial⟩
  go_enter Try.func8, Try.ntmps8
  go_wp2_with fail
  obtain ⟨w1, hw1⟩ : ∃ w1, w.alloc (.map #[] 0) = w1 := ⟨_, rfl⟩
  rw [hw1] at hb1 hM1 ⊢
  clear hw1 hmk
  go_loopg [6, 19] (st.length + 1) (fun gk ov i W => Below w.heap.size w W ∧ ∃ (j : Nat) (css : List (List Value)), i = .int .i64 j ∧ j ≤ st.length ∧ j + gk = st.length + 1 ∧ CarAt false W w.heap.size (endC false (st.take j) []) ∧ W.ownsRow w.heap.size 35 2 ov j css.flatten ∧ Aside (All2 (AnsR W) css (runC false (st.take j) [])))
  case atStart => exact ⟨hb1, 0, [], rfl, Nat.zero_le _, Nat.zero_add _, hM1, own_nil _ _ _ _, trivial⟩
  case round =>
    clear hb1 hM1
    obtain ⟨hb, j, css, rfl, hj, hg, hM, ho, hAll⟩ := hrel
    have hws := hb.size
    obtain ⟨OA, oc, rfl⟩ := own_shape ho
    by_cases hlt : j < st.length
    · obtain ⟨s, hs⟩ : ∃ s, st[j] = s := ⟨_, rfl⟩
      have hsk : st[j]? = some s := by rw [List.getElem?_eq_getElem hlt, hs]
      have hrd := H.out.1.below hb
      obtain ⟨bk, o, c', he, -, -, -⟩ := hrd.cells (by omega)
      injection he with he1 he2 he3
      subst he1 he3
      clear he2
      obtain ⟨kb, hkb, hkbs⟩ := S_str s.2.1
      obtain ⟨vb, hvb, hvbs⟩ := S_str s.2.2
      have hat := fun j' hj' => fm3 scells scells_len st j s hsk j' hj'
      have e0 : wr.cell? ⟨bk, o + j * 3, none⟩ = some (.int .u8 s.1) := hrd.at' rfl (by have := hat 0 (by omega); simpa [scells] using this)
      have e1 : wr.cell? ⟨bk, o + j * 3 + 1, none⟩ = some (.string kb) := hrd.at' (j := j * 3 + 1) (by omega) (by have := hat 1 (by omega); rw [scells, hkb] at this; simpa using this)
      have e2 : wr.cell? ⟨bk, o + j * 3 + 2, none⟩ = some (.string vb) := hrd.at' (j := j * 3 + 2) (by omega) (by have := hat 2 (by omega); rw [scells, hvb] at this; simpa using this)
      have hsok := H.out.2 s (List.mem_of_getElem? hsk)
      have hkz : kb.size ≤ 100000 := by rw [← bs_length, hkbs]; exact hsok.key
      have hop := hsok.op
      have SS : Aside (st.take (j + 1) = st.take j ++ [s] ∧ bs kb = s.2.1 ∧ bs vb = s.2.2) := ⟨by rw [List.take_succ_eq_append_getElem hlt, hs], hkbs, hvbs⟩
      have hml := endC_len false (st.take j)
      rw [List.length_take, Nat.min_eq_left hj] at hml
      obtain ⟨M, hMe⟩ : ∃ M, endC false (st.take j) [] = M := ⟨_, rfl⟩
      have ME : Aside (endC false (st.take j) [] = M) := hMe
      rw [hMe] at hM hml
      clear hat hrd hs hsk hkb hvb hkbs hvbs hsok hMe
      obtain ⟨op, k0, v0⟩ := s
      simp only at hop e0 SS
      obtain ⟨w2, hw2⟩ : ∃ w2, (wr.alloc (.cells #[.int .u8 op, .string kb, .string vb] 28)).alloc (.cells #[.string ⟨#[]⟩, .slice none 0 0] 35) = w2 := ⟨_, rfl⟩
      have hb2 : Below wr.heap.size wr w2 := by rw [← hw2]; exact ((Below.refl _ _).alloc (Nat.le_refl _) _).alloc (by simp) _
      have hs2 : w2.heap[wr.heap.size]? = some (.cells #[.int .u8 op, .string kb, .string vb] 28 (0, 0)) := by rw [← hw2]; exact row_alloc (heap_alloc_new _ _) _
      have hx2 : w2.heap[wr.heap.size + 1]? = some (.cells #[.string ⟨#[]⟩, .slice none 0 0] 35 (0, 0)) := by rw [← hw2]; exact heap_alloc_2 _ _ _
      have HW : Aside ((wr.alloc (.cells #[.int .u8 op, .string kb, .string vb] 28)).alloc (.cells #[.string ⟨#[]⟩, .slice none 0 0] 35) = w2) := hw2
      clear hw2
      have hM2 := hM.below hb2
      have hws2 := hb2.size
      obtain ⟨⟨c0, c1, c2⟩, _, _, _⟩ := row3 hs2
      obtain ⟨⟨d0, d1⟩, g0, g1⟩ := row2 hx2
      have hxl := (Array.getElem?_eq_some_iff.1 hx2).1
      have hbl := hM.lt
      have hna := noVals59
      go_upto_block 2 with fail
      rw [HW.out]
      go_cut [] (fun W => SwP 35 false wr w.heap.size (nxtC false M (op, k0, v0)) (ansC false M (op, k0, v0)) (wr.heap.size + 1) W)
      case first =>
        rcases (show op = 0 ∨ op = 1 ∨ op = 2 ∨ op = 3 by omega) with rfl | rfl | rfl | rfl
        · have hse := mapSet_any w.heap.size M kb vb w2 hM2
          rw [SS.out.2.1, SS.out.2.2] at hse
          go_wp2_with (go_at_fn 93; fail)
          refine hse.mono ?_
          intro e w4 hpost
          obtain ⟨rfl, hcar, hg4⟩ := hpost
          have P : Aside (SwP 35 false wr w.heap.size (nxtC false M (0, k0, v0)) (ansC false M (0, k0, v0)) (wr.heap.size + 1) w4) :=
            ⟨World.grownBy.trans (grown_of_below hb2) hg4, hcar, ⟨#[]⟩, none, 0, (hg4.block _ hxl (by intro e; injection e with e; omega)).trans hx2, rfl, Rd.nil _ _ _ _⟩
          clear hse hcar hg4
          go_wp2_with fail
          go_meet
          exact P.out
        · have hge := mapGet_any w.heap.size M kb w2 hM2
          rw [SS.out.2.1] at hge
          obtain ⟨t, ht, hts⟩ := S_str ((getA (keyOf false k0) M).getD [])
          unfold GetPost at hge
          rw [ht] at hge
          go_wp2_with (go_at_fn 92; fail)
          refine hge.mono ?_
          rintro e w4 ⟨rfl, hb4⟩
          have hx4 := (hb4.block _ hxl).trans hx2
          obtain ⟨⟨q0, q1⟩, r0, r1⟩ := row2 hx4
          have P : Aside (SwP 35 false wr w.heap.size (nxtC false M (1, k0, v0)) (ansC false M (1, k0, v0)) (wr.heap.size + 1) (w4.setCell ⟨wr.heap.size + 1, 0, none⟩ (.string t))) := by
            refine ⟨grown_of_below ((below_then hb2 hws2 hb4).setCell (by show wr.heap.size ≤ wr.heap.size + 1; omega) _), CarAt.fr (e := 35) (hM2.below hb4) ?_ (by decide), t, none, 0, row_set hx4 0 _, hts, Rd.nil _ _ _ _⟩
            exact ⟨by simp, fun k hk hne => Below.heap_setCell _ _ _ _ (fun e => by subst e; exact hne _ _ hx4)⟩
          clear hge hb4 ht hts d0 d1 g0 g1 c0 c1 c2
          go_wp2_with fail
          go_meet
          exact P.out
        · have P : Aside (SwP 35 false wr w.heap.size (nxtC false M (2, k0, v0)) (ansC false M (2, k0, v0)) (wr.heap.size + 1) w2) :=
            ⟨grown_of_below hb2, hM2, ⟨#[]⟩, none, 0, hx2, rfl, Rd.nil _ _ _ _⟩
          go_wp2_with fail
          go_meet
          exact P.out
        · obtain ⟨L, hL, hLM, hKM⟩ := hM2.len
          have hLd : MapAt w2.drew w.heap.size L := hL.below ((Below.refl _ _).drew)
          have hke := keys27_any w.heap.size L w2.drew hLd (by omega)
          have hbd : Below wr.heap.size wr w2.drew := hb2.drew
          have hxd : w2.drew.heap[wr.heap.size + 1]? = some (.cells #[.string ⟨#[]⟩, .slice none 0 0] 35 (0, 0)) := hx2
          clear hL
          go_wp2_with fail
          have hmk := method_keys59 w.heap.size
          go_region_law (first
            | (go_simp; go_at_call 27; refine hke.mono ?_; intro e w4 hpost; obtain ⟨v4, ks, rfl, ho4, hpk, hb4, g4, c4, rfl⟩ := hpost; have hx4 := (hb4.block _ hxl).trans hxd; obtain ⟨⟨q0, q1⟩, r0, r1⟩ := row2 hx4; have hrd4 := Rd.of_own ho4)
            | (refine step_appN w4 w2.heap.size (by rfl) (.tmp 59) (.tmp 61) 33 (by rfl) 9 (.string ⟨#[]⟩) 1 16 Try.underlying33 Try.infoStr rfl (by decide) (.slice none 0 0) 0 [] (strs ks) (by rfl) ⟨g4, 0, none⟩ ks.length c4 (by rfl) (by simp [strs]) (fun j u hj => by rw [addr_add]; exact hrd4.at' (j := j) (k := j) (by omega) hj) (by intro u hu; obtain ⟨x, _, rfl⟩ := List.mem_map.1 hu; rfl) (own_nil _ _ _ _) hb4.size (by have := hpk.length_eq; rw [List.length_map] at this; omega) (by have := hpk.length_eq; rw [List.length_map] at this; omega) ?_
               intro v5 w5 ho5 hb5 hf5 hs5
               rw [List.nil_append, Nat.zero_add] at ho5
               have hx5 := (hb5.block _ (Nat.lt_of_lt_of_le hxl (Nat.le_refl _))).trans hx4
               obtain ⟨A5, c5, rfl⟩ := own_shape ho5
               obtain ⟨⟨p0, p1⟩, s0, s1⟩ := row2 hx5))
          all_goals
            have hx6 : (w5.setCell ⟨wr.heap.size + 1, 1, none⟩ (.slice A5 ks.length c5)).heap[wr.heap.size + 1]? = some (.cells #[.string ⟨#[]⟩, .slice A5 ks.length c5] 35 (0, 0)) := row_set hx5 1 _
            have ho6 := own_setOther ho5 hx5 (by decide) (i := 1) (.slice A5 ks.length c5)
            have hpl : ks.length ≤ 1000 := by have := hpk.length_eq; rw [List.length_map] at this; omega
            have hso := sort16 w2.heap.size (.slice A5 ks.length c5) ks _ ho6 (by omega)
            have K1 : Aside (∀ k, k < w2.heap.size → k ≠ wr.heap.size + 1 → (w5.setCell ⟨wr.heap.size + 1, 1, none⟩ (.slice A5 ks.length c5)).heap[k]? = w2.heap[k]?) := by
              intro k hk hne
              exact (Below.heap_setCell _ _ _ _ hne).trans ((hb5.block k hk).trans (hb4.block k hk))
            have K2 : Aside (Below wr.heap.size wr (w5.setCell ⟨wr.heap.size + 1, 1, none⟩ (.slice A5 ks.length c5))) :=
              ((hbd.trans (hb4.mono hws2)).trans (hb5.mono hws2)).setCell (by show wr.heap.size ≤ wr.heap.size + 1; omega) _
            have HP : Aside (ks.Perm (L.map fun p => bs p.1)) := hpk
            obtain ⟨⟨t0, t1⟩, m0, m1⟩ := row2 hx6
            clear hke hb4 hb5 hf5 ho4 ho5 ho6 hpk hrd4 q0 q1 r0 r1 p0 p1 s0 s1 hx4 c0 c1 c2 d0 d1 g0 g1 hmk hLd
            go_wp2_with (go_at_fn 16; fail)
            refine hso.mono ?_
            intro e w7 hpost
            obtain ⟨rfl, hrd7, hf7, hb7⟩ := hpost
            have hk7 : ∀ k, k < w2.heap.size → k ≠ wr.heap.size + 1 → w7.heap[k]? = w2.heap[k]? := fun k hk hne => (hb7.block k hk).trans (K1.out k hk hne)
            have hcw : CarAt false w7 w.heap.size M := by
              refine hM2.keep (hk7 _ hM2.lt (by omega)) (fun g cs hgc => (hk7 g (Array.getElem?_eq_some_iff.1 hgc).1 (fun e => ?_)).trans hgc)
              rw [e, hx2] at hgc
              injection hgc with hgc
              injection hgc with _ h2
              exact absurd h2 (by decide)
            have e1 : sortT (M.map (·.1)) = sortT ks := by rw [← hKM]; exact (sortT_perm HP.out).symm
            have e2 : (sortT (M.map (·.1))).length = ks.length := by rw [e1, sortT_len]
            have P : Aside (SwP 35 false wr w.heap.size (nxtC false M (3, k0, v0)) (ansC false M (3, k0, v0)) (wr.heap.size + 1) w7) := by
              refine ⟨grown_of_below (K2.out.trans (hb7.mono hws2)), hcw, ⟨#[]⟩, A5, c5, ?_, rfl, ?_⟩
              · show w7.heap[wr.heap.size + 1]? = some (.cells #[.string ⟨#[]⟩, .slice A5 (sortT (M.map (·.1))).length c5] 35 (0, 0))
                rw [e2]
                exact (hb7.block _ hxl).trans hx6
              · show Rd true w7 9 (.slice A5 (sortT (M.map (·.1))).length c5) (sortT (M.map (·.1))).length 1 (strs (sortT (M.map (·.1))))
                rw [e2, e1]
                exact hrd7
            clear hso hrd7 hf7 hb7 hk7 hcw e1 e2 hx6 t0 t1 m0 m1
            go_wp2_with fail
            go_meet
            exact P.out
      case rest =>
        obtain ⟨hgr, hcar, t, A4, c4, hx4, ht4, hrd4⟩ := hcut
        obtain ⟨L, hL, hA⟩ := hM
        have hb4 : Below w.heap.size w wc := hb.grown hgr hws (by intro q hq; injection hq with hq; omega)
        have ho4 : wc.ownsRow w.heap.size 35 2 (.slice OA j oc) j css.flatten := by
          refine ho.kept hgr (.inr ?_)
          intro e
          obtain ⟨es, cl, q1, _⟩ := hL
          rcases ho.2 with ⟨h0, _⟩ | ⟨g, cap, cur, hv, _, hh, _⟩
          · rw [h0] at e; cases e
          · rw [hv] at e
            have : g = w.heap.size := by simpa [Value.ownBlock] using e
            subst this
            rw [q1] at hh
            cases hh
        have hAll4 : Aside (All2 (AnsR wc) css (runC false (st.take j) [])) := hAll.out.imp (fun _ _ h => AnsR.map h hL hgr)
        have hws4 := hb4.size
        obtain ⟨a, ha⟩ : ∃ a, ansC false M (op, k0, v0) = a := ⟨_, rfl⟩
        have AA : Aside (ansC false M (op, k0, v0) = a ∧ bs t = a.1 ∧ Rd true wc 9 (.slice A4 a.2.length c4) a.2.length 1 (strs a.2)) := by rw [ha] at ht4 hrd4; exact ⟨ha, ht4, hrd4⟩
        rw [ha] at hx4
        obtain ⟨⟨d0, d1⟩, g0, g1⟩ := row2 hx4
        clear hgr ht4 hrd4 ha hL hA ho hb
        go_wp2_with (at_builtin; go_must (refine wp_app (W := wc) w.heap.size rfl (.tmp 67) (.tmp 69) 31 rfl 35 _ 2 40 Try.underlying31 Try.info35 rfl (by decide) (.slice OA j oc) j _ [.string t, .slice A4 a.2.length c4] rfl rfl rfl (by intro u hu; simp at hu; rcases hu with rfl | rfl <;> rfl) ho4 hws4 (by omega) (by omega) ?_); intro v1 w6 ho6 hb6 hf6 hs6)
        go_roundg (gk - 1)
        case rel =>
          refine ⟨hb4.trans hb6, j + 1, css ++ [[.string t, .slice A4 a.2.length c4]], by go_num, by omega, by omega, ?_, ?_, ?_⟩
          · rw [SS.out.1, endC_snoc, ME.out]
            exact hcar.fr hf6 (by decide)
          · rw [List.flatten_append]
            simpa using ho6
          · show All2 _ _ _
            rw [SS.out.1, runC_snoc, ME.out, AA.out.1]
            exact (hAll4.out.imp (fun _ _ h => AnsR.fr h hf6 (by decide))).append (l' := [_]) (m' := [a]) ⟨AnsR.fr ⟨t, _, rfl, AA.out.2.1, AA.out.2.2⟩ hf6 (by decide), trivial⟩
        case measure => omega
    · have hjl : j = st.length := by omega
      subst hjl
      have HA : Aside (All2 (AnsR wr) css (runC false st [])) := by have := hAll.out; rw [List.take_length] at this; exact this
      clear hAll
      go_wp2_with fail
      go_ret
      exact ⟨_, css, rfl, by rw [runC_len]; exact Rd.of_own ho, HA.out, hb⟩
end Go.Proofs.Ytfaokggblllcmaa
