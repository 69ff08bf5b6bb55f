/- Contracts of the functions of this claim, proved once, joined out of smaller texts: RR L3. -/
import Derived.Test.YtleofgndghjflaaGreatDoorY11
set_option linter.unusedVariables false
set_option linter.unusedSimpArgs false
namespace Go.Proofs.YtleofgndghjflaaGreatDoor
open Go Go.RowKit

/-- The bytes of the first argument. -/
def opc (l : List Nat) : List Value := l.map fun (x : Nat) => Value.int .u8 (x : Int)
theorem opc_at {ty : Bool} {w : World} {b o n c : Nat} {l : List Nat} (h : Rd ty w 5 (.slice (some ⟨b, o, none⟩) n c) n 1 (opc l)) (k : Nat) (x : Nat) (hx : l[k]? = some x) : w.cell? ⟨b, o + k, none⟩ = some (.int .u8 (x : Int)) :=
  h.at (by simp [opc, hx])
def scr (ops : List Nat) (xs : List SM) : List Stp := ops.zip xs
theorem scr_len {ops : List Nat} {xs : List SM} (h : ops.length = xs.length) : (scr ops xs).length = xs.length := by simp [scr, h]
theorem scr_get {ops : List Nat} {xs : List SM} (k : Nat) (hk : k < xs.length) (h : ops.length = xs.length) : (scr ops xs)[k]? = some (ops[k]'(by omega), xs[k]) := by
  unfold scr
  rw [List.getElem?_eq_getElem (by simp; omega)]
  simp
theorem scr_take {ops : List Nat} {xs : List SM} (k : Nat) (hk : k < xs.length) (h : ops.length = xs.length) : (scr ops xs).take (k + 1) = (scr ops xs).take k ++ [(ops[k]'(by omega), xs[k])] := by
  have h1 : k < (scr ops xs).length := by rw [scr_len h]; exact hk
  rw [List.take_succ_eq_append_getElem h1]
  congr 2
  simp [scr]

/-- What the second part asks of the first: the law from there on. -/
def Steps7 (w : World) (v0 v1 v5 : Value) (ops : List Nat) (xs : List SM) (W : World) : Prop :=
  ∃ css : List (List Value), Below w.heap.size w W ∧ W.ownsRow w.heap.size 66 4 v5 xs.length css.flatten ∧ All2 (SR W) css (scr ops xs)

set_option maxHeartbeats 8000000 in
set_option maxRecDepth 100000 in
theorem fnBagSteps_any {ty ty2 ty3 : Bool} (v0 v1 : Value) (ops : List Nat) (rs : List RM) (hop : ∀ x ∈ ops, x < 256) (w : World) (hw : Laid w) (h0 : Rd ty3 w 5 v0 ops.length 1 (opc ops)) (h : RMRs ty ty2 w v1 rs) :
    Calls Tryz.prog 7 #[v0, v1] w (BoolPost true w) := by
  obtain ⟨A0, c0, rfl, hnc0, hcm0⟩ := h0.shape
  obtain ⟨A, c, rfl, hnc, hcm⟩ := h.shape
  have hz := zzFits7_any _ rs w h
  obtain ⟨fi, hfi⟩ : ∃ fi, fits7 rs = fi := ⟨_, rfl⟩
  rw [hfi] at hz
  clear hfi
  have H : Aside (RMRs ty ty2 w (.slice A rs.length c) rs ∧ Rd ty3 w 5 (.slice A0 ops.length c0) ops.length 1 (opc ops) ∧ ∀ x ∈ ops, x < 256) := ⟨h, h0, hop⟩
  clear h h0 hop
  by_cases hbig : 2147483647 < ops.length
  · have hbz : (2147483647 : Int) < (ops.length : Int) := by omega
    clear hbig
    go_enter Tryz.func7, Tryz.ntmps7
    go_wp2_with fail
    go_ret
    exact ⟨rfl, Below.refl _ _⟩
  have hbz : ¬ (2147483647 : Int) < (ops.length : Int) := by omega
  go_enter Tryz.func7, Tryz.ntmps7
  go_wp2_with (go_at_fn 28; fail)
  refine hz.mono ?_
  rintro e w2 ⟨rfl, hb2⟩
  clear hz
  cases fi
  · go_wp2_with fail
    go_ret
    exact ⟨rfl, hb2⟩
  have hrt := bagRight_any _ rs w2 (H.out.1.below hb2)
  obtain ⟨ri, hri⟩ : ∃ ri, right rs = ri := ⟨_, rfl⟩
  rw [hri] at hrt
  go_wp2_with (go_at_fn 10; fail)
  refine hrt.mono ?_
  rintro e w3 ⟨rfl, hb3⟩
  have hb13 := below_then hb2 hb2.size hb3
  clear hrt hb3 hb2
  have haw := awake_any w3 (hw.below hb13)
  by_cases hgo : ri = true ∧ ops.length = rs.length
  · obtain ⟨rfl, hlen⟩ := hgo
    obtain ⟨hr40, hall⟩ := right_ok hri
    have hmrs := rmrs_mrs H.out.1 hall
    obtain ⟨xs, hxs⟩ : ∃ xs, rs.map toSM = xs := ⟨_, rfl⟩
    have hxl : rs.length = xs.length := by rw [← hxs, List.length_map]
    have hso : ∀ x ∈ xs, SMok x := by
      intro x hx
      rw [← hxs] at hx
      obtain ⟨r, hr, rfl⟩ := List.mem_map.1 hx
      exact toSM_ok r (List.all_eq_true.1 hall r hr)
    rw [hxs] at hmrs
    have hrd0 := H.out.2.1
    have hlen2 : ops.length = xs.length := by rw [hlen, hxl]
    rw [hlen2] at hbz hnc0 hrd0 ⊢
    rw [hxl] at hr40 hnc hmrs ⊢
    have M : Aside (MRs ty ty2 23 28 w (.slice A xs.length c) xs ∧ (∀ x ∈ xs, SMok x) ∧ Rd ty3 w 5 (.slice A0 xs.length c0) xs.length 1 (opc ops) ∧ (∀ x ∈ ops, x < 256) ∧ ops.length = xs.length) := ⟨hmrs, hso, hrd0, H.out.2.2, hlen2⟩
    clear hmrs hso hxs hxl hri hall H hrd0 hlen2 hlen
    go_upto_block 0 with fail
    go_cut [5] (fun v5 W => Steps7 w (.slice A0 xs.length c0) (.slice A xs.length c) v5 ops xs W ∧ Aside (∀ x ∈ ops, x ≤ 2))
    case first =>
      go_wp2_with fail
      clear hbz
      go_loopg [5, 38] (xs.length + 1) (fun gk v5 i W => Below w.heap.size w W ∧ ∃ (k : Nat) (css : List (List Value)), i = .int .i64 k ∧ k ≤ xs.length ∧ k + gk = xs.length + 1 ∧ W.ownsRow w.heap.size 66 4 v5 k css.flatten ∧ All2 (SR W) css ((scr ops xs).take k) ∧ Aside (∀ (j : Nat) x, j < k → ops[j]? = some x → x ≤ 2))
      case atStart => exact ⟨hb13, 0, [], rfl, by omega, by omega, own_nil _ _ _ _, trivial, fun j x h => absurd h (Nat.not_lt_zero _)⟩
      case round =>
        clear haw hb13
        obtain ⟨hb, k, css, rfl, hk, hg, ho, hal, hX⟩ := hrel
        have hws := hb.size
        obtain ⟨OA, oc, rfl⟩ := own_shape ho
        by_cases hlt : k < xs.length
        · obtain ⟨x, hx⟩ : ∃ x, xs[k] = x := ⟨_, rfl⟩
          have hkl : k < ops.length := by rw [M.out.2.2.2.2]; exact hlt
          obtain ⟨op, hopk⟩ : ∃ op, ops[k] = op := ⟨_, rfl⟩
          have hop256 := M.out.2.2.2.1 op (by rw [← hopk]; exact List.getElem_mem hkl)
          have hxo := M.out.2.1 x (by rw [← hx]; exact List.getElem_mem hlt)
          obtain ⟨bk, o, kb, vb, pA, pc, rfl, x0, x1, x2, hk1, hv1, hp1⟩ := (M.out.1.below hb).get k hlt x hx
          have hrd := M.out.2.2.1.below hb
          obtain ⟨b0, o0, c', he, _, _, _⟩ := hrd.cells (by omega)
          injection he with he1 he2 he3
          subst he1 he3
          clear he2
          have y0 := opc_at hrd k op (by rw [List.getElem?_eq_getElem hkl, hopk])
          have TK : Aside ((scr ops xs).take (k + 1) = (scr ops xs).take k ++ [(op, x)] ∧ bs kb = x.1 ∧ bs vb = x.2.1 ∧ SMok x ∧ ops[k]? = some op) := by
            refine ⟨?_, hk1, hv1, hxo, by rw [List.getElem?_eq_getElem hkl, hopk]⟩
            rw [scr_take k hlt M.out.2.2.2.2, hopk, hx]
          have hA1 : Below wr.heap.size wr (wr.alloc (.cells #[.string kb, .string vb, .slice pA x.2.2.length pc] 28)) := (Below.refl _ _).alloc (Nat.le_refl _) _
          have hq1 := heap_alloc_new wr (.cells #[.string kb, .string vb, .slice pA x.2.2.length pc] 28)
          have hwu : IntKind.u8.wrap (op : Int) = (op : Int) := by rw [IntKind.wrap_u8]; omega
          have y1 := cell_below hA1 y0
          clear hrd hx hopk hk1 hv1 hxo hkl
          by_cases h2 : 2 < op
          · have h2z : (2 : Int) < (op : Int) := by omega
            have haw4 := awake_any _ (hw.below (below_then hb hws hA1))
            go_wp2_with (go_at_fn 11; fail)
            refine haw4.mono ?_
            rintro e w7 ⟨rfl, hb7⟩
            go_wp2_with fail
            go_ret
            exact ⟨rfl, below_then (below_then hb hws hA1) (below_then hb hws hA1).size hb7⟩
          · have h2z : ¬ (2 : Int) < (op : Int) := by omega
            have hA : Below wr.heap.size wr (wr.alloc (.cells #[.string kb, .string vb, .slice pA x.2.2.length pc] 28)).drew := hA1.drew
            have htm := toMember_any kb vb (.slice pA x.2.2.length pc) x.2.2 _ (hp1.below hA) (by have := TK.out.2.2.2.1.num; omega)
            obtain ⟨⟨q0, q1, q2⟩, _, _, _⟩ := row3 hq1
            obtain ⟨⟨q0b, q1b, q2b⟩, _, _, _⟩ := row3 (row_drew hq1)
            have y1b := cell_below hA y0
            have LE : Aside (op ≤ 2) := by show _ ≤ _; omega
            clear hp1 hw h2
            go_wp2_with fail
            go_region_law (first
              | (go_simp; go_at_call 18; refine htm.mono ?_; intro e w5 hpost; obtain ⟨pv5, rfl, hrd5, hbel⟩ := hpost
                 obtain ⟨A5, c5, rfl, _, _⟩ := hrd5.shape
                 have hA5 := below_then hA hA.size hbel
                 have y5 := cell_below hA5 y0
                 have hb5 := below_then hb hws hA5
                 have ho5 := own_below (C := 0) ho hA5
                 have hal5 := hal.imp (fun _ _ h => SR.below h hA5)
                 have hsr : SR w5 [.int .u8 (op : Int), .string kb, .string vb, .slice A5 x.2.2.length c5] (op, x) := ⟨kb, vb, _, rfl, TK.out.2.1, TK.out.2.2.1, hrd5⟩
                 have hws5 := hb5.size
                 clear hbel htm)
              | (refine step_app (w5.alloc (.cells #[.int .u8 (op : Int), .string kb, .string vb, .slice A5 x.2.2.length c5] 66)) w.heap.size (by rfl) (.tmp 49) (.tmp 57) 64 (by rfl) 66 _ 4 64 Tryz.underlying64 Tryz.info66 rfl (by decide) (.slice OA k oc) k _ [.int .u8 (op : Int), .string kb, .string vb, .slice A5 x.2.2.length c5] (by rfl) w5.heap.size (by rfl) rfl hsr.ones (ho5.alloc _) (heap_alloc_new _ _) (by simp; omega) (by omega) (by omega) ?_
                 intro v1 w6 ho6 hb6 hf6 hs6))
            all_goals
              go_wp2_with fail
              go_roundg (gk - 1)
              case rel =>
                have hA7 : Below w5.heap.size w5 (w5.alloc (.cells #[.int .u8 (op : Int), .string kb, .string vb, .slice A5 x.2.2.length c5] 66)) := (Below.refl _ _).alloc (Nat.le_refl _) _
                refine ⟨(below_then hb5 hws5 hA7).trans hb6, k + 1, css ++ [[.int .u8 (op : Int), .string kb, .string vb, .slice A5 x.2.2.length c5]], by go_num, by omega, by omega, ?_, ?_, ?_⟩
                · rw [List.flatten_append]
                  simpa using ho6
                · rw [TK.out.1]
                  exact (hal5.append (l' := [_]) (m' := [(op, x)]) ⟨hsr, trivial⟩).imp (fun _ _ h => SR.fr (SR.below h hA7) hf6 (by decide))
                · intro j y hj hy
                  rcases Nat.lt_succ_iff_lt_or_eq.1 hj with hj | rfl
                  · exact hX.out j y hj hy
                  · rw [TK.out.2.2.2.2] at hy
                    injection hy with hy
                    rw [← hy]
                    exact LE.out
              case measure => omega
        · have hkl : k = xs.length := by omega
          have hfin := hX.out
          rw [List.take_of_length_le (by rw [scr_len M.out.2.2.2.2]; omega)] at hal
          have FIN : Aside (∀ x ∈ ops, x ≤ 2) := by
            intro x hx
            obtain ⟨j, hj⟩ := List.mem_iff_getElem?.1 hx
            have := (List.getElem?_eq_some_iff.1 hj).1
            exact hfin j x (by have := M.out.2.2.2.2; omega) hj
          clear hfin
          go_wp2_with fail
          go_meet
          exact ⟨⟨css, hb, by rw [hkl] at ho; rw [hkl]; exact ho, hal⟩, FIN⟩
    case rest =>
      clear hb13 haw
      obtain ⟨⟨css, hb, ho, hal⟩, hLE⟩ := hcut
      have hws := hb.size
      have hsrs : SRs wc u5 (scr ops xs) := ⟨css, by rw [scr_len M.out.2.2.2.2]; exact Rd.of_own ho, hal⟩
      have hbag := bag_any u5 (scr ops xs) wc (hw.below hb) hsrs (by rw [scr_len M.out.2.2.2.2]; omega) (by
        intro s hs
        obtain ⟨s1, s2⟩ := s
        have := List.of_mem_zip hs
        exact ⟨M.out.2.1 s2 this.2, hLE.out s1 this.1⟩)
      have hRl : (runBag (scr ops xs) []).length = xs.length := by rw [runBag_len, scr_len M.out.2.2.2.2]
      have hRg : ∀ (k : Nat) (hk : k < xs.length) (op : Nat) (x : SM), ops[k]? = some op → xs[k] = x → (runBag (scr ops xs) [])[k]? = some (stepB op x (endB ((scr ops xs).take k) [])) ∧ endB ((scr ops xs).take (k + 1)) [] = (stepB op x (endB ((scr ops xs).take k) [])).2.2 := by
        intro k hk op x h1 h2
        have h3 := scr_get k hk M.out.2.2.2.2
        have h4 : ops[k]'(by have := M.out.2.2.2.2; omega) = op := (List.getElem?_eq_some_iff.1 h1).2
        rw [h4, h2] at h3
        refine ⟨runBag_get _ _ _ _ h3, ?_⟩
        have h5 := (List.getElem?_eq_some_iff.1 h3)
        exact (runBag_take (scr ops xs) k h5.1 _ h5.2).2
      obtain ⟨R, hR⟩ : ∃ R, runBag (scr ops xs) [] = R := ⟨_, rfl⟩
      rw [hR] at hbag hRl hRg
      have RG : Aside (∀ (k : Nat) (hk : k < xs.length) (op : Nat) (x : SM), ops[k]? = some op → xs[k] = x → R[k]? = some (stepB op x (endB ((scr ops xs).take k) [])) ∧ endB ((scr ops xs).take (k + 1)) [] = (stepB op x (endB ((scr ops xs).take k) [])).2.2) := hRg
      obtain ⟨OA, oc, rfl⟩ := own_shape ho
      clear hsrs hal ho hR hRg css
      go_wp2_with (go_at_fn 29; fail)
      refine hbag.mono ?_
      intro e w4 hpost
      obtain ⟨v8, rfl, hars, hb4⟩ := hpost
      have hb14 := below_then hb hws hb4
      obtain ⟨A8, c8, rfl, hnc8, hcm8⟩ := hars.shape
      have HA : Aside (ARs w4 (.slice A8 R.length c8) R ∧ R.length = xs.length) := ⟨hars, hRl⟩
      rw [hRl] at hnc8 ⊢
      have haw4 := awake_any w4 (hw.below hb14)
      clear hbag hars hRl hb hws hb4
      go_wp2_with (go_at_fn 11; fail)
      refine haw4.mono ?_
      rintro e w5 ⟨rfl, hb5⟩
      have hb15 := below_then hb14 hb14.size hb5
      have HA5 : Aside (ARs w5 (.slice A8 R.length c8) R ∧ R.length = xs.length) := ⟨HA.out.1.below hb5, HA.out.2⟩
      clear haw4 hb14 hb5 HA
      go_wp2_with fail
      go_loopg [9, 10, 14, 73] (xs.length + 1) (fun gk v9 v10 v14 i W => Below w.heap.size w W ∧ Below w5.heap.size w5 W ∧ ∃ (k s : Nat) (X : List SM), i = .int .i64 k ∧ k ≤ xs.length ∧ k + gk = xs.length + 1 ∧ v10 = .int .i64 s ∧ s ≤ 8000 ∧ MRs true true 23 28 W v9 X ∧ X.length ≤ k ∧ Aside (X = endB ((scr ops xs).take k) [] ∧ Srt X ∧ ∀ x ∈ X, x.2.2.length ≤ 8))
      case atStart => exact ⟨hb15, Below.refl _ _, 0, 0, [], rfl, by omega, by omega, rfl, by omega, ⟨[], Rd.nil _ _ _ _, trivial⟩, by simp, rfl, List.Pairwise.nil, by simp⟩
      case round =>
        clear hb15
        obtain ⟨hb, hb5, k, s, X, rfl, hk, hg, rfl, hs, hmb, hXl, hX⟩ := hrel
        have hws := hb.size
        obtain ⟨A9, c9, rfl, hnc9, hcm9⟩ := hmb.shape
        by_cases hlt : k < xs.length
        · obtain ⟨x, hx⟩ : ∃ x, xs[k] = x := ⟨_, rfl⟩
          have hkl : k < ops.length := by rw [M.out.2.2.2.2]; exact hlt
          obtain ⟨op, hopk⟩ : ∃ op, ops[k] = op := ⟨_, rfl⟩
          have hopk' : ops[k]? = some op := by rw [List.getElem?_eq_getElem hkl, hopk]
          have hop2 := hLE.out op (by rw [← hopk]; exact List.getElem_mem hkl)
          have hxo := M.out.2.1 x (by rw [← hx]; exact List.getElem_mem hlt)
          obtain ⟨r1, r2⟩ := RG.out k hlt op x hopk' hx
          rw [← hX.out.1] at r1 r2
          obtain ⟨a, ha⟩ : ∃ a, stepB op x X = a := ⟨_, rfl⟩
          rw [ha] at r1 r2
          have hRk : k < R.length := by rw [HA5.out.2]; exact hlt
          have hRa : R[k] = a := (List.getElem?_eq_some_iff.1 r1).2
          obtain ⟨bk, o, kb, vb, pA, pc, rfl, x0, x1, x2, hk1, hv1, hp1⟩ := (M.out.1.below hb).get k hlt x hx
          have hrd := M.out.2.2.1.below hb
          obtain ⟨b0, o0, c', he, _, _, _⟩ := hrd.cells (by omega)
          injection he with he1 he2 he3
          subst he1 he3
          clear he2
          have y0 := opc_at hrd k op hopk'
          obtain ⟨b8, o8, ka, va, qA, qc, mA, mc, hA8, z0, z1, z2, z3, z4, hm1, hm2⟩ := (HA5.out.1.below hb5).get k hRk a hRa
          subst hA8
          have SA : Aside (stepB op x X = a ∧ a.2.2 = endB ((scr ops xs).take (k + 1)) [] ∧ bs kb = x.1 ∧ bs vb = x.2.1 ∧ SMok x ∧ MR true 32 wr [.string ka, .string va, .slice qA a.1.2.2.length qc] a.1 ∧ MRs true true 32 42 wr (.slice mA a.2.2.length mc) a.2.2) := ⟨ha, r2.symm, hk1, hv1, hxo, hm1, hm2⟩
          have hsrt : Srt a.2.2 := by rw [← ha]; exact stepB_srt op x hX.out.2.1
          obtain ⟨oi, hoi⟩ : ∃ oi : Int, (op : Int) = oi := ⟨_, rfl⟩
          rw [hoi] at y0
          obtain ⟨w6, hw6⟩ : ∃ w6, (wr.alloc (.cells #[.string kb, .string vb, .slice pA x.2.2.length pc] 28)).alloc (.cells #[.string ⟨#[]⟩, .string ⟨#[]⟩, .slice none 0 0] 28) = w6 := ⟨_, rfl⟩
          have hA6 : Below wr.heap.size wr w6 := by rw [← hw6]; exact ((Below.refl _ _).alloc (Nat.le_refl _) _).alloc (by simp) _
          have hq6 : w6.heap[wr.heap.size]? = some (.cells #[.string kb, .string vb, .slice pA x.2.2.length pc] 28 (0, 0)) := by rw [← hw6]; exact row_alloc (heap_alloc_new _ _) _
          have ht6 : w6.heap[wr.heap.size + 1]? = some (.cells #[.string ⟨#[]⟩, .string ⟨#[]⟩, .slice none 0 0] 28 (0, 0)) := by rw [← hw6]; exact heap_alloc_2 _ _ _
          have hp6 := hp1.below hA6
          have hmb6 := hmb.below hA6
          have hbw6 := below_then hb hws hA6
          have y6 := cell_below ((Below.refl wr.heap.size wr).alloc (Nat.le_refl _) (.cells #[.string kb, .string vb, .slice pA x.2.2.length pc] 28)) y0
          have y7 := cell_below (((Below.refl wr.heap.size wr).alloc (Nat.le_refl _) (.cells #[.string kb, .string vb, .slice pA x.2.2.length pc] 28)).alloc (by simp) (.cells #[.string ⟨#[]⟩, .string ⟨#[]⟩, .slice none 0 0] 28)) y0
          have HW6 : Aside ((wr.alloc (.cells #[.string kb, .string vb, .slice pA x.2.2.length pc] 28)).alloc (.cells #[.string ⟨#[]⟩, .string ⟨#[]⟩, .slice none 0 0] 28) = w6) := hw6
          clear hw6
          have LX : Aside (∀ y ∈ a.2.2, y.2.2.length ≤ 8) := by
            intro y hy
            rw [← ha] at hy
            rcases (show op = 0 ∨ op = 1 ∨ op = 2 by omega) with rfl | rfl | rfl
            · cases hok : okS x with
              | true =>
                rw [stepB_set x X hok] at hy
                rcases withMS_mem x X y hy with rfl | hy
                · exact hxo.num
                · exact hX.out.2.2 y hy
              | false =>
                rw [stepB_bad x X hok] at hy
                exact hX.out.2.2 y hy
            · rw [stepB_del] at hy
              exact hX.out.2.2 y (List.mem_filter.1 hy).1
            · rw [stepB_ask] at hy
              exact hX.out.2.2 y hy
          have hal : a.2.2.length ≤ k + 1 := by
            rw [← ha]
            rcases (show op = 0 ∨ op = 1 ∨ op = 2 by omega) with rfl | rfl | rfl
            · cases hok : okS x with
              | true =>
                rw [stepB_set x X hok]
                have h1 := (withMS_perm x X hX.out.2.1).length_eq
                have h2 := without_len x.1 X
                rw [List.length_append] at h1
                simp only [List.length_cons, List.length_nil] at h1
                show (withMS x X).length ≤ _
                omega
              | false =>
                rw [stepB_bad x X hok]
                show X.length ≤ _
                omega
            · rw [stepB_del]
              have h2 := without_len x.1 X
              show (withoutMS x.1 X).length ≤ _
              omega
            · rw [stepB_ask]
              show X.length ≤ _
              omega
          clear hx hopk hopk' hk1 hv1 hxo hp1 hrd r1 r2 ha hRk hRa hm1 hm2 hkl
          obtain ⟨⟨s0, s1, s2⟩, _, _, _⟩ := row3 hq6
          go_upto_block 4 with fail
          rw [HW6.out]
          clear HW6 y6 y7
          go_cut [9, 10, 14] (fun v9 v10 v14 W => ∃ (s' : Nat) (kb3 vb3 : ByteArray) (pA3 : Option Addr) (pc3 : Nat) (f : Bool), v10 = .int .i64 s' ∧ s' ≤ 28001 ∧ v14 = .bool f ∧ Below wr.heap.size wr W ∧ MRs true true 23 28 W v9 a.2.2 ∧ W.heap[wr.heap.size + 1]? = some (.cells #[.string kb3, .string vb3, .slice pA3 a.1.2.2.length pc3] 28 (0, 0)) ∧ Aside (MR true 23 W [.string kb3, .string vb3, .slice pA3 a.1.2.2.length pc3] a.1 ∧ f = a.2.1))
          case first =>
            rcases (show op = 0 ∨ op = 1 ∨ op = 2 by omega) with rfl | rfl | rfl
            · obtain rfl : oi = 0 := hoi.symm
              have hxo := SA.out.2.2.2.2.1
              have hmk := makeMemberS_any false kb vb (.slice pA x.2.2.length pc) x.2.2 w6 (hw.below hbw6) (by rw [← bs_length, SA.out.2.2.1]; have := hxo.key; omega) (by rw [← bs_length, SA.out.2.2.2.1]; have := hxo.val; omega) hp6 (by have := hxo.num; omega) (fun p hp => (hxo.props p hp).mono (by omega))
              have hxe : (bs kb, bs vb, x.2.2) = x := by rw [SA.out.2.2.1, SA.out.2.2.2.1]
              rw [hxe, show how false = 0 from rfl] at hmk
              obtain ⟨Q, hQ⟩ : ∃ Q, madeMS false x = Q := ⟨_, rfl⟩
              have hQ1 : Q.1 = x := by rw [← hQ, madeMS_raw]
              have hOK : okS x = Q.2 := by rw [← hQ]; rfl
              rw [hQ] at hmk
              obtain ⟨q1, q2⟩ := Q
              simp only at hQ1 hOK
              subst hQ1
              have OK : Aside (okS q1 = q2) := hOK
              have hnum := hxo.num
              clear hQ hxe hxo hOK
              go_wp2_with (go_at_fn 16; fail)
              refine hmk.mono ?_
              intro e w7 hpost
              obtain ⟨kb1, vb1, pA1, n1, pc1, rfl, hb7, hk7, hv7, rfl, hrd7⟩ := hpost
              simp only at hk7 hv7 hrd7 ⊢
              have ht7 := (hb7.block _ (Array.getElem?_eq_some_iff.1 ht6).1).trans ht6
              have hmb7 := hmb6.below hb7
              have hA7 := below_then hA6 hA6.size hb7
              have hA8 : Below w7.heap.size w7 (w7.alloc (.cells #[.string kb1, .string vb1, .slice pA1 q1.2.2.length pc1] 28)) := (Below.refl _ _).alloc (Nat.le_refl _) _
              have hq8 := heap_alloc_new w7 (.cells #[.string kb1, .string vb1, .slice pA1 q1.2.2.length pc1] 28)
              obtain ⟨w8, hw8⟩ : ∃ w8, w7.alloc (.cells #[.string kb1, .string vb1, .slice pA1 q1.2.2.length pc1] 28) = w8 := ⟨_, rfl⟩
              rw [hw8] at hA8 hq8
              have ht8 := (hA8.block _ (Array.getElem?_eq_some_iff.1 ht7).1).trans ht7
              have hmb8 := hmb7.below hA8
              have hrd8 := hrd7.below hA8
              have hA18 := below_then hA7 hA7.size hA8
              obtain ⟨⟨c0, c1, c2⟩, _, _, _⟩ := row3 hq8
              clear hmk hb7 ht7 hmb7 hA7 hA8 hrd7 hq6 ht6 hp6 hmb6 hbw6 hA6 s0 s1 s2
              cases q2
              · obtain rfl : a = (emptySM, true, X) := by rw [← SA.out.1, stepB_bad q1 X OK.out]
                go_wp2_with fail
                go_meet
                exact ⟨s, ⟨#[]⟩, ⟨#[]⟩, none, 0, true, rfl, by omega, rfl, hA18, hmb8, ht8, ⟨_, _, _, rfl, rfl, rfl, Rd.nil _ _ _ _⟩, rfl⟩
              · obtain rfl : a = (emptySM, false, withMS q1 X) := by rw [← SA.out.1, stepB_set q1 X OK.out]
                have hwi := with_any (.slice A9 X.length c9) X kb1 vb1 pA1 q1.2.2.length pc1 q1 w8 hmb8 (by omega) hX.out.2.1 ⟨_, _, _, rfl, hk7, hv7, hrd8⟩
                go_wp2_with (go_at_fn 24; fail)
                refine hwi.mono ?_
                intro e w9 hpost
                obtain ⟨v9, css9, rfl, hown9, hall9, hb9⟩ := hpost
                have hmr9 : MRs true true 23 28 w9 v9 (withMS q1 X) := ⟨css9, Rd.of_own hown9, hall9.imp (fun _ _ h => MR.below h hb9)⟩
                have ht9 := (hb9.block _ (Array.getElem?_eq_some_iff.1 ht8).1).trans ht8
                have hq9 := (hb9.block _ (Array.getElem?_eq_some_iff.1 hq8).1).trans hq8
                have hA19 := below_then hA18 hA18.size hb9
                have hmt := memberText_any kb1 vb1 (.slice pA1 q1.2.2.length pc1) q1.2.2 w9 (by rw [← bs_length, hk7]; have := SA.out.2.2.2.2.1.key; omega) (by rw [← bs_length, hv7]; have := SA.out.2.2.2.2.1.val; omega) (hrd8.below hb9) (by omega) (fun p hp => (SA.out.2.2.2.2.1.props p hp).mono (by omega))
                have hml := memStr_small SA.out.2.2.2.2.1
                have hme : (⟨bs kb1, bs vb1, [], q1.2.2⟩ : Mem) = memOf q1 := by rw [hk7, hv7]; rfl
                rw [hme] at hmt
                obtain ⟨sb, hsb⟩ : ∃ sb : ByteArray, S (memStr (memOf q1)) = .string sb ∧ bs sb = memStr (memOf q1) := ⟨⟨(memStr (memOf q1)).toArray⟩, rfl, rfl⟩
                rw [hsb.1] at hmt
                have hsz : sb.size ≤ 20000 := by rw [← bs_length, hsb.2]; exact hml
                obtain ⟨A10, c10, rfl, _, _⟩ := hmr9.shape
                obtain ⟨⟨d0, d1, d2⟩, _, _, _⟩ := row3 hq9
                clear hme hsb hml hk7 hv7 hwi hown9 hall9 hb9 hq8 ht8 hmb8 hrd8 hA18 c0 c1 c2 hw8
                go_wp2_with (go_at_fn 21; fail)
                refine hmt.mono ?_
                rintro e wA ⟨rfl, hbA⟩
                go_wp2_with fail
                go_meet
                exact ⟨s + (sb.size + 1), ⟨#[]⟩, ⟨#[]⟩, none, 0, false, by go_num, by omega, rfl, below_then hA19 hA19.size hbA, hmr9.below hbA, (hbA.block _ (Array.getElem?_eq_some_iff.1 ht9).1).trans ht9, ⟨_, _, _, rfl, rfl, rfl, Rd.nil _ _ _ _⟩, rfl⟩
            · obtain rfl : oi = 1 := hoi.symm
              have hwo := without_any (.slice A9 X.length c9) X kb w6 hmb6 (by omega) hX.out.2.1
              obtain rfl : a = (emptySM, false, withoutMS x.1 X) := by rw [← SA.out.1, stepB_del]
              go_wp2_with (go_at_fn 32; fail)
              refine hwo.mono ?_
              intro e w9 hpost
              obtain ⟨v9, css9, rfl, hown9, hall9, hb9⟩ := hpost
              have hmr9 : MRs true true 23 28 w9 v9 (withoutMS (bs kb) X) := ⟨css9, Rd.of_own hown9, hall9.imp (fun _ _ h => MR.below h hb9)⟩
              rw [SA.out.2.2.1] at hmr9
              go_wp2_with fail
              go_meet
              exact ⟨s, ⟨#[]⟩, ⟨#[]⟩, none, 0, false, rfl, by omega, rfl, below_then hA6 hA6.size hb9, hmr9, (hb9.block _ (Array.getElem?_eq_some_iff.1 ht6).1).trans ht6, ⟨_, _, _, rfl, rfl, rfl, Rd.nil _ _ _ _⟩, rfl⟩
            · obtain rfl : oi = 2 := hoi.symm
              have has := ask_any (.slice A9 X.length c9) X kb w6 hmb6 (by omega) hX.out.2.1
              rw [SA.out.2.2.1] at has
              obtain rfl : a = (askMS x.1 X, false, X) := by rw [← SA.out.1, stepB_ask]
              go_wp2_with (go_at_fn 33; fail)
              refine has.mono ?_
              intro e w9 hpost
              obtain ⟨kb4, vb4, pA4, pc4, rfl, hm4, hb9⟩ := hpost
              have ht9 := (hb9.block _ (Array.getElem?_eq_some_iff.1 ht6).1).trans ht6
              have hA19 := below_then hA6 hA6.size hb9
              obtain ⟨⟨d0, d1, d2⟩, g0, g1, g2⟩ := row3 ht9
              have HM : Aside (MR true 23 w9 [.string kb4, .string vb4, .slice pA4 (askMS x.1 X).2.2.length pc4] (askMS x.1 X)) := hm4
              clear has hm4
              go_wp2_with fail
              go_meet
              have h0 := row_set ht9 0 (.string kb4)
              have h1 := row_set h0 1 (.string vb4)
              have hA20 : Below wr.heap.size wr (((w9.setCell ⟨wr.heap.size + 1, 0, none⟩ (.string kb4)).setCell ⟨wr.heap.size + 1, 1, none⟩ (.string vb4)).setCell ⟨wr.heap.size + 1, 2, none⟩ (.slice pA4 (askMS x.1 X).2.2.length pc4)) := ((hA19.setCell (by simp) _).setCell (by simp) _).setCell (by simp) _
              refine ⟨s, kb4, vb4, pA4, pc4, false, rfl, by omega, rfl, hA20, hmb.below hA20, row_set h1 2 _, ?_, rfl⟩
              exact HM.out.fr2 ((((Fr2.refl 28 28 w9).set ht9 _).set h0 _).set h1 _) (by decide) (by decide)
          case rest =>
            clear hq6 ht6 hp6 hmb6 hbw6 hA6 s0 s1 s2 hmb
            obtain ⟨s', kb3, vb3, pA3, pc3, f, rfl, hs', rfl, hA, hmb', ht, hS⟩ := hcut
            have hbw := below_then hb hws hA
            by_cases hbig8 : 8000 < s'
            · have hb8z : (8000 : Int) < (s' : Int) := by omega
              clear hbig8
              go_wp2_with fail
              go_ret
              exact ⟨rfl, hbw⟩
            · have hb8z : ¬ (8000 : Int) < (s' : Int) := by omega
              obtain ⟨_, _, _, he, hka, hva, hpa⟩ := SA.out.2.2.2.2.2.1
              simp only [List.cons.injEq, Value.string.injEq, and_true] at he
              obtain ⟨rfl, rfl, rfl⟩ := he
              obtain ⟨⟨_, _, _, he, hk3, hv3, hp3⟩, hf⟩ := hS.out
              simp only [List.cons.injEq, Value.string.injEq, and_true] at he
              obtain ⟨rfl, rfl, rfl⟩ := he
              obtain rfl : ka = kb3 := bs_inj (hka.trans hk3.symm)
              obtain rfl : va = vb3 := bs_inj (hva.trans hv3.symm)
              subst hf
              have hn1 : a.1.2.2.length ≤ 100000 := by
                have hxo := SA.out.2.2.2.2.1
                have h1 := SA.out.1
                rw [← h1]
                rcases (show op = 0 ∨ op = 1 ∨ op = 2 by omega) with rfl | rfl | rfl
                · cases hok : okS x with
                  | true => rw [stepB_set x X hok]; simp [emptySM]
                  | false => rw [stepB_bad x X hok]; simp [emptySM]
                · rw [stepB_del]; simp [emptySM]
                · rw [stepB_ask]
                  show (askMS x.1 X).2.2.length ≤ _
                  unfold askMS
                  cases hfd : X.find? (fun y => decide (y.1 = x.1)) with
                  | none => simp
                  | some y =>
                    have := hX.out.2.2 y (List.mem_of_find?_eq_some hfd)
                    simp only [Option.getD_some]
                    omega
              have hpp : ∀ y ∈ a.2.2, y.2.2.length ≤ 100000 := fun y hy => by have := LX.out y hy; omega
              have PP : Aside (∀ y ∈ a.2.2, y.2.2.length ≤ 100000) := hpp
              have hmw : MRs true true 32 42 wc (.slice mA a.2.2.length mc) a.2.2 := SA.out.2.2.2.2.2.2.below hA
              have hpw := hpa.below hA
              have c0 := cell_below hA z0
              have c1 := cell_below hA z1
              have c2 := cell_below hA z2
              have c3 := cell_below hA z3
              have c4 := cell_below hA z4
              obtain ⟨⟨t0, t1, t2⟩, _, _, _⟩ := row3 ht
              have hof := ofMember_any ka va (.slice qA a.1.2.2.length qc) a.1.2.2 wc.drew (hpw.below (Below.refl _ _).drew) hn1
              obtain ⟨A11, c11, rfl, _, _⟩ := hmb'.shape
              clear hka hva hk3 hv3 hS hpp hpa hbig8 hLE RG
              go_wp2_with fail
              go_region_held3 (fun W => W.cell? ⟨b8, o8 + k * 5, none⟩ = some (.string ka) ∧ W.cell? ⟨b8, o8 + k * 5 + 1, none⟩ = some (.string va) ∧ W.cell? ⟨b8, o8 + k * 5 + 2, none⟩ = some (.slice qA a.1.2.2.length qc) ∧ W.cell? ⟨b8, o8 + k * 5 + 3, none⟩ = some (.bool a.2.1) ∧ W.cell? ⟨b8, o8 + k * 5 + 4, none⟩ = some (.slice mA a.2.2.length mc) ∧ W.cell? ⟨wr.heap.size + 1, 0, none⟩ = some (.string ka) ∧ W.cell? ⟨wr.heap.size + 1, 1, none⟩ = some (.string va) ∧ W.cell? ⟨wr.heap.size + 1, 2, none⟩ = some (.slice pA3 a.1.2.2.length pc3)) ((first | exact ⟨c0, c1, c2, c3, c4, t0, t1, t2⟩ | exact D.out | exact E.out | exact F.out | exact G.out)) (first
                | (go_at_call 20; refine hof.mono ?_; intro e w7 hpost; obtain ⟨pv7, rfl, hrd7, hb7⟩ := hpost; obtain ⟨A7, c7, rfl, _, _⟩ := hrd7.shape
                   have hb7 : Below wc.heap.size wc w7 := (Below.refl _ _).drew.trans hb7
                   have D : Aside (w7.cell? ⟨b8, o8 + k * 5, none⟩ = some (.string ka) ∧ w7.cell? ⟨b8, o8 + k * 5 + 1, none⟩ = some (.string va) ∧ w7.cell? ⟨b8, o8 + k * 5 + 2, none⟩ = some (.slice qA a.1.2.2.length qc) ∧ w7.cell? ⟨b8, o8 + k * 5 + 3, none⟩ = some (.bool a.2.1) ∧ w7.cell? ⟨b8, o8 + k * 5 + 4, none⟩ = some (.slice mA a.2.2.length mc) ∧ w7.cell? ⟨wr.heap.size + 1, 0, none⟩ = some (.string ka) ∧ w7.cell? ⟨wr.heap.size + 1, 1, none⟩ = some (.string va) ∧ w7.cell? ⟨wr.heap.size + 1, 2, none⟩ = some (.slice pA3 a.1.2.2.length pc3)) := ⟨cell_below hb7 c0, cell_below hb7 c1, cell_below hb7 c2, cell_below hb7 c3, cell_below hb7 c4, cell_below hb7 t0, cell_below hb7 t1, cell_below hb7 t2⟩
                   have hsm := sameMember_any ka va ka va A7 pA3 c7 pc3 a.1.2.2 a.1.2.2 w7 hrd7 (hp3.below hb7) hn1 hn1
                   rw [decide_eq_true ⟨rfl, rfl, rfl⟩] at hsm
                   obtain ⟨d0, d1, d2, d3, d4, d5, d6, d7⟩ := D.out)
                | (go_at_call 19; refine hsm.mono ?_; rintro e w8 ⟨rfl, hb8⟩
                   have E : Aside (w8.cell? ⟨b8, o8 + k * 5, none⟩ = some (.string ka) ∧ w8.cell? ⟨b8, o8 + k * 5 + 1, none⟩ = some (.string va) ∧ w8.cell? ⟨b8, o8 + k * 5 + 2, none⟩ = some (.slice qA a.1.2.2.length qc) ∧ w8.cell? ⟨b8, o8 + k * 5 + 3, none⟩ = some (.bool a.2.1) ∧ w8.cell? ⟨b8, o8 + k * 5 + 4, none⟩ = some (.slice mA a.2.2.length mc) ∧ w8.cell? ⟨wr.heap.size + 1, 0, none⟩ = some (.string ka) ∧ w8.cell? ⟨wr.heap.size + 1, 1, none⟩ = some (.string va) ∧ w8.cell? ⟨wr.heap.size + 1, 2, none⟩ = some (.slice pA3 a.1.2.2.length pc3)) := ⟨cell_below hb8 D.out.1, cell_below hb8 D.out.2.1, cell_below hb8 D.out.2.2.1, cell_below hb8 D.out.2.2.2.1, cell_below hb8 D.out.2.2.2.2.1, cell_below hb8 D.out.2.2.2.2.2.1, cell_below hb8 D.out.2.2.2.2.2.2.1, cell_below hb8 D.out.2.2.2.2.2.2.2⟩
                   have hb78 := below_then hb7 hb7.size hb8
                   have hom := ofMembers_any _ a.2.2 w8 (hmw.below hb78) (by omega) PP.out
                   obtain ⟨e0, e1, e2, e3, e4, e5, e6, e7⟩ := E.out)
                | (go_at_call 26; refine hom.mono ?_; intro e w9 hpost; obtain ⟨vv9, rfl, hmr9, hb9⟩ := hpost; obtain ⟨A12, c12, rfl, _, _⟩ := hmr9.shape
                   have F : Aside (w9.cell? ⟨b8, o8 + k * 5, none⟩ = some (.string ka) ∧ w9.cell? ⟨b8, o8 + k * 5 + 1, none⟩ = some (.string va) ∧ w9.cell? ⟨b8, o8 + k * 5 + 2, none⟩ = some (.slice qA a.1.2.2.length qc) ∧ w9.cell? ⟨b8, o8 + k * 5 + 3, none⟩ = some (.bool a.2.1) ∧ w9.cell? ⟨b8, o8 + k * 5 + 4, none⟩ = some (.slice mA a.2.2.length mc) ∧ w9.cell? ⟨wr.heap.size + 1, 0, none⟩ = some (.string ka) ∧ w9.cell? ⟨wr.heap.size + 1, 1, none⟩ = some (.string va) ∧ w9.cell? ⟨wr.heap.size + 1, 2, none⟩ = some (.slice pA3 a.1.2.2.length pc3)) := ⟨cell_below hb9 E.out.1, cell_below hb9 E.out.2.1, cell_below hb9 E.out.2.2.1, cell_below hb9 E.out.2.2.2.1, cell_below hb9 E.out.2.2.2.2.1, cell_below hb9 E.out.2.2.2.2.2.1, cell_below hb9 E.out.2.2.2.2.2.2.1, cell_below hb9 E.out.2.2.2.2.2.2.2⟩
                   have hb79 := below_then hb78 hb78.size hb9
                   have hss := same_any _ _ a.2.2 a.2.2 w9 hmr9 (hmb'.below hb79) (by omega) (by omega) PP.out PP.out
                   rw [decide_eq_true rfl] at hss
                   obtain ⟨f0, f1, f2, f3, f4, f5, f6, f7⟩ := F.out)
                | (go_at_call 27; refine hss.mono ?_; rintro e wA ⟨rfl, hbA⟩
                   have G : Aside (wA.cell? ⟨b8, o8 + k * 5, none⟩ = some (.string ka) ∧ wA.cell? ⟨b8, o8 + k * 5 + 1, none⟩ = some (.string va) ∧ wA.cell? ⟨b8, o8 + k * 5 + 2, none⟩ = some (.slice qA a.1.2.2.length qc) ∧ wA.cell? ⟨b8, o8 + k * 5 + 3, none⟩ = some (.bool a.2.1) ∧ wA.cell? ⟨b8, o8 + k * 5 + 4, none⟩ = some (.slice mA a.2.2.length mc) ∧ wA.cell? ⟨wr.heap.size + 1, 0, none⟩ = some (.string ka) ∧ wA.cell? ⟨wr.heap.size + 1, 1, none⟩ = some (.string va) ∧ wA.cell? ⟨wr.heap.size + 1, 2, none⟩ = some (.slice pA3 a.1.2.2.length pc3)) := ⟨cell_below hbA F.out.1, cell_below hbA F.out.2.1, cell_below hbA F.out.2.2.1, cell_below hbA F.out.2.2.2.1, cell_below hbA F.out.2.2.2.2.1, cell_below hbA F.out.2.2.2.2.2.1, cell_below hbA F.out.2.2.2.2.2.2.1, cell_below hbA F.out.2.2.2.2.2.2.2⟩
                   have hb7A := below_then hb79 hb79.size hbA
                   obtain ⟨g0, g1, g2, g3, g4, g5, g6, g7⟩ := G.out))
              all_goals
                go_wp2_with fail
                go_roundg (gk - 1)
                case rel =>
                  have hwA := below_then hA hA.size hb7A
                  exact ⟨below_then hbw hbw.size hb7A, below_then hb5 hb5.size hwA, k + 1, s', a.2.2, by go_num, by omega, by omega, rfl, by omega, hmb'.below hb7A, hal, SA.out.2.1, hsrt, LX.out⟩
                case measure => omega
        · go_wp2_with fail
          go_ret
          exact ⟨rfl, hb⟩
  · cases ri
    · go_wp2_with (go_at_fn 11; fail)
      refine haw.mono ?_
      rintro e w7 ⟨rfl, hb7⟩
      go_wp2_with fail
      go_ret
      exact ⟨rfl, below_then hb13 hb13.size hb7⟩
    · have hne : ((ops.length : Int) != (rs.length : Int)) = true := by
        rw [bne_iff_ne]
        intro e
        exact hgo ⟨rfl, by omega⟩
      clear hgo
      go_wp2_with (go_at_fn 11; fail)
      refine haw.mono ?_
      rintro e w7 ⟨rfl, hb7⟩
      go_wp2_with fail
      go_ret
      exact ⟨rfl, below_then hb13 hb13.size hb7⟩
end Go.Proofs.YtleofgndghjflaaGreatDoor

set_option linter.unusedVariables false
set_option linter.unusedSimpArgs false
namespace Go.Proofs.YtleofgndghjflaaGreatDoor
open Go Go.RowKit Go.Deep Go.WideShapes

variable {H : Type} {enc : TypeId × Value → H} {W : World}
theorem Tryz.cells5 : Tryz.prog.cellsOf 5 = 1 := by kernel_rfl
theorem u8_of {n : Int} (h : (Lit.int .u8 n).wf = true) : ∃ m : Nat, m < 256 ∧ n = m := by
  have h2 : 0 ≤ n ∧ n ≤ 255 := by
    have h3 : (decide (IntKind.u8.min ≤ n) && decide (n ≤ IntKind.u8.max)) = true := h
    rw [Bool.and_eq_true, decide_eq_true_eq, decide_eq_true_eq] at h3
    exact h3
  exact ⟨n.toNat, by omega, by omega⟩
set_option maxRecDepth 100000 in
theorem open_ops {fuel : Nat} {cs : List Value} {x : DataW H × List MemPlace} (hf : DataW.trod enc Tryz.prog W 0 (fun _ => true) true fuel 57 cs = some x) :
    ∃ A c, ∃ l : List Nat, cs = [.slice A l.length c] ∧ Rd false W 5 (.slice A l.length c) l.length 1 (opc l) ∧ ∀ x ∈ l, x < 256 := by
  rcases Go.Deep.open_slice Tryz.underlying57 hf with ⟨rfl, _⟩ | ⟨a, len, cap, m, n, D, Pl, rfl, _, hl, hm, hmm, _, hx⟩
  · exact ⟨none, 0, [], rfl, Rd.nil _ _ _ _, by simp⟩
  · simp only [if_true] at hmm
    subst hmm
    rw [Tryz.cells5] at hx
    obtain ⟨l, hll, hls⟩ := choose_list (p := fun i (r : Nat) => W.cell? (a.add i) = some (.int .u8 (r : Int)) ∧ r < 256) len (fun i hi => by
      obtain ⟨cs', h1, h2⟩ := hx i (by omega)
      obtain ⟨z, rfl, _, hz⟩ := DataW.trod_int Tryz.underlying5 h2
      obtain ⟨r, hr, rfl⟩ := u8_of hz
      obtain ⟨_, _, hc⟩ := World.cells?_some h1
      have h3 := hc 0 (by omega)
      have e0 : ∀ x : Addr, x.add 0 = x := fun x => by simp [Addr.add]
      rw [e0, Nat.mul_one] at h3
      exact ⟨r, by simpa using h3, hr⟩)
    subst hll
    obtain ⟨b, o, spot⟩ := a
    refine ⟨some ⟨b, o, spot⟩, m, l, rfl, ⟨_, m, rfl, hl, by unfold maxLen at hm; omega, by simp [opc], ?_⟩, ?_⟩
    · by_cases h0 : l.length = 0
      · exact .inl h0
      · right
        have hspot : spot = none := by
          obtain ⟨r, hr⟩ : ∃ r, l[0]? = some r := ⟨_, List.getElem?_eq_getElem (by omega)⟩
          have h1 := (hls 0 r hr).1
          simpa [Addr.add] using World.cell?_spot h1
        subst hspot
        refine ⟨b, o, rfl, fun j u hj => ?_, fun h => by cases h⟩
        unfold opc at hj
        rw [List.getElem?_map] at hj
        obtain ⟨r, hr, rfl⟩ := Option.map_eq_some_iff.1 hj
        have h1 := (hls j r hr).1
        rwa [plain_add] at h1
    · intro y hy
      obtain ⟨i, hi⟩ := List.mem_iff_getElem?.1 hy
      exact (hls i y hi).2
set_option maxRecDepth 100000 in
theorem open_ops_arg {v : Value} {d : DataW H} {p : List MemPlace} (hv : Value.okWide Tryz.prog W .any 0 57 v) (h : DataW.Trod enc Tryz.prog W 0 (fun _ => true) true 57 v d p) : ∃ l : List Nat, Rd false W 5 v l.length 1 (opc l) ∧ ∀ x ∈ l, x < 256 := by
  obtain ⟨a, n, c, rfl⟩ := okWide_slice Tryz.underlying57 hv
  obtain ⟨fuel, hf⟩ := h
  obtain ⟨A, c', l, h1, h2, h3⟩ := open_ops hf
  have h1 : [Value.slice a n c] = [.slice A l.length c'] := h1
  simp only [List.cons.injEq, and_true] at h1
  rw [h1]
  exact ⟨l, h2, h3⟩
end Go.Proofs.YtleofgndghjflaaGreatDoor
