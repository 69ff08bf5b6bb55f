/- Contracts: slices.Contains of strings; spec.PiecesDo. -/
import Derived.Test.YtfaokggblllcmaaE2
import Derived.Test.YtfaokggblllcmaaD7
import Derived.Deep.CutRange
set_option linter.unusedVariables false
set_option linter.unusedSimpArgs false
namespace Go.Proofs.Ytfaokggblllcmaa
open Go Go.RowKit

theorem contains_str {ty : Bool} (v : Value) (fs : List (List UInt8)) (x : ByteArray) (w : World) (h : Rd ty w 9 v fs.length 1 (strs fs)) :
    Calls Try.prog 18 #[v, .string x] w fun e w' => e = .returned (.bool (decide (bs x ∈ fs))) ∧ w' = w := by
  obtain ⟨A, c, rfl, hc, hm⟩ := h.shape
  by_cases hz : fs.length = 0
  · have hx : fs = [] := List.eq_nil_of_length_eq_zero hz
    subst hx
    refine (Try.slices_Contains_string_empty A c x w).mono ?_
    rintro e w' ⟨rfl, rfl⟩
    exact ⟨by simp, rfl⟩
  · obtain ⟨b, o, d, e1, _, _, k1⟩ := h.cells (by omega)
    injection e1 with e1 _ _
    subst e1
    have hcells : ∀ j, j < (fs.map fun x => (⟨x.toArray⟩ : ByteArray)).length → w.cell? ⟨b, o + j, none⟩ = some (.string ((fs.map fun x => (⟨x.toArray⟩ : ByteArray)).getD j ByteArray.empty)) := by
      intro j hj
      rw [List.length_map] at hj
      refine k1 j _ ?_
      unfold strs
      rw [List.getElem?_map, List.getElem?_eq_getElem hj]
      simp [List.getD, S, List.getElem?_eq_getElem hj]
    refine (Try.slices_Contains_string b o fs.length c (fs.map fun x => ⟨x.toArray⟩) x w (by simp) (by omega) hcells).mono ?_
    rintro e w' ⟨rfl, rfl⟩
    refine ⟨?_, rfl⟩
    congr 2
    rw [List.take_of_length_le (by simp), Bool.eq_iff_iff, Lib.containsS_iff, decide_eq_true_eq, List.mem_map]
    constructor
    · rintro ⟨y, hy, rfl⟩
      simpa [bs] using hy
    · intro hx
      exact ⟨bs x, hx, by cases x; simp [bs]⟩

theorem CarAt.frF {e : TypeId} {w w' : World} {b : Nat} {M : KVs} (h : CarAt false w b M) (hf : Fr e w w') : CarAt false w' b M := by
  obtain ⟨L, hL, hA⟩ := h
  exact ⟨L, hL.fr hf, hA.imp (fun p q h => ⟨h.1, h.2⟩)⟩
theorem car_put {w : World} {b : Nat} {M : KVs} (t : TypeId) (ht : Try.prog.underlying t = some (.map 9 9)) (h : CarAt false w b M) (k x : ByteArray) :
    ∃ w1, (Instr.mapUpdate t (.map (some b)) (.string k) (.string x)).run Try.prog w = .ok () w1 ∧ CarAt false w1 b (putA (bs k) (bs x) M) ∧ w.grownBy w1 (some b) := by
  obtain ⟨L, hM, hA⟩ := h
  obtain ⟨w1, hup, hM1, hg1⟩ := hM.update ht Try.underlying9 k (.string x)
  refine ⟨w1, hup, ⟨_, hM1, ?_⟩, hg1⟩
  exact (put_kr (hd := false) (w := w) k (.string x) (bs x) (show VR false w (.string x) (bs x) from S_bs x) L M hA).imp (fun p q h => ⟨h.1, h.2⟩)
theorem car_look {w : World} {b : Nat} {M : KVs} (t : TypeId) (ht : Try.prog.underlying t = some (.map 9 9)) (h : CarAt false w b M) (k : ByteArray) :
    (Instr.lookup t (.map (some b)) (.string k) false).run Try.prog w = .ok (S ((getA (bs k) M).getD [])) w := by
  obtain ⟨L, hM, hA⟩ := h
  have hlk := hM.look1 ht Try.underlying9 (Try.zeroValue9 _) k
  have e : (asc L k).getD (.string ⟨#[]⟩) = S ((getA (bs k) M).getD []) := by
    rcases asc_kr k L M hA with ⟨h1, h2⟩ | ⟨y, v, h1, h2, h3⟩
    · rw [h1, h2]; rfl
    · rw [h1, h2]; exact h3
  rw [e] at hlk
  exact hlk
theorem addAll_le : ∀ (fs l : List (List UInt8)), (addAll fs l).length ≤ fs.length + l.length := by
  intro fs
  induction fs using snoc_ind with
  | h0 => intro l; simp [addAll]
  | h1 fs f ih =>
    intro l
    have := ih l
    rw [addAll_snoc]
    unfold addK
    split
    · rw [List.length_append]; omega
    · simp only [List.length_append, List.length_cons, List.length_nil]; omega
theorem fieldsOf_le (n : Nat) : ∀ ps : List Pc, (∀ p ∈ ps, p.2.2.length ≤ n) → (fieldsOf ps).length ≤ n * ps.length := by
  intro ps
  induction ps using snoc_ind with
  | h0 => intro _; simp [fieldsOf]
  | h1 ps p ih =>
    intro h
    have h1 := ih (fun q hq => h q (by simp [hq]))
    have h2 := h p (by simp)
    have h3 := addAll_le p.2.2 (fieldsOf ps)
    rw [fieldsOf_snoc, List.length_append, List.length_cons, List.length_nil, Nat.mul_add]
    omega
theorem injM_len : ∀ ps : List Pc, (injM ps []).length ≤ ps.length := by
  intro ps
  induction ps using snoc_ind with
  | h0 => simp [injM]
  | h1 ps p ih =>
    have := putA_len p.1 p.2.1 (injM ps [])
    rw [injM_snoc, List.length_append, List.length_cons, List.length_nil]
    omega
theorem Try.info53 : (Try.prog.info? 53).map (fun i => (i.zero, i.size, i.bytes)) = some (some (.agg #[.string ⟨#[]⟩, .string ⟨#[]⟩]), 2, 32) := by kernel_rfl

def StA (w : World) (ps : List Pc) (f : Value) (W : World) : Prop := Below w.heap.size w W ∧ CarAt false W w.heap.size (injM ps []) ∧ W.ownsRow w.heap.size 9 1 f (fieldsOf ps).length (strs (fieldsOf ps))
def StB (w : World) (M : KVs) (kv : Value) (W : World) : Prop := Below w.heap.size w W ∧ ∃ ks, ks.Perm (M.map (·.1)) ∧ W.ownsRow w.heap.size 9 1 kv ks.length (strs ks)
def StC (w : World) (es : KVs) (v : Value) (W : World) : Prop := Below w.heap.size w W ∧ W.ownsRow w.heap.size 53 2 v es.length (es.flatMap ecells)
def PiecesPost (T : TypeId) (ps : List Pc) (w : World) (e : Ending) (w' : World) : Prop :=
  ∃ v1 v2 v3, e = .returned (.tuple #[v1, v2, v3]) ∧ Rd true w' T v1 (entsOf (injM ps [])).length 2 ((entsOf (injM ps [])).flatMap ecells) ∧ Rd true w' 9 v2 (sortT (fieldsOf ps)).length 1 (strs (sortT (fieldsOf ps))) ∧ Rd true w' T v3 (seenOf ps (injM ps [])).length 2 ((seenOf ps (injM ps [])).flatMap ecells) ∧ Below w.heap.size w w'

set_option maxHeartbeats 8000000 in
set_option maxRecDepth 100000 in
theorem PiecesDo_any {tr ty : Bool} (v : Value) (ps : List Pc) (w : World) (h : PcRow tr ty w 43 v ps) (hn : ps.length ≤ 1000) (hf : ∀ p ∈ ps, p.2.2.length ≤ 100) : Calls Try.prog 11 #[v] w (PiecesPost 53 ps w) := by
  obtain ⟨A, c, rfl, hnc, hcm⟩ := (show ∃ A c, v = .slice A ps.length c ∧ ps.length ≤ c ∧ c ≤ 9223372036854775807 by obtain ⟨css, h1, _⟩ := h; exact h1.shape)
  have H : Aside (PcRow tr ty w 43 (.slice A ps.length c) ps ∧ ∀ p ∈ ps, p.2.2.length ≤ 100) := ⟨h, hf⟩
  have hfl := fieldsOf_le 100 ps hf
  clear h hf
  have hmk := run_mm 55
  have hb1 : Below w.heap.size w (w.alloc (.map #[] 0)) := (Below.refl _ _).alloc (Nat.le_refl _) _
  have hM1 : CarAt false (w.alloc (.map #[] 0)) w.heap.size (injM (ps.take 0) []) := ⟨[], MapAt.made w, trivial⟩
  go_enter Try.func11, Try.ntmps11
  go_upto_block 0 with fail
  obtain ⟨w1, hw1⟩ : ∃ w1, w.alloc (.map #[] 0) = w1 := ⟨_, rfl⟩
  rw [hw1] at hb1 hM1 ⊢
  clear hw1 hmk
  go_cut [3] (fun f W => StA w ps f W)
  case first =>
    go_wp2_with fail
    go_loopg [3, 19] (ps.length + 1) (fun gk f i W => Below w.heap.size w W ∧ ∃ j : Nat, i = .int .i64 j ∧ j ≤ ps.length ∧ j + gk = ps.length + 1 ∧ CarAt false W w.heap.size (injM (ps.take j) []) ∧ W.ownsRow w.heap.size 9 1 f (fieldsOf (ps.take j)).length (strs (fieldsOf (ps.take j))))
    case atStart => exact ⟨hb1, 0, rfl, Nat.zero_le _, Nat.zero_add _, hM1, own_nil _ _ _ _⟩
    case round =>
      clear hb1 hM1
      obtain ⟨hb, j, rfl, hj, hgk, hcar, ho⟩ := hrel
      have hws := hb.size
      obtain ⟨FA, fc, rfl⟩ := own_shape ho
      by_cases hlt : j < ps.length
      · obtain ⟨p, hp⟩ : ∃ p, ps[j]? = some p := ⟨_, List.getElem?_eq_getElem hlt⟩
        obtain ⟨bk, o, hA, k, x, A1, c1, hk, hx, hr, e0, e1, e2⟩ := H.out.1.get hp
        subst hA
        replace e0 := cell_bel hb e0
        replace e1 := cell_bel hb e1
        replace e2 := cell_bel hb e2
        have hfn := H.out.2 p (List.mem_of_getElem? hp)
        have htk : ps.take (j + 1) = ps.take j ++ [p] := by rw [List.take_add_one, hp]; rfl
        have hF0 := fieldsOf_le 100 (ps.take j) (fun q hq => H.out.2 q (List.mem_of_mem_take hq))
        rw [List.length_take, Nat.min_eq_left hj] at hF0
        obtain ⟨F0, hF0e⟩ : ∃ F0, fieldsOf (ps.take j) = F0 := ⟨_, rfl⟩
        have TK : Aside (injM (ps.take (j + 1)) [] = putA (bs k) (bs x) (injM (ps.take j) []) ∧ fieldsOf (ps.take (j + 1)) = addAll p.2.2 F0) := by
          refine ⟨?_, ?_⟩
          · rw [htk, injM_snoc, hk, hx]
          · rw [htk, fieldsOf_snoc, hF0e]
        rw [hF0e] at ho hF0 ⊢
        obtain ⟨fs, hfs⟩ : ∃ fs, p.2.2 = fs := ⟨_, rfl⟩
        rw [hfs] at hr e2 hfn TK
        have HR : Aside (Rd ty w 9 (.slice A1 fs.length c1) fs.length 1 (strs fs)) := hr
        have hA : Below wr.heap.size wr (wr.alloc (.cells #[.string k, .string x, .slice A1 fs.length c1] 43)) := (Below.refl _ _).alloc (Nat.le_refl _) _
        have hrow := heap_alloc_new wr (.cells #[.string k, .string x, .slice A1 fs.length c1] 43)
        obtain ⟨w2, hw2⟩ : ∃ w2, wr.alloc (.cells #[.string k, .string x, .slice A1 fs.length c1] 43) = w2 := ⟨_, rfl⟩
        rw [hw2] at hA hrow
        obtain ⟨w3, hup, hcar3, hg3⟩ := car_put 55 Try.underlying55 (hcar.below hA) k x
        have hbl := hcar.lt
        have hrow3 := (hg3.block _ (Array.getElem?_eq_some_iff.1 hrow).1 (by intro e; injection e with e; omega)).trans hrow
        have hb2 := below_then hb hws hA
        have hb3 : Below w.heap.size w w3 := hb2.grown hg3 hb2.size (by intro q hq; injection hq with hq; omega)
        have ho3 : w3.ownsRow w.heap.size 9 1 (.slice FA F0.length fc) F0.length (strs F0) := by
          refine (own_below (C := 0) ho hA).kept hg3 (.inr ?_)
          intro e
          obtain ⟨L, ⟨es, cl, q1, _⟩, _⟩ := hcar
          rcases ho.2 with ⟨h0, _⟩ | ⟨g, cap, cur, hv, _, hh, _⟩
          · rw [h0] at e; cases e
          · rw [hv] at e
            have : g = w.heap.size := by simpa [Value.ownBlock] using e
            subst this
            rw [q1] at hh
            cases hh
        obtain ⟨⟨c0, c1', c2⟩, f0, f1, f2⟩ := row3 hrow
        obtain ⟨⟨d0, d1, d2⟩, _, _, _⟩ := row3 hrow3
        obtain ⟨M3, hM3⟩ : ∃ M3, putA (bs k) (bs x) (injM (ps.take j) []) = M3 := ⟨_, rfl⟩
        rw [hM3] at hcar3 TK
        have HW : wr.alloc (.cells #[.string k, .string x, .slice A1 fs.length c1] 43) = w2 := hw2
        clear hr hp hfs hk hx htk hF0e hcar ho hA hrow hrow3 hg3 hb2 hM3 hbl hw2 hb
        obtain ⟨gkO, rfl⟩ : ∃ gkO, gkO = gk := ⟨_, rfl⟩
        go_wp2_with fail
        go_loopg [3, 31] (fs.length + 1) (fun gk f i W => Below w.heap.size w W ∧ ∃ j2 : Nat, i = .int .i64 j2 ∧ j2 ≤ fs.length ∧ j2 + gk = fs.length + 1 ∧ CarAt false W w.heap.size M3 ∧ W.ownsRow w.heap.size 9 1 f (addAll (fs.take j2) F0).length (strs (addAll (fs.take j2) F0)))
        case atStart => exact ⟨hb3, 0, rfl, Nat.zero_le _, Nat.zero_add _, hcar3, ho3⟩
        case round =>
          clear hb3 hcar3 ho3
          obtain ⟨hb, j2, rfl, hj2, hg2, hcar, ho⟩ := hrel
          have hws := hb.size
          obtain ⟨GA, gc, rfl⟩ := own_shape ho
          by_cases hlt2 : j2 < fs.length
          · obtain ⟨q, hq⟩ : ∃ q, fs[j2] = q := ⟨_, rfl⟩
            obtain ⟨qb, hqb, hqbs⟩ := S_str q
            have hrd := HR.out.below hb
            obtain ⟨bk, o, c', he, -, -, -⟩ := hrd.cells (by omega)
            injection he with he1 he2 he3
            subst he1 he3
            clear he2
            have e0 : wr.cell? ⟨bk, o + j2, none⟩ = some (.string qb) := hrd.at' (j := j2) (by omega) (by unfold strs; rw [List.getElem?_map, List.getElem?_eq_getElem hlt2, hq, ← hqb]; rfl)
            have hle := addAll_le (fs.take j2) F0
            rw [List.length_take, Nat.min_eq_left hj2] at hle
            have TK2 : Aside (addAll (fs.take (j2 + 1)) F0 = addK (bs qb) (addAll (fs.take j2) F0)) := by
              show _ = _
              rw [List.take_succ_eq_append_getElem hlt2, hq, addAll_snoc, hqbs]
            obtain ⟨F, hF⟩ : ∃ F, addAll (fs.take j2) F0 = F := ⟨_, rfl⟩
            rw [hF] at ho hle TK2 ⊢
            have hct := contains_str _ F qb wr (Rd.of_own ho)
            clear hrd hqb hqbs hq hF
            by_cases hm : bs qb ∈ F
            · rw [decide_eq_true hm] at hct
              have P : Aside (wr.ownsRow w.heap.size 9 1 (.slice GA F.length gc) (addAll (fs.take (j2 + 1)) F0).length (strs (addAll (fs.take (j2 + 1)) F0))) := by
                show World.ownsRow _ _ _ _ _ _ _
                rw [TK2.out, addK, if_pos hm]
                exact ho
              clear hm ho
              go_wp2_with (go_at_fn 18; fail)
              refine hct.mono ?_
              rintro e w5 ⟨rfl, hw5⟩
              replace hw5 := hw5.symm
              subst hw5
              clear hct
              go_wp2_with fail
              go_roundg (gk - 1)
              case rel => exact ⟨hb, j2 + 1, by go_num, by omega, by omega, hcar, P.out⟩
              case measure => omega
            · rw [decide_eq_false hm] at hct
              have TK3 : Aside (addAll (fs.take (j2 + 1)) F0 = F ++ [bs qb]) := by
                show _ = _
                rw [TK2.out, addK, if_neg hm]
              clear hm
              go_wp2_with (go_at_fn 18; fail)
              refine hct.mono ?_
              rintro e w5 ⟨rfl, hw5⟩
              replace hw5 := hw5.symm
              subst hw5
              clear hct
              go_wp2_with (at_builtin; go_must (refine wp_app w.heap.size rfl (.tmp 39) (.tmp 41) 33 rfl 9 (.string ⟨#[]⟩) 1 16 Try.underlying33 Try.infoStr rfl (by decide) (.slice GA F.length gc) F.length _ [.string qb] rfl rfl rfl (one_str qb) ho hws (by omega) (by omega) ?_); intro v1 w6 ho6 hb6 hf6 hs6)
              go_roundg (gk - 1)
              case rel =>
                refine ⟨hb.trans hb6, j2 + 1, by go_num, by omega, by omega, hcar.frF hf6, ?_⟩
                rw [TK3.out, List.length_append]
                rw [S_bs] at ho6
                simpa [strs] using ho6
              case measure => omega
          · rw [List.take_of_length_le (by omega)] at ho ⊢
            go_wp2_with fail
            go_roundg (gkO - 1)
            case rel =>
              refine ⟨hb, j + 1, by go_num, by omega, by omega, ?_, ?_⟩
              · rw [TK.out.1]; exact hcar
              · rw [TK.out.2]; exact ho
            case measure => omega
      · rw [List.take_of_length_le (by omega)] at hcar ho ⊢
        go_wp2_with fail
        go_meet
        exact ⟨hb, hcar, ho⟩
  case rest =>
    clear hb1 hM1
    obtain ⟨hb, hcar, ho⟩ := hcut
    obtain ⟨FA, fc, rfl⟩ := own_shape ho
    have hws := hb.size
    have hso := sort_strs _ _ _ _ ho (by omega)
    have hfl2 := sortT_len (fieldsOf ps)
    have hMl := injM_len ps
    have FL : Aside ((sortT (fieldsOf ps)).length = (fieldsOf ps).length) := hfl2
    obtain ⟨M, hM⟩ : ∃ M, injM ps [] = M := ⟨_, rfl⟩
    obtain ⟨F, hF⟩ : ∃ F, fieldsOf ps = F := ⟨_, rfl⟩
    have MF : Aside (injM ps [] = M ∧ fieldsOf ps = F) := ⟨hM, hF⟩
    rw [hF] at ho hso FL ⊢
    rw [hM] at hcar hMl
    clear hfl2 hM hF
    go_wp2_with (go_at_fn 15; fail)
    refine hso.mono ?_
    intro e w6 hpost
    obtain ⟨rfl, hrdF, hf6, hb6⟩ := hpost
    have hcar6 := hcar.frF hf6
    have HB6 : Aside (Below w.heap.size w w6 ∧ Rd true w6 9 (.slice FA F.length fc) F.length 1 (strs (sortT F))) := ⟨hb.trans hb6, hrdF⟩
    have hbl6 := (hb.trans hb6).size
    clear hso hcar ho hb hb6 hf6 hrdF hws
    obtain ⟨L, hL, hLM, hKM⟩ := hcar6.len
    obtain ⟨oi, hro, hrg⟩ := hL.range Try.underlying55
    have HC6 : Aside (CarAt false w6 w.heap.size M) := hcar6
    have hbi : Below w6.heap.size w6 (w6.alloc oi) := (Below.refl _ _).alloc (Nat.le_refl _) _
    have hL1 : L.length ≤ 1000 := by omega
    have KM : Aside ((L.map fun p => bs p.1) = M.map (·.1)) := hKM
    clear hL hcar6 hLM hKM
    go_upto_block 4 with fail
    obtain ⟨wi, hwi⟩ : ∃ wi, w6.alloc oi = wi := ⟨_, rfl⟩
    obtain ⟨it, hit⟩ : ∃ it, w6.heap.size = it := ⟨_, rfl⟩
    rw [hwi] at hbi hrg ⊢
    have IT : Aside (w6.heap.size = it) := hit
    rw [hit] at hrg ⊢
    clear hwi hit hro
    go_cut [10] (fun kv W => StB w6 M kv W)
    case first =>
      go_wp2_with fail
      go_loopg [10] (L.length + 1) (fun gk ow W => Below w6.heap.size w6 W ∧ ∃ (left : List KV) (done : List (List UInt8)), RangeAt W it w.heap.size L left ∧ left.length + 1 = gk ∧ (L.map fun p => bs p.1).Perm (done ++ left.map fun p => bs p.1) ∧ W.ownsRow w6.heap.size 9 1 ow done.length (strs done))
      case atStart => exact ⟨hbi, L, [], hrg, rfl, List.Perm.refl _, own_nil _ _ _ _⟩
      case round =>
        clear hbi hrg
        obtain ⟨hb, left, done, hrg, hg, hperm, ho⟩ := hrel
        have hws := hb.size
        have hdl : done.length ≤ L.length := by
          have := hperm.length_eq
          rw [List.length_append, List.length_map] at this
          omega
        rcases hrg.next 0 with ⟨rfl, hnx⟩ | ⟨p, left', w1, hpm, hnx, hrg1, hg1, hen⟩
        · have hnx' : ∀ ty, (Instr.next (.pointer (some ⟨it, 0, none⟩)) false ty).run Try.prog wr = .ok (.tuple #[.bool false]) wr := fun _ => hnx
          clear hnx
          have HP : Aside (done.Perm (M.map (·.1))) := by
            have := hperm
            rw [List.map_nil, List.append_nil, KM.out] at this
            exact this.symm
          clear hperm
          go_wp2_with fail
          go_meet
          exact ⟨hb, done, HP.out, ho⟩
        · have hnx' : ∀ ty, (Instr.next (.pointer (some ⟨it, 0, none⟩)) false ty).run Try.prog wr = .ok (.tuple #[.bool true, .string p.1, p.2]) w1 := fun _ => hnx
          have hb1 : Below w6.heap.size w6 w1 := hb.grown hg1 hws (by intro q hq; injection hq with hq; rw [IT.out]; omega)
          obtain ⟨OA, oc, rfl⟩ := own_shape ho
          have hri : ∃ es a c d, wr.heap[it]? = some (.mapIter es a c d) := by
            obtain ⟨es, clock, seen, _, h2, _⟩ := hrg
            exact ⟨_, _, _, _, h2⟩
          have ho1 : w1.ownsRow w6.heap.size 9 1 (.slice OA done.length oc) done.length (strs done) := by
            refine ho.kept hg1 (.inr ?_)
            intro e
            obtain ⟨es, a, c, d, h2⟩ := hri
            rcases ho.2 with ⟨h0, _⟩ | ⟨g, cap, cur, hv, _, hh, _⟩
            · rw [h0] at e
              cases e
            · rw [hv] at e
              have : g = it := by simpa [Value.ownBlock] using e
              subst this
              rw [hh] at h2
              cases h2
          have hws1 := hb1.size
          have PP : Aside (left.Perm (p :: left')) := hpm
          have hpl := hpm.length_eq
          rw [List.length_cons] at hpl
          have HP : Aside ((L.map fun p => bs p.1).Perm (done ++ left.map fun p => bs p.1)) := hperm
          clear hnx hb hrg ho hg1 hri hpm hperm
          obtain ⟨kb, vb⟩ := p
          simp only at hnx' hen
          go_wp2_with (at_builtin; go_must (refine wp_app w6.heap.size rfl (.tmp 53) (.tmp 55) 33 rfl 9 (.string ⟨#[]⟩) 1 16 Try.underlying33 Try.infoStr rfl (by decide) (.slice OA done.length oc) done.length _ [.string kb] rfl rfl rfl (one_str kb) ho1 hws1 (by omega) (by omega) ?_); intro v1 w2 ho2 hb2 hf2 hs2)
          go_roundg (gk - 1)
          case rel =>
            refine ⟨hb1.trans hb2, left', done ++ [bs kb], hrg1.fr hf2, by omega, ?_, ?_⟩
            · refine HP.out.trans ?_
              rw [List.append_assoc]
              refine List.Perm.append_left done ?_
              exact PP.out.map fun p => bs p.1
            · rw [List.length_append]
              rw [S_bs] at ho2
              simpa [strs] using ho2
          case measure => omega
    case rest =>
      clear hbi hrg
      obtain ⟨hb, ks, hpk, ho⟩ := hcut
      obtain ⟨KA, kc, rfl⟩ := own_shape ho
      have hkl : ks.length = M.length := by have := hpk.length_eq; rw [List.length_map] at this; exact this
      have HKL : Aside (ks.length = M.length) := hkl
      have hk1 : ks.length ≤ 1000 := by omega
      have hso := sort_strs _ _ _ _ ho (by omega)
      have KS : Aside (sortT ks = sortT (M.map (·.1)) ∧ (entsOf M).length = ks.length) := by
        refine ⟨sortT_perm hpk, ?_⟩
        unfold entsOf
        rw [List.length_map, sortT_len, List.length_map, hkl]
      clear hkl
      have hws := hb.size
      go_wp2_with (go_at_fn 15; fail)
      refine hso.mono ?_
      intro e w7 hpost
      obtain ⟨rfl, hrdK, hf7, hb7⟩ := hpost
      have hb67 := hb.trans hb7
      have HC7 : Aside (CarAt false w7 w.heap.size M) := HC6.out.below hb67
      have hbl7 : w6.heap.size ≤ w7.heap.size := hb67.size
      have HB7 : Aside (Below w.heap.size w w7 ∧ Rd true w7 9 (.slice FA F.length fc) F.length 1 (strs (sortT F))) := ⟨below_then HB6.out.1 hbl6 hb67, HB6.out.2.below hb67⟩
      rw [KS.out.1] at hrdK
      have HK : Aside (Rd true w7 9 (.slice KA ks.length kc) ks.length 1 (strs (sortT (M.map (·.1))))) := hrdK
      have HEL : Aside ((entsOf M).length = ks.length) := KS.out.2
      clear hso ho hb hb7 hf7 hrdK hws hpk hb67 KS HB6 HC6
      go_upto_block 6 with fail
      go_cut [2] (fun v W => StC w7 (entsOf M) v W)
      case first =>
        go_wp2_with fail
        go_loopg [2, 61] (ks.length + 1) (fun gk ov i W => Below w7.heap.size w7 W ∧ ∃ j : Nat, i = .int .i64 j ∧ j ≤ ks.length ∧ j + gk = ks.length + 1 ∧ W.ownsRow w7.heap.size 53 2 ov j (((entsOf M).take j).flatMap ecells))
        case atStart => exact ⟨Below.refl _ _, 0, rfl, Nat.zero_le _, Nat.zero_add _, own_nil _ _ _ _⟩
        case round =>
          obtain ⟨hb, j, rfl, hj, hg, ho⟩ := hrel
          have hws := hb.size
          obtain ⟨OA, oc, rfl⟩ := own_shape ho
          by_cases hlt : j < ks.length
          · have hlt2 : j < (sortT (M.map (·.1))).length := by rw [sortT_len, List.length_map]; have := HKL.out; omega
            have hlt3 : j < (entsOf M).length := by have := HEL.out; omega
            obtain ⟨k, hk⟩ : ∃ k, (sortT (M.map (·.1)))[j] = k := ⟨_, rfl⟩
            obtain ⟨kb, hkb, hkbs⟩ := S_str k
            have hrd := HK.out.below hb
            obtain ⟨bk, o, c', he, -, -, -⟩ := hrd.cells (by omega)
            injection he with he1 he2 he3
            subst he1 he3
            clear he2
            have e0 : wr.cell? ⟨bk, o + j, none⟩ = some (.string kb) := hrd.at' (j := j) (by omega) (by unfold strs; rw [List.getElem?_map, List.getElem?_eq_getElem hlt2, hk, ← hkb]; rfl)
            have hlk := car_look 55 Try.underlying55 (HC7.out.below hb) kb
            obtain ⟨t, ht, hts⟩ := S_str ((getA (bs kb) M).getD [])
            rw [ht] at hlk
            have TK : Aside (((entsOf M).take (j + 1)).flatMap ecells = ((entsOf M).take j).flatMap ecells ++ [.string kb, .string t]) := by
              show _ = _
              have : (entsOf M)[j]? = some (k, (getA k M).getD []) := by
                unfold entsOf
                rw [List.getElem?_map, List.getElem?_eq_getElem hlt2, hk]
                rfl
              rw [List.take_add_one, this, List.flatMap_append]
              congr 1
              show ecells _ ++ [] = _
              rw [List.append_nil, ecells, hkb, ← ht, hkbs]
            clear hrd hk hkb hkbs ht hts hlt2 hlt3
            go_wp2_with (at_builtin; go_must (refine wp_app (W := wr) w7.heap.size rfl (.tmp 65) (.tmp 71) 45 rfl 53 _ 2 32 Try.underlying45 Try.info53 rfl (by decide) (.slice OA j oc) j _ [.string kb, .string t] rfl rfl rfl (by intro u hu; simp at hu; rcases hu with rfl | rfl <;> rfl) ho hws (by omega) (by omega) ?_); intro v1 w8 ho8 hb8 hf8 hs8)
            go_roundg (gk - 1)
            case rel =>
              refine ⟨hb.trans hb8, j + 1, by go_num, by omega, by omega, ?_⟩
              rw [TK.out]
              exact ho8
            case measure => omega
          · have hjl : j = (entsOf M).length := by have := HEL.out; omega
            subst hjl
            rw [List.take_length] at ho
            go_wp2_with fail
            go_meet
            exact ⟨hb, ho⟩
      case rest =>
        obtain ⟨hb, ho⟩ := hcut
        obtain ⟨OA, oc, rfl⟩ := own_shape ho
        have hbl := hb.size
        have HB8 : Aside (Below w.heap.size w wc ∧ Rd true wc 9 (.slice FA F.length fc) F.length 1 (strs (sortT F)) ∧ Rd true wc 53 (.slice OA (entsOf M).length oc) (entsOf M).length 2 ((entsOf M).flatMap ecells) ∧ CarAt false wc w.heap.size M) := ⟨below_then HB7.out.1 (by omega) hb, HB7.out.2.below hb, Rd.of_own ho, HC7.out.below hb⟩
        have hsl : (seenOf ps M).length = ps.length := by unfold seenOf; rw [List.length_map]
        have SL : Aside ((seenOf ps M).length = ps.length) := hsl
        clear ho hb HB7 HC7 HK HEL HKL hsl
        obtain ⟨w8, hw8⟩ : ∃ w8, wc = w8 := ⟨_, rfl⟩
        subst hw8
        go_wp2_with fail
        go_loopg [4, 76] (ps.length + 1) (fun gk ov i W => Below wc.heap.size wc W ∧ ∃ j : Nat, i = .int .i64 j ∧ j ≤ ps.length ∧ j + gk = ps.length + 1 ∧ W.ownsRow wc.heap.size 53 2 ov j (((seenOf ps M).take j).flatMap ecells))
        case atStart => exact ⟨Below.refl _ _, 0, rfl, Nat.zero_le _, Nat.zero_add _, own_nil _ _ _ _⟩
        case round =>
          obtain ⟨hb, j, rfl, hj, hg, ho⟩ := hrel
          have hws := hb.size
          obtain ⟨SA, sc, rfl⟩ := own_shape ho
          by_cases hlt : j < ps.length
          · obtain ⟨p, hp⟩ : ∃ p, ps[j]? = some p := ⟨_, List.getElem?_eq_getElem hlt⟩
            obtain ⟨bk, o, hA, k, x, A1, c1, hk, hx, hr, e0, e1, e2⟩ := H.out.1.get hp
            subst hA
            have hbw := below_then HB8.out.1 (by omega) hb
            replace e0 := cell_bel hbw e0
            replace e1 := cell_bel hbw e1
            replace e2 := cell_bel hbw e2
            obtain ⟨fs, hfs⟩ : ∃ fs, p.2.2 = fs := ⟨_, rfl⟩
            rw [hfs] at hr e2
            have hA : Below wr.heap.size wr (wr.alloc (.cells #[.string k, .string x, .slice A1 fs.length c1] 43)) := (Below.refl _ _).alloc (Nat.le_refl _) _
            have hrow := heap_alloc_new wr (.cells #[.string k, .string x, .slice A1 fs.length c1] 43)
            obtain ⟨w2, hw2⟩ : ∃ w2, wr.alloc (.cells #[.string k, .string x, .slice A1 fs.length c1] 43) = w2 := ⟨_, rfl⟩
            rw [hw2] at hA hrow
            have hlk := car_look 55 Try.underlying55 ((HB8.out.2.2.2.below hb).below hA) k
            obtain ⟨t, ht, hts⟩ := S_str ((getA (bs k) M).getD [])
            rw [ht] at hlk
            have TK : Aside (((seenOf ps M).take (j + 1)).flatMap ecells = ((seenOf ps M).take j).flatMap ecells ++ [.string k, .string t]) := by
              show _ = _
              have hsj : (seenOf ps M)[j]? = some (p.1, (getA p.1 M).getD []) := by
                unfold seenOf
                rw [List.getElem?_map, hp]
                rfl
              rw [List.take_add_one, hsj, List.flatMap_append]
              congr 1
              show ecells _ ++ [] = _
              rw [List.append_nil, ecells, ← ht]
              show [S p.1, S ((getA p.1 M).getD [])] = [.string k, S ((getA (bs k) M).getD [])]
              rw [← hk, ← S_bs]
            obtain ⟨⟨c0, c1', c2⟩, f0, f1, f2⟩ := row3 hrow
            have ho2 := own_below (C := 0) ho hA
            have hws2 := (below_then hb hws hA).size
            have hb2 := below_then hb hws hA
            have HW : wr.alloc (.cells #[.string k, .string x, .slice A1 fs.length c1] 43) = w2 := hw2
            clear hr hp hfs hk hx ho hA hrow hw2 ht hts hbw
            go_wp2_with (at_builtin; go_must (refine wp_app (W := w2) wc.heap.size rfl (.tmp 80) (.tmp 88) 45 rfl 53 _ 2 32 Try.underlying45 Try.info53 rfl (by decide) (.slice SA j sc) j _ [.string k, .string t] rfl rfl rfl (by intro u hu; simp at hu; rcases hu with rfl | rfl <;> rfl) ho2 hws2 (by omega) (by omega) ?_); intro v1 w8 ho8 hb8 hf8 hs8)
            go_roundg (gk - 1)
            case rel =>
              refine ⟨hb2.trans hb8, j + 1, by go_num, by omega, by omega, ?_⟩
              rw [TK.out]
              exact ho8
            case measure => omega
          · have hjl : j = ps.length := by omega
            subst hjl
            rw [List.take_of_length_le (by rw [SL.out]; exact Nat.le_refl _)] at ho
            have P : Aside (Rd true wr 53 (.slice SA ps.length sc) ps.length 2 ((seenOf ps M).flatMap ecells)) := Rd.of_own ho
            clear ho
            go_wp2_with fail
            go_ret3
            refine ⟨_, _, _, rfl, ?_, ?_, ?_, below_then HB8.out.1 (by omega) hb⟩
            · rw [MF.out.1]; exact HB8.out.2.2.1.below hb
            · rw [MF.out.2, FL.out]; exact HB8.out.2.1.below hb
            · rw [MF.out.1, SL.out]; exact P.out
end Go.Proofs.Ytfaokggblllcmaa
