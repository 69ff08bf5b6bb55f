/- Contract: spec.CarrierDo. -/
import Derived.Test.YtfaokggblllcmaaC6
set_option linter.unusedVariables false
set_option linter.unusedSimpArgs false
namespace Go.Proofs.Ytfaokggblllcmaa
open Go Go.RowKit

theorem keys_kr {hd : Bool} {w : World} : ∀ (L : List KV) (M : KVs), All2 (KR hd w) L M → (L.map fun p => bs p.1) = M.map (·.1)
  | [], [], _ => rfl
  | p :: L, q :: M, h => by rw [List.map_cons, List.map_cons, keys_kr L M h.2, h.1.1]
  | [], _ :: _, h => h.elim
  | _ :: _, [], h => h.elim
theorem _root_.Go.Proofs.Ytfaokggblllcmaa.RangeAt.keepSet {w : World} {r b : Nat} {L left : List KV} (h : RangeAt w r b L left) {x i : Nat} {cs : Array Value} {t : TypeId} {fr : Nat × Nat} (hx : w.heap[x]? = some (.cells cs t fr)) (v : Value) : RangeAt (w.setCell ⟨x, i, none⟩ v) r b L left :=
  h.fr (e := t) ⟨by simp, fun k hk hne => Below.heap_setCell _ _ _ _ (fun e => by subst e; exact hne _ _ hx)⟩
def KeyP (hd : Bool) (k : List UInt8) (w2 : World) (v : Value) (W : World) : Prop := ∃ kc, v = .string kc ∧ bs kc = keyOf hd k ∧ Below w2.heap.size w2 W
set_option maxHeartbeats 8000000 in
set_option maxRecDepth 100000 in
theorem CarrierDo_any {ty : Bool} (hd : Bool) (v : Value) (st : List Stp) (w : World) (h : Rd ty w 27 v st.length 3 (st.flatMap scells)) (hn : st.length ≤ 1000) (hok : ∀ s ∈ st, StOk s) :
    Calls Try.prog 7 #[.bool hd, v] w (AnsPost 36 (runC hd st []) w) := by
  obtain ⟨AD, c, rfl, hnc, hcm⟩ := h.shape
  have H : Aside (Rd ty w 27 (.slice AD st.length c) st.length 3 (st.flatMap scells) ∧ ∀ s ∈ st, StOk s) := ⟨h, hok⟩
  clear h hok
  have hmk := run_mm 55
  have hb1 : Below w.heap.size w (w.alloc (.map #[] 0)) := (Below.refl _ _).alloc (Nat.le_refl _) _
  have hM1 : CarAt false (w.alloc (.map #[] 0)) w.heap.size (endC hd (st.take 0) []) := ⟨[], MapAt.made w, trivial⟩
  go_enter Try.func7, Try.ntmps7
  go_wp2_with fail
  obtain ⟨w1, hw1⟩ : ∃ w1, w.alloc (.map #[] 0) = w1 := ⟨_, rfl⟩
  rw [hw1] at hb1 hM1 ⊢
  clear hw1 hmk
  go_loopg [6, 17] (st.length + 1) (fun gk ov i W => Below w.heap.size w W ∧ ∃ (j : Nat) (css : List (List Value)), i = .int .i64 j ∧ j ≤ st.length ∧ j + gk = st.length + 1 ∧ CarAt false W w.heap.size (endC hd (st.take j) []) ∧ W.ownsRow w.heap.size 36 2 ov j css.flatten ∧ Aside (All2 (AnsR W) css (runC hd (st.take j) [])))
  case atStart => exact ⟨hb1, 0, [], rfl, Nat.zero_le _, Nat.zero_add _, hM1, own_nil _ _ _ _, trivial⟩
  case round =>
    clear hb1 hM1
    obtain ⟨hb, j, css, rfl, hj, hg, hM, ho, hAll⟩ := hrel
    have hws := hb.size
    obtain ⟨OA, oc, rfl⟩ := own_shape ho
    by_cases hlt : j < st.length
    · obtain ⟨s, hs⟩ : ∃ s, st[j] = s := ⟨_, rfl⟩
      have hsk : st[j]? = some s := by rw [List.getElem?_eq_getElem hlt, hs]
      have hrd := H.out.1.below hb
      obtain ⟨bk, o, c', he, -, -, -⟩ := hrd.cells (by omega)
      injection he with he1 he2 he3
      subst he1 he3
      clear he2
      obtain ⟨kb, hkb, hkbs⟩ := S_str s.2.1
      obtain ⟨vb, hvb, hvbs⟩ := S_str s.2.2
      have hat := fun j' hj' => fm3 scells scells_len st j s hsk j' hj'
      have e0 : wr.cell? ⟨bk, o + j * 3, none⟩ = some (.int .u8 s.1) := hrd.at' rfl (by have := hat 0 (by omega); simpa [scells] using this)
      have e1 : wr.cell? ⟨bk, o + j * 3 + 1, none⟩ = some (.string kb) := hrd.at' (j := j * 3 + 1) (by omega) (by have := hat 1 (by omega); rw [scells, hkb] at this; simpa using this)
      have e2 : wr.cell? ⟨bk, o + j * 3 + 2, none⟩ = some (.string vb) := hrd.at' (j := j * 3 + 2) (by omega) (by have := hat 2 (by omega); rw [scells, hvb] at this; simpa using this)
      have hsok := H.out.2 s (List.mem_of_getElem? hsk)
      have hkz : kb.size ≤ 100000 := by rw [← bs_length, hkbs]; exact hsok.key
      have hop := hsok.op
      have SS : Aside (st.take (j + 1) = st.take j ++ [s] ∧ bs kb = s.2.1 ∧ bs vb = s.2.2) := ⟨by rw [List.take_succ_eq_append_getElem hlt, hs], hkbs, hvbs⟩
      have hml := endC_len hd (st.take j)
      rw [List.length_take, Nat.min_eq_left hj] at hml
      obtain ⟨M, hMe⟩ : ∃ M, endC hd (st.take j) [] = M := ⟨_, rfl⟩
      have ME : Aside (endC hd (st.take j) [] = M) := hMe
      rw [hMe] at hM hml
      clear hat hrd hs hsk hkb hvb hkbs hvbs hsok hMe
      obtain ⟨op, k0, v0⟩ := s
      simp only at hop e0 SS
      obtain ⟨w2, hw2⟩ : ∃ w2, (wr.alloc (.cells #[.int .u8 op, .string kb, .string vb] 27)).alloc (.cells #[.string ⟨#[]⟩, .slice none 0 0] 36) = w2 := ⟨_, rfl⟩
      have hb2 : Below wr.heap.size wr w2 := by rw [← hw2]; exact ((Below.refl _ _).alloc (Nat.le_refl _) _).alloc (by simp) _
      have hs2 : w2.heap[wr.heap.size]? = some (.cells #[.int .u8 op, .string kb, .string vb] 27 (0, 0)) := by rw [← hw2]; exact row_alloc (heap_alloc_new _ _) _
      have hx2 : w2.heap[wr.heap.size + 1]? = some (.cells #[.string ⟨#[]⟩, .slice none 0 0] 36 (0, 0)) := by rw [← hw2]; exact heap_alloc_2 _ _ _
      have HW : Aside ((wr.alloc (.cells #[.int .u8 op, .string kb, .string vb] 27)).alloc (.cells #[.string ⟨#[]⟩, .slice none 0 0] 36) = w2) := hw2
      clear hw2
      have hM2 := hM.below hb2
      have hws2 := hb2.size
      go_upto_if 24 with fail
      rw [HW.out]
      go_cut [10] (fun v W => KeyP hd k0 w2 v W)
      case first =>
        have hnm := HeaderName_any kb w2 (by omega)
        obtain ⟨ck, hck, hckb⟩ := S_str (hname (bs kb))
        unfold NamePost at hnm
        rw [hck] at hnm
        cases hd
        · go_wp2_with fail
          go_meet
          exact ⟨kb, rfl, SS.out.2.1, Below.refl _ _⟩
        · go_wp2_with (go_at_fn 14; fail)
          refine hnm.mono ?_
          rintro e w3 ⟨rfl, hb3⟩
          clear hnm
          go_wp2_with fail
          go_meet
          exact ⟨ck, rfl, by rw [hckb, SS.out.2.1]; rfl, hb3⟩
      case rest =>
        obtain ⟨kc, rfl, hkc, hb3⟩ := hcut
        have KC : Aside (bs kc = keyOf hd k0) := hkc
        have hb23 : Below wr.heap.size wr wc := below_then hb2 hws2 hb3
        have hs3 := (hb3.block _ (Array.getElem?_eq_some_iff.1 hs2).1).trans hs2
        have hx3 := (hb3.block _ (Array.getElem?_eq_some_iff.1 hx2).1).trans hx2
        have hM3 := hM2.below hb3
        have hws3 := hb23.size
        clear hkc hb3 hs2 hx2 hM2 hb2 e0 e1 e2
        obtain ⟨⟨c0, c1, c2⟩, _, _, _⟩ := row3 hs3
        obtain ⟨⟨d0, d1⟩, g0, g1⟩ := row2 hx3
        go_upto_block 2 with fail
        go_cut [] (fun W => SwP 36 false wr w.heap.size (nxtC hd M (op, k0, v0)) (ansC hd M (op, k0, v0)) (wr.heap.size + 1) W)
        case first =>
          obtain ⟨L, hL, hA⟩ := hM3
          rcases (show op = 0 ∨ op = 1 ∨ op = 2 ∨ op = 3 by omega) with rfl | rfl | rfl | rfl
          · obtain ⟨w4, hup, hL4, hg4⟩ := hL.update Try.underlying55 Try.underlying9 kc (.string vb)
            have P : Aside (SwP 36 false wr w.heap.size (nxtC hd M (0, k0, v0)) (ansC hd M (0, k0, v0)) (wr.heap.size + 1) w4) := by
              refine ⟨World.grownBy.trans (grown_of_below hb23) hg4, ⟨_, hL4, ?_⟩, ⟨#[]⟩, none, 0, (hg4.block _ (Array.getElem?_eq_some_iff.1 hx3).1 (by intro e; injection e with e; omega)).trans hx3, rfl, Rd.nil _ _ _ _⟩
              have := put_kr (hd := false) (w := wc) kc (.string vb) (bs vb) (show VR false wc (.string vb) (bs vb) from S_bs vb) L M hA
              rw [KC.out, SS.out.2.2] at this
              exact this.imp (fun p q h => ⟨h.1, h.2⟩)
            clear hL4 hg4
            go_wp2_with fail
            go_meet
            exact P.out
          · have hlk := hL.look1 Try.underlying55 Try.underlying9 (Try.zeroValue9 _) kc
            obtain ⟨t, ht, hts⟩ := S_str ((getA (keyOf hd k0) M).getD [])
            have e : (asc L kc).getD (.string ⟨#[]⟩) = .string t := by
              rw [← ht, ← KC.out]
              rcases asc_kr kc L M hA with ⟨h1, h2⟩ | ⟨y, v, h1, h2, h3⟩
              · rw [h1, h2]; rfl
              · rw [h1, h2]; exact h3
            rw [e] at hlk
            have P : Aside (SwP 36 false wr w.heap.size (nxtC hd M (1, k0, v0)) (ansC hd M (1, k0, v0)) (wr.heap.size + 1) (wc.setCell ⟨wr.heap.size + 1, 0, none⟩ (.string t))) := by
              refine ⟨?_, CarAt.fr (e := 36) ⟨L, hL, hA⟩ ?_ (by decide), t, none, 0, row_set hx3 0 _, hts, Rd.nil _ _ _ _⟩
              · exact grown_of_below (hb23.setCell (by show wr.heap.size ≤ wr.heap.size + 1; omega) _)
              · exact ⟨by simp, fun k hk hne => Below.heap_setCell _ _ _ _ (fun e => by subst e; exact hne _ _ hx3)⟩
            clear e ht hts
            go_wp2_with fail
            go_meet
            exact P.out
          · have hlk := hL.lookup Try.underlying55 Try.underlying9 (Try.zeroValue9 _) kc
            rcases asc_kr kc L M hA with ⟨h1, h2⟩ | ⟨y, v, h1, h2, h3⟩
            · rw [h2] at hlk
              simp only [Option.getD_none, Option.isSome_none] at hlk
              have P : Aside (SwP 36 false wr w.heap.size (nxtC hd M (2, k0, v0)) (ansC hd M (2, k0, v0)) (wr.heap.size + 1) wc) := by
                have e : ansC hd M (2, k0, v0) = ([], []) := by
                  rw [KC.out] at h1
                  show ([], if hd then (getA (keyOf hd k0) M).toList else []) = _
                  rw [h1]
                  cases hd <;> rfl
                rw [e]
                exact ⟨grown_of_below hb23, ⟨L, hL, hA⟩, ⟨#[]⟩, none, 0, hx3, rfl, Rd.nil _ _ _ _⟩
              clear h1 h2
              go_wp2_with fail
              go_meet
              exact P.out
            · obtain ⟨yb, hyb, hybs⟩ := S_str y
              have h3' : v = .string yb := by rw [← hyb]; exact h3
              subst h3'
              rw [h2] at hlk
              simp only [Option.getD_some, Option.isSome_some] at hlk
              cases hd with
              | false =>
                have P : Aside (SwP 36 false wr w.heap.size (nxtC false M (2, k0, v0)) (ansC false M (2, k0, v0)) (wr.heap.size + 1) wc) :=
                  ⟨grown_of_below hb23, ⟨L, hL, hA⟩, ⟨#[]⟩, none, 0, hx3, rfl, Rd.nil _ _ _ _⟩
                clear h1 h2
                go_wp2_with fail
                go_meet
                exact P.out
              | true =>
                have P : Aside (SwP 36 false wr w.heap.size (nxtC true M (2, k0, v0)) (ansC true M (2, k0, v0)) (wr.heap.size + 1) ((wc.alloc (.cells #[.string yb] 9)).setCell ⟨wr.heap.size + 1, 1, none⟩ (.slice (some ⟨wc.heap.size, 0, none⟩) 1 1))) := by
                  have e : ansC true M (2, k0, v0) = ([], [y]) := by
                    rw [KC.out] at h1
                    show ([], if true then (getA (keyOf true k0) M).toList else []) = _
                    rw [h1]
                    rfl
                  rw [e]
                  have hA4 : Below wc.heap.size wc (wc.alloc (.cells #[.string yb] 9)) := (Below.refl _ _).alloc (Nat.le_refl _) _
                  have hx4 := row_alloc hx3 (.cells #[.string yb] 9)
                  have hy4 := heap_alloc_new wc (.cells #[.string yb] 9)
                  have hxl := (Array.getElem?_eq_some_iff.1 hx3).1
                  have hy5 : ((wc.alloc (.cells #[.string yb] 9)).setCell ⟨wr.heap.size + 1, 1, none⟩ (.slice (some ⟨wc.heap.size, 0, none⟩) 1 1)).heap[wc.heap.size]? = some (.cells #[.string yb] 9 (0, 0)) :=
                    (Below.heap_setCell _ _ _ _ (fun e => by have e : wc.heap.size = wr.heap.size + 1 := e; omega)).trans hy4
                  refine ⟨?_, CarAt.fr (e := 36) (CarAt.below ⟨L, hL, hA⟩ hA4) ?_ (by decide), ⟨#[]⟩, some ⟨wc.heap.size, 0, none⟩, 1, row_set hx4 1 _, rfl, ?_⟩
                  · exact grown_of_below ((below_then hb23 hws3 hA4).setCell (by show wr.heap.size ≤ wr.heap.size + 1; omega) _)
                  · exact ⟨by simp, fun k hk hne => Below.heap_setCell _ _ _ _ (fun e => by subst e; exact hne _ _ hx4)⟩
                  · refine ⟨_, 1, rfl, Nat.le_refl _, by omega, rfl, .inr ⟨wc.heap.size, 0, rfl, fun j u hj => ?_, fun _ => ⟨_, _, hy5⟩⟩⟩
                    rw [cell_of_row _ _ _ _ _ _ hy5, Nat.zero_add]
                    have : strs [y] = [.string yb] := by unfold strs; rw [List.map_cons, hyb]; rfl
                    rw [this] at hj
                    simpa using hj
                clear h1 h2
                obtain ⟨⟨d0a, d1a⟩, g0a, g1a⟩ := row2 (row_alloc hx3 (.cells #[.string yb] 9))
                go_wp2_with fail
                go_meet
                exact P.out
          · obtain ⟨oi, hro, hrg⟩ := hL.range Try.underlying55
            have hLM : L.length = M.length := hA.length
            have hKM : (L.map fun p => bs p.1) = M.map (·.1) := by
              exact keys_kr L M hA
            have CC : Aside (CarAt false wc w.heap.size M) := ⟨L, hL, hA⟩
            have hxi := row_alloc hx3 oi
            have hgi : wc.grownBy (wc.alloc oi) (some (wr.heap.size + 1)) := grown_of_below ((Below.refl _ _).alloc (Nat.le_refl _) _)
            have hxl := (Array.getElem?_eq_some_iff.1 hx3).1
            clear hA hL d0 d1 g0 g1
            go_upto_block 3 with fail
            obtain ⟨wi, hwi⟩ : ∃ wi, wc.alloc oi = wi := ⟨_, rfl⟩
            obtain ⟨it, hit⟩ : ∃ it, wc.heap.size = it := ⟨_, rfl⟩
            have hitw : it = wc.heap.size := hit.symm
            rw [hwi] at hrg hxi hgi ⊢
            rw [hit] at hrg hxl ⊢
            have PX : Aside (∀ (W : World) (A : Option Addr) (n cc : Nat) (done : List (List UInt8)), wc.grownBy W (some (wr.heap.size + 1)) → W.heap[wr.heap.size + 1]? = some (.cells #[.string ⟨#[]⟩, .slice A n cc] 36 (0, 0)) → n = done.length → done.Perm (L.map fun p => bs p.1) → Rd true W 9 (.slice A n cc) n 1 (strs (sortT done)) → SwP 36 false wr w.heap.size (nxtC hd M (3, k0, v0)) (ansC hd M (3, k0, v0)) (wr.heap.size + 1) W) := by
              intro W A n cc done hgw hxw hnd hpd hrw
              subst hnd
              have hcw : CarAt false W w.heap.size M := by
                obtain ⟨L', ⟨es, cl, q1, q2⟩, hA'⟩ := CC.out
                refine CC.out.keep (hgw.block _ (Array.getElem?_eq_some_iff.1 q1).1 (fun e => ?_)) (fun g cs hgc => (hgw.block _ (Array.getElem?_eq_some_iff.1 hgc).1 (fun e => ?_)).trans hgc)
                · injection e with e
                  rw [e, hx3] at q1
                  cases q1
                · injection e with e
                  rw [e, hx3] at hgc
                  injection hgc with hgc
                  injection hgc with _ h2
                  exact absurd h2 (by decide)
              have e1 : sortT (M.map (·.1)) = sortT done := by rw [← hKM]; exact (sortT_perm hpd).symm
              have e2 : (sortT (M.map (·.1))).length = done.length := by rw [e1, sortT_len]
              refine ⟨grown_of_below (hb23.grown hgw hws3 (by intro q hq; injection hq with hq; omega)), hcw, ⟨#[]⟩, A, cc, ?_, rfl, ?_⟩
              · show W.heap[wr.heap.size + 1]? = some (.cells #[.string ⟨#[]⟩, .slice A (sortT (M.map (·.1))).length cc] 36 (0, 0))
                rw [e2]
                exact hxw
              · show Rd true W 9 (.slice A (sortT (M.map (·.1))).length cc) (sortT (M.map (·.1))).length 1 (strs (sortT (M.map (·.1))))
                rw [e2, e1]
                exact hrw
            have hsz : wc.heap.size = it := hitw.symm
            have hlong : L.length ≤ 1000 := by omega
            obtain ⟨xb, hxb⟩ : ∃ xb, wr.heap.size + 1 = xb := ⟨_, rfl⟩
            rw [hxb] at hgi hxi hxl PX ⊢
            have XB : Aside (wr.heap.size + 1 = xb) := hxb
            have PY : Aside (∀ W W' : World, wc.grownBy W (some xb) → Below it W W' → wc.grownBy W' (some xb)) := by
              intro W W' h hb
              rw [← hsz] at hb
              exact grown_below h hb
            have PZ : Aside (∀ (W w1 : World), wc.grownBy W (some xb) → W.grownBy w1 (some it) → wc.grownBy w1 (some xb)) := by
              intro W w1 h hg1
              exact ⟨hg1.os.trans h.os, hg1.tape.trans h.tape, hg1.output.trans h.output, Nat.le_trans h.size hg1.size, fun k hk hn => (hg1.block k (Nat.lt_of_lt_of_le hk h.size) (by intro e; injection e with e; omega)).trans (h.block k hk hn)⟩
            have PS : Aside (∀ W : World, wc.grownBy W (some xb) → it ≤ W.heap.size) := fun W h => by rw [← hsz]; exact h.size
            clear hwi hit hitw hro CC hKM hLM hx3 hb23 hws3 hs3 c0 c1 c2 hsz hb hAll ho hM hg hj hlt hws hws2 hxb
            go_wp2_with fail
            go_loopg [] (L.length + 1) (fun gk W => wc.grownBy W (some xb) ∧ ∃ (left : List KV) (done : List (List UInt8)) (A : Option Addr) (cc : Nat), RangeAt W it w.heap.size L left ∧ left.length + 1 = gk ∧ (L.map fun p => bs p.1).Perm (done ++ left.map fun p => bs p.1) ∧ W.heap[xb]? = some (.cells #[.string ⟨#[]⟩, .slice A done.length cc] 36 (0, 0)) ∧ W.ownsRow it 9 1 (.slice A done.length cc) done.length (strs done))
            case atStart => exact ⟨hgi, L, [], none, 0, hrg, rfl, List.Perm.refl _, hxi, own_nil _ _ _ _⟩
            case round =>
              clear hgi hrg hxi
              obtain ⟨hgw, left, done, A, cc, hrg, hg, hperm, hx, ho⟩ := hrel
              have hws := PS.out _ hgw
              have hdl : done.length ≤ L.length := by
                have := hperm.length_eq
                rw [List.length_append, List.length_map] at this
                omega
              rcases hrg.next 0 with ⟨rfl, hnx⟩ | ⟨p, left', w5, hpm, hnx, hrg1, hg1, hen⟩
              · have hnx' : ∀ ty, (Instr.next (.pointer (some ⟨it, 0, none⟩)) false ty).run Try.prog wr = .ok (.tuple #[.bool false]) wr := fun _ => hnx
                clear hnx
                have HP : Aside (done.Perm (L.map fun p => bs p.1)) := by
                  have := hperm
                  rw [List.map_nil, List.append_nil] at this
                  exact this.symm
                have hso := sort_strs it (.slice A done.length cc) done wr ho (by omega)
                obtain ⟨⟨d0, d1⟩, g0, g1⟩ := row2 hx
                clear hperm ho hrg
                go_wp2_with (go_at_fn 15; fail)
                refine hso.mono ?_
                intro e w6 hpost
                obtain ⟨rfl, hrd6, hf6, hb6⟩ := hpost
                have P : Aside (SwP 36 false _ w.heap.size (nxtC hd M (3, k0, v0)) (ansC hd M (3, k0, v0)) xb w6) :=
                  PX.out w6 A done.length cc done (PY.out _ _ hgw hb6) ((hb6.block _ hxl).trans hx) rfl HP.out hrd6
                clear hso hrd6 hf6
                have P2 := P.out
                clear P PX PY PZ PS hb6 hx hxl
                go_wp2_with fail
                rw [← XB.out] at P2 ⊢
                go_meet
                exact P2
              · have hnx' : ∀ ty, (Instr.next (.pointer (some ⟨it, 0, none⟩)) false ty).run Try.prog wr = .ok (.tuple #[.bool true, .string p.1, p.2]) w5 := fun _ => hnx
                have hgw5 := PZ.out _ _ hgw hg1
                have hri : ∃ es a c d, wr.heap[it]? = some (.mapIter es a c d) := by
                  obtain ⟨es, clock, seen, _, h2, _⟩ := hrg
                  exact ⟨_, _, _, _, h2⟩
                have ho5 : w5.ownsRow it 9 1 (.slice A done.length cc) done.length (strs done) := by
                  refine ho.kept hg1 (.inr ?_)
                  intro e
                  obtain ⟨es, a, c, d, h2⟩ := hri
                  rcases ho.2 with ⟨h0, _⟩ | ⟨g, cap, cur, hv, _, hh, _⟩
                  · rw [h0] at e
                    cases e
                  · rw [hv] at e
                    have : g = it := by simpa [Value.ownBlock] using e
                    subst this
                    rw [hh] at h2
                    cases h2
                have hx5 := (hg1.block _ (Array.getElem?_eq_some_iff.1 hx).1 (by intro e; injection e with e; omega)).trans hx
                have hws5 := PS.out _ hgw5
                have PP : Aside (left.Perm (p :: left')) := hpm
                have hpl := hpm.length_eq
                rw [List.length_cons] at hpl
                have HP : Aside ((L.map fun p => bs p.1).Perm (done ++ left.map fun p => bs p.1)) := hperm
                clear hnx hgw hrg ho hx hg1 hri hpm hperm
                obtain ⟨kk, vv⟩ := p
                simp only at hnx' hen
                obtain ⟨⟨d0, d1⟩, g0, g1⟩ := row2 hx5
                go_wp2_with (at_builtin; go_must (refine wp_app it rfl (.tmp 65) (.tmp 67) 33 rfl 9 (.string ⟨#[]⟩) 1 16 Try.underlying33 Try.infoStr rfl (by decide) (.slice A done.length cc) done.length _ [.string kk] rfl rfl rfl (one_str kk) ho5 hws5 (by omega) (by omega) ?_); intro v1 w6 ho6 hb6 hf6 hs6; obtain ⟨A6, c6, rfl⟩ := own_shape ho6; have hx6 := (hb6.block _ hxl).trans hx5; obtain ⟨⟨q0, q1⟩, r0, r1⟩ := row2 hx6)
                go_roundg (gk - 1)
                case rel =>
                  have hgw6 := PY.out _ _ hgw5 hb6
                  have hlen : (done ++ [bs kk]).length = done.length + 1 := by simp
                  refine ⟨grown_set hgw6 1 _, left', done ++ [bs kk], A6, c6, (hrg1.fr hf6).keepSet hx6 _, by omega, ?_, ?_, ?_⟩
                  · refine HP.out.trans ?_
                    rw [List.append_assoc]
                    refine List.Perm.append_left done ?_
                    exact PP.out.map fun p => bs p.1
                  · rw [hlen]
                    exact row_set hx6 1 _
                  · rw [hlen]
                    rw [S_bs] at ho6
                    have := own_setOther ho6 hx6 (by decide) (i := 1) (.slice A6 (done.length + 1) c6)
                    simpa [strs] using this
                case measure => omega
        case rest =>
          obtain ⟨hgr, hcar, t, A4, c4, hx4, ht4, hrd4⟩ := hcut
          obtain ⟨L, hL, hA⟩ := hM
          have hb4 : Below w.heap.size w wc := hb.grown hgr hws (by intro q hq; injection hq with hq; omega)
          have ho4 : wc.ownsRow w.heap.size 36 2 (.slice OA j oc) j css.flatten := by
            refine ho.kept hgr (.inr ?_)
            intro e
            obtain ⟨es, cl, q1, _⟩ := hL
            rcases ho.2 with ⟨h0, _⟩ | ⟨g, cap, cur, hv, _, hh, _⟩
            · rw [h0] at e; cases e
            · rw [hv] at e
              have : g = w.heap.size := by simpa [Value.ownBlock] using e
              subst this
              rw [q1] at hh
              cases hh
          have hAll4 : Aside (All2 (AnsR wc) css (runC hd (st.take j) [])) := hAll.out.imp (fun _ _ h => AnsR.map h hL hgr)
          have hws4 := hb4.size
          obtain ⟨a, ha⟩ : ∃ a, ansC hd M (op, k0, v0) = a := ⟨_, rfl⟩
          have AA : Aside (ansC hd M (op, k0, v0) = a ∧ bs t = a.1 ∧ Rd true wc 9 (.slice A4 a.2.length c4) a.2.length 1 (strs a.2)) := by rw [ha] at ht4 hrd4; exact ⟨ha, ht4, hrd4⟩
          rw [ha] at hx4
          obtain ⟨⟨d0, d1⟩, g0, g1⟩ := row2 hx4
          clear hgr ht4 hrd4 ha hL hA ho hb
          go_wp2_with (at_builtin; go_must (refine wp_app (W := wc) w.heap.size rfl (.tmp 73) (.tmp 75) 29 rfl 36 _ 2 40 Try.underlying29 Try.info36 rfl (by decide) (.slice OA j oc) j _ [.string t, .slice A4 a.2.length c4] rfl rfl rfl (by intro u hu; simp at hu; rcases hu with rfl | rfl <;> rfl) ho4 hws4 (by omega) (by omega) ?_); intro v1 w6 ho6 hb6 hf6 hs6)
          go_roundg (gk - 1)
          case rel =>
            refine ⟨hb4.trans hb6, j + 1, css ++ [[.string t, .slice A4 a.2.length c4]], by go_num, by omega, by omega, ?_, ?_, ?_⟩
            · rw [SS.out.1, endC_snoc, ME.out]
              exact hcar.fr hf6 (by decide)
            · rw [List.flatten_append]
              simpa using ho6
            · show All2 _ _ _
              rw [SS.out.1, runC_snoc, ME.out, AA.out.1]
              exact (hAll4.out.imp (fun _ _ h => AnsR.fr h hf6 (by decide))).append (l' := [_]) (m' := [a]) ⟨AnsR.fr ⟨t, _, rfl, AA.out.2.1, AA.out.2.2⟩ hf6 (by decide), trivial⟩
          case measure => omega
    · have hjl : j = st.length := by omega
      subst hjl
      have HA : Aside (All2 (AnsR wr) css (runC hd st [])) := by have := hAll.out; rw [List.take_length] at this; exact this
      clear hAll
      go_wp2_with fail
      go_ret
      exact ⟨_, css, rfl, by rw [runC_len]; exact Rd.of_own ho, HA.out, hb⟩
end Go.Proofs.Ytfaokggblllcmaa
