/- Contract: the composite propagator's Fields. -/
import Derived.Test.YtfaokggblllcmaaD6
import Derived.Deep.CutBlock
set_option linter.unusedVariables false
set_option linter.unusedSimpArgs false
namespace Go.Proofs.Ytfaokggblllcmaa
open Go Go.RowKit

def addK (k : List UInt8) (l : List (List UInt8)) : List (List UInt8) := if k ∈ l then l else l ++ [k]
theorem putL_keys (k : ByteArray) (v : Value) : ∀ L : List KV, ((putL k v L).map fun p => bs p.1) = addK (bs k) (L.map fun p => bs p.1)
  | [] => by simp [putL, addK]
  | p :: L => by
    have ih := putL_keys k v L
    unfold putL
    rw [key_eq]
    by_cases h : bs p.1 = bs k
    · simp only [h, decide_true, if_true, List.map_cons]
      unfold addK
      rw [if_pos (by simp)]
    · have h' : ¬ bs k = bs p.1 := fun e => h e.symm
      simp only [h, decide_false, Bool.false_eq_true, if_false, List.map_cons, ih]
      unfold addK
      by_cases hm : bs k ∈ L.map fun p => bs p.1
      · rw [if_pos hm, if_pos (List.mem_cons_of_mem _ hm)]
      · rw [if_neg hm, if_neg (by rw [List.mem_cons]; exact fun e => e.elim h' hm), List.cons_append]
def addAll (fs l : List (List UInt8)) : List (List UInt8) := fs.foldl (fun l f => addK f l) l
def fieldsOf (ps : List Pc) : List (List UInt8) := ps.foldl (fun l p => addAll p.2.2 l) []
theorem addAll_snoc (fs l : List (List UInt8)) (f : List UInt8) : addAll (fs ++ [f]) l = addK f (addAll fs l) := by simp [addAll]
theorem fieldsOf_snoc (ps : List Pc) (p : Pc) : fieldsOf (ps ++ [p]) = addAll p.2.2 (fieldsOf ps) := by simp [fieldsOf]
def FldMid (w : World) (l : List (List UInt8)) (W : World) : Prop := Below w.heap.size w W ∧ ∃ L, MapAt W w.heap.size L ∧ (L.map fun p => bs p.1) = l
def FieldsPost (ps : List Pc) (w : World) (e : Ending) (w' : World) : Prop := ∃ v ks, e = .returned v ∧ w'.ownsRow w.heap.size 9 1 v ks.length (strs ks) ∧ ks.Perm (fieldsOf ps) ∧ Below w.heap.size w w' ∧ ∃ g c, v = .slice (some ⟨g, 0, none⟩) ks.length c

set_option maxHeartbeats 4000000 in
set_option maxRecDepth 100000 in
theorem fields_any {ty : Bool} (v : Value) (ps : List Pc) (w : World) (h : PRow ty w v ps) (hn : ps.length ≤ 1000) (hf : ∀ p ∈ ps, p.2.2.length ≤ 100) (hfl : (fieldsOf ps).length ≤ 10000) : Calls Try.prog 107 #[v] w (FieldsPost ps w) := by
  obtain ⟨us, hrd, hall⟩ := h
  obtain ⟨A, c, rfl, hnc, hcm⟩ := hrd.shape
  have H : Aside (Rd true w 76 (.slice A ps.length c) ps.length 1 us ∧ All2 (PcV ty w) us ps ∧ ∀ p ∈ ps, p.2.2.length ≤ 100) := ⟨hrd, hall, hf⟩
  clear hrd hall hf
  have hmk := run_mm 168
  have hb1 : Below w.heap.size w (w.alloc (.map #[] 0)) := (Below.refl _ _).alloc (Nat.le_refl _) _
  have hM1 : MapAt (w.alloc (.map #[] 0)) w.heap.size [] := MapAt.made w
  go_enter Try.func107, Try.ntmps107
  go_upto_block 0 with fail
  obtain ⟨w1, hw1⟩ : ∃ w1, w.alloc (.map #[] 0) = w1 := ⟨_, rfl⟩
  rw [hw1] at hb1 hM1 ⊢
  clear hw1 hmk
  go_cut [13] (fun v13 W => FldMid w (fieldsOf ps) W)
  case first =>
    go_wp2_with fail
    go_loopg [13] (ps.length + 1) (fun gk i W => ∃ j : Nat, i = .int .i64 j ∧ j ≤ ps.length ∧ j + gk = ps.length + 1 ∧ FldMid w (fieldsOf (ps.take j)) W)
    case atStart => exact ⟨0, rfl, Nat.zero_le _, Nat.zero_add _, hb1, [], hM1, rfl⟩
    case round =>
      clear hb1 hM1
      obtain ⟨j, rfl, hj, hgk, hb, L, hL, hK⟩ := hrel
      have hws := hb.size
      by_cases hlt : j < ps.length
      · obtain ⟨p, hp⟩ : ∃ p, ps[j] = p := ⟨_, rfl⟩
        have hpk : ps[j]? = some p := by rw [List.getElem?_eq_getElem hlt, hp]
        obtain ⟨u, huk, k, x, A1, c1, rfl, hk, hx, hfr⟩ := All2.get j p H.out.2.1 hpk
        have hfn := H.out.2.2 p (List.mem_of_getElem? hpk)
        have hrd := H.out.1.below hb
        obtain ⟨bk, o, c', he, -, -, -⟩ := hrd.cells (by omega)
        injection he with he1 he2 he3
        subst he1 he3
        clear he2
        have e0 : wr.cell? ⟨bk, o + j, none⟩ = some (.iface 74 (.agg #[.string k, .string x, .slice A1 p.2.2.length c1])) := hrd.at' (j := j) (by omega) huk
        have TK : Aside (fieldsOf (ps.take (j + 1)) = addAll p.2.2 (L.map fun p => bs p.1) ∧ Rd ty w 9 (.slice A1 p.2.2.length c1) p.2.2.length 1 (strs p.2.2)) := by
          refine ⟨?_, hfr⟩
          rw [List.take_succ_eq_append_getElem hlt, hp, fieldsOf_snoc, hK]
        have hpf := pieceFields_any k x A1 p.2.2.length c1 wr
        obtain ⟨fs, hfs⟩ : ∃ fs, p.2.2 = fs := ⟨_, rfl⟩
        rw [hfs] at TK hpf hfn e0
        clear hrd huk hk hx hpk hp hK hfr hfs
        go_wp2_with (go_at_fn 103; fail)
        refine hpf.mono ?_
        rintro e w5 ⟨rfl, hb5⟩
        have hb15 := below_then hb hws hb5
        have hL5 := hL.below hb5
        clear hpf hb5 hL hb e0
        obtain ⟨gkO, rfl⟩ : ∃ gkO, gkO = gk := ⟨_, rfl⟩
        go_wp2_with fail
        go_loopg [20] (fs.length + 1) (fun gk i W => ∃ j2 : Nat, i = .int .i64 j2 ∧ j2 ≤ fs.length ∧ j2 + gk = fs.length + 1 ∧ FldMid w (addAll (fs.take j2) (L.map fun p => bs p.1)) W)
        case atStart => exact ⟨0, rfl, Nat.zero_le _, Nat.zero_add _, hb15, L, hL5, rfl⟩
        case round =>
          clear hb15 hL5
          obtain ⟨j2, rfl, hj2, hg2, hb, L2, hL2, hK2⟩ := hrel
          have hws := hb.size
          by_cases hlt2 : j2 < fs.length
          · obtain ⟨f, hf⟩ : ∃ f, fs[j2] = f := ⟨_, rfl⟩
            obtain ⟨fb, hfb, hfbs⟩ := S_str f
            have hrd := TK.out.2.below hb
            obtain ⟨bk, o, c', he, -, -, -⟩ := hrd.cells (by omega)
            injection he with he1 he2 he3
            subst he1 he3
            clear he2
            have e0 : wr.cell? ⟨bk, o + j2, none⟩ = some (.string fb) := hrd.at' (j := j2) (by omega) (by unfold strs; rw [List.getElem?_map, List.getElem?_eq_getElem hlt2, hf, ← hfb]; rfl)
            obtain ⟨w6, hup, hL6, hg6⟩ := hL2.update Try.underlying168 Try.underlying9 fb (.agg #[])
            have P : Aside (FldMid w (addAll (fs.take (j2 + 1)) (L.map fun p => bs p.1)) w6) := by
              refine ⟨hb.grown hg6 hws (by intro q hq; injection hq with hq; omega), _, hL6, ?_⟩
              rw [putL_keys, hK2, List.take_succ_eq_append_getElem hlt2, hf, addAll_snoc, hfbs]
            clear hL6 hg6 hL2 hK2 hrd hfb hfbs hf
            go_wp2_with fail
            go_roundg (gk - 1)
            case rel => exact ⟨j2 + 1, by go_num, by omega, by omega, P.out⟩
            case measure => omega
          · rw [List.take_of_length_le (by omega)] at hK2
            have P : Aside (FldMid w (fieldsOf (ps.take (j + 1))) wr) := by
              show FldMid _ _ _
              rw [TK.out.1]
              exact ⟨hb, L2, hL2, hK2⟩
            clear hL2 hK2 hb
            go_wp2_with fail
            go_roundg (gkO - 1)
            case rel => exact ⟨j + 1, by go_num, by omega, by omega, P.out⟩
            case measure => omega
      · rw [List.take_of_length_le (by omega)] at hK
        go_wp2_with fail
        go_meet
        exact ⟨hb, L, hL, hK⟩
  case rest =>
    obtain ⟨hbc, L, hL, hK⟩ := hcut
    have KK : Aside ((L.map fun p => bs p.1) = fieldsOf ps) := hK
    have hLn : L.length ≤ 10000 := by rw [← hK, List.length_map] at hfl; exact hfl
    have hlen := hL.len Try.underlying168
    have hmk := run_make0 33 9 _ 1 16 Try.underlying33 Try.infoStr L.length L.length rfl (by omega) (by omega) wc
    rw [Nat.mul_one] at hmk
    have ho := own_made wc w.heap.size (.string ⟨#[]⟩) L.length 1 9 hbc.size (by omega)
    rw [Nat.mul_one] at ho
    have hbm : Below w.heap.size w (wc.alloc (.cells (madeCells (Value.string ⟨#[]⟩).cells L.length) 9)) := hbc.alloc hbc.size _
    have hLm := hL.below ((Below.refl wc.heap.size wc).alloc (Nat.le_refl _) (.cells (madeCells (Value.string ⟨#[]⟩).cells L.length) 9))
    obtain ⟨wm, hwm⟩ : ∃ wm, wc.alloc (.cells (madeCells (Value.string ⟨#[]⟩).cells L.length) 9) = wm := ⟨_, rfl⟩
    rw [hwm] at ho hmk hbm hLm
    obtain ⟨oi, hro, hrg⟩ := hLm.range Try.underlying168
    obtain ⟨V, hV⟩ : ∃ V : Value, .slice (some ⟨wc.heap.size, 0, none⟩) 0 L.length = V := ⟨_, rfl⟩
    rw [hV] at ho hmk
    have VF : Aside (∃ g c, V = .slice (some ⟨g, 0, none⟩) 0 c) := ⟨_, _, hV.symm⟩
    clear hV hwm hL hLm hK hb1 hM1 hbc hfl
    go_wp2_with fail
    have hbi : Below w.heap.size w (wm.alloc oi) := hbm.alloc hbm.size _
    have hoi := ho.alloc oi
    obtain ⟨wi, hwi⟩ : ∃ wi, wm.alloc oi = wi := ⟨_, rfl⟩
    obtain ⟨it, hit⟩ : ∃ it, wm.heap.size = it := ⟨_, rfl⟩
    rw [hwi] at hbi hoi hrg ⊢
    have hitw : w.heap.size ≤ it := by rw [← hit]; exact hbm.size
    rw [hit] at hrg ⊢
    clear hwi hit ho hro hmk hlen hbm
    go_loopg [8] (L.length + 1) (fun gk ow W => Below w.heap.size w W ∧ ∃ (left : List KV) (done : List (List UInt8)), RangeAt W it w.heap.size L left ∧ left.length + 1 = gk ∧ (L.map fun p => bs p.1).Perm (done ++ left.map fun p => bs p.1) ∧ W.ownsRow w.heap.size 9 1 ow done.length (strs done) ∧ Aside (done = [] → ow = V))
    case atStart => exact ⟨hbi, L, [], hrg, rfl, List.Perm.refl _, hoi, fun _ => rfl⟩
    case round =>
      clear hbi hoi hrg
      obtain ⟨hb, left, done, hrg, hg, hperm, ho, hnil⟩ := hrel
      have hws := hb.size
      have hdl : done.length ≤ L.length := by
        have := hperm.length_eq
        rw [List.length_append, List.length_map] at this
        omega
      rcases hrg.next 0 with ⟨rfl, hnx⟩ | ⟨p, left', w1, hpm, hnx, hrg1, hg1, hen⟩
      · have hnx' : ∀ ty, (Instr.next (.pointer (some ⟨it, 0, none⟩)) false ty).run Try.prog wr = .ok (.tuple #[.bool false]) wr := fun _ => hnx
        clear hnx
        have HP : Aside (done.Perm (L.map fun p => bs p.1)) := by
          have := hperm
          rw [List.map_nil, List.append_nil] at this
          exact this.symm
        clear hperm
        have HV : Aside (∃ g c, u8 = Value.slice (some ⟨g, 0, none⟩) done.length c) := by
          cases done with
          | nil =>
            obtain ⟨g, c, h⟩ := VF.out
            exact ⟨g, c, by rw [hnil.out rfl]; exact h⟩
          | cons x r => exact Go.Joins.ownsRow_form ho (by simp)
        go_wp2_with fail
        go_ret
        exact ⟨_, done, rfl, ho, by rw [← KK.out]; exact HP.out, hb, HV.out⟩
      · have hnx' : ∀ ty, (Instr.next (.pointer (some ⟨it, 0, none⟩)) false ty).run Try.prog wr = .ok (.tuple #[.bool true, .string p.1, p.2]) w1 := fun _ => hnx
        have hb1 : Below w.heap.size w w1 := hb.grown hg1 hws (by intro q hq; injection hq with hq; omega)
        obtain ⟨OA, oc, rfl⟩ := own_shape ho
        have hri : ∃ es a c d, wr.heap[it]? = some (.mapIter es a c d) := by
          obtain ⟨es, clock, seen, _, h2, _⟩ := hrg
          exact ⟨_, _, _, _, h2⟩
        have ho1 : w1.ownsRow w.heap.size 9 1 (.slice OA done.length oc) done.length (strs done) := by
          refine ho.kept hg1 (.inr ?_)
          intro e
          obtain ⟨es, a, c, d, h2⟩ := hri
          rcases ho.2 with ⟨h0, _⟩ | ⟨g, cap, cur, hv, _, hh, _⟩
          · rw [h0] at e
            cases e
          · rw [hv] at e
            have : g = it := by simpa [Value.ownBlock] using e
            subst this
            rw [hh] at h2
            cases h2
        have hws1 := hb1.size
        have PP : Aside (left.Perm (p :: left')) := hpm
        have hpl := hpm.length_eq
        rw [List.length_cons] at hpl
        have HP : Aside ((L.map fun p => bs p.1).Perm (done ++ left.map fun p => bs p.1)) := hperm
        clear hnx hb hrg ho hg1 hri hpm hperm
        obtain ⟨kb, vb⟩ := p
        simp only at hnx' hen
        go_wp2_with (at_builtin; go_must (refine wp_app w.heap.size rfl (.tmp 38) (.tmp 40) 33 rfl 9 (.string ⟨#[]⟩) 1 16 Try.underlying33 Try.infoStr rfl (by decide) (.slice OA done.length oc) done.length _ [.string kb] rfl rfl rfl (one_str kb) ho1 hws1 (by omega) (by omega) ?_); intro v1 w2 ho2 hb2 hf2 hs2)
        go_roundg (gk - 1)
        case rel =>
          refine ⟨hb1.trans hb2, left', done ++ [bs kb], hrg1.fr hf2, by omega, ?_, ?_, fun h => by (simp at h)⟩
          · refine HP.out.trans ?_
            rw [List.append_assoc]
            refine List.Perm.append_left done ?_
            exact PP.out.map fun p => bs p.1
          · rw [List.length_append]
            rw [S_bs] at ho2
            simpa [strs] using ho2
        case measure => omega
end Go.Proofs.Ytfaokggblllcmaa
