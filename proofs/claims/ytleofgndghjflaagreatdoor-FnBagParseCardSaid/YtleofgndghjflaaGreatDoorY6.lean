/- Contracts of the functions of this claim, proved once, joined out of smaller texts: W0 P0 P1 P2 P3 P5 P6 P7 P8 P9. -/
import Derived.Test.YtleofgndghjflaaGreatDoorY5
import Derived.Test.YtleofgndghjflaaGreatDoorY1
import Derived.Test.YtleofgndghjflaaGreatDoorH0
import Derived.Deep.CutRange
import Derived.Deep.DeepCutAuto
import Derived.Deep.CutBlock
import Derived.Test.YtleofgndghjflaaGreatDoorY3
set_option linter.unusedVariables false
set_option linter.unusedSimpArgs false
namespace Go.Proofs.YtleofgndghjflaaGreatDoor
open Go Go.RowKit

/-- A member as Parse makes it, its texts short. -/
structure SmallM (M : Nat) (m : Mem) : Prop where
  key : m.key.length ≤ M
  val : m.val.length ≤ 4 * M
  meta' : m.meta'.length ≤ M + 1
  props : m.props = []
theorem putM_mem (m : Mem) : ∀ (l : List Mem) (x : Mem), x ∈ putM m l → x = m ∨ x ∈ l
  | [], x, h => by simp [putM] at h; exact .inl h
  | y :: r, x, h => by
    unfold putM at h
    split at h
    · rcases List.mem_cons.1 h with rfl | h
      · exact .inl rfl
      · exact .inr (by simp [h])
    · rcases List.mem_cons.1 h with rfl | h
      · exact .inr (by simp)
      · rcases putM_mem m r x h with h | h
        · exact .inl h
        · exact .inr (by simp [h])
theorem putM_len (m : Mem) : ∀ (l : List Mem), (putM m l).length ≤ l.length + 1
  | [] => by simp [putM]
  | y :: r => by
    unfold putM
    split
    · simp
    · have := putM_len m r
      simp only [List.length_cons]
      omega
theorem parseGo_ok (M : Nat) : ∀ (ps : List (List UInt8)) (st : PS), (∀ p ∈ ps, p.length ≤ M) → (∀ m ∈ st.ms, SmallM M m) → st.ms.length ≤ 64 →
    (∀ m ∈ (parseGo ps st).ms, SmallM M m) ∧ (parseGo ps st).ms.length ≤ 64
  | [], st, _, h, hl => by unfold parseGo; exact ⟨h, hl⟩
  | p :: r, st, hp, h, hl => by
    have hr : ∀ q ∈ r, q.length ≤ M := fun q hq => hp q (by simp [hq])
    unfold parseGo
    split
    · exact ⟨h, hl⟩
    · rename_i h64
      cases hq : parseM p with
      | none => exact parseGo_ok M r _ hr h hl
      | some x =>
        simp only
        split
        · exact ⟨h, hl⟩
        · obtain ⟨a, b, c⟩ := parseM_len p x hq
          have hpl := hp p (by simp)
          have hx : SmallM M (toMem x) := ⟨by show x.1.length ≤ _; omega, by show x.2.1.length ≤ _; omega, by show x.2.2.length ≤ _; omega, rfl⟩
          refine parseGo_ok M r _ hr ?_ ?_
          · intro m hm
            rcases putM_mem _ _ _ hm with rfl | hm
            · exact hx
            · exact h m hm
          · have := putM_len (toMem x) st.ms
            show (putM _ _).length ≤ 64
            omega
theorem lensum_mem : ∀ (ps : List (List UInt8)) (p : List UInt8), p ∈ ps → p.length + 1 ≤ lensum ps
  | [], p, h => by simp at h
  | x :: r, p, h => by
    have e : lensum (x :: r) = x.length + 1 + lensum r := by simp [lensum]
    rcases List.mem_cons.1 h with rfl | h
    · omega
    · have := lensum_mem r p h
      omega
theorem parseB_ok (l : List UInt8) : (∀ m ∈ (parseB l).1, SmallM 8192 m) ∧ (parseB l).1.length ≤ 64 := by
  unfold parseB
  split
  · simp
  · split
    · simp
    · rename_i h
      refine parseGo_ok 8192 _ _ ?_ (by simp [ps0]) (by simp [ps0])
      intro p hp
      have h1 := lensum_mem _ p hp
      rw [split_lensum] at h1
      omega
theorem propsM_len : ∀ (ps : List (List UInt8)), ((propsM ps).getD []).length ≤ ps.length
  | [] => by simp [propsM]
  | p :: r => by
    have ih := propsM_len r
    unfold propsM
    split
    · simp only [List.length_cons]; omega
    · split
      · simp
      · cases h : propsM r with
        | none => simp
        | some y =>
          rw [h] at ih
          simp only [Option.map_some, Option.getD_some, List.length_cons] at ih ⊢
          omega
theorem propsOf_len (l : List UInt8) : (propsOf l).length ≤ l.length + 1 := Nat.le_trans (propsM_len _) (splitL_len 59 l)
theorem SmallM.mok {m : Mem} (h : SmallM 8192 m) : MOk m := by
  have h1 := h.meta'
  refine ⟨by omega, by rw [h.props]; simp, ?_⟩
  unfold memProps
  split
  · rw [h.props]; simp
  · have := propsOf_len m.meta'
    omega
theorem SmallM.memOk {m : Mem} (h : SmallM 8192 m) : MemOk m := by
  have h1 := h.meta'
  have h2 := h.key
  have h3 := h.val
  exact ⟨by omega, by omega, by omega, by rw [h.props]; simp, by rw [h.props]; simp⟩

theorem results_tmp4 {fn : Func} {t u v x : Tmp} (h : fn.results = #[.tmp t, .tmp u, .tmp v, .tmp x]) (tmps : Array Value) (P : Program) (w : World) :
    (results fn tmps).run P w = .ok (.tuple #[tmps.getD t undef, tmps.getD u undef, tmps.getD v undef, tmps.getD x undef]) w := by
  simp [results, h]
/-- What a baggage is told by: its members sorted by their keys, their number, its text. -/
def TellPost (ms : List Mem) (ok : Bool) (w : World) (e : Ending) (w' : World) : Prop :=
  ∃ v ms2 css ms3, e = .returned (.tuple #[v, .int .i64 ms.length, S (bagStr ms3), .bool ok]) ∧ ms.Perm ms2 ∧ ms2.Pairwise (fun a b => Op.bytesLess b.key a.key = false) ∧ ms.Perm ms3 ∧ Rd true w' 42 v ms2.length 3 css.flatten ∧ All2 (IMem w') css ms2 ∧ Below w.heap.size w w'

set_option maxHeartbeats 4000000 in
set_option maxRecDepth 100000 in
theorem ParseBaggage_any (s : ByteArray) (w : World) (hw : Laid w) (hs : s.size ≤ 1000000) :
    Calls Tryz.prog 23 #[.string s] w (TellPost (parseB (bs s)).1 (!(parseB (bs s)).2) w) := by
  obtain ⟨R, hR⟩ : ∃ R, parseB (bs s) = R := ⟨_, rfl⟩
  have hok := parseB_ok (bs s)
  have hpa := Parse_any s w hw hs
  rw [hR] at hok hpa ⊢
  clear hR
  obtain ⟨hok, hlen⟩ := hok
  obtain ⟨ms, bad⟩ := R
  simp only at hok hlen ⊢
  have P : Aside (∀ en w', TellPost ms (!bad) w en w' → TellPost ms (!bad) w en w') := fun _ _ h => h
  go_enter Tryz.func23, Tryz.ntmps23
  go_wp2_with (go_at_fn 54; fail)
  refine hpa.mono ?_
  intro e w1 hpost
  obtain ⟨mv, er, rfl, hbv, her, hbel⟩ := hpost
  obtain ⟨mv', hmv⟩ : ∃ mv', mv = .map mv' := by
    rcases hbv with ⟨h, _⟩ | ⟨b, h, _⟩
    · exact ⟨_, h⟩
    · exact ⟨_, h⟩
  subst hmv
  obtain ⟨w2, hw2⟩ : ∃ w2, w1.alloc (.cells #[.map mv'] 117) = w2 := ⟨_, rfl⟩
  have hb2 : Below w.heap.size w w2 := by rw [← hw2]; exact hbel.alloc hbel.size _
  have hp2 : w2.heap[w1.heap.size]? = some (.cells #[.map mv'] 117 (0, 0)) := by rw [← hw2]; exact heap_alloc_new _ _
  have hbv2 : BagVal w2 (.map mv') ms := by rw [← hw2]; exact hbv.below ((Below.refl _ _).alloc (Nat.le_refl _) _)
  obtain ⟨c2, f2⟩ := row1 hp2
  have c2d : w2.drew.cell? ⟨w1.heap.size, 0, none⟩ = some (.map mv') := c2
  have h2d : Below w2.heap.size w2 w2.drew := (Below.refl _ _).drew
  have hms := membersOf_any (.map mv') ms w2.drew (hw.below hb2.drew) (hbv2.below h2d) (by omega) (fun m hm => (hok m hm).mok)
  clear hpa
  simp only at her hbv
  rcases her with ⟨rfl, rfl⟩ | ⟨rfl, y, rfl⟩
  all_goals
    go_wp2_with fail
    go_region_held3 (fun W => W.cell? ⟨w1.heap.size, 0, none⟩ = some (.map mv')) ((first | (with_reducible assumption))) (first
      | (go_at_call 55; refine hms.mono ?_; intro e w5 hpost; obtain ⟨v5, ms5, css5, rfl, hpm5, hsr5, hrd5, him5, hbe5⟩ := hpost
         have hc5 := (hbe5.block _ (Array.getElem?_eq_some_iff.1 hp2).1).trans hp2
         obtain ⟨d5, _⟩ := row1 hc5
         have hbv5 := (hbv2.below h2d).below hbe5
         have hln := Len_any (.map mv') ms w5 hbv5
         have hb5 := below_then hb2.drew hb2.drew.size hbe5)
      | (go_at_call 56; refine hln.mono ?_; intro e w6 hpost; obtain ⟨rfl, hbe6⟩ := hpost
         have hc6 := (hbe6.block _ (Array.getElem?_eq_some_iff.1 hc5).1).trans hc5
         obtain ⟨d6, _⟩ := row1 hc6
         have hbv6 := hbv5.below hbe6
         have hb6 := below_then hb5 hb5.size hbe6
         have hst := BagString_any (.map mv') ms w6 (hw.below hb6) hbv6 (by omega) (fun m hm => (hok m hm).memOk))
      | (go_at_call 57; refine hst.mono ?_; intro e w7 hpost; obtain ⟨ms7, hpm7, rfl, hbe7⟩ := hpost
         have hc7 := (hbe7.block _ (Array.getElem?_eq_some_iff.1 hc6).1).trans hc6
         obtain ⟨d7, _⟩ := row1 hc7))
    all_goals
      go_wp2_with fail
      (try simp only [Exit.inBlock, Exit.then]); refine bodyPost_ret (results_tmp4 rfl _ _ _) rfl ?_
      have h57 : Below w5.heap.size w5 w7 := below_then hbe6 hbe6.size hbe7
      exact ⟨_, ms5, css5, ms7, rfl, hpm5, hsr5, hpm7, hrd5.below h57, him5.imp (fun _ _ h => h.below h57), below_then hb6 hb6.size hbe7⟩
end Go.Proofs.YtleofgndghjflaaGreatDoor

set_option linter.unusedVariables false
set_option linter.unusedSimpArgs false
namespace Go.Proofs.YtleofgndghjflaaGreatDoor
open Go Go.RowKit

def hexZ (c : Int) : Int := if hexB c then hexV c else 0
theorem ret_dig {a b : Int} {p q : Bool} (h : a = b) (k : p = q) : Ending.returned (.tuple #[.int .u8 a, .bool p]) = .returned (.tuple #[.int .u8 b, .bool q]) := by rw [h, k]
theorem digit_any (c : Int) (w : World) (h1 : 0 ≤ c) (h2 : c ≤ 255) : Calls Tryz.prog 115 #[.int .u8 c] w fun e w' => e = .returned (.tuple #[.int .u8 (hexZ c), .bool (hexB c)]) ∧ w = w' := by
  obtain ⟨k, hk⟩ : ∃ k, hexB c = k := ⟨_, rfl⟩
  obtain ⟨v, hv⟩ : ∃ v, hexZ c = v := ⟨_, rfl⟩
  rw [hk, hv]
  have A : Aside (hexB c = k ∧ hexZ c = v) := ⟨hk, hv⟩
  clear hk hv
  go_enter Tryz.func115, Tryz.ntmps115
  go_wp2
  all_goals
    go_ret2
    exact ⟨by
      obtain ⟨hk, hv⟩ := A.out
      have hb : hexB c = decide ((48 ≤ c ∧ c ≤ 57) ∨ (97 ≤ c ∧ c ≤ 102) ∨ (65 ≤ c ∧ c ≤ 70)) := by rw [Bool.eq_iff_iff]; simp [hexB]; omega
      rw [← hk, ← hv]
      unfold hexZ hexV
      rw [hb]
      refine ret_dig ?_ ?_
      · first
          | (rw [if_pos (by rw [decide_eq_true_eq]; omega)]; split <;> (try split) <;> omega)
          | (rw [if_neg (by rw [decide_eq_true_eq]; omega)])
      · first
          | (symm; rw [decide_eq_true_eq]; omega)
          | (symm; rw [decide_eq_false_iff_not]; omega), rfl⟩
/-- '[]T{}': a row of no cells of one's own. -/
theorem own_empty (w : World) (B : Nat) (e : TypeId) (hB : B ≤ w.heap.size) : (w.alloc (.cells #[] e)).ownsRow B e 1 (.slice (some ⟨w.heap.size, 0, none⟩) 0 0) 0 [] :=
  ⟨rfl, .inr ⟨w.heap.size, 0, #[], rfl, hB, heap_alloc_new _ _, Nat.le_refl _, by simp [maxLen], rfl, rfl⟩⟩
def DecPost (s : ByteArray) (w : World) (e : Ending) (w' : World) : Prop :=
  Below w.heap.size w w' ∧ e = .returned (.tuple #[S ((unesc (bs s)).getD []), .bool (unesc (bs s)).isSome])
attribute [local go_sem ↓] Go.wp_at_zero Go.wp_at_succ
set_option maxRecDepth 100000 in
set_option maxHeartbeats 1000000 in
theorem decoded_any (s : ByteArray) (w : World) (hs : s.size ≤ 1000000) : Calls Tryz.prog 71 #[.string s] w (DecPost s w) := by
  obtain ⟨R, hR⟩ : ∃ R, unesc (bs s) = R := ⟨_, rfl⟩
  have P : Aside (∀ en w', Below w.heap.size w w' → en = Ending.returned (.tuple #[S (R.getD []), .bool R.isSome]) → DecPost s w en w') := fun en w' h1 h2 => ⟨h1, by rw [hR]; exact h2⟩
  have hRR : Aside (unesc (bs s) = R) := hR
  clear hR
  go_enter Tryz.func71, Tryz.ntmps71
  go_wp2_with fail
  go_loopg [5, 6] (s.size + 1) (fun gk o i wx => Below w.heap.size w wx ∧ ∃ (k : Nat) (d : List UInt8), i = .int .i64 k ∧ k ≤ s.size ∧ k + gk = s.size + 1 ∧ wx.ownsRow w.heap.size 5 1 o d.length (d.map U8) ∧
      Aside (R = (unesc ((bs s).drop k)).map (d ++ ·)) ∧ d.length ≤ k)
  case atStart => exact ⟨(Below.refl _ _).alloc (Nat.le_refl _) _, 0, [], rfl, by omega, by omega, own_empty _ _ _ (Nat.le_refl _), by show _ = _; rw [← hRR.out]; simp, by simp⟩
  case round =>
    obtain ⟨hb, k, d, rfl, hk, hg, ho, hX, hd⟩ := hrel
    have hsz := hb.size
    by_cases hlt : k < s.size
    · obtain ⟨c, hc⟩ : ∃ c, s[k] = c := ⟨_, rfl⟩
      have hcb := c.toNat_lt
      have D : Aside ((bs s).drop k = c :: (bs s).drop (k + 1)) := by rw [← hc]; exact bs_drop s k hlt
      by_cases hp : c = 37
      · subst hp
        by_cases h2 : k + 2 < s.size
        · obtain ⟨x, hx⟩ : ∃ x, s[k + 1]'(by omega) = x := ⟨_, rfl⟩
          obtain ⟨y, hy⟩ : ∃ y, s[k + 2]'(by omega) = y := ⟨_, rfl⟩
          have hxb := x.toNat_lt
          have hyb := y.toNat_lt
          have D2 : Aside ((bs s).drop k = 37 :: x :: y :: (bs s).drop (k + 3)) := by
            show _ = _
            rw [D.out, bs_drop s (k + 1) (by omega), bs_drop s (k + 2) (by omega), hx, hy]
          have j1 := run_idx s ((k : Int) + 1) (k + 1) (by omega) (by omega) x hx
          have j2 := run_idx s ((k : Int) + 2) (k + 2) (by omega) (by omega) y hy
          have cx := digit_any (x.toNat : Int) wr (by omega) (by omega)
          have cy := digit_any (y.toNat : Int) wr (by omega) (by omega)
          obtain ⟨hX', eX⟩ : ∃ b, hexB (x.toNat : Int) = b := ⟨_, rfl⟩
          obtain ⟨hY', eY⟩ : ∃ b, hexB (y.toNat : Int) = b := ⟨_, rfl⟩
          rw [eX] at cx
          rw [eY] at cy
          have E : Aside (hexU x = hX' ∧ hexU y = hY') := ⟨eX, eY⟩
          clear eX eY hx hy
          have hlt2 : ¬ (s.size : Int) ≤ (k : Int) + 2 := by omega
          obtain ⟨zx, hzx⟩ : ∃ z, hexZ (x.toNat : Int) = z := ⟨_, rfl⟩
          obtain ⟨zy, hzy⟩ : ∃ z, hexZ (y.toNat : Int) = z := ⟨_, rfl⟩
          rw [hzx] at cx
          rw [hzy] at cy
          have Z : Aside (hexZ (x.toNat : Int) = zx ∧ hexZ (y.toNat : Int) = zy) := ⟨hzx, hzy⟩
          clear hzx hzy
          go_wp2_with (go_at_fn 115; fail)
          refine cx.mono ?_
          rintro e w' ⟨rfl, rfl⟩
          go_wp2_with (go_at_fn 115; fail)
          refine cy.mono ?_
          rintro e w' ⟨rfl, rfl⟩
          cases hX'
          · have F : Aside (R = none) := by
              show _ = _
              rw [hX.out, D2.out, unesc_pct, E.out.1]
              rfl
            go_wp2_with fail
            go_ret2
            exact P.out _ _ hb (by rw [F.out]; rfl)
          · cases hY'
            · have F : Aside (R = none) := by
                show _ = _
                rw [hX.out, D2.out, unesc_pct, E.out.1, E.out.2]
                rfl
              go_wp2_with fail
              go_ret2
              exact P.out _ _ hb (by rw [F.out]; rfl)
            · have hxy : Aside (Value.int .u8 (bits .or .u8 (IntKind.u8.wrap (zx * 16)) zy) = U8 (hxU x y)) := by
                have h1 : hexZ (x.toNat : Int) = hexV (x.toNat : Int) := by unfold hexZ; rw [if_pos]; exact E.out.1
                have h2 : hexZ (y.toNat : Int) = hexV (y.toNat : Int) := by unfold hexZ; rw [if_pos]; exact E.out.2
                show _ = _
                rw [← Z.out.1, ← Z.out.2, h1, h2]
                exact or_hex x y E.out.1 E.out.2
              go_wp2_with (at_builtin; go_must (refine wp_app w.heap.size rfl _ _ 57 rfl 5 (.int .u8 0) 1 1 Tryz.underlying57 Tryz.infoByte rfl (by decide) u5 d.length _ [.int .u8 (bits .or .u8 (IntKind.u8.wrap (zx * 16)) zy)] rfl rfl rfl (one_int _ _) ho hsz (by omega) (by omega) ?_); intro v1 w2 ho2 hb2 hf2 hs2)
              rw [hxy.out] at ho2
              go_roundg (gk - 3)
              case rel =>
                refine ⟨hb.trans hb2, k + 3, d ++ [hxU x y], by go_num, by omega, by omega, by simpa using ho2, ?_, by simp; omega⟩
                have := hX.out
                rw [D2.out, unesc_pct, E.out.1, E.out.2] at this
                show _ = _
                rw [this]
                simp only [Bool.and_self, if_true, Option.map_map]
                congr 1
                funext x
                simp
              case measure => omega
        · have F : Aside (R = none) := by
            show _ = _
            rw [hX.out, D.out, unesc_short _ (by rw [List.length_drop, bs_length]; omega)]
            rfl
          have hge : (s.size : Int) ≤ (k : Int) + 2 := by omega
          go_wp2_with fail
          go_ret2
          exact P.out _ _ hb (by rw [F.out]; rfl)
      · have hp' : ((c.toNat : Int) != 37) = true := by
          rw [bne_iff_ne]
          intro h
          exact hp (UInt8.toNat_inj.1 (by have : (37 : UInt8).toNat = 37 := rfl; omega))
        go_wp2_with (at_builtin; go_must (refine wp_app w.heap.size rfl _ _ 57 rfl 5 (.int .u8 0) 1 1 Tryz.underlying57 Tryz.infoByte rfl (by decide) u5 d.length _ [U8 c] rfl rfl rfl (one_u8 c) ho hsz (by omega) (by omega) ?_); intro v1 w2 ho2 hb2 hf2 hs2)
        go_roundg (gk - 1)
        case rel =>
          refine ⟨hb.trans hb2, k + 1, d ++ [c], by go_num, by omega, by omega, by simpa using ho2, ?_, by simp; omega⟩
          have := hX.out
          rw [D.out, unesc_plain c _ hp, Option.map_map] at this
          show _ = _
          rw [this]
          congr 1
          funext x
          simp
        case measure => omega
    · have hco : ∀ W, W = wr → (convert 57 9 u5).run Tryz.prog W = .ok (S d) W := fun W e => by rw [e]; exact conv_own ho
      have := hX.out
      rw [bs_drop_all s k (by omega), unesc_nil] at this
      have E : Aside (R = some d) := by show _ = _; rw [this]; simp
      have hcw := hco wr rfl
      clear this hco
      go_wp2_with fail
      go_ret2
      exact P.out _ _ hb (by rw [E.out]; rfl)
end Go.Proofs.YtleofgndghjflaaGreatDoor

set_option linter.unusedVariables false
set_option linter.unusedSimpArgs false
namespace Go.Proofs.YtleofgndghjflaaGreatDoor
open Go Go.RowKit

theorem oct_eq (c : UInt8) : oct c = (decide (32 < c.toNat) && decide (c.toNat < 127) && decide (Lib.indexByte [34, 44, 59, 92] c < 0)) := by
  have h : ∀ n : Fin 256, oct (UInt8.ofNat n.val) = (decide (32 < (UInt8.ofNat n.val).toNat) && decide ((UInt8.ofNat n.val).toNat < 127) && decide (Lib.indexByte [34, 44, 59, 92] (UInt8.ofNat n.val) < 0)) := by decide +kernel
  have := h ⟨c.toNat, c.toNat_lt⟩
  simpa using this
theorem tok_eq (c : UInt8) : tok c = (decide (97 ≤ c.toNat ∧ c.toNat ≤ 122) || decide (65 ≤ c.toNat ∧ c.toNat ≤ 90) || decide (48 ≤ c.toNat ∧ c.toNat ≤ 57) || decide (0 ≤ Lib.indexByte [33, 35, 36, 37, 38, 39, 42, 43, 45, 46, 94, 95, 96, 124, 126] c)) := by
  have h : ∀ n : Fin 256, tok (UInt8.ofNat n.val) = (decide (97 ≤ (UInt8.ofNat n.val).toNat ∧ (UInt8.ofNat n.val).toNat ≤ 122) || decide (65 ≤ (UInt8.ofNat n.val).toNat ∧ (UInt8.ofNat n.val).toNat ≤ 90) || decide (48 ≤ (UInt8.ofNat n.val).toNat ∧ (UInt8.ofNat n.val).toNat ≤ 57) || decide (0 ≤ Lib.indexByte [33, 35, 36, 37, 38, 39, 42, 43, 45, 46, 94, 95, 96, 124, 126] (UInt8.ofNat n.val))) := by decide +kernel
  have := h ⟨c.toNat, c.toNat_lt⟩
  simpa using this
theorem indexByte_at (s : ByteArray) (c : UInt8) (w : World) : Calls Tryz.prog 80 #[.string s, .int .u8 (c.toNat : Int)] w fun e w' => e = .returned (.int .i64 (Lib.indexByte s.data.toList c)) ∧ w' = w := by
  have := Tryz.strings_IndexByte s (c.toNat : Int) w
  rw [Int.toNat_natCast, show c.toNat.toUInt8 = c by simp] at this
  exact this

set_option maxRecDepth 100000 in
theorem octet_any (c : UInt8) (w : World) : Calls Tryz.prog 81 #[.int .u8 (c.toNat : Int)] w fun e w' => e = .returned (.bool (oct c)) ∧ w' = w := by
  have hi := fun W => indexByte_at ⟨#[34, 44, 59, 92]⟩ c W
  have hE := oct_eq c
  simp only at hi
  obtain ⟨z, hz⟩ : ∃ z, Lib.indexByte [34, 44, 59, 92] c = z := ⟨_, rfl⟩
  obtain ⟨r, hr⟩ : ∃ r, oct c = r := ⟨_, rfl⟩
  rw [hz] at hi hE
  rw [hr] at hE ⊢
  have A : Aside (r = (decide (32 < c.toNat) && decide (c.toNat < 127) && decide (z < 0))) := hE
  clear hE hr hz
  have hcb := c.toNat_lt
  go_enter Tryz.func81, Tryz.ntmps81
  go_wp2_with (go_at_call 80; refine (hi _).mono ?_; rintro e w' ⟨rfl, rfl⟩)
  all_goals
    go_ret
    exact ⟨ret_bool (by rw [A.out, Bool.eq_iff_iff]; simp; omega), rfl⟩
theorem run_idx0 (s : ByteArray) (k : Nat) (h : k < s.size) (c : UInt8) (hc : s[k] = c) : ∀ W, (Instr.index 9 (.string s) (.int .i64 (k : Int))).run Tryz.prog W = .ok (.int .u8 (c.toNat : Int)) W := run_idx s _ k rfl h c hc
set_option maxRecDepth 100000 in
theorem octets_any (s : ByteArray) (w : World) (hs : s.size ≤ 1000000) : Calls Tryz.prog 72 #[.string s] w fun e w' => e = .returned (.bool ((bs s).all oct)) ∧ w' = w := by
  obtain ⟨r, hr⟩ : ∃ r, (bs s).all oct = r := ⟨_, rfl⟩
  rw [hr]
  go_enter Tryz.func72, Tryz.ntmps72
  go_wp2_with fail
  go_loopg [6] (s.size + 1) (fun gk i wx => wx = w ∧ ∃ k : Nat, i = .int .i64 k ∧ k ≤ s.size ∧ k + gk = s.size + 1 ∧ Aside (((bs s).drop k).all oct = r))
  case atStart => exact ⟨rfl, 0, rfl, by omega, by omega, hr⟩
  case round =>
    obtain ⟨rfl, k, rfl, hk, hg, hX⟩ := hrel
    clear hr
    by_cases hlt : k < s.size
    · obtain ⟨c, hc⟩ : ∃ c, s[k] = c := ⟨_, rfl⟩
      have D : Aside ((bs s).drop k = c :: (bs s).drop (k + 1)) := by rw [← hc]; exact bs_drop s k hlt
      have hcall := octet_any c wr
      have hidx := run_idx0 s k hlt c hc
      clear hc
      obtain ⟨b, hb⟩ : ∃ b, oct c = b := ⟨_, rfl⟩
      rw [hb] at hcall
      have B : Aside (oct c = b) := hb
      clear hb
      go_wp2_with (go_at_fn 81; fail)
      refine hcall.mono ?_
      rintro e w' ⟨rfl, rfl⟩
      cases b
      · go_wp2_with fail
        go_ret
        exact ⟨ret_bool (by rw [← hX.out, D.out, List.all_cons, B.out]; rfl), rfl⟩
      · go_wp2_with fail
        go_roundg (gk - 1)
        case rel => exact ⟨rfl, k + 1, by go_num, by omega, by omega, by have := hX.out; rw [D.out, List.all_cons, B.out] at this; exact this⟩
        case measure => omega
    · have := hX.out
      rw [bs_drop_all s k (by omega)] at this
      have A : Aside (true = r) := this
      clear this
      go_wp2_with fail
      go_ret
      exact ⟨ret_bool A.out, rfl⟩

set_option maxRecDepth 100000 in
set_option maxHeartbeats 1000000 in
theorem token_any (s : ByteArray) (w : World) (hs : s.size ≤ 1000000) : Calls Tryz.prog 41 #[.string s] w fun e w' => e = .returned (.bool (keyOk (bs s))) ∧ w' = w := by
  obtain ⟨r, hr⟩ : ∃ r, keyOk (bs s) = r := ⟨_, rfl⟩
  rw [hr]
  have R : Aside (r = (!(bs s).isEmpty && (bs s).all tok)) := hr.symm
  clear hr
  go_enter Tryz.func41, Tryz.ntmps41
  go_wp2_with fail
  go_loopg [7] (s.size + 1) (fun gk i wx => wx = w ∧ ∃ k : Nat, i = .int .i64 k ∧ k ≤ s.size ∧ k + gk = s.size + 1 ∧ Aside ((bs s).all tok = ((bs s).drop k).all tok))
  case atStart => exact ⟨rfl, 0, rfl, by omega, by omega, rfl⟩
  case round =>
    obtain ⟨rfl, k, rfl, hk, hg, hX⟩ := hrel
    by_cases hlt : k < s.size
    · obtain ⟨c, hc⟩ : ∃ c, s[k] = c := ⟨_, rfl⟩
      have D : Aside ((bs s).drop k = c :: (bs s).drop (k + 1)) := by rw [← hc]; exact bs_drop s k hlt
      have hidx := run_idx0 s k hlt c hc
      clear hc
      have hi := fun W => indexByte_at ⟨#[33, 35, 36, 37, 38, 39, 42, 43, 45, 46, 94, 95, 96, 124, 126]⟩ c W
      have hE := tok_eq c
      simp only at hi
      obtain ⟨z, hz⟩ : ∃ z, Lib.indexByte [33, 35, 36, 37, 38, 39, 42, 43, 45, 46, 94, 95, 96, 124, 126] c = z := ⟨_, rfl⟩
      rw [hz] at hi hE
      have A : Aside (tok c = (decide (97 ≤ c.toNat ∧ c.toNat ≤ 122) || decide (65 ≤ c.toNat ∧ c.toNat ≤ 90) || decide (48 ≤ c.toNat ∧ c.toNat ≤ 57) || decide (0 ≤ z))) := hE
      clear hE hz
      have hcb := c.toNat_lt
      go_upto_region 5 with fail
      go_cut [40] from 13 to 40 (fun v W => v = .bool (!tok c) ∧ W = wr)
      case first =>
        go_wp2_with (go_at_call 80; refine (hi _).mono ?_; rintro e w' ⟨rfl, rfl⟩)
        all_goals
          go_meet
          refine ⟨?_, rfl⟩
          rw [A.out]
          congr 1
          rw [Bool.eq_iff_iff]
          simp
          try omega
      case rest =>
        obtain ⟨rfl, rfl⟩ := hcut
        obtain ⟨b, hb⟩ : ∃ b, tok c = b := ⟨_, rfl⟩
        have B : Aside (tok c = b) := hb
        rw [hb]
        clear hb A
        cases b
        · go_wp2_with fail
          go_ret
          exact ⟨ret_bool (by rw [R.out, hX.out, D.out, List.all_cons, B.out]; simp), rfl⟩
        · go_wp2_with fail
          go_roundg (gk - 1)
          case rel => exact ⟨rfl, k + 1, by go_num, by omega, by omega, by have := hX.out; rw [D.out, List.all_cons, B.out] at this; exact this⟩
          case measure => omega
    · have h1 := hX.out
      rw [bs_drop_all s k (by omega)] at h1
      cases he : s.toList.isEmpty
      · have A : Aside (true = r) := by show _ = _; rw [R.out, h1, ← toList_empty, he]; rfl
        clear h1
        go_wp2_with fail
        go_ret
        exact ⟨ret_bool A.out, rfl⟩
      · have A : Aside (false = r) := by show _ = _; rw [R.out, h1, ← toList_empty, he]; rfl
        clear h1
        go_wp2_with fail
        go_ret
        exact ⟨ret_bool A.out, rfl⟩
end Go.Proofs.YtleofgndghjflaaGreatDoor

set_option linter.unusedVariables false
set_option linter.unusedSimpArgs false
namespace Go.Proofs.YtleofgndghjflaaGreatDoor
open Go Go.RowKit

theorem conv_cells (w : World) (b : Nat) (d : List UInt8) (n : Nat) (hn : d.length = n) (h : w.heap[b]? = some (.cells (d.map U8).toArray 5 (0, 0))) : (convert 57 9 (.slice (some ⟨b, 0, none⟩) n n)).run Tryz.prog w = .ok (S d) w := by
  refine Blk.conv (B := b) (N := n) (c := n) (pre := d) ⟨_, 5, h, by simp [hn], fun j hj => ?_, fun j u hu => ?_⟩ hn
  · simp at hj
    refine ⟨(d[j].toNat : Int), ?_⟩
    simp [U8, List.getElem?_eq_getElem hj]
  · simp [hu]
theorem row_drew' {w : World} {g : Nat} {o : Obj} (h : w.heap[g]? = some o) : w.drew.heap[g]? = some o := h
theorem bs_append (a b : ByteArray) : bs (a ++ b) = bs a ++ bs b := by
  show (a ++ b).data.toList = _
  rw [ByteArray.data_append, Array.toList_append]
theorem u8_and15 (c : UInt8) : bits .and .u8 (c.toNat : Int) 15 = (c.toNat : Int) % 16 := by
  have h : ∀ n : Fin 256, bits .and .u8 ((n.val : Nat) : Int) 15 = ((n.val : Nat) : Int) % 16 := by decide +kernel
  exact h ⟨c.toNat, c.toNat_lt⟩
theorem escU_oct (c : UInt8) : escU c = (decide (c.toNat = 37) || !oct c) := by
  unfold escU escB oct
  congr 1
  rw [Bool.eq_iff_iff]
  simp
  omega

set_option maxRecDepth 100000 in
set_option maxHeartbeats 1000000 in
theorem encoded_any (s : ByteArray) (w : World) (hs : s.size ≤ 1000000) : Calls Tryz.prog 42 #[.string s] w fun e w' => e = .returned (S (enc (bs s))) ∧ Below w.heap.size w w' := by
  obtain ⟨r, hr⟩ : ∃ r, enc (bs s) = r := ⟨_, rfl⟩
  rw [hr]
  have R : Aside (r = enc (bs s)) := hr.symm
  clear hr
  go_enter Tryz.func42, Tryz.ntmps42
  go_wp2_with fail
  go_loopg [3, 8] (s.size + 1) (fun gk o i wx => Below w.heap.size w wx ∧ ∃ (k : Nat) (x : ByteArray), i = .int .i64 k ∧ k ≤ s.size ∧ k + gk = s.size + 1 ∧ o = .string x ∧ x.size ≤ 3 * k ∧ Aside (enc ((bs s).take k) = bs x))
  case atStart => exact ⟨Below.refl _ _, 0, _, rfl, by omega, by omega, rfl, Nat.le_refl _, rfl⟩
  case round =>
    obtain ⟨hb, k, x, rfl, hk, hg, rfl, hxl, hX⟩ := hrel
    have hws := hb.size
    by_cases hlt : k < s.size
    · obtain ⟨c, hc⟩ : ∃ c, s[k] = c := ⟨_, rfl⟩
      have D : Aside (enc ((bs s).take (k + 1)) = bs x ++ encC c) := by
        show _ = _
        rw [bs_take s k hlt, hc, enc_snoc, hX.out]
      have hidx := run_idx0 s k hlt c hc
      clear hc
      have hcb := c.toNat_lt
      have hcall := octet_any c wr
      have hE := escU_oct c
      obtain ⟨b, hb'⟩ : ∃ b, escU c = b := ⟨_, rfl⟩
      obtain ⟨q, hq⟩ : ∃ q, oct c = q := ⟨_, rfl⟩
      rw [hb', hq] at hE
      rw [hq] at hcall
      have B : Aside (escU c = b) := hb'
      clear hb' hq
      cases b
      · have h37 : ((c.toNat : Int) != 37) = true := by
          rw [bne_iff_ne]
          intro h
          rw [decide_eq_true (by omega)] at hE
          cases hE
        obtain rfl : q = true := by
          cases q
          · simp at hE
          · rfl
        clear hE
        go_wp2_with (go_at_fn 81; fail)
        refine hcall.mono ?_
        rintro e w' ⟨rfl, rfl⟩
        have hco : (convert 57 9 (.slice (some ⟨w'.heap.size, 0, none⟩) 1 1)).run Tryz.prog (w'.alloc (.cells #[.int .u8 (c.toNat : Int)] 5)) = .ok (.string ⟨#[c]⟩) (w'.alloc (.cells #[.int .u8 (c.toNat : Int)] 5)) := conv_cells _ w'.heap.size [c] 1 rfl (heap_alloc_new _ _)
        have hsz1 : (9223372036854775807 < x.size + (⟨#[c]⟩ : ByteArray).size) = False := eq_false (by have : (⟨#[c]⟩ : ByteArray).size = 1 := rfl; omega)
        go_wp2_with fail
        go_roundg (gk - 1)
        case rel =>
          refine ⟨hb.alloc hws _, k + 1, _, by go_num, by omega, by omega, rfl, ?_, ?_⟩
          · have : (⟨#[c]⟩ : ByteArray).size = 1 := rfl
            rw [ByteArray.size_append]
            omega
          · show _ = _
            rw [D.out, bs_append]
            unfold encC
            rw [B.out]
            rfl
        case measure => omega
      · have hE2 : Aside (true = (decide (c.toNat = 37) || !q)) := hE
        clear hE
        have ix1 : ∀ W : World, (Instr.index 9 (.string ⟨#[48, 49, 50, 51, 52, 53, 54, 55, 56, 57, 65, 66, 67, 68, 69, 70]⟩) (.int .u8 ((c.toNat : Int) / 16))).run Tryz.prog W = .ok (.int .u8 ((upHex (c.toNat / 16)).toNat : Int)) W := by
          intro W
          rw [run_index_string W 9 _ .u8 _ Tryz.underlying9, dif_pos ⟨by omega, by show _ < (16 : Int); omega⟩]
          congr 3
          exact congrArg UInt8.toNat (upHex_at (c.toNat / 16) (by omega))
        have hb15 : bits .and .u8 (c.toNat : Int) 15 = (c.toNat : Int) % 16 := u8_and15 c
        have ix2 : ∀ W : World, (Instr.index 9 (.string ⟨#[48, 49, 50, 51, 52, 53, 54, 55, 56, 57, 65, 66, 67, 68, 69, 70]⟩) (.int .u8 (bits .and .u8 (c.toNat : Int) 15))).run Tryz.prog W = .ok (.int .u8 ((upHex (c.toNat % 16)).toNat : Int)) W := by
          intro W
          rw [hb15]
          rw [run_index_string W 9 _ .u8 _ Tryz.underlying9, dif_pos ⟨by omega, by show _ < (16 : Int); omega⟩]
          congr 3
          exact congrArg UInt8.toNat (upHex_at (c.toNat % 16) (by omega))
        clear hb15
        have LAST : ∀ W : World, Below w.heap.size w W → Below w.heap.size w W ∧ ∃ (k_1 : Nat) (x_1 : ByteArray), Value.int .i64 ((k : Int) + 1) = .int .i64 k_1 ∧ k_1 ≤ s.size ∧ k_1 + (gk - 1) = s.size + 1 ∧ Value.string (x ++ ⟨#[37, upHex (c.toNat / 16), upHex (c.toNat % 16)]⟩) = .string x_1 ∧ x_1.size ≤ 3 * k_1 ∧ Aside (enc ((bs s).take k_1) = bs x_1) := by
          intro W hW
          refine ⟨hW, k + 1, _, by go_num, by omega, by omega, rfl, ?_, ?_⟩
          · have : (⟨#[37, upHex (c.toNat / 16), upHex (c.toNat % 16)]⟩ : ByteArray).size = 3 := rfl
            rw [ByteArray.size_append]
            omega
          · show _ = _
            rw [D.out, bs_append]
            unfold encC
            rw [B.out]
            rfl
        have hfin : ∀ w' : World, w' = wr → (convert 57 9 (.slice (some ⟨wr.heap.size, 0, none⟩) 3 3)).run Tryz.prog (w'.alloc (.cells #[.int .u8 37, .int .u8 ((upHex (c.toNat / 16)).toNat : Int), .int .u8 ((upHex (c.toNat % 16)).toNat : Int)] 5)).drew = .ok (.string ⟨#[37, upHex (c.toNat / 16), upHex (c.toNat % 16)]⟩) (w'.alloc (.cells #[.int .u8 37, .int .u8 ((upHex (c.toNat / 16)).toNat : Int), .int .u8 ((upHex (c.toNat % 16)).toNat : Int)] 5)).drew := fun w' e => by rw [e]; exact conv_cells _ wr.heap.size [37, upHex (c.toNat / 16), upHex (c.toNat % 16)] 3 rfl (row_drew' (heap_alloc_new _ _))
        have hfr := hfin wr rfl
        clear hfin
        have hsz1 : (9223372036854775807 < x.size + (⟨#[37, upHex (c.toNat / 16), upHex (c.toNat % 16)]⟩ : ByteArray).size) = False := eq_false (by have : (⟨#[37, upHex (c.toNat / 16), upHex (c.toNat % 16)]⟩ : ByteArray).size = 3 := rfl; omega)
        have hsz2 : (9223372036854775807 < x.size + 3) = False := eq_false (by omega)
        cases q
        · go_wp2_with (go_at_fn 81; fail)
          refine hcall.mono ?_
          rintro e w' ⟨rfl, rfl⟩
          go_wp2_with fail
          go_region
          all_goals
            go_wp2_with fail
            go_roundg (gk - 1)
            case rel => exact LAST _ ((hb.alloc hws _).drew)
            case measure => omega
        · have h37 : ((c.toNat : Int) != 37) = false := by
            have := hE2.out
            simp at this
            rw [bne_eq_false_iff_eq]
            omega
          go_wp2_with (go_at_fn 81; fail)
          refine hcall.mono ?_
          rintro e w' ⟨rfl, rfl⟩
          go_wp2_with fail
          go_region
          all_goals
            go_wp2_with fail
            go_roundg (gk - 1)
            case rel => exact LAST _ ((hb.alloc hws _).drew)
            case measure => omega
    · have hX2 := hX.out
      rw [List.take_of_length_le (by rw [bs_length]; omega)] at hX2
      have hrx : Aside (S r = .string x) := by
        show _ = _
        rw [R.out, hX2]
        unfold S
        cases x
        simp
      clear hX2
      go_wp2_with fail
      go_ret
      exact ⟨by rw [hrx.out]; rfl, hb⟩
end Go.Proofs.YtleofgndghjflaaGreatDoor

set_option linter.unusedVariables false
set_option linter.unusedSimpArgs false
namespace Go.Proofs.YtleofgndghjflaaGreatDoor
open Go Go.RowKit

/-- A key with a value as it is made: as it is, or percent-encoded. -/
def madeP (pct : Bool) (k v : List UInt8) : List UInt8 × Bool :=
  if pct then ((unesc v).getD [], (unesc v).isSome && keyOk k && v.all oct && Lib.validD ((unesc v).getD []))
  else (v, !k.isEmpty && Lib.validD k && Lib.validD v)
def how (pct : Bool) : Int := if pct then 1 else 0
def MadePost (R : List UInt8 × Bool) (w : World) (e : Ending) (w' : World) : Prop := e = .returned (.tuple #[S R.1, .bool R.2]) ∧ Below w.heap.size w w'
theorem valid_at (s : ByteArray) (b : Bool) (w : World) (hw : Laid w) (hs : s.size ≤ 100000000) (hb : Lib.validD (bs s) = b) : Calls Tryz.prog 70 #[.string s] w fun e w' => e = .returned (.bool b) ∧ Below w.heap.size w w' := by
  have := Tryz.utf8_ValidString s w (by omega) hw.utf8
  rw [show Lib.validD s.data.toList = b from hb] at this
  exact this

set_option maxRecDepth 100000 in
set_option maxHeartbeats 1000000 in
theorem made_any (pct : Bool) (k v : ByteArray) (w : World) (hw : Laid w) (hk : k.size ≤ 1000000) (hv : v.size ≤ 1000000) :
    Calls Tryz.prog 37 #[.int .u8 (how pct), .string k, .string v] w (MadePost (madeP pct (bs k) (bs v)) w) := by
  obtain ⟨R, hR⟩ : ∃ R, madeP pct (bs k) (bs v) = R := ⟨_, rfl⟩
  rw [hR]
  have A : Aside (R = madeP pct (bs k) (bs v)) := hR.symm
  clear hR
  obtain ⟨bk, hbk⟩ : ∃ b, Lib.validD (bs k) = b := ⟨_, rfl⟩
  obtain ⟨bv, hbv⟩ : ∃ b, Lib.validD (bs v) = b := ⟨_, rfl⟩
  have vk := fun W (hW : Below w.heap.size w W) => valid_at k bk W (hw.below hW) (by omega) hbk
  have vv := fun W (hW : Below w.heap.size w W) => valid_at v bv W (hw.below hW) (by omega) hbv
  have BK : Aside (Lib.validD (bs k) = bk) := hbk
  have BV : Aside (Lib.validD (bs v) = bv) := hbv
  clear hbk hbv
  have hb0 : Below w.heap.size w w := Below.refl _ _
  have hE : Aside (k.toList.isEmpty = (bs k).isEmpty) := toList_empty k
  have hSv : Aside (S (bs v) = .string v) := by
    show _ = _
    unfold S
    cases v
    simp
  obtain ⟨i, hi⟩ : ∃ i, how pct = i := ⟨_, rfl⟩
  cases pct
  · have A2 : Aside (R = (bs v, !(bs k).isEmpty && Lib.validD (bs k) && Lib.validD (bs v))) := A.out
    clear A hi
    unfold how
    cases he : k.toList.isEmpty
    · go_enter Tryz.func37, Tryz.ntmps37
      go_wp2_with (go_at_fn 70; fail)
      refine (vk _ hb0).mono ?_
      rintro e w1 ⟨rfl, hb1⟩
      cases bk
      · go_wp2_with (go_at_fn 70; fail)
        go_ret2
        exact ⟨by rw [A2.out, BK.out, hSv.out]; simp, hb1⟩
      · go_wp2_with (go_at_fn 70; fail)
        refine (vv _ hb1).mono ?_
        rintro e w2 ⟨rfl, hb2⟩
        go_wp2_with (go_at_fn 70; fail)
        go_ret2
        exact ⟨by rw [A2.out, BK.out, BV.out, ← hE.out, he, hSv.out]; simp, below_then hb1 hb1.size hb2⟩
    · go_enter Tryz.func37, Tryz.ntmps37
      go_wp2_with (go_at_fn 70; fail)
      go_ret2
      exact ⟨by rw [A2.out, ← hE.out, he, hSv.out]; simp, hb0⟩
  · have A2 : Aside (R = ((unesc (bs v)).getD [], (unesc (bs v)).isSome && keyOk (bs k) && (bs v).all oct && Lib.validD ((unesc (bs v)).getD []))) := A.out
    clear A hi vk vv BK BV
    unfold how
    have hd := decoded_any v w hv
    unfold DecPost at hd
    obtain ⟨u, hu⟩ : ∃ u, unesc (bs v) = u := ⟨_, rfl⟩
    rw [hu] at hd
    have hul : (u.getD []).length ≤ v.size := by
      cases u with
      | none => simp
      | some d => have := unesc_le hu; rw [bs_length] at this; exact this
    have U : Aside (unesc (bs v) = u) := hu
    clear hu
    have hus : ∃ x : ByteArray, S (u.getD []) = .string x ∧ bs x = u.getD [] := ⟨⟨(u.getD []).toArray⟩, rfl, rfl⟩
    obtain ⟨x, hx, hxb⟩ := hus
    have hxs : x.size ≤ 1000000 := by rw [← bs_length, hxb]; omega
    rw [hx] at hd
    have X : Aside (S (u.getD []) = .string x ∧ bs x = u.getD []) := ⟨hx, hxb⟩
    clear hx hxb hul
    obtain ⟨tk, htk⟩ : ∃ b, keyOk (bs k) = b := ⟨_, rfl⟩
    obtain ⟨ov, hov⟩ : ∃ b, (bs v).all oct = b := ⟨_, rfl⟩
    obtain ⟨vx, hvx⟩ : ∃ b, Lib.validD (bs x) = b := ⟨_, rfl⟩
    have ht := fun W => token_any k W hk
    have ho := fun W => octets_any v W hv
    have hv' := fun W (hW : Below w.heap.size w W) => valid_at x vx W (hw.below hW) (by omega) hvx
    rw [htk] at ht
    rw [hov] at ho
    have B : Aside (keyOk (bs k) = tk ∧ (bs v).all oct = ov ∧ Lib.validD (u.getD []) = vx) := ⟨htk, hov, by rw [← X.out.2]; exact hvx⟩
    clear htk hov hvx
    go_enter Tryz.func37, Tryz.ntmps37
    go_wp2_with (go_at_fn 71; fail)
    refine hd.mono ?_
    rintro e w1 ⟨hb1, rfl⟩
    obtain ⟨is, his⟩ : ∃ b, u.isSome = b := ⟨_, rfl⟩
    have I : Aside (u.isSome = is) := his
    rw [his]
    clear his
    cases is
    · go_wp2_with fail
      go_ret2
      exact ⟨by rw [A2.out, U.out, I.out, X.out.1]; simp, hb1⟩
    · go_wp2_with (go_at_fn 41; fail)
      refine (ht _).mono ?_
      rintro e w2 ⟨rfl, rfl⟩
      cases tk
      · go_wp2_with fail
        go_ret2
        exact ⟨by rw [A2.out, U.out, I.out, B.out.1, X.out.1]; simp, hb1⟩
      · go_wp2_with (go_at_fn 72; fail)
        refine (ho _).mono ?_
        rintro e w2 ⟨rfl, rfl⟩
        cases ov
        · go_wp2_with fail
          go_ret2
          exact ⟨by rw [A2.out, U.out, I.out, B.out.1, B.out.2.1, X.out.1]; simp, hb1⟩
        · go_wp2_with (go_at_fn 70; fail)
          refine (hv' _ hb1).mono ?_
          rintro e w3 ⟨rfl, hb3⟩
          go_wp2_with fail
          go_ret2
          exact ⟨by rw [A2.out, U.out, I.out, B.out.1, B.out.2.1, B.out.2.2, X.out.1]; simp, below_then hb1 hb1.size hb3⟩
end Go.Proofs.YtleofgndghjflaaGreatDoor

set_option linter.unusedVariables false
set_option linter.unusedSimpArgs false
namespace Go.Proofs.YtleofgndghjflaaGreatDoor
open Go Go.RowKit

/-- A member as data: its key, its value, its properties. -/
abbrev SM := List UInt8 × List UInt8 × List Pr
def told (m : Mem) : SM := (m.key, m.val, memProps m)
/-- The three cells of a member, its properties behind a slice of type T's. -/
def MR (ty : Bool) (T : TypeId) (w : World) (cs : List Value) (x : SM) : Prop :=
  ∃ kb vb pv, cs = [.string kb, .string vb, pv] ∧ bs kb = x.1 ∧ bs vb = x.2.1 ∧ Rd ty w T pv x.2.2.length 3 (x.2.2.flatMap ipcells)
theorem IMem.mr {w : World} {cs : List Value} {m : Mem} (h : IMem w cs m) : MR true 32 w cs (told m) := h
theorem MR.below {ty : Bool} {T : TypeId} {w w' : World} {cs : List Value} {x : SM} (h : MR ty T w cs x) (hb : Below w.heap.size w w') : MR ty T w' cs x := by
  obtain ⟨kb, vb, pv, h1, h2, h3, h4⟩ := h
  exact ⟨kb, vb, pv, h1, h2, h3, h4.below hb⟩
theorem MR.weak {ty : Bool} {T : TypeId} {w : World} {cs : List Value} {x : SM} (h : MR ty T w cs x) : MR false T w cs x := by
  obtain ⟨kb, vb, pv, h1, h2, h3, h4⟩ := h
  exact ⟨kb, vb, pv, h1, h2, h3, h4.weak⟩
theorem MR.fr {T : TypeId} {w w' : World} {cs : List Value} {x : SM} {e : TypeId} (h : MR true T w cs x) (hf : Fr e w w') (hne : T ≠ e) : MR true T w' cs x := by
  obtain ⟨kb, vb, pv, h1, h2, h3, h4⟩ := h
  exact ⟨kb, vb, pv, h1, h2, h3, h4.fr hf hne⟩
theorem MR.fr2 {T : TypeId} {w w' : World} {cs : List Value} {x : SM} {e f : TypeId} (h : MR true T w cs x) (hf : Fr2 e f w w') (hne : T ≠ e) (hnf : T ≠ f) : MR true T w' cs x := by
  obtain ⟨kb, vb, pv, h1, h2, h3, h4⟩ := h
  exact ⟨kb, vb, pv, h1, h2, h3, h4.fr2 hf hne hnf⟩
theorem MR.len {ty : Bool} {T : TypeId} {w : World} {cs : List Value} {x : SM} (h : MR ty T w cs x) : cs.length = 3 := by
  obtain ⟨kb, vb, pv, rfl, _⟩ := h
  rfl
theorem Tryz.info23 : (Tryz.prog.info? 23).map (fun i => (i.zero, i.size, i.bytes)) = some (some (.agg #[.string ⟨#[]⟩, .bool false, .string ⟨#[]⟩]), 3, 40) := by kernel_rfl
theorem Tryz.info28 : (Tryz.prog.info? 28).map (fun i => (i.zero, i.size, i.bytes)) = some (some (.agg #[.string ⟨#[]⟩, .string ⟨#[]⟩, .slice none 0 0]), 3, 56) := by kernel_rfl
theorem ipcells_len (p : Pr) : (ipcells p).length = 3 := rfl
theorem own_shape {w : World} {base : Nat} {e : TypeId} {size n : Nat} {v : Value} {xs : List Value} (h : w.ownsRow base e size v n xs) : ∃ A c, v = .slice A n c := by
  rcases h.2 with ⟨rfl, rfl⟩ | ⟨g, cap, cur, rfl, _⟩
  · exact ⟨_, _, rfl⟩
  · exact ⟨_, _, rfl⟩
def OfPost (T : TypeId) (kb vb : ByteArray) (ps : List Pr) (w : World) (e : Ending) (w' : World) : Prop :=
  ∃ pv, e = .returned (.agg #[.string kb, .string vb, pv]) ∧ Rd true w' T pv ps.length 3 (ps.flatMap ipcells) ∧ Below w.heap.size w w'

set_option maxHeartbeats 2000000 in
set_option maxRecDepth 100000 in
theorem ofMember_any {ty : Bool} (kb vb : ByteArray) (pv : Value) (ps : List Pr) (w : World) (h : Rd ty w 32 pv ps.length 3 (ps.flatMap ipcells)) (hn : ps.length ≤ 100000) :
    Calls Tryz.prog 20 #[.agg #[.string kb, .string vb, pv]] w (OfPost 23 kb vb ps w) := by
  obtain ⟨AD, c, rfl, hnc, hcm⟩ := h.shape
  obtain ⟨w1, hw1⟩ : ∃ w1, ((w.alloc (.cells #[.string kb, .string vb, .slice AD ps.length c] 42)).alloc (.cells #[.string ⟨#[]⟩, .string ⟨#[]⟩, .slice none 0 0] 28)).alloc (.cells #[.string kb, .string vb, .slice none 0 0] 28) = w1 := ⟨_, rfl⟩
  have hb1 : Below w.heap.size w w1 := by rw [← hw1]; exact (((Below.refl _ _).alloc (Nat.le_refl _) _).alloc (by simp) _).alloc (by simp <;> omega) _
  have hr1 : w1.heap[w.heap.size + 1]? = some (.cells #[.string ⟨#[]⟩, .string ⟨#[]⟩, .slice none 0 0] 28 (0, 0)) := by rw [← hw1]; exact row_alloc (heap_alloc_2 _ _ _) _
  have hB1 : w1.heap[w.heap.size + 1 + 1]? = some (.cells #[.string kb, .string vb, .slice none 0 0] 28 (0, 0)) := by rw [← hw1]; exact alloc_at _ _ _ (by simp)
  subst hw1
  have H : Aside (Rd ty w 32 (.slice AD ps.length c) ps.length 3 (ps.flatMap ipcells)) := h
  clear h
  go_enter Tryz.func20, Tryz.ntmps20
  go_wp2_with fail
  go_loopg [14] (ps.length + 1) (fun gk i W => Below w.heap.size w W ∧ ∃ (k : Nat) (ov : Value), i = .int .i64 k ∧ k ≤ ps.length ∧ k + gk = ps.length + 1 ∧ W.heap[w.heap.size + 1 + 1]? = some (.cells #[.string kb, .string vb, ov] 28 (0, 0)) ∧ W.heap[w.heap.size + 1]? = some (.cells #[.string ⟨#[]⟩, .string ⟨#[]⟩, .slice none 0 0] 28 (0, 0)) ∧ W.ownsRow w.heap.size 23 3 ov k ((ps.take k).flatMap ipcells))
  case atStart => exact ⟨hb1, 0, _, rfl, by omega, by omega, hB1, hr1, own_nil _ _ _ _⟩
  case round =>
    clear hb1 hB1 hr1
    obtain ⟨hb, k, ov, rfl, hk, hg, hB, hr, ho⟩ := hrel
    have hws := hb.size
    have hBl := (Array.getElem?_eq_some_iff.1 hB).1
    obtain ⟨OA, oc, rfl⟩ := own_shape ho
    by_cases hlt : k < ps.length
    · obtain ⟨p, hp⟩ : ∃ p, ps[k] = p := ⟨_, rfl⟩
      have hpk : ps[k]? = some p := by rw [List.getElem?_eq_getElem hlt, hp]
      have hrd := H.out.below hb
      obtain ⟨bk, o, c', he, _, _, _⟩ := hrd.cells (by omega)
      injection he with he1 he2 he3
      subst he1 he3
      clear he2
      obtain ⟨pa, pv, ph, hpc⟩ : ∃ pa pv ph, ipcells p = [.string pa, .bool ph, .string pv] := ⟨⟨p.1.toArray⟩, ⟨(p.2.getD []).toArray⟩, p.2.isSome, rfl⟩
      have hat := fun j hj => fm3 ipcells ipcells_len ps k p hpk j hj
      have c0 : wr.cell? ⟨bk, o + k * 3, none⟩ = some (.string pa) := hrd.at' rfl (by have := hat 0 (by omega); rw [hpc] at this; simpa using this)
      have c1 : wr.cell? ⟨bk, o + k * 3 + 1, none⟩ = some (.bool ph) := hrd.at' (j := k * 3 + 1) (by omega) (by have := hat 1 (by omega); rw [hpc] at this; simpa using this)
      have c2' : wr.cell? ⟨bk, o + k * 3 + 2, none⟩ = some (.string pv) := hrd.at' (j := k * 3 + 2) (by omega) (by have := hat 2 (by omega); rw [hpc] at this; simpa using this)
      have htk : Aside ((ps.take (k + 1)).flatMap ipcells = (ps.take k).flatMap ipcells ++ [.string pa, .bool ph, .string pv]) := by
        show _ = _
        rw [List.take_succ_eq_append_getElem hlt, hp, List.flatMap_append, List.flatMap_cons, List.flatMap_nil, hpc, List.append_nil]
      clear hat hpk hp hpc hrd
      have hB2 := row_alloc hB (.cells #[.string pa, .bool ph, .string pv] 32)
      have hB3 := row_alloc hB2 (.cells #[.string pa, .bool ph, .string pv] 23)
      have hr3 := row_alloc (row_alloc hr (.cells #[.string pa, .bool ph, .string pv] 32)) (.cells #[.string pa, .bool ph, .string pv] 23)
      obtain ⟨⟨_, _, d2⟩, _, _, g2⟩ := row3 hB
      obtain ⟨⟨_, _, d2a⟩, _, _, g2a⟩ := row3 hB2
      have hz1 : (wr.alloc (.cells #[.string pa, .bool ph, .string pv] 32)).heap.size = wr.heap.size + 1 := by simp
      have hb2 : Below w.heap.size w (wr.alloc (.cells #[.string pa, .bool ph, .string pv] 32)) := hb.alloc hws _
      go_wp2_with (at_builtin; go_must (refine wp_app (W := wr.alloc (.cells #[.string pa, .bool ph, .string pv] 32)) w.heap.size rfl (.tmp 19) (.tmp 21) 26 rfl 23 _ 3 40 Tryz.underlying26 Tryz.info23 rfl (by decide) (.slice OA k oc) k _ [.string pa, .bool ph, .string pv] rfl (by show _ = Value.slice (some ⟨(wr.alloc _).heap.size, 0, none⟩) 1 1; rw [hz1]; rfl) rfl (by intro u hu; simp at hu; rcases hu with rfl | rfl | rfl <;> rfl) (ho.alloc _) (by omega) (by omega) (by omega) ?_); intro v1 w6 ho6 hb6 hf6 hs6; obtain ⟨A3, c3, rfl⟩ := own_shape ho6; have hB6 := (hf6.block _ (by simp; omega) (by intro c f h; rw [hB2] at h; cases h)).trans hB2; obtain ⟨⟨_, _, e2⟩, _, _, k2⟩ := row3 hB6)
      go_roundg (gk - 1)
      case rel =>
        have hr6 := (hf6.block _ (by simp; omega) (by intro c f h; rw [row_alloc hr] at h; cases h)).trans (row_alloc hr (.cells #[.string pa, .bool ph, .string pv] 32))
        refine ⟨(hb2.trans hb6).setCell (by show w.heap.size ≤ w.heap.size + 1 + 1; omega) _, k + 1, _, by go_num, by omega, by omega, row_set hB6 2 _, ?_, ?_⟩
        · rw [Below.heap_setCell _ _ _ _ (by show ¬ w.heap.size + 1 = w.heap.size + 1 + 1; omega)]
          exact hr6
        · rw [htk.out]
          exact own_setOther ho6 hB6 (by decide) _
      case measure => omega
    · rw [List.take_of_length_le (by omega)] at ho
      have hkl : k = ps.length := by omega
      obtain ⟨⟨c0, c1, c2'⟩, _, _, _⟩ := row3 hB
      obtain ⟨⟨d0, d1, d2⟩, g0, g1, g2⟩ := row3 hr
      have RO := Rd.of_own ho
      have RO2 : Aside (Rd true wr 23 (.slice OA k oc) ps.length 3 (ps.flatMap ipcells)) := by rw [← hkl]; rw [hkl] at RO ⊢; exact RO
      clear ho hkl RO
      go_wp2_with fail
      (try simp only [Exit.inBlock, Exit.then]); refine bodyPost_ret (results_cell_row rfl _ _ (w.heap.size + 1) 28 _ (0, 0) _ rfl (row_set (row_set (row_set hr 0 _) 1 _) 2 _) Tryz.underlying28 rfl (by kernel_rfl)) rfl ?_
      refine ⟨_, rfl, ?_, ((hb.setCell (by simp) _).setCell (by simp) _).setCell (by simp) _⟩
      exact RO2.out.fr2 ((((Fr2.refl 28 28 wr).set hr _).set (row_set hr 0 _) _).set (row_set (row_set hr 0 _) 1 _) _) (by decide) (by decide)

set_option maxHeartbeats 2000000 in
set_option maxRecDepth 100000 in
theorem toMember_any {ty : Bool} (kb vb : ByteArray) (pv : Value) (ps : List Pr) (w : World) (h : Rd ty w 23 pv ps.length 3 (ps.flatMap ipcells)) (hn : ps.length ≤ 100000) :
    Calls Tryz.prog 18 #[.agg #[.string kb, .string vb, pv]] w (OfPost 32 kb vb ps w) := by
  obtain ⟨AD, c, rfl, hnc, hcm⟩ := h.shape
  obtain ⟨w1, hw1⟩ : ∃ w1, ((w.alloc (.cells #[.string kb, .string vb, .slice AD ps.length c] 28)).alloc (.cells #[.string ⟨#[]⟩, .string ⟨#[]⟩, .slice none 0 0] 42)).alloc (.cells #[.string kb, .string vb, .slice none 0 0] 42) = w1 := ⟨_, rfl⟩
  have hb1 : Below w.heap.size w w1 := by rw [← hw1]; exact (((Below.refl _ _).alloc (Nat.le_refl _) _).alloc (by simp) _).alloc (by simp <;> omega) _
  have hr1 : w1.heap[w.heap.size + 1]? = some (.cells #[.string ⟨#[]⟩, .string ⟨#[]⟩, .slice none 0 0] 42 (0, 0)) := by rw [← hw1]; exact row_alloc (heap_alloc_2 _ _ _) _
  have hB1 : w1.heap[w.heap.size + 1 + 1]? = some (.cells #[.string kb, .string vb, .slice none 0 0] 42 (0, 0)) := by rw [← hw1]; exact alloc_at _ _ _ (by simp)
  subst hw1
  have H : Aside (Rd ty w 23 (.slice AD ps.length c) ps.length 3 (ps.flatMap ipcells)) := h
  clear h
  go_enter Tryz.func18, Tryz.ntmps18
  go_wp2_with fail
  go_loopg [14] (ps.length + 1) (fun gk i W => Below w.heap.size w W ∧ ∃ (k : Nat) (ov : Value), i = .int .i64 k ∧ k ≤ ps.length ∧ k + gk = ps.length + 1 ∧ W.heap[w.heap.size + 1 + 1]? = some (.cells #[.string kb, .string vb, ov] 42 (0, 0)) ∧ W.heap[w.heap.size + 1]? = some (.cells #[.string ⟨#[]⟩, .string ⟨#[]⟩, .slice none 0 0] 42 (0, 0)) ∧ W.ownsRow w.heap.size 32 3 ov k ((ps.take k).flatMap ipcells))
  case atStart => exact ⟨hb1, 0, _, rfl, by omega, by omega, hB1, hr1, own_nil _ _ _ _⟩
  case round =>
    clear hb1 hB1 hr1
    obtain ⟨hb, k, ov, rfl, hk, hg, hB, hr, ho⟩ := hrel
    have hws := hb.size
    have hBl := (Array.getElem?_eq_some_iff.1 hB).1
    obtain ⟨OA, oc, rfl⟩ := own_shape ho
    by_cases hlt : k < ps.length
    · obtain ⟨p, hp⟩ : ∃ p, ps[k] = p := ⟨_, rfl⟩
      have hpk : ps[k]? = some p := by rw [List.getElem?_eq_getElem hlt, hp]
      have hrd := H.out.below hb
      obtain ⟨bk, o, c', he, _, _, _⟩ := hrd.cells (by omega)
      injection he with he1 he2 he3
      subst he1 he3
      clear he2
      obtain ⟨pa, pv, ph, hpc⟩ : ∃ pa pv ph, ipcells p = [.string pa, .bool ph, .string pv] := ⟨⟨p.1.toArray⟩, ⟨(p.2.getD []).toArray⟩, p.2.isSome, rfl⟩
      have hat := fun j hj => fm3 ipcells ipcells_len ps k p hpk j hj
      have c0 : wr.cell? ⟨bk, o + k * 3, none⟩ = some (.string pa) := hrd.at' rfl (by have := hat 0 (by omega); rw [hpc] at this; simpa using this)
      have c1 : wr.cell? ⟨bk, o + k * 3 + 1, none⟩ = some (.bool ph) := hrd.at' (j := k * 3 + 1) (by omega) (by have := hat 1 (by omega); rw [hpc] at this; simpa using this)
      have c2' : wr.cell? ⟨bk, o + k * 3 + 2, none⟩ = some (.string pv) := hrd.at' (j := k * 3 + 2) (by omega) (by have := hat 2 (by omega); rw [hpc] at this; simpa using this)
      have htk : Aside ((ps.take (k + 1)).flatMap ipcells = (ps.take k).flatMap ipcells ++ [.string pa, .bool ph, .string pv]) := by
        show _ = _
        rw [List.take_succ_eq_append_getElem hlt, hp, List.flatMap_append, List.flatMap_cons, List.flatMap_nil, hpc, List.append_nil]
      clear hat hpk hp hpc hrd
      have hB2 := row_alloc hB (.cells #[.string pa, .bool ph, .string pv] 23)
      have hB3 := row_alloc hB2 (.cells #[.string pa, .bool ph, .string pv] 32)
      have hr3 := row_alloc (row_alloc hr (.cells #[.string pa, .bool ph, .string pv] 23)) (.cells #[.string pa, .bool ph, .string pv] 32)
      obtain ⟨⟨_, _, d2⟩, _, _, g2⟩ := row3 hB
      obtain ⟨⟨_, _, d2a⟩, _, _, g2a⟩ := row3 hB2
      have hz1 : (wr.alloc (.cells #[.string pa, .bool ph, .string pv] 23)).heap.size = wr.heap.size + 1 := by simp
      have hb2 : Below w.heap.size w (wr.alloc (.cells #[.string pa, .bool ph, .string pv] 23)) := hb.alloc hws _
      go_wp2_with (at_builtin; go_must (refine wp_app (W := wr.alloc (.cells #[.string pa, .bool ph, .string pv] 23)) w.heap.size rfl (.tmp 19) (.tmp 21) 40 rfl 32 _ 3 40 Tryz.underlying40 Tryz.info32 rfl (by decide) (.slice OA k oc) k _ [.string pa, .bool ph, .string pv] rfl (by show _ = Value.slice (some ⟨(wr.alloc _).heap.size, 0, none⟩) 1 1; rw [hz1]; rfl) rfl (by intro u hu; simp at hu; rcases hu with rfl | rfl | rfl <;> rfl) (ho.alloc _) (by omega) (by omega) (by omega) ?_); intro v1 w6 ho6 hb6 hf6 hs6; obtain ⟨A3, c3, rfl⟩ := own_shape ho6; have hB6 := (hf6.block _ (by simp; omega) (by intro c f h; rw [hB2] at h; cases h)).trans hB2; obtain ⟨⟨_, _, e2⟩, _, _, k2⟩ := row3 hB6)
      go_roundg (gk - 1)
      case rel =>
        have hr6 := (hf6.block _ (by simp; omega) (by intro c f h; rw [row_alloc hr] at h; cases h)).trans (row_alloc hr (.cells #[.string pa, .bool ph, .string pv] 23))
        refine ⟨(hb2.trans hb6).setCell (by show w.heap.size ≤ w.heap.size + 1 + 1; omega) _, k + 1, _, by go_num, by omega, by omega, row_set hB6 2 _, ?_, ?_⟩
        · rw [Below.heap_setCell _ _ _ _ (by show ¬ w.heap.size + 1 = w.heap.size + 1 + 1; omega)]
          exact hr6
        · rw [htk.out]
          exact own_setOther ho6 hB6 (by decide) _
      case measure => omega
    · rw [List.take_of_length_le (by omega)] at ho
      have hkl : k = ps.length := by omega
      obtain ⟨⟨c0, c1, c2'⟩, _, _, _⟩ := row3 hB
      obtain ⟨⟨d0, d1, d2⟩, g0, g1, g2⟩ := row3 hr
      have RO := Rd.of_own ho
      have RO2 : Aside (Rd true wr 32 (.slice OA k oc) ps.length 3 (ps.flatMap ipcells)) := by rw [← hkl]; rw [hkl] at RO ⊢; exact RO
      clear ho hkl RO
      go_wp2_with fail
      (try simp only [Exit.inBlock, Exit.then]); refine bodyPost_ret (results_cell_row rfl _ _ (w.heap.size + 1) 42 _ (0, 0) _ rfl (row_set (row_set (row_set hr 0 _) 1 _) 2 _) Tryz.underlying42 rfl (by kernel_rfl)) rfl ?_
      refine ⟨_, rfl, ?_, ((hb.setCell (by simp) _).setCell (by simp) _).setCell (by simp) _⟩
      exact RO2.out.fr2 ((((Fr2.refl 42 42 wr).set hr _).set (row_set hr 0 _) _).set (row_set (row_set hr 0 _) 1 _) _) (by decide) (by decide)
end Go.Proofs.YtleofgndghjflaaGreatDoor

set_option linter.unusedVariables false
set_option linter.unusedSimpArgs false
namespace Go.Proofs.YtleofgndghjflaaGreatDoor
open Go Go.RowKit

/-- A row of members of element type E, their properties of type T. -/
def MRs (ty ty2 : Bool) (T E : TypeId) (w : World) (v : Value) (xs : List SM) : Prop := ∃ css : List (List Value), Rd ty w E v xs.length 3 css.flatten ∧ All2 (MR ty2 T w) css xs
theorem MRs.below {ty ty2 : Bool} {T E : TypeId} {w w' : World} {v : Value} {xs : List SM} (h : MRs ty ty2 T E w v xs) (hb : Below w.heap.size w w') : MRs ty ty2 T E w' v xs := by
  obtain ⟨css, h1, h2⟩ := h
  exact ⟨css, h1.below hb, h2.imp (fun _ _ h => MR.below h hb)⟩
theorem MRs.weak {ty ty2 : Bool} {T E : TypeId} {w : World} {v : Value} {xs : List SM} (h : MRs ty ty2 T E w v xs) : MRs false false T E w v xs := by
  obtain ⟨css, h1, h2⟩ := h
  exact ⟨css, h1.weak, h2.imp (fun _ _ h => MR.weak h)⟩
theorem MRs.shape {ty ty2 : Bool} {T E : TypeId} {w : World} {v : Value} {xs : List SM} (h : MRs ty ty2 T E w v xs) : ∃ A c, v = .slice A xs.length c ∧ xs.length ≤ c ∧ c ≤ 9223372036854775807 := by
  obtain ⟨css, h1, _⟩ := h
  exact h1.shape
/-- The k-th member's three cells. -/
theorem MRs.get {ty ty2 : Bool} {T E : TypeId} {w : World} {A : Option Addr} {c : Nat} {xs : List SM} (h : MRs ty ty2 T E w (.slice A xs.length c) xs) (k : Nat) (hk : k < xs.length) (x : SM) (hx : xs[k] = x) :
    ∃ bk o kb vb pA pc, A = some ⟨bk, o, none⟩ ∧ w.cell? ⟨bk, o + k * 3, none⟩ = some (.string kb) ∧ w.cell? ⟨bk, o + k * 3 + 1, none⟩ = some (.string vb) ∧ w.cell? ⟨bk, o + k * 3 + 2, none⟩ = some (.slice pA x.2.2.length pc) ∧
      bs kb = x.1 ∧ bs vb = x.2.1 ∧ Rd ty2 w T (.slice pA x.2.2.length pc) x.2.2.length 3 (x.2.2.flatMap ipcells) := by
  obtain ⟨css, hrd, hall⟩ := h
  have hxk : xs[k]? = some x := by rw [List.getElem?_eq_getElem hk, hx]
  obtain ⟨cs, hcsk, hcs⟩ := All2.get k x hall hxk
  have hat := flat_get 3 css k cs (fun c hc => by obtain ⟨_, _, h⟩ := All2.mem hall c hc; exact h.len) hcsk
  obtain ⟨bk, o, c', he, _, _, _⟩ := hrd.cells (by omega)
  injection he with he1 he2 he3
  subst he1 he3
  obtain ⟨kb, vb, pv, rfl, h1, h2, h3⟩ := hcs
  obtain ⟨PA, pc, rfl, _, _⟩ := h3.shape
  exact ⟨bk, o, kb, vb, PA, pc, rfl, hrd.at' rfl (by have := hat 0 (by omega); simpa using this), hrd.at' (j := k * 3 + 1) (by omega) (by have := hat 1 (by omega); simpa using this), hrd.at' (j := k * 3 + 2) (by omega) (by have := hat 2 (by omega); simpa using this), h1, h2, h3⟩
def MRsPost (T E : TypeId) (xs : List SM) (w : World) (e : Ending) (w' : World) : Prop := ∃ v, e = .returned v ∧ MRs true true T E w' v xs ∧ Below w.heap.size w w'

set_option maxHeartbeats 2000000 in
set_option maxRecDepth 100000 in
theorem ofMembers_any {ty ty2 : Bool} (v : Value) (xs : List SM) (w : World) (h : MRs ty ty2 32 42 w v xs) (hn : xs.length ≤ 10000) (hps : ∀ x ∈ xs, x.2.2.length ≤ 100000) :
    Calls Tryz.prog 26 #[v] w (MRsPost 23 28 xs w) := by
  obtain ⟨AD, c, rfl, hnc, hcm⟩ := h.shape
  have H : Aside (MRs ty ty2 32 42 w (.slice AD xs.length c) xs) := h
  clear h
  go_enter Tryz.func26, Tryz.ntmps26
  go_wp2_with fail
  go_loopg [3, 8] (xs.length + 1) (fun gk ov i W => Below w.heap.size w W ∧ ∃ (k : Nat) (css : List (List Value)), i = .int .i64 k ∧ k ≤ xs.length ∧ k + gk = xs.length + 1 ∧ W.ownsRow w.heap.size 28 3 ov k css.flatten ∧ All2 (MR true 23 W) css (xs.take k))
  case atStart => exact ⟨Below.refl _ _, 0, [], rfl, by omega, by omega, own_nil _ _ _ _, trivial⟩
  case round =>
    obtain ⟨hb, k, css, rfl, hk, hg, ho, him⟩ := hrel
    have hws := hb.size
    by_cases hlt : k < xs.length
    · obtain ⟨x, hx⟩ : ∃ x, xs[k] = x := ⟨_, rfl⟩
      have hxm : x ∈ xs := by rw [← hx]; exact List.getElem_mem hlt
      have hpl := hps x hxm
      obtain ⟨bk, o, kb, vb, pA, pc, rfl, x0, x1, x2, hk1, hv1, hp1⟩ := (H.out.below hb).get k hlt x hx
      have htk : Aside (xs.take (k + 1) = xs.take k ++ [x] ∧ bs kb = x.1 ∧ bs vb = x.2.1) := ⟨by rw [List.take_succ_eq_append_getElem hlt, hx], hk1, hv1⟩
      clear hxm hx hk1 hv1
      have hA : Below wr.heap.size wr (wr.alloc (.cells #[.string kb, .string vb, .slice pA x.2.2.length pc] 42)) := (Below.refl _ _).alloc (Nat.le_refl _) _
      have hcall := ofMember_any kb vb _ x.2.2 _ (hp1.below hA) hpl
      obtain ⟨OA, oc, rfl⟩ := own_shape ho
      clear hp1
      go_wp2_with (go_at_fn 20; fail)
      refine hcall.mono ?_
      intro e w5 hpost
      obtain ⟨pv, rfl, hrd5, hbel⟩ := hpost
      obtain ⟨PA5, pc5, rfl, _, _⟩ := hrd5.shape
      have hA5 := below_then hA hA.size hbel
      have hb5 := below_then hb hws hA5
      have ho5 := own_below (C := 0) ho hA5
      have him5 := him.imp (fun _ _ h => MR.below h hA5)
      have hws5 := hb5.size
      clear hcall hbel hA hA5 him ho x0 x1 x2
      go_wp2_with (at_builtin; go_must (refine wp_app (W := w5) w.heap.size rfl (.tmp 12) (.tmp 15) 56 rfl 28 _ 3 56 Tryz.underlying56 Tryz.info28 rfl (by decide) (.slice OA k oc) k _ [.string kb, .string vb, .slice PA5 x.2.2.length pc5] rfl rfl rfl (by intro u hu; simp at hu; rcases hu with rfl | rfl | rfl <;> rfl) ho5 hws5 (by omega) (by omega) ?_); intro v1 w6 ho6 hb6 hf6 hs6)
      go_roundg (gk - 1)
      case rel =>
        have hA6 : Below w5.heap.size w5 w5 := Below.refl _ _
        have hic : MR true 23 w5 [.string kb, .string vb, .slice PA5 x.2.2.length pc5] x := ⟨kb, vb, _, rfl, htk.out.2.1, htk.out.2.2, hrd5⟩
        refine ⟨hb5.trans hb6, k + 1, css ++ [[.string kb, .string vb, .slice PA5 x.2.2.length pc5]], by go_num, by omega, by omega, ?_, ?_⟩
        · rw [List.flatten_append]
          simpa using ho6
        · rw [htk.out.1]
          exact (him5.append (l' := [_]) (m' := [x]) ⟨hic, trivial⟩).imp (fun _ _ h => MR.fr h hf6 (by decide))
      case measure => omega
    · rw [List.take_of_length_le (by omega)] at him
      have hkl : k = xs.length := by omega
      have RO : Aside (MRs true true 23 28 wr u3 xs) := ⟨css, by rw [← hkl]; rw [hkl] at ho ⊢; exact Rd.of_own ho, him⟩
      clear ho hkl him
      go_wp2_with fail
      go_ret
      exact ⟨_, rfl, RO.out, hb⟩

set_option maxHeartbeats 2000000 in
set_option maxRecDepth 100000 in
theorem toMembers_any {ty ty2 : Bool} (v : Value) (xs : List SM) (w : World) (h : MRs ty ty2 23 28 w v xs) (hn : xs.length ≤ 10000) (hps : ∀ x ∈ xs, x.2.2.length ≤ 100000) :
    Calls Tryz.prog 31 #[v] w (MRsPost 32 42 xs w) := by
  obtain ⟨AD, c, rfl, hnc, hcm⟩ := h.shape
  have H : Aside (MRs ty ty2 23 28 w (.slice AD xs.length c) xs) := h
  clear h
  go_enter Tryz.func31, Tryz.ntmps31
  go_wp2_with fail
  go_loopg [3, 8] (xs.length + 1) (fun gk ov i W => Below w.heap.size w W ∧ ∃ (k : Nat) (css : List (List Value)), i = .int .i64 k ∧ k ≤ xs.length ∧ k + gk = xs.length + 1 ∧ W.ownsRow w.heap.size 42 3 ov k css.flatten ∧ All2 (MR true 32 W) css (xs.take k))
  case atStart => exact ⟨Below.refl _ _, 0, [], rfl, by omega, by omega, own_nil _ _ _ _, trivial⟩
  case round =>
    obtain ⟨hb, k, css, rfl, hk, hg, ho, him⟩ := hrel
    have hws := hb.size
    by_cases hlt : k < xs.length
    · obtain ⟨x, hx⟩ : ∃ x, xs[k] = x := ⟨_, rfl⟩
      have hxm : x ∈ xs := by rw [← hx]; exact List.getElem_mem hlt
      have hpl := hps x hxm
      obtain ⟨bk, o, kb, vb, pA, pc, rfl, x0, x1, x2, hk1, hv1, hp1⟩ := (H.out.below hb).get k hlt x hx
      have htk : Aside (xs.take (k + 1) = xs.take k ++ [x] ∧ bs kb = x.1 ∧ bs vb = x.2.1) := ⟨by rw [List.take_succ_eq_append_getElem hlt, hx], hk1, hv1⟩
      clear hxm hx hk1 hv1
      have hA : Below wr.heap.size wr (wr.alloc (.cells #[.string kb, .string vb, .slice pA x.2.2.length pc] 28)) := (Below.refl _ _).alloc (Nat.le_refl _) _
      have hcall := toMember_any kb vb _ x.2.2 _ (hp1.below hA) hpl
      obtain ⟨OA, oc, rfl⟩ := own_shape ho
      clear hp1
      go_wp2_with (go_at_fn 18; fail)
      refine hcall.mono ?_
      intro e w5 hpost
      obtain ⟨pv, rfl, hrd5, hbel⟩ := hpost
      obtain ⟨PA5, pc5, rfl, _, _⟩ := hrd5.shape
      have hA5 := below_then hA hA.size hbel
      have hb5 := below_then hb hws hA5
      have ho5 := own_below (C := 0) ho hA5
      have him5 := him.imp (fun _ _ h => MR.below h hA5)
      have hws5 := hb5.size
      clear hcall hbel hA hA5 him ho x0 x1 x2
      go_wp2_with (at_builtin; go_must (refine wp_app (W := w5) w.heap.size rfl (.tmp 12) (.tmp 15) 51 rfl 42 _ 3 56 Tryz.underlying51 Tryz.info42 rfl (by decide) (.slice OA k oc) k _ [.string kb, .string vb, .slice PA5 x.2.2.length pc5] rfl rfl rfl (by intro u hu; simp at hu; rcases hu with rfl | rfl | rfl <;> rfl) ho5 hws5 (by omega) (by omega) ?_); intro v1 w6 ho6 hb6 hf6 hs6)
      go_roundg (gk - 1)
      case rel =>
        have hA6 : Below w5.heap.size w5 w5 := Below.refl _ _
        have hic : MR true 32 w5 [.string kb, .string vb, .slice PA5 x.2.2.length pc5] x := ⟨kb, vb, _, rfl, htk.out.2.1, htk.out.2.2, hrd5⟩
        refine ⟨hb5.trans hb6, k + 1, css ++ [[.string kb, .string vb, .slice PA5 x.2.2.length pc5]], by go_num, by omega, by omega, ?_, ?_⟩
        · rw [List.flatten_append]
          simpa using ho6
        · rw [htk.out.1]
          exact (him5.append (l' := [_]) (m' := [x]) ⟨hic, trivial⟩).imp (fun _ _ h => MR.fr h hf6 (by decide))
      case measure => omega
    · rw [List.take_of_length_le (by omega)] at him
      have hkl : k = xs.length := by omega
      have RO : Aside (MRs true true 32 42 wr u3 xs) := ⟨css, by rw [← hkl]; rw [hkl] at ho ⊢; exact Rd.of_own ho, him⟩
      clear ho hkl him
      go_wp2_with fail
      go_ret
      exact ⟨_, rfl, RO.out, hb⟩
end Go.Proofs.YtleofgndghjflaaGreatDoor

set_option linter.unusedVariables false
set_option linter.unusedSimpArgs false
namespace Go.Proofs.YtleofgndghjflaaGreatDoor
open Go Go.RowKit

theorem Tryz.guard23 : Tryz.prog.eqGuardType Tryz.prog.depth 23 = false := by kernel_rfl
theorem toList_beq (a b : ByteArray) : (a.toList == b.toList) = decide (a = b) := by
  rw [ByteArray.toList_eq, ByteArray.toList_eq, Bool.eq_iff_iff]
  simp only [beq_iff_eq, decide_eq_true_eq]
  constructor
  · intro h
    cases a
    cases b
    simp at h
    rw [h]
  · intro h
    rw [h]
theorem equal23 (a b c d : ByteArray) (h k : Bool) (W : World) : (Op.equalIn 10000 23 (.agg #[.string a, .bool h, .string b]) (.agg #[.string c, .bool k, .string d])).run Tryz.prog W = .ok (decide (a = c ∧ h = k ∧ b = d)) W := by
  have hs : Tryz.prog.stoodInHeld 23 = false := by kernel_rfl
  have e : ∀ x y : ByteArray, (x.toList = y.toList) = (x = y) := fun x y => by
    have := toList_beq x y
    rw [Bool.eq_iff_iff] at this
    simpa using this
  go_simp
  try simp only [e]
  by_cases h1 : a = c <;> by_cases h2 : h = k <;> by_cases h3 : b = d <;> simp [h1, h2, h3]
theorem neq23 (a b c d : ByteArray) (h k : Bool) (W : World) : (binOp .neq 23 (.agg #[.string a, .bool h, .string b]) (.agg #[.string c, .bool k, .string d])).run Tryz.prog W = .ok (.bool (!decide (a = c ∧ h = k ∧ b = d))) W := by
  rw [run_neq_struct, equal23]
  rfl
theorem eql23 (a b c d : ByteArray) (h k : Bool) (W : World) : (binOp .eql 23 (.agg #[.string a, .bool h, .string b]) (.agg #[.string c, .bool k, .string d])).run Tryz.prog W = .ok (.bool (decide (a = c ∧ h = k ∧ b = d))) W := by
  rw [run_eql_struct, equal23]
  rfl
def BoolPost (b : Bool) (w : World) (e : Ending) (w' : World) : Prop := e = .returned (.bool b) ∧ Below w.heap.size w w'
theorem rd_at3 {ty : Bool} {w : World} {T : TypeId} {b o n c : Nat} {ps : List Pr} (h : Rd ty w T (.slice (some ⟨b, o, none⟩) n c) n 3 (ps.flatMap ipcells)) (k : Nat) (p : Pr) (hp : ps[k]? = some p) :
    w.cell? ⟨b, o + k * 3, none⟩ = some (.string ⟨p.1.toArray⟩) ∧ w.cell? ⟨b, o + k * 3 + 1, none⟩ = some (.bool p.2.isSome) ∧ w.cell? ⟨b, o + k * 3 + 2, none⟩ = some (.string ⟨(p.2.getD []).toArray⟩) := by
  have hat := fun j hj => fm3 ipcells ipcells_len ps k p hp j hj
  exact ⟨h.at' rfl (by have := hat 0 (by omega); simpa [ipcells, S] using this), h.at' (j := k * 3 + 1) (by omega) (by have := hat 1 (by omega); simpa [ipcells, S] using this), h.at' (j := k * 3 + 2) (by omega) (by have := hat 2 (by omega); simpa [ipcells, S] using this)⟩

set_option maxHeartbeats 2000000 in
set_option maxRecDepth 100000 in
theorem equalProps_any {ty ty2 : Bool} (v1 v2 : Value) (ps qs : List Pr) (w : World) (h1 : Rd ty w 23 v1 ps.length 3 (ps.flatMap ipcells)) (h2 : Rd ty2 w 23 v2 qs.length 3 (qs.flatMap ipcells)) (hn : ps.length ≤ 100000) (hm : qs.length ≤ 100000) :
    Calls Tryz.prog 47 #[v1, v2] w (BoolPost (decide (ps = qs)) w) := by
  obtain ⟨A1, c1, rfl, hnc1, hcm1⟩ := h1.shape
  obtain ⟨A2, c2, rfl, hnc2, hcm2⟩ := h2.shape
  obtain ⟨r, hr⟩ : ∃ r, decide (ps = qs) = r := ⟨_, rfl⟩
  rw [hr]
  have R : Aside (decide (ps = qs) = r) := hr
  clear hr
  by_cases hl : ps.length = qs.length
  · have hl1 : ((ps.length : Int) != (qs.length : Int)) = false := by rw [bne_eq_false_iff_eq]; omega
    have L : Aside (ps.length = qs.length) := hl
    clear hl
    go_enter Tryz.func47, Tryz.ntmps47
    go_wp2_with fail
    clear hl1
    go_loopg [13] (ps.length + 1) (fun gk i W => Below w.heap.size w W ∧ ∃ k : Nat, i = .int .i64 k ∧ k ≤ ps.length ∧ k + gk = ps.length + 1 ∧ Aside (r = decide (ps.drop k = qs.drop k)))
    case atStart => exact ⟨Below.refl _ _, 0, rfl, by omega, by omega, R.out.symm⟩
    case round =>
      obtain ⟨hb, k, rfl, hk, hg, hX⟩ := hrel
      have hl := L.out
      by_cases hlt : k < ps.length
      · obtain ⟨p, hp⟩ : ∃ p, ps[k] = p := ⟨_, rfl⟩
        obtain ⟨q, hq⟩ : ∃ q, qs[k]'(by omega) = q := ⟨_, rfl⟩
        have hpk : ps[k]? = some p := by rw [List.getElem?_eq_getElem hlt, hp]
        have hqk : qs[k]? = some q := by rw [List.getElem?_eq_getElem (by omega), hq]
        obtain ⟨b1, o1, c', he, _, _, _⟩ := h1.cells (by omega)
        injection he with he1 he2 he3
        subst he1 he3
        obtain ⟨b2, o2, c', he, _, _, _⟩ := h2.cells (by omega)
        injection he with he1 he2 he3
        subst he1 he3
        obtain ⟨x0, x1, x2⟩ := rd_at3 (h1.below hb) k p hpk
        obtain ⟨y0, y1, y2⟩ := rd_at3 (h2.below hb) k q hqk
        have D : Aside (ps.drop k = p :: ps.drop (k + 1) ∧ qs.drop k = q :: qs.drop (k + 1)) := ⟨by rw [← hp]; exact List.drop_eq_getElem_cons hlt, by rw [← hq]; exact List.drop_eq_getElem_cons (by omega)⟩
        have hlt2 : (k : Int) < qs.length := by omega
        clear hpk hqk hp hq hl
        obtain ⟨pa, hpa⟩ : ∃ x : ByteArray, (⟨p.1.toArray⟩ : ByteArray) = x := ⟨_, rfl⟩
        obtain ⟨pb, hpb⟩ : ∃ x : ByteArray, (⟨(p.2.getD []).toArray⟩ : ByteArray) = x := ⟨_, rfl⟩
        obtain ⟨ph, hph⟩ : ∃ x : Bool, p.2.isSome = x := ⟨_, rfl⟩
        obtain ⟨qa, hqa⟩ : ∃ x : ByteArray, (⟨q.1.toArray⟩ : ByteArray) = x := ⟨_, rfl⟩
        obtain ⟨qb, hqb⟩ : ∃ x : ByteArray, (⟨(q.2.getD []).toArray⟩ : ByteArray) = x := ⟨_, rfl⟩
        obtain ⟨qh, hqh⟩ : ∃ x : Bool, q.2.isSome = x := ⟨_, rfl⟩
        rw [hpa] at x0
        rw [hph] at x1
        rw [hpb] at x2
        rw [hqa] at y0
        rw [hqh] at y1
        rw [hqb] at y2
        have hgd := Tryz.guard23
        have hne := neq23 pa pb qa qb ph qh
        obtain ⟨E, hE⟩ : ∃ E, decide (pa = qa ∧ ph = qh ∧ pb = qb) = E := ⟨_, rfl⟩
        rw [hE] at hne
        have hEE : Aside (decide (p = q) = E) := by
          show _ = _
          rw [← hE, ← hpa, ← hpb, ← hph, ← hqa, ← hqb, ← hqh, Bool.eq_iff_iff]
          simp only [decide_eq_true_eq]
          constructor
          · intro h
            rw [h]
            exact ⟨rfl, rfl, rfl⟩
          · rintro ⟨e1, e2, e3⟩
            simp only [ByteArray.mk.injEq, List.toArray_inj] at e1 e3
            obtain ⟨p1, p2⟩ := p
            obtain ⟨q1, q2⟩ := q
            cases p2 <;> cases q2 <;> simp_all
        clear hpa hpb hph hqa hqb hqh hE
        have NX : Aside (r = (E && decide (ps.drop (k + 1) = qs.drop (k + 1)))) := by
          show _ = _
          rw [hX.out, D.out.1, D.out.2, ← hEE.out, Bool.eq_iff_iff]
          simp
        cases E
        · go_wp2_with fail
          go_quiet (fail)
          go_wp2_with fail
          go_ret
          exact ⟨by rw [NX.out]; rfl, below_drewN' hb _⟩
        · go_wp2_with fail
          go_quiet (fail)
          go_wp2_with fail
          go_roundg (gk - 1)
          case rel => exact ⟨below_drewN' hb _, k + 1, by go_num, by omega, by omega, by show _ = _; rw [NX.out]; simp⟩
          case measure => omega
      · have hfin := hX.out
        rw [List.drop_eq_nil_of_le (by omega), List.drop_eq_nil_of_le (by omega)] at hfin
        have RF : Aside (r = true) := by show _ = _; rw [hfin]; rfl
        clear hfin hl
        go_wp2_with fail
        go_ret
        exact ⟨by rw [RF.out]; rfl, hb⟩
  · have hl1 : ((ps.length : Int) != (qs.length : Int)) = true := by rw [bne_iff_ne]; omega
    go_enter Tryz.func47, Tryz.ntmps47
    go_wp2_with fail
    go_ret
    exact ⟨by rw [← R.out]; rw [decide_eq_false (fun e => hl (by rw [e]))]; rfl, Below.refl _ _⟩
end Go.Proofs.YtleofgndghjflaaGreatDoor

set_option linter.unusedVariables false
set_option linter.unusedSimpArgs false
namespace Go.Proofs.YtleofgndghjflaaGreatDoor
open Go Go.RowKit

theorem cell_below {w w' : World} {b o : Nat} {v : Value} (hb : Below w.heap.size w w') (h : w.cell? ⟨b, o, none⟩ = some v) : w'.cell? ⟨b, o, none⟩ = some v := (hb.cell (p := ⟨b, o, none⟩) (lt_of_cell h)).trans h
set_option maxHeartbeats 2000000 in
set_option maxRecDepth 100000 in
theorem sameMember_any {ty ty2 : Bool} (ka va kb vb : ByteArray) (pA pB : Option Addr) (ca cb : Nat) (ps qs : List Pr) (w : World) (h1 : Rd ty w 23 (.slice pA ps.length ca) ps.length 3 (ps.flatMap ipcells)) (h2 : Rd ty2 w 23 (.slice pB qs.length cb) qs.length 3 (qs.flatMap ipcells)) (hn : ps.length ≤ 100000) (hm : qs.length ≤ 100000) :
    Calls Tryz.prog 19 #[.agg #[.string ka, .string va, .slice pA ps.length ca], .agg #[.string kb, .string vb, .slice pB qs.length cb]] w (BoolPost (decide (ka = kb ∧ va = vb ∧ ps = qs)) w) := by
  obtain ⟨r, hr⟩ : ∃ r, decide (ka = kb ∧ va = vb ∧ ps = qs) = r := ⟨_, rfl⟩
  rw [hr]
  have R : Aside (decide (ka = kb ∧ va = vb ∧ ps = qs) = r) := hr
  clear hr
  have hb : Below w.heap.size w ((w.alloc (.cells #[.string ka, .string va, .slice pA ps.length ca] 28)).alloc (.cells #[.string kb, .string vb, .slice pB qs.length cb] 28)) := ((Below.refl _ _).alloc (Nat.le_refl _) _).alloc (by simp) _
  have heq := equalProps_any _ _ ps qs _ (h1.below hb) (h2.below hb) hn hm
  clear h1 h2
  by_cases hk : ka = kb
  · have hkz : (ka.toList == kb.toList) = true := by rw [toList_beq, decide_eq_true hk]
    by_cases hv : va = vb
    · have hvz : (va.toList == vb.toList) = true := by rw [toList_beq, decide_eq_true hv]
      have R2 : Aside (decide (ps = qs) = r) := by
        show _ = _
        rw [← R.out, Bool.eq_iff_iff]
        simp [hk, hv]
      have hkk : Aside (ka = kb ∧ va = vb) := ⟨hk, hv⟩
      clear hk hv
      obtain ⟨E, hE⟩ : ∃ E, decide (ps = qs) = E := ⟨_, rfl⟩
      rw [hE] at heq
      have HE : Aside (E = r) := by show _ = _; rw [← hE]; exact R2.out
      clear hE
      go_enter Tryz.func19, Tryz.ntmps19
      go_wp2_with (go_at_fn 47; fail)
      refine heq.mono ?_
      rintro e w1 ⟨rfl, hb1⟩
      go_wp2_with fail
      go_ret
      exact ⟨by rw [← HE.out]; rfl, below_then hb hb.size hb1⟩
    · have hvz : (va.toList == vb.toList) = false := by rw [toList_beq, decide_eq_false hv]
      have R2 : Aside (r = false) := by
        show _ = _
        rw [← R.out]
        simp [hv]
      have hkk : Aside (ka = kb) := hk
      clear hk
      go_enter Tryz.func19, Tryz.ntmps19
      go_wp2_with fail
      go_ret
      exact ⟨by rw [R2.out]; rfl, hb⟩
  · have hkz : (ka.toList == kb.toList) = false := by rw [toList_beq, decide_eq_false hk]
    have R2 : Aside (r = false) := by
      show _ = _
      rw [← R.out]
      simp [hk]
    go_enter Tryz.func19, Tryz.ntmps19
    go_wp2_with fail
    go_ret
    exact ⟨by rw [R2.out]; rfl, hb⟩

set_option maxHeartbeats 2000000 in
set_option maxRecDepth 100000 in
theorem equalFunc_any {ty ty2 ty3 ty4 : Bool} (v1 v2 : Value) (xs ys : List SM) (w : World) (h1 : MRs ty ty2 23 28 w v1 xs) (h2 : MRs ty3 ty4 23 28 w v2 ys) (hn : xs.length ≤ 10000) (hm : ys.length ≤ 10000) (hpx : ∀ x ∈ xs, x.2.2.length ≤ 100000) (hpy : ∀ x ∈ ys, x.2.2.length ≤ 100000) :
    Calls Tryz.prog 61 #[v1, v2, .func (.func 19) #[] #[]] w (BoolPost (decide (xs = ys)) w) := by
  obtain ⟨A1, c1, rfl, hnc1, hcm1⟩ := h1.shape
  obtain ⟨A2, c2, rfl, hnc2, hcm2⟩ := h2.shape
  obtain ⟨r, hr⟩ : ∃ r, decide (xs = ys) = r := ⟨_, rfl⟩
  rw [hr]
  have R : Aside (decide (xs = ys) = r) := hr
  clear hr
  have H : Aside (MRs ty ty2 23 28 w (.slice A1 xs.length c1) xs ∧ MRs ty3 ty4 23 28 w (.slice A2 ys.length c2) ys) := ⟨h1, h2⟩
  clear h1 h2
  by_cases hl : xs.length = ys.length
  · have hl1 : ((xs.length : Int) != (ys.length : Int)) = false := by rw [bne_eq_false_iff_eq]; omega
    have L : Aside (xs.length = ys.length) := hl
    clear hl
    go_enter Tryz.func61, Tryz.ntmps61
    go_wp2_with fail
    clear hl1
    go_loopg [17] (xs.length + 1) (fun gk i W => Below w.heap.size w W ∧ ∃ k : Nat, i = .int .i64 k ∧ k ≤ xs.length ∧ k + gk = xs.length + 1 ∧ Aside (r = decide (xs.drop k = ys.drop k)))
    case atStart => exact ⟨Below.refl _ _, 0, rfl, by omega, by omega, R.out.symm⟩
    case round =>
      obtain ⟨hb, k, rfl, hk, hg, hX⟩ := hrel
      have hl := L.out
      have hws := hb.size
      by_cases hlt : k < xs.length
      · obtain ⟨x, hx⟩ : ∃ x, xs[k] = x := ⟨_, rfl⟩
        obtain ⟨y, hy⟩ : ∃ y, ys[k]'(by omega) = y := ⟨_, rfl⟩
        have hpl := hpx x (by rw [← hx]; exact List.getElem_mem hlt)
        have hpm := hpy y (by rw [← hy]; exact List.getElem_mem _)
        obtain ⟨b1, o1, ka, va, pA, pac, rfl, x0, x1, x2, hka, hva, hpa⟩ := (H.out.1.below hb).get k hlt x hx
        obtain ⟨b2, o2, kb, vb, pB, pbc, rfl, y0, y1, y2, hkb, hvb, hpb⟩ := (H.out.2.below hb).get k (by omega) y hy
        have hA1 : Below wr.heap.size wr (wr.alloc (.cells #[.string ka, .string va, .slice pA x.2.2.length pac] 28)) := (Below.refl _ _).alloc (Nat.le_refl _) _
        have y0a := cell_below hA1 y0
        have y1a := cell_below hA1 y1
        have y2a := cell_below hA1 y2
        have D : Aside (xs.drop k = x :: xs.drop (k + 1) ∧ ys.drop k = y :: ys.drop (k + 1)) := ⟨by rw [← hx]; exact List.drop_eq_getElem_cons hlt, by rw [← hy]; exact List.drop_eq_getElem_cons (by omega)⟩
        have hlt2 : (k : Int) < ys.length := by omega
        have hA : Below wr.heap.size wr ((wr.alloc (.cells #[.string ka, .string va, .slice pA x.2.2.length pac] 28)).alloc (.cells #[.string kb, .string vb, .slice pB y.2.2.length pbc] 28)) := ((Below.refl _ _).alloc (Nat.le_refl _) _).alloc (by simp) _
        have hcall := sameMember_any ka va kb vb pA pB pac pbc x.2.2 y.2.2 _ (hpa.below hA) (hpb.below hA) hpl hpm
        obtain ⟨E, hE⟩ : ∃ E, decide (ka = kb ∧ va = vb ∧ x.2.2 = y.2.2) = E := ⟨_, rfl⟩
        rw [hE] at hcall
        have NX : Aside (r = (E && decide (xs.drop (k + 1) = ys.drop (k + 1)))) := by
          show _ = _
          rw [hX.out, D.out.1, D.out.2, ← hE, Bool.eq_iff_iff]
          simp only [List.cons.injEq, decide_eq_true_eq, Bool.and_eq_true]
          refine and_congr_left fun _ => ?_
          obtain ⟨xa, xb, xc⟩ := x
          obtain ⟨ya, yb, yc⟩ := y
          simp only [Prod.mk.injEq] at hka hva hkb hvb ⊢
          rw [← hka, ← hva, ← hkb, ← hvb]
          exact and_congr ⟨fun h => bs_inj h, fun h => by rw [h]⟩ (and_congr ⟨fun h => bs_inj h, fun h => by rw [h]⟩ Iff.rfl)
        clear hE hx hy hl hka hva hkb hvb hpa hpb hpl hpm
        go_wp2_with (go_at_fn 19; fail)
        refine hcall.mono ?_
        rintro e w1 ⟨rfl, hb1⟩
        have hb2 := below_then hb hws (below_then hA hA.size hb1)
        cases E
        · go_wp2_with fail
          go_ret
          exact ⟨by rw [NX.out]; rfl, hb2⟩
        · go_wp2_with fail
          go_roundg (gk - 1)
          case rel => exact ⟨hb2, k + 1, by go_num, by omega, by omega, by show _ = _; rw [NX.out]; simp⟩
          case measure => omega
      · have hfin := hX.out
        rw [List.drop_eq_nil_of_le (by omega), List.drop_eq_nil_of_le (by omega)] at hfin
        have RF : Aside (r = true) := by show _ = _; rw [hfin]; rfl
        clear hfin hl
        go_wp2_with fail
        go_ret
        exact ⟨by rw [RF.out]; rfl, hb⟩
  · have hl1 : ((xs.length : Int) != (ys.length : Int)) = true := by rw [bne_iff_ne]; omega
    go_enter Tryz.func61, Tryz.ntmps61
    go_wp2_with fail
    go_ret
    exact ⟨by rw [← R.out]; rw [decide_eq_false (fun e => hl (by rw [e]))]; rfl, Below.refl _ _⟩

set_option maxRecDepth 100000 in
theorem same_any {ty ty2 ty3 ty4 : Bool} (v1 v2 : Value) (xs ys : List SM) (w : World) (h1 : MRs ty ty2 23 28 w v1 xs) (h2 : MRs ty3 ty4 23 28 w v2 ys) (hn : xs.length ≤ 10000) (hm : ys.length ≤ 10000) (hpx : ∀ x ∈ xs, x.2.2.length ≤ 100000) (hpy : ∀ x ∈ ys, x.2.2.length ≤ 100000) :
    Calls Tryz.prog 27 #[v1, v2] w (BoolPost (decide (xs = ys)) w) := by
  have he := equalFunc_any v1 v2 xs ys w h1 h2 hn hm hpx hpy
  obtain ⟨r, hr⟩ : ∃ r, decide (xs = ys) = r := ⟨_, rfl⟩
  rw [hr] at he ⊢
  clear hr
  go_enter Tryz.func27, Tryz.ntmps27
  go_wp2_with (go_at_fn 61; fail)
  refine he.mono ?_
  rintro e w1 ⟨rfl, hb1⟩
  go_wp2_with fail
  go_ret
  exact ⟨rfl, hb1⟩
end Go.Proofs.YtleofgndghjflaaGreatDoor

set_option linter.unusedVariables false
set_option linter.unusedSimpArgs false
namespace Go.Proofs.YtleofgndghjflaaGreatDoor
open Go Go.RowKit

theorem perm2 {α : Type} {a b : α} {l : List α} (h : [a, b].Perm l) : l = [a, b] ∨ l = [b, a] := by
  match l, h.length_eq with
  | [x, y], _ =>
    have hx : x ∈ [a, b] := h.mem_iff.2 (by simp)
    simp at hx
    rcases hx with rfl | rfl
    · have := List.Perm.cons_inv h
      rw [List.singleton_perm] at this
      exact .inl (by rw [this])
    · have h2 : [x, a].Perm [x, y] := (List.Perm.swap a x []).trans h
      have := List.Perm.cons_inv h2
      rw [List.singleton_perm] at this
      exact .inr (by rw [this])
theorem mrs_of_imem {w : World} {v : Value} : ∀ {css : List (List Value)} {ms : List Mem}, All2 (IMem w) css ms → All2 (MR true 32 w) css (ms.map told)
  | [], [], _ => trivial
  | _ :: _, _ :: _, h => ⟨h.1, mrs_of_imem (v := v) h.2⟩
  | [], _ :: _, h => h.elim
  | _ :: _, [], h => h.elim
theorem tell_mrs {w : World} {v : Value} {css : List (List Value)} {ms : List Mem} (h1 : Rd true w 42 v ms.length 3 css.flatten) (h2 : All2 (IMem w) css ms) : MRs true true 32 42 w v (ms.map told) :=
  ⟨css, by rw [List.length_map]; exact h1, mrs_of_imem (v := v) h2⟩

def awA : Mem := ⟨[97], [120], [], []⟩
def awB : Mem := ⟨[98], [50], [112, 61, 37, 50, 48], []⟩
theorem aw_parse : parseB [98, 61, 50, 59, 112, 61, 37, 50, 48, 44, 97, 61, 120] = ([awB, awA], false) := by kernel_rfl
theorem aw_parse2 : parseB [97] = ([], true) := by kernel_rfl
theorem aw_told : [awA, awB].map told = [([97], [120], []), ([98], [50], [([112], some [32])])] := by kernel_rfl
theorem aw_len (ms3 : List Mem) (h : [awB, awA].Perm ms3) : (bagStr ms3).length = 13 := by
  rcases perm2 h with rfl | rfl <;> kernel_rfl
theorem aw_sorted (ms2 : List Mem) (h : [awB, awA].Perm ms2) (hs : ms2.Pairwise (fun a b => Op.bytesLess b.key a.key = false)) : ms2 = [awA, awB] := by
  rcases perm2 h with rfl | rfl
  · rw [List.pairwise_cons] at hs
    have := hs.1 awA (by simp)
    exact absurd this (by decide +kernel)
  · rfl

/-- The two members as the law writes them. -/
theorem aw_lit (w : World) : MRs true true 23 28 ((w.alloc (.cells #[.string ⟨#[112]⟩, .bool true, .string ⟨#[32]⟩] 23)).alloc (.cells #[.string ⟨#[97]⟩, .string ⟨#[120]⟩, .slice none 0 0, .string ⟨#[98]⟩, .string ⟨#[50]⟩, .slice (some ⟨w.heap.size, 0, none⟩) 1 1] 28)) (.slice (some ⟨w.heap.size + 1, 0, none⟩) 2 2) [([97], [120], []), ([98], [50], [([112], some [32])])] := by
  obtain ⟨w1, hw1⟩ : ∃ w1, w.alloc (.cells #[.string ⟨#[112]⟩, .bool true, .string ⟨#[32]⟩] 23) = w1 := ⟨_, rfl⟩
  have hz : w1.heap.size = w.heap.size + 1 := by rw [← hw1]; simp
  have h1 : w1.heap[w.heap.size]? = some (.cells #[.string ⟨#[112]⟩, .bool true, .string ⟨#[32]⟩] 23 (0, 0)) := by rw [← hw1]; exact heap_alloc_new _ _
  rw [hw1, ← hz]
  have h2 := heap_alloc_new w1 (.cells #[.string ⟨#[97]⟩, .string ⟨#[120]⟩, .slice none 0 0, .string ⟨#[98]⟩, .string ⟨#[50]⟩, .slice (some ⟨w.heap.size, 0, none⟩) 1 1] 28)
  have h3 := row_alloc h1 (.cells #[.string ⟨#[97]⟩, .string ⟨#[120]⟩, .slice none 0 0, .string ⟨#[98]⟩, .string ⟨#[50]⟩, .slice (some ⟨w.heap.size, 0, none⟩) 1 1] 28)
  refine ⟨[[.string ⟨#[97]⟩, .string ⟨#[120]⟩, .slice none 0 0], [.string ⟨#[98]⟩, .string ⟨#[50]⟩, .slice (some ⟨w.heap.size, 0, none⟩) 1 1]], ⟨_, 2, rfl, by simp, by omega, rfl, .inr ⟨w1.heap.size, 0, rfl, fun j u hj => ?_, fun _ => ⟨_, _, h2⟩⟩⟩, ⟨_, _, _, rfl, rfl, rfl, Rd.nil _ _ _ _⟩, ⟨_, _, _, rfl, rfl, rfl, ⟨_, 1, rfl, by simp, by omega, rfl, .inr ⟨w.heap.size, 0, rfl, fun j u hj => ?_, fun _ => ⟨_, _, h3⟩⟩⟩⟩, trivial⟩
  · rw [cell_of_row _ _ _ _ _ _ h2, Nat.zero_add]
    simpa using hj
  · rw [cell_of_row _ _ _ _ _ _ h3, Nat.zero_add]
    simpa [ipcells, S] using hj

set_option maxHeartbeats 2000000 in
set_option maxRecDepth 100000 in
theorem awake_any (w : World) (hw : Laid w) : Calls Tryz.prog 11 #[] w (BoolPost true w) := by
  have hp1 := ParseBaggage_any ⟨#[98, 61, 50, 59, 112, 61, 37, 50, 48, 44, 97, 61, 120]⟩ w hw (by decide)
  rw [show parseB (bs ⟨#[98, 61, 50, 59, 112, 61, 37, 50, 48, 44, 97, 61, 120]⟩) = ([awB, awA], false) from aw_parse] at hp1
  have hp2 := fun W (hW : Below w.heap.size w W) => ParseBaggage_any ⟨#[97]⟩ W (hw.below hW) (by decide)
  rw [show parseB (bs ⟨#[97]⟩) = ([], true) from aw_parse2] at hp2
  go_enter Tryz.func11, Tryz.ntmps11
  go_wp2_with (go_at_fn 23; fail)
  refine hp1.mono ?_
  intro e w1 hpost
  obtain ⟨v, ms2, css, ms3, rfl, hpm, hso, hpm3, hrd, him, hb1⟩ := hpost
  obtain rfl := aw_sorted ms2 hpm hso
  have hlen := aw_len ms3 hpm3
  have hmr := tell_mrs hrd him
  rw [aw_told] at hmr
  obtain ⟨t, ht, htl⟩ : ∃ t : ByteArray, S (bagStr ms3) = .string t ∧ t.size = 13 := ⟨⟨(bagStr ms3).toArray⟩, rfl, by rw [← bs_length]; exact hlen⟩
  rw [ht]
  clear hlen ht hpm hso hpm3 hrd him hp1
  simp only [List.length_cons, List.length_nil]
  have hp2' := hp2 w1 hb1
  clear hp2
  go_wp2_with (go_at_fn 23; fail)
  refine hp2'.mono ?_
  intro e w2 hpost
  obtain ⟨v2, ms22, css2, ms32, rfl, _, _, _, _, _, hb2⟩ := hpost
  obtain ⟨t2, ht2⟩ : ∃ t : ByteArray, S (bagStr ms32) = .string t := ⟨_, rfl⟩
  rw [ht2]
  clear ht2 hp2'
  have hb12 := below_then hb1 hb1.size hb2
  have hmr2 := hmr.below hb2
  have hof := ofMembers_any v [([97], [120], []), ([98], [50], [([112], some [32])])] w2 hmr2 (by simp) (by simp)
  obtain ⟨A, c, rfl, _, _⟩ := hmr2.shape
  clear hmr hmr2
  go_wp2_with (go_at_fn 26; fail)
  refine hof.mono ?_
  intro e w3 hpost
  obtain ⟨v3, rfl, hmr3, hb3⟩ := hpost
  have hb13 := below_then hb12 hb12.size hb3
  obtain ⟨A3, c3, rfl, _, _⟩ := hmr3.shape
  have hA : Below w3.heap.size w3 ((w3.alloc (.cells #[.string ⟨#[112]⟩, .bool true, .string ⟨#[32]⟩] 23)).alloc (.cells #[.string ⟨#[97]⟩, .string ⟨#[120]⟩, .slice none 0 0, .string ⟨#[98]⟩, .string ⟨#[50]⟩, .slice (some ⟨w3.heap.size, 0, none⟩) 1 1] 28)) := ((Below.refl _ _).alloc (Nat.le_refl _) _).alloc (by simp) _
  have hsm := same_any _ _ _ _ _ (hmr3.below hA) (aw_lit w3) (by simp) (by simp) (by simp) (by simp)
  rw [decide_eq_true rfl] at hsm
  clear hof hmr3
  go_wp2_with (go_at_fn 27; fail)
  refine hsm.mono ?_
  rintro e w4 ⟨rfl, hb4⟩
  have hb14 := below_then hb13 hb13.size (below_then hA hA.size hb4)
  go_wp2_with fail
  go_ret
  exact ⟨rfl, hb14⟩
end Go.Proofs.YtleofgndghjflaaGreatDoor
