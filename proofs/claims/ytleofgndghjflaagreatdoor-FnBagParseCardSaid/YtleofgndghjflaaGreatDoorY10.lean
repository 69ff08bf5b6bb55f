/- Contracts of the functions of this claim, proved once, joined out of smaller texts: R8 R9 RA RB RC RD. -/
import Derived.Test.YtleofgndghjflaaGreatDoorY9
import Derived.Lib.Overlaps
import Derived.Shelf.Spec.SlicesInsert
set_option linter.unusedVariables false
set_option linter.unusedSimpArgs false
namespace Go.Proofs.YtleofgndghjflaaGreatDoor
open Go Go.RowKit

theorem own_emptyN (w : World) (B : Nat) (e : TypeId) (size : Nat) (hB : B ≤ w.heap.size) : (w.alloc (.cells #[] e)).ownsRow B e size (.slice (some ⟨w.heap.size, 0, none⟩) 0 0) 0 [] :=
  ⟨by simp, .inr ⟨w.heap.size, 0, #[], rfl, hB, heap_alloc_new _ _, Nat.le_refl _, by simp [maxLen], by simp, by simp⟩⟩
/-- Members in a row of one's own. -/
def OwnMs (B : Nat) (ty : Bool) (w : World) (v : Value) (xs : List SM) : Prop := ∃ css : List (List Value), w.ownsRow B 28 3 v xs.length css.flatten ∧ All2 (MR ty 23 w) css xs
theorem OwnMs.mrs {B : Nat} {ty : Bool} {w : World} {v : Value} {xs : List SM} (h : OwnMs B ty w v xs) : MRs true ty 23 28 w v xs := by
  obtain ⟨css, h1, h2⟩ := h
  exact ⟨css, Rd.of_own h1, h2⟩
theorem MR.ones {ty : Bool} {T : TypeId} {w : World} {cs : List Value} {x : SM} (h : MR ty T w cs x) : ∀ u ∈ cs, u.oneCell' = true := by
  obtain ⟨kb, vb, pv, rfl, _, _, h4⟩ := h
  obtain ⟨A, c, rfl, _⟩ := h4.shape
  intro u hu
  simp at hu
  rcases hu with rfl | rfl | rfl <;> rfl
theorem ones_flat {ty : Bool} {T : TypeId} {w : World} {css : List (List Value)} {xs : List SM} (h : All2 (MR ty T w) css xs) : ∀ u ∈ css.flatten, u.oneCell' = true := by
  intro u hu
  obtain ⟨cs, hcs, hu⟩ := List.mem_flatten.1 hu
  obtain ⟨x, _, hx⟩ := h.mem cs hcs
  exact hx.ones u hu
theorem flat_len {ty : Bool} {T : TypeId} {w : World} : ∀ {css : List (List Value)} {xs : List SM}, All2 (MR ty T w) css xs → css.flatten.length = xs.length * 3
  | [], [], _ => rfl
  | cs :: css, x :: xs, h => by
    rw [List.flatten_cons, List.length_append, h.1.len, flat_len h.2, List.length_cons]
    omega
  | [], _ :: _, h => h.elim
  | _ :: _, [], h => h.elim

def ClonePost (ty : Bool) (xs : List SM) (w : World) (e : Ending) (w' : World) : Prop :=
  ∃ v css, e = .returned v ∧ w'.ownsRow w.heap.size 28 3 v xs.length css.flatten ∧ All2 (MR ty 23 w) css xs ∧ Below w.heap.size w w'
def CloneCss (css : List (List Value)) (n : Nat) (w : World) (e : Ending) (w' : World) : Prop := ∃ v, e = .returned v ∧ w'.ownsRow w.heap.size 28 3 v n css.flatten ∧ Below w.heap.size w w'
set_option maxHeartbeats 1000000 in
set_option maxRecDepth 100000 in
theorem clone_css {ty ty2 : Bool} (v : Value) (css : List (List Value)) (xs : List SM) (w : World) (hrd : Rd ty w 28 v xs.length 3 css.flatten) (hall : All2 (MR ty2 23 w) css xs) (hn : xs.length ≤ 10000) :
    Calls Tryz.prog 58 #[v] w (CloneCss css xs.length w) := by
  have h : MRs ty ty2 23 28 w v xs := ⟨css, hrd, hall⟩
  obtain ⟨A, c, rfl, hnc, hcm⟩ := h.shape
  have heq := fun W : World => Lib.run_eql_slice_nil (P := Tryz.prog) W 56 28 A xs.length c 0 0 Tryz.underlying56
  cases A with
  | none =>
    have hx : xs = [] := by
      obtain ⟨css, ⟨A, c', he, _, _, _, h5⟩, _⟩ := h
      injection he with he1 he2 he3
      rcases h5 with h5 | ⟨b, o, hA, _⟩
      · exact List.eq_nil_of_length_eq_zero h5
      · rw [← he1] at hA; cases hA
    subst hx
    have hcs0 : css = [] := List.eq_nil_of_length_eq_zero hall.length
    subst hcs0
    clear h hrd hall
    simp only [List.length_nil, Option.isNone_none] at heq ⊢
    go_enter Tryz.func58, Tryz.ntmps58
    go_wp2_with fail
    go_ret
    exact ⟨_, rfl, own_nil _ _ _ _, Below.refl _ _⟩
  | some a =>
    simp only [Option.isNone_some] at heq
    have hb1 : Below w.heap.size w (w.alloc (.cells #[] 28)) := (Below.refl _ _).alloc (Nat.le_refl _) _
    have ho1 := own_emptyN w w.heap.size 28 3 (Nat.le_refl _)
    have hnews : ∀ (j : Nat) u, css.flatten[j]? = some u → (w.alloc (.cells #[] 28)).cell? (a.add j) = some u := by
      intro j u hj
      have hlen := flat_len hall
      have hj2 := (List.getElem?_eq_some_iff.1 hj).1
      obtain ⟨b, o, c', he, _, _, hc⟩ := hrd.cells (by omega)
      injection he with he1
      injection he1 with he1
      rw [he1, addr_add]
      exact cell_below hb1 (hc j u hj)
    obtain ⟨i0, hi, hzz⟩ := Option.map_eq_some_iff.1 Tryz.info28
    simp only [Prod.mk.injEq] at hzz
    have hones := ones_flat hall
    have hfl := flat_len hall
    have C : Aside (All2 (MR ty2 23 w) css xs) := hall
    clear hrd hall h
    go_enter Tryz.func58, Tryz.ntmps58
    go_wp2_with (at_builtin; go_must (refine wpList_append_own_at (w.alloc (.cells #[] 28)) rfl (.tmp 5) (.tmp 6) 56 rfl w.heap.size 28 i0 _ 3 56 Tryz.underlying56 hi hzz.1 hzz.2.1 hzz.2.2 rfl (by decide) (.slice (some ⟨w.heap.size, 0, none⟩) 0 0) 0 [] rfl ho1 a xs.length c css.flatten rfl hfl hnews hones (by simp [maxLen]; omega) (by omega) (by simp) ?_); intro v1 w6 ho6 hg6 _ _)
    go_ret
    have hb6 : Below w.heap.size w w6 := hb1.grown hg6 hb1.size (by intro q hq; injection hq with hq; rw [← hq]; exact Nat.le_refl _)
    refine ⟨_, rfl, by simpa using ho6, hb6⟩
theorem clone_any {ty ty2 : Bool} (v : Value) (xs : List SM) (w : World) (h : MRs ty ty2 23 28 w v xs) (hn : xs.length ≤ 10000) :
    Calls Tryz.prog 58 #[v] w (ClonePost ty2 xs w) := by
  obtain ⟨css, h1, h2⟩ := h
  refine (clone_css v css xs w h1 h2 hn).mono ?_
  rintro e w' ⟨v, rfl, ho, hb⟩
  exact ⟨v, css, rfl, ho, h2, hb⟩
theorem u8_lt (a b : UInt8) : (a < b) ∨ (b < a) ∨ a = b := by
  rcases Nat.lt_trichotomy a.toNat b.toNat with h | h | h
  · exact .inl h
  · exact .inr (.inr (UInt8.toNat_inj.1 h))
  · exact .inr (.inl h)
theorem cmp_lt : ∀ (a b : List UInt8), Lib.compareBytes a b < 0 ↔ a < b
  | [], [] => by simp [Lib.compareBytes]
  | [], _ :: _ => by simp [Lib.compareBytes]
  | _ :: _, [] => by simp [Lib.compareBytes]
  | a :: l, b :: m => by
    rw [Lib.compareBytes, List.cons_lt_cons_iff]
    by_cases h1 : a < b
    · simp [h1]
    · by_cases h2 : b < a
      · have hne : ¬ a = b := fun e => by rw [e] at h2; exact absurd h2 (by simp)
        simp [h1, h2, hne]
      · have he : a = b := by
          rcases u8_lt a b with h | h | h
          · exact absurd h h1
          · exact absurd h h2
          · exact h
        simp [h1, h2, he, cmp_lt l m]
theorem cmp_eq0 : ∀ (a b : List UInt8), Lib.compareBytes a b = 0 ↔ a = b
  | [], [] => by simp [Lib.compareBytes]
  | [], _ :: _ => by simp [Lib.compareBytes]
  | _ :: _, [] => by simp [Lib.compareBytes]
  | a :: l, b :: m => by
    rw [Lib.compareBytes]
    by_cases h1 : a < b
    · have hne : ¬ a = b := fun e => by rw [e] at h1; exact absurd h1 (by simp)
      simp [h1, hne]
    · by_cases h2 : b < a
      · have hne : ¬ a = b := fun e => by rw [e] at h2; exact absurd h2 (by simp)
        simp [h1, h2, hne]
      · have he : a = b := by
          rcases u8_lt a b with h | h | h
          · exact absurd h h1
          · exact absurd h h2
          · exact h
        simp [h1, h2, he, cmp_eq0 l m]

set_option maxRecDepth 100000 in
theorem placeCmp_any (ka va kb : ByteArray) (A : Option Addr) (n c : Nat) (w : World) : Calls Tryz.prog 103 #[.agg #[.string ka, .string va, .slice A n c], .string kb] w fun e w' => e = .returned (.int .i64 (Lib.compareBytes (bs ka) (bs kb))) ∧ Below w.heap.size w w' := by
  have hb1 : Below w.heap.size w (w.alloc (.cells #[.string ka, .string va, .slice A n c] 28)) := (Below.refl _ _).alloc (Nat.le_refl _) _
  have hc := fun W => Tryz.strings_Compare ka kb W
  obtain ⟨z, hz⟩ : ∃ z, Lib.compareBytes (bs ka) (bs kb) = z := ⟨_, rfl⟩
  rw [hz]
  rw [show Lib.compareBytes ka.data.toList kb.data.toList = z from hz] at hc
  clear hz
  go_enter Tryz.func103, Tryz.ntmps103
  go_wp2_with (go_at_fn 104; fail)
  refine (hc _).mono ?_
  rintro e w2 ⟨rfl, rfl⟩
  go_wp2_with fail
  go_ret
  exact ⟨rfl, hb1⟩

def PlacePost (key : List UInt8) (xs : List SM) (w : World) (e : Ending) (w' : World) : Prop :=
  ∃ (p : Nat) (f : Bool), e = .returned (.tuple #[.int .i64 p, .bool f]) ∧ p ≤ xs.length ∧ (∀ (i : Nat) x, i < p → xs[i]? = some x → x.1 < key) ∧ (∀ (i : Nat) x, p ≤ i → xs[i]? = some x → ¬ x.1 < key) ∧ (f = true ↔ ∃ x, xs[p]? = some x ∧ x.1 = key) ∧ Below w.heap.size w w'

set_option maxHeartbeats 2000000 in
set_option maxRecDepth 100000 in
theorem bsearch_any {ty ty2 : Bool} (v : Value) (xs : List SM) (kb : ByteArray) (w : World) (h : MRs ty ty2 23 28 w v xs) (hn : xs.length ≤ 10000) (hs : xs.Pairwise fun a b => a.1 < b.1) :
    Calls Tryz.prog 102 #[v, .string kb, .func (.func 103) #[] #[]] w (PlacePost (bs kb) xs w) := by
  obtain ⟨A, c, rfl, hnc, hcm⟩ := h.shape
  have H : Aside (MRs ty ty2 23 28 w (.slice A xs.length c) xs ∧ xs.Pairwise fun a b => a.1 < b.1) := ⟨h, hs⟩
  clear h hs
  have hmono : Aside (∀ (i j : Nat) x y, i ≤ j → xs[i]? = some x → xs[j]? = some y → y.1 < bs kb → x.1 < bs kb) := by
    intro i j x y hij hx hy hlt
    rcases Nat.lt_or_ge i j with h | h
    · obtain ⟨hi, rfl⟩ := List.getElem?_eq_some_iff.1 hx
      obtain ⟨hj, rfl⟩ := List.getElem?_eq_some_iff.1 hy
      exact List.lt_trans (List.pairwise_iff_getElem.1 H.out.2 i j hi hj h) hlt
    · have : i = j := by omega
      subst this
      rw [hx] at hy
      injection hy with hy
      rw [hy]
      exact hlt
  go_enter Tryz.func102, Tryz.ntmps102
  go_wp2_with fail
  go_loopg [9, 10] (xs.length + 1) (fun gk iv jv W => Below w.heap.size w W ∧ ∃ (i j : Nat), iv = .int .i64 i ∧ jv = .int .i64 j ∧ i ≤ j ∧ j ≤ xs.length ∧ j - i < gk ∧ Aside ((∀ (t : Nat) x, t < i → xs[t]? = some x → x.1 < bs kb) ∧ (∀ (t : Nat) x, j ≤ t → xs[t]? = some x → ¬ x.1 < bs kb)))
  case atStart => exact ⟨Below.refl _ _, 0, xs.length, rfl, rfl, by omega, by omega, by omega, fun t x ht => by omega, fun t x ht hx => by rw [List.getElem?_eq_none ht] at hx; cases hx⟩
  case round =>
    obtain ⟨hb, i, j, rfl, rfl, hij, hj, hg, hI⟩ := hrel
    have hws := hb.size
    by_cases hlt : i < j
    · obtain ⟨m, hm⟩ : ∃ m, (i + j) / 2 = m := ⟨_, rfl⟩
      have he : ((i : Int) + (j : Int)) / 2 = (m : Int) := by omega
      have him : i ≤ m := by omega
      have hmj : m < j := by omega
      have hg2 : j - (m + 1) < gk - 1 ∧ m - i < gk - 1 := by omega
      have hml : m < xs.length := by omega
      obtain ⟨x, hx⟩ : ∃ x, xs[m] = x := ⟨_, rfl⟩
      obtain ⟨bk, o, ka, va, pA, pac, rfl, x0, x1, x2, hka, hva, hpa⟩ := (H.out.1.below hb).get m hml x hx
      have hxm : xs[m]? = some x := by rw [List.getElem?_eq_getElem hml, hx]
      have hcall := placeCmp_any ka va kb pA x.2.2.length pac wr
      obtain ⟨z, hz⟩ : ∃ z, Lib.compareBytes (bs ka) (bs kb) = z := ⟨_, rfl⟩
      rw [hz] at hcall
      have Z : Aside ((z < 0 ↔ x.1 < bs kb) ∧ xs[m]? = some x) := ⟨by rw [← hz, cmp_lt, hka], hxm⟩
      clear hm hz hx hxm hka hva hpa
      go_wp2_with (go_at_fn 103; fail)
      refine hcall.mono ?_
      rintro e w2 ⟨rfl, hb2⟩
      have hb12 := below_then hb hws hb2
      by_cases hzl : z < 0
      · go_wp2_with fail
        go_roundg (gk - 1)
        case rel =>
          refine ⟨hb12, m + 1, j, by go_num, rfl, by omega, hj, by omega, fun t y ht hy => ?_, hI.out.2⟩
          exact hmono.out t m y x (by omega) hy Z.out.2 (Z.out.1.1 hzl)
        case measure => omega
      · go_wp2_with fail
        go_roundg (gk - 1)
        case rel =>
          refine ⟨hb12, i, m, rfl, by go_num, by omega, by omega, by omega, hI.out.1, fun t y ht hy hyl => ?_⟩
          have := Z.out.1.2 (hmono.out m t x y ht Z.out.2 hy hyl)
          omega
        case measure => omega
    · obtain rfl : i = j := by omega
      by_cases hin : i < xs.length
      · obtain ⟨x, hx⟩ : ∃ x, xs[i] = x := ⟨_, rfl⟩
        obtain ⟨bk, o, ka, va, pA, pac, rfl, x0, x1, x2, hka, hva, hpa⟩ := (H.out.1.below hb).get i hin x hx
        have hxm : xs[i]? = some x := by rw [List.getElem?_eq_getElem hin, hx]
        have hcall := placeCmp_any ka va kb pA x.2.2.length pac wr
        obtain ⟨z, hz⟩ : ∃ z, Lib.compareBytes (bs ka) (bs kb) = z := ⟨_, rfl⟩
        rw [hz] at hcall
        have Z : Aside ((z = 0 ↔ x.1 = bs kb) ∧ xs[i]? = some x) := ⟨by rw [← hz, cmp_eq0, hka], hxm⟩
        clear hz hx hxm hka hva hpa
        go_wp2_with (go_at_fn 103; fail)
        refine hcall.mono ?_
        rintro e w2 ⟨rfl, hb2⟩
        have hb12 := below_then hb hws hb2
        go_wp2_with fail
        go_ret2
        refine ⟨i, z == 0, by rfl, hj, hI.out.1, hI.out.2, ?_, hb12⟩
        rw [beq_iff_eq, Z.out.1]
        constructor
        · intro h
          exact ⟨x, Z.out.2, h⟩
        · rintro ⟨y, hy, h⟩
          rw [Z.out.2] at hy
          injection hy with hy
          rw [hy]
          exact h
      · have hnl : ¬ (i : Int) < xs.length := by omega
        go_wp2_with fail
        go_ret2
        refine ⟨i, false, by rfl, hj, hI.out.1, hI.out.2, ?_, hb⟩
        constructor
        · intro h
          cases h
        · rintro ⟨y, hy, _⟩
          rw [List.getElem?_eq_none (by omega)] at hy
          cases hy

set_option maxRecDepth 100000 in
theorem place_any {ty ty2 : Bool} (v : Value) (xs : List SM) (kb : ByteArray) (w : World) (h : MRs ty ty2 23 28 w v xs) (hn : xs.length ≤ 10000) (hs : xs.Pairwise fun a b => a.1 < b.1) :
    Calls Tryz.prog 59 #[v, .string kb] w (PlacePost (bs kb) xs w) := by
  have hc := bsearch_any v xs kb w h hn hs
  have P : Aside (xs.Pairwise fun a b => a.1 < b.1) := hs
  clear hs h
  go_enter Tryz.func59, Tryz.ntmps59
  go_wp2_with (go_at_fn 102; fail)
  refine hc.mono ?_
  intro e w2 hpost
  obtain ⟨p, f, rfl, h1, h2, h3, h4, hb⟩ := hpost
  have Q : Aside ((∀ (i : Nat) x, i < p → xs[i]? = some x → x.1 < bs kb) ∧ (∀ (i : Nat) x, p ≤ i → xs[i]? = some x → ¬ x.1 < bs kb) ∧ (f = true ↔ ∃ x, xs[p]? = some x ∧ x.1 = bs kb)) := ⟨h2, h3, h4⟩
  clear h2 h3 h4
  go_wp2_with fail
  go_ret2
  exact ⟨p, f, rfl, h1, Q.out.1, Q.out.2.1, Q.out.2.2, hb⟩
end Go.Proofs.YtleofgndghjflaaGreatDoor

set_option linter.unusedVariables false
set_option linter.unusedSimpArgs false
namespace Go.Proofs.YtleofgndghjflaaGreatDoor
open Go Go.RowKit

theorem append_5655 (ty ty2 : TypeId) (w : World) (v : Value) (a : Addr) (m c : Nat) :
    (Builtin.append_ #[56, 55] ty #[v, .slice (some a) m c]).run Tryz.prog w = (Builtin.append_ #[56, 56] ty2 #[v, .slice (some a) m c]).run Tryz.prog w := by
  cases v <;> simp [Builtin.append_, run_underlying Tryz.underlying56, run_underlying Tryz.underlying55]

theorem append_ms (w : World) (B : Nat) (v : Value) (n : Nat) (cs : List Value) (h : w.ownsRow B 28 3 v n cs) (vb vc : Nat) (news : List Value) (hl : news.length = 3)
    (hnews : ∀ (j : Nat) u, news[j]? = some u → w.cell? ⟨vb, j, none⟩ = some u) (h1 : ∀ u ∈ news, u.oneCell' = true) (hn : n ≤ 20000) (hB : B ≤ w.heap.size) :
    ∃ v' w', (∀ ty, (Builtin.append_ #[56, 55] ty #[v, .slice (some ⟨vb, 0, none⟩) 1 vc]).run Tryz.prog w = .ok v' w') ∧ w'.ownsRow B 28 3 v' (n + 1) (cs ++ news) ∧ Below B w w' := by
  obtain ⟨i0, hi, hzz⟩ := Option.map_eq_some_iff.1 Tryz.info28
  simp only [Prod.mk.injEq] at hzz
  obtain ⟨v', w', hr, ho, hg, _, _⟩ := run_append_own_at (P := Tryz.prog) w B 56 56 28 i0 _ 3 56 Tryz.underlying56 hi hzz.1 hzz.2.1 hzz.2.2 rfl (by decide) v n cs h ⟨vb, 0, none⟩ 1 vc news (by omega)
    (fun j u hj => by rw [addr_add, Nat.zero_add]; exact hnews j u hj) h1 (by simp [maxLen]; omega) (by omega) hB
  exact ⟨v', w', fun ty => (append_5655 ty 56 w v _ _ _).trans hr, ho, (Below.refl _ _).grown hg hB fun k hk => (h.lt k hk).1⟩

theorem run_copyAt (w : World) (dT sT ty elem : TypeId) (g o dLen dCap sLen sCap k : Nat) (a : Addr) (cur : Array Value) (t : TypeId) (cs : List Value)
    (hu : Tryz.prog.underlying dT = some (.slice elem)) (hs : (Tryz.prog.info? elem).map (·.size) = some k)
    (hg : w.heap[g]? = some (.cells cur t (0, 0))) (hn : cs.length = Nat.min sLen dLen * k) (hfit : o + cs.length ≤ cur.size)
    (hsrc : ∀ (j : Nat) v, cs[j]? = some v → w.cell? (a.add j) = some v) (h1 : ∀ v ∈ cs, v.oneCell' = true) :
    (Builtin.copy_ #[dT, sT] ty #[.slice (some ⟨g, o, none⟩) dLen dCap, .slice (some a) sLen sCap]).run Tryz.prog w = .ok (goInt (Nat.min sLen dLen)) (w.setRow g (cur.toList.take o ++ cs ++ cur.toList.drop (o + cs.length)).toArray) := by
  have hl := run_loadCells_list (P := Tryz.prog) w a cs hsrc
  have hst := run_storeCells_at Tryz.prog g o t cs 0 cur w hg (by simpa using hfit) h1
  cases hq : Tryz.prog.info? elem with
  | none => simp [hq] at hs
  | some i =>
    have hi : i.size = k := by simpa [hq] using hs
    rw [hn] at hl
    simp [Builtin.copy_, run_underlying hu, Builtin.lenOf, Builtin.firstCells, sizeOf, typeInfo, hq, hi, hl, hst]

theorem run_append_zerosN (w : World) (t tn ty e : TypeId) (i : TypeInfo) (z : Value) (k kn : IntKind) (ht : Tryz.prog.underlying t = some (.slice e)) (htn : Tryz.prog.underlying tn = some (.int kn)) (hi : Tryz.prog.info? e = some i) (hz : i.zero = some z)
    (a : Addr) (p c n : Nat) (olds : List Value) (hol : olds.length = p * i.size) (hold : ∀ (j : Nat) u, olds[j]? = some u → w.cell? (a.add j) = some u) (h0 : 0 < n) (hs : 0 < i.size) (hroom : c < p + n) (h63 : p + n ≤ 1000000) (h48 : (p + n) * i.bytes ≤ 140737488355328) :
    (Builtin.append_ #[t, tn] ty #[.slice (some a) p c, .int k n]).run Tryz.prog w =
      .ok (.slice (some ⟨w.heap.size, 0, none⟩) (p + n) (grownCap w (p + n) c e)) (w.drew.alloc (.cells (olds.toArray ++ Builtin.zeroCells z.cells n ++ Builtin.zeroCells z.cells (grownCap w (p + n) c e - (p + n))) e)) := by
  have hn : n ≠ 0 := by omega
  have hw : IntKind.i64.wrap (n : Int) = n := by rw [IntKind.wrap_i64]; omega
  have hnr : ¬ (p + n ≤ c) := by omega
  have h63' : ¬ (9223372036854775807 < (p : Int) + (n : Int)) := by omega
  have hfit := growslice_fits hroom h48
  have h48' : ¬ (281474976710656 < Builtin.nextslicecap (p + n) c * i.bytes) := by omega
  have h48i : ¬ (281474976710656 < (n : Int) * (i.bytes : Int)) := by
    rw [← Int.natCast_mul]
    have : n * i.bytes ≤ (p + n) * i.bytes := Nat.mul_le_mul_right _ (by omega)
    omega
  have hneg : ¬ ((n : Int) < 0) := by omega
  have hns : ¬ (n * i.size = 0) := Nat.mul_ne_zero hn (by omega)
  have hl := run_loadCells_list (P := Tryz.prog) w.drew a olds hold
  rw [hol] at hl
  simp [Builtin.append_, run_underlying ht, run_underlying htn, sizeOf, typeInfo, zeroValue, hi, hz, asInt, asIntOf, hw, hn, hneg, hns, hnr, h63', h48', h48i, Question.forced, Builtin.firstCells, hl, newRow, grownCap]

theorem overlaps_ms (w : World) (a b : Addr) (la ca lb cb : Nat) (hne : a.block ≠ b.block) (tA tB : TypeId) (kA kB : Nat) (hsa : w.shape? a.block = some (tA, kA)) (hsb : w.shape? b.block = some (tB, kB)) (hkB : kB ≠ 0)
    (hfa : w.frozen? a = false) (hfe : w.frozen? { block := a.block, off := kA } = false) :
    (callFunc 105 #[.slice (some a) la ca, .slice (some b) lb cb]).run Tryz.prog w = .ok (.value (.bool false)) w := by
  obtain ⟨i0, hi, hzz⟩ := Option.map_eq_some_iff.1 Tryz.info28
  simp only [Prod.mk.injEq] at hzz
  rw [run_callFunc_extern Tryz.func105 (by kernel_rfl) (by kernel_rfl) (by kernel_rfl) (e := Extern.SlicesOverlaps.overlaps #[55, 55] #[4]) (by kernel_rfl),
    Lib.run_overlaps_apart w 55 4 28 Tryz.underlying55 3 (fun W => by simp [sizeOf, typeInfo, hi, hzz.2.1]) a b la ca lb cb hne tA tB kA kB hsa hsb hkB hfa hfe]
  rfl
end Go.Proofs.YtleofgndghjflaaGreatDoor

set_option linter.unusedVariables false
set_option linter.unusedSimpArgs false
namespace Go.Proofs.YtleofgndghjflaaGreatDoor
open Go Go.RowKit

def InsPost (B n : Nat) (xs : List Value) (w : World) (e : Ending) (w' : World) : Prop := ∃ v', e = .returned v' ∧ w'.ownsRow B 28 3 v' (n + 1) xs ∧ Below B w w'

set_option maxHeartbeats 1000000 in
set_option maxRecDepth 100000 in
theorem insert_end (w : World) (B : Nat) (v : Value) (n : Nat) (cs : List Value) (h : w.ownsRow B 28 3 v n cs) (vb : Nat) (news : List Value) (hl : news.length = 3)
    (hnews : ∀ (j : Nat) u, news[j]? = some u → w.cell? ⟨vb, j, none⟩ = some u) (h1 : ∀ u ∈ news, u.oneCell' = true) (hn : n ≤ 20000) (hB : B ≤ w.heap.size) :
    Calls Tryz.prog 60 #[v, .int .i64 n, .slice (some ⟨vb, 0, none⟩) 1 1] w (InsPost B n (cs ++ news) w) := by
  obtain ⟨v', w', hr, ho, hb⟩ := append_ms w B v n cs h vb 1 news hl hnews h1 hn hB
  have K : Aside (w'.ownsRow B 28 3 v' (n + 1) (cs ++ news) ∧ Below B w w') := ⟨ho, hb⟩
  rcases h.2 with ⟨rfl, rfl⟩ | ⟨g, c, cur, rfl, hbg, hg, hnc, hcm, hcs, htake⟩
  · clear h ho hb hnews
    go_enter Tryz.func60, Tryz.ntmps60
    go_wp2_with (at_builtin; refine Lib.wpList_append_run _ rfl _ _ _ _ rfl _ _ rfl rfl _ _ (hr _) ?_)
    go_ret
    exact ⟨_, rfl, K.out⟩
  · have hcm' : c ≤ 9223372036854775807 := by simp only [maxLen] at hcm; omega
    clear h ho hb hnews hg hcs htake hcm
    go_enter Tryz.func60, Tryz.ntmps60
    go_wp2_with (at_builtin; refine Lib.wpList_append_run _ rfl _ _ _ _ rfl _ _ rfl rfl _ _ (hr _) ?_)
    all_goals (go_ret; exact ⟨_, rfl, K.out⟩)

theorem ins_list (C cs news : List Value) (n i : Nat) (hi : i < n) (hC : C.take (n * 3) = cs) (hlen : (n + 1) * 3 ≤ C.length) (hl : news.length = 3) (C1 C2 : List Value)
    (h1 : C1 = C.take ((i + 1) * 3) ++ cs.drop (i * 3) ++ C.drop ((i + 1) * 3 + (cs.drop (i * 3)).length)) (h2 : C2 = C1.take (i * 3) ++ news ++ C1.drop (i * 3 + news.length)) :
    C2.take ((n + 1) * 3) = cs.take (i * 3) ++ news ++ cs.drop (i * 3) ∧ C2.length = C.length ∧ C1.length = C.length := by
  have hcl : cs.length = n * 3 := by rw [← hC, List.length_take]; omega
  have hdl : (cs.drop (i * 3)).length = (n - i) * 3 := by rw [List.length_drop, hcl]; omega
  have e1 : C1.take (i * 3) = cs.take (i * 3) := by
    rw [h1, List.append_assoc, List.take_append_of_le_length (by rw [List.length_take]; omega), List.take_take, ← hC, List.take_take]
    congr 1
    omega
  have e2 : C1.drop (i * 3 + news.length) = cs.drop (i * 3) ++ C.drop ((i + 1) * 3 + (cs.drop (i * 3)).length) := by
    rw [h1, List.append_assoc]
    refine List.drop_left' ?_
    rw [List.length_take]
    omega
  have l1 : C1.length = C.length := by
    rw [h1]
    simp only [List.length_append, List.length_take, List.length_drop, hcl]
    omega
  refine ⟨?_, ?_, l1⟩
  · rw [h2, e1, e2, ← List.append_assoc]
    refine List.take_left' ?_
    rw [List.length_append, List.length_append, List.length_take, hdl, hl]
    omega
  · rw [h2, List.length_append, List.length_append, List.length_take, List.length_drop, l1, hl]
    omega

set_option maxHeartbeats 1000000 in
set_option maxRecDepth 100000 in
theorem insert_room (w : World) (B : Nat) (g n c i : Nat) (cur : Array Value) (cs : List Value) (hi : i < n) (hnc : n + 1 ≤ c) (hcm : c ≤ maxLen) (hbg : B ≤ g) (hg : w.heap[g]? = some (.cells cur 28 (0, 0))) (hcs : cur.size = c * 3) (htake : cur.toList.take (n * 3) = cs)
    (hones : ∀ u ∈ cs, u.oneCell' = true) (vb : Nat) (news : List Value) (hl : news.length = 3) (hvb : w.heap[vb]? = some (.cells news.toArray 28 (0, 0))) (h1 : ∀ u ∈ news, u.oneCell' = true) (hne : vb ≠ g) (hn : n ≤ 20000) (hB : B ≤ w.heap.size) :
    Calls Tryz.prog 60 #[.slice (some ⟨g, 0, none⟩) n c, .int .i64 i, .slice (some ⟨vb, 0, none⟩) 1 1] w (InsPost B n (cs.take (i * 3) ++ news ++ cs.drop (i * 3)) w) := by
  have hc : c ≤ 9223372036854775807 := by simp only [maxLen] at hcm; omega
  have hz2 : ¬ ((i : Int) = (n : Int)) := by omega
  have hw1 : IntKind.i64.wrap ((n : Int) + 1) = (n : Int) + 1 := by rw [IntKind.wrap_i64]; omega
  have hw2 : IntKind.i64.wrap ((i : Int) + 1) = (i : Int) + 1 := by rw [IntKind.wrap_i64]; omega
  have hnr : ¬ ((c : Int) < (n : Int) + 1) := by omega
  have htn : ((i : Int) + 1).toNat = i + 1 := by omega
  have hb1 : (0 : Int) ≤ (i : Int) + 1 := by omega
  have hin : i ≤ n := by omega
  have hb3 : (i : Int) ≤ (n : Int) + 1 := by omega
  have mixed : Tryz.prog.follows Departure.mixedOrders = true := by kernel_rfl
  have hov : ∀ o lb cb, (callFunc 105 #[.slice (some ⟨vb, 0, none⟩) 1 1, .slice (some ⟨g, o, none⟩) lb cb]).run Tryz.prog w = .ok (.value (.bool false)) w := fun o lb cb =>
    overlaps_ms w ⟨vb, 0, none⟩ ⟨g, o, none⟩ 1 1 lb cb hne 28 28 3 (c * 3) (by simp [World.shape?, hvb, hl]) (by simp [World.shape?, hg, hcs]) (by omega) (by simp [World.frozen?, hvb]) (by simp [World.frozen?, hvb])
  have hb2 : ¬ (c = i + 1) := by omega
  have hb4 : ¬ (c = i) := by omega
  have hcl : cs.length = n * 3 := by rw [← htake, List.length_take, Array.length_toList]; omega
  have hdl : (cs.drop (i * 3)).length = (n - i) * 3 := by rw [List.length_drop, hcl]; omega
  have hin1 : Nat.min (n + 1 - i) (n - i) = n - i := by simp only [Nat.min_def]; split <;> omega
  obtain ⟨C1, hC1⟩ : ∃ C1, C1 = cur.toList.take ((i + 1) * 3) ++ cs.drop (i * 3) ++ cur.toList.drop ((i + 1) * 3 + (cs.drop (i * 3)).length) := ⟨_, rfl⟩
  obtain ⟨C2, hC2⟩ : ∃ C2, C2 = C1.take (i * 3) ++ news ++ C1.drop (i * 3 + news.length) := ⟨_, rfl⟩
  obtain ⟨k1, k2, k3⟩ := ins_list cur.toList cs news n i hi htake (by rw [Array.length_toList]; omega) hl C1 C2 hC1 hC2
  have l0 : cur.toList.length = c * 3 := by rw [Array.length_toList, hcs]
  rw [l0] at k2 k3
  have hcp1 : ∀ ty dc sc, (Builtin.copy_ #[56, 56] ty #[.slice (some ⟨g, (i + 1) * 3, none⟩) (n - i) dc, .slice (some ⟨g, i * 3, none⟩) (n + 1 - i) sc]).run Tryz.prog w.drew = .ok (goInt ((n - i : Nat) : Int)) (w.drew.setRow g C1.toArray) := fun ty dc sc => by
    have := run_copyAt w.drew 56 56 ty 28 g ((i + 1) * 3) (n - i) dc (n + 1 - i) sc 3 ⟨g, i * 3, none⟩ cur 28 (cs.drop (i * 3)) Tryz.underlying56 (by kernel_rfl) hg (by rw [hdl, hin1]) (by rw [hdl, hcs]; omega)
      (fun j v hj => by
        rw [addr_add, ← htake] at *
        rw [List.drop_take] at hj
        have hj1 := (List.getElem?_eq_some_iff.1 hj).1
        rw [List.getElem?_take] at hj
        split at hj
        · rw [List.getElem?_drop] at hj
          show (w.drew).cell? _ = _
          rw [show (w.drew).cell? ⟨g, i * 3 + j, none⟩ = w.cell? ⟨g, i * 3 + j, none⟩ from rfl, cell_of_row _ _ _ _ _ _ hg]
          simpa using hj
        · cases hj) (fun v hv => hones v (List.mem_of_mem_drop hv))
    rw [hin1, ← hC1] at this
    exact this
  have hg1 := setRow_heap w.drew g cur C1.toArray 28 _ hg
  have hv1 : (w.drew.setRow g C1.toArray).heap[vb]? = some (.cells news.toArray 28 (0, 0)) := by
    rw [setRow_other _ _ _ _ hne]
    exact hvb
  have hb1' : Below B w (w.drew.setRow g C1.toArray) := below_setRow (Below.refl _ _).drew hbg _
  obtain ⟨W1, hW1⟩ : ∃ W1, w.drew.setRow g C1.toArray = W1 := ⟨_, rfl⟩
  rw [hW1] at hcp1 hg1 hv1 hb1'
  have hin2 : Nat.min 1 (n + 1 - i) = 1 := by simp only [Nat.min_def]; split <;> omega
  have hcp2 : ∀ ty dc sc, (Builtin.copy_ #[56, 55] ty #[.slice (some ⟨g, i * 3, none⟩) (n + 1 - i) dc, .slice (some ⟨vb, 0, none⟩) 1 sc]).run Tryz.prog W1 = .ok (goInt 1) (W1.setRow g C2.toArray) := fun ty dc sc => by
    have := run_copyAt W1 56 55 ty 28 g (i * 3) (n + 1 - i) dc 1 sc 3 ⟨vb, 0, none⟩ C1.toArray 28 news Tryz.underlying56 (by kernel_rfl) hg1 (by rw [hl, hin2]) (by rw [List.size_toArray, k3]; omega)
      (fun j v hj => by
        rw [addr_add, cell_of_row _ _ _ _ _ _ hv1, Nat.zero_add]
        simpa using hj) h1
    rw [hin2, ← hC2] at this
    exact this
  have hg2 := setRow_heap W1 g C1.toArray C2.toArray 28 _ hg1
  have hb2' : Below B w (W1.setRow g C2.toArray) := below_setRow hb1' hbg _
  have K : Aside ((W1.setRow g C2.toArray).ownsRow B 28 3 (.slice (some ⟨g, 0, none⟩) (n + 1) c) (n + 1) (cs.take (i * 3) ++ news ++ cs.drop (i * 3)) ∧ Below B w (W1.setRow g C2.toArray)) :=
    ⟨⟨by rw [← k1, List.length_take, k2]; omega, .inr ⟨g, c, _, rfl, hbg, hg2, hnc, hcm, by rw [List.size_toArray, k2], k1⟩⟩, hb2'⟩
  clear l0 hg1 hv1 hb1' hg2 hb2' hg hvb hcl hdl k1 k2 k3 hC1 hC2 htake hones hW1 hcs
  go_enter Tryz.func60, Tryz.ntmps60
  go_wp2_with (simp only [hov])
  go_region_law_o (refine Go.Proofs.step_copy_runI rfl _ _ 56 56 rfl _ _ (by simp [Act.eval, Act.put]) (by simp [Act.eval, Act.put]) (hcp1 _ _ _) ?_)
  go_wp2_with (at_builtin; refine Go.Proofs.wpList_copy_runI _ rfl _ _ 56 55 rfl _ _ rfl rfl (hcp2 _ _ _) ?_)
  go_ret
  exact ⟨_, rfl, K.out⟩

theorem ins_list2 (C cs news : List Value) (n i : Nat) (hi : i < n) (hC : C.take (i * 3) = cs.take (i * 3)) (hcl : cs.length = n * 3) (hlen : (n + 1) * 3 ≤ C.length) (hl : news.length = 3) (C1 C2 : List Value)
    (h1 : C1 = C.take (i * 3) ++ news ++ C.drop (i * 3 + news.length)) (h2 : C2 = C1.take ((i + 1) * 3) ++ cs.drop (i * 3) ++ C1.drop ((i + 1) * 3 + (cs.drop (i * 3)).length)) :
    C2.take ((n + 1) * 3) = cs.take (i * 3) ++ news ++ cs.drop (i * 3) ∧ C2.length = C.length ∧ C1.length = C.length := by
  have hdl : (cs.drop (i * 3)).length = (n - i) * 3 := by rw [List.length_drop, hcl]; omega
  have e1 : C1.take ((i + 1) * 3) = cs.take (i * 3) ++ news := by
    rw [h1, hC]
    refine List.take_left' ?_
    rw [List.length_append, List.length_take, hcl, hl]
    omega
  have l1 : C1.length = C.length := by
    rw [h1]
    simp only [List.length_append, List.length_take, List.length_drop, hl]
    omega
  refine ⟨?_, ?_, l1⟩
  · rw [h2, e1]
    refine List.take_left' ?_
    rw [List.length_append, List.length_append, List.length_take, hdl, hl]
    omega
  · rw [h2]
    simp only [List.length_append, List.length_take, List.length_drop, hcl, l1]
    omega

set_option maxHeartbeats 1000000 in
set_option maxRecDepth 100000 in
theorem insert_grow (w : World) (B : Nat) (g n c i : Nat) (cur : Array Value) (cs : List Value) (hi : i < n) (hnc : n ≤ c) (hnr0 : c < n + 1) (hg : w.heap[g]? = some (.cells cur 28 (0, 0))) (hcs : cur.size = c * 3) (htake : cur.toList.take (n * 3) = cs)
    (hones : ∀ u ∈ cs, u.oneCell' = true) (vb : Nat) (news : List Value) (hl : news.length = 3) (hvb : w.heap[vb]? = some (.cells news.toArray 28 (0, 0))) (h1 : ∀ u ∈ news, u.oneCell' = true) (hn : n ≤ 20000) (hB : B ≤ w.heap.size) :
    Calls Tryz.prog 60 #[.slice (some ⟨g, 0, none⟩) n c, .int .i64 i, .slice (some ⟨vb, 0, none⟩) 1 1] w (InsPost B n (cs.take (i * 3) ++ news ++ cs.drop (i * 3)) w) := by
  have hc : c ≤ 9223372036854775807 := by omega
  have hz2 : ¬ ((i : Int) = (n : Int)) := by omega
  have hw1 : IntKind.i64.wrap ((n : Int) + 1) = (n : Int) + 1 := by rw [IntKind.wrap_i64]; omega
  have hw2 : IntKind.i64.wrap ((i : Int) + 1) = (i : Int) + 1 := by rw [IntKind.wrap_i64]; omega
  have hw3 : IntKind.i64.wrap ((n : Int) + 1 - (i : Int)) = (n : Int) + 1 - (i : Int) := by rw [IntKind.wrap_i64]; omega
  have hnr : (c : Int) < (n : Int) + 1 := by omega
  have htn : ((i : Int) + 1).toNat = i + 1 := by omega
  have hb1 : (0 : Int) ≤ (i : Int) + 1 := by omega
  have hin : i ≤ n := by omega
  have hic : i ≤ c := by omega
  have hb3 : (i : Int) ≤ (n : Int) + 1 := by omega
  have mixed : Tryz.prog.follows Departure.mixedOrders = true := by kernel_rfl
  have hb4 : ¬ (c = i) := by omega
  have hcl : cs.length = n * 3 := by rw [← htake, List.length_take, Array.length_toList, hcs]; omega
  have hdl : (cs.drop (i * 3)).length = (n - i) * 3 := by rw [List.length_drop, hcl]; omega
  have htl : (cs.take (i * 3)).length = i * 3 := by rw [List.length_take, hcl]; omega
  have hcell : ∀ (j : Nat) u, cs[j]? = some u → w.cell? ⟨g, j, none⟩ = some u := by
    intro j u hj
    rw [← htake, List.getElem?_take] at hj
    split at hj
    · rw [cell_of_row _ _ _ _ _ _ hg]
      simpa using hj
    · cases hj
  obtain ⟨i0, hii, hzz⟩ := Option.map_eq_some_iff.1 Tryz.info28
  simp only [Prod.mk.injEq] at hzz
  have hr : ∀ ty, (Builtin.append_ #[56, 3] ty #[.slice (some ⟨g, 0, none⟩) i c, .int .i64 ((n : Int) + 1 - (i : Int))]).run Tryz.prog w =
      .ok (.slice (some ⟨w.heap.size, 0, none⟩) (n + 1) (grownCap w (n + 1) c 28)) (w.drew.alloc (.cells ((cs.take (i * 3)).toArray ++ Builtin.zeroCells (Value.agg #[.string ⟨#[]⟩, .string ⟨#[]⟩, .slice none 0 0]).cells (n + 1 - i) ++ Builtin.zeroCells (Value.agg #[.string ⟨#[]⟩, .string ⟨#[]⟩, .slice none 0 0]).cells (grownCap w (n + 1) c 28 - (n + 1))) 28)) := fun ty => by
    have := run_append_zerosN w 56 3 ty 28 i0 _ .i64 .i64 Tryz.underlying56 Tryz.underlying3 hii hzz.1 ⟨g, 0, none⟩ i c (n + 1 - i) (cs.take (i * 3)) (by rw [htl, hzz.2.1])
      (fun j u hj => by
        rw [addr_add, Nat.zero_add]
        rw [List.getElem?_take] at hj
        split at hj
        · exact hcell j u hj
        · cases hj) (by omega) (by rw [hzz.2.1]; omega) (by omega) (by omega) (by rw [hzz.2.2]; omega)
    rw [show i + (n + 1 - i) = n + 1 by omega, show ((n + 1 - i : Nat) : Int) = (n : Int) + 1 - (i : Int) by omega] at this
    exact this
  have hge := grownCap_ge w (n + 1) c 28
  have hcm := grownCap_le_maxLen w (n + 1) c 28 (by simp [maxLen]; omega)
  obtain ⟨c2, hc2⟩ : ∃ c2, grownCap w (n + 1) c 28 = c2 := ⟨_, rfl⟩
  rw [hc2] at hr hge hcm
  clear hc2
  have hc63 : c2 ≤ 9223372036854775807 := by simp only [maxLen] at hcm; omega
  have hb5 : ¬ (c2 = i + 1) := by omega
  have hb6 : ¬ (c2 = i) := by omega
  obtain ⟨C0, hC0⟩ : ∃ C0, C0 = (cs.take (i * 3)).toArray ++ Builtin.zeroCells (Value.agg #[.string ⟨#[]⟩, .string ⟨#[]⟩, .slice none 0 0]).cells (n + 1 - i) ++ Builtin.zeroCells (Value.agg #[.string ⟨#[]⟩, .string ⟨#[]⟩, .slice none 0 0]).cells (c2 - (n + 1)) := ⟨_, rfl⟩
  have s0 : C0.size = c2 * 3 := by
    rw [hC0]
    simp only [Array.size_append, List.size_toArray, size_zeroCells, htl]
    rw [show (Value.agg #[.string ⟨#[]⟩, .string ⟨#[]⟩, .slice none 0 0]).cells.size = 3 from rfl]
    omega
  have t0 : C0.toList.take (i * 3) = cs.take (i * 3) := by
    rw [hC0]
    simp only [Array.toList_append, List.append_assoc]
    exact List.take_left' htl
  rw [← hC0] at hr
  clear hC0
  have hne : vb ≠ w.heap.size := fun e => by rw [e] at hvb; simp at hvb
  have hne2 : g ≠ w.heap.size := fun e => by rw [e] at hg; simp at hg
  have hb0 : Below B w (w.drew.alloc (.cells C0 28)) := (Below.refl _ _).drew.alloc hB _
  have hG : (w.drew.alloc (.cells C0 28)).heap[w.heap.size]? = some (.cells C0 28 (0, 0)) := heap_alloc_new w.drew _
  have hv0 : (w.drew.alloc (.cells C0 28)).heap[vb]? = some (.cells news.toArray 28 (0, 0)) := (heap_alloc_old w.drew _ (by have := (Array.getElem?_eq_some_iff.1 hvb).1; exact this)).trans hvb
  have hg0 : (w.drew.alloc (.cells C0 28)).heap[g]? = some (.cells cur 28 (0, 0)) := (heap_alloc_old w.drew _ (by have := (Array.getElem?_eq_some_iff.1 hg).1; exact this)).trans hg
  obtain ⟨W0, hW0⟩ : ∃ W0, w.drew.alloc (.cells C0 28) = W0 := ⟨_, rfl⟩
  rw [hW0] at hr hb0 hG hv0 hg0
  obtain ⟨G, hGG⟩ : ∃ G, w.heap.size = G := ⟨_, rfl⟩
  rw [hGG] at hr hG hne hne2 hB
  clear hW0 hGG
  obtain ⟨C1, hC1⟩ : ∃ C1, C1 = C0.toList.take (i * 3) ++ news ++ C0.toList.drop (i * 3 + news.length) := ⟨_, rfl⟩
  obtain ⟨C2, hC2⟩ : ∃ C2, C2 = C1.take ((i + 1) * 3) ++ cs.drop (i * 3) ++ C1.drop ((i + 1) * 3 + (cs.drop (i * 3)).length) := ⟨_, rfl⟩
  have l0 : C0.toList.length = c2 * 3 := by rw [Array.length_toList, s0]
  obtain ⟨k1, k2, k3⟩ := ins_list2 C0.toList cs news n i hi t0 hcl (by rw [l0]; omega) hl C1 C2 hC1 hC2
  rw [l0] at k2 k3
  have hin2 : Nat.min 1 (n + 1 - i) = 1 := by simp only [Nat.min_def]; split <;> omega
  have hcp1 : ∀ ty dc sc, (Builtin.copy_ #[56, 55] ty #[.slice (some ⟨G, i * 3, none⟩) (n + 1 - i) dc, .slice (some ⟨vb, 0, none⟩) 1 sc]).run Tryz.prog W0 = .ok (goInt 1) (W0.setRow G C1.toArray) := fun ty dc sc => by
    have := run_copyAt W0 56 55 ty 28 G (i * 3) (n + 1 - i) dc 1 sc 3 ⟨vb, 0, none⟩ C0 28 news Tryz.underlying56 (by kernel_rfl) hG (by rw [hl, hin2]) (by rw [s0]; omega)
      (fun j v hj => by
        rw [addr_add, cell_of_row _ _ _ _ _ _ hv0, Nat.zero_add]
        simpa using hj) h1
    rw [hin2, ← hC1] at this
    exact this
  have hg1 := setRow_heap W0 G C0 C1.toArray 28 _ hG
  have hs1 : (W0.setRow G C1.toArray).heap[g]? = some (.cells cur 28 (0, 0)) := by
    rw [setRow_other _ _ _ _ hne2]
    exact hg0
  have hb1' : Below B w (W0.setRow G C1.toArray) := below_setRow hb0 hB _
  obtain ⟨W1, hW1⟩ : ∃ W1, W0.setRow G C1.toArray = W1 := ⟨_, rfl⟩
  rw [hW1] at hcp1 hg1 hs1 hb1'
  have hin1 : Nat.min (n - i) (n - i) = n - i := by simp only [Nat.min_def]; split <;> omega
  have hcp2 : ∀ ty dc sc, (Builtin.copy_ #[56, 56] ty #[.slice (some ⟨G, (i + 1) * 3, none⟩) (n - i) dc, .slice (some ⟨g, i * 3, none⟩) (n - i) sc]).run Tryz.prog W1.drew = .ok (goInt ((n - i : Nat) : Int)) (W1.drew.setRow G C2.toArray) := fun ty dc sc => by
    have := run_copyAt W1.drew 56 56 ty 28 G ((i + 1) * 3) (n - i) dc (n - i) sc 3 ⟨g, i * 3, none⟩ C1.toArray 28 (cs.drop (i * 3)) Tryz.underlying56 (by kernel_rfl) hg1 (by rw [hdl, hin1]) (by rw [hdl, List.size_toArray, k3]; omega)
      (fun j v hj => by
        rw [addr_add, ← htake] at *
        rw [List.drop_take] at hj
        rw [List.getElem?_take] at hj
        split at hj
        · rw [List.getElem?_drop] at hj
          rw [show (W1.drew).cell? ⟨g, i * 3 + j, none⟩ = W1.cell? ⟨g, i * 3 + j, none⟩ from rfl, cell_of_row _ _ _ _ _ _ hs1]
          simpa using hj
        · cases hj) (fun v hv => hones v (List.mem_of_mem_drop hv))
    rw [hin1, ← hC2] at this
    exact this
  have hg2 := setRow_heap W1.drew G C1.toArray C2.toArray 28 _ hg1
  have hb2' : Below B w (W1.drew.setRow G C2.toArray) := below_setRow hb1'.drew hB _
  have K : Aside ((W1.drew.setRow G C2.toArray).ownsRow B 28 3 (.slice (some ⟨G, 0, none⟩) (n + 1) c2) (n + 1) (cs.take (i * 3) ++ news ++ cs.drop (i * 3)) ∧ Below B w (W1.drew.setRow G C2.toArray)) :=
    ⟨⟨by rw [← k1, List.length_take, k2]; omega, .inr ⟨G, c2, _, rfl, hB, hg2, hge, hcm, by rw [List.size_toArray, k2], k1⟩⟩, hb2'⟩
  clear l0 hg1 hs1 hb1' hg2 hb2' hg hvb hcl hdl htl k1 k2 k3 hC1 hC2 htake hones hW1 hcs hcell s0 t0 hG hv0 hg0 hb0 hzz hii
  go_enter Tryz.func60, Tryz.ntmps60
  go_wp2_with (at_builtin; first | refine Lib.wpList_append_run _ rfl _ _ _ _ rfl _ _ rfl rfl _ _ (hr _) ?_ | refine Go.Proofs.wpList_copy_runI _ rfl _ _ 56 55 rfl _ _ rfl rfl (hcp1 _ _ _) ?_)
  go_region_law_o (refine Go.Proofs.step_copy_runI rfl _ _ 56 56 rfl _ _ (by simp [Act.eval, Act.put]) (by simp [Act.eval, Act.put]) (hcp2 _ _ _) ?_)
  go_wp2_with fail
  go_ret
  exact ⟨_, rfl, K.out⟩

theorem insert_any (w : World) (B : Nat) (v : Value) (n i : Nat) (cs : List Value) (h : w.ownsRow B 28 3 v n cs) (hones : ∀ u ∈ cs, u.oneCell' = true) (hi : i ≤ n) (vb : Nat) (news : List Value) (hl : news.length = 3)
    (hvb : w.heap[vb]? = some (.cells news.toArray 28 (0, 0))) (h1 : ∀ u ∈ news, u.oneCell' = true) (hne : v.ownBlock ≠ some vb) (hn : n ≤ 20000) (hB : B ≤ w.heap.size) :
    Calls Tryz.prog 60 #[v, .int .i64 i, .slice (some ⟨vb, 0, none⟩) 1 1] w (InsPost B n (cs.take (i * 3) ++ news ++ cs.drop (i * 3)) w) := by
  rcases Nat.lt_or_ge i n with hlt | hge
  · rcases h.2 with ⟨rfl, rfl⟩ | ⟨g, c, cur, rfl, hbg, hg, hnc, hcm, hcs, htake⟩
    · omega
    · rcases Nat.lt_or_ge c (n + 1) with hc | hc
      · exact insert_grow w B g n c i cur cs hlt hnc hc hg hcs htake hones vb news hl hvb h1 hn hB
      · exact insert_room w B g n c i cur cs hlt hc hcm hbg hg hcs htake hones vb news hl hvb h1 (fun e => hne (by rw [e]; rfl)) hn hB
  · obtain rfl : i = n := by omega
    have := insert_end w B v i cs h vb news hl (fun j u hj => by rw [cell_of_row _ _ _ _ _ _ hvb]; simpa using hj) h1 hn hB
    rw [List.take_of_length_le (by rw [h.1]; omega), List.drop_eq_nil_of_le (by rw [h.1]; omega), List.append_nil]
    exact this
end Go.Proofs.YtleofgndghjflaaGreatDoor

set_option linter.unusedVariables false
set_option linter.unusedSimpArgs false
namespace Go.Proofs.YtleofgndghjflaaGreatDoor
open Go Go.RowKit

/-- A member put into a sorted list of members. -/
def withMS (m : SM) : List SM → List SM
  | [] => [m]
  | x :: xs => if x.1 < m.1 then x :: withMS m xs else if x.1 = m.1 then m :: xs else m :: x :: xs
theorem withMS_place (m : SM) : ∀ (xs : List SM) (p : Nat) (f : Bool), p ≤ xs.length → (∀ (i : Nat) x, i < p → xs[i]? = some x → x.1 < m.1) → (∀ (i : Nat) x, p ≤ i → xs[i]? = some x → ¬ x.1 < m.1) → (f = true ↔ ∃ x, xs[p]? = some x ∧ x.1 = m.1) →
    withMS m xs = xs.take p ++ m :: xs.drop (if f then p + 1 else p)
  | [], p, f, hp, _, _, _ => by
    have : p = 0 := by simpa using hp
    subst this
    simp [withMS]
  | x :: xs, 0, f, _, _, h2, hf => by
    have hx := h2 0 x (Nat.le_refl _) rfl
    rw [withMS, if_neg hx]
    cases f with
    | true =>
      obtain ⟨y, hy, he⟩ := hf.1 rfl
      have : x = y := by simpa using hy
      subst this
      simp [he]
    | false =>
      have hne : ¬ x.1 = m.1 := fun e => by cases hf.2 ⟨x, rfl, e⟩
      simp [hne]
  | x :: xs, p + 1, f, hp, h1, h2, hf => by
    have hx := h1 0 x (by omega) rfl
    rw [withMS, if_pos hx, withMS_place m xs p f (by simpa using hp) (fun i y hi hy => h1 (i + 1) y (by omega) (by simpa using hy)) (fun i y hi hy => h2 (i + 1) y (by omega) (by simpa using hy)) (by simpa using hf)]
    cases f <;> simp
theorem All2.take {α β : Type} {R : α → β → Prop} : ∀ (p : Nat) {l : List α} {m : List β}, All2 R l m → All2 R (l.take p) (m.take p)
  | 0, _, _, _ => by simp [All2]
  | p + 1, [], [], h => h
  | p + 1, _ :: _, _ :: _, h => ⟨h.1, All2.take p h.2⟩
  | _ + 1, [], _ :: _, h => h.elim
  | _ + 1, _ :: _, [], h => h.elim
theorem All2.drop {α β : Type} {R : α → β → Prop} : ∀ (p : Nat) {l : List α} {m : List β}, All2 R l m → All2 R (l.drop p) (m.drop p)
  | 0, _, _, h => h
  | p + 1, [], [], h => h
  | p + 1, _ :: _, _ :: _, h => All2.drop p h.2
  | _ + 1, [], _ :: _, h => h.elim
  | _ + 1, _ :: _, [], h => h.elim
theorem flat_take : ∀ (p : Nat) (css : List (List Value)), (∀ c ∈ css, c.length = 3) → (css.take p).flatten = css.flatten.take (p * 3)
  | 0, css, _ => by simp
  | p + 1, [], _ => by simp
  | p + 1, c :: css, h => by
    have hc := h c (by simp)
    rw [List.take_succ_cons, List.flatten_cons, List.flatten_cons, flat_take p css (fun x hx => h x (by simp [hx])), show (p + 1) * 3 = c.length + p * 3 by omega, List.take_length_add_append]
theorem flat_drop : ∀ (p : Nat) (css : List (List Value)), (∀ c ∈ css, c.length = 3) → (css.drop p).flatten = css.flatten.drop (p * 3)
  | 0, css, _ => by simp
  | p + 1, [], _ => by simp
  | p + 1, c :: css, h => by
    have hc := h c (by simp)
    rw [List.drop_succ_cons, List.flatten_cons, flat_drop p css (fun x hx => h x (by simp [hx])), show (p + 1) * 3 = c.length + p * 3 by omega, List.drop_length_add_append]
theorem set3 (a b c : Value) : ∀ (k : Nat) (l : List Value), k + 3 ≤ l.length → ((l.set k a).set (k + 1) b).set (k + 2) c = l.take k ++ [a, b, c] ++ l.drop (k + 3)
  | 0, x :: y :: z :: l, _ => by simp
  | k + 1, x :: l, h => by
    have := set3 a b c k l (by simpa using h)
    simp only [List.set_cons_succ, List.take_succ_cons, List.cons_append, List.drop_succ_cons] at this ⊢
    rw [this]
  | 0, [], h => by simp at h
  | 0, [_], h => by simp at h
  | 0, [_, _], h => by simp at h
  | k + 1, [], h => by simp at h
/-- Three cells of a row of one's own, stored. -/
theorem own_set3 {w : World} {B g n c p : Nat} {cs : List Value} (h : w.ownsRow B 28 3 (.slice (some ⟨g, 0, none⟩) n c) n cs) (hp : p < n) (x y z : Value) :
    (((w.setCell ⟨g, p * 3, none⟩ x).setCell ⟨g, p * 3 + 1, none⟩ y).setCell ⟨g, p * 3 + 2, none⟩ z).ownsRow B 28 3 (.slice (some ⟨g, 0, none⟩) n c) n (cs.take (p * 3) ++ [x, y, z] ++ cs.drop (p * 3 + 3)) := by
  rcases h.2 with ⟨h0, _⟩ | ⟨g', c', cur, he, hbg, hg, hnc, hcm, hcs, htake⟩
  · cases h0
  injection he with he1 he2 he3
  injection he1 with he1
  injection he1 with he1
  subst he1 he3
  have hcl : cs.length = n * 3 := h.1
  have hg1 := row_set hg (p * 3) x
  have hg2 := row_set hg1 (p * 3 + 1) y
  have hg3 := row_set hg2 (p * 3 + 2) z
  have hl : cur.toList.length = c * 3 := by rw [Array.length_toList, hcs]
  refine ⟨?_, .inr ⟨g, c, _, rfl, hbg, hg3, hnc, hcm, by simp [hcs], ?_⟩⟩
  · simp only [List.length_append, List.length_take, List.length_drop, List.length_cons, List.length_nil, hcl]
    omega
  · simp only [Array.toList_setIfInBounds]
    have e1 : cur.toList.take (p * 3) = cs.take (p * 3) := by
      rw [← htake, List.take_take]
      congr 1
      omega
    have e2 : cur.toList.drop (p * 3 + 3) = cs.drop (p * 3 + 3) ++ cur.toList.drop (n * 3) := by
      conv => lhs; rw [← List.take_append_drop (n * 3) cur.toList, htake]
      exact List.drop_append_of_le_length (by omega)
    rw [set3 _ _ _ _ _ (by rw [hl]; omega), e1, e2, ← List.append_assoc]
    refine List.take_left' ?_
    simp only [List.length_append, List.length_take, List.length_drop, List.length_cons, List.length_nil, hcl]
    omega

theorem own_cells3 {w : World} {B g n c : Nat} {cs : List Value} (h : w.ownsRow B 28 3 (.slice (some ⟨g, 0, none⟩) n c) n cs) (k : Nat) (hk : k < n * 3) : (∃ u, w.cell? ⟨g, k, none⟩ = some u) ∧ w.frozen? ⟨g, k, none⟩ = false := by
  rcases h.2 with ⟨h0, _⟩ | ⟨g', c', cur, he, hbg, hg, hnc, hcm, hcs, htake⟩
  · cases h0
  injection he with he1 he2 he3
  injection he1 with he1
  injection he1 with he1
  subst he1
  refine ⟨⟨cur[k]'(by rw [hcs]; omega), ?_⟩, by simp [World.frozen?, hg]⟩
  rw [cell_of_row _ _ _ _ _ _ hg, Array.getElem?_eq_getElem]
theorem own_le {w : World} {B C : Nat} {e : TypeId} {size n : Nat} {v : Value} {xs : List Value} (h : w.ownsRow B e size v n xs) (hC : C ≤ B) : w.ownsRow C e size v n xs := by
  refine ⟨h.1, ?_⟩
  rcases h.2 with h0 | ⟨g', c', cur, he, hbg, hr⟩
  · exact .inl h0
  · exact .inr ⟨g', c', cur, he, Nat.le_trans hC hbg, hr⟩
set_option maxHeartbeats 2000000 in
set_option maxRecDepth 100000 in
theorem with_any {ty ty2 : Bool} (v : Value) (xs : List SM) (kb vb : ByteArray) (pA : Option Addr) (np pc : Nat) (m : SM) (w : World) (h : MRs ty ty2 23 28 w v xs) (hn : xs.length ≤ 10000) (hs : xs.Pairwise fun a b => a.1 < b.1)
    (hm : MR ty2 23 w [.string kb, .string vb, .slice pA np pc] m) :
    Calls Tryz.prog 24 #[v, .agg #[.string kb, .string vb, .slice pA np pc]] w (ClonePost ty2 (withMS m xs) w) := by
  have hbx : Below w.heap.size w (w.alloc (.cells #[.string kb, .string vb, .slice pA np pc] 28)) := (Below.refl _ _).alloc (Nat.le_refl _) _
  have hgx : (w.alloc (.cells #[.string kb, .string vb, .slice pA np pc] 28)).heap[w.heap.size]? = some (.cells #[.string kb, .string vb, .slice pA np pc] 28 (0, 0)) := heap_alloc_new _ _
  have hszx : w.heap.size < (w.alloc (.cells #[.string kb, .string vb, .slice pA np pc] 28)).heap.size := (Array.getElem?_eq_some_iff.1 hgx).1
  obtain ⟨A0, c0, rfl, hnc0, hcm0⟩ := h.shape
  obtain ⟨css, hrd, hall⟩ := h
  have hall1 : All2 (MR ty2 23 (w.alloc (.cells #[.string kb, .string vb, .slice pA np pc] 28))) css xs := hall.imp (fun _ _ h => MR.below h hbx)
  have hcl := clone_css _ css xs _ (hrd.below hbx) hall1 hn
  obtain ⟨w1, hw1⟩ : ∃ w1, w.alloc (.cells #[.string kb, .string vb, .slice pA np pc] 28) = w1 := ⟨_, rfl⟩
  rw [hw1] at hcl hbx hgx hszx hall1
  have H : Aside (All2 (MR ty2 23 w) css xs ∧ All2 (MR ty2 23 w1) css xs ∧ MR ty2 23 w [.string kb, .string vb, .slice pA np pc] m ∧ xs.Pairwise fun a b => a.1 < b.1) := ⟨hall, hall1, hm, hs⟩
  have hkb : bs kb = m.1 := by
    obtain ⟨_, _, _, he, hk, _⟩ := hm
    injection he with he1
    injection he1 with he1
    rw [he1]
    exact hk
  clear hrd hall hall1 hm hs
  go_enter Tryz.func24, Tryz.ntmps24
  go_wp2_with (go_at_fn 58; fail)
  refine hcl.mono ?_
  intro e w2 hpost
  obtain ⟨v2, rfl, hown, hb2⟩ := hpost
  obtain ⟨A2, c2, rfl⟩ := own_shape hown
  have hg2 : w2.heap[w.heap.size]? = some (.cells #[.string kb, .string vb, .slice pA np pc] 28 (0, 0)) := (hb2.block _ hszx).trans hgx
  have hpl := place_any (ty := true) (ty2 := ty2) _ xs kb w2 ⟨css, Rd.of_own hown, H.out.2.1.imp (fun _ _ h => MR.below h hb2)⟩ hn H.out.2.2.2
  have Q : Aside (Below w1.heap.size w1 w2 ∧ w2.ownsRow w1.heap.size 28 3 (.slice A2 xs.length c2) xs.length css.flatten) := ⟨hb2, hown⟩
  clear hb2 hown hcl
  obtain ⟨⟨x0, x1, x2⟩, y0, y1, y2⟩ := row3 hg2
  go_wp2_with (go_at_fn 59; fail)
  refine hpl.mono ?_
  intro e w3 hpost
  obtain ⟨p, f, rfl, hp, h1, h2, h3, hb3⟩ := hpost
  clear x0 x1 x2 y0 y1 y2 hpl
  have hg3 : w3.heap[w.heap.size]? = some (.cells #[.string kb, .string vb, .slice pA np pc] 28 (0, 0)) := (hb3.block _ (Array.getElem?_eq_some_iff.1 hg2).1).trans hg2
  have hown3 := own_below (C := 0) Q.out.2 hb3
  have hW := withMS_place m xs p f hp (by rw [hkb] at h1; exact h1) (by rw [hkb] at h2; exact h2) (by rw [hkb] at h3; exact h3)
  have hb13 : Below w1.heap.size w1 w3 := below_then Q.out.1 Q.out.1.size hb3
  have hb03 : Below w.heap.size w w3 := hbx.trans (hb13.mono (by omega))
  obtain ⟨⟨x0, x1, x2⟩, y0, y1, y2⟩ := row3 hg3
  have hc3 : ∀ c ∈ css, c.length = 3 := fun c hc => by obtain ⟨_, _, hc⟩ := H.out.1.mem c hc; exact hc.len
  have hcss := H.out.1.length
  have hft := flat_take p css hc3
  have hfl : css.flatten.length = xs.length * 3 := hown3.1
  have hws := hb13.size
  cases f with
  | true =>
    obtain ⟨xp, hxp, _⟩ := h3.1 rfl
    have hpn : p < xs.length := (List.getElem?_eq_some_iff.1 hxp).1
    have hfd := flat_drop (p + 1) css hc3
    obtain ⟨g, hA⟩ : ∃ g, A2 = some ⟨g, 0, none⟩ := by
      rcases hown3.2 with ⟨_, h0⟩ | ⟨g, c, cur, he, _⟩
      · omega
      · injection he with he1
        exact ⟨g, he1⟩
    subst hA
    obtain ⟨⟨u0, z0⟩, f0⟩ := own_cells3 hown3 (p * 3) (by omega)
    obtain ⟨⟨u1, z1⟩, f1⟩ := own_cells3 hown3 (p * 3 + 1) (by omega)
    obtain ⟨⟨u2, z2⟩, f2⟩ := own_cells3 hown3 (p * 3 + 2) (by omega)
    have hlt := (hown3.lt g rfl).1
    have hgw : w.heap.size ≤ g := by omega
    have HO : Aside (w3.ownsRow w1.heap.size 28 3 (.slice (some ⟨g, 0, none⟩) xs.length c2) xs.length css.flatten ∧ (∀ c ∈ css, c.length = 3) ∧ withMS m xs = xs.take p ++ m :: xs.drop (p + 1) ∧ (css.take p).flatten = css.flatten.take (p * 3) ∧ (css.drop (p + 1)).flatten = css.flatten.drop ((p + 1) * 3)) := ⟨hown3, hc3, hW, hft, hfd⟩
    clear hown3 h1 h2 h3 hxp hW hc3 hft hfd hfl
    go_wp2_with fail
    go_ret
    refine ⟨_, css.take p ++ [.string kb, .string vb, .slice pA np pc] :: css.drop (p + 1), rfl, ?_, ?_, ?_⟩
    · rw [HO.out.2.2.1]
      have := own_le (own_set3 HO.out.1 hpn (.string kb) (.string vb) (.slice pA np pc)) (Nat.le_of_lt hszx)
      rw [List.flatten_append, List.flatten_cons, HO.out.2.2.2.1, HO.out.2.2.2.2]
      rw [show (xs.take p ++ m :: xs.drop (p + 1)).length = xs.length by simp; omega, ← List.append_assoc]
      rw [show p * 3 + 3 = (p + 1) * 3 by omega] at this
      exact this
    · rw [HO.out.2.2.1]
      exact (H.out.1.take p).append ⟨H.out.2.2.1, H.out.1.drop (p + 1)⟩
    · exact ((hb03.setCell hgw _).setCell hgw _).setCell hgw _
  | false =>
    have hfd := flat_drop p css hc3
    have hones : ∀ u ∈ css.flatten, u.oneCell' = true := ones_flat H.out.1
    have h1c : ∀ u ∈ [Value.string kb, Value.string vb, Value.slice pA np pc], u.oneCell' = true := H.out.2.2.1.ones
    have hA3 : Below w3.heap.size w3 (w3.alloc (.cells #[.string kb, .string vb, .slice pA np pc] 28)) := (Below.refl _ _).alloc (Nat.le_refl _) _
    have hin := insert_any (w3.alloc (.cells #[.string kb, .string vb, .slice pA np pc] 28)) w1.heap.size _ xs.length p css.flatten (own_below (C := 0) hown3 hA3) hones hp w3.heap.size [.string kb, .string vb, .slice pA np pc] rfl (heap_alloc_new _ _) h1c
      (fun e => by have := (hown3.lt _ e).2; omega) (by omega) (by have := hA3.size; omega)
    have HO : Aside (withMS m xs = xs.take p ++ m :: xs.drop p ∧ (css.take p).flatten = css.flatten.take (p * 3) ∧ (css.drop p).flatten = css.flatten.drop (p * 3)) := ⟨hW, hft, hfd⟩
    clear hown3 h1 h2 h3 hW hc3 hft hfd hfl hones h1c
    go_wp2_with (go_at_fn 60; fail)
    refine hin.mono ?_
    intro e w4 hpost
    obtain ⟨v4, rfl, hown4, hb4⟩ := hpost
    have hb04 : Below w.heap.size w w4 := (hb03.trans (hA3.mono (by omega))).trans (hb4.mono (by omega))
    have HP : Aside (w4.ownsRow w1.heap.size 28 3 v4 (xs.length + 1) (css.flatten.take (p * 3) ++ [.string kb, .string vb, .slice pA np pc] ++ css.flatten.drop (p * 3))) := hown4
    clear hown4 hin
    go_wp2_with fail
    go_ret
    refine ⟨_, css.take p ++ [.string kb, .string vb, .slice pA np pc] :: css.drop p, rfl, ?_, ?_, hb04⟩
    · rw [HO.out.1, List.flatten_append, List.flatten_cons, HO.out.2.1, HO.out.2.2]
      rw [show (xs.take p ++ m :: xs.drop p).length = xs.length + 1 by simp; omega, ← List.append_assoc]
      exact own_le HP.out (Nat.le_of_lt hszx)
    · rw [HO.out.1]
      exact (H.out.1.take p).append ⟨H.out.2.2.1, H.out.1.drop p⟩
end Go.Proofs.YtleofgndghjflaaGreatDoor

set_option linter.unusedVariables false
set_option linter.unusedSimpArgs false
namespace Go.Proofs.YtleofgndghjflaaGreatDoor
open Go Go.RowKit

def lkey (i : Nat) : List UInt8 := [107, UInt8.ofNat (97 + i / 20), UInt8.ofNat (97 + i % 20)]
def lpart (i : Nat) : List UInt8 := lkey i ++ [61, 118]
def lparts (k : Nat) : List (List UInt8) := (List.range k).map lpart
def lmem (i : Nat) : Mem := ⟨lkey i, [118], [], []⟩
def lsm (i : Nat) : SM := (lkey i, [118], [])
def lst (i : Nat) : PS := ⟨(List.range i).map lmem, (List.range i).map (fun j => (lkey j, if j = 0 then 5 else 6)), if i = 0 then 0 else 6 * i - 1, 0, false⟩
instance : DecidableEq Mem := fun a b => decidable_of_iff (a.key = b.key ∧ a.val = b.val ∧ a.meta' = b.meta' ∧ a.props = b.props) (by cases a; cases b; simp)
instance : DecidableEq PS := fun a b => decidable_of_iff (a.ms = b.ms ∧ a.sz = b.sz ∧ a.tot = b.tot ∧ a.pe = b.pe ∧ a.bad = b.bad) (by cases a; cases b; simp)
/-- One step of Parse that goes on without a fault. -/
def stepGo (p : List UInt8) (s : PS) : Option PS :=
  if 64 ≤ s.ms.length then none
  else match parseM p with
    | none => none
    | some x => if 8192 < newTot s (toMem x) then none else some ⟨putM (toMem x) s.ms, putS x.1 (memSize s (toMem x)) s.sz, newTot s (toMem x), s.pe, s.bad⟩
theorem parseGo_step {p : List UInt8} {r : List (List UInt8)} {s t : PS} (h : stepGo p s = some t) : parseGo (p :: r) s = parseGo r t := by
  unfold stepGo at h
  conv => lhs; unfold parseGo
  split at h
  · cases h
  · rename_i h64
    rw [if_neg h64]
    cases hq : parseM p with
    | none => rw [hq] at h; cases h
    | some x =>
      rw [hq] at h
      simp only at h ⊢
      split at h
      · cases h
      · rename_i hl
        injection h with h
        rw [if_neg hl, h]
set_option maxRecDepth 100000 in
theorem lst_step : ∀ i, i < 64 → stepGo (lpart i) (lst i) = some (lst (i + 1)) := by decide +kernel
set_option maxRecDepth 100000 in
theorem lsplit : ∀ k, k < 200 → 0 < k → splitL 44 (Lib.join (lparts k) [44]) = lparts k := by decide +kernel
set_option maxRecDepth 100000 in
theorem ljoin_len : ∀ k, k < 200 → (Lib.join (lparts k) [44]).length ≤ 1200 ∧ ((Lib.join (lparts k) [44]).isEmpty = true ↔ k = 0) := by decide +kernel
theorem klt : ∀ i, i < 64 → ∀ j, j < i → lkey j < lkey i := by decide +kernel
theorem kbl : ∀ i, i < 64 → ∀ j, j < i → Op.bytesLess (lkey j) (lkey i) = true ∧ Op.bytesLess (lkey i) (lkey j) = false := by decide +kernel
theorem withMS_end (m : SM) : ∀ (xs : List SM), (∀ x ∈ xs, x.1 < m.1) → withMS m xs = xs ++ [m]
  | [], _ => rfl
  | x :: xs, h => by rw [withMS, if_pos (h x (by simp)), withMS_end m xs (fun y hy => h y (by simp [hy])), List.cons_append]
theorem lwith (i : Nat) (hi : i < 64) : withMS (lsm i) ((List.range i).map lsm) = (List.range (i + 1)).map lsm := by
  rw [withMS_end, List.range_succ, List.map_append]
  · rfl
  · intro x hx
    obtain ⟨j, hj, rfl⟩ := List.mem_map.1 hx
    exact klt i hi j (List.mem_range.1 hj)
theorem lgo : ∀ (m i : Nat), i ≤ 64 → parseGo ((List.range' i m).map lpart) (lst i) = if i + m ≤ 64 then lst (i + m) else { lst 64 with bad := true }
  | 0, i, hi => by simp [parseGo, hi]
  | m + 1, i, hi => by
    rw [List.range'_succ, List.map_cons]
    rcases Nat.lt_or_ge i 64 with h | h
    · rw [parseGo_step (lst_step i h), lgo m (i + 1) (by omega), show i + 1 + m = i + (m + 1) by omega]
    · obtain rfl : i = 64 := by omega
      unfold parseGo
      rw [if_pos (by simp [lst]), if_neg (by omega)]
theorem lparse (k : Nat) (hk : k < 200) : parseB (Lib.join (lparts k) [44]) = ((List.range (min k 64)).map lmem, decide (64 < k)) := by
  obtain ⟨h1, h2⟩ := ljoin_len k hk
  unfold parseB
  rcases Nat.eq_zero_or_pos k with h0 | h0
  · subst h0
    rw [if_pos (h2.2 rfl)]
    rfl
  · rw [if_neg (fun h => by have := h2.1 h; omega), if_neg (by omega), lsplit k hk h0]
    have hg := lgo k 0 (by omega)
    rw [← List.range_eq_range', show lst 0 = ps0 from rfl, Nat.zero_add] at hg
    rw [show lparts k = (List.range k).map lpart from rfl, hg]
    by_cases h : k ≤ 64
    · rw [if_pos h, Nat.min_eq_left h]
      simp [lst, h]
    · rw [if_neg h, Nat.min_eq_right (by omega)]
      simp [lst]
      omega
theorem lsorted (k : Nat) (hk : k ≤ 64) : ((List.range k).map lsm).Pairwise fun a b => a.1 < b.1 := by
  rw [List.pairwise_map]
  refine List.Pairwise.imp_of_mem ?_ List.pairwise_lt_range
  intro a b ha hb hab
  exact klt b (by have := List.mem_range.1 hb; omega) a hab
/-- The members that ParseBaggage gives: sorted by their keys: there is one way. -/
theorem lperm (k : Nat) (hk : k ≤ 64) (ms2 : List Mem) (hp : ((List.range k).map lmem).Perm ms2) (hs : ms2.Pairwise fun a b => Op.bytesLess b.key a.key = false) : ms2 = (List.range k).map lmem := by
  refine (List.Perm.eq_of_pairwise (le := fun a b => Op.bytesLess b.key a.key = false) ?_ ?_ hs hp).symm
  · intro a b ha hb h1 h2
    obtain ⟨i, hi, rfl⟩ := List.mem_map.1 ha
    obtain ⟨j, hj, rfl⟩ := List.mem_map.1 (hp.mem_iff.2 hb)
    have hi := List.mem_range.1 hi
    have hj := List.mem_range.1 hj
    rcases Nat.lt_trichotomy i j with h | h | h
    · have := kbl j (by omega) i h
      rw [show (lmem i).key = lkey i from rfl, show (lmem j).key = lkey j from rfl] at h2
      rw [this.1] at h2
      cases h2
    · rw [h]
    · have := kbl i (by omega) j h
      rw [show (lmem i).key = lkey i from rfl, show (lmem j).key = lkey j from rfl] at h1
      rw [this.1] at h1
      cases h1
  · rw [List.pairwise_map]
    refine List.Pairwise.imp_of_mem ?_ List.pairwise_lt_range
    intro a b ha hb hab
    exact (kbl b (by have := List.mem_range.1 hb; omega) a hab).2
theorem ltold (k : Nat) : ((List.range k).map lmem).map told = (List.range k).map lsm := by
  rw [List.map_map]
  rfl
end Go.Proofs.YtleofgndghjflaaGreatDoor

set_option linter.unusedVariables false
set_option linter.unusedSimpArgs false
namespace Go.Proofs.YtleofgndghjflaaGreatDoor
open Go Go.RowKit

theorem MRs.fr {T E : TypeId} {w w' : World} {v : Value} {xs : List SM} {e : TypeId} (h : MRs true true T E w v xs) (hf : Fr e w w') (h1 : T ≠ e) (h2 : E ≠ e) : MRs true true T E w' v xs := by
  obtain ⟨css, h3, h4⟩ := h
  exact ⟨css, h3.fr hf h2, h4.imp (fun _ _ h => MR.fr h hf h1)⟩
theorem conv2 (W : World) (j : Nat) (hj : j < 200) : (convert 57 9 (.slice (some ⟨W.heap.size, 0, none⟩) 2 2)).run Tryz.prog (W.alloc (.cells #[.int .u8 (97 + (j : Int) / 20), .int .u8 (97 + (j : Int) % 20)] 5)) =
    .ok (.string ⟨#[UInt8.ofNat (97 + j / 20), UInt8.ofNat (97 + j % 20)]⟩) (W.alloc (.cells #[.int .u8 (97 + (j : Int) / 20), .int .u8 (97 + (j : Int) % 20)] 5)) := by
  have h1 : (UInt8.ofNat (97 + j / 20)).toNat = 97 + j / 20 := by simp; omega
  have h2 : (UInt8.ofNat (97 + j % 20)).toNat = 97 + j % 20 := by simp; omega
  refine run_convert_bytes_back _ 57 9 5 ⟨W.heap.size, 0, none⟩ 2 [UInt8.ofNat (97 + j / 20), UInt8.ofNat (97 + j % 20)] Tryz.underlying57 Tryz.underlying5 Tryz.underlying9 ?_
  intro i hi
  rw [addr_add, cell_of_row _ _ _ _ _ _ (heap_alloc_new W _), Nat.zero_add]
  match i, hi with
  | 0, _ => simp; omega
  | 1, _ => simp; omega
theorem lparts_succ (j : Nat) (pb : ByteArray) (h : bs pb = lpart j) : strs (lparts (j + 1)) = strs (lparts j) ++ [.string pb] := by
  simp only [strs, lparts, List.range_succ, List.map_append, List.map_cons, List.map_nil]
  rw [← h]
  cases pb
  simp [S, bs]
theorem lparts_len (k : Nat) : (lparts k).length = k := by simp [lparts]
theorem S_str (l : List UInt8) : ∃ t, S l = .string t ∧ bs t = l := ⟨⟨l.toArray⟩, rfl, by simp [bs]⟩
theorem rep_len (l : List UInt8) : ∀ n, (Lib.repeatL l n).length = l.length * n
  | 0 => rfl
  | n + 1 => by
    rw [Lib.repeatL, List.length_append, rep_len l n, Nat.mul_succ]
    omega
set_option maxHeartbeats 4000000 in
set_option maxRecDepth 100000 in
theorem fnBagLong_any (s : ByteArray) (a b : Nat) (ha : a < 256) (hb : b < 256) (w : World) (hw : Laid w) :
    Calls Tryz.prog 5 #[.string s, .int .u8 a, .int .u8 b] w (BoolPost true w) := by
  by_cases h1 : 2147483647 < s.size
  · go_enter Tryz.func5, Tryz.ntmps5
    go_wp2_with fail
    go_ret
    exact ⟨rfl, Below.refl _ _⟩
  by_cases h2 : s.size = 0 ∨ 100 < s.size
  · have haw := awake_any w hw
    have L : Aside (Laid w) := hw
    clear hw
    rcases h2 with h2 | h2
    · go_enter Tryz.func5, Tryz.ntmps5
      go_wp2_with (go_at_fn 11; fail)
      refine haw.mono ?_
      rintro e w2 ⟨rfl, hb2⟩
      go_wp2_with fail
      go_ret
      exact ⟨rfl, hb2⟩
    · have h20 : ¬ s.size = 0 := by omega
      go_enter Tryz.func5, Tryz.ntmps5
      go_wp2_with (go_at_fn 11; fail)
      refine haw.mono ?_
      rintro e w2 ⟨rfl, hb2⟩
      go_wp2_with fail
      go_ret
      exact ⟨rfl, hb2⟩
  have h20 : ¬ s.size = 0 := by omega
  have h21 : ¬ 100 < s.size := by omega
  clear h2
  have hc1 : ((s.size : Int) == 0 || decide (100 < (s.size : Int))) = false := by rw [Bool.or_eq_false_iff]; exact ⟨beq_eq_false_iff_ne.2 (by omega), decide_eq_false (by omega)⟩
  have hsum : (9223372036854775807 < s.size + 1) = False := by simp; omega
  have hwa : IntKind.i64.wrap (a : Int) = a := by rw [IntKind.wrap_i64]; omega
  have L : Aside (Laid w) := hw
  clear hw
  have hs1 : (s ++ (⟨#[32]⟩ : ByteArray)).size ≤ 101 := by rw [ByteArray.size_append]; show s.size + 1 ≤ 101; omega
  have hr1 := Tryz.strings_Repeat (s ++ ⟨#[32]⟩) a w (by omega) (by have := Nat.mul_le_mul hs1 (Nat.le_of_lt ha); omega)
  obtain ⟨t1, ht1⟩ : ∃ t1 : ByteArray, ⟨(Lib.repeatL (s ++ (⟨#[32]⟩ : ByteArray)).data.toList a).toArray⟩ = t1 := ⟨_, rfl⟩
  have hz1 : t1.size ≤ 101 * 256 := by
    rw [← ht1]
    show (Lib.repeatL (s ++ (⟨#[32]⟩ : ByteArray)).data.toList a).toArray.size ≤ _
    rw [List.size_toArray, rep_len]
    exact Nat.le_trans (Nat.mul_le_mul hs1 (Nat.le_of_lt ha)) (by omega)
  rw [ht1] at hr1
  clear ht1
  go_enter Tryz.func5, Tryz.ntmps5
  go_wp2_with (go_at_fn 22; fail)
  refine hr1.mono ?_
  rintro e w1 ⟨rfl, hb1⟩
  clear hr1
  obtain ⟨d, hd⟩ : ∃ d : Nat, max (0 : Int) (8193 - (t1.size : Int)) = d := ⟨(8193 - t1.size : Nat), by omega⟩
  have hd1 : d ≤ 8193 ∧ 8193 ≤ t1.size + d := by omega
  have hwd : IntKind.i64.wrap (8193 - (t1.size : Int)) = 8193 - (t1.size : Int) := by rw [IntKind.wrap_i64]; omega
  have hr2 := Tryz.strings_Repeat ⟨#[32]⟩ d w1 (by omega) (by show 1 * d ≤ _; omega)
  obtain ⟨t2, ht2⟩ : ∃ t2 : ByteArray, ⟨(Lib.repeatL (⟨#[32]⟩ : ByteArray).data.toList d).toArray⟩ = t2 := ⟨_, rfl⟩
  have hz2 : t2.size = d := by
    rw [← ht2]
    show (Lib.repeatL (⟨#[32]⟩ : ByteArray).data.toList d).toArray.size = _
    rw [List.size_toArray, rep_len]
    show 1 * d = d
    omega
  rw [ht2] at hr2
  clear ht2
  have Z : Aside (t2.size = d ∧ d ≤ 8193 ∧ 8193 ≤ t1.size + d) := ⟨hz2, hd1⟩
  have hsum2 : (9223372036854775807 < t1.size + t2.size) = False := by simp; omega
  clear hz2 hd1
  go_wp2_with (go_at_fn 22; fail)
  refine hr2.mono ?_
  rintro e w2 ⟨rfl, hb2⟩
  clear hr2
  have hb02 := below_then hb1 hb1.size hb2
  obtain ⟨lg, hlg⟩ : ∃ lg, t1 ++ t2 = lg := ⟨_, rfl⟩
  have hlz : 8192 < lg.size ∧ lg.size ≤ 100000 := by
    rw [← hlg, ByteArray.size_append]
    have := Z.out
    omega
  have hpb : parseB (bs lg) = ([], true) := by
    have hl : (bs lg).length = lg.size := by simp [bs]
    unfold parseB
    rw [if_neg (by rw [List.isEmpty_iff]; intro h; rw [h] at hl; simp at hl; omega), if_pos (by omega)]
  have hp1 := ParseBaggage_any lg w2 (L.out.below hb02) (by omega)
  rw [hpb] at hp1
  clear hpb
  go_wp2_with (go_at_fn 23; fail)
  refine hp1.mono ?_
  intro e w3 hpost
  obtain ⟨v1, ms2, css1, ms3, rfl, q1, _, q2, hrd1, _, hb3⟩ := hpost
  obtain rfl : ms2 = [] := by simpa using q1
  obtain rfl : ms3 = [] := by simpa using q2
  obtain ⟨A1, c1, rfl, hnc1, hcm1⟩ := hrd1.shape
  have hb03 := below_then hb02 hb02.size hb3
  have haw := awake_any w3 (L.out.below hb03)
  rw [show S (bagStr []) = Value.string ⟨#[]⟩ from rfl]
  simp only [List.length_nil, Bool.not_true]
  clear hp1 hrd1 q1 q2 hb3 hb2 hb1
  go_wp2_with (go_at_fn 11; fail)
  refine haw.mono ?_
  rintro e w4 ⟨rfl, hb4⟩
  have hb04 := below_then hb03 hb03.size hb4
  have hwb : IntKind.i64.wrap (b : Int) = b := by rw [IntKind.wrap_i64]; omega
  clear haw hb4
  obtain ⟨k, hk⟩ : ∃ k : Nat, k = b % 200 := ⟨_, rfl⟩
  have hk200 : k < 200 := by omega
  have hmod : (b : Int) % 200 = (k : Int) := by omega
  have hbs := hb04.size
  clear hk
  go_wp2_with fail
  rw [hmod]
  clear hmod
  go_loopg [68, 12, 13] 201 (fun gk iv pv wv W => Below w.heap.size w W ∧ ∃ j : Nat, iv = .int .i64 j ∧ j ≤ k ∧ j + gk = 201 ∧ Aside (W.ownsRow w.heap.size 9 1 pv j (strs (lparts j)) ∧ MRs true true 23 28 W wv ((List.range (min j 64)).map lsm)))
  case atStart => exact ⟨hb04, 0, rfl, by omega, by omega, own_nil _ _ _ _, [], Rd.nil _ _ _ _, trivial⟩
  case round =>
    obtain ⟨hbw, j, rfl, hjk, hg, HO⟩ := hrel
    have hws := hbw.size
    by_cases hlt : j < k
    · have hltI : (j : Int) < (k : Int) := by omega
      have hj2 : j < 200 := by omega
      have hcv := conv2 wr j hj2
      obtain ⟨xy, hxy⟩ : ∃ xy : ByteArray, ⟨#[UInt8.ofNat (97 + j / 20), UInt8.ofNat (97 + j % 20)]⟩ = xy := ⟨_, rfl⟩
      have hxs : xy.size = 2 := by rw [← hxy]; rfl
      have hkk : bs (⟨#[107]⟩ ++ xy) = lkey j ∧ bs ((⟨#[107]⟩ ++ xy) ++ ⟨#[61, 118]⟩) = lpart j := by rw [← hxy]; exact ⟨rfl, rfl⟩
      rw [hxy] at hcv
      clear hxy
      obtain ⟨kb, hkb⟩ : ∃ kb, (⟨#[107]⟩ : ByteArray) ++ xy = kb := ⟨_, rfl⟩
      rw [hkb] at hkk
      have hks : kb.size = 3 := by rw [← hkb, ByteArray.size_append, hxs]; rfl
      obtain ⟨pb, hpb⟩ : ∃ pb, kb ++ (⟨#[61, 118]⟩ : ByteArray) = pb := ⟨_, rfl⟩
      rw [hpb] at hkk
      have K : Aside (bs kb = lkey j ∧ bs pb = lpart j) := hkk
      have e1 : (9223372036854775807 < 1 + xy.size) = False := by simp; omega
      have e2 : (9223372036854775807 < kb.size + 2) = False := by simp; omega
      clear hkk hxs hks
      have hA1 : Below wr.heap.size wr (wr.alloc (.cells #[.int .u8 (97 + (j : Int) / 20), .int .u8 (97 + (j : Int) % 20)] 5)) := (Below.refl _ _).alloc (Nat.le_refl _) _
      have hop := own_below (C := 0) HO.out.1 hA1
      have hB1 : w.heap.size ≤ (wr.alloc (.cells #[.int .u8 (97 + (j : Int) / 20), .int .u8 (97 + (j : Int) % 20)] 5)).heap.size := Nat.le_trans hws hA1.size
      obtain ⟨W1, hW1⟩ : ∃ W1, wr.alloc (.cells #[.int .u8 (97 + (j : Int) / 20), .int .u8 (97 + (j : Int) % 20)] 5) = W1 := ⟨_, rfl⟩
      rw [hW1] at hcv hA1 hop hB1
      by_cases h64 : j < 64
      · have h64I : (j : Int) < 64 := by omega
        have hm64 : min j 64 = j := by omega
        go_wp2_with (at_builtin; go_must (refine wp_app (W := W1) w.heap.size rfl (.tmp 82) (.tmp 85) 54 rfl 9 (.string ⟨#[]⟩) 1 16 Tryz.underlying54 Tryz.infoStr rfl (by decide) _ j (strs (lparts j)) [.string pb] rfl rfl rfl (by simp [Value.oneCell']) hop hB1 (by omega) (by omega) ?_); intro pv2 w6 ho6 hb6 hf6 hs6)
        have hmm := (HO.out.2.below hA1).fr hf6 (by decide) (by decide)
        rw [hm64] at hmm
        have hwi := with_any u13 _ kb ⟨#[118]⟩ none 0 0 (lsm j) w6 hmm (by simp; omega) (lsorted j (by omega)) ⟨kb, _, _, rfl, K.out.1, rfl, Rd.nil _ _ _ _⟩
        rw [lwith j h64] at hwi
        clear hmm
        go_wp2_with (go_at_fn 24; fail)
        refine hwi.mono ?_
        intro e w7 hpost
        obtain ⟨v7, css7, rfl, ho7, hall7, hb7⟩ := hpost
        have hsum7 := own_below (C := 0) ho6 hb7
        have R7 : Aside (w7.ownsRow w.heap.size 9 1 pv2 (j + 1) (strs (lparts j) ++ [.string pb]) ∧ MRs true true 23 28 w7 v7 ((List.range (j + 1)).map lsm)) := ⟨hsum7, css7, Rd.of_own ho7, hall7.imp (fun _ _ h => MR.below h hb7)⟩
        have hbr : Below w.heap.size w w7 := (hbw.trans (hA1.mono hws)).trans (hb6.trans (hb7.mono (by omega)))
        clear hwi ho7 hall7 hsum7
        go_wp2_with fail
        go_roundg (gk - 1)
        case rel =>
          refine ⟨hbr, j + 1, by go_num, by omega, by omega, ?_, ?_⟩
          · rw [lparts_succ j pb K.out.2]
            exact R7.out.1
          · rw [show min (j + 1) 64 = j + 1 by omega]
            exact R7.out.2
        case measure => omega
      · have h64I : ¬ (j : Int) < 64 := by omega
        have hm64 : min j 64 = 64 := by omega
        go_wp2_with (at_builtin; go_must (refine wp_app (W := W1) w.heap.size rfl (.tmp 82) (.tmp 85) 54 rfl 9 (.string ⟨#[]⟩) 1 16 Tryz.underlying54 Tryz.infoStr rfl (by decide) _ j (strs (lparts j)) [.string pb] rfl rfl rfl (by simp [Value.oneCell']) hop hB1 (by omega) (by omega) ?_); intro pv2 w6 ho6 hb6 hf6 hs6)
        have hmm := (HO.out.2.below hA1).fr hf6 (by decide) (by decide)
        rw [hm64] at hmm
        have R7 : Aside (w6.ownsRow w.heap.size 9 1 pv2 (j + 1) (strs (lparts j) ++ [.string pb]) ∧ MRs true true 23 28 w6 u13 ((List.range 64).map lsm)) := ⟨ho6, hmm⟩
        have hbr : Below w.heap.size w w6 := (hbw.trans (hA1.mono hws)).trans hb6
        clear hmm ho6
        go_wp2_with fail
        go_roundg (gk - 1)
        case rel =>
          refine ⟨hbr, j + 1, by go_num, by omega, by omega, ?_, ?_⟩
          · rw [lparts_succ j pb K.out.2]
            exact R7.out.1
          · rw [show min (j + 1) 64 = 64 by omega]
            exact R7.out.2
        case measure => omega
    · have hnl : ¬ (j : Int) < k := by omega
      obtain rfl : j = k := by omega
      obtain ⟨Ap, cp, rfl⟩ := own_shape HO.out.1
      obtain ⟨Aw, cw, rfl, _, _⟩ := HO.out.2.shape
      simp only [List.length_map, List.length_range] at HO ⊢
      have hjo := join_any (ty := true) (lparts j) (.slice Ap j cp) ⟨#[44]⟩ wr (by rw [lparts_len]; exact Rd.of_own HO.out.1) (by rw [lparts_len]; omega) (by have := (ljoin_len j hk200).1; show (Lib.join (lparts j) [44]).length ≤ _; omega)
      rw [show bs ⟨#[44]⟩ = [44] from rfl] at hjo
      obtain ⟨jt, hjt, hjb⟩ := S_str (Lib.join (lparts j) [44])
      rw [hjt] at hjo
      have hjl : jt.size ≤ 1200 := by
        have := (ljoin_len j hk200).1
        rw [← hjb] at this
        simpa [bs] using this
      clear hjt
      go_wp2_with (go_at_fn 25; fail)
      refine hjo.mono ?_
      rintro e w5 ⟨rfl, hb5⟩
      have hb05 := below_then hbw hbw.size hb5
      have hp2 := ParseBaggage_any jt w5 (L.out.below hb05) (by omega)
      rw [hjb, lparse j hk200] at hp2
      clear hjo hjb
      go_wp2_with (go_at_fn 23; fail)
      refine hp2.mono ?_
      intro e w6 hpost
      obtain ⟨v6, ms2, css6, ms3, rfl, q1, q2, q3, hrd6, hall6, hb6⟩ := hpost
      obtain rfl := lperm (min j 64) (by omega) ms2 q1 q2
      have hmr := tell_mrs hrd6 hall6
      rw [ltold] at hmr
      obtain ⟨A6, c6, rfl, _, _⟩ := hmr.shape
      have hb06 := below_then hb05 hb05.size hb6
      have hwant := HO.out.2.below (hb5.trans (hb6.mono hb5.size))
      have hof := ofMembers_any _ _ w6 hmr (by simp; omega) (by intro x hx; obtain ⟨i, _, rfl⟩ := List.mem_map.1 hx; simp [lsm])
      simp only [List.length_map, List.length_range] at hof ⊢
      obtain ⟨xs, hxs⟩ : ∃ xs, (List.range (min j 64)).map lsm = xs := ⟨_, rfl⟩
      have hxl : xs.length ≤ 10000 := by rw [← hxs]; simp; omega
      have hxp : ∀ x ∈ xs, x.2.2.length ≤ 100000 := by intro x hx; rw [← hxs] at hx; obtain ⟨i, _, rfl⟩ := List.mem_map.1 hx; simp [lsm]
      have hxq : xs.length = min j 64 := by rw [← hxs]; simp
      rw [hxs] at hof hwant
      obtain ⟨q, hq⟩ : ∃ q, min j 64 = q := ⟨_, rfl⟩
      simp only [hq] at hof hwant hxq ⊢
      have hqq : ((q : Int) == (q : Int)) = true := by simp
      clear hmr hrd6 hall6 hp2 q1 q3 hq hxs
      by_cases hjj : j ≤ 64
      · have hI : (j : Int) ≤ 64 := by omega
        rw [show (!decide (64 < j)) = true by simp; omega]
        clear hjj
        go_wp2_with (go_at_fn 26; fail)
        refine hof.mono ?_
        intro e w7 hpost
        obtain ⟨v7, rfl, hmr7, hb7⟩ := hpost
        have hb07 := below_then hb06 hb06.size hb7
        have hsm := same_any v7 (.slice Aw q cw) xs xs w7 hmr7 (hwant.below hb7) hxl hxl hxp hxp
        rw [show decide (xs = xs) = true by simp] at hsm
        obtain ⟨A7, c7, rfl, _, _⟩ := hmr7.shape
        rw [hxq] at hsm ⊢
        clear hmr7 hof
        go_wp2_with (go_at_fn 27; fail)
        refine hsm.mono ?_
        rintro e w8 ⟨rfl, hb8⟩
        go_wp2_with fail
        go_ret
        exact ⟨rfl, below_then hb07 hb07.size hb8⟩
      · have hI : ¬ (j : Int) ≤ 64 := by omega
        rw [show (!decide (64 < j)) = false by simp; omega]
        clear hjj
        go_wp2_with (go_at_fn 26; fail)
        refine hof.mono ?_
        intro e w7 hpost
        obtain ⟨v7, rfl, hmr7, hb7⟩ := hpost
        have hb07 := below_then hb06 hb06.size hb7
        have hsm := same_any v7 (.slice Aw q cw) xs xs w7 hmr7 (hwant.below hb7) hxl hxl hxp hxp
        rw [show decide (xs = xs) = true by simp] at hsm
        obtain ⟨A7, c7, rfl, _, _⟩ := hmr7.shape
        rw [hxq] at hsm ⊢
        clear hmr7 hof
        go_wp2_with (go_at_fn 27; fail)
        refine hsm.mono ?_
        rintro e w8 ⟨rfl, hb8⟩
        go_wp2_with fail
        go_ret
        exact ⟨rfl, below_then hb07 hb07.size hb8⟩
end Go.Proofs.YtleofgndghjflaaGreatDoor
