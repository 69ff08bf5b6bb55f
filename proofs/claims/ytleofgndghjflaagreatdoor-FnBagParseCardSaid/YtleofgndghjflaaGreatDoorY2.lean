/- Contracts of the functions of this claim, proved once, joined out of smaller texts: H1 S6 S7 S8 S9 T0. -/
import Derived.Test.YtleofgndghjflaaGreatDoorH0
import Derived.Test.YtleofgndghjflaaGreatDoorY1
import Derived.Deep.CutBlock
import Derived.Lib.ValidLaws
import Derived.Deep.RegionHeld3
import Derived.Deep.DrawnRows
set_option linter.unusedVariables false
set_option linter.unusedSimpArgs false
namespace Go.Proofs.YtleofgndghjflaaGreatDoor
open Go Go.RowKit

/-- A builder of one's own that has been grown or written, holding the bytes l. -/
def Bd (B b : Nat) (l : List UInt8) (w : World) : Prop := Lib.BuilderAt 109 5 B b (.pointer (some ⟨b, 0, none⟩)) (Lib.byteCells l) w

theorem Tryz.info109 : ∃ j, Tryz.prog.info? 109 = some j := by
  have h := Tryz.Builder_Extra_169.sizeBuilder
  obtain ⟨j, hj, _⟩ := Option.map_eq_some_iff.1 h
  exact ⟨j, hj⟩

set_option maxHeartbeats 1000000 in
set_option maxRecDepth 100000 in
theorem copyCheck_used (b : Nat) (w : World) (h0 : w.cell? ⟨b, 0, none⟩ = some (.pointer (some ⟨b, 0, none⟩))) :
    Calls Tryz.prog 91 #[.pointer (some ⟨b, 0, none⟩)] w fun e w' => e = .returned (.tuple #[]) ∧ w' = w := by
  obtain ⟨j, hj⟩ := Tryz.info109
  go_enter Tryz.func91, Tryz.ntmps91
  go_wp2
  rw [Lib.run_neq_ptr_same w _ Tryz.underlying107 hj]
  go_wp2
  go_end0
  exact ⟨rfl, rfl⟩

/-- All blocks but rows of element types e and f stay as they were. -/
structure Fr2 (e f : TypeId) (w w' : World) : Prop where
  size : w.heap.size ≤ w'.heap.size
  block : ∀ k : Nat, k < w.heap.size → (∀ c g, w.heap[k]? ≠ some (.cells c e g)) → (∀ c g, w.heap[k]? ≠ some (.cells c f g)) → w'.heap[k]? = w.heap[k]?
theorem Fr2.refl (e f : TypeId) (w : World) : Fr2 e f w w := ⟨Nat.le_refl _, fun _ _ _ _ => rfl⟩
theorem Fr2.trans {e f : TypeId} {a b c : World} (h : Fr2 e f a b) (k : Fr2 e f b c) : Fr2 e f a c :=
  ⟨Nat.le_trans h.size k.size, fun i hi hn hm => by
    have h1 := h.block i hi hn hm
    rw [k.block i (Nat.lt_of_lt_of_le hi h.size) (fun c g => by rw [h1]; exact hn c g) (fun c g => by rw [h1]; exact hm c g), h1]⟩
theorem Fr2.of_fr {e : TypeId} (f : TypeId) {w w' : World} (h : Fr e w w') : Fr2 e f w w' := ⟨h.size, fun k hk hn _ => h.block k hk hn⟩
theorem Fr2.of_below {w w' : World} (e f : TypeId) (h : Below w.heap.size w w') : Fr2 e f w w' := ⟨h.size, fun k hk _ _ => h.block k hk⟩
theorem Fr2.set {e f : TypeId} {w w' : World} (h : Fr2 e f w w') {g i : Nat} {cs : Array Value} {fr : Nat × Nat} (hg : w'.heap[g]? = some (.cells cs f fr)) (v : Value) : Fr2 e f w (w'.setCell ⟨g, i, none⟩ v) :=
  h.trans ⟨by simp [World.setCell], fun k hk _ hm => Below.heap_setCell _ _ _ _ (fun e => by simp at e; subst e; exact hm _ _ hg)⟩
theorem Rd.fr2 {w w' : World} {t e f : TypeId} {v : Value} {n sz : Nat} {xs : List Value} (h : Rd true w t v n sz xs) (hf : Fr2 e f w w') (hne : t ≠ e) (hnf : t ≠ f) : Rd true w' t v n sz xs := by
  obtain ⟨A, c, h1, h2, h3, h4, h5⟩ := h
  refine ⟨A, c, h1, h2, h3, h4, h5.imp id fun ⟨b, o, k1, k2, k3⟩ => ?_⟩
  obtain ⟨cs, fr, hc⟩ := k3 rfl
  have hk := hf.block b (Array.getElem?_eq_some_iff.1 hc).1 (fun c' f' h' => by rw [hc] at h'; injection h' with h'; injection h' with _ h'; exact hne h') (fun c' f' h' => by rw [hc] at h'; injection h' with h'; injection h' with _ h'; exact hnf h')
  exact ⟨b, o, k1, fun j u hj => cell_keep hk (k2 j u hj), fun _ => ⟨cs, fr, hk.trans hc⟩⟩
theorem bytesApp (l : List UInt8) (s : ByteArray) : Lib.byteCells l ++ Lib.strCells s = Lib.byteCells (l ++ bs s) := by
  simp [Lib.byteCells, Lib.strCells, bs]

set_option maxHeartbeats 1000000 in
set_option maxRecDepth 100000 in
theorem WriteString_fr (B b : Nat) (l : List UInt8) (s : ByteArray) (w : World) (h : Bd B b l w) (hlen : l.length + s.size ≤ 100000000) (hBw : B ≤ w.heap.size) :
    Calls Tryz.prog 51 #[.pointer (some ⟨b, 0, none⟩), .string s] w fun e w' => e = .returned (.tuple #[.int .i64 s.size, .nilIface]) ∧ Bd B b (l ++ bs s) w' ∧ Below B w w' ∧ Fr2 5 109 w w' := by
  unfold Bd at h
  have c0 := h.cell0
  have hlt := h.lt
  obtain ⟨hB, v, hbk, hown, hne⟩ := h
  have c1 : w.cell? ⟨b, 1, none⟩ = some v := by rw [Lib.cell_of_heap hbk]; rfl
  have f1 : w.frozen? ⟨b, 1, none⟩ = false := Lib.frozen_of_heap hbk 1
  have hcc := copyCheck_used b w c0
  have hbl : (Lib.byteCells l).length = l.length := by simp [Lib.byteCells]
  obtain ⟨i0, hi, hzz⟩ := Option.map_eq_some_iff.1 Tryz.infoByte
  simp only [Prod.mk.injEq] at hzz
  obtain ⟨hz0, hz1, hz2⟩ := hzz
  have AR : Aside (Lib.byteCells l ++ Lib.strCells s = Lib.byteCells (l ++ bs s)) := bytesApp l s
  go_enter Tryz.func51, Tryz.ntmps51
  go_wp2_with fail
  refine hcc.mono ?_
  rintro e w' ⟨rfl, rfl⟩
  go_wp2_with (at_builtin; refine Lib.wpList_append_own_string _ rfl _ _ 57 9 rfl B 5 i0 Tryz.underlying57 Tryz.underlying9 hi hz0 hz1 hz2 _ _ _ rfl hown s rfl ?c3 ?c4 hBw ?_)
  case c3 => unfold maxLen; omega
  case c4 => omega
  intro v' w2 hown' hgrow _
  have hb2 : w2.heap[b]? = some (.cells #[.pointer (some ⟨b, 0, none⟩), v] 109 (0, 0)) := by
    rw [hgrow.block b hlt (fun e => hne e.symm)]
    exact hbk
  have d0 : w2.cell? ⟨b, 0, none⟩ = some (.pointer (some ⟨b, 0, none⟩)) := by rw [Lib.cell_of_heap hb2]; rfl
  have d1 : w2.cell? ⟨b, 1, none⟩ = some v := by rw [Lib.cell_of_heap hb2]; rfl
  have f1 : w2.frozen? ⟨b, 1, none⟩ = false := Lib.frozen_of_heap hb2 1
  obtain ⟨ao, n', cap, rfl⟩ : ∃ ao n' cap, v' = .slice ao n' cap := by
    rcases hown'.2 with ⟨hv, _⟩ | ⟨g, cap, cur, hv, _⟩
    · exact ⟨_, _, _, hv⟩
    · exact ⟨_, _, _, hv⟩
  go_wp2_with fail
  go_ret2
  refine ⟨rfl, ?_, ?_, (Fr2.of_fr 109 (Fr.of_grown hown hgrow)).set hb2 _⟩
  · unfold Bd
    rw [← AR.out]
    refine Lib.BuilderAt.put hB hb2 ?_ (by decide)
    rw [List.length_append, Lib.strCells_length]
    first | exact hown' | (rw [hbl]; exact hown') | (rw [hbl, AR.out]; exact hown')
  · exact ((Below.refl B _).grown hgrow hBw (fun k hk => (hown.lt k hk).1)).setCell hB _

def AppPost (w : World) (B : Nat) (v : Value) (n : Nat) (xs : List Value) (e : Ending) (w' : World) : Prop :=
  ∃ v', e = .returned v' ∧ w'.ownsRow B 5 1 v' n xs ∧ ∃ o, (w.alloc o).grownBy w' v.ownBlock
theorem WriteString_any (B b : Nat) (l : List UInt8) (s : ByteArray) (w : World) (h : Bd B b l w) (hlen : l.length + s.size ≤ 100000000) (hBw : B ≤ w.heap.size) :
    Calls Tryz.prog 51 #[.pointer (some ⟨b, 0, none⟩), .string s] w fun e w' => e = .returned (.tuple #[.int .i64 s.size, .nilIface]) ∧ Bd B b (l ++ bs s) w' ∧ Below B w w' :=
  (WriteString_fr B b l s w h hlen hBw).mono fun _ _ h => ⟨h.1, h.2.1, h.2.2.1⟩

set_option maxHeartbeats 1000000 in
set_option maxRecDepth 100000 in
theorem WriteRune_any (B b : Nat) (l : List UInt8) (r : Int) (hr0 : -2147483648 ≤ r) (hr1 : r ≤ 2147483647) (w : World) (h : Bd B b l w) (hlen : l.length ≤ 100000000) (hBw : B ≤ w.heap.size) :
    Calls Tryz.prog 173 #[.pointer (some ⟨b, 0, none⟩), .int .i32 r] w fun e w' => e = .returned (.tuple #[.int .i64 (Lib.runeCells r).length, .nilIface]) ∧ Bd B b (l ++ Lib.encodeRune r) w' ∧ Below B w w' := by
  unfold Bd at h
  have c0 := h.cell0
  have hlt := h.lt
  obtain ⟨hB, v, hbk, hown, hne⟩ := h
  obtain ⟨ao, cap, rfl⟩ : ∃ ao cap, v = .slice ao (Lib.byteCells l).length cap := by
    rcases hown.2 with ⟨hv, h0⟩ | ⟨g, cap, cur, hv, _⟩
    · exact ⟨none, 0, by rw [hv, h0]⟩
    · exact ⟨_, _, hv⟩
  have c1 : w.cell? ⟨b, 1, none⟩ = some (.slice ao (Lib.byteCells l).length cap) := by rw [Lib.cell_of_heap hbk]; rfl
  have f1 : w.frozen? ⟨b, 1, none⟩ = false := Lib.frozen_of_heap hbk 1
  have hcc := copyCheck_used b w c0
  have hbl : (Lib.byteCells l).length = l.length := by simp [Lib.byteCells]
  have hk4 := Lib.runeCells_le r
  have hap : Calls Tryz.prog 210 #[.slice ao (Lib.byteCells l).length cap, .int .i32 r] w (AppPost w B (.slice ao (Lib.byteCells l).length cap) ((Lib.byteCells l).length + (Lib.runeCells r).length) (Lib.byteCells l ++ Lib.runeCells r)) := Tryz.utf8_AppendRune_plain B _ (Lib.byteCells l).length (Lib.byteCells l) r hr0 hr1 w hown (by rw [hbl]; omega) hBw
  have AR : Lib.byteCells l ++ Lib.runeCells r = Lib.byteCells (l ++ Lib.encodeRune r) := by
    rw [← Lib.byteCells_encodeRune]
    simp [Lib.byteCells]
  obtain ⟨rc, hrc⟩ : ∃ rc, Lib.runeCells r = rc := ⟨_, rfl⟩
  obtain ⟨en, hen⟩ : ∃ en, Lib.encodeRune r = en := ⟨_, rfl⟩
  rw [hrc] at hk4 hap AR ⊢
  rw [hen] at AR ⊢
  obtain ⟨bl, hble⟩ : ∃ bl, Lib.byteCells l = bl := ⟨_, rfl⟩
  rw [hble] at hbl hap AR c1 hown hne hbk
  clear hrc hen
  clear hbl hble
  have AR : Aside (bl ++ rc = Lib.byteCells (l ++ en)) := AR
  go_enter Tryz.func173, Tryz.ntmps173
  go_wp2_with fail
  refine hcc.mono ?_
  rintro e w' ⟨rfl, rfl⟩
  go_wp2_with (go_at_fn 210; fail)
  refine hap.mono ?_
  intro e w2 hpost
  obtain ⟨v', rfl, hown', o, hgrow⟩ := hpost
  have hb2 : w2.heap[b]? = some (.cells #[.pointer (some ⟨b, 0, none⟩), .slice ao bl.length cap] 109 (0, 0)) := by
    rw [hgrow.block b (by simp; omega) (fun e => hne e.symm), Lib.alloc_old _ _ b hlt]
    exact hbk
  have d0 : w2.cell? ⟨b, 0, none⟩ = some (.pointer (some ⟨b, 0, none⟩)) := by rw [Lib.cell_of_heap hb2]; rfl
  have d1 : w2.cell? ⟨b, 1, none⟩ = some (.slice ao bl.length cap) := by rw [Lib.cell_of_heap hb2]; rfl
  have f2 : w2.frozen? ⟨b, 1, none⟩ = false := Lib.frozen_of_heap hb2 1
  obtain ⟨g, cap', rfl⟩ : ∃ g cap', v' = .slice g (bl.length + rc.length) cap' := by
    rcases hown'.2 with ⟨hv, h0⟩ | ⟨g, cap', cur, hv, _⟩
    · exact ⟨none, 0, by rw [hv, h0]⟩
    · exact ⟨_, cap', hv⟩
  go_wp2_with fail
  go_ret2
  refine ⟨?_, ?_, ?_⟩
  · have e : ((bl.length : Int) + (rc.length : Int) - (bl.length : Int)) = (rc.length : Int) := by omega
    simp [e]
  · unfold Bd
    rw [← AR.out]
    refine Lib.BuilderAt.put hB hb2 ?_ (by decide)
    rw [List.length_append]
    exact hown'
  · exact (((Below.refl B _).alloc hBw _).grown hgrow (by simp; omega) (fun k hk => (hown.lt k hk).1)).setCell hB _

set_option maxHeartbeats 1000000 in
set_option maxRecDepth 100000 in
theorem validateBaggageValue_any (s : ByteArray) (w : World) (hw : Laid w) (hs : s.size ≤ 100000000) :
    Calls Tryz.prog 120 #[.string s] w fun e w' => e = .returned (.bool (Lib.validD (bs s))) ∧ Below w.heap.size w w' := by
  have hv := Tryz.utf8_ValidString s w (by omega) hw.utf8
  obtain ⟨b, hb⟩ : ∃ b, Lib.validD (bs s) = b := ⟨_, rfl⟩
  unfold bs at hb
  rw [hb] at hv
  rw [show Lib.validD (bs s) = b from hb]
  go_enter Tryz.func120, Tryz.ntmps120
  go_wp2_with fail
  refine hv.mono ?_
  rintro e w' ⟨rfl, hbel⟩
  go_wp2_with fail
  go_ret
  exact ⟨rfl, hbel⟩

def nameOk (l : List UInt8) : Bool := !l.isEmpty && Lib.validD l
set_option maxHeartbeats 1000000 in
set_option maxRecDepth 100000 in
theorem validateBaggageName_any (s : ByteArray) (w : World) (hw : Laid w) (hs : s.size ≤ 100000000) :
    Calls Tryz.prog 116 #[.string s] w fun e w' => e = .returned (.bool (nameOk (bs s))) ∧ Below w.heap.size w w' := by
  have hv := Tryz.utf8_ValidString s w (by omega) hw.utf8
  obtain ⟨b, hb⟩ : ∃ b, Lib.validD (bs s) = b := ⟨_, rfl⟩
  obtain ⟨R, hR⟩ : ∃ R, nameOk (bs s) = R := ⟨_, rfl⟩
  have AR : Aside (nameOk (bs s) = R) := hR
  rw [hR]
  unfold bs at hb
  rw [hb] at hv
  have AB : Aside (Lib.validD (bs s) = b) := hb
  clear hb hR
  cases he : s.toList.isEmpty
  · go_enter Tryz.func116, Tryz.ntmps116
    go_wp2_with fail
    refine hv.mono ?_
    rintro e w' ⟨rfl, hbel⟩
    go_wp2_with fail
    go_ret
    refine ⟨?_, hbel⟩
    rw [← AR.out]
    unfold nameOk
    rw [← toList_empty, he, AB.out]
    rfl
  · go_enter Tryz.func116, Tryz.ntmps116
    go_wp2_with fail
    go_ret
    refine ⟨?_, Below.refl _ _⟩
    rw [← AR.out]
    unfold nameOk
    rw [← toList_empty, he]
    rfl
end Go.Proofs.YtleofgndghjflaaGreatDoor

set_option linter.unusedVariables false
set_option linter.unusedSimpArgs false
namespace Go.Proofs.YtleofgndghjflaaGreatDoor
open Go Go.RowKit

theorem row_set {W : World} {g : Nat} {cs : Array Value} {t : TypeId} {fr : Nat × Nat} (h : W.heap[g]? = some (.cells cs t fr)) (i : Nat) (v : Value) : (W.setCell ⟨g, i, none⟩ v).heap[g]? = some (.cells (cs.setIfInBounds i v) t fr) := by
  simp [World.setCell, Array.getElem?_modify, h]
theorem ret_cell_tmp {P : Program} {fn : Func} {p u : Tmp} {ty : TypeId} {tmps : Array Value} {W : World} {g : Nat} {t : TypeId} {cs : Array Value} {fr : Nat × Nat} {d : TypeDesc} (h : fn.results = #[.cell p ty, .tmp u])
    (hp : tmps.getD p undef = .pointer (some ⟨g, 0, none⟩)) (hg : W.heap[g]? = some (.cells cs t fr)) (hu : P.underlying ty = some d) (hd : (match d with | .struct _ | .array _ _ => true | _ => false) = true) (hi : (P.info? ty).map (·.size) = some cs.size) :
    (results fn tmps).run P W = .ok (.tuple #[.agg cs, tmps.getD u undef]) W := by
  rw [results_cell_tmp h, hp]
  simp [asAddr, Result.andThen, run_loadVar_row W g t ty cs fr d hg hu hd hi]

def spanN (p : UInt8 → Bool) (l : List UInt8) : Nat := (l.takeWhile p).length
theorem spanN_cons (p : UInt8 → Bool) (c : UInt8) (r : List UInt8) : spanN p (c :: r) = if p c then spanN p r + 1 else 0 := by
  unfold spanN
  rw [List.takeWhile_cons]
  split <;> simp
theorem spanN_le (p : UInt8 → Bool) (l : List UInt8) : spanN p l ≤ l.length := by
  unfold spanN
  exact (List.takeWhile_sublist _).length_le

def propF (l : List UInt8) : Option (List UInt8 × Option (List UInt8)) :=
  let l1 := l.drop (skipN l)
  let n := spanN tok l1
  if n = 0 then none else
  match (l1.drop n).drop (skipN (l1.drop n)) with
  | [] => some (l1.take n, none)
  | c :: l4 =>
    if c = 61 then
      let l5 := l4.drop (skipN l4)
      let m := spanN oct l5
      if (l5.drop m).drop (skipN (l5.drop m)) = [] then
        if (unesc (l5.take m)).isSome then some (l1.take n, some (l5.take m)) else none
      else none
    else none

theorem propF_0 (l : List UInt8) (a n : Nat) (ha : skipN l = a) (hn : spanN tok (l.drop a) = n) (h : n = 0) : propF l = none := by
  unfold propF
  simp [ha, hn, h]
theorem propF_1 (l : List UInt8) (a n b : Nat) (ha : skipN l = a) (hn : spanN tok (l.drop a) = n) (h : n ≠ 0) (hb : skipN (l.drop (a + n)) = b) (hl : a + n + b = l.length) : propF l = some ((l.drop a).take n, none) := by
  unfold propF
  simp only [ha, hn, h, if_false, List.drop_drop, hb]
  rw [hl, List.drop_length]
theorem propF_2 (l l4 : List UInt8) (a n b : Nat) (c : UInt8) (ha : skipN l = a) (hn : spanN tok (l.drop a) = n) (h : n ≠ 0) (hb : skipN (l.drop (a + n)) = b) (hl : l.drop (a + n + b) = c :: l4) (hc : c ≠ 61) : propF l = none := by
  unfold propF
  simp only [ha, hn, h, if_false, List.drop_drop, hb, ← Nat.add_assoc, hl, hc, if_false]
theorem propF_3 (l : List UInt8) (a n b d m e : Nat) (ha : skipN l = a) (hn : spanN tok (l.drop a) = n) (h : n ≠ 0) (hb : skipN (l.drop (a + n)) = b) (hl : l.drop (a + n + b) = 61 :: l.drop (a + n + b + 1))
    (hd : skipN (l.drop (a + n + b + 1)) = d) (hm : spanN oct (l.drop (a + n + b + 1 + d)) = m) (he : skipN (l.drop (a + n + b + 1 + d + m)) = e) :
    propF l = if l.length ≤ a + n + b + 1 + d + m + e then if (unesc ((l.drop (a + n + b + 1 + d)).take m)).isSome then some ((l.drop a).take n, some ((l.drop (a + n + b + 1 + d)).take m)) else none else none := by
  unfold propF
  simp only [ha, hn, h, if_false, List.drop_drop, hb, ← Nat.add_assoc, hl, hd, hm, he, if_true, List.drop_eq_nil_iff]

/-- The cell of a function's own result of type 228, and what the function has changed. -/
def Fd (w W : World) : Prop := Below w.heap.size w W ∧ W.heap[w.heap.size]? = some (.cells #[.string ⟨#[]⟩, .string ⟨#[]⟩, .bool false] 228 (0, 0))
theorem Fd.below {w W W' : World} (h : Fd w W) (hb : Below W.heap.size W W') : Fd w W' := by
  have hlt := (Array.getElem?_eq_some_iff.1 h.2).1
  exact ⟨below_then h.1 h.1.size hb, (hb.block _ hlt).trans h.2⟩
theorem Fd.iter {w W : World} (h : Fd w W) (t : ByteArray) (k : Nat) : Fd w (W.iter t k) := h.below ((Below.refl _ _).alloc (Nat.le_refl _) _)

def PropPost (s : ByteArray) (w : World) (e : Ending) (w' : World) : Prop :=
  ∃ kb vb hb ok, e = .returned (.tuple #[.agg #[.string kb, .string vb, .bool hb], .bool ok]) ∧ Below w.heap.size w w' ∧
    match propF (bs s) with
    | none => ok = false
    | some (k, none) => ok = true ∧ bs kb = k ∧ bs vb = [] ∧ hb = false
    | some (k, some v) => ok = true ∧ bs kb = k ∧ bs vb = v ∧ hb = true

set_option maxHeartbeats 1000000 in
set_option maxRecDepth 100000 in
theorem parsePropertyFields_any (s : ByteArray) (w : World) (hw : Laid w) (hs : s.size ≤ 1000000) :
    Calls Tryz.prog 170 #[.string s] w (PropPost s w) := by
  have hsk := fun (i : Nat) (W : World) (hi : i ≤ s.size) => skipSpace_any s (i : Int) W hs (by omega) (by omega)
  simp only [Int.toNat_natCast] at hsk
  have hs0 := hsk 0
  obtain ⟨a, ha⟩ : ∃ a, skipN (bs s) = a := ⟨_, rfl⟩
  have hal := skipN_le (bs s)
  rw [bs_length] at hal
  simp only [List.drop_zero, ha, Int.natCast_zero, Int.zero_add] at hs0
  rw [ha] at hal
  obtain ⟨t, ht⟩ : ∃ t, s.extract a s.size = t := ⟨_, rfl⟩
  have hbt : bs t = (bs s).drop a := by rw [← ht, ext_bs, ← bs_length, ← List.length_drop, List.take_length]
  have hts : t.size + a = s.size := by
    have := congrArg List.length hbt
    rw [bs_length, List.length_drop, bs_length] at this
    omega
  obtain ⟨n, hn⟩ : ∃ n, spanN tok (bs t) = n := ⟨_, rfl⟩
  have hnl := spanN_le tok (bs t)
  rw [bs_length, hn] at hnl
  have A : Aside (skipN (bs s) = a ∧ bs t = (bs s).drop a ∧ spanN tok (bs t) = n) := ⟨ha, hbt, hn⟩
  clear ha hbt hn
  go_enter Tryz.func170, Tryz.ntmps170
  go_upto_block 0 with (go_at_fn 207; fail)
  refine (hs0 _ (by omega)).mono ?_
  rintro e w' ⟨rfl, rfl⟩
  go_upto_block 0 with fail
  go_cut [6] (fun v W => v = .int .i64 ((a : Int) + n) ∧ Fd w W)
  case first =>
    have hF0 : Fd w (w.alloc (.cells #[.string ⟨#[]⟩, .string ⟨#[]⟩, .bool false] 228)) := ⟨(Below.refl _ _).alloc (Nat.le_refl _) _, heap_alloc_new _ _⟩
    go_wp2_with fail
    go_loopg [6, 8] (t.size + 1) (fun gk v c wx => ∃ (k : Nat) (W0 : World), wx = W0.iter t k ∧ W0.heap.size = w.heap.size + 1 ∧ Fd w W0 ∧ v = .int .i64 ((a : Int) + k) ∧ k ≤ t.size ∧ k + gk = t.size + 1 ∧ Aside (spanN tok ((bs t).drop k) + k = n))
    case atStart => exact ⟨0, _, rfl, by simp, hF0, by simp, by omega, by omega, A.out.2.2⟩
    case round =>
      obtain ⟨k, W0, rfl, hz, hF, rfl, hk, hg, hd⟩ := hrel
      by_cases hlt : k < t.size
      · have hrn := run_next_any (P := Tryz.prog) W0 t k 0 hlt
        rw [hz] at hrn
        have hd' := hd.out
        rw [bs_drop t k hlt, spanN_cons] at hd'
        clear hd A
        by_cases hc128 : (t[k]).toNat < 128
        · rw [decode_ascii t k hlt hc128] at hrn
          obtain ⟨c, hc⟩ : ∃ c, t[k] = c := ⟨_, rfl⟩
          rw [hc] at hrn hd' hc128
          obtain ⟨b, hbt⟩ : ∃ b, tok c = b := ⟨_, rfl⟩
          have hcall := validateKeyChar_any (c.toNat : Int) (W0.iter t (k + 1)) (hw.below (hF.iter t _).1) (by omega) (by omega)
          rw [show keyB (c.toNat : Int) = b from hbt] at hcall
          rw [hbt] at hd'
          have D : Aside ((if b then spanN tok ((bs t).drop (k + 1)) + 1 else 0) + k = n) := hd'
          clear hd' hc hbt
          go_wp2_with fail
          refine hcall.mono ?_
          rintro e w' ⟨rfl, rfl⟩
          cases b
          · go_wp2_with fail
            go_meet
            exact ⟨by have := D.out; simp at this; subst this; rfl, hF.iter t _⟩
          · go_wp2_with fail
            go_roundg (gk - 1)
            case rel => exact ⟨k + 1, W0, rfl, hz, hF, by go_num, by omega, by omega, by have := D.out; simp at this; show _ = _; omega⟩
            case measure => omega
        · have hc := decode_high t k hlt (by omega)
          have hle := decode_le t k
          obtain ⟨c, hcc⟩ : ∃ c, (Utf8.decode t k).1 = c := ⟨_, rfl⟩
          obtain ⟨m, hm⟩ : ∃ m, k + (Utf8.decode t k).2 = m := ⟨_, rfl⟩
          rw [hcc] at hrn hc hle
          have hcall := fun W hW => (validateKeyChar_any (c : Int) W hW (by omega) (by omega))
          rw [keyB_high (c : Int) (by omega)] at hcall
          have hf : tok t[k] = false := keyB_high _ (by omega)
          rw [hf] at hd'
          have D : Aside (k = n) := by show _ = _; simpa using hd'
          clear hd' hf hc128
          go_wp2_with fail
          refine (hcall _ (hw.below (hF.iter t _).1)).mono ?_
          rintro e w' ⟨rfl, rfl⟩
          go_wp2_with fail
          go_meet
          exact ⟨by rw [D.out], hF.iter t _⟩
      · have hrn := run_next_end (P := Tryz.prog) W0 t k 0 hlt
        rw [hz] at hrn
        have D : Aside (k = n) := by
          have := hd.out
          rw [bs_drop_all t k (by omega)] at this
          show _ = _
          simpa [spanN] using this
        go_wp2_with fail
        go_meet
        exact ⟨by rw [D.out], hF.iter t _⟩
  case rest =>
    obtain ⟨rfl, hF⟩ := hcut
    have hbl := hF.1
    have c0 : wc.cell? ⟨w.heap.size, 0, none⟩ = some (.string ⟨#[]⟩) := by rw [cell_of_row _ _ _ _ _ _ hF.2]; rfl
    have c1 : wc.cell? ⟨w.heap.size, 1, none⟩ = some (.string ⟨#[]⟩) := by rw [cell_of_row _ _ _ _ _ _ hF.2]; rfl
    have c2 : wc.cell? ⟨w.heap.size, 2, none⟩ = some (.bool false) := by rw [cell_of_row _ _ _ _ _ _ hF.2]; rfl
    have f0 : wc.frozen? ⟨w.heap.size, 0, none⟩ = false := by simp [World.frozen?, hF.2]
    have f1 : wc.frozen? ⟨w.heap.size, 1, none⟩ = false := by simp [World.frozen?, hF.2]
    have f2 : wc.frozen? ⟨w.heap.size, 2, none⟩ = false := by simp [World.frozen?, hF.2]
    by_cases h0 : n = 0
    · subst h0
      go_wp2_with fail
      (try simp only [Exit.inBlock, Exit.then]); refine bodyPost_ret (ret_cell_tmp rfl rfl (row_set (row_set (row_set hF.2 0 _) 1 _) 2 _) Tryz.underlying228 rfl (by kernel_rfl)) rfl ?_
      refine ⟨_, _, _, _, rfl, ((hbl.setCell (Nat.le_refl _) _).setCell (Nat.le_refl _) _).setCell (Nat.le_refl _) _, ?_⟩
      rw [propF_0 (bs s) a 0 A.out.1 (by rw [← A.out.2.1]; exact A.out.2.2) rfl]
    · have hb1 := hsk (a + n)
      obtain ⟨b, hb⟩ : ∃ b, skipN ((bs s).drop (a + n)) = b := ⟨_, rfl⟩
      have hble := skipN_le ((bs s).drop (a + n))
      rw [hb, List.length_drop, bs_length] at hble
      rw [hb, Int.natCast_add] at hb1
      have B : Aside (skipN (bs s) = a ∧ spanN tok ((bs s).drop a) = n ∧ skipN ((bs s).drop (a + n)) = b) := ⟨A.out.1, by rw [← A.out.2.1]; exact A.out.2.2, hb⟩
      clear hb A
      have hab : ((a : Int) == (a : Int) + n) = false := beq_eq_false_iff_ne.2 (by omega)
      go_wp2_with (go_at_fn 207; fail)
      refine (hb1 _ (by omega)).mono ?_
      rintro e w' ⟨rfl, rfl⟩
      by_cases h3 : a + n + b = s.size
      · have h3z : ((a : Int) + n + b == s.size) = true := by rw [beq_iff_eq]; omega
        go_wp2_with fail
        (try simp only [Exit.inBlock, Exit.then]); refine bodyPost_ret (ret_cell_tmp rfl rfl (row_set (row_set (row_set (row_set hF.2 0 _) 0 _) 1 _) 2 _) Tryz.underlying228 rfl (by kernel_rfl)) rfl ?_
        refine ⟨_, _, _, _, rfl, (((hbl.setCell (Nat.le_refl _) _).setCell (Nat.le_refl _) _).setCell (Nat.le_refl _) _).setCell (Nat.le_refl _) _, ?_⟩
        rw [propF_1 (bs s) a n b B.out.1 B.out.2.1 h0 B.out.2.2 (by rw [bs_length]; exact h3)]
        refine ⟨rfl, ?_, rfl, rfl⟩
        rw [ext_bs, Nat.add_sub_cancel_left]
      · have h3z : ((a : Int) + n + b == s.size) = false := beq_eq_false_iff_ne.2 (by omega)
        have h3l : a + n + b < s.size := by omega
        obtain ⟨c, hc⟩ : ∃ c, s[a + n + b] = c := ⟨_, rfl⟩
        have hdr := bs_drop s (a + n + b) h3l
        rw [hc] at hdr
        have hix := run_idx s ((a : Int) + n + b) (a + n + b) (by omega) h3l c hc
        have e61 : ((⟨#[61]⟩ : ByteArray)[0]'(by decide)).toNat = 61 := rfl
        have C : Aside ((bs s).drop (a + n + b) = c :: (bs s).drop (a + n + b + 1)) := hdr
        clear hdr
        by_cases hc61 : c = 61
        · have hcz : ((c.toNat : Int) != 61) = false := by rw [hc61]; decide
          have C : Aside ((bs s).drop (a + n + b) = 61 :: (bs s).drop (a + n + b + 1)) := by have := C.out; rw [hc61] at this; exact this
          clear hc61
          have hb2 := hsk (a + n + b + 1)
          obtain ⟨d, hd⟩ : ∃ d, skipN ((bs s).drop (a + n + b + 1)) = d := ⟨_, rfl⟩
          have hdle := skipN_le ((bs s).drop (a + n + b + 1))
          rw [hd, List.length_drop, bs_length] at hdle
          rw [hd, Int.natCast_add, Int.natCast_add, Int.natCast_add] at hb2
          obtain ⟨t2, ht2⟩ : ∃ t2, s.extract (a + n + b + 1 + d) s.size = t2 := ⟨_, rfl⟩
          have hbt2 : bs t2 = (bs s).drop (a + n + b + 1 + d) := by rw [← ht2, ext_bs, ← bs_length, ← List.length_drop, List.take_length]
          have hts2 : t2.size + (a + n + b + 1 + d) = s.size := by
            have := congrArg List.length hbt2
            rw [bs_length, List.length_drop, bs_length] at this
            omega
          obtain ⟨m, hm⟩ : ∃ m, spanN oct (bs t2) = m := ⟨_, rfl⟩
          have hml := spanN_le oct (bs t2)
          rw [bs_length, hm] at hml
          have D : Aside (skipN ((bs s).drop (a + n + b + 1)) = d ∧ bs t2 = (bs s).drop (a + n + b + 1 + d) ∧ spanN oct (bs t2) = m) := ⟨hd, hbt2, hm⟩
          clear hd hbt2 hm
          go_wp2_with fail
          go_quiet (fail)
          have hFd : Fd w (wc.drewN nq) := hF.below (below_drewN' (Below.refl _ _) nq)
          clear hF hbl c0 c1 c2 f0 f1 f2
          generalize wc.drewN nq = wd at hFd ⊢
          go_upto_block 2 with (go_at_fn 207; fail)
          refine (hb2 _ (by omega)).mono ?_
          rintro e w' ⟨rfl, rfl⟩
          go_upto_block 2 with fail
          simp only [ht2]
          go_cut [10] (fun v W => v = .int .i64 ((a : Int) + n + b + 1 + d + m) ∧ Fd w W)
          case first =>
            go_wp2_with fail
            go_loopg [10, 12] (t2.size + 1) (fun gk v c wx => ∃ (k : Nat), wx = wd.iter t2 k ∧ v = .int .i64 ((a : Int) + n + b + 1 + d + k) ∧ k ≤ t2.size ∧ k + gk = t2.size + 1 ∧ Aside (spanN oct ((bs t2).drop k) + k = m))
            case atStart => exact ⟨0, rfl, by simp, by omega, by omega, D.out.2.2⟩
            case round =>
              obtain ⟨k, rfl, rfl, hk, hg, hd⟩ := hrel
              by_cases hlt : k < t2.size
              · have hrn := run_next_any (P := Tryz.prog) wd t2 k 0 hlt
                have hd' := hd.out
                rw [bs_drop t2 k hlt, spanN_cons] at hd'
                clear hd D
                by_cases hc128 : (t2[k]).toNat < 128
                · rw [decode_ascii t2 k hlt hc128] at hrn
                  obtain ⟨c, hc⟩ : ∃ c, t2[k] = c := ⟨_, rfl⟩
                  rw [hc] at hrn hd' hc128
                  obtain ⟨r, hbt⟩ : ∃ r, oct c = r := ⟨_, rfl⟩
                  have hcall := validateValueChar_any (c.toNat : Int) (wd.iter t2 (k + 1)) (hw.below (hFd.iter t2 _).1) (by omega) (by omega)
                  rw [show valB (c.toNat : Int) = r from hbt] at hcall
                  rw [hbt] at hd'
                  have E : Aside ((if r then spanN oct ((bs t2).drop (k + 1)) + 1 else 0) + k = m) := hd'
                  clear hd' hc hbt
                  go_wp2_with fail
                  refine hcall.mono ?_
                  rintro e w' ⟨rfl, rfl⟩
                  cases r
                  · go_wp2_with fail
                    go_meet
                    exact ⟨by have := E.out; simp at this; subst this; rfl, hFd.iter t2 _⟩
                  · go_wp2_with fail
                    go_roundg (gk - 1)
                    case rel => exact ⟨k + 1, rfl, by go_num, by omega, by omega, by have := E.out; simp at this; show _ = _; omega⟩
                    case measure => omega
                · have hc := decode_high t2 k hlt (by omega)
                  have hle := decode_le t2 k
                  obtain ⟨c, hcc⟩ : ∃ c, (Utf8.decode t2 k).1 = c := ⟨_, rfl⟩
                  rw [hcc] at hrn hc hle
                  have hcall := fun W hW => (validateValueChar_any (c : Int) W hW (by omega) (by omega))
                  rw [valB_high (c : Int) (by omega)] at hcall
                  have hf : oct t2[k] = false := valB_high _ (by omega)
                  rw [hf] at hd'
                  have E : Aside (k = m) := by show _ = _; simpa using hd'
                  clear hd' hf hc128
                  go_wp2_with fail
                  refine (hcall _ (hw.below (hFd.iter t2 _).1)).mono ?_
                  rintro e w' ⟨rfl, rfl⟩
                  go_wp2_with fail
                  go_meet
                  exact ⟨by rw [E.out], hFd.iter t2 _⟩
              · have hrn := run_next_end (P := Tryz.prog) wd t2 k 0 hlt
                have E : Aside (k = m) := by
                  have := hd.out
                  rw [bs_drop_all t2 k (by omega)] at this
                  show _ = _
                  simpa [spanN] using this
                go_wp2_with fail
                go_meet
                exact ⟨by rw [E.out], hFd.iter t2 _⟩
          case rest =>
            obtain ⟨rfl, hG⟩ := hcut
            clear hFd
            have hgl := hG.1
            have c0 : wc.cell? ⟨w.heap.size, 0, none⟩ = some (.string ⟨#[]⟩) := by rw [cell_of_row _ _ _ _ _ _ hG.2]; rfl
            have f0 : wc.frozen? ⟨w.heap.size, 0, none⟩ = false := by simp [World.frozen?, hG.2]
            have c1 : wc.cell? ⟨w.heap.size, 1, none⟩ = some (.string ⟨#[]⟩) := by rw [cell_of_row _ _ _ _ _ _ hG.2]; rfl
            have f1 : wc.frozen? ⟨w.heap.size, 1, none⟩ = false := by simp [World.frozen?, hG.2]
            have c2 : wc.cell? ⟨w.heap.size, 2, none⟩ = some (.bool false) := by rw [cell_of_row _ _ _ _ _ _ hG.2]; rfl
            have f2 : wc.frozen? ⟨w.heap.size, 2, none⟩ = false := by simp [World.frozen?, hG.2]
            have hb3 := hsk (a + n + b + 1 + d + m)
            obtain ⟨x, hx⟩ : ∃ x, skipN ((bs s).drop (a + n + b + 1 + d + m)) = x := ⟨_, rfl⟩
            have hxle := skipN_le ((bs s).drop (a + n + b + 1 + d + m))
            rw [hx, List.length_drop, bs_length] at hxle
            rw [hx, Int.natCast_add, Int.natCast_add, Int.natCast_add, Int.natCast_add, Int.natCast_add] at hb3
            have PF : Aside (propF (bs s) = _) := propF_3 (bs s) a n b d m x B.out.1 B.out.2.1 h0 B.out.2.2 C.out D.out.1 (by rw [← D.out.2.1]; exact D.out.2.2) hx
            clear hx
            go_wp2_with (go_at_fn 207; fail)
            refine (hb3 _ (by omega)).mono ?_
            rintro e w' ⟨rfl, rfl⟩
            by_cases hend : a + n + b + 1 + d + m + x = s.size
            · have hez : ((a : Int) + n + b + 1 + d + m + x != s.size) = false := by simp; omega
              obtain ⟨v, hv⟩ : ∃ v, s.extract (a + n + b + 1 + d) (a + n + b + 1 + d + m) = v := ⟨_, rfl⟩
              have hbv : bs v = ((bs s).drop (a + n + b + 1 + d)).take m := by rw [← hv, ext_bs, Nat.add_sub_cancel_left]
              have hvs : v.size ≤ s.size := by
                rw [← bs_length, hbv, List.length_take, List.length_drop, bs_length]
                omega
              have hpe := validPercentEncoding_any v
              obtain ⟨r, hr⟩ : ∃ r, (unesc (bs v)).isSome = r := ⟨_, rfl⟩
              rw [hr] at hpe
              have PF2 : Aside (propF (bs s) = if r then some (((bs s).drop a).take n, some (bs v)) else none) := by
                have := PF.out
                rw [if_pos (by rw [bs_length]; omega), ← hbv, hr] at this
                exact this
              clear PF hr hbv
              cases r
              · go_wp2_with (go_at_fn 208; fail)
                refine (hpe _ (by omega)).mono ?_
                rintro e w' ⟨rfl, rfl⟩
                go_wp2_with fail
                (try simp only [Exit.inBlock, Exit.then]); refine bodyPost_ret (ret_cell_tmp rfl rfl (row_set (row_set (row_set hG.2 0 _) 1 _) 2 _) Tryz.underlying228 rfl (by kernel_rfl)) rfl ?_
                refine ⟨_, _, _, _, rfl, (((hgl.setCell (Nat.le_refl _) _).setCell (Nat.le_refl _) _).setCell (Nat.le_refl _) _), ?_⟩
                rw [PF2.out]
                rfl
              · go_wp2_with (go_at_fn 208; fail)
                refine (hpe _ (by omega)).mono ?_
                rintro e w' ⟨rfl, rfl⟩
                go_wp2_with fail
                (try simp only [Exit.inBlock, Exit.then]); refine bodyPost_ret (ret_cell_tmp rfl rfl (row_set (row_set (row_set (row_set (row_set (row_set hG.2 0 _) 1 _) 2 _) 0 _) 1 _) 2 _) Tryz.underlying228 rfl (by kernel_rfl)) rfl ?_
                refine ⟨_, _, _, _, rfl, ((((((hgl.setCell (Nat.le_refl _) _).setCell (Nat.le_refl _) _).setCell (Nat.le_refl _) _).setCell (Nat.le_refl _) _).setCell (Nat.le_refl _) _).setCell (Nat.le_refl _) _), ?_⟩
                rw [PF2.out]
                refine ⟨rfl, ?_, rfl, rfl⟩
                rw [ext_bs, Nat.add_sub_cancel_left]
            · have hez : ((a : Int) + n + b + 1 + d + m + x != s.size) = true := by simp; omega
              go_wp2_with fail
              (try simp only [Exit.inBlock, Exit.then]); refine bodyPost_ret (ret_cell_tmp rfl rfl (row_set (row_set (row_set hG.2 0 _) 1 _) 2 _) Tryz.underlying228 rfl (by kernel_rfl)) rfl ?_
              refine ⟨_, _, _, _, rfl, (((hgl.setCell (Nat.le_refl _) _).setCell (Nat.le_refl _) _).setCell (Nat.le_refl _) _), ?_⟩
              rw [PF.out, if_neg (by rw [bs_length]; omega)]
        · have hcz : ((c.toNat : Int) != 61) = true := by
            have h1 : ((c.toNat : Int) != 61) = !(c == 61) := u8_ne c 61 (by omega)
            rw [h1, beq_eq_false_iff_ne.2 hc61]
            rfl
          go_wp2_with fail
          go_quiet (fail)
          have hFd : Fd w (wc.drewN nq) := hF.below (below_drewN' (Below.refl _ _) nq)
          clear hF hbl c0 c1 c2 f0 f1 f2
          generalize wc.drewN nq = wd at hFd ⊢
          have c0 : wd.cell? ⟨w.heap.size, 0, none⟩ = some (.string ⟨#[]⟩) := by rw [cell_of_row _ _ _ _ _ _ hFd.2]; rfl
          have f0 : wd.frozen? ⟨w.heap.size, 0, none⟩ = false := by simp [World.frozen?, hFd.2]
          have c1 : wd.cell? ⟨w.heap.size, 1, none⟩ = some (.string ⟨#[]⟩) := by rw [cell_of_row _ _ _ _ _ _ hFd.2]; rfl
          have f1 : wd.frozen? ⟨w.heap.size, 1, none⟩ = false := by simp [World.frozen?, hFd.2]
          have c2 : wd.cell? ⟨w.heap.size, 2, none⟩ = some (.bool false) := by rw [cell_of_row _ _ _ _ _ _ hFd.2]; rfl
          have f2 : wd.frozen? ⟨w.heap.size, 2, none⟩ = false := by simp [World.frozen?, hFd.2]
          go_wp2_with fail
          (try simp only [Exit.inBlock, Exit.then]); refine bodyPost_ret (ret_cell_tmp rfl rfl (row_set (row_set (row_set hFd.2 0 _) 1 _) 2 _) Tryz.underlying228 rfl (by kernel_rfl)) rfl ?_
          refine ⟨_, _, _, _, rfl, (((hFd.1.setCell (Nat.le_refl _) _).setCell (Nat.le_refl _) _).setCell (Nat.le_refl _) _), ?_⟩
          rw [propF_2 (bs s) _ a n b c B.out.1 B.out.2.1 h0 B.out.2.2 C.out hc61]
end Go.Proofs.YtleofgndghjflaaGreatDoor

set_option linter.unusedVariables false
set_option linter.unusedSimpArgs false
namespace Go.Proofs.YtleofgndghjflaaGreatDoor
open Go Go.RowKit

def repL : Nat → List UInt8 → List UInt8
  | 0, _ => []
  | n + 1, l => if l = [] then [] else Lib.encodeRune (Lib.decodeL l).1 ++ repL n (l.drop (Lib.decodeL l).2)
theorem repL_nil : ∀ n, repL n [] = []
  | 0 => rfl
  | _ + 1 => by simp [repL]
theorem repL_fuel : ∀ (n m : Nat) (l : List UInt8), l.length ≤ n → l.length ≤ m → repL n l = repL m l
  | 0, m, l, hn, _ => by
    have : l = [] := List.eq_nil_of_length_eq_zero (by omega)
    subst this
    rw [repL_nil, repL_nil]
  | n + 1, 0, l, _, hm => by
    have : l = [] := List.eq_nil_of_length_eq_zero (by omega)
    subst this
    rw [repL_nil, repL_nil]
  | n + 1, m + 1, l, hn, hm => by
    unfold repL
    by_cases hne : l = []
    · simp [hne]
    · have hw := Lib.decodeL_width l
      have hl : 0 < l.length := List.length_pos_iff.2 hne
      rw [if_neg hne, if_neg hne, repL_fuel n m (l.drop (Lib.decodeL l).2) (by rw [List.length_drop]; omega) (by rw [List.length_drop]; omega)]
/-- Each rune written anew. -/
def rep (l : List UInt8) : List UInt8 := repL l.length l
theorem rep_nil : rep [] = [] := rfl
theorem rep_step (l : List UInt8) (hne : l ≠ []) : rep l = Lib.encodeRune (Lib.decodeL l).1 ++ rep (l.drop (Lib.decodeL l).2) := by
  have hl : 0 < l.length := List.length_pos_iff.2 hne
  have hw := Lib.decodeL_width l
  obtain ⟨n, hn⟩ : ∃ n, l.length = n + 1 := ⟨l.length - 1, by omega⟩
  unfold rep
  rw [hn]
  show (if l = [] then [] else _) = _
  rw [if_neg hne, repL_fuel n (l.drop (Lib.decodeL l).2).length _ (by rw [List.length_drop]; omega) (Nat.le_refl _)]
def fixU (l : List UInt8) : List UInt8 := if Lib.validD l then l else rep l
theorem encRune_len (r : Int) : (Lib.encodeRune r).length ≤ 4 := by
  have := Lib.runeCells_le r
  rw [← Lib.byteCells_encodeRune, Lib.byteCells_length] at this
  exact this.2

theorem Bd.below {B b : Nat} {l : List UInt8} {w w' : World} (h : Bd B b l w) (hb : Below w.heap.size w w') : Bd B b l w' := by
  obtain ⟨h1, v, h2, h3, h4⟩ := h
  exact ⟨h1, v, (hb.block _ (Array.getElem?_eq_some_iff.1 h2).1).trans h2, own_below (C := 0) h3 hb, h4⟩

theorem decGo_ext (s : ByteArray) (k : Nat) (h : k < s.size) : Lib.decodeGo (s.extract k s.size) = Lib.decodeL ((bs s).drop k) ∧ (Lib.decodeL ((bs s).drop k)).2 + k ≤ s.size := by
  have hx : (s.extract k s.size).data.toList = (bs s).drop k := by
    show bs (s.extract k s.size) = _
    rw [ext_bs, ← bs_length, ← List.length_drop, List.take_length]
  have hz : (s.extract k s.size).size = s.size - k := ext_size s k s.size (Nat.le_refl _)
  have h1 : Lib.decodeGo (s.extract k s.size) = Lib.decodeL ((bs s).drop k) := by
    unfold Lib.decodeGo
    rw [if_neg (by omega), ← Lib.decodeL_drop (s.extract k s.size) 0, List.drop_zero, hx]
  have h2 := Lib.decodeGo_le_size (s.extract k s.size)
  rw [h1, hz] at h2
  exact ⟨h1, by omega⟩

set_option maxHeartbeats 1000000 in
set_option maxRecDepth 100000 in
theorem replaceInvalid_any (c : Nat) (s : ByteArray) (w : World) (hw : Laid w) (hs : s.size ≤ 1000000) (hc : c ≤ 1000000) :
    Calls Tryz.prog 132 #[.int .i64 c, .string s] w fun e w' => e = .returned (S (fixU (bs s))) ∧ Below w.heap.size w w' := by
  have hv := Tryz.utf8_ValidString s w (by omega) hw.utf8
  obtain ⟨R, hR⟩ : ∃ R, S (fixU (bs s)) = R := ⟨_, rfl⟩
  rw [hR]
  obtain ⟨b, hb⟩ : ∃ b, Lib.validD (bs s) = b := ⟨_, rfl⟩
  unfold bs at hb
  rw [hb] at hv
  have A : Aside (S (fixU (bs s)) = R ∧ Lib.validD (bs s) = b) := ⟨hR, hb⟩
  clear hR hb
  go_enter Tryz.func132, Tryz.ntmps132
  go_wp2_with (go_at_fn 70; fail)
  refine hv.mono ?_
  rintro e w1 ⟨rfl, hb1⟩
  cases b
  · have hgr := Tryz.Builder_Grow_fresh w.heap.size w1.heap.size c (w1.alloc (.cells #[.pointer none, .slice none 0 0] 109)) hb1.size (heap_alloc_new _ _) (by have := hb1.size; simp; omega) (by omega)
    go_wp2_with (go_at_fn 50; fail)
    refine hgr.mono ?_
    rintro e w2 ⟨rfl, hbd, hb2⟩
    have hbd : Bd w.heap.size w1.heap.size [] w2 := hbd
    have hb3 : Below w.heap.size w w2 := (hb1.alloc hb1.size _).trans hb2
    go_wp2_with fail
    go_loopg [6] (s.size + 1) (fun gk i wx => Below w.heap.size w wx ∧ ∃ (k : Nat) (acc : List UInt8), i = .int .i64 k ∧ k ≤ s.size ∧ k + gk = s.size + 1 ∧ acc.length ≤ 4 * k ∧ Bd w.heap.size w1.heap.size acc wx ∧ Aside (acc ++ rep ((bs s).drop k) = rep (bs s)))
    case atStart => exact ⟨hb3, 0, [], rfl, by omega, by omega, by simp, hbd, by show _ = _; simp⟩
    case round =>
      clear hbd hb3 hv hgr hb2
      obtain ⟨hb, k, acc, rfl, hk, hg, hal, hbd, hX⟩ := hrel
      have hbs := hb.size
      by_cases hlt : k < s.size
      · obtain ⟨t, ht⟩ : ∃ t, s.extract k s.size = t := ⟨_, rfl⟩
        have hdg := decGo_ext s k hlt
        have hwid := Lib.decodeL_width ((bs s).drop k)
        have hru := Lib.decodeL_rune ((bs s).drop k)
        have hst := rep_step ((bs s).drop k) (by intro h; have := congrArg List.length h; rw [List.length_drop, bs_length] at this; simp at this; omega)
        obtain ⟨r, hr⟩ : ∃ r, (Lib.decodeL ((bs s).drop k)).1 = r := ⟨_, rfl⟩
        obtain ⟨z, hz⟩ : ∃ z, (Lib.decodeL ((bs s).drop k)).2 = z := ⟨_, rfl⟩
        rw [ht] at hdg
        rw [hz] at hdg hwid
        rw [hr] at hru
        rw [hr, hz, List.drop_drop] at hst
        have hde := Tryz.utf8_DecodeRuneInString t wr (hw.below hb).utf8
        rw [hdg.1, hr, hz] at hde
        have hdz := hdg.2
        have X : Aside ((acc ++ Lib.encodeRune r) ++ rep ((bs s).drop (k + z)) = rep (bs s)) := by
          have := hX.out
          rw [hst] at this
          rw [List.append_assoc]
          exact this
        have hen := encRune_len (r : Int)
        clear hdg hst hX hr hz
        go_wp2_with (go_at_fn 172; fail)
        refine hde.mono ?_
        rintro e w3 ⟨rfl, hb4⟩
        have hbd3 := hbd.below hb4
        have hb5 : Below w.heap.size w w3 := below_then hb hbs hb4
        have hbs3 := hb5.size
        clear hde hb4 hbd
        have hWS := WriteString_any w.heap.size w1.heap.size acc ⟨#[239, 191, 189]⟩ w3 hbd3 (by simp [ByteArray.size]; omega) hbs3
        have hWR := WriteRune_any w.heap.size w1.heap.size acc (r : Int) (by omega) (by omega) w3 hbd3 (by omega) hbs3
        by_cases hr1 : r = 65533
        · have hrz : ((r : Int) == 65533) = true := by rw [beq_iff_eq]; omega
          by_cases hz1 : z = 1
          · have hzz : ((z : Int) == 1) = true := by rw [beq_iff_eq]; omega
            have X : Aside ((acc ++ bs ⟨#[239, 191, 189]⟩) ++ rep ((bs s).drop (k + z)) = rep (bs s)) := by have := X.out; rw [hr1] at this; exact this
            have hen : (bs ⟨#[239, 191, 189]⟩).length = 3 := rfl
            clear hr1 hz1
            go_wp2_with (first | (go_at_fn 51; fail) | (go_at_fn 173; fail))
            refine hWS.mono ?_
            rintro e w4 ⟨rfl, hbd4, hb6⟩
            have hb7 : Below w.heap.size w w4 := hb5.trans hb6
            clear hWS hWR hb6 hbd3
            go_wp2_with fail
            go_roundg (gk - z)
            case rel => exact ⟨hb7, k + z, acc ++ bs ⟨#[239, 191, 189]⟩, by go_num, by omega, by omega, by rw [List.length_append]; omega, hbd4, X⟩
            case measure => omega
          · have hzz : ((z : Int) == 1) = false := beq_eq_false_iff_ne.2 (by omega)
            clear hr1 hz1
            go_wp2_with (first | (go_at_fn 51; fail) | (go_at_fn 173; fail))
            refine hWR.mono ?_
            rintro e w4 ⟨rfl, hbd4, hb6⟩
            have hb7 : Below w.heap.size w w4 := hb5.trans hb6
            clear hWS hWR hb6 hbd3
            go_wp2_with fail
            go_roundg (gk - z)
            case rel => exact ⟨hb7, k + z, acc ++ Lib.encodeRune r, by go_num, by omega, by omega, by rw [List.length_append]; omega, hbd4, X⟩
            case measure => omega
        · have hrz : ((r : Int) == 65533) = false := beq_eq_false_iff_ne.2 (by omega)
          clear hr1
          go_wp2_with (first | (go_at_fn 51; fail) | (go_at_fn 173; fail))
          refine hWR.mono ?_
          rintro e w4 ⟨rfl, hbd4, hb6⟩
          have hb7 : Below w.heap.size w w4 := hb5.trans hb6
          clear hWS hWR hb6 hbd3
          go_wp2_with fail
          go_roundg (gk - z)
          case rel => exact ⟨hb7, k + z, acc ++ Lib.encodeRune r, by go_num, by omega, by omega, by rw [List.length_append]; omega, hbd4, X⟩
          case measure => omega
      · have hst := Tryz.Builder_String_any w.heap.size w1.heap.size acc wr (.inr hbd) hbs
        have Y : Aside (S acc = R) := by
          show _ = _
          have := hX.out
          rw [List.drop_eq_nil_of_le (by rw [bs_length]; omega), rep_nil, List.append_nil] at this
          rw [← A.out.1, fixU, A.out.2, this]
          rfl
        clear hX
        go_wp2_with (go_at_fn 53; fail)
        refine hst.mono ?_
        rintro e w4 ⟨rfl, hb6⟩
        go_wp2_with fail
        go_ret
        exact ⟨congrArg Ending.returned Y.out, hb.trans hb6⟩
  · go_wp2_with fail
    go_ret
    refine ⟨?_, hb1⟩
    rw [← A.out.1, fixU, A.out.2, if_pos rfl, S_bs]
    try rfl
end Go.Proofs.YtleofgndghjflaaGreatDoor

set_option linter.unusedVariables false
set_option linter.unusedSimpArgs false
namespace Go.Proofs.YtleofgndghjflaaGreatDoor
open Go Go.RowKit

theorem unesc_len : ∀ (n : Nat) (l u : List UInt8), l.length ≤ n → unesc l = some u → u.length ≤ l.length
  | _, [], u, _, h => by rw [unesc_nil] at h; injection h with h; subst h; exact Nat.le_refl _
  | n + 1, c :: r, u, hn, h => by
    by_cases hc : c = 37
    · subst hc
      match r, h with
      | [], h => rw [unesc_short [] (by simp)] at h; cases h
      | [a], h => rw [unesc_short [a] (by simp)] at h; cases h
      | a :: b :: r, h =>
        rw [unesc_pct] at h
        split at h
        · obtain ⟨v, hv, rfl⟩ := Option.map_eq_some_iff.1 h
          have := unesc_len n r v (by simp at hn; omega) hv
          simp
          omega
        · cases h
    · rw [unesc_plain c r hc] at h
      obtain ⟨v, hv, rfl⟩ := Option.map_eq_some_iff.1 h
      have := unesc_len n r v (by simpa using hn) hv
      simpa using this
theorem unesc_le {l u : List UInt8} (h : unesc l = some u) : u.length ≤ l.length := unesc_len _ l u (Nat.le_refl _) h

/-- A property: its key, and its value, if it has one. -/
abbrev Pr := List UInt8 × Option (List UInt8)
def propI (l : List UInt8) : Option Pr := match propF l with
  | none => none
  | some (k, none) => some (k, none)
  | some (k, some v) => (unesc v).map fun u => (k, some (fixU u))
theorem propF_pct (l : List UInt8) (k v : List UInt8) (h : propF l = some (k, some v)) : (unesc v).isSome = true := by
  unfold propF at h
  simp only at h
  split at h
  · cases h
  · split at h
    · simp at h
    · split at h
      · split at h
        · split at h
          · rename_i hs
            simp only [Option.some.injEq, Prod.mk.injEq] at h
            rw [← h.2]
            exact hs
          · cases h
        · cases h
      · cases h
theorem propF_le (l k v : List UInt8) (h : propF l = some (k, some v)) : v.length ≤ l.length := by
  unfold propF at h
  simp only at h
  split at h
  · cases h
  · split at h
    · simp at h
    · rename_i c l4 hl
      split at h
      · split at h
        · split at h
          · simp only [Option.some.injEq, Prod.mk.injEq] at h
            rw [← h.2, List.length_take, List.length_drop]
            have := congrArg List.length hl
            simp only [List.length_drop, List.length_cons] at this
            omega
          · cases h
        · cases h
      · cases h
def pcells (p : Pr) : List Value := [S p.1, S (p.2.getD []), .bool p.2.isSome]
def pagg (p : Pr) : Value := .agg (pcells p).toArray
def noPr : Pr := ([], none)

theorem row3 {w : World} {g : Nat} {a b c : Value} {t : TypeId} (h : w.heap[g]? = some (.cells #[a, b, c] t (0, 0))) :
    (w.cell? ⟨g, 0, none⟩ = some a ∧ w.cell? ⟨g, 1, none⟩ = some b ∧ w.cell? ⟨g, 2, none⟩ = some c) ∧
    w.frozen? ⟨g, 0, none⟩ = false ∧ w.frozen? ⟨g, 1, none⟩ = false ∧ w.frozen? ⟨g, 2, none⟩ = false := by
  refine ⟨⟨?_, ?_, ?_⟩, ?_, ?_, ?_⟩
  · rw [cell_of_row _ _ _ _ _ _ h]; rfl
  · rw [cell_of_row _ _ _ _ _ _ h]; rfl
  · rw [cell_of_row _ _ _ _ _ _ h]; rfl
  · simp [World.frozen?, h]
  · simp [World.frozen?, h]
  · simp [World.frozen?, h]

theorem row_drew {W : World} {g : Nat} {x : Obj} (h : W.heap[g]? = some x) : W.drew.heap[g]? = some x := h
theorem cellg_set (W : World) (b o g i : Nat) (v : Value) (h : b ≠ g) : (W.setCell ⟨g, i, none⟩ v).cell? ⟨b, o, none⟩ = W.cell? ⟨b, o, none⟩ := by
  unfold World.cell?
  simp only [Below.heap_setCell W ⟨g, i, none⟩ v b h]
theorem cellg_alloc (W : World) (b o : Nat) (x : Obj) (h : b < W.heap.size) : (W.alloc x).cell? ⟨b, o, none⟩ = W.cell? ⟨b, o, none⟩ := by
  unfold World.cell?
  simp only [Below.heap_alloc W x b h]
theorem cellg_drew (W : World) (b o : Nat) : W.drew.cell? ⟨b, o, none⟩ = W.cell? ⟨b, o, none⟩ := rfl
theorem row_alloc {W : World} {g : Nat} {x : Obj} (h : W.heap[g]? = some x) (o : Obj) : (W.alloc o).heap[g]? = some x :=
  (Below.heap_alloc W o g (Array.getElem?_eq_some_iff.1 h).1).trans h

set_option maxHeartbeats 1000000 in
set_option maxRecDepth 100000 in
theorem newInvalidProperty_any (w : World) : Calls Tryz.prog 117 #[] w fun e w' => e = .returned (.agg #[.string ⟨#[]⟩, .string ⟨#[]⟩, .bool false]) ∧ w' = w.alloc (.cells #[.string ⟨#[]⟩, .string ⟨#[]⟩, .bool false] 86) := by
  go_enter Tryz.func117, Tryz.ntmps117
  go_wp2_with fail
  (try simp only [Exit.inBlock, Exit.then]); refine bodyPost_ret (results_cell_row rfl _ _ w.heap.size 86 _ (0, 0) _ rfl (heap_alloc_new _ _) Tryz.underlying86 rfl (by kernel_rfl)) rfl ?_
  exact ⟨rfl, rfl⟩

set_option maxHeartbeats 1000000 in
set_option maxRecDepth 100000 in
theorem parsePropertyInternal_any (s : ByteArray) (w : World) (hw : Laid w) (hs : s.size ≤ 1000000) :
    Calls Tryz.prog 206 #[.string s] w fun e w' => e = .returned (.tuple #[pagg ((propI (bs s)).getD noPr), .bool (propI (bs s)).isSome]) ∧ Below w.heap.size w w' := by
  obtain ⟨R, hR⟩ : ∃ R : Value, .tuple #[pagg ((propI (bs s)).getD noPr), .bool (propI (bs s)).isSome] = R := ⟨_, rfl⟩
  rw [hR]
  have A : Aside (.tuple #[pagg ((propI (bs s)).getD noPr), .bool (propI (bs s)).isSome] = R) := hR
  clear hR
  have hb0 : Below w.heap.size w (w.alloc (.cells #[.string ⟨#[]⟩, .string ⟨#[]⟩, .bool false] 86)) := (Below.refl _ _).alloc (Nat.le_refl _) _
  have hpf := parsePropertyFields_any s _ (hw.below hb0) hs
  go_enter Tryz.func206, Tryz.ntmps206
  go_wp2_with (go_at_fn 170; fail)
  refine hpf.mono ?_
  rintro e w1 ⟨kb, vb, hb, ok, rfl, hbel, hm⟩
  clear hpf
  have hp : w1.heap[w.heap.size]? = some (.cells #[.string ⟨#[]⟩, .string ⟨#[]⟩, .bool false] 86 (0, 0)) := (hbel.block _ (by simp)).trans (heap_alloc_new _ _)
  have hb1 : Below w.heap.size w w1 := below_then hb0 (by simp) hbel
  have hlt : w.heap.size < w1.heap.size := (Array.getElem?_eq_some_iff.1 hp).1
  clear hbel hb0
  obtain ⟨⟨c0, c1, c2⟩, f0, f1, f2⟩ := row3 hp
  cases hpf : propF (bs s) with
  | none =>
    rw [hpf] at hm
    subst hm
    go_wp2_with fail
    (try simp only [Exit.inBlock, Exit.then]); refine bodyPost_ret (ret_cell_tmp rfl rfl (row_alloc (row_set (row_set (row_set hp 0 _) 1 _) 2 _) _) Tryz.underlying86 rfl (by kernel_rfl)) rfl ?_
    refine ⟨?_, ((((hb1.setCell (Nat.le_refl _) _).setCell (Nat.le_refl _) _).setCell (Nat.le_refl _) _).alloc (by simp; omega) _)⟩
    rw [← A.out, propI, hpf]
    rfl
  | some q =>
    obtain ⟨k, v⟩ := q
    cases v with
    | none =>
      rw [hpf] at hm
      obtain ⟨rfl, hk, hv, rfl⟩ := hm
      have A2 : Aside (.tuple #[.agg #[.string kb, .string ⟨#[]⟩, .bool false], .bool true] = R) := by
        show _ = _
        rw [← A.out, propI, hpf, S_bs kb, hk]
        rfl
      clear hk hv A hpf
      go_wp2_with fail
      (try simp only [Exit.inBlock, Exit.then]); refine bodyPost_ret (ret_cell_tmp rfl rfl (row_alloc (row_set (row_set (row_set (row_set hp 0 _) 0 _) 1 _) 2 _) _) Tryz.underlying86 rfl (by kernel_rfl)) rfl ?_
      exact ⟨congrArg Ending.returned A2.out, (((((hb1.setCell (Nat.le_refl _) _).setCell (Nat.le_refl _) _).setCell (Nat.le_refl _) _).setCell (Nat.le_refl _) _).alloc (by simp; omega) _)⟩
    | some v =>
      have hps := propF_pct _ _ _ hpf
      have hvl := propF_le _ _ _ hpf
      rw [hpf] at hm
      obtain ⟨rfl, hk, hv, rfl⟩ := hm
      rw [← hv, bs_length, bs_length] at hvl
      obtain ⟨u, hu⟩ := Option.isSome_iff_exists.1 hps
      have hul := unesc_le hu
      rw [← hv, bs_length] at hul
      have hb2 : Below w.heap.size w (w1.alloc (.cells #[.string kb, .string vb, .bool true] 228)) := hb1.alloc (by omega) _
      have hun := zzPathUnescape_any vb (w1.alloc (.cells #[.string kb, .string vb, .bool true] 228)) (by omega)
      have A2 : Aside (.tuple #[.agg #[.string kb, S (fixU u), .bool true], .bool true] = R) := by
        show _ = _
        rw [← A.out, propI, hpf]
        simp only [hu]
        rw [S_bs kb, hk]
        rfl
      have U : Aside (unesc (bs vb) = some u) := by rw [hv]; exact hu
      clear hk hv A hpf hps hu
      go_wp2_with (go_at_fn 119; fail)
      refine hun.mono ?_
      rintro e w2 ⟨hbel2, hm⟩
      rw [U.out] at hm
      subst hm
      have hp2 : w2.heap[w.heap.size]? = some (.cells #[.string ⟨#[]⟩, .string ⟨#[]⟩, .bool false] 86 (0, 0)) := (hbel2.block _ (by simp; omega)).trans (row_alloc hp _)
      have hq2 : w2.heap[w1.heap.size]? = some (.cells #[.string kb, .string vb, .bool true] 228 (0, 0)) := (hbel2.block _ (by simp)).trans (heap_alloc_new _ _)
      have hb3 : Below w.heap.size w w2 := below_then hb2 hb2.size hbel2
      have hfx := replaceInvalid_any vb.size ⟨u.toArray⟩ w2 (hw.below hb3) (by simp [ByteArray.size]; omega) (by omega)
      have hbu : bs ⟨u.toArray⟩ = u := by simp [bs]
      rw [hbu] at hfx
      obtain ⟨fx, hfe⟩ : ∃ fx : ByteArray, S (fixU u) = .string fx := ⟨_, rfl⟩
      rw [hfe] at hfx A2
      clear hfe
      clear c0 c1 c2 f0 f1 f2 hun hbel2 hb2 hbu
      obtain ⟨⟨c0, c1, c2⟩, f0, f1, f2⟩ := row3 hp2
      obtain ⟨⟨d0, d1, d2⟩, g0, g1, g2⟩ := row3 hq2
      go_wp2_with (go_at_fn 132; fail)
      refine hfx.mono ?_
      rintro e w3 ⟨rfl, hbel3⟩
      have hp3 := (hbel3.block _ (Array.getElem?_eq_some_iff.1 hp2).1).trans hp2
      have hq3 := (hbel3.block _ (Array.getElem?_eq_some_iff.1 hq2).1).trans hq2
      have hb4 : Below w.heap.size w w3 := below_then hb3 hb3.size hbel3
      clear c0 c1 c2 f0 f1 f2 d0 d1 d2 g0 g1 g2 hbel3
      obtain ⟨⟨c0, c1, c2⟩, f0, f1, f2⟩ := row3 hp3
      obtain ⟨⟨d0, d1, d2⟩, g0, g1, g2⟩ := row3 hq3
      go_wp2_with fail
      (try simp only [Exit.inBlock, Exit.then]); refine bodyPost_ret (ret_cell_tmp rfl rfl (row_set (row_set (row_set (row_set (row_set (row_set hp3 0 _) 2 _) 1 _) 0 _) 1 _) 2 _) Tryz.underlying86 rfl (by kernel_rfl)) rfl ?_
      exact ⟨congrArg Ending.returned A2.out, ((((((hb4.setCell (Nat.le_refl _) _).setCell (Nat.le_refl _) _).setCell (Nat.le_refl _) _).setCell (Nat.le_refl _) _).setCell (Nat.le_refl _) _).setCell (Nat.le_refl _) _)⟩

/-- parseProperty: the property, and whether it was right; an empty text is an empty property without an error. -/
def PPost (s : ByteArray) (w : World) (e : Ending) (w' : World) : Prop :=
  Below w.heap.size w w' ∧ match propI (bs s) with
    | some p => e = .returned (.tuple #[pagg p, .nilIface])
    | none => ∃ a x, e = .returned (.tuple #[pagg a, x]) ∧ (bs s ≠ [] → ∃ y, x = .iface 201 (.pointer (some y)))

set_option maxHeartbeats 1000000 in
set_option maxRecDepth 100000 in
theorem parseProperty_any (s : ByteArray) (w : World) (hw : Laid w) (hs : s.size ≤ 1000000) (h0 : s.toList.isEmpty = false) :
    Calls Tryz.prog 168 #[.string s] w (PPost s w) := by
  have hb0 : Below w.heap.size w (w.alloc (.cells #[.string ⟨#[]⟩, .string ⟨#[]⟩, .bool false] 86)) := (Below.refl _ _).alloc (Nat.le_refl _) _
  have hpi := parsePropertyInternal_any s _ (hw.below hb0) hs
  obtain ⟨kk, vv, bb, ok, hv⟩ : ∃ kk vv bb ok, pagg ((propI (bs s)).getD noPr) = .agg #[.string kk, .string vv, .bool bb] ∧ (propI (bs s)).isSome = ok := ⟨_, _, _, _, rfl, rfl⟩
  rw [hv.1, hv.2] at hpi
  have A : Aside (pagg ((propI (bs s)).getD noPr) = .agg #[.string kk, .string vv, .bool bb] ∧ (propI (bs s)).isSome = ok) := hv
  clear hv
  go_enter Tryz.func168, Tryz.ntmps168
  go_wp2_with (go_at_fn 206; fail)
  refine hpi.mono ?_
  rintro e w1 ⟨rfl, hbel⟩
  have hp : w1.heap[w.heap.size]? = some (.cells #[.string ⟨#[]⟩, .string ⟨#[]⟩, .bool false] 86 (0, 0)) := (hbel.block _ (by simp)).trans (heap_alloc_new _ _)
  have hb1 : Below w.heap.size w w1 := below_then hb0 (by simp) hbel
  have hlt : w.heap.size < w1.heap.size := (Array.getElem?_eq_some_iff.1 hp).1
  clear hbel hb0 hpi
  obtain ⟨⟨c0, c1, c2⟩, f0, f1, f2⟩ := row3 hp
  cases ok
  · obtain ⟨a, ha⟩ := (hw.below hb1).errs 7 (by omega)
    have h7 : 7 < w.heap.size := by
      obtain ⟨b, hb⟩ := hw.errs 7 (by omega)
      exact lt_of_cell hb
    have h7a : ¬ w.heap.size = 7 := by omega
    have h7b : ¬ 7 = w.heap.size := by omega
    go_wp2_with fail
    go_region_held3 (fun W => W.cell? ⟨7, 0, none⟩ = some (.iface 201 (.pointer (some a)))) ((simp (disch := (first | omega | (simp only [World.size_alloc, World.size_setCell, World.size_drew]; omega))) only [cellg_set, cellg_alloc, cellg_drew]; first | done | assumption)) (first | (go_at_call 117; refine (newInvalidProperty_any _).mono ?_; rintro e w' ⟨rfl, rfl⟩))
    all_goals
      go_wp2_with fail
      (try simp only [Exit.inBlock, Exit.then]); refine bodyPost_ret (ret_cell_tmp rfl rfl (row_drew (row_alloc (row_alloc (row_set (row_set (row_set hp 0 _) 1 _) 2 _) _) _)) Tryz.underlying86 rfl (by kernel_rfl)) rfl ?_
      refine ⟨(((((hb1.setCell (Nat.le_refl _) _).setCell (Nat.le_refl _) _).setCell (Nat.le_refl _) _).alloc (by simp; omega) _).alloc (by simp; omega) _).drew, ?_⟩
      have := Option.isSome_eq_false_iff.1 A.out.2
      rw [Option.isNone_iff_eq_none] at this
      rw [this]
      exact ⟨noPr, _, rfl, fun _ => ⟨_, rfl⟩⟩
  · go_wp2_with fail
    (try simp only [Exit.inBlock, Exit.then]); refine bodyPost_ret (ret_cell_tmp rfl rfl (row_alloc (row_set (row_set (row_set hp 0 _) 1 _) 2 _) _) Tryz.underlying86 rfl (by kernel_rfl)) rfl ?_
    refine ⟨((((hb1.setCell (Nat.le_refl _) _).setCell (Nat.le_refl _) _).setCell (Nat.le_refl _) _).alloc (by simp; omega) _), ?_⟩
    obtain ⟨p, hp⟩ := Option.isSome_iff_exists.1 A.out.2
    have := A.out.1
    rw [hp] at this ⊢
    simp only [Option.getD] at this
    simp only [this]
    rfl
end Go.Proofs.YtleofgndghjflaaGreatDoor

set_option linter.unusedVariables false
set_option linter.unusedSimpArgs false
namespace Go.Proofs.YtleofgndghjflaaGreatDoor
open Go Go.RowKit

def pieceOk (l : List UInt8) : Bool := l.isEmpty || (propF l).isSome
def metaOk (l : List UInt8) : Bool := (splitL 59 l).all pieceOk
def MetaPost (s : ByteArray) (w : World) (e : Ending) (w' : World) : Prop :=
  ∃ t, e = .returned (.tuple #[.string t, .bool (metaOk (bs s))]) ∧ Below w.heap.size w w'

theorem split_at (l : List UInt8) (a k : Nat) (c : UInt8) (hak : a ≤ k) (hk : l[k]? = some c) (hn : ∀ j : Nat, a ≤ j → j < k → l[j]? ≠ some c) : splitL c (l.drop a) = (l.drop a).take (k - a) :: splitL c (l.drop (k + 1)) := by
  have := cut1_at c (l.drop a) (k - a) (by rw [List.getElem?_drop, Nat.add_sub_cancel' hak]; exact hk) (fun j hj => by rw [List.getElem?_drop]; exact hn _ (by omega) (by omega))
  rw [splitL_cut, this]
  simp only [List.drop_drop, if_true]
  congr 3
  omega
theorem split_end (l : List UInt8) (a : Nat) (c : UInt8) (hn : ∀ j : Nat, a ≤ j → l[j]? ≠ some c) : splitL c (l.drop a) = [l.drop a] := by
  have := cut1_none c (l.drop a) (fun j => by rw [List.getElem?_drop]; exact hn _ (by omega))
  rw [splitL_cut, this]
  simp
theorem notEmpty (t : ByteArray) (h : 0 < t.size) : (bs t).isEmpty = false := by
  rw [List.isEmpty_eq_false_iff]
  intro e
  rw [← bs_length, e] at h
  simp at h
theorem propF_nil : propF [] = none := by decide

set_option maxHeartbeats 1000000 in
set_option maxRecDepth 100000 in
theorem validateMetadata_any (s : ByteArray) (w : World) (hw : Laid w) (hs : s.size ≤ 1000000) :
    Calls Tryz.prog 130 #[.string s] w (MetaPost s w) := by
  obtain ⟨R, hR⟩ : ∃ R, metaOk (bs s) = R := ⟨_, rfl⟩
  unfold MetaPost
  rw [hR]
  have A : Aside ((splitL 59 ((bs s).drop 0)).all pieceOk = R) := by rw [List.drop_zero]; exact hR
  clear hR
  go_enter Tryz.func130, Tryz.ntmps130
  go_wp2_with fail
  go_loopg [4, 5] (s.size + 2) (fun gk a i wx => Below w.heap.size w wx ∧ ∃ st k : Nat, a = .int .i64 st ∧ i = .int .i64 k ∧ st ≤ s.size + 1 ∧ k + gk = s.size + 2 ∧ ((k ≤ s.size ∧ st ≤ k ∧ Aside ((splitL 59 ((bs s).drop st)).all pieceOk = R ∧ ∀ j : Nat, st ≤ j → j < k → (bs s)[j]? ≠ some 59)) ∨ (k = s.size + 1 ∧ Aside (R = true))))
  case atStart => exact ⟨Below.refl _ _, 0, 0, rfl, rfl, by omega, by omega, .inl ⟨by omega, by omega, A.out, fun j _ h => by omega⟩⟩
  case round =>
    clear A
    obtain ⟨hb, st, k, rfl, rfl, hst, hg, hcase⟩ := hrel
    rcases hcase with ⟨hk, hsk, hX⟩ | ⟨rfl, hX⟩
    · by_cases hlt : k < s.size
      · obtain ⟨c, hc⟩ : ∃ c, s[k] = c := ⟨_, rfl⟩
        have hix := run_idx s (k : Int) k rfl hlt c hc
        have e59 : ((⟨#[59]⟩ : ByteArray)[0]'(by decide)).toNat = 59 := rfl
        have hne : ((k : Int) != s.size) = true := by simp; omega
        have hgk : (bs s)[k]? = some c := by rw [List.getElem?_eq_getElem (by rw [bs_length]; exact hlt), ← hc, bs_get]
        have G : Aside ((bs s)[k]? = some c) := hgk
        clear hgk
        by_cases h59 : c = 59
        · have hcz : ((c.toNat : Int) != 59) = false := by rw [h59]; decide
          have G : Aside ((bs s)[k]? = some 59) := by have := G.out; rw [h59] at this; exact this
          have X2 : Aside (splitL 59 ((bs s).drop st) = ((bs s).drop st).take (k - st) :: splitL 59 ((bs s).drop (k + 1))) := split_at _ st k 59 hsk G.out hX.out.2
          clear h59
          have X3 : Aside ((pieceOk (((bs s).drop st).take (k - st)) && (splitL 59 ((bs s).drop (k + 1))).all pieceOk) = R) := by have := hX.out.1; rw [X2.out, List.all_cons] at this; exact this
          clear X2 hX G
          go_wp2_with fail
          go_quiet (fail)
          have hbd : Below w.heap.size w (wr.drewN nq) := below_drewN' hb nq
          clear hb
          generalize wr.drewN nq = wd at hbd ⊢
          have hbs := hbd.size
          by_cases hsk2 : st = k
          · subst hsk2
            have hst0 : ((st : Int) != st) = false := by simp
            go_wp2_with fail
            go_roundg (gk - 1)
            case rel =>
              refine ⟨hbd, st + 1, st + 1, by go_num, by go_num, by omega, by omega, ?_⟩
              have h2 := X3.out
              rw [show pieceOk (((bs s).drop st).take (st - st)) = true by simp [pieceOk], Bool.true_and] at h2
              exact .inl ⟨by omega, Nat.le_refl _, h2, fun j h1 h2 => by omega⟩
            case measure => omega
          · have hst0 : ((st : Int) != k) = true := by simp; omega
            obtain ⟨t, ht⟩ : ∃ t, s.extract st k = t := ⟨_, rfl⟩
            have hbt : bs t = ((bs s).drop st).take (k - st) := by rw [← ht, ext_bs]
            have hts : t.size = k - st := by rw [← ht]; exact ext_size s st k hk
            have hpf := parsePropertyFields_any t wd (hw.below hbd) (by omega)
            have T : Aside (bs t = ((bs s).drop st).take (k - st) ∧ (bs t).isEmpty = false) := ⟨hbt, notEmpty t (by omega)⟩
            clear hbt
            go_wp2_with (go_at_fn 170; fail)
            refine hpf.mono ?_
            rintro e w1 ⟨kb, vb, hb, ok, rfl, hbel, hm⟩
            have hb1 : Below w.heap.size w w1 := below_then hbd hbs hbel
            have hok : Aside (pieceOk (((bs s).drop st).take (k - st)) = ok) := by
              show _ = _
              rw [← T.out.1, pieceOk, T.out.2]
              cases hq : propF (bs t) with
              | none => rw [hq] at hm; rw [hm]; rfl
              | some q =>
                obtain ⟨q1, q2⟩ := q
                cases q2 <;> rw [hq] at hm <;> rw [hm.1] <;> rfl
            clear hm hpf hbel
            cases ok
            · go_wp2_with fail
              go_ret2
              refine ⟨t, ?_, hb1.alloc hb1.size _⟩
              have h2 := X3.out
              rw [hok.out, Bool.false_and] at h2
              rw [← h2]
              rfl
            · go_wp2_with fail
              go_roundg (gk - 1)
              case rel =>
                refine ⟨hb1.alloc hb1.size _, k + 1, k + 1, by go_num, by go_num, by omega, by omega, ?_⟩
                have h2 := X3.out
                rw [hok.out, Bool.true_and] at h2
                exact .inl ⟨by omega, Nat.le_refl _, h2, fun j h1 h2 => by omega⟩
              case measure => omega
        · have hcz : ((c.toNat : Int) != 59) = true := by
            have h1 : ((c.toNat : Int) != 59) = !(c == 59) := u8_ne c 59 (by omega)
            rw [h1, beq_eq_false_iff_ne.2 h59]
            rfl
          go_wp2_with fail
          go_quiet (fail)
          go_wp2_with fail
          go_roundg (gk - 1)
          case rel =>
            refine ⟨below_drewN' hb nq, st, k + 1, rfl, by go_num, hst, by omega, .inl ⟨by omega, by omega, hX.out.1, fun j h1 h2 => ?_⟩⟩
            by_cases hjk : j = k
            · rw [hjk, G.out]
              intro h
              injection h with h
              exact h59 h
            · exact hX.out.2 j h1 (by omega)
          case measure => omega
      · have hke : k = s.size := by omega
        have hne : ((k : Int) != s.size) = false := by simp; omega
        have X2 : Aside (splitL 59 ((bs s).drop st) = [(bs s).drop st]) := split_end _ st 59 (fun j hj => by
          by_cases hjk : j < k
          · exact hX.out.2 j hj hjk
          · rw [List.getElem?_eq_none (by rw [bs_length]; omega)]
            simp)
        have X3 : Aside ((pieceOk (((bs s).drop st).take (k - st)) && true) = R) := by
          have := hX.out.1
          rw [X2.out, List.all_cons, List.all_nil] at this
          rw [List.take_of_length_le (by rw [List.length_drop, bs_length]; omega)]
          exact this
        clear X2 hX hke
        go_wp2_with fail
        go_quiet (fail)
        have hbd : Below w.heap.size w (wr.drewN nq) := below_drewN' hb nq
        clear hb
        generalize wr.drewN nq = wd at hbd ⊢
        have hbs := hbd.size
        by_cases hsk2 : st = k
        · subst hsk2
          have hst0 : ((st : Int) != st) = false := by simp
          go_wp2_with fail
          go_roundg (gk - 1)
          case rel =>
            refine ⟨hbd, st + 1, st + 1, by go_num, by go_num, by omega, by omega, ?_⟩
            have h2 := X3.out
            rw [show pieceOk (((bs s).drop st).take (st - st)) = true by simp [pieceOk], Bool.true_and] at h2
            exact .inr ⟨by omega, h2.symm⟩
          case measure => omega
        · have hst0 : ((st : Int) != k) = true := by simp; omega
          obtain ⟨t, ht⟩ : ∃ t, s.extract st k = t := ⟨_, rfl⟩
          have hbt : bs t = ((bs s).drop st).take (k - st) := by rw [← ht, ext_bs]
          have hts : t.size = k - st := by rw [← ht]; exact ext_size s st k hk
          have hpf := parsePropertyFields_any t wd (hw.below hbd) (by omega)
          have T : Aside (bs t = ((bs s).drop st).take (k - st) ∧ (bs t).isEmpty = false) := ⟨hbt, notEmpty t (by omega)⟩
          clear hbt
          go_wp2_with (go_at_fn 170; fail)
          refine hpf.mono ?_
          rintro e w1 ⟨kb, vb, hb, ok, rfl, hbel, hm⟩
          have hb1 : Below w.heap.size w w1 := below_then hbd hbs hbel
          have hok : Aside (pieceOk (((bs s).drop st).take (k - st)) = ok) := by
            show _ = _
            rw [← T.out.1, pieceOk, T.out.2]
            cases hq : propF (bs t) with
            | none => rw [hq] at hm; rw [hm]; rfl
            | some q =>
              obtain ⟨q1, q2⟩ := q
              cases q2 <;> rw [hq] at hm <;> rw [hm.1] <;> rfl
          clear hm hpf hbel
          cases ok
          · go_wp2_with fail
            go_ret2
            refine ⟨t, ?_, hb1.alloc hb1.size _⟩
            have h2 := X3.out
            rw [hok.out, Bool.false_and] at h2
            rw [← h2]
            rfl
          · go_wp2_with fail
            go_roundg (gk - 1)
            case rel =>
              refine ⟨hb1.alloc hb1.size _, k + 1, k + 1, by go_num, by go_num, by omega, by omega, ?_⟩
              have h2 := X3.out
              rw [hok.out, Bool.true_and] at h2
              exact .inr ⟨by omega, h2.symm⟩
            case measure => omega
    · go_wp2_with fail
      go_ret2
      exact ⟨⟨#[]⟩, by rw [hX.out]; rfl, hb⟩
end Go.Proofs.YtleofgndghjflaaGreatDoor

set_option linter.unusedVariables false
set_option linter.unusedSimpArgs false
namespace Go.Proofs.YtleofgndghjflaaGreatDoor
open Go Go.RowKit

def nstep (acc p : List UInt8) : List UInt8 := if p.isEmpty then acc else if acc.isEmpty then p else acc ++ 59 :: p
def normL (l : List UInt8) : List UInt8 := (splitL 59 l).foldl nstep []
theorem split_join (c : UInt8) : ∀ l, ∃ h t, splitL c l = h :: t ∧ l = h ++ t.flatMap (c :: ·)
  | [] => ⟨[], [], rfl, rfl⟩
  | x :: r => by
    obtain ⟨h, t, h1, h2⟩ := split_join c r
    by_cases hx : x = c
    · refine ⟨[], h :: t, by simp [splitL, hx, h1], ?_⟩
      rw [List.flatMap_cons, List.nil_append, List.cons_append, ← h2, hx]
    · refine ⟨x :: h, t, by simp [splitL, hx, h1], ?_⟩
      rw [List.cons_append, ← h2]
theorem fold_ne : ∀ (ps : List (List UInt8)) (acc : List UInt8), acc ≠ [] → (∀ p ∈ ps, p ≠ []) → ps.foldl nstep acc = acc ++ ps.flatMap (59 :: ·)
  | [], acc, _, _ => by simp
  | p :: ps, acc, ha, hp => by
    have h1 : nstep acc p = acc ++ 59 :: p := by
      unfold nstep
      rw [List.isEmpty_eq_false_iff.2 (hp p (by simp)), List.isEmpty_eq_false_iff.2 ha]
      rfl
    rw [List.foldl_cons, h1, fold_ne ps _ (by simp) (fun q hq => hp q (by simp [hq])), List.flatMap_cons, List.append_assoc]
theorem norm_id (l : List UInt8) (h : ∀ p ∈ splitL 59 l, p ≠ []) : normL l = l := by
  obtain ⟨p, t, h1, h2⟩ := split_join 59 l
  rw [h1] at h
  have hp : p ≠ [] := h p (by simp)
  unfold normL
  rw [h1, List.foldl_cons]
  have : nstep [] p = p := by
    unfold nstep
    rw [List.isEmpty_eq_false_iff.2 hp]
    rfl
  rw [this, fold_ne t p hp (fun q hq => h q (by simp [hq])), ← h2]
theorem parts_ne : ∀ l : List UInt8, l ≠ [] → l[0]? ≠ some 59 → (∀ k : Nat, l[k]? = some 59 → ∃ d, l[k + 1]? = some d ∧ d ≠ 59) → ∀ p ∈ splitL 59 l, p ≠ []
  | [], h, _, _ => absurd rfl h
  | [x], _, h0, _ => by
    have : x ≠ 59 := by simpa using h0
    simp [splitL, this]
  | x :: y :: r, _, h0, hk => by
    have hx : x ≠ 59 := by simpa using h0
    by_cases hy : y = 59
    · obtain ⟨d, hd, hd2⟩ := hk 1 (by simp [hy])
      have ih := parts_ne r (by intro e; rw [e] at hd; simp at hd) (by have : r[0]? = some d := by simpa using hd
                                                                       rw [this]; simpa using hd2) (fun k h => by have := hk (k + 2) (by simpa using h); simpa using this)
      intro p hp
      simp only [splitL, if_neg hx, hy, if_true] at hp
      rcases List.mem_cons.1 hp with rfl | hp
      · simp
      · exact ih p hp
    · have ih := parts_ne (y :: r) (by simp) (by simpa using hy) (fun k h => by have := hk (k + 1) (by simpa using h); simpa using this)
      obtain ⟨p0, t, h1, _⟩ := split_join 59 (y :: r)
      intro p hp
      have hsp : splitL 59 (x :: y :: r) = (x :: p0) :: t := by
        rw [splitL, if_neg hx, h1]
      rw [hsp] at hp
      rcases List.mem_cons.1 hp with rfl | hp
      · simp
      · exact ih p (by rw [h1]; simp [hp])
theorem nstep_len (acc p : List UInt8) : (nstep acc p).length ≤ acc.length + p.length + 1 := by
  unfold nstep
  split
  · omega
  · split
    · omega
    · simp; omega
def lensum (ps : List (List UInt8)) : Nat := (ps.map fun p => p.length + 1).sum
theorem split_lensum (c : UInt8) (l : List UInt8) : lensum (splitL c l) = l.length + 1 := by
  induction l with
  | nil => rfl
  | cons x r ih =>
    obtain ⟨h, t, h1, _⟩ := split_join c r
    rw [h1] at ih
    by_cases hx : x = c
    · simp only [splitL, hx, if_true, h1]
      simp [lensum] at ih ⊢
      omega
    · simp only [splitL, if_neg hx, h1]
      simp [lensum] at ih ⊢
      omega
def occ (s t : List UInt8) : Bool := (List.range (s.length + 1)).any fun j => decide (j + t.length ≤ s.length) && pfxAt s t j
theorem occ_false (s t : List UInt8) (h : ∀ j, j + t.length ≤ s.length → pfxAt s t j = false) : occ s t = false := by
  unfold occ
  rw [List.any_eq_false]
  intro j _
  by_cases hj : j + t.length ≤ s.length
  · simp [h j hj]
  · simp [hj]
theorem occ_true (s t : List UInt8) (k : Nat) (hk : k + t.length ≤ s.length) (h : pfxAt s t k = true) : occ s t = true := by
  unfold occ
  rw [List.any_eq_true]
  exact ⟨k, List.mem_range.2 (by omega), by simp [hk, h]⟩
theorem zzContains_b (s t : ByteArray) (w : World) (hs : s.size ≤ 1000000) (ht : t.size ≤ 1000) :
    Calls Tryz.prog 171 #[.string s, .string t] w fun e w' => e = .returned (.bool (occ (bs s) (bs t))) ∧ w' = w := by
  obtain ⟨R, hR⟩ : ∃ R, occ (bs s) (bs t) = R := ⟨_, rfl⟩
  rw [hR]
  have O : Aside (occ (bs s) (bs t) = R) := hR
  clear hR
  have hc := zzIndex_any s t w hs ht
  go_enter Tryz.func171, Tryz.ntmps171
  go_wp2_with fail
  refine hc.mono ?_
  rintro e w' ⟨r, rfl, hr, rfl⟩
  have A : Aside (IdxR (bs s) (bs t) r) := hr
  clear hr hc
  go_wp2_with fail
  go_ret
  refine ⟨ret_bool ?_, rfl⟩
  rw [← O.out]
  rcases A.out with ⟨k, rfl, hk, hp, hn⟩ | ⟨rfl, hn⟩
  · rw [occ_true _ _ k hk hp]
    simp
  · rw [occ_false _ _ hn]
    rfl
theorem norm_nil : normL [] = [] := rfl

theorem Rd.at {ty : Bool} {w : World} {t : TypeId} {b o n c sz : Nat} {xs : List Value} (h : Rd ty w t (.slice (some ⟨b, o, none⟩) n c) n sz xs) {j : Nat} {u : Value} (hj : xs[j]? = some u) : w.cell? ⟨b, o + j, none⟩ = some u := by
  have hl := h.length
  rcases Nat.eq_zero_or_pos n with h0 | h0
  · rw [h0, Nat.zero_mul] at hl
    rw [List.eq_nil_of_length_eq_zero hl] at hj
    simp at hj
  · obtain ⟨b', o', c', he, _, _, hc⟩ := h.cells h0
    injection he with he
    injection he with he
    injection he with h1 h2
    subst h1 h2
    exact hc j u hj

set_option maxHeartbeats 1000000 in
set_option maxRecDepth 100000 in
theorem normalizeMetadata_any (s : ByteArray) (w : World) (hw : Laid w) (hs : s.size ≤ 1000000) :
    Calls Tryz.prog 131 #[.string s] w fun e w' => e = .returned (S (normL (bs s))) ∧ Below w.heap.size w w' := by
  obtain ⟨R, hR⟩ : ∃ R, S (normL (bs s)) = R := ⟨_, rfl⟩
  rw [hR]
  have A : Aside (S (normL (bs s)) = R) := hR
  clear hR
  have e59 : ((⟨#[59]⟩ : ByteArray)[0]'(by decide)).toNat = 59 := rfl
  cases he : s.toList.isEmpty
  · have h0 : 0 < s.size := by
      rw [toList_empty] at he
      rw [← bs_length]
      exact List.length_pos_iff.2 (List.isEmpty_eq_false_iff.1 he)
    obtain ⟨c0, hc0⟩ : ∃ c, s[0] = c := ⟨_, rfl⟩
    obtain ⟨c1, hc1⟩ : ∃ c, s[s.size - 1] = c := ⟨_, rfl⟩
    have hix0 := run_idx s 0 0 rfl h0 c0 hc0
    have hix1 := run_idx s ((s.size : Int) - 1) (s.size - 1) (by omega) (by omega) c1 hc1
    obtain ⟨f, hf⟩ : ∃ f, occ (bs s) (bs ⟨#[59, 59]⟩) = f := ⟨_, rfl⟩
    have hct := fun W => zzContains_b s ⟨#[59, 59]⟩ W hs (by decide)
    rw [hf] at hct
    have F : Aside (occ (bs s) (bs ⟨#[59, 59]⟩) = f) := hf
    clear hf
    have wrp : IntKind.i64.wrap ((s.size : Int) - 1) = (s.size : Int) - 1 := IntWalk.i64_in _ (by omega)
    obtain ⟨z0, hz0⟩ : ∃ z, ((c0.toNat : Int) != 59) = z := ⟨_, rfl⟩
    obtain ⟨z1, hz1⟩ : ∃ z, ((c1.toNat : Int) != 59) = z := ⟨_, rfl⟩
    have Z : Aside (((c0.toNat : Int) != 59) = z0 ∧ ((c1.toNat : Int) != 59) = z1) := ⟨hz0, hz1⟩
    go_enter Tryz.func131, Tryz.ntmps131
    go_upto_if 27 with fail
    go_cut [27] (fun v W => v = .bool (z0 && z1 && !f) ∧ ∃ n, W = w.drewN n)
    case first =>
      cases z0
      · go_wp2_with fail
        go_quiet (first | (go_at_call 171; exact Calls.quiet_of_same (hct _)))
        go_wp2_with fail
        go_meet
        exact ⟨rfl, _, rfl⟩
      · cases z1
        · go_wp2_with fail
          go_quiet (first | (go_at_call 171; exact Calls.quiet_of_same (hct _)))
          go_wp2_with fail
          go_meet
          exact ⟨rfl, _, rfl⟩
        · go_wp2_with fail
          go_quiet (first | (go_at_call 171; exact Calls.quiet_of_same (hct _)))
          go_wp2_with fail
          go_meet
          exact ⟨rfl, _, rfl⟩
    case rest =>
      clear hix0 hix1 hct hz0 hz1 wrp e59
      obtain ⟨rfl, n0, rfl⟩ := hcut
      have hbd : Below w.heap.size w (w.drewN n0) := below_drewN' (Below.refl _ _) n0
      generalize w.drewN n0 = wd at hbd ⊢
      have hbs := hbd.size
      cases hall : (z0 && z1 && !f)
      · clear hall F Z
        have hgr := Tryz.Builder_Grow_fresh w.heap.size wd.heap.size s.size (wd.alloc (.cells #[.pointer none, .slice none 0 0] 109)) hbs (heap_alloc_new _ _) (by simp; omega) (by omega)
        go_wp2_with (go_at_fn 50; fail)
        refine hgr.mono ?_
        rintro e w2 ⟨rfl, hbdr, hb2⟩
        have hbdr : Bd w.heap.size wd.heap.size [] w2 := hbdr
        have hb3 : Below w.heap.size w w2 := (hbd.alloc hbs _).trans hb2
        have hsp := zzSplit_any 59 s ⟨#[59]⟩ w2 hs rfl
        clear hgr hb2
        go_wp2_with (go_at_fn 93; fail)
        refine hsp.mono ?_
        intro e w3 hpost
        obtain ⟨v, rfl, hrd, hb4⟩ := hpost
        have hb5 : Below w.heap.size w w3 := below_then hb3 hb3.size hb4
        have hbdr3 := hbdr.below hb4
        clear hsp hbdr hb4 hb3
        obtain ⟨ps, hps⟩ : ∃ ps, splitL 59 (bs s) = ps := ⟨_, rfl⟩
        have hne : 0 < ps.length := by rw [← hps]; exact List.length_pos_iff.2 (splitL_ne 59 _)
        have hsm := split_lensum 59 (bs s)
        have hln := splitL_len 59 (bs s)
        rw [hps, bs_length] at hsm hln
        have N : Aside (ps.foldl nstep [] = normL (bs s)) := by rw [← hps]; rfl
        rw [hps] at hrd
        clear hps
        obtain ⟨bk, o, c, rfl, hnc, hcm, _⟩ := hrd.cells hne
        go_wp2_with fail
        go_loopg [35] (ps.length + 1) (fun gk i wx => Below w.heap.size w wx ∧ ∃ (k : Nat) (acc : List UInt8), i = .int .i64 k ∧ k ≤ ps.length ∧ k + gk = ps.length + 1 ∧ acc.length + lensum (ps.drop k) ≤ s.size + 1 ∧ Bd w.heap.size wd.heap.size acc wx ∧ Rd true wx 9 (.slice (some ⟨bk, o, none⟩) ps.length c) ps.length 1 (strs ps) ∧ Aside ((ps.drop k).foldl nstep acc = normL (bs s)))
        case atStart => exact ⟨hb5, 0, [], rfl, by omega, by omega, by simp [hsm], hbdr3, hrd, N⟩
        case round =>
          clear hbdr3 hrd hb5 N
          obtain ⟨hb, k, acc, rfl, hk, hg, hal, hbdr, hrd, hX⟩ := hrel
          have hws := hb.size
          by_cases hlt : k < ps.length
          · obtain ⟨p, hp⟩ : ∃ p, ps[k] = p := ⟨_, rfl⟩
            have hdr : ps.drop k = p :: ps.drop (k + 1) := by rw [← hp]; exact List.drop_eq_getElem_cons hlt
            have hX2 := hX.out
            rw [hdr, List.foldl_cons] at hX2
            rw [hdr] at hal
            have hal2 : acc.length + (p.length + 1 + lensum (ps.drop (k + 1))) ≤ s.size + 1 := hal
            have hnl := nstep_len acc p
            obtain ⟨pb, hpb⟩ : ∃ pb : ByteArray, pb = ⟨p.toArray⟩ := ⟨_, rfl⟩
            have hbp : bs pb = p := by rw [hpb]
            have hcell : wr.cell? ⟨bk, o + k, none⟩ = some (.string pb) := hrd.at (by simp [strs, List.getElem?_eq_getElem hlt, hp, S, hpb])
            have hpz : pb.size = p.length := by rw [← bs_length, hbp]
            have X : Aside ((ps.drop (k + 1)).foldl nstep (nstep acc p) = normL (bs s) ∧ pb.toList.isEmpty = p.isEmpty ∧ bs pb = p) := ⟨hX2, by rw [toList_empty, hbp], hbp⟩
            clear hX hX2 hpb hbp hal hdr hp
            cases hpe : pb.toList.isEmpty
            · have hlen := Tryz.Builder_Len w.heap.size wd.heap.size (Lib.byteCells acc) wr (.inr hbdr)
              rw [Lib.byteCells_length] at hlen
              by_cases ha : acc = []
              · subst ha
                have hW := WriteString_fr w.heap.size wd.heap.size [] pb wr hbdr (by simp; omega) hws
                have X2 : Aside (nstep [] p = bs pb) := by rw [nstep, ← X.out.2.1, hpe, X.out.2.2]; rfl
                go_wp2_with (go_at_fn 52; fail)
                refine hlen.mono ?_
                rintro e w' ⟨rfl, rfl⟩
                go_wp2_with (go_at_fn 51; fail)
                refine hW.mono ?_
                rintro e w5 ⟨rfl, hbdr5, hb6, hfr⟩
                have hrd5 := hrd.fr2 hfr (by decide) (by decide)
                clear hW hlen hrd hbdr hfr
                go_wp2_with fail
                go_roundg (gk - 1)
                case rel =>
                  refine ⟨hb.trans hb6, k + 1, bs pb, by go_num, by omega, by omega, by rw [bs_length]; simp at hal2; omega, hbdr5, hrd5, ?_⟩
                  have := X.out.1
                  rw [X2.out] at this
                  exact this
                case measure => omega
              · have hal0 : 0 < acc.length := List.length_pos_iff.2 ha
                have hW := WriteString_fr w.heap.size wd.heap.size acc ⟨#[59]⟩ wr hbdr (by simp [ByteArray.size]; omega) hws
                have X2 : Aside (nstep acc p = acc ++ bs ⟨#[59]⟩ ++ bs pb) := by
                  show _ = _
                  rw [nstep, ← X.out.2.1, hpe, X.out.2.2, List.isEmpty_eq_false_iff.2 ha]
                  simp [bs]
                clear ha
                go_wp2_with (go_at_fn 52; fail)
                refine hlen.mono ?_
                rintro e w' ⟨rfl, rfl⟩
                go_wp2_with (go_at_fn 51; fail)
                refine hW.mono ?_
                rintro e w5 ⟨rfl, hbdr5, hb6, hfr⟩
                have hrd5 := hrd.fr2 hfr (by decide) (by decide)
                have hb7 := hb.trans hb6
                have hl5 : (acc ++ bs ⟨#[59]⟩).length = acc.length + 1 := by simp [bs]
                have hW2 := WriteString_fr w.heap.size wd.heap.size _ pb w5 hbdr5 (by rw [hl5]; omega) hb7.size
                clear hW hlen hrd hbdr hfr hb6
                go_wp2_with (go_at_fn 51; fail)
                refine hW2.mono ?_
                rintro e w6 ⟨rfl, hbdr6, hb8, hfr⟩
                have hrd6 := hrd5.fr2 hfr (by decide) (by decide)
                clear hW2 hrd5 hbdr5 hfr
                go_wp2_with fail
                go_roundg (gk - 1)
                case rel =>
                  refine ⟨hb7.trans hb8, k + 1, _, by go_num, by omega, by omega, by rw [List.length_append, hl5, bs_length]; omega, hbdr6, hrd6, ?_⟩
                  have := X.out.1
                  rw [X2.out] at this
                  exact this
                case measure => omega
            · go_wp2_with fail
              go_roundg (gk - 1)
              case rel =>
                have hac : nstep acc p = acc := by rw [nstep, ← X.out.2.1, hpe]; rfl
                refine ⟨hb, k + 1, acc, by go_num, by omega, by omega, by omega, hbdr, hrd, ?_⟩
                have := X.out.1
                rw [hac] at this
                exact this
              case measure => omega
          · have hst := Tryz.Builder_String_any w.heap.size wd.heap.size acc wr (.inr hbdr) hws
            have Y : Aside (S acc = R) := by
              show _ = _
              have := hX.out
              rw [List.drop_eq_nil_of_le (by omega)] at this
              rw [← A.out, ← this]
              rfl
            clear hX
            go_wp2_with (go_at_fn 53; fail)
            refine hst.mono ?_
            rintro e w4 ⟨rfl, hb6⟩
            go_wp2_with fail
            go_ret
            exact ⟨congrArg Ending.returned Y.out, hb.trans hb6⟩
      · have Y : Aside (Value.string s = R) := by
          show _ = _
          have h1 : c0 ≠ 59 := by
            intro h
            have := Z.out.1
            rw [h] at this
            revert hall
            rw [← this]
            simp
          have h2 : c1 ≠ 59 := by
            intro h
            have := Z.out.2
            rw [h] at this
            revert hall
            rw [← this]
            simp
          have h3 : occ (bs s) (bs ⟨#[59, 59]⟩) = false := by
            rw [F.out]
            cases f
            · rfl
            · simp at hall
          have hl := bs_length s
          rw [← A.out, norm_id, ← S_bs]
          refine parts_ne _ (by intro h; rw [h] at hl; simp at hl; omega) ?_ ?_
          · rw [List.getElem?_eq_getElem (by omega), bs_get s 0 h0, hc0]
            simpa using h1
          · intro k hk
            have hk1 := (List.getElem?_eq_some_iff.1 hk).1
            by_cases hlast : k + 1 < (bs s).length
            · refine ⟨(bs s)[k + 1], List.getElem?_eq_getElem hlast, fun h => ?_⟩
              have : occ (bs s) (bs ⟨#[59, 59]⟩) = true := by
                refine occ_true _ _ k (by simp [bs] at hlast ⊢; omega) ?_
                unfold pfxAt
                rw [List.drop_eq_getElem_cons hk1, List.drop_eq_getElem_cons hlast, h]
                have := List.getElem?_eq_getElem hk1
                rw [hk] at this
                injection this with this
                rw [← this]
                rfl
              rw [h3] at this
              cases this
            · have : k = s.size - 1 := by omega
              subst this
              rw [List.getElem?_eq_getElem hk1, bs_get s _ (by omega), hc1] at hk
              injection hk with hk
              exact absurd hk h2
        go_wp2_with fail
        go_ret
        exact ⟨congrArg Ending.returned Y.out, hbd⟩
  · go_enter Tryz.func131, Tryz.ntmps131
    go_wp2_with fail
    go_quiet (fail)
    go_wp2_with fail
    go_ret
    refine ⟨?_, below_drewN' (Below.refl _ _) _⟩
    rw [← A.out]
    have h0 : bs s = [] := by rw [toList_empty] at he; exact List.isEmpty_iff.1 he
    rw [h0, norm_nil, ← h0, ← S_bs]
    rfl
end Go.Proofs.YtleofgndghjflaaGreatDoor
