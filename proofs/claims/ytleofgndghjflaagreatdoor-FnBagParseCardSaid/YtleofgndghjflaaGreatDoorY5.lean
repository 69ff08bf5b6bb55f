/- Contracts of the functions of this claim, proved once, joined out of smaller texts: U2 U3 U4 V0 V1 U5. -/
import Derived.Test.YtleofgndghjflaaGreatDoorY4
import Derived.Laws.CopyRow
import Derived.Laws.CopyOwn
set_option linter.unusedVariables false
set_option linter.unusedSimpArgs false
namespace Go.Proofs.YtleofgndghjflaaGreatDoor
open Go Go.RowKit

theorem run_copyN (w : World) (dT sT ty elem : TypeId) (g n dCap sCap k : Nat) (a : Addr) (cur : Array Value) (t : TypeId) (cs : List Value)
    (hu : Tryz.prog.underlying dT = some (.slice elem)) (hs : (Tryz.prog.info? elem).map (·.size) = some k)
    (hg : w.heap[g]? = some (.cells cur t (0, 0))) (hn : cs.length = n * k) (hcur : cur.size = n * k)
    (hsrc : ∀ (j : Nat) v, cs[j]? = some v → w.cell? (a.add j) = some v) (h1 : ∀ v ∈ cs, v.oneCell' = true) :
    (Builtin.copy_ #[dT, sT] ty #[.slice (some ⟨g, 0, none⟩) n dCap, .slice (some a) n sCap]).run Tryz.prog w = .ok (goInt n) (w.setRow g cs.toArray) := by
  have hl := run_loadCells_list (P := Tryz.prog) w a cs hsrc
  have hst := run_storeCells_at Tryz.prog g 0 t cs 0 cur w hg (by simp; omega) h1
  have hdr : cur.toList.drop cs.length = [] := List.drop_eq_nil_of_le (by simp; omega)
  simp only [Nat.add_zero, Nat.zero_add, List.take_zero, List.nil_append, hdr, List.append_nil] at hst
  cases hq : Tryz.prog.info? elem with
  | none => simp [hq] at hs
  | some i =>
    have hi : i.size = k := by simpa [hq] using hs
    rw [hn] at hl
    simp [Builtin.copy_, run_underlying hu, Builtin.lenOf, Builtin.firstCells, sizeOf, typeInfo, hq, hi, hl, hst]
theorem rowcells_one (ps : List Pr) : ∀ u ∈ ps.flatMap pcells, u.oneCell' = true := by
  intro u hu
  obtain ⟨p, hp, hu⟩ := List.mem_flatMap.1 hu
  exact pcells_one p u hu
theorem addr_add (b o j : Nat) : (⟨b, o, none⟩ : Addr).add j = ⟨b, o + j, none⟩ := by
  unfold Addr.add
  split <;> simp_all

set_option maxHeartbeats 1000000 in
set_option maxRecDepth 100000 in
theorem Copy_any {ty : Bool} (ps : List Pr) (v : Value) (w : World) (h : Rd ty w 86 v ps.length 3 (ps.flatMap pcells)) (hn : ps.length ≤ 100000) :
    Calls Tryz.prog 124 #[v] w (RowPost 86 ps w) := by
  obtain ⟨AD, c, rfl, hnc, hcm⟩ := h.shape
  by_cases hz : ps.length = 0
  · have hz1 : ((ps.length : Int) == 0) = true := by rw [beq_iff_eq]; omega
    go_enter Tryz.func124, Tryz.ntmps124
    go_wp2_with fail
    go_ret
    refine ⟨_, rfl, ?_, Below.refl _ _⟩
    rw [List.eq_nil_of_length_eq_zero hz]
    exact Rd.nil _ _ _ _
  · have hz1 : ((ps.length : Int) == 0) = false := beq_eq_false_iff_ne.2 (by omega)
    have hmk := run_makeN 96 86 _ 3 40 Tryz.underlying96 Tryz.info86 ps.length ps.length rfl (by omega) (by omega) w
    have hb0 : Below w.heap.size w (w.alloc (.cells (madeCells (Value.agg #[.string ⟨#[]⟩, .string ⟨#[]⟩, .bool false]).cells (ps.length * 3)) 86)) := (Below.refl _ _).alloc (Nat.le_refl _) _
    have hg : (w.alloc (.cells (madeCells (Value.agg #[.string ⟨#[]⟩, .string ⟨#[]⟩, .bool false]).cells (ps.length * 3)) 86)).heap[w.heap.size]? = some (.cells (madeCells (Value.agg #[.string ⟨#[]⟩, .string ⟨#[]⟩, .bool false]).cells (ps.length * 3)) 86 (0, 0)) := heap_alloc_new _ _
    have h1 := h.below hb0
    obtain ⟨b, o, c', he, _, _, hc⟩ := h1.cells (by omega)
    injection he with he1 he2 he3
    subst he1 he3
    clear he2
    have hcp := fun tt => run_copyN _ 96 96 tt 86 w.heap.size ps.length ps.length c 3 ⟨b, o, none⟩ _ 86 (ps.flatMap pcells) Tryz.underlying96 (by kernel_rfl) hg (fm3_len ps) (size_madeCells _ _) (fun j v hj => by rw [addr_add]; exact hc j v hj) (rowcells_one ps)
    have hset := setRow_heap (w.alloc (.cells (madeCells (Value.agg #[.string ⟨#[]⟩, .string ⟨#[]⟩, .bool false]).cells (ps.length * 3)) 86)) w.heap.size _ (ps.flatMap pcells).toArray 86 _ hg
    have hbs := below_setRow hb0 (Nat.le_refl w.heap.size) (ps.flatMap pcells).toArray
    obtain ⟨wm, hwm⟩ : ∃ wm, w.alloc (.cells (madeCells (Value.agg #[.string ⟨#[]⟩, .string ⟨#[]⟩, .bool false]).cells (ps.length * 3)) 86) = wm := ⟨_, rfl⟩
    rw [hwm] at hmk hcp hset hbs
    obtain ⟨ws, hws⟩ : ∃ ws, wm.setRow w.heap.size (ps.flatMap pcells).toArray = ws := ⟨_, rfl⟩
    rw [hws] at hcp hset hbs
    have RR : Aside (Rd true ws 86 (.slice (some ⟨w.heap.size, 0, none⟩) ps.length ps.length) ps.length 3 (ps.flatMap pcells)) := by
      refine ⟨_, _, rfl, Nat.le_refl _, by omega, fm3_len ps, .inr ⟨w.heap.size, 0, rfl, fun j u hj => ?_, fun _ => ⟨_, _, hset⟩⟩⟩
      rw [cell_of_row _ _ _ _ _ _ hset, Nat.zero_add]
      simpa using hj
    clear hwm hws hset hg hb0 h h1 hc
    go_enter Tryz.func124, Tryz.ntmps124
    go_wp2_with fail
    go_ret
    exact ⟨_, rfl, RR.out, hbs⟩

set_option maxHeartbeats 1000000 in
set_option maxRecDepth 100000 in
theorem propKey_any (a b : ByteArray) (h : Bool) (w : World) : Calls Tryz.prog 77 #[.agg #[.string a, .string b, .bool h]] w fun e w' => e = .returned (.string a) ∧ w' = w.alloc (.cells #[.string a, .string b, .bool h] 86) := by
  go_enter Tryz.func77, Tryz.ntmps77
  go_wp2_with fail
  go_ret
  exact ⟨rfl, rfl⟩
set_option maxHeartbeats 1000000 in
set_option maxRecDepth 100000 in
theorem propValue_any (a b : ByteArray) (h : Bool) (w : World) : Calls Tryz.prog 76 #[.agg #[.string a, .string b, .bool h]] w fun e w' => e = .returned (.tuple #[.string b, .bool h]) ∧ Below w.heap.size w w' := by
  have hp := heap_alloc_new w (.cells #[.string a, .string b, .bool h] 86)
  have hb : Below w.heap.size w (w.alloc (.cells #[.string a, .string b, .bool h] 86)) := (Below.refl _ _).alloc (Nat.le_refl _) _
  go_enter Tryz.func76, Tryz.ntmps76
  go_wp2_with fail
  obtain ⟨w1, hw1⟩ : ∃ w1, w.alloc (.cells #[.string a, .string b, .bool h] 86) = w1 := ⟨_, rfl⟩
  rw [hw1] at hp hb ⊢
  obtain ⟨⟨c0, c1, c2⟩, _, _, _⟩ := row3 hp
  go_quiet (fail)
  go_wp2_with fail
  go_ret2
  exact ⟨rfl, below_drewN' hb nq⟩
set_option maxHeartbeats 1000000 in
set_option maxRecDepth 100000 in
theorem memKey_any (a b c : ByteArray) (A : Option Addr) (n k : Nat) (h : Bool) (w : World) : Calls Tryz.prog 84 #[.agg #[.string a, .string b, .string c, .slice A n k, .bool h]] w fun e w' => e = .returned (.string a) ∧ w' = w.alloc (.cells #[.string a, .string b, .string c, .slice A n k, .bool h] 98) := by
  go_enter Tryz.func84, Tryz.ntmps84
  go_wp2_with fail
  go_ret
  exact ⟨rfl, rfl⟩
set_option maxHeartbeats 1000000 in
set_option maxRecDepth 100000 in
theorem memValue_any (a b c : ByteArray) (A : Option Addr) (n k : Nat) (h : Bool) (w : World) : Calls Tryz.prog 85 #[.agg #[.string a, .string b, .string c, .slice A n k, .bool h]] w fun e w' => e = .returned (.string b) ∧ w' = w.alloc (.cells #[.string a, .string b, .string c, .slice A n k, .bool h] 98) := by
  go_enter Tryz.func85, Tryz.ntmps85
  go_wp2_with fail
  go_ret
  exact ⟨rfl, rfl⟩

/-- The properties that a member tells. -/
def memProps (m : Mem) : List Pr := if m.meta'.isEmpty then m.props else propsOf m.meta'
set_option maxHeartbeats 1000000 in
set_option maxRecDepth 100000 in
theorem memProperties_any {ty : Bool} (m : Mem) (kb vb mb : ByteArray) (pv : Value) (d : Bool) (w : World) (hw : Laid w) (hme : bs mb = m.meta') (hml : m.meta'.length ≤ 1000000) (hn : m.props.length ≤ 100000)
    (hp : Rd ty w 86 pv m.props.length 3 (m.props.flatMap pcells)) :
    Calls Tryz.prog 86 #[.agg #[.string kb, .string vb, .string mb, pv, .bool d]] w (RowPost 86 (memProps m) w) := by
  obtain ⟨AD, c, rfl, hnc, hcm⟩ := hp.shape
  have hb : Below w.heap.size w (w.alloc (.cells #[.string kb, .string vb, .string mb, .slice AD m.props.length c, .bool d] 98)) := (Below.refl _ _).alloc (Nat.le_refl _) _
  cases he : mb.toList.isEmpty
  · have X : Aside (memProps m = propsOf (bs mb)) := by
      show _ = _
      rw [memProps, ← hme, ← toList_empty, he]
      rfl
    have hpm := propertiesFromMetadata_any mb _ (hw.below hb) (by rw [← bs_length, hme]; exact hml)
    go_enter Tryz.func86, Tryz.ntmps86
    go_wp2_with (go_at_fn 126; fail)
    refine hpm.mono ?_
    intro e w2 hpost
    obtain ⟨v, rfl, hrd, hbel⟩ := hpost
    go_wp2_with fail
    go_ret
    rw [X.out]
    exact ⟨_, rfl, hrd, below_then hb hb.size hbel⟩
  · have X : Aside (memProps m = m.props) := by
      show _ = _
      rw [memProps, ← hme, ← toList_empty, he]
      rfl
    have hcp := Copy_any m.props _ _ (hp.below hb) hn
    clear hp
    go_enter Tryz.func86, Tryz.ntmps86
    go_wp2_with (go_at_fn 124; fail)
    refine hcp.mono ?_
    intro e w2 hpost
    obtain ⟨v, rfl, hrd, hbel⟩ := hpost
    go_wp2_with fail
    go_ret
    rw [X.out]
    exact ⟨_, rfl, hrd, below_then hb hb.size hbel⟩

/-- impl.Property: its cells. -/
def ipcells (p : Pr) : List Value := [S p.1, .bool p.2.isSome, S (p.2.getD [])]
set_option maxHeartbeats 1000000 in
set_option maxRecDepth 100000 in
theorem propertyOf_any (a b : ByteArray) (h : Bool) (w : World) : Calls Tryz.prog 39 #[.agg #[.string a, .string b, .bool h]] w fun e w' => e = .returned (.agg #[.string a, .bool h, .string b]) ∧ Below w.heap.size w w' := by
  have hb : Below w.heap.size w ((w.alloc (.cells #[.string a, .string b, .bool h] 86)).alloc (.cells #[.string ⟨#[]⟩, .bool false, .string ⟨#[]⟩] 32)) := ((Below.refl _ _).alloc (Nat.le_refl _) _).alloc (by simp) _
  have hx : ((w.alloc (.cells #[.string a, .string b, .bool h] 86)).alloc (.cells #[.string ⟨#[]⟩, .bool false, .string ⟨#[]⟩] 32)).heap[w.heap.size]? = some (.cells #[.string a, .string b, .bool h] 86 (0, 0)) := row_alloc (heap_alloc_new _ _) _
  have hr : ((w.alloc (.cells #[.string a, .string b, .bool h] 86)).alloc (.cells #[.string ⟨#[]⟩, .bool false, .string ⟨#[]⟩] 32)).heap[w.heap.size + 1]? = some (.cells #[.string ⟨#[]⟩, .bool false, .string ⟨#[]⟩] 32 (0, 0)) := heap_alloc_2 _ _ _
  have hpv := fun W => propValue_any a b h W
  have hpk := fun W => propKey_any a b h W
  go_enter Tryz.func39, Tryz.ntmps39
  go_wp2_with (go_at_fn 76; fail)
  refine (hpv _).mono ?_
  rintro e w2 ⟨rfl, hbel⟩
  have hx2 := (hbel.block _ (Array.getElem?_eq_some_iff.1 hx).1).trans hx
  have hr2 := (hbel.block _ (Array.getElem?_eq_some_iff.1 hr).1).trans hr
  have hb2 := below_then hb hb.size hbel
  have hlt := (Array.getElem?_eq_some_iff.1 hr2).1
  obtain ⟨⟨c0, c1, c2⟩, f0, f1, f2⟩ := row3 hx2
  clear hx hr hbel hb hpv
  go_wp2_with (go_at_fn 77; fail)
  refine (hpk _).mono ?_
  rintro e w' ⟨rfl, rfl⟩
  obtain ⟨⟨d0, d1, d2⟩, g0, g1, g2⟩ := row3 hr2
  go_wp2_with fail
  (try simp only [Exit.inBlock, Exit.then]); refine bodyPost_ret (results_cell_row rfl _ _ (w.heap.size + 1) 32 _ (0, 0) _ rfl (row_alloc (row_set (row_set (row_set hr2 0 _) 1 _) 2 _) _) Tryz.underlying32 rfl (by kernel_rfl)) rfl ?_
  exact ⟨rfl, (((hb2.setCell (by simp) _).setCell (by simp) _).setCell (by simp) _).alloc (by simp; omega) _⟩
end Go.Proofs.YtleofgndghjflaaGreatDoor

set_option linter.unusedVariables false
set_option linter.unusedSimpArgs false
namespace Go.Proofs.YtleofgndghjflaaGreatDoor
open Go Go.RowKit

theorem alloc_at (w : World) (o : Obj) (n : Nat) (h : n = w.heap.size) : (w.alloc o).heap[n]? = some o := by
  rw [h]
  exact heap_alloc_new _ _
theorem own_setOther {w : World} {B : Nat} {e t : TypeId} {size n : Nat} {v : Value} {xs : List Value} {g i : Nat} {cs : Array Value} {fr : Nat × Nat} (h : w.ownsRow B e size v n xs) (hg : w.heap[g]? = some (.cells cs t fr)) (hne : t ≠ e) (u : Value) : (w.setCell ⟨g, i, none⟩ u).ownsRow B e size v n xs := by
  refine h.kept (row := some g) ⟨rfl, rfl, rfl, by simp [World.setCell], fun k _ hk => Below.heap_setCell _ _ _ _ (fun e => hk (by simp [e]))⟩ (.inr ?_)
  intro hv
  rcases h.2 with ⟨rfl, _⟩ | ⟨g', cap, cur, rfl, _, hh, _⟩
  · simp [Value.ownBlock] at hv
  · have : g' = g := by simpa [Value.ownBlock] using hv
    subst this
    rw [hg] at hh
    injection hh with hh
    injection hh with _ hh
    exact hne hh
theorem Tryz.info32 : (Tryz.prog.info? 32).map (fun i => (i.zero, i.size, i.bytes)) = some (some (.agg #[.string ⟨#[]⟩, .bool false, .string ⟨#[]⟩]), 3, 40) := by kernel_rfl
/-- A member as data of impl: its key, its value, and its properties' cells behind a slice. -/
def IMem (w : World) (cs : List Value) (m : Mem) : Prop :=
  ∃ kb vb pv, cs = [.string kb, .string vb, pv] ∧ bs kb = m.key ∧ bs vb = m.val ∧ Rd true w 32 pv (memProps m).length 3 ((memProps m).flatMap ipcells)
def IMemPost (m : Mem) (w : World) (e : Ending) (w' : World) : Prop :=
  ∃ cs : List Value, e = .returned (.agg cs.toArray) ∧ IMem w' cs m ∧ Below w.heap.size w w'

set_option maxHeartbeats 2000000 in
set_option maxRecDepth 100000 in
theorem memberOf_any {ty : Bool} (m : Mem) (kb vb mb : ByteArray) (pv : Value) (d : Bool) (w : World) (hw : Laid w) (hk : bs kb = m.key) (hv : bs vb = m.val) (hme : bs mb = m.meta') (hml : m.meta'.length ≤ 1000000) (hn : m.props.length ≤ 100000) (hpl : (memProps m).length ≤ 100000)
    (hp : Rd ty w 86 pv m.props.length 3 (m.props.flatMap pcells)) :
    Calls Tryz.prog 45 #[.agg #[.string kb, .string vb, .string mb, pv, .bool d]] w (IMemPost m w) := by
  obtain ⟨AD, c, rfl, hnc, hcm⟩ := hp.shape
  have H : Aside (Rd ty w 86 (.slice AD m.props.length c) m.props.length 3 (m.props.flatMap pcells) ∧ bs kb = m.key ∧ bs vb = m.val ∧ bs mb = m.meta') := ⟨hp, hk, hv, hme⟩
  clear hp hk hv hme
  obtain ⟨w1, hw1⟩ : ∃ w1, (w.alloc (.cells #[.string kb, .string vb, .string mb, .slice AD m.props.length c, .bool d] 98)).alloc (.cells #[.string ⟨#[]⟩, .string ⟨#[]⟩, .slice none 0 0] 42) = w1 := ⟨_, rfl⟩
  have hb1 : Below w.heap.size w w1 := by rw [← hw1]; exact ((Below.refl _ _).alloc (Nat.le_refl _) _).alloc (by simp) _
  have hx1 : w1.heap[w.heap.size]? = some (.cells #[.string kb, .string vb, .string mb, .slice AD m.props.length c, .bool d] 98 (0, 0)) := by rw [← hw1]; exact row_alloc (heap_alloc_new _ _) _
  have hr1 : w1.heap[w.heap.size + 1]? = some (.cells #[.string ⟨#[]⟩, .string ⟨#[]⟩, .slice none 0 0] 42 (0, 0)) := by rw [← hw1]; exact heap_alloc_2 _ _ _
  have hz1 : w1.heap.size = w.heap.size + 2 := by rw [← hw1]; simp
  obtain ⟨⟨c0, c1, c2, c3, c4⟩, f0, f1, f2, f3, f4⟩ := row5 hx1
  go_enter Tryz.func45, Tryz.ntmps45
  go_upto_region 1 with fail

  clear hw1
  go_cut [3] from 3 to 10 (fun v W => ∃ B, v = .pointer (some ⟨B, 0, none⟩) ∧ W.heap[B]? = some (.cells #[.string kb, .string vb, .slice none 0 0] 42 (0, 0)) ∧ w.heap.size + 2 ≤ B ∧ Below w.heap.size w W ∧ W.heap[w.heap.size]? = some (.cells #[.string kb, .string vb, .string mb, .slice AD m.props.length c, .bool d] 98 (0, 0)) ∧ W.heap[w.heap.size + 1]? = some (.cells #[.string ⟨#[]⟩, .string ⟨#[]⟩, .slice none 0 0] 42 (0, 0)))
  case first =>
    go_wp2_with fail
    go_region_held3 (fun W => W.cell? ⟨w.heap.size, 0, none⟩ = some (.string kb) ∧ W.cell? ⟨w.heap.size, 1, none⟩ = some (.string vb) ∧ W.cell? ⟨w.heap.size, 2, none⟩ = some (.string mb) ∧ W.cell? ⟨w.heap.size, 3, none⟩ = some (.slice AD m.props.length c) ∧ W.cell? ⟨w.heap.size, 4, none⟩ = some (.bool d)) ((refine ⟨?_, ?_, ?_, ?_, ?_⟩ <;> (first | (with_reducible assumption) | (simp (disch := (first | omega | (simp only [World.size_alloc, World.size_setCell, World.size_drew]; omega))) only [cellg_set, cellg_alloc, cellg_drew]; first | done | (with_reducible assumption))))) (first
      | (go_at_call 84; refine (memKey_any _ _ _ _ _ _ _ _).mono ?_; rintro e w' ⟨rfl, rfl⟩)
      | (go_at_call 85; refine (memValue_any _ _ _ _ _ _ _ _).mono ?_; rintro e w' ⟨rfl, rfl⟩))
    all_goals
      go_wp2_with fail
      go_meet
      refine ⟨_, rfl, ?_, by omega, (((hb1.alloc hb1.size _).alloc (by simp only [World.size_alloc]; omega) _).alloc (by simp only [World.size_alloc]; omega) _).drew, row_drew (row_alloc (row_alloc (row_alloc hx1 _) _) _), row_drew (row_alloc (row_alloc (row_alloc hr1 _) _) _)⟩
      first
        | exact row_drew (alloc_at _ _ _ (by simp only [World.size_alloc, hz1]))
        | exact row_drew (row_alloc (alloc_at _ _ _ (by simp only [World.size_alloc, hz1])) _)
        | exact row_drew (row_alloc (row_alloc (alloc_at _ _ _ (by simp only [World.size_alloc, hz1])) _) _)
  case rest =>
    clear hb1 hx1 hr1 hz1 c0 c1 c2 c3 c4 f0 f1 f2 f3 f4
    obtain ⟨B, rfl, hB, hBw, hb1, hx1, hr1⟩ := hcut
    obtain ⟨⟨c0, c1, c2, c3, c4⟩, f0, f1, f2, f3, f4⟩ := row5 hx1
    have hmp := memProperties_any m kb vb mb _ d wc (hw.below hb1) H.out.2.2.2 hml hn (H.out.1.below hb1)
    go_wp2_with (go_at_fn 86; fail)
    refine hmp.mono ?_
    intro e w2 hpost
    obtain ⟨v, rfl, hrd, hbel⟩ := hpost
    have hb2 := below_then hb1 hb1.size hbel
    have hB2 := (hbel.block _ (Array.getElem?_eq_some_iff.1 hB).1).trans hB
    have hr2 := (hbel.block _ (Array.getElem?_eq_some_iff.1 hr1).1).trans hr1
    obtain ⟨ps, hps⟩ : ∃ ps, memProps m = ps := ⟨_, rfl⟩
    rw [hps] at hrd hpl
    have HP : Aside (memProps m = ps ∧ bs kb = m.key ∧ bs vb = m.val) := ⟨hps, H.out.2.1, H.out.2.2.1⟩
    clear hmp hbel hps hb1 hx1 hr1 hB c0 c1 c2 c3 c4 f0 f1 f2 f3 f4 H
    obtain ⟨A2, c2, rfl, hnc2, hcm2⟩ := hrd.shape
    go_wp2_with fail
    go_loopg [14] (ps.length + 1) (fun gk i W => Below w.heap.size w W ∧ ∃ (k : Nat) (ov : Value), i = .int .i64 k ∧ k ≤ ps.length ∧ k + gk = ps.length + 1 ∧ W.heap[B]? = some (.cells #[.string kb, .string vb, ov] 42 (0, 0)) ∧ W.heap[w.heap.size + 1]? = some (.cells #[.string ⟨#[]⟩, .string ⟨#[]⟩, .slice none 0 0] 42 (0, 0)) ∧ Rd true W 86 (.slice A2 ps.length c2) ps.length 3 (ps.flatMap pcells) ∧ W.ownsRow w.heap.size 32 3 ov k ((ps.take k).flatMap ipcells))
    case atStart => exact ⟨hb2, 0, _, rfl, by omega, by omega, hB2, hr2, hrd, own_nil _ _ _ _⟩
    case round =>
      clear hb2 hB2 hr2 hrd
      obtain ⟨hb, k, ov, rfl, hk, hg, hB, hr, hrd, ho⟩ := hrel
      have hws := hb.size
      have hBl := (Array.getElem?_eq_some_iff.1 hB).1
      by_cases hlt : k < ps.length
      · obtain ⟨p, hp⟩ : ∃ p, ps[k] = p := ⟨_, rfl⟩
        have hpk : ps[k]? = some p := by rw [List.getElem?_eq_getElem hlt, hp]
        have hA2 : 0 < ps.length := by omega
        obtain ⟨bk, o, c', he, _, _, _⟩ := hrd.cells hA2
        injection he with he1 he2 he3
        subst he1 he3
        clear he2
        obtain ⟨pa, pv, ph, hpc⟩ : ∃ pa pv ph, pcells p = [.string pa, .string pv, .bool ph] ∧ ipcells p = [.string pa, .bool ph, .string pv] := ⟨⟨p.1.toArray⟩, ⟨(p.2.getD []).toArray⟩, p.2.isSome, rfl, rfl⟩
        have hat := fun j hj => fm3 pcells pcells_len ps k p hpk j hj
        have c0 : wr.cell? ⟨bk, o + k * 3, none⟩ = some (.string pa) := hrd.at' rfl (by have := hat 0 (by omega); rw [hpc.1] at this; simpa using this)
        have c1 : wr.cell? ⟨bk, o + k * 3 + 1, none⟩ = some (.string pv) := hrd.at' (j := k * 3 + 1) (by omega) (by have := hat 1 (by omega); rw [hpc.1] at this; simpa using this)
        have c2' : wr.cell? ⟨bk, o + k * 3 + 2, none⟩ = some (.bool ph) := hrd.at' (j := k * 3 + 2) (by omega) (by have := hat 2 (by omega); rw [hpc.1] at this; simpa using this)
        have htk : Aside ((ps.take (k + 1)).flatMap ipcells = (ps.take k).flatMap ipcells ++ [.string pa, .bool ph, .string pv]) := by
          show _ = _
          rw [List.take_succ_eq_append_getElem hlt, hp, List.flatMap_append, List.flatMap_cons, List.flatMap_nil, hpc.2, List.append_nil]
        clear hat hpk hp hpc hA2
        obtain ⟨⟨_, _, d2⟩, _, _, g2⟩ := row3 hB
        have hA : Below wr.heap.size wr (wr.alloc (.cells #[.string pa, .string pv, .bool ph] 86)).drew := ((Below.refl _ _).alloc (Nat.le_refl _) _).drew
        have hq : (wr.alloc (.cells #[.string pa, .string pv, .bool ph] 86)).drew.heap[wr.heap.size]? = some (.cells #[.string pa, .string pv, .bool ph] 86 (0, 0)) := row_drew (heap_alloc_new _ _)
        have hpo := propertyOf_any pa pv ph (wr.alloc (.cells #[.string pa, .string pv, .bool ph] 86)).drew
        obtain ⟨⟨_, _, d2a⟩, _, _, _⟩ := row3 (row_alloc hB (.cells #[.string pa, .string pv, .bool ph] 86))
        obtain ⟨⟨_, _, d2b⟩, _, _, _⟩ := row3 (row_drew (row_alloc hB (.cells #[.string pa, .string pv, .bool ph] 86)))
        go_wp2_with fail
        go_region_law (first
          | (go_simp; go_at_call 39; refine hpo.mono ?_; rintro e w5 ⟨rfl, hbel⟩
             have hA5 := below_then hA hA.size hbel
             have hB5 := (hA5.block _ hBl).trans hB
             have hq5 := (hbel.block _ (Array.getElem?_eq_some_iff.1 hq).1).trans hq
             obtain ⟨⟨_, _, e2⟩, _, _, h2⟩ := row3 hB5
             obtain ⟨⟨q0, q1, q2⟩, _, _, _⟩ := row3 hq5
             have hr5 := (hA5.block _ (Array.getElem?_eq_some_iff.1 hr).1).trans hr
             have ho5 := own_below (C := 0) ho hA5
             have hrd5 := hrd.below hA5
             have hb5 := below_then hb hws hA5
             have hs5 := hA5.size
             have hl5 := (Array.getElem?_eq_some_iff.1 hq5).1
             have hlB5 : B < w5.heap.size := (Array.getElem?_eq_some_iff.1 hB5).1
             obtain ⟨⟨_, _, e2a⟩, _, _, h2a⟩ := row3 (row_alloc hB5 (.cells #[.string pa, .bool ph, .string pv] 32))
             clear hbel hA5 hpo)
          | (refine step_app (w5.alloc (.cells #[.string pa, .bool ph, .string pv] 32)) w.heap.size (by rfl) (.tmp 19) (.tmp 22) 40 (by rfl) 32 _ 3 40 Tryz.underlying40 Tryz.info32 rfl (by decide) ov k _ [.string pa, .bool ph, .string pv] (by rfl) w5.heap.size (by rfl) rfl (by intro u hu; simp at hu; rcases hu with rfl | rfl | rfl <;> rfl) (ho5.alloc _) (heap_alloc_new _ _) (by have := hb5.size; simp; omega) (by omega) (by omega) ?_
             intro v1 w6 ho6 hb6 hf6 hs6
             have hB6 := (hf6.block _ (by simp; omega) (by intro c f h; rw [row_alloc hB5] at h; cases h)).trans (row_alloc hB5 (.cells #[.string pa, .bool ph, .string pv] 32))
             have hq6 := (hf6.block _ (by simp; omega) (by intro c f h; rw [row_alloc hq5] at h; cases h)).trans (row_alloc hq5 (.cells #[.string pa, .bool ph, .string pv] 32))
             have hr6 := (hf6.block _ (by simp; omega) (by intro c f h; rw [row_alloc hr5] at h; cases h)).trans (row_alloc hr5 (.cells #[.string pa, .bool ph, .string pv] 32))
             obtain ⟨⟨_, _, e62⟩, _, _, h62⟩ := row3 hB6
             obtain ⟨⟨q60, q61, q62⟩, _, _, _⟩ := row3 hq6
             have hrd6 := (hrd5.below ((Below.refl _ _).alloc (Nat.le_refl _) _)).fr hf6 (by decide)
             have hb7 := (hb5.alloc hb5.size _).trans hb6
             obtain ⟨A3, n3, c3, rfl⟩ : ∃ A3 n3 c3, v1 = .slice A3 n3 c3 := by
               rcases ho6.2 with ⟨hv, _⟩ | ⟨g, cap, cur, hv, _⟩
               · exact ⟨_, _, _, hv⟩
               · exact ⟨_, _, _, hv⟩))
        all_goals
          go_wp2_with fail
          go_roundg (gk - 1)
          case rel =>
            refine ⟨hb7.setCell (by show w.heap.size ≤ B; omega) _, k + 1, _, by go_num, by omega, by omega, row_set hB6 2 _, ?_, hrd6.fr2 ((Fr2.refl 42 42 _).set hB6 _) (by decide) (by decide), ?_⟩
            · rw [Below.heap_setCell _ _ _ _ (by show ¬ w.heap.size + 1 = B; omega)]
              exact hr6
            · rw [htk.out]
              exact own_setOther ho6 hB6 (by decide) _
          case measure => omega
      · rw [List.take_of_length_le (by omega)] at ho
        have hkl : k = ps.length := by omega
        obtain ⟨A3, n3, c3, rfl⟩ : ∃ A3 n3 c3, ov = .slice A3 n3 c3 := by
          rcases ho.2 with ⟨hv, _⟩ | ⟨g, cap, cur, hv, _⟩
          · exact ⟨_, _, _, hv⟩
          · exact ⟨_, _, _, hv⟩
        obtain ⟨⟨c0, c1, c2'⟩, _, _, _⟩ := row3 hB
        obtain ⟨⟨d0, d1, d2⟩, g0, g1, g2⟩ := row3 hr
        have RO := Rd.of_own ho
        rw [hkl] at RO
        have RO : Aside (Rd true wr 32 (.slice A3 n3 c3) ps.length 3 (ps.flatMap ipcells)) := RO
        clear ho hrd hkl
        go_wp2_with fail
        (try simp only [Exit.inBlock, Exit.then]); refine bodyPost_ret (results_cell_row rfl _ _ (w.heap.size + 1) 42 _ (0, 0) _ rfl (row_set (row_set (row_set hr 0 _) 1 _) 2 _) Tryz.underlying42 rfl (by kernel_rfl)) rfl ?_
        refine ⟨[.string kb, .string vb, .slice A3 n3 c3], rfl, ⟨kb, vb, _, rfl, HP.out.2.1, HP.out.2.2, ?_⟩, ((hb.setCell (by simp) _).setCell (by simp) _).setCell (by simp) _⟩
        rw [HP.out.1]
        exact RO.out.fr2 ((((Fr2.refl 42 42 wr).set hr _).set (row_set hr 0 _) _).set (row_set (row_set hr 0 _) 1 _) _) (by decide) (by decide)
end Go.Proofs.YtleofgndghjflaaGreatDoor

set_option linter.unusedVariables false
set_option linter.unusedSimpArgs false
namespace Go.Proofs.YtleofgndghjflaaGreatDoor
open Go Go.RowKit

/-- An element of the row that is sorted: key, value, the properties' slice. -/
abbrev IM := ByteArray × ByteArray × (Option Addr × Nat × Nat)
def encM (x : IM) : List Value := [.string x.1, .string x.2.1, .slice x.2.2.1 x.2.2.2.1 x.2.2.2.2]

set_option maxHeartbeats 2000000 in
set_option maxRecDepth 100000 in
theorem less_any (blk off c Bs size : Nat) (W : World) (G : Nat → ByteArray) (hs : W.cell? ⟨Bs, 0, none⟩ = some (.slice (some ⟨blk, off, none⟩) size c))
    (hc : ∀ t, t < size → W.cell? ⟨blk, off + t * 3, none⟩ = some (.string (G t))) (i j : Nat) (hi : i < size) (hj : j < size) (_hsz : size < 4611686018427387904) :
    Calls Tryz.prog 100 #[.int .i64 i, .int .i64 j, .pointer (some ⟨Bs, 0, none⟩)] W fun e w' => e = .returned (.bool (Op.bytesLess (bs (G i)) (bs (G j)))) ∧ ∃ q, w' = W.drewN q := by
  have ci := hc i hi
  have cj := hc j hj
  go_enter Tryz.func100, Tryz.ntmps100
  go_wp2
  go_quiet (fail)
  go_wp2
  go_ret
  refine ⟨?_, nq, rfl⟩
  simp only [bs, ← ByteArray.toList_eq]
  rfl

theorem bl_eq : ∀ (x y : List UInt8), Op.bytesLess x y = decide (x < y)
  | _, [] => by simp [Op.bytesLess]
  | [], _ :: _ => by simp [Op.bytesLess]
  | a :: x, b :: y => by
    rw [Op.bytesLess, bl_eq x y, Bool.eq_iff_iff]
    simp [List.cons_lt_cons_iff]
def ltM (x y : IM) : Bool := Op.bytesLess (bs x.1) (bs y.1)
theorem swo_ltM : Go.Sort.SWO ltM where
  irrefl := fun x => by
    unfold ltM
    rw [bl_eq]
    exact decide_eq_false (List.lt_irrefl _)
  trans := fun x y z h1 h2 => by
    unfold ltM at *
    rw [bl_eq] at *
    exact decide_eq_true (List.lt_trans (of_decide_eq_true h1) (of_decide_eq_true h2))
  ntrans := fun x y z h1 h2 => by
    unfold ltM at *
    rw [bl_eq] at *
    have a1 := of_decide_eq_false h1
    have a2 := of_decide_eq_false h2
    refine decide_eq_false fun h => ?_
    rw [List.not_lt] at a1 a2
    exact absurd h (by rw [List.not_lt]; exact List.le_trans a2 a1)

theorem Tryz.t51 : ∃ i ie, Tryz.prog.info? 51 = some i ∧ i.desc = .slice 42 ∧ Tryz.prog.info? 42 = some ie ∧ ie.size = 3 ∧ ie.hasPointers = true ∧ ie.bytes = 56 := by
  have h1 : (Tryz.prog.info? 51).map (·.desc) = some (.slice 42) := by kernel_rfl
  have h2 : (Tryz.prog.info? 42).map (fun i => (i.size, i.hasPointers, i.bytes)) = some (3, true, 56) := by kernel_rfl
  obtain ⟨i, hi, hd⟩ := Option.map_eq_some_iff.1 h1
  obtain ⟨ie, hie, hd2⟩ := Option.map_eq_some_iff.1 h2
  simp only [Prod.mk.injEq] at hd2
  exact ⟨i, ie, hi, hd, hie, hd2.1, hd2.2.1, hd2.2.2⟩

open Go.Sort Go.Shelf Go.Lib in
theorem sort_members (blk off c Bs : Nat) (d : Array IM) (h2 : 2 ≤ d.size) (hsz : d.size < 4611686018427387904) (w : World) (hH : HoldsK encM 3 w blk off d) (hblk : blk < w.heap.size)
    (hBs : w.cell? ⟨Bs, 0, none⟩ = some (.slice (some ⟨blk, off, none⟩) d.size c)) (hB1 : Bs < w.heap.size) (hB2 : Bs ≠ blk) :
    Calls Tryz.prog 99 #[.iface 51 (.slice (some ⟨blk, off, none⟩) d.size c), .func (.func 100) #[] #[.pointer (some ⟨Bs, 0, none⟩)]] w fun e w' =>
      e = .returned (.tuple #[]) ∧ ∃ d' n os, PermIn 0 d.size d d' ∧ SortedIn ltM 0 d.size d' ∧ w' = grow (putRowK encM 3 (Sort.ahead w n) blk off d') os := by
  have hless : LessReadsK Tryz.prog 100 #[.pointer (some ⟨Bs, 0, none⟩)] encM 3 ltM blk off d.size w := by
    intro m os dk hs i j hi hj
    have e : sortWorldK encM 3 w blk off m dk os = putRowK encM 3 (grow (Sort.ahead w m) os) blk off dk := by
      unfold sortWorldK; rw [putRowK_grow _ _ (Sort.ahead w m) _ blk off _ hblk]
    have hHg : HoldsK encM 3 (grow (Sort.ahead w m) os) blk off d := holdsK_grow _ _ _ _ blk off d hblk (holdsK_ahead _ _ _ _ _ _ _ hH)
    refine less_any blk off c Bs d.size _ (fun t => dk[t]!.1) ?_ (fun t ht => ?_) i j hi hj (by omega)
    · rw [e, cell?_putRowK_other _ _ _ blk off dk _ (by exact hB2), cell?_grow _ _ _ (by exact hB1)]; exact hBs
    · rw [e]; exact ((holdsK_putRowK _ _ _ blk off d dk hHg hs).cell (i := t) (c := 0) (by omega) (by omega)).1
  obtain ⟨i, ie, hi, hd, hie, hs1, hp1, hb1⟩ := Tryz.t51
  have hk9 : swapperK d.size ie 25 = 9 := by
    have c : (d.size == 0) = false := beq_eq_false_iff_ne.2 (by omega)
    have c2 : (d.size == 1) = false := beq_eq_false_iff_ne.2 (by omega)
    simp [swapperK, hp1, hb1, c, c2]
  exact Any.sort_Slice_cells_sorted Tryz.laysGg6 51 42 i ie hi hd (by kernel_rfl) hie 25 (fun _ => by kernel_rfl) encM 3 (fun _ => rfl) hs1 (fun _ => by kernel_rfl)
    (fun x v hv => by simp [encM] at hv; rcases hv with rfl | rfl | rfl <;> rfl) ltM swo_ltM 100 _
    (enters_of Tryz.func100 (by kernel_rfl) rfl) blk off c d h2 hsz 182 (by rw [hk9]; kernel_rfl) false
    (fun args W => run_callFunc_extern Tryz.func182 (by kernel_rfl) (by kernel_rfl) (by kernel_rfl) (e := Extern.ReflectliteSwapper.swap false) (by kernel_rfl) args W) w hless hH hblk
end Go.Proofs.YtleofgndghjflaaGreatDoor

set_option linter.unusedVariables false
set_option linter.unusedSimpArgs false
namespace Go.Proofs.YtleofgndghjflaaGreatDoor
open Go Go.RowKit

def SortPost (W : World) (g : Nat) (ds : List IM) (e : Ending) (w' : World) : Prop :=
  e = .returned (.tuple #[]) ∧ ∃ ds2 : List IM, ds.Perm ds2 ∧ ds2.Pairwise (fun a b => ltM b a = false) ∧ (∃ cs1, w'.heap[g]? = some (.cells cs1 42 (0, 0)) ∧ ∀ (j : Nat) u, (ds2.flatMap encM)[j]? = some u → cs1[j]? = some u) ∧ W.grownBy w' (some g)
theorem encM_len (x : IM) : (encM x).length = 3 := rfl
theorem flatM_at (ds : List IM) (j : Nat) (hj : j < ds.length * 3) : (ds.flatMap encM)[j]? = some ((Go.Sort.flatK encM 3 ds.toArray)[j]!) := by
  have h1 : j / 3 < ds.length := by omega
  have h2 := fm3 encM encM_len ds (j / 3) ds[j / 3] (List.getElem?_eq_getElem h1) (j % 3) (Nat.mod_lt _ (by omega))
  rw [show j / 3 * 3 + j % 3 = j by omega] at h2
  rw [h2, Go.Sort.get_flatK encM 3 ds.toArray j (by simpa using hj)]
  have h3 : j % 3 < (encM ds[j / 3]).length := by rw [encM_len]; omega
  rw [List.getElem?_eq_getElem h3]
  simp [h1, h3]
theorem pair_of (ds : Array IM) (h : Go.Sort.SortedIn ltM 0 ds.size ds) : ds.toList.Pairwise (fun a b => ltM b a = false) := by
  rw [List.pairwise_iff_getElem]
  intro i j hi hj hij
  have := h i j (Nat.zero_le _) hij (by simpa using hj)
  have hi' : i < ds.size := by simpa using hi
  have hj' : j < ds.size := by simpa using hj
  rw [getElem!_pos ds i hi', getElem!_pos ds j hj'] at this
  simpa using this

open Go.Sort in
theorem sort_IM (W : World) (B g c : Nat) (ds : List IM) (h2 : 2 ≤ ds.length) (hsz : ds.length ≤ 100000) (cs0 : Array Value) (hrow : W.heap[g]? = some (.cells cs0 42 (0, 0))) (hcells : ∀ (j : Nat) u, (ds.flatMap encM)[j]? = some u → cs0[j]? = some u)
    (hBs : W.cell? ⟨B, 0, none⟩ = some (.slice (some ⟨g, 0, none⟩) ds.length c)) (hne : B ≠ g) :
    Calls Tryz.prog 99 #[.iface 51 (.slice (some ⟨g, 0, none⟩) ds.length c), .func (.func 100) #[] #[.pointer (some ⟨B, 0, none⟩)]] W (SortPost W g ds) := by
  have hg := (Array.getElem?_eq_some_iff.1 hrow).1
  have hH : HoldsK encM 3 W g 0 ds.toArray := by
    intro j hj
    rw [size_flatK, List.size_toArray] at hj
    have h1 := hcells j _ (flatM_at ds j hj)
    refine ⟨by rw [cell_of_row _ _ _ _ _ _ hrow, Nat.zero_add]; exact h1, by simp [World.frozen?, hrow]⟩
  have hs := sort_members g 0 c B ds.toArray (by simpa using h2) (by simp; omega) W hH hg (by simpa using hBs) (lt_of_cell hBs) hne
  simp only [List.size_toArray] at hs
  refine hs.mono ?_
  rintro e w' ⟨rfl, d', n, os, hp, hso, rfl⟩
  have hd : d'.size = ds.length := by have := hp.1; simpa using this
  have hperm : ds.Perm d'.toList := by
    have := hp.2.2
    simp only [Array.toList_extract] at this
    have e1 : List.take (ds.length - 0) (List.drop 0 d'.toList) = d'.toList := by
      rw [List.drop_zero, Nat.sub_zero, List.take_of_length_le (by simp [hd])]
    have e2 : List.take (ds.length - 0) (List.drop 0 ds.toArray.toList) = ds := by
      simp
    rw [List.extract_eq_take_drop, List.extract_eq_take_drop, e1, e2] at this
    exact this.symm
  have hput : (putRowK encM 3 (Sort.ahead W n) g 0 d').heap[g]? = some (.cells (putCells id 0 (flatK encM 3 d') cs0) 42 (0, 0)) := by
    simp only [putRowK, putRow, mapBlock, Sort.ahead, Array.getElem?_modify, if_true, hrow]
    rfl
  have hblk : (grow (putRowK encM 3 (Sort.ahead W n) g 0 d') os).heap[g]? = some (.cells (putCells id 0 (flatK encM 3 d') cs0) 42 (0, 0)) := by
    simp only [grow]
    rw [Array.getElem?_append_left (Array.getElem?_eq_some_iff.1 hput).1]
    exact hput
  refine ⟨rfl, d'.toList, hperm, pair_of d' (by rw [hd]; exact hso), ⟨_, hblk, fun j u hj => ?_⟩, ⟨rfl, rfl, rfl, ?_, fun k hk hkn => ?_⟩⟩
  · have hjl : j < d'.toList.length * 3 := by
      have := (List.getElem?_eq_some_iff.1 hj).1
      rw [show (d'.toList.flatMap encM).length = d'.toList.length * 3 from ?_] at this
      · exact this
      · induction d'.toList with
        | nil => rfl
        | cons x r ih => rw [List.flatMap_cons, List.length_append, ih, encM_len, List.length_cons]; omega
    have h1 := flatM_at d'.toList j hjl
    rw [hj] at h1
    have hHK := holdsK_putRowK encM 3 (Sort.ahead W n) g 0 ds.toArray d' (holdsK_ahead _ _ _ _ _ _ _ hH) (by simpa using hd)
    have h3 := (hHK j (by rw [size_flatK]; simpa using hjl)).1
    rw [cell_of_row _ g (0 + j) _ 42 (0, 0) hput, Nat.zero_add] at h3
    rw [h3, h1]
    simp
  · simp [grow, putRowK, putRow, mapBlock, Sort.ahead]
  · simp only [grow]
    have hk' : k < (putRowK encM 3 (Sort.ahead W n) g 0 d').heap.size := by simpa [putRowK, putRow, mapBlock, Sort.ahead] using hk
    rw [Array.getElem?_append_left hk']
    simp only [putRowK, putRow, mapBlock, Sort.ahead, Array.getElem?_modify]
    rw [if_neg (by intro e; exact hkn (by rw [e]))]
end Go.Proofs.YtleofgndghjflaaGreatDoor

set_option linter.unusedVariables false
set_option linter.unusedSimpArgs false
namespace Go.Proofs.YtleofgndghjflaaGreatDoor
open Go Go.RowKit

theorem below_growW (w : World) (os : Array Obj) : Below w.heap.size w (Go.Sort.grow w os) :=
  ⟨rfl, rfl, rfl, by simp [Go.Sort.grow], fun k hk => by
    simp only [Go.Sort.grow]
    rw [Array.getElem?_append_left hk]⟩
def TinyPost (W : World) (e : Ending) (w' : World) : Prop := e = .returned (.tuple #[]) ∧ Below W.heap.size W w'
theorem sort_tiny (p : Option Addr) (n c : Nat) (h1 : n ≤ 1) (lf : Fn) (la lb : Array Value) (w : World) :
    Calls Tryz.prog 99 #[.iface 51 (.slice p n c), .func lf la lb] w (TinyPost w) := by
  obtain ⟨i, ie, hi, hd, hie, hs1, hp1, hb1⟩ := Tryz.t51
  have key : ∀ f, Tryz.prog.funcs.findIdx? (·.name == "internal/reflectlite" ++ ".Swapper$" ++ toString (Lib.swapperK n ie 25)) = some f → Calls Tryz.prog 99 #[.iface 51 (.slice p n c), .func lf la lb] w (TinyPost w) := by
    intro f hf
    refine (Any.sort_Slice_tiny Tryz.laysGg6 51 42 i ie hi hd (by kernel_rfl) hie 25 (fun _ => by kernel_rfl) p n c h1 f hf lf la lb w).mono ?_
    rintro e w' ⟨rfl, os, rfl⟩
    exact ⟨rfl, below_growW w os⟩
  rcases Nat.lt_or_ge n 1 with h0 | h0
  · have : n = 0 := by omega
    subst this
    have hk : Lib.swapperK 0 ie 25 = 1 := by simp [Lib.swapperK]
    exact key 174 (by rw [hk]; kernel_rfl)
  · have : n = 1 := by omega
    subst this
    have hk : Lib.swapperK 1 ie 25 = 2 := by simp [Lib.swapperK]
    exact key 175 (by rw [hk]; kernel_rfl)

end Go.Proofs.YtleofgndghjflaaGreatDoor

set_option linter.unusedVariables false
set_option linter.unusedSimpArgs false
namespace Go.Proofs.YtleofgndghjflaaGreatDoor
open Go Go.RowKit

theorem flat_get (sz : Nat) : ∀ (css : List (List Value)) (k : Nat) (cs : List Value), (∀ c ∈ css, c.length = sz) → css[k]? = some cs → ∀ j : Nat, j < sz → css.flatten[k * sz + j]? = cs[j]?
  | [], k, cs, _, h, j, hj => by simp at h
  | x :: r, 0, cs, hl, h, j, hj => by
    simp at h
    subst h
    rw [List.flatten_cons, Nat.zero_mul, Nat.zero_add, List.getElem?_append_left (by rw [hl x (by simp)]; exact hj)]
  | x :: r, k + 1, cs, hl, h, j, hj => by
    have hx := hl x (by simp)
    rw [List.flatten_cons, List.getElem?_append_right (by rw [hx, Nat.add_mul]; omega), hx]
    have := flat_get sz r k cs (fun c hc => hl c (by simp [hc])) (by simpa using h) j hj
    rw [← this]
    congr 1
    rw [Nat.add_mul]
    omega
theorem All2.get {α β : Type} {R : α → β → Prop} : ∀ {l : List α} {m : List β} (k : Nat) (b : β), All2 R l m → m[k]? = some b → ∃ a, l[k]? = some a ∧ R a b
  | [], [], _, _, _, h => by simp at h
  | x :: l, y :: m, 0, b, h, hb => by
    simp at hb
    subst hb
    exact ⟨x, rfl, h.1⟩
  | x :: l, y :: m, k + 1, b, h, hb => by
    obtain ⟨a, h1, h2⟩ := All2.get k b h.2 (by simpa using hb)
    exact ⟨a, by simpa using h1, h2⟩
  | [], _ :: _, _, _, h, _ => h.elim
  | _ :: _, [], _, _, h, _ => h.elim
theorem All2.mem {α β : Type} {R : α → β → Prop} : ∀ {l : List α} {m : List β}, All2 R l m → ∀ a ∈ l, ∃ b ∈ m, R a b
  | [], [], _, a, h => by simp at h
  | x :: l, y :: m, h, a, ha => by
    rcases List.mem_cons.1 ha with rfl | ha
    · exact ⟨y, by simp, h.1⟩
    · obtain ⟨b, hb, hr⟩ := All2.mem h.2 a ha
      exact ⟨b, by simp [hb], hr⟩
  | [], _ :: _, h, _, _ => h.elim
  | _ :: _, [], h, _, _ => h.elim
theorem MemCells.len {w : World} {cs : List Value} {m : Mem} (h : MemCells w cs m) : cs.length = 5 := by
  obtain ⟨kb, vb, mb, pv, rfl, _⟩ := h
  rfl
theorem IMem.below {w w' : World} {cs : List Value} {m : Mem} (h : IMem w cs m) (hb : Below w.heap.size w w') : IMem w' cs m := by
  obtain ⟨kb, vb, pv, h1, h2, h3, h4⟩ := h
  exact ⟨kb, vb, pv, h1, h2, h3, h4.below hb⟩
theorem IMem.fr {w w' : World} {cs : List Value} {m : Mem} {e : TypeId} (h : IMem w cs m) (hf : Fr e w w') (hne : 32 ≠ e) : IMem w' cs m := by
  obtain ⟨kb, vb, pv, h1, h2, h3, h4⟩ := h
  exact ⟨kb, vb, pv, h1, h2, h3, h4.fr hf hne⟩
theorem IMem.fr2 {w w' : World} {cs : List Value} {m : Mem} {e f : TypeId} (h : IMem w cs m) (hf : Fr2 e f w w') (hne : 32 ≠ e) (hnf : 32 ≠ f) : IMem w' cs m := by
  obtain ⟨kb, vb, pv, h1, h2, h3, h4⟩ := h
  exact ⟨kb, vb, pv, h1, h2, h3, h4.fr2 hf hne hnf⟩
theorem MemCells.fr2 {w w' : World} {cs : List Value} {m : Mem} {e f : TypeId} (h : MemCells w cs m) (hf : Fr2 e f w w') (hne : 86 ≠ e) (hnf : 86 ≠ f) : MemCells w' cs m := by
  obtain ⟨kb, vb, mb, pv, h1, h2, h3, h4, h5⟩ := h
  exact ⟨kb, vb, mb, pv, h1, h2, h3, h4, h5.fr2 hf hne hnf⟩
theorem Tryz.info42 : (Tryz.prog.info? 42).map (fun i => (i.zero, i.size, i.bytes)) = some (some (.agg #[.string ⟨#[]⟩, .string ⟨#[]⟩, .slice none 0 0]), 3, 56) := by kernel_rfl

theorem imem_list {w : World} : ∀ (css : List (List Value)) (ms : List Mem), All2 (IMem w) css ms → ∃ ds : List IM, css = ds.map encM ∧ All2 (fun x m => IMem w (encM x) m) ds ms
  | [], [], _ => ⟨[], rfl, trivial⟩
  | cs :: css, m :: ms, h => by
    obtain ⟨ds, h1, h2⟩ := imem_list css ms h.2
    obtain ⟨kb, vb, pv, hc, hk, hv, hp⟩ := h.1
    obtain ⟨A, c, rfl, _⟩ := hp.shape
    refine ⟨(kb, vb, (A, (memProps m).length, c)) :: ds, by rw [hc, h1]; rfl, ?_, h2⟩
    exact ⟨kb, vb, _, rfl, hk, hv, hp⟩
  | [], _ :: _, h => h.elim
  | _ :: _, [], h => h.elim
theorem imem_back {w : World} : ∀ (ds : List IM) (ms : List Mem), All2 (fun x m => IMem w (encM x) m) ds ms → All2 (IMem w) (ds.map encM) ms
  | [], [], _ => trivial
  | x :: ds, m :: ms, h => ⟨h.1, imem_back ds ms h.2⟩
  | [], _ :: _, h => h.elim
  | _ :: _, [], h => h.elim
theorem imem_key {w : World} {x : IM} {m : Mem} (h : IMem w (encM x) m) : bs x.1 = m.key := by
  obtain ⟨kb, vb, pv, hc, hk, _⟩ := h
  simp only [encM, List.cons.injEq, Value.string.injEq] at hc
  rw [hc.1]
  exact hk
theorem pair_move {w : World} : ∀ (ds : List IM) (ms : List Mem), All2 (fun x m => IMem w (encM x) m) ds ms → ds.Pairwise (fun a b => ltM b a = false) → ms.Pairwise (fun a b => Op.bytesLess b.key a.key = false)
  | [], [], _, _ => List.Pairwise.nil
  | x :: ds, m :: ms, h, hp => by
    rw [List.pairwise_cons] at hp ⊢
    refine ⟨fun b hb => ?_, pair_move ds ms h.2 hp.2⟩
    obtain ⟨k, hk⟩ := List.mem_iff_getElem?.1 hb
    obtain ⟨a, ha, hr⟩ := All2.get k b h.2 hk
    have := hp.1 a (List.mem_of_getElem? ha)
    unfold ltM at this
    rw [imem_key h.1, imem_key hr] at this
    exact this
  | [], _ :: _, h, _ => h.elim
  | _ :: _, [], h, _ => h.elim
theorem Fr.of_grownRow {w w' : World} {g : Nat} {cs : Array Value} {e : TypeId} {fr : Nat × Nat} (hg : w.grownBy w' (some g)) (hr : w.heap[g]? = some (.cells cs e fr)) : Fr e w w' :=
  ⟨hg.size, fun k hk hn => hg.block k hk (by
    intro h
    injection h with h
    subst h
    exact hn _ _ hr)⟩
theorem pair_small (ms : List Mem) (h : ms.length ≤ 1) : ms.Pairwise (fun a b => Op.bytesLess b.key a.key = false) := by
  match ms, h with
  | [], _ => exact List.Pairwise.nil
  | [x], _ => exact List.pairwise_singleton _ _

structure MOk (m : Mem) : Prop where
  meta' : m.meta'.length ≤ 1000000
  props : m.props.length ≤ 100000
  told : (memProps m).length ≤ 100000

def IMemsPost (ms : List Mem) (w : World) (e : Ending) (w' : World) : Prop :=
  ∃ v ms2 css, e = .returned v ∧ ms.Perm ms2 ∧ ms2.Pairwise (fun a b => Op.bytesLess b.key a.key = false) ∧ Rd true w' 42 v ms2.length 3 css.flatten ∧ All2 (IMem w') css ms2 ∧ Below w.heap.size w w'

set_option maxHeartbeats 4000000 in
set_option maxRecDepth 100000 in
theorem membersOf_any (mv : Value) (ms : List Mem) (w : World) (hw : Laid w) (h : BagVal w mv ms) (hn : ms.length ≤ 10000) (hok : ∀ m ∈ ms, MOk m) :
    Calls Tryz.prog 55 #[.agg #[mv]] w (IMemsPost ms w) := by
  obtain ⟨mv', hmv⟩ : ∃ mv', mv = .map mv' := by
    rcases h with ⟨h, _⟩ | ⟨b, h, _⟩
    · exact ⟨_, h⟩
    · exact ⟨_, h⟩
  subst hmv
  obtain ⟨w2, hw2⟩ : ∃ w2, (w.alloc (.cells #[.map mv'] 117)).alloc (.cells #[.slice none 0 0] 51) = w2 := ⟨_, rfl⟩
  have hb2 : Below w.heap.size w w2 := by rw [← hw2]; exact ((Below.refl _ _).alloc (Nat.le_refl _) _).alloc (by simp) _
  have hB2 : w2.heap[w.heap.size + 1]? = some (.cells #[.slice none 0 0] 51 (0, 0)) := by rw [← hw2]; exact heap_alloc_2 _ _ _
  have hx2 : w2.heap[w.heap.size]? = some (.cells #[.map mv'] 117 (0, 0)) := by rw [← hw2]; exact row_alloc (heap_alloc_new _ _) _
  have hz2 : w2.heap.size = w.heap.size + 2 := by rw [← hw2]; simp
  obtain ⟨c0, f0⟩ := row1 hx2
  have hme := Members_any (.map mv') ms w2 (h.below hb2) hn (fun m hm => (hok m hm).props)
  go_enter Tryz.func55, Tryz.ntmps55
  go_upto_block 0 with (go_at_fn 98; fail)
  refine hme.mono ?_
  intro e w3 hpost
  obtain ⟨v, ms', rfl, hperm, hrow, hbel⟩ := hpost
  have hb3 := below_then hb2 hb2.size hbel
  have hB3 := (hbel.block _ (Array.getElem?_eq_some_iff.1 hB2).1).trans hB2
  clear hme hbel hB2 hx2 c0 f0 hw2 h
  obtain ⟨csM, hrd, hcm⟩ := hrow
  have hpl := hperm.length_eq
  obtain ⟨A2, c2, rfl, hnc2, hcm2⟩ := hrd.shape
  have hok' : ∀ m ∈ ms', MOk m := fun m hm => hok m (hperm.mem_iff.2 hm)
  go_upto_block 0 with fail
  go_cut [9] (fun v9 W => ∃ (ov : Value) (css : List (List Value)), Below w.heap.size w W ∧ W.heap[w.heap.size + 1]? = some (.cells #[ov] 51 (0, 0)) ∧ W.ownsRow w.heap.size 42 3 ov ms'.length css.flatten ∧ All2 (IMem W) css ms')
  case first =>
    go_wp2_with fail
    go_loopg [9] (ms'.length + 1) (fun gk i W => Below w.heap.size w W ∧ ∃ (k : Nat) (ov : Value) (css : List (List Value)), i = .int .i64 k ∧ k ≤ ms'.length ∧ k + gk = ms'.length + 1 ∧ W.heap[w.heap.size + 1]? = some (.cells #[ov] 51 (0, 0)) ∧ Rd true W 98 (.slice A2 ms'.length c2) ms'.length 5 csM.flatten ∧ All2 (MemCells W) csM ms' ∧ W.ownsRow w.heap.size 42 3 ov k css.flatten ∧ All2 (IMem W) css (ms'.take k))
    case atStart => exact ⟨hb3, 0, _, [], rfl, by omega, by omega, hB3, hrd, hcm, own_nil _ _ _ _, trivial⟩
    case round =>
      clear hb3 hB3 hrd hcm
      obtain ⟨hb, k, ov, css, rfl, hk, hg, hB, hrd, hcm, ho, him⟩ := hrel
      have hws := hb.size
      have hBl := (Array.getElem?_eq_some_iff.1 hB).1
      by_cases hlt : k < ms'.length
      · obtain ⟨m, hm⟩ : ∃ m, ms'[k] = m := ⟨_, rfl⟩
        have hmk : ms'[k]? = some m := by rw [List.getElem?_eq_getElem hlt, hm]
        have hmok := hok' m (List.mem_of_getElem? hmk)
        obtain ⟨cs, hcsk, hcs⟩ := All2.get k m hcm hmk
        have hat := flat_get 5 csM k cs (fun c hc => by obtain ⟨_, _, h⟩ := All2.mem hcm c hc; exact h.len) hcsk
        have hpos : 0 < ms'.length := by omega
        obtain ⟨bk, o, c', he, _, _, _⟩ := hrd.cells hpos
        injection he with he1 he2 he3
        subst he1 he3
        clear he2
        obtain ⟨kb, vb, mb, pv, rfl, hkk, hvv, hmm, hpv⟩ := hcs
        obtain ⟨PA, pc, rfl, _, _⟩ := hpv.shape
        have x0 : wr.cell? ⟨bk, o + k * 5, none⟩ = some (.string kb) := hrd.at' rfl (by have := hat 0 (by omega); simpa using this)
        have x1 : wr.cell? ⟨bk, o + k * 5 + 1, none⟩ = some (.string vb) := hrd.at' (j := k * 5 + 1) (by omega) (by have := hat 1 (by omega); simpa using this)
        have x2 : wr.cell? ⟨bk, o + k * 5 + 2, none⟩ = some (.string mb) := hrd.at' (j := k * 5 + 2) (by omega) (by have := hat 2 (by omega); simpa using this)
        have x3 : wr.cell? ⟨bk, o + k * 5 + 3, none⟩ = some (.slice PA m.props.length pc) := hrd.at' (j := k * 5 + 3) (by omega) (by have := hat 3 (by omega); simpa using this)
        have x4 : wr.cell? ⟨bk, o + k * 5 + 4, none⟩ = some (.bool true) := hrd.at' (j := k * 5 + 4) (by omega) (by have := hat 4 (by omega); simpa using this)
        have htk : Aside (ms'.take (k + 1) = ms'.take k ++ [m]) := by
          show _ = _
          rw [List.take_succ_eq_append_getElem hlt, hm]
        clear hat hcsk hmk hm hpos
        obtain ⟨d0, g0⟩ := row1 hB
        have hA : Below wr.heap.size wr (wr.alloc (.cells #[.string kb, .string vb, .string mb, .slice PA m.props.length pc, .bool true] 98)).drew := ((Below.refl _ _).alloc (Nat.le_refl _) _).drew
        have hq : (wr.alloc (.cells #[.string kb, .string vb, .string mb, .slice PA m.props.length pc, .bool true] 98)).drew.heap[wr.heap.size]? = some (.cells #[.string kb, .string vb, .string mb, .slice PA m.props.length pc, .bool true] 98 (0, 0)) := row_drew (heap_alloc_new _ _)
        have hpo := memberOf_any m kb vb mb (.slice PA m.props.length pc) true _ (hw.below (below_then hb hws hA)) hkk hvv hmm hmok.meta' hmok.props hmok.told (hpv.below hA)
        obtain ⟨d0a, _⟩ := row1 (row_alloc hB (.cells #[.string kb, .string vb, .string mb, .slice PA m.props.length pc, .bool true] 98))
        obtain ⟨d0b, _⟩ := row1 (row_drew (row_alloc hB (.cells #[.string kb, .string vb, .string mb, .slice PA m.props.length pc, .bool true] 98)))
        clear hpv
        go_wp2_with fail
        go_region_law (first
          | (go_simp; go_at_call 45; refine hpo.mono ?_; intro e w5 hpost; obtain ⟨ics, rfl, hic, hbel⟩ := hpost
             have hA5 := below_then hA hA.size hbel
             have hB5 := (hA5.block _ hBl).trans hB
             have hq5 := (hbel.block _ (Array.getElem?_eq_some_iff.1 hq).1).trans hq
             obtain ⟨e0, h0⟩ := row1 hB5
             obtain ⟨⟨q0, q1, q2, q3, q4⟩, _, _, _, _, _⟩ := row5 hq5
             have ho5 := own_below (C := 0) ho hA5
             have hrd5 := hrd.below hA5
             have hcm5 := hcm.imp (fun _ _ h => MemCells.below h hA5)
             have him5 := him.imp (fun _ _ h => IMem.below h hA5)
             have hb5 := below_then hb hws hA5
             have hs5 := hA5.size
             have hl5 := (Array.getElem?_eq_some_iff.1 hq5).1
             have hlB5 : w.heap.size + 1 < w5.heap.size := (Array.getElem?_eq_some_iff.1 hB5).1
             obtain ⟨ka, va, pva, rfl, hk1, hv1, hp1⟩ := hic
             obtain ⟨IA, ic, rfl, _, _⟩ := hp1.shape
             have hic5 : IMem w5 [.string ka, .string va, .slice IA (memProps m).length ic] m := ⟨ka, va, _, rfl, hk1, hv1, hp1⟩
             obtain ⟨e0a, h0a⟩ := row1 (row_alloc hB5 (.cells #[.string ka, .string va, .slice IA (memProps m).length ic] 42))
             clear hbel hA5 hpo hp1)
          | (refine step_app (w5.alloc (.cells #[.string ka, .string va, .slice IA (memProps m).length ic] 42)) w.heap.size (by rfl) (.tmp 13) (.tmp 16) 51 (by rfl) 42 _ 3 56 Tryz.underlying51 Tryz.info42 rfl (by decide) ov k _ [.string ka, .string va, .slice IA (memProps m).length ic] (by rfl) w5.heap.size (by rfl) rfl (by intro u hu; simp at hu; rcases hu with rfl | rfl | rfl <;> rfl) (ho5.alloc _) (heap_alloc_new _ _) (by have := hb5.size; simp; omega) (by omega) (by omega) ?_
             intro v1 w6 ho6 hb6 hf6 hs6
             have hB6 := (hf6.block _ (by simp; omega) (by intro c f h; rw [row_alloc hB5] at h; cases h)).trans (row_alloc hB5 (.cells #[.string ka, .string va, .slice IA (memProps m).length ic] 42))
             have hq6 := (hf6.block _ (by simp; omega) (by intro c f h; rw [row_alloc hq5] at h; cases h)).trans (row_alloc hq5 (.cells #[.string ka, .string va, .slice IA (memProps m).length ic] 42))
             obtain ⟨e60, h60⟩ := row1 hB6
             obtain ⟨⟨q60, q61, q62, q63, q64⟩, _, _, _, _, _⟩ := row5 hq6
             have hA6 : Below w5.heap.size w5 (w5.alloc (.cells #[.string ka, .string va, .slice IA (memProps m).length ic] 42)) := (Below.refl _ _).alloc (Nat.le_refl _) _
             have hrd6 := (hrd5.below hA6).fr hf6 (by decide)
             have hcm6 := hcm5.imp (fun _ _ h => (MemCells.below h hA6).fr hf6 (by decide))
             have him6 := him5.imp (fun _ _ h => (IMem.below h hA6).fr hf6 (by decide))
             have hic6 := (hic5.below hA6).fr hf6 (by decide)
             have hb7 := (hb5.alloc hb5.size _).trans hb6
             obtain ⟨A3, n3, c3, rfl⟩ : ∃ A3 n3 c3, v1 = .slice A3 n3 c3 := by
               rcases ho6.2 with ⟨hv, _⟩ | ⟨g, cap, cur, hv, _⟩
               · exact ⟨_, _, _, hv⟩
               · exact ⟨_, _, _, hv⟩))
        all_goals
          go_wp2_with fail
          go_roundg (gk - 1)
          case rel =>
            refine ⟨hb7.setCell (by simp) _, k + 1, _, css ++ [[.string ka, .string va, .slice IA (memProps m).length ic]], by go_num, by omega, by omega, row_set hB6 0 _, hrd6.fr2 ((Fr2.refl 51 51 _).set hB6 _) (by decide) (by decide), hcm6.imp (fun _ _ h => MemCells.fr2 h ((Fr2.refl 51 51 _).set hB6 _) (by decide) (by decide)), ?_, ?_⟩
            · rw [List.flatten_append]
              simpa using own_setOther ho6 hB6 (by decide) _
            · rw [htk.out]
              exact (him6.append (l' := [_]) (m' := [m]) ⟨hic6, trivial⟩).imp (fun _ _ h => IMem.fr2 h ((Fr2.refl 51 51 _).set hB6 _) (by decide) (by decide))
          case measure => omega
      · rw [List.take_of_length_le (by omega)] at him
        have hkl : k = ms'.length := by omega
        go_wp2_with fail
        go_meet
        rw [hkl] at ho
        exact ⟨ov, css, hb, hB, ho, him⟩
  case rest =>
    clear hb3 hB3 hrd hcm
    obtain ⟨ov, css, hb, hB, ho, him⟩ := hcut
    obtain ⟨A3, c3, rfl⟩ : ∃ A3 c3, ov = .slice A3 ms'.length c3 := by
      rcases ho.2 with ⟨hv, h0⟩ | ⟨g, cap, cur, hv, _⟩
      · exact ⟨none, 0, by rw [hv, h0]⟩
      · exact ⟨_, _, hv⟩
    obtain ⟨d0, g0⟩ := row1 hB
    by_cases hsm : ms'.length ≤ 1
    · have hst := sort_tiny A3 ms'.length c3 hsm (.func 100) #[] #[.pointer (some ⟨w.heap.size + 1, 0, none⟩)] wc
      go_wp2_with (go_at_fn 99; fail)
      refine hst.mono ?_
      rintro e w5 ⟨rfl, hbel⟩
      obtain ⟨e0, _⟩ := row1 ((hbel.block _ (Array.getElem?_eq_some_iff.1 hB).1).trans hB)
      go_wp2_with fail
      go_ret
      exact ⟨_, ms', css, rfl, hperm, pair_small ms' hsm, (Rd.of_own ho).below hbel, him.imp (fun _ _ h => IMem.below h hbel), below_then hb hb.size hbel⟩
    · obtain ⟨ds, hds, hall⟩ := imem_list css ms' him
      have hdl := hall.length
      obtain ⟨g, hA3, hgw, cs0, hrow, hcells⟩ : ∃ g, A3 = some ⟨g, 0, none⟩ ∧ w.heap.size ≤ g ∧ ∃ cs0, wc.heap[g]? = some (.cells cs0 42 (0, 0)) ∧ ∀ (j : Nat) u, (ds.flatMap encM)[j]? = some u → cs0[j]? = some u := by
        rcases ho.2 with ⟨_, h0⟩ | ⟨g, cap, cur, hv, hbg, hh, _, _, _, htake⟩
        · omega
        · injection hv with hv1 hv2 hv3
          refine ⟨g, hv1, hbg, cur, hh, fun j u hj => ?_⟩
          have e1 : css.flatten = ds.flatMap encM := by rw [hds]; rfl
          rw [e1] at htake
          rw [← htake, List.getElem?_take] at hj
          split at hj
          · simpa using hj
          · cases hj
      subst hA3
      have hne : w.heap.size + 1 ≠ g := by
        intro e
        rw [← e, hB] at hrow
        injection hrow with hrow
        injection hrow with _ hrow
        exact absurd hrow (by decide)
      rw [← hdl] at d0 ho hB ⊢
      have hst := sort_IM wc (w.heap.size + 1) g c3 ds (by omega) (by omega) cs0 hrow hcells d0 hne
      have hcm3 : c3 ≤ 9223372036854775807 ∧ ds.length ≤ c3 := by
        obtain ⟨A', c', he, h1, h2⟩ := (Rd.of_own ho).shape
        injection he with _ _ he
        rw [he]
        exact ⟨h2, h1⟩
      clear hcells hds ho him hdl hpl
      have hall : Aside (All2 (fun x m => IMem wc (encM x) m) ds ms') := hall
      clear hok hok'
      have hperm : Aside (ms.Perm ms') := hperm
      go_wp2_with (go_at_fn 99; fail)
      refine hst.mono ?_
      intro e w5 hpost
      obtain ⟨rfl, ds2, hp2, hpw, ⟨cs1, hrow1, hcells1⟩, hgr⟩ := hpost
      have hcells1 : Aside (∀ (j : Nat) u, (ds2.flatMap encM)[j]? = some u → cs1[j]? = some u) := hcells1
      have hp2 : Aside (ds.Perm ds2) := hp2
      have hpw : Aside (ds2.Pairwise (fun a b => ltM b a = false)) := hpw
      clear hst
      have hfr := Fr.of_grownRow hgr hrow
      obtain ⟨ms2, hms2, hall2⟩ := All2.perm hp2.out hall.out
      obtain ⟨e0, _⟩ := row1 ((hgr.block _ (Array.getElem?_eq_some_iff.1 hB).1 (by simpa using hne)).trans hB)
      have hl2 := hall2.length
      have hl3 := hp2.out.length_eq
      have hall2 : Aside (All2 (fun x m => IMem wc (encM x) m) ds2 ms2) := hall2
      have hms2 : Aside (ms'.Perm ms2) := hms2
      have hl2 : Aside (ds2.length = ms2.length) := hl2
      have hl3 : Aside (ds.length = ds2.length) := hl3
      go_wp2_with fail
      go_ret
      refine ⟨_, ms2, ds2.map encM, rfl, hperm.out.trans hms2.out, pair_move ds2 ms2 hall2.out hpw.out, ?_, (imem_back ds2 ms2 hall2.out).imp (fun _ _ h => IMem.fr h hfr (by decide)), hb.grown hgr hb.size (by intro q hq; injection hq with hq; rw [← hq]; exact hgw)⟩
      rw [← hl2.out, ← hl3.out]
      refine ⟨_, c3, rfl, hcm3.2, hcm3.1, ?_, .inr ⟨g, 0, rfl, fun j u hj => ?_, fun _ => ⟨_, _, hrow1⟩⟩⟩
      · have : ∀ l : List IM, (l.map encM).flatten.length = l.length * 3 := by
          intro l
          induction l with
          | nil => rfl
          | cons x r ih => rw [List.map_cons, List.flatten_cons, List.length_append, ih, encM_len, List.length_cons]; omega
        rw [this, hl3.out]
      · rw [cell_of_row _ _ _ _ _ _ hrow1, Nat.zero_add]
        exact hcells1.out j u hj
end Go.Proofs.YtleofgndghjflaaGreatDoor
