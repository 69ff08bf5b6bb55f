/- Contracts of the functions of this claim, proved once, joined out of smaller texts: R0 R1 R2 R3 R4 R5 R6 R7 L1. -/
import Derived.Test.YtleofgndghjflaaGreatDoorY7
import Derived.Deep.Slices
import Derived.Deep.Strs
set_option linter.unusedVariables false
set_option linter.unusedSimpArgs false
namespace Go.Proofs.YtleofgndghjflaaGreatDoor
open Go Go.RowKit

/-- A property that is valid. -/
def prV (p : Pr) : Bool := nameOk p.1 && Lib.validD (p.2.getD [])
def NilPost (w : World) (e : Ending) (w' : World) : Prop := e = .returned .nilIface ∧ Below w.heap.size w w'
set_option maxHeartbeats 1000000 in
set_option maxRecDepth 100000 in
theorem propValidate_any (k v : ByteArray) (h : Bool) (w : World) (hw : Laid w) (hk : k.size ≤ 1000000) (hv : v.size ≤ 1000000) (hn : nameOk (bs k) = true) (hd : Lib.validD (bs v) = true) (he : h = false → v = ⟨#[]⟩) :
    Calls Tryz.prog 205 #[.agg #[.string k, .string v, .bool h]] w (NilPost w) := by
  obtain ⟨w1, hw1⟩ : ∃ w1, w.alloc (.cells #[.string k, .string v, .bool h] 86) = w1 := ⟨_, rfl⟩
  have hb1 : Below w.heap.size w w1 := by rw [← hw1]; exact (Below.refl _ _).alloc (Nat.le_refl _) _
  have hp1 : w1.heap[w.heap.size]? = some (.cells #[.string k, .string v, .bool h] 86 (0, 0)) := by rw [← hw1]; exact heap_alloc_new _ _
  obtain ⟨⟨c0, c1, c2⟩, _, _, _⟩ := row3 hp1
  have hna := validateBaggageName_any k w1 (hw.below hb1) (by omega)
  rw [hn] at hna
  have hva := fun W (hW : Below w.heap.size w W) => validateBaggageValue_any v W (hw.below hW) (by omega)
  rw [hd] at hva
  have HE : Aside (h = false → v = ⟨#[]⟩) := he
  clear hn hd he
  go_enter Tryz.func205, Tryz.ntmps205
  go_wp2_with (go_at_fn 116; fail)
  refine hna.mono ?_
  rintro e w2 ⟨rfl, hb2⟩
  have hp2 := (hb2.block _ (Array.getElem?_eq_some_iff.1 hp1).1).trans hp1
  have hb12 := below_then hb1 hb1.size hb2
  clear hna hw1 hp1 hb1 c0 c1 c2
  obtain ⟨⟨c0, c1, c2⟩, _, _, _⟩ := row3 hp2
  cases h
  · have hz := HE.out rfl
    subst hz
    go_wp2_with fail
    go_ret
    exact ⟨rfl, hb12⟩
  · go_wp2_with (go_at_fn 120; fail)
    refine (hva _ hb12).mono ?_
    rintro e w3 ⟨rfl, hb3⟩
    go_wp2_with fail
    go_ret
    exact ⟨rfl, below_then hb12 hb12.size hb3⟩

set_option maxHeartbeats 1000000 in
set_option maxRecDepth 100000 in
theorem propsValidate_any {ty : Bool} (ps : List Pr) (v : Value) (w : World) (hw : Laid w) (h : Rd ty w 86 v ps.length 3 (ps.flatMap pcells)) (hn : ps.length ≤ 100000) (hM : ∀ p ∈ ps, PrOk 1000000 p ∧ prV p = true) :
    Calls Tryz.prog 166 #[v] w (NilPost w) := by
  obtain ⟨A, c, rfl, hnc, hcm⟩ := h.shape
  have H : Aside (Rd ty w 86 (.slice A ps.length c) ps.length 3 (ps.flatMap pcells) ∧ ∀ p ∈ ps, PrOk 1000000 p ∧ prV p = true) := ⟨h, hM⟩
  clear h hM
  go_enter Tryz.func166, Tryz.ntmps166
  go_wp2_with fail
  go_loopg [8] (ps.length + 1) (fun gk i W => Below w.heap.size w W ∧ ∃ k : Nat, i = .int .i64 k ∧ k ≤ ps.length ∧ k + gk = ps.length + 1)
  case atStart => exact ⟨Below.refl _ _, 0, rfl, by omega, by omega⟩
  case round =>
    obtain ⟨hb, k, rfl, hk, hg⟩ := hrel
    have hws := hb.size
    by_cases hlt : k < ps.length
    · obtain ⟨p, hp⟩ : ∃ p, ps[k] = p := ⟨_, rfl⟩
      have hpk : ps[k]? = some p := by rw [List.getElem?_eq_getElem hlt, hp]
      obtain ⟨⟨hl1, hl2⟩, hval⟩ := H.out.2 p (by rw [← hp]; exact List.getElem_mem hlt)
      have hrd := H.out.1.below hb
      obtain ⟨bk, o, c', he, _, _, _⟩ := hrd.cells (by omega)
      injection he with he1 he2 he3
      subst he1 he3
      clear he2
      obtain ⟨pa, pv, ph, hpc, hpa, hpv, hph⟩ : ∃ pa pv ph, pcells p = [.string pa, .string pv, .bool ph] ∧ bs pa = p.1 ∧ bs pv = p.2.getD [] ∧ ph = p.2.isSome := ⟨⟨p.1.toArray⟩, ⟨(p.2.getD []).toArray⟩, p.2.isSome, rfl, rfl, rfl, rfl⟩
      have hat := fun j hj => fm3 pcells pcells_len ps k p hpk j hj
      have c0 : wr.cell? ⟨bk, o + k * 3, none⟩ = some (.string pa) := hrd.at' rfl (by have := hat 0 (by omega); rw [hpc] at this; simpa using this)
      have c1 : wr.cell? ⟨bk, o + k * 3 + 1, none⟩ = some (.string pv) := hrd.at' (j := k * 3 + 1) (by omega) (by have := hat 1 (by omega); rw [hpc] at this; simpa using this)
      have c2' : wr.cell? ⟨bk, o + k * 3 + 2, none⟩ = some (.bool ph) := hrd.at' (j := k * 3 + 2) (by omega) (by have := hat 2 (by omega); rw [hpc] at this; simpa using this)
      unfold prV at hval
      rw [Bool.and_eq_true, ← hpa, ← hpv] at hval
      have hA : Below wr.heap.size wr (wr.alloc (.cells #[.string pa, .string pv, .bool ph] 86)) := (Below.refl _ _).alloc (Nat.le_refl _) _
      have hcall := propValidate_any pa pv ph _ (hw.below (below_then hb hws hA)) (by rw [← bs_length, hpa]; exact hl1) (by rw [← bs_length, hpv]; exact hl2) hval.1 hval.2 (fun h => by
        refine bs_inj ?_
        rw [hpv]
        rw [h] at hph
        cases h2 : p.2 with
        | none => rfl
        | some x => rw [h2] at hph; cases hph)
      clear hat hpk hp hpc hrd hpa hpv hph hval hl1 hl2
      go_wp2_with (go_at_fn 205; fail)
      refine hcall.mono ?_
      rintro e w2 ⟨rfl, hb2⟩
      go_wp2_with fail
      go_roundg (gk - 1)
      case rel => exact ⟨below_then hb hws (below_then hA hA.size hb2), k + 1, by go_num, by omega, by omega⟩
      case measure => omega
    · go_wp2_with fail
      go_ret
      exact ⟨rfl, hb⟩

/-- Whether a key and a value are those of a member. -/
def kvOk (k v : List UInt8) : Bool := nameOk k && Lib.validD v
def VPost (ok : Bool) (w : World) (e : Ending) (w' : World) : Prop := ∃ er, e = .returned er ∧ ErrIs er (!ok) ∧ Below w.heap.size w w'
set_option maxHeartbeats 1000000 in
set_option maxRecDepth 100000 in
theorem memValidate_any {ty : Bool} (k v : ByteArray) (ps : List Pr) (A : Option Addr) (c : Nat) (w : World) (hw : Laid w) (hk : k.size ≤ 1000000) (hv : v.size ≤ 1000000) (h : Rd ty w 86 (.slice A ps.length c) ps.length 3 (ps.flatMap pcells)) (hn : ps.length ≤ 100000) (hM : ∀ p ∈ ps, PrOk 1000000 p ∧ prV p = true) :
    Calls Tryz.prog 125 #[.agg #[.string k, .string v, .string ⟨#[]⟩, .slice A ps.length c, .bool true]] w (VPost (kvOk (bs k) (bs v)) w) := by
  obtain ⟨r, hr⟩ : ∃ r, kvOk (bs k) (bs v) = r := ⟨_, rfl⟩
  rw [hr]
  have R : Aside (r = (nameOk (bs k) && Lib.validD (bs v))) := hr.symm
  clear hr
  obtain ⟨w1, hw1⟩ : ∃ w1, w.alloc (.cells #[.string k, .string v, .string ⟨#[]⟩, .slice A ps.length c, .bool true] 98) = w1 := ⟨_, rfl⟩
  have hb1 : Below w.heap.size w w1 := by rw [← hw1]; exact (Below.refl _ _).alloc (Nat.le_refl _) _
  have hp1 : w1.heap[w.heap.size]? = some (.cells #[.string k, .string v, .string ⟨#[]⟩, .slice A ps.length c, .bool true] 98 (0, 0)) := by rw [← hw1]; exact heap_alloc_new _ _
  obtain ⟨⟨c0, c1, c2, c3, c4⟩, _, _, _, _, _⟩ := row5 hp1
  have hna := validateBaggageName_any k w1 (hw.below hb1) (by omega)
  have hva := fun W (hW : Below w.heap.size w W) => validateBaggageValue_any v W (hw.below hW) (by omega)
  have hpv := fun W (hW : Below w.heap.size w W) => propsValidate_any ps _ W (hw.below hW) (h.below hW) hn hM
  obtain ⟨ok, hok⟩ : ∃ ok, nameOk (bs k) = ok := ⟨_, rfl⟩
  obtain ⟨ov, hov⟩ : ∃ ov, Lib.validD (bs v) = ov := ⟨_, rfl⟩
  rw [hok] at hna
  rw [hov] at hva
  have O : Aside (nameOk (bs k) = ok ∧ Lib.validD (bs v) = ov) := ⟨hok, hov⟩
  clear hok hov hM h
  go_enter Tryz.func125, Tryz.ntmps125
  go_wp2_with (go_at_fn 116; fail)
  refine hna.mono ?_
  rintro e w2 ⟨rfl, hb2⟩
  have hp2 := (hb2.block _ (Array.getElem?_eq_some_iff.1 hp1).1).trans hp1
  have hb12 := below_then hb1 hb1.size hb2
  clear hna hw1 hp1 hb1 c0 c1 c2 c3 c4
  obtain ⟨⟨c0, c1, c2, c3, c4⟩, _, _, _, _, _⟩ := row5 hp2
  cases ok
  · obtain ⟨a, ha⟩ := (hw.below hb12).errs 5 (by omega)
    go_wp2_with fail
    go_ret
    exact ⟨_, rfl, by rw [R.out, O.out.1]; exact .inr ⟨rfl, _, rfl⟩, hb12⟩
  · go_wp2_with (go_at_fn 120; fail)
    refine (hva _ hb12).mono ?_
    rintro e w3 ⟨rfl, hb3⟩
    have hp3 := (hb3.block _ (Array.getElem?_eq_some_iff.1 hp2).1).trans hp2
    have hb13 := below_then hb12 hb12.size hb3
    clear hb12 hp2 c0 c1 c2 c3 c4
    obtain ⟨⟨c0, c1, c2, c3, c4⟩, _, _, _, _, _⟩ := row5 hp3
    cases ov
    · obtain ⟨a, ha⟩ := (hw.below hb13).errs 6 (by omega)
      go_wp2_with fail
      go_ret
      exact ⟨_, rfl, by rw [R.out, O.out.1, O.out.2]; exact .inr ⟨rfl, _, rfl⟩, hb13⟩
    · go_wp2_with (go_at_fn 166; fail)
      refine (hpv _ hb13).mono ?_
      rintro e w4 ⟨rfl, hb4⟩
      go_wp2_with fail
      go_ret
      exact ⟨_, rfl, by rw [R.out, O.out.1, O.out.2]; exact .inl ⟨rfl, rfl⟩, below_then hb13 hb13.size hb4⟩
end Go.Proofs.YtleofgndghjflaaGreatDoor

set_option linter.unusedVariables false
set_option linter.unusedSimpArgs false
namespace Go.Proofs.YtleofgndghjflaaGreatDoor
open Go Go.RowKit

def rawMem (k v : List UInt8) (ps : List Pr) : Option Mem := if kvOk k v then some ⟨k, v, [], ps⟩ else none
def pctMem (k v : List UInt8) (ps : List Pr) : Option Mem := if keyOk k && v.all oct then (match unesc v with | none => none | some u => rawMem k u ps) else none
/-- A member made, or the empty one with an error. -/
def NewMPost (R : Option Mem) (w : World) (e : Ending) (w' : World) : Prop :=
  ∃ kb vb pA n pc d er, e = .returned (.tuple #[.agg #[.string kb, .string vb, .string ⟨#[]⟩, .slice pA n pc, .bool d], er]) ∧ Below w.heap.size w w' ∧ match R with
    | some m => d = true ∧ er = .nilIface ∧ bs kb = m.key ∧ bs vb = m.val ∧ m.meta' = [] ∧ n = m.props.length ∧ Rd true w' 86 (.slice pA m.props.length pc) m.props.length 3 (m.props.flatMap pcells)
    | none => kb = ⟨#[]⟩ ∧ vb = ⟨#[]⟩ ∧ pA = none ∧ n = 0 ∧ pc = 0 ∧ d = false ∧ ∃ y, er = .iface 201 (.pointer (some y))

set_option maxHeartbeats 2000000 in
set_option maxRecDepth 100000 in
theorem newMemberRaw_any {ty : Bool} (k v : ByteArray) (pv : Value) (ps : List Pr) (w : World) (hw : Laid w) (hk : k.size ≤ 1000000) (hv : v.size ≤ 1000000) (h : Rd ty w 86 pv ps.length 3 (ps.flatMap pcells)) (hn : ps.length ≤ 100000) (hM : ∀ p ∈ ps, PrOk 1000000 p ∧ prV p = true) :
    Calls Tryz.prog 83 #[.string k, .string v, pv] w (NewMPost (rawMem (bs k) (bs v) ps) w) := by
  obtain ⟨A0, c0', rfl, _, _⟩ := h.shape
  obtain ⟨w1, hw1⟩ : ∃ w1, w.alloc (.cells #[.string ⟨#[]⟩, .string ⟨#[]⟩, .string ⟨#[]⟩, .slice none 0 0, .bool false] 98) = w1 := ⟨_, rfl⟩
  have hb1 : Below w.heap.size w w1 := by rw [← hw1]; exact (Below.refl _ _).alloc (Nat.le_refl _) _
  have hr1 : w1.heap[w.heap.size]? = some (.cells #[.string ⟨#[]⟩, .string ⟨#[]⟩, .string ⟨#[]⟩, .slice none 0 0, .bool false] 98 (0, 0)) := by rw [← hw1]; exact heap_alloc_new _ _
  have hcp := Copy_any ps _ w1 (h.below hb1) hn
  clear h
  go_enter Tryz.func83, Tryz.ntmps83
  go_wp2_with (go_at_fn 124; fail)
  refine hcp.mono ?_
  intro e w2 hpost
  obtain ⟨v2, rfl, hrd2, hb2⟩ := hpost
  obtain ⟨A2, c2', rfl, _, _⟩ := hrd2.shape
  have hr2 := (hb2.block _ (Array.getElem?_eq_some_iff.1 hr1).1).trans hr1
  have hb12 := below_then hb1 hb1.size hb2
  clear hcp hw1 hr1 hb1 hb2
  obtain ⟨w3, hw3⟩ : ∃ w3, w2.alloc (.cells #[.string k, .string v, .string ⟨#[]⟩, .slice A2 ps.length c2', .bool true] 98) = w3 := ⟨_, rfl⟩
  have hA3 : Below w2.heap.size w2 w3 := by rw [← hw3]; exact (Below.refl _ _).alloc (Nat.le_refl _) _
  have hq3 : w3.heap[w2.heap.size]? = some (.cells #[.string k, .string v, .string ⟨#[]⟩, .slice A2 ps.length c2', .bool true] 98 (0, 0)) := by rw [← hw3]; exact heap_alloc_new _ _
  have hr3 := (hA3.block _ (Array.getElem?_eq_some_iff.1 hr2).1).trans hr2
  have hrd3 := hrd2.below hA3
  have hb13 := below_then hb12 hb12.size hA3
  have hlt : w.heap.size < w2.heap.size := (Array.getElem?_eq_some_iff.1 hr2).1
  have hva := memValidate_any k v ps A2 c2' w3 (hw.below hb13) hk hv hrd3 hn hM
  clear hM hrd2 hr2
  obtain ⟨⟨c0, c1, c2, c3, c4⟩, _, _, _, _, _⟩ := row5 hq3
  obtain ⟨r, hr⟩ : ∃ r, kvOk (bs k) (bs v) = r := ⟨_, rfl⟩
  rw [hr] at hva
  have R : Aside (kvOk (bs k) (bs v) = r) := hr
  clear hr
  go_wp2_with (go_at_fn 125; fail)
  refine hva.mono ?_
  intro e w4 hpost
  obtain ⟨er, rfl, her, hb4⟩ := hpost
  have hq4 := (hb4.block _ (Array.getElem?_eq_some_iff.1 hq3).1).trans hq3
  have hr4 := (hb4.block _ (Array.getElem?_eq_some_iff.1 hr3).1).trans hr3
  have hrd4 := hrd3.below hb4
  have hb14 := below_then hb13 hb13.size hb4
  clear hva hw3 hr3 hq3 hb13 hb4 c0 c1 c2 c3 c4 hA3 hrd3
  obtain ⟨⟨c0, c1, c2, c3, c4⟩, _, _, _, _, _⟩ := row5 hq4
  obtain ⟨⟨d0, d1, d2, d3, d4⟩, g0, g1, g2, g3, g4⟩ := row5 hr4
  have hne1 : ¬ w.heap.size = w2.heap.size := by omega
  have hne2 : ¬ w2.heap.size = w.heap.size := by omega
  have hlt4 := (Array.getElem?_eq_some_iff.1 hr4).1
  cases r
  · obtain ⟨h0, _⟩ | ⟨_, y, rfl⟩ := her
    · cases h0
    · have hni := newInvalidMember_any w4
      go_wp2_with (go_at_fn 107; fail)
      refine hni.mono ?_
      rintro e w5 ⟨rfl, rfl⟩
      have hr5 := row_alloc hr4 (.cells #[.string ⟨#[]⟩, .string ⟨#[]⟩, .string ⟨#[]⟩, .slice none 0 0, .bool false] 98)
      obtain ⟨⟨e0, e1, e2, e3, e4⟩, k0, k1, k2, k3, k4⟩ := row5 hr5
      go_wp2_with fail
      (try simp only [Exit.inBlock, Exit.then]); refine bodyPost_ret (ret_cell_tmp rfl rfl (row_alloc (row_set (row_set (row_set (row_set (row_set hr4 0 _) 1 _) 2 _) 3 _) 4 _) _) Tryz.underlying98 rfl (by kernel_rfl)) rfl ?_
      refine ⟨_, _, _, _, _, _, _, rfl, (((((hb14.setCell (by simp) _).setCell (by simp) _).setCell (by simp) _).setCell (by simp) _).setCell (by simp) _).alloc (by simp only [World.size_setCell]; exact hb14.size) _, ?_⟩
      rw [rawMem, R.out]
      exact ⟨rfl, rfl, rfl, rfl, rfl, rfl, _, rfl⟩
  · obtain ⟨_, rfl⟩ | ⟨h0, _⟩ := her
    · go_wp2_with fail
      (try simp only [Exit.inBlock, Exit.then]); refine bodyPost_ret (ret_cell_tmp rfl rfl (row_set (row_set (row_set (row_set (row_set hr4 0 _) 1 _) 2 _) 3 _) 4 _) Tryz.underlying98 rfl (by kernel_rfl)) rfl ?_
      refine ⟨_, _, _, _, _, _, _, rfl, ((((hb14.setCell (by simp) _).setCell (by simp) _).setCell (by simp) _).setCell (by simp) _).setCell (by simp) _, ?_⟩
      rw [rawMem, R.out]
      refine ⟨rfl, rfl, rfl, rfl, rfl, rfl, ?_⟩
      exact hrd4.fr2 ((((((Fr2.refl 98 98 w4).set hr4 _).set (row_set hr4 0 _) _).set (row_set (row_set hr4 0 _) 1 _) _).set (row_set (row_set (row_set hr4 0 _) 1 _) 2 _) _).set (row_set (row_set (row_set (row_set hr4 0 _) 1 _) 2 _) 3 _) _) (by decide) (by decide)
    · cases h0

set_option maxHeartbeats 2000000 in
set_option maxRecDepth 100000 in
theorem newMember_any {ty : Bool} (k v : ByteArray) (pv : Value) (ps : List Pr) (w : World) (hw : Laid w) (hk : k.size ≤ 1000000) (hv : v.size ≤ 1000000) (h : Rd ty w 86 pv ps.length 3 (ps.flatMap pcells)) (hn : ps.length ≤ 100000) (hM : ∀ p ∈ ps, PrOk 1000000 p ∧ prV p = true) :
    Calls Tryz.prog 82 #[.string k, .string v, pv] w (NewMPost (pctMem (bs k) (bs v) ps) w) := by
  obtain ⟨A0, c0', rfl, _, _⟩ := h.shape
  obtain ⟨R, hR⟩ : ∃ R, pctMem (bs k) (bs v) ps = R := ⟨_, rfl⟩
  rw [hR]
  have A : Aside (pctMem (bs k) (bs v) ps = R) := hR
  clear hR
  have HH : Aside (Rd ty w 86 (.slice A0 ps.length c0') ps.length 3 (ps.flatMap pcells) ∧ ∀ p ∈ ps, PrOk 1000000 p ∧ prV p = true) := ⟨h, hM⟩
  clear h hM
  obtain ⟨w1, hw1⟩ : ∃ w1, w.alloc (.cells #[.string ⟨#[]⟩, .string ⟨#[]⟩, .string ⟨#[]⟩, .slice none 0 0, .bool false] 98) = w1 := ⟨_, rfl⟩
  have hb1 : Below w.heap.size w w1 := by rw [← hw1]; exact (Below.refl _ _).alloc (Nat.le_refl _) _
  have hp1 : w1.heap[w.heap.size]? = some (.cells #[.string ⟨#[]⟩, .string ⟨#[]⟩, .string ⟨#[]⟩, .slice none 0 0, .bool false] 98 (0, 0)) := by rw [← hw1]; exact heap_alloc_new _ _
  have hnk := validateKey_any k w1 (hw.below hb1) hk
  obtain ⟨ok, hok⟩ : ∃ ok, keyOk (bs k) = ok := ⟨_, rfl⟩
  rw [hok] at hnk
  obtain ⟨ov, hov⟩ : ∃ ov, (bs v).all oct = ov := ⟨_, rfl⟩
  have O : Aside (keyOk (bs k) = ok ∧ (bs v).all oct = ov) := ⟨hok, hov⟩
  clear hok
  go_enter Tryz.func82, Tryz.ntmps82
  go_wp2_with (go_at_fn 78; fail)
  refine hnk.mono ?_
  rintro e w2 ⟨rfl, hb2⟩
  have hp2 := (hb2.block _ (Array.getElem?_eq_some_iff.1 hp1).1).trans hp1
  have hb12 := below_then hb1 hb1.size hb2
  clear hnk hw1 hp1 hb1
  obtain ⟨⟨c0, c1, c2, c3, c4⟩, f0, f1, f2, f3, f4⟩ := row5 hp2
  have hlt : w.heap.size < w2.heap.size := (Array.getElem?_eq_some_iff.1 hp2).1
  cases ok
  · clear hov
    obtain ⟨a, ha⟩ := (hw.below hb12).errs 5 (by omega)
    have h5 := hw.err_lt 5 (by omega)
    have h5a : ¬ w.heap.size = 5 := by omega
    have h5b : ¬ 5 = w.heap.size := by omega
    go_wp2_with fail
    go_region_held3 (fun W => W.cell? ⟨5, 0, none⟩ = some (.iface 201 (.pointer (some a)))) ((simp (disch := (first | omega | (simp only [World.size_alloc, World.size_setCell, World.size_drew]; omega))) only [cellg_set, cellg_alloc, cellg_drew]; first | done | (with_reducible assumption))) (first | (go_at_call 107; refine (newInvalidMember_any _).mono ?_; rintro e w' ⟨rfl, rfl⟩))
    all_goals
      go_wp2_with fail
      (try simp only [Exit.inBlock, Exit.then]); refine bodyPost_ret (ret_cell_tmp rfl rfl (row_drew (row_alloc (row_set (row_set (row_set (row_set (row_set hp2 0 _) 1 _) 2 _) 3 _) 4 _) _)) Tryz.underlying98 rfl (by kernel_rfl)) rfl ?_
      refine ⟨_, _, _, _, _, _, _, rfl, ((((((hb12.setCell (Nat.le_refl _) _).setCell (Nat.le_refl _) _).setCell (Nat.le_refl _) _).setCell (Nat.le_refl _) _).setCell (Nat.le_refl _) _).alloc (by simp; omega) _).drew, ?_⟩
      rw [← A.out, pctMem, O.out.1]
      exact ⟨rfl, rfl, rfl, rfl, rfl, rfl, _, rfl⟩
  · have hvv := validateValue_loop v w2 (hw.below hb12) hv
    rw [hov] at hvv
    clear hov
    go_wp2_with (go_at_fn 118; fail)
    refine hvv.mono ?_
    rintro e w3 ⟨rfl, hb3⟩
    have hp3 := (hb3.block _ (Array.getElem?_eq_some_iff.1 hp2).1).trans hp2
    have hb13 := below_then hb12 hb12.size hb3
    clear hvv hp2 hb12 c0 c1 c2 c3 c4 f0 f1 f2 f3 f4 hlt
    obtain ⟨⟨c0, c1, c2, c3, c4⟩, f0, f1, f2, f3, f4⟩ := row5 hp3
    have hlt : w.heap.size < w3.heap.size := (Array.getElem?_eq_some_iff.1 hp3).1
    cases ov
    · obtain ⟨a, ha⟩ := (hw.below hb13).errs 6 (by omega)
      have h5 := hw.err_lt 6 (by omega)
      have h5a : ¬ w.heap.size = 6 := by omega
      have h5b : ¬ 6 = w.heap.size := by omega
      go_wp2_with fail
      go_region_held3 (fun W => W.cell? ⟨6, 0, none⟩ = some (.iface 201 (.pointer (some a)))) ((simp (disch := (first | omega | (simp only [World.size_alloc, World.size_setCell, World.size_drew]; omega))) only [cellg_set, cellg_alloc, cellg_drew]; first | done | (with_reducible assumption))) (first | (go_at_call 107; refine (newInvalidMember_any _).mono ?_; rintro e w' ⟨rfl, rfl⟩))
      all_goals
        go_wp2_with fail
        (try simp only [Exit.inBlock, Exit.then]); refine bodyPost_ret (ret_cell_tmp rfl rfl (row_drew (row_alloc (row_set (row_set (row_set (row_set (row_set hp3 0 _) 1 _) 2 _) 3 _) 4 _) _)) Tryz.underlying98 rfl (by kernel_rfl)) rfl ?_
        refine ⟨_, _, _, _, _, _, _, rfl, ((((((hb13.setCell (Nat.le_refl _) _).setCell (Nat.le_refl _) _).setCell (Nat.le_refl _) _).setCell (Nat.le_refl _) _).setCell (Nat.le_refl _) _).alloc (by simp; omega) _).drew, ?_⟩
        rw [← A.out, pctMem, O.out.1, O.out.2]
        exact ⟨rfl, rfl, rfl, rfl, rfl, rfl, _, rfl⟩
    · have hun := zzPathUnescape_any v w3 hv
      unfold UnescPost at hun
      go_wp2_with (go_at_fn 119; fail)
      refine hun.mono ?_
      rintro e w4 ⟨hb4, hres⟩
      have hp4 := (hb4.block _ (Array.getElem?_eq_some_iff.1 hp3).1).trans hp3
      have hb14 := below_then hb13 hb13.size hb4
      clear hun hp3 hb13 c0 c1 c2 c3 c4 f0 f1 f2 f3 f4 hlt
      obtain ⟨⟨c0, c1, c2, c3, c4⟩, f0, f1, f2, f3, f4⟩ := row5 hp4
      have hlt : w.heap.size < w4.heap.size := (Array.getElem?_eq_some_iff.1 hp4).1
      cases hu : unesc (bs v) with
      | none =>
        rw [hu] at hres
        obtain ⟨tt, aa, rfl⟩ := hres
        have U : Aside (unesc (bs v) = none) := hu
        clear hu
        obtain ⟨a, ha⟩ := (hw.below hb14).errs 6 (by omega)
        have h5 := hw.err_lt 6 (by omega)
        have h5a : ¬ w.heap.size = 6 := by omega
        have h5b : ¬ 6 = w.heap.size := by omega
        go_wp2_with fail
        go_region_held3 (fun W => W.cell? ⟨6, 0, none⟩ = some (.iface 201 (.pointer (some a)))) ((simp (disch := (first | omega | (simp only [World.size_alloc, World.size_setCell, World.size_drew]; omega))) only [cellg_set, cellg_alloc, cellg_drew]; first | done | (with_reducible assumption))) (first | (go_at_call 107; refine (newInvalidMember_any _).mono ?_; rintro e w' ⟨rfl, rfl⟩))
        all_goals
          go_wp2_with fail
          (try simp only [Exit.inBlock, Exit.then]); refine bodyPost_ret (ret_cell_tmp rfl rfl (row_drew (row_alloc (row_set (row_set (row_set (row_set (row_set hp4 0 _) 1 _) 2 _) 3 _) 4 _) _)) Tryz.underlying98 rfl (by kernel_rfl)) rfl ?_
          refine ⟨_, _, _, _, _, _, _, rfl, ((((((hb14.setCell (Nat.le_refl _) _).setCell (Nat.le_refl _) _).setCell (Nat.le_refl _) _).setCell (Nat.le_refl _) _).setCell (Nat.le_refl _) _).alloc (by simp; omega) _).drew, ?_⟩
          rw [← A.out, pctMem, O.out.1, O.out.2, U.out]
          exact ⟨rfl, rfl, rfl, rfl, rfl, rfl, _, rfl⟩
      | some u =>
        rw [hu] at hres
        subst hres
        obtain ⟨ub, hub⟩ : ∃ ub : ByteArray, S u = .string ub ∧ bs ub = u := ⟨⟨u.toArray⟩, rfl, rfl⟩
        have hul : ub.size ≤ 1000000 := by
          have := unesc_le hu
          rw [bs_length] at this
          rw [← bs_length, hub.2]
          omega
        rw [hub.1]
        have hraw := newMemberRaw_any k ub _ ps w4 (hw.below hb14) hk hul (HH.out.1.below hb14) hn HH.out.2
        rw [hub.2] at hraw
        have U : Aside (R = rawMem (bs k) u ps) := by show _ = _; rw [← A.out, pctMem, O.out.1, O.out.2, hu]; rfl
        clear hu hub
        go_wp2_with (go_at_fn 83; fail)
        refine hraw.mono ?_
        intro e w5 hpost
        obtain ⟨kb, vb, pA, n, pc, d, er, rfl, hb5, hres⟩ := hpost
        have hp5 := (hb5.block _ (Array.getElem?_eq_some_iff.1 hp4).1).trans hp4
        have hb15 := below_then hb14 hb14.size hb5
        have HR := hres
        have hres : Aside (match rawMem (bs k) u ps with
          | some m => d = true ∧ er = .nilIface ∧ bs kb = m.key ∧ bs vb = m.val ∧ m.meta' = [] ∧ n = m.props.length ∧ Rd true w5 86 (.slice pA m.props.length pc) m.props.length 3 (m.props.flatMap pcells)
          | none => kb = ⟨#[]⟩ ∧ vb = ⟨#[]⟩ ∧ pA = none ∧ n = 0 ∧ pc = 0 ∧ d = false ∧ ∃ y, er = .iface 201 (.pointer (some y))) := HR
        clear HR hp4 hb14 c0 c1 c2 c3 c4 f0 f1 f2 f3 f4 hlt hraw
        obtain ⟨⟨c0, c1, c2, c3, c4⟩, f0, f1, f2, f3, f4⟩ := row5 hp5
        go_wp2_with fail
        (try simp only [Exit.inBlock, Exit.then]); refine bodyPost_ret (ret_cell_tmp rfl rfl (row_set (row_set (row_set (row_set (row_set hp5 0 _) 1 _) 2 _) 3 _) 4 _) Tryz.underlying98 rfl (by kernel_rfl)) rfl ?_
        refine ⟨kb, vb, pA, n, pc, d, er, rfl, ((((hb15.setCell (Nat.le_refl _) _).setCell (Nat.le_refl _) _).setCell (Nat.le_refl _) _).setCell (Nat.le_refl _) _).setCell (Nat.le_refl _) _, ?_⟩
        rw [U.out]
        have hz := hres.out
        revert hz
        cases rawMem (bs k) u ps with
        | none => exact id
        | some m =>
          rintro ⟨z1, z2, z3, z4, z5, z6, z7⟩
          exact ⟨z1, z2, z3, z4, z5, z6, z7.fr2 ((((((Fr2.refl 98 98 w5).set hp5 _).set (row_set hp5 0 _) _).set (row_set (row_set hp5 0 _) 1 _) _).set (row_set (row_set (row_set hp5 0 _) 1 _) 2 _) _).set (row_set (row_set (row_set (row_set hp5 0 _) 1 _) 2 _) 3 _) _) (by decide) (by decide)⟩
end Go.Proofs.YtleofgndghjflaaGreatDoor

set_option linter.unusedVariables false
set_option linter.unusedSimpArgs false
namespace Go.Proofs.YtleofgndghjflaaGreatDoor
open Go Go.RowKit

theorem madeI_valid (pct : Bool) (k v : List UInt8) (h : Bool) (p : Pr) (hp : madeI pct k v h = some p) : prV p = true := by
  have hraw : ∀ k v : List UInt8, ∀ p, rawP k v = some p → prV p = true := by
    intro k v p hp
    unfold rawP at hp
    split at hp
    · rename_i hc
      injection hp with hp
      rw [← hp]
      exact hc
    · cases hp
  unfold madeI at hp
  split at hp
  · split at hp
    · unfold pctP at hp
      split at hp
      · split at hp
        · cases hp
        · exact hraw _ _ _ hp
      · cases hp
    · exact hraw _ _ _ hp
  · unfold keyP at hp
    split at hp
    · rename_i hc
      injection hp with hp
      rw [← hp]
      unfold prV
      rw [hc]
      exact Lib.validD_nil
    · cases hp
def madePr (pct : Bool) (p : Pr) : Option Pr := madeI pct p.1 (p.2.getD []) p.2.isSome
def madeProps (pct : Bool) : List Pr → Option (List Pr)
  | [] => some []
  | p :: r => match madePr pct p with
    | none => none
    | some q => (madeProps pct r).map (q :: ·)
def madeMem (pct : Bool) (x : SM) : Option Mem := match madeProps pct x.2.2 with
  | none => none
  | some qs => if pct then pctMem x.1 x.2.1 qs else rawMem x.1 x.2.1 qs

set_option maxHeartbeats 4000000 in
set_option maxRecDepth 100000 in
theorem memberMade_any {ty : Bool} (pct : Bool) (k v : ByteArray) (pv : Value) (ps : List Pr) (w : World) (hw : Laid w) (hk : k.size ≤ 1000000) (hv : v.size ≤ 1000000) (h : Rd ty w 32 pv ps.length 3 (ps.flatMap ipcells)) (hn : ps.length ≤ 10000) (hM : ∀ p ∈ ps, PrOk 1000000 p) :
    Calls Tryz.prog 44 #[.int .u8 (how pct), .agg #[.string k, .string v, pv]] w (NewMPost (madeMem pct (bs k, bs v, ps)) w) := by
  obtain ⟨A0, c0', rfl, _, _⟩ := h.shape
  obtain ⟨w1, hw1⟩ : ∃ w1, (w.alloc (.cells #[.string k, .string v, .slice A0 ps.length c0'] 42)).alloc (.cells #[.string ⟨#[]⟩, .string ⟨#[]⟩, .string ⟨#[]⟩, .slice none 0 0, .bool false] 98) = w1 := ⟨_, rfl⟩
  have hb1 : Below w.heap.size w w1 := by rw [← hw1]; exact ((Below.refl _ _).alloc (Nat.le_refl _) _).alloc (by simp) _
  have hp1 : w1.heap[w.heap.size]? = some (.cells #[.string k, .string v, .slice A0 ps.length c0'] 42 (0, 0)) := by rw [← hw1]; exact row_alloc (heap_alloc_new _ _) _
  have hr1 : w1.heap[w.heap.size + 1]? = some (.cells #[.string ⟨#[]⟩, .string ⟨#[]⟩, .string ⟨#[]⟩, .slice none 0 0, .bool false] 98 (0, 0)) := by rw [← hw1]; exact heap_alloc_2 _ _ _
  have hs1 : w1.heap.size = w.heap.size + 2 := by rw [← hw1]; simp
  have H : Aside (Rd ty w1 32 (.slice A0 ps.length c0') ps.length 3 (ps.flatMap ipcells) ∧ ∀ p ∈ ps, PrOk 1000000 p) := ⟨h.below hb1, hM⟩
  clear h hM
  obtain ⟨R, hR⟩ : ∃ R, madeMem pct (bs k, bs v, ps) = R := ⟨_, rfl⟩
  rw [hR]
  have RR : Aside (madeMem pct (bs k, bs v, ps) = R) := hR
  clear hR
  obtain ⟨hw', hhw⟩ : ∃ hi, how pct = hi := ⟨_, rfl⟩
  have HW : Aside (how pct = hw') := hhw
  rw [hhw]
  clear hhw
  obtain ⟨⟨c0, c1, c2⟩, _, _, _⟩ := row3 hp1
  go_enter Tryz.func44, Tryz.ntmps44
  go_wp2_with fail
  go_loopg [6, 14] (ps.length + 1) (fun gk ov i W => Below w1.heap.size w1 W ∧ ∃ (k : Nat) (done : List Pr), i = .int .i64 k ∧ k ≤ ps.length ∧ k + gk = ps.length + 1 ∧ W.ownsRow w1.heap.size 86 3 ov k (done.flatMap pcells) ∧ done.length = k ∧ Aside (madeProps pct ps = (madeProps pct (ps.drop k)).map (done ++ ·)) ∧ Aside (∀ q ∈ done, PrOk 1000000 q ∧ prV q = true))
  case atStart => exact ⟨Below.refl _ _, 0, [], rfl, by omega, by omega, own_nil _ _ _ _, rfl, by show _ = _; simp, by show ∀ q ∈ [], _; simp⟩
  case round =>
    clear hw1 c0 c1 c2
    obtain ⟨hb, j, done, rfl, hj, hg, ho, hdl, hX, hD⟩ := hrel
    have hws := hb.size
    have hbw := below_then hb1 hb1.size hb
    obtain ⟨OA, oc, rfl⟩ := own_shape ho
    by_cases hlt : j < ps.length
    · obtain ⟨p, hp⟩ : ∃ p, ps[j] = p := ⟨_, rfl⟩
      have hpk : ps[j]? = some p := by rw [List.getElem?_eq_getElem hlt, hp]
      obtain ⟨hl1, hl2⟩ := H.out.2 p (by rw [← hp]; exact List.getElem_mem hlt)
      have hrd := H.out.1.below hb
      obtain ⟨bk, o, c', he, _, _, _⟩ := hrd.cells (by omega)
      injection he with he1 he2 he3
      subst he1 he3
      clear he2
      obtain ⟨x0, x1, x2⟩ := rd_at3 hrd j p hpk
      have DJ : Aside (ps.drop j = p :: ps.drop (j + 1)) := by rw [← hp]; exact List.drop_eq_getElem_cons hlt
      obtain ⟨pa, pvb, ph, hpa, hpv, hph⟩ : ∃ (pa pvb : ByteArray) (ph : Bool), (⟨p.1.toArray⟩ : ByteArray) = pa ∧ (⟨(p.2.getD []).toArray⟩ : ByteArray) = pvb ∧ p.2.isSome = ph := ⟨_, _, _, rfl, rfl, rfl⟩
      rw [hpa] at x0
      rw [hph] at x1
      rw [hpv] at x2
      have hA : Below wr.heap.size wr (wr.alloc (.cells #[.string pa, .bool ph, .string pvb] 32)) := (Below.refl _ _).alloc (Nat.le_refl _) _
      have hz1 : pa.size ≤ 1000000 := by rw [← hpa, ← bs_length]; exact hl1
      have hz2 : pvb.size ≤ 1000000 := by rw [← hpv, ← bs_length]; exact hl2
      have hcall := propertyMade_any pct pa pvb ph _ (hw.below (below_then hbw hbw.size hA)) hz1 hz2
      rw [HW.out] at hcall
      obtain ⟨Q, hQ⟩ : ∃ Q, madeI pct (bs pa) (bs pvb) ph = Q := ⟨_, rfl⟩
      have hlen := fun q => madeI_len pct (bs pa) (bs pvb) ph q
      have hval := fun q => madeI_valid pct (bs pa) (bs pvb) ph q
      rw [hQ] at hcall hlen hval
      have QQ : Aside (madePr pct p = Q) := by
        show _ = _
        rw [← hQ, ← hpa, ← hpv, ← hph]
        rfl
      have LV : Aside ((∀ q, Q = some q → q.1 = bs pa ∧ (q.2.getD []).length ≤ (bs pvb).length) ∧ (∀ q, Q = some q → prV q = true) ∧ pa.size ≤ 1000000 ∧ pvb.size ≤ 1000000) := ⟨hlen, hval, hz1, hz2⟩
      clear hlen hval hz1 hz2
      clear hQ hpa hpv hph hp hpk hl1 hl2 hrd
      go_wp2_with (go_at_fn 38; fail)
      refine hcall.mono ?_
      intro e w2 hpost
      obtain ⟨kb, vb, h', er, rfl, hpi, hb2⟩ := hpost
      have hA2 := below_then hA hA.size hb2
      have hbw2 := below_then hb hws hA2
      have ho2 := own_below (C := 0) ho hA2
      have hp2 := (hbw2.block _ (Array.getElem?_eq_some_iff.1 hp1).1).trans hp1
      have hr2 := (hbw2.block _ (Array.getElem?_eq_some_iff.1 hr1).1).trans hr1
      have hws2 := hbw2.size
      clear hcall hA hb2 ho x0 x1 x2
      obtain ⟨⟨d0, d1, d2, d3, d4⟩, g0, g1, g2, g3, g4⟩ := row5 hr2
      cases Q with
      | none =>
        obtain ⟨rfl, rfl, rfl, y, rfl⟩ := hpi
        have hr3 := row_alloc hr2 (.cells #[.string ⟨#[]⟩, .string ⟨#[]⟩, .bool false] 86)
        obtain ⟨⟨e0, e1, e2, e3, e4⟩, k0, k1, k2, k3, k4⟩ := row5 hr3
        have RN : Aside (R = none) := by
          show _ = _
          rw [← RR.out, madeMem, hX.out, DJ.out, madeProps, QQ.out]
          rfl
        go_wp2_with fail
        (try simp only [Exit.inBlock, Exit.then]); refine bodyPost_ret (ret_cell_tmp rfl rfl (row_set (row_set (row_set (row_set (row_set hr3 0 _) 1 _) 2 _) 3 _) 4 _) Tryz.underlying98 rfl (by kernel_rfl)) rfl ?_
        refine ⟨_, _, _, _, _, _, _, rfl, ((((((below_then hb1 hb1.size hbw2).alloc (below_then hb1 hb1.size hbw2).size _).setCell (by simp) _).setCell (by simp) _).setCell (by simp) _).setCell (by simp) _).setCell (by simp) _, ?_⟩
        rw [RN.out]
        exact ⟨rfl, rfl, rfl, rfl, rfl, rfl, _, rfl⟩
      | some q =>
        obtain ⟨hk1, hv1, hh1, rfl⟩ := hpi
        obtain ⟨hl1, hl2⟩ := LV.out.1 q rfl
        have hq1 := LV.out.2.1 q rfl
        have hqq : Aside (PrOk 1000000 q ∧ prV q = true ∧ pcells q = [.string kb, .string vb, .bool h']) := by
          have z1 := LV.out.2.2.1
          have z2 := LV.out.2.2.2
          rw [← bs_length] at z1 z2
          refine ⟨⟨by rw [hl1]; exact z1, by omega⟩, hq1, ?_⟩
          rw [hh1, S_bs, S_bs, hk1, hv1]
          rfl
        clear hk1 hv1 hh1 hl1 hl2 hq1
        have hr3 := row_alloc hr2 (.cells #[.string kb, .string vb, .bool h'] 86)
        have hz2 : (w2.alloc (.cells #[.string kb, .string vb, .bool h'] 86)).heap.size = w2.heap.size + 1 := by simp
        go_wp2_with (at_builtin; go_must (refine wp_app (W := w2.alloc (.cells #[.string kb, .string vb, .bool h'] 86)) w1.heap.size rfl (.tmp 28) (.tmp 30) 95 rfl 86 _ 3 40 Tryz.underlying95 Tryz.info86 rfl (by decide) (.slice OA j oc) j _ [.string kb, .string vb, .bool h'] rfl (by show _ = Value.slice (some ⟨(w2.alloc _).heap.size, 0, none⟩) 1 1; rw [hz2]; rfl) rfl (by intro u hu; simp at hu; rcases hu with rfl | rfl | rfl <;> rfl) (ho2.alloc _) (by omega) (by omega) (by omega) ?_); intro v1 w6 ho6 hb6 hf6 hs6)
        go_roundg (gk - 1)
        case rel =>
          refine ⟨(hbw2.alloc hbw2.size _).trans hb6, j + 1, done ++ [q], by go_num, by omega, by omega, ?_, by simp; omega, ?_, ?_⟩
          · rw [List.flatMap_append, List.flatMap_cons, List.flatMap_nil, List.append_nil, hqq.out.2.2]
            exact ho6
          · show _ = _
            rw [hX.out, DJ.out, madeProps, QQ.out]
            simp only [Option.map_map]
            congr 1
            funext l
            simp
          · intro z hz
            rcases List.mem_append.1 hz with hz | hz
            · exact hD.out z hz
            · rw [List.mem_singleton.1 hz]
              exact ⟨hqq.out.1, hqq.out.2.1⟩
        case measure => omega
    · have hfin := hX.out
      rw [List.drop_eq_nil_of_le (by omega), madeProps] at hfin
      have hp2 := (hb.block _ (Array.getElem?_eq_some_iff.1 hp1).1).trans hp1
      have hr2 := (hb.block _ (Array.getElem?_eq_some_iff.1 hr1).1).trans hr1
      obtain ⟨⟨c0, c1, c2⟩, _, _, _⟩ := row3 hp2
      have RD := Rd.of_own ho
      have hRD : Aside (R = (if pct then pctMem (bs k) (bs v) done else rawMem (bs k) (bs v) done) ∧ Rd true wr 86 (.slice OA j oc) done.length 3 (done.flatMap pcells)) := by
        refine ⟨?_, by rw [hdl]; exact RD⟩
        rw [← RR.out, madeMem, hfin]
        simp
      have hdn : done.length ≤ 100000 := by omega
      clear hfin RD ho
      cases pct
      · obtain rfl : hw' = 0 := by rw [← HW.out]; rfl
        have hcall := newMemberRaw_any k v _ done wr (hw.below hbw) hk hv hRD.out.2 hdn hD.out
        have RX : Aside (R = rawMem (bs k) (bs v) done) := hRD.out.1
        go_wp2_with (go_at_fn 83; fail)
        refine hcall.mono ?_
        intro e w5 hpost
        obtain ⟨kb, vb, pA, n, pc, d, er, rfl, hb5, hres⟩ := hpost
        have hr5 := (hb5.block _ (Array.getElem?_eq_some_iff.1 hr2).1).trans hr2
        have hb15 := below_then hbw hbw.size hb5
        have HR := hres
        have hres : Aside (match rawMem (bs k) (bs v) done with
          | some m => d = true ∧ er = .nilIface ∧ bs kb = m.key ∧ bs vb = m.val ∧ m.meta' = [] ∧ n = m.props.length ∧ Rd true w5 86 (.slice pA m.props.length pc) m.props.length 3 (m.props.flatMap pcells)
          | none => kb = ⟨#[]⟩ ∧ vb = ⟨#[]⟩ ∧ pA = none ∧ n = 0 ∧ pc = 0 ∧ d = false ∧ ∃ y, er = .iface 201 (.pointer (some y))) := HR
        clear HR hcall
        obtain ⟨⟨d0, d1, d2, d3, d4⟩, f0, f1, f2, f3, f4⟩ := row5 hr5
        go_wp2_with fail
        (try simp only [Exit.inBlock, Exit.then]); refine bodyPost_ret (ret_cell_tmp rfl rfl (row_set (row_set (row_set (row_set (row_set hr5 0 _) 1 _) 2 _) 3 _) 4 _) Tryz.underlying98 rfl (by kernel_rfl)) rfl ?_
        refine ⟨kb, vb, pA, n, pc, d, er, rfl, ((((hb15.setCell (by simp) _).setCell (by simp) _).setCell (by simp) _).setCell (by simp) _).setCell (by simp) _, ?_⟩
        rw [RX.out]
        have hz := hres.out
        revert hz
        cases rawMem (bs k) (bs v) done with
        | none => exact id
        | some m =>
          rintro ⟨z1, z2, z3, z4, z5, z6, z7⟩
          exact ⟨z1, z2, z3, z4, z5, z6, z7.fr2 ((((((Fr2.refl 98 98 w5).set hr5 _).set (row_set hr5 0 _) _).set (row_set (row_set hr5 0 _) 1 _) _).set (row_set (row_set (row_set hr5 0 _) 1 _) 2 _) _).set (row_set (row_set (row_set (row_set hr5 0 _) 1 _) 2 _) 3 _) _) (by decide) (by decide)⟩
      · obtain rfl : hw' = 1 := by rw [← HW.out]; rfl
        have hcall := newMember_any k v _ done wr (hw.below hbw) hk hv hRD.out.2 hdn hD.out
        have RX : Aside (R = pctMem (bs k) (bs v) done) := hRD.out.1
        go_wp2_with (go_at_fn 82; fail)
        refine hcall.mono ?_
        intro e w5 hpost
        obtain ⟨kb, vb, pA, n, pc, d, er, rfl, hb5, hres⟩ := hpost
        have hr5 := (hb5.block _ (Array.getElem?_eq_some_iff.1 hr2).1).trans hr2
        have hb15 := below_then hbw hbw.size hb5
        have HR := hres
        have hres : Aside (match pctMem (bs k) (bs v) done with
          | some m => d = true ∧ er = .nilIface ∧ bs kb = m.key ∧ bs vb = m.val ∧ m.meta' = [] ∧ n = m.props.length ∧ Rd true w5 86 (.slice pA m.props.length pc) m.props.length 3 (m.props.flatMap pcells)
          | none => kb = ⟨#[]⟩ ∧ vb = ⟨#[]⟩ ∧ pA = none ∧ n = 0 ∧ pc = 0 ∧ d = false ∧ ∃ y, er = .iface 201 (.pointer (some y))) := HR
        clear HR hcall
        obtain ⟨⟨d0, d1, d2, d3, d4⟩, f0, f1, f2, f3, f4⟩ := row5 hr5
        go_wp2_with fail
        (try simp only [Exit.inBlock, Exit.then]); refine bodyPost_ret (ret_cell_tmp rfl rfl (row_set (row_set (row_set (row_set (row_set hr5 0 _) 1 _) 2 _) 3 _) 4 _) Tryz.underlying98 rfl (by kernel_rfl)) rfl ?_
        refine ⟨kb, vb, pA, n, pc, d, er, rfl, ((((hb15.setCell (by simp) _).setCell (by simp) _).setCell (by simp) _).setCell (by simp) _).setCell (by simp) _, ?_⟩
        rw [RX.out]
        have hz := hres.out
        revert hz
        cases pctMem (bs k) (bs v) done with
        | none => exact id
        | some m =>
          rintro ⟨z1, z2, z3, z4, z5, z6, z7⟩
          exact ⟨z1, z2, z3, z4, z5, z6, z7.fr2 ((((((Fr2.refl 98 98 w5).set hr5 _).set (row_set hr5 0 _) _).set (row_set (row_set hr5 0 _) 1 _) _).set (row_set (row_set (row_set hr5 0 _) 1 _) 2 _) _).set (row_set (row_set (row_set (row_set hr5 0 _) 1 _) 2 _) 3 _) _) (by decide) (by decide)⟩
end Go.Proofs.YtleofgndghjflaaGreatDoor

set_option linter.unusedVariables false
set_option linter.unusedSimpArgs false
namespace Go.Proofs.YtleofgndghjflaaGreatDoor
open Go Go.RowKit

theorem madeProps_ok (pct : Bool) (M : Nat) : ∀ (ps qs : List Pr), madeProps pct ps = some qs → (∀ p ∈ ps, PrOk M p) → qs.length = ps.length ∧ ∀ q ∈ qs, PrOk M q
  | [], qs, h, _ => by
    unfold madeProps at h
    injection h with h
    subst h
    simp
  | p :: r, qs, h, hp => by
    unfold madeProps at h
    split at h
    · cases h
    · rename_i q hq
      obtain ⟨l, hl, rfl⟩ := Option.map_eq_some_iff.1 h
      obtain ⟨h1, h2⟩ := madeProps_ok pct M r l hl (fun p hp' => hp p (by simp [hp']))
      refine ⟨by simp [h1], fun z hz => ?_⟩
      rcases List.mem_cons.1 hz with rfl | hz
      · obtain ⟨a, b⟩ := madeI_len pct _ _ _ _ hq
        obtain ⟨c, d⟩ := hp p (by simp)
        exact ⟨by rw [a]; exact c, by omega⟩
      · exact h2 z hz
theorem rawMem_ok (k v : List UInt8) (qs : List Pr) (m : Mem) (h : rawMem k v qs = some m) : m.key = k ∧ m.val = v ∧ m.meta' = [] ∧ m.props = qs := by
  unfold rawMem at h
  split at h
  · injection h with h
    rw [← h]
    exact ⟨rfl, rfl, rfl, rfl⟩
  · cases h
theorem madeMem_ok (pct : Bool) (M : Nat) (x : SM) (m : Mem) (h : madeMem pct x = some m) (hp : ∀ p ∈ x.2.2, PrOk M p) : m.key = x.1 ∧ m.val.length ≤ x.2.1.length ∧ m.meta' = [] ∧ m.props.length = x.2.2.length ∧ ∀ q ∈ m.props, PrOk M q := by
  unfold madeMem at h
  split at h
  · cases h
  · rename_i qs hqs
    obtain ⟨h1, h2⟩ := madeProps_ok pct M _ _ hqs hp
    split at h
    · unfold pctMem at h
      split at h
      · split at h
        · cases h
        · rename_i u hu
          obtain ⟨a, b, c, d⟩ := rawMem_ok _ _ _ _ h
          have := unesc_le hu
          exact ⟨a, by rw [b]; exact this, c, by rw [d]; exact h1, by rw [d]; exact h2⟩
      · cases h
    · obtain ⟨a, b, c, d⟩ := rawMem_ok _ _ _ _ h
      exact ⟨a, by rw [b]; exact Nat.le_refl _, c, by rw [d]; exact h1, by rw [d]; exact h2⟩

def MakeMIPost (R : Option Mem) (w : World) (e : Ending) (w' : World) : Prop :=
  ∃ kb vb pA n pc tb ok, e = .returned (.tuple #[.agg #[.string kb, .string vb, .slice pA n pc], .string tb, .bool ok]) ∧ Below w.heap.size w w' ∧ match R with
    | some m => ok = true ∧ bs kb = m.key ∧ bs vb = m.val ∧ n = m.props.length ∧ Rd true w' 32 (.slice pA m.props.length pc) m.props.length 3 (m.props.flatMap ipcells) ∧ bs tb = memStr m
    | none => ok = false

set_option maxHeartbeats 4000000 in
set_option maxRecDepth 100000 in
theorem makeMemberI_any {ty : Bool} (pct : Bool) (k v : ByteArray) (pv : Value) (ps : List Pr) (w : World) (hw : Laid w) (hk : k.size ≤ 1000000) (hv : v.size ≤ 1000000) (h : Rd ty w 32 pv ps.length 3 (ps.flatMap ipcells)) (hn : ps.length ≤ 10000) (hM : ∀ p ∈ ps, PrOk 1000000 p) :
    Calls Tryz.prog 17 #[.int .u8 (how pct), .agg #[.string k, .string v, pv]] w (MakeMIPost (madeMem pct (bs k, bs v, ps)) w) := by
  obtain ⟨A0, c0', rfl, _, _⟩ := h.shape
  obtain ⟨w1, hw1⟩ : ∃ w1, (w.alloc (.cells #[.string k, .string v, .slice A0 ps.length c0'] 42)).alloc (.cells #[.string ⟨#[]⟩, .string ⟨#[]⟩, .slice none 0 0] 42) = w1 := ⟨_, rfl⟩
  have hb1 : Below w.heap.size w w1 := by rw [← hw1]; exact ((Below.refl _ _).alloc (Nat.le_refl _) _).alloc (by simp) _
  have hp1 : w1.heap[w.heap.size]? = some (.cells #[.string k, .string v, .slice A0 ps.length c0'] 42 (0, 0)) := by rw [← hw1]; exact row_alloc (heap_alloc_new _ _) _
  have hr1 : w1.heap[w.heap.size + 1]? = some (.cells #[.string ⟨#[]⟩, .string ⟨#[]⟩, .slice none 0 0] 42 (0, 0)) := by rw [← hw1]; exact heap_alloc_2 _ _ _
  have hmm := memberMade_any pct k v _ ps w1 (hw.below hb1) hk hv (h.below hb1) hn hM
  obtain ⟨R, hR⟩ : ∃ R, madeMem pct (bs k, bs v, ps) = R := ⟨_, rfl⟩
  have hok := fun m => madeMem_ok pct 1000000 (bs k, bs v, ps) m
  rw [hR] at hmm hok ⊢
  have OK : Aside (∀ m, R = some m → m.key.length ≤ 1000000 ∧ m.val.length ≤ 1000000 ∧ m.meta' = [] ∧ m.props.length = ps.length ∧ ∀ q ∈ m.props, PrOk 1000000 q) := by
    intro m hm
    obtain ⟨a, b, c, d, e⟩ := hok m hm hM
    simp only at a b d
    rw [bs_length] at b
    exact ⟨by rw [a, bs_length]; exact hk, by omega, c, d, e⟩
  clear hok hR hM h
  obtain ⟨hw', hhw⟩ : ∃ hi, how pct = hi := ⟨_, rfl⟩
  rw [hhw] at hmm ⊢
  clear hhw
  obtain ⟨⟨c0, c1, c2⟩, _, _, _⟩ := row3 hp1
  go_enter Tryz.func17, Tryz.ntmps17
  go_wp2_with (go_at_fn 44; fail)
  refine hmm.mono ?_
  intro e w2 hpost
  obtain ⟨kb, vb, pA, n, pc, d, er, rfl, hb2, hres⟩ := hpost
  have hr2 := (hb2.block _ (Array.getElem?_eq_some_iff.1 hr1).1).trans hr1
  have hb12 := below_then hb1 hb1.size hb2
  clear hmm hw1 hp1 c0 c1 c2 hr1
  cases R with
  | none =>
    obtain ⟨rfl, rfl, rfl, rfl, rfl, rfl, y, rfl⟩ := hres
    have hr3 := row_alloc hr2 (.cells #[.string ⟨#[]⟩, .string ⟨#[]⟩, .string ⟨#[]⟩, .slice none 0 0, .bool false] 98)
    obtain ⟨⟨e0, e1, e2⟩, k0, k1, k2⟩ := row3 hr3
    go_wp2_with fail
    (try simp only [Exit.inBlock, Exit.then]); refine bodyPost_ret (ret_cell_tmp2 rfl rfl (row_set (row_set (row_set hr3 0 _) 1 _) 2 _) Tryz.underlying42 rfl (by kernel_rfl)) rfl ?_
    exact ⟨_, _, _, _, _, _, _, rfl, (((hb12.alloc hb12.size _).setCell (by simp) _).setCell (by simp) _).setCell (by simp) _, rfl⟩
  | some m =>
    obtain ⟨rfl, rfl, hk1, hv1, hm1, rfl, hrd⟩ := hres
    obtain ⟨o1, o2, o3, o4, o5⟩ := OK.out m rfl
    have hlt : w.heap.size + 1 < w2.heap.size := (Array.getElem?_eq_some_iff.1 hr2).1
    obtain ⟨w3, hw3⟩ : ∃ w3, w2.alloc (.cells #[.string kb, .string vb, .string ⟨#[]⟩, .slice pA m.props.length pc, .bool true] 98) = w3 := ⟨_, rfl⟩
    have hb3 : Below w2.heap.size w2 w3 := by rw [← hw3]; exact (Below.refl _ _).alloc (Nat.le_refl _) _
    have hq3 : w3.heap[w2.heap.size]? = some (.cells #[.string kb, .string vb, .string ⟨#[]⟩, .slice pA m.props.length pc, .bool true] 98 (0, 0)) := by rw [← hw3]; exact heap_alloc_new _ _
    have hr3 := (hb3.block _ (Array.getElem?_eq_some_iff.1 hr2).1).trans hr2
    have hb13 := below_then hb12 hb12.size hb3
    have hrd3 := hrd.below (hb3.trans (Below.refl _ w3).drew)
    have hmp : memProps m = m.props := by unfold memProps; rw [hm1]; rfl
    have hmo : MemOk m := ⟨o1, o2, by rw [hm1]; simp, by omega, o5⟩
    have hpo := memberOf_any m kb vb ⟨#[]⟩ _ true w3.drew (hw.below hb13.drew) hk1 hv1 hm1.symm (by rw [hm1]; simp) (by omega) (by rw [hmp]; omega) hrd3
    have hst := fun W (hW : Below w3.heap.size w3 W) => memberString_any m kb vb ⟨#[]⟩ _ true W (hw.below (below_then hb13 hb13.size hW)) hmo hk1 hv1 hm1.symm (hrd.below (hb3.trans (hW.mono hb3.size)))
    obtain ⟨tb, htb⟩ : ∃ tb : ByteArray, S (memStr m) = .string tb ∧ bs tb = memStr m := ⟨⟨(memStr m).toArray⟩, rfl, rfl⟩
    rw [htb.1] at hst
    have KV : Aside (bs kb = m.key ∧ bs vb = m.val ∧ memProps m = m.props ∧ bs tb = memStr m) := ⟨hk1, hv1, hmp, htb.2⟩
    clear hk1 hv1 hm1 o1 o2 o3 o4 o5 hrd hmp hmo htb hrd3
    obtain ⟨⟨x0, x1, x2, x3, x4⟩, _, _, _, _, _⟩ := row5 hq3
    obtain ⟨⟨y0, y1, y2, y3, y4⟩, _, _, _, _, _⟩ := row5 (row_drew hq3)
    go_wp2_with fail
    go_region_held3 (fun W => W.cell? ⟨w2.heap.size, 0, none⟩ = some (.string kb) ∧ W.cell? ⟨w2.heap.size, 1, none⟩ = some (.string vb) ∧ W.cell? ⟨w2.heap.size, 2, none⟩ = some (.string ⟨#[]⟩) ∧ W.cell? ⟨w2.heap.size, 3, none⟩ = some (.slice pA m.props.length pc) ∧ W.cell? ⟨w2.heap.size, 4, none⟩ = some (.bool true)) ((refine ⟨?_, ?_, ?_, ?_, ?_⟩ <;> (first | (with_reducible assumption) | (simp (disch := (first | omega | (simp only [World.size_alloc, World.size_setCell, World.size_drew]; omega))) only [cellg_set, cellg_alloc, cellg_drew]; first | done | (with_reducible assumption))))) (first
      | (go_at_call 45; refine hpo.mono ?_; intro e w5 hpost; obtain ⟨cs, rfl, hmr, hbe5⟩ := hpost
         have hq5 := (hbe5.block _ (Array.getElem?_eq_some_iff.1 (row_drew hq3)).1).trans (row_drew hq3)
         have hr5 := (hbe5.block _ (Array.getElem?_eq_some_iff.1 (row_drew hr3)).1).trans (row_drew hr3)
         obtain ⟨⟨z0, z1, z2, z3, z4⟩, _, _, _, _, _⟩ := row5 hq5
         have hb5 := below_then hb13.drew hb13.drew.size hbe5
         obtain ⟨ka, va, pva, rfl, hka, hva, hpa⟩ := hmr
         obtain ⟨IA, ic, rfl, _, _⟩ := hpa.shape
         have hst5 := hst w5 ((Below.refl _ w3).drew.trans hbe5))
      | (go_at_call 46; refine hst5.mono ?_; intro e w6 hpost; obtain ⟨rfl, hbe6⟩ := hpost
         have hq6 := (hbe6.block _ (Array.getElem?_eq_some_iff.1 hq5).1).trans hq5
         have hr6 := (hbe6.block _ (Array.getElem?_eq_some_iff.1 hr5).1).trans hr5
         obtain ⟨⟨u0, u1, u2, u3, u4⟩, _, _, _, _, _⟩ := row5 hq6
         obtain ⟨⟨d60, d61, d62⟩, g60, g61, g62⟩ := row3 hr6
         have hlt6 := (Array.getElem?_eq_some_iff.1 hq6).1
         have hne6 : ¬ w2.heap.size = w.heap.size + 1 := by omega
         have hne7 : ¬ w.heap.size + 1 = w2.heap.size := by omega
         have hb6 := below_then hb5 hb5.size hbe6
         have hpa6 := hpa.below hbe6))
    all_goals
      go_wp2_with fail
      (try simp only [Exit.inBlock, Exit.then]); refine bodyPost_ret (ret_cell_tmp2 rfl rfl (row_set (row_set (row_set hr6 0 _) 1 _) 2 _) Tryz.underlying42 rfl (by kernel_rfl)) rfl ?_
      refine ⟨_, _, _, _, _, tb, true, rfl, ((hb6.setCell (by simp) _).setCell (by simp) _).setCell (by simp) _, rfl, hka, hva, ?_, ?_, KV.out.2.2.2⟩
      · rw [KV.out.2.2.1]
      · rw [← KV.out.2.2.1]
        exact hpa6.fr2 ((((Fr2.refl 42 42 w6).set hr6 _).set (row_set hr6 0 _) _).set (row_set (row_set hr6 0 _) 1 _) _) (by decide) (by decide)
end Go.Proofs.YtleofgndghjflaaGreatDoor

set_option linter.unusedVariables false
set_option linter.unusedSimpArgs false
namespace Go.Proofs.YtleofgndghjflaaGreatDoor
open Go Go.RowKit

def qOf (pct : Bool) (p : Pr) : Pr := (p.1, if p.2.isSome then some (valS pct p.1 (p.2.getD []) p.2.isSome) else none)
def okOf (pct : Bool) (p : Pr) : Bool := madeS pct p.1 (p.2.getD []) p.2.isSome
/-- A member as spec makes it. -/
def madeMS (pct : Bool) (x : SM) : SM × Bool := ((x.1, (madeP pct x.1 x.2.1).1, x.2.2.map (qOf pct)), (madeP pct x.1 x.2.1).2 && x.2.2.all (okOf pct))
def MakeMSPost (R : SM × Bool) (w : World) (e : Ending) (w' : World) : Prop :=
  ∃ kb vb pA n pc, e = .returned (.tuple #[.agg #[.string kb, .string vb, .slice pA n pc], .bool R.2]) ∧ Below w.heap.size w w' ∧ bs kb = R.1.1 ∧ bs vb = R.1.2.1 ∧ n = R.1.2.2.length ∧ Rd true w' 23 (.slice pA R.1.2.2.length pc) R.1.2.2.length 3 (R.1.2.2.flatMap ipcells)

set_option maxHeartbeats 4000000 in
set_option maxRecDepth 100000 in
theorem makeMemberS_any {ty : Bool} (pct : Bool) (k v : ByteArray) (pv : Value) (ps : List Pr) (w : World) (hw : Laid w) (hk : k.size ≤ 1000000) (hv : v.size ≤ 1000000) (h : Rd ty w 23 pv ps.length 3 (ps.flatMap ipcells)) (hn : ps.length ≤ 10000) (hM : ∀ p ∈ ps, PrOk 1000000 p) :
    Calls Tryz.prog 16 #[.int .u8 (how pct), .agg #[.string k, .string v, pv]] w (MakeMSPost (madeMS pct (bs k, bs v, ps)) w) := by
  obtain ⟨AD, c, rfl, _, _⟩ := h.shape
  obtain ⟨w1, hw1⟩ : ∃ w1, (w.alloc (.cells #[.string k, .string v, .slice AD ps.length c] 28)).alloc (.cells #[.string ⟨#[]⟩, .string ⟨#[]⟩, .slice none 0 0] 28) = w1 := ⟨_, rfl⟩
  have hb1 : Below w.heap.size w w1 := by rw [← hw1]; exact ((Below.refl _ _).alloc (Nat.le_refl _) _).alloc (by simp) _
  have hp1 : w1.heap[w.heap.size]? = some (.cells #[.string k, .string v, .slice AD ps.length c] 28 (0, 0)) := by rw [← hw1]; exact row_alloc (heap_alloc_new _ _) _
  have hr1 : w1.heap[w.heap.size + 1]? = some (.cells #[.string ⟨#[]⟩, .string ⟨#[]⟩, .slice none 0 0] 28 (0, 0)) := by rw [← hw1]; exact heap_alloc_2 _ _ _
  have H : Aside (Rd ty w 23 (.slice AD ps.length c) ps.length 3 (ps.flatMap ipcells) ∧ ∀ p ∈ ps, PrOk 1000000 p) := ⟨h, hM⟩
  clear h hM
  have hm := made_any pct k v w1 (hw.below hb1) hk hv
  obtain ⟨R0, hR0⟩ : ∃ R0, madeP pct (bs k) (bs v) = R0 := ⟨_, rfl⟩
  rw [hR0] at hm
  obtain ⟨vb, hvb⟩ : ∃ vb : ByteArray, S R0.1 = .string vb ∧ bs vb = R0.1 := ⟨⟨R0.1.toArray⟩, rfl, rfl⟩
  unfold MadePost at hm
  rw [hvb.1] at hm
  obtain ⟨ok0, hok0⟩ : ∃ b, R0.2 = b := ⟨_, rfl⟩
  rw [hok0] at hm
  have B0 : Aside (madeMS pct (bs k, bs v, ps) = ((bs k, bs vb, ps.map (qOf pct)), ok0 && ps.all (okOf pct))) := by
    show _ = _
    unfold madeMS
    rw [hR0, hvb.2, hok0]
  clear hR0 hvb hok0
  obtain ⟨hi, hhi⟩ : ∃ hi, how pct = hi := ⟨_, rfl⟩
  have HI : Aside (how pct = hi) := hhi
  rw [hhi] at hm ⊢
  clear hhi
  obtain ⟨⟨c0, c1, c2⟩, _, _, _⟩ := row3 hp1
  go_enter Tryz.func16, Tryz.ntmps16
  go_wp2_with (go_at_fn 37; fail)
  refine hm.mono ?_
  rintro e w2 ⟨rfl, hb2⟩
  have hp2 := (hb2.block _ (Array.getElem?_eq_some_iff.1 hp1).1).trans hp1
  have hr2 := (hb2.block _ (Array.getElem?_eq_some_iff.1 hr1).1).trans hr1
  have hb12 := below_then hb1 hb1.size hb2
  clear c0 c1 c2 hm hw1 hp1 hr1 hb1
  have hlt2 : w.heap.size + 1 < w2.heap.size := (Array.getElem?_eq_some_iff.1 hr2).1
  have hbA : Below w.heap.size w (w2.alloc (.cells #[.string k, .string vb, .slice none 0 0] 28)) := hb12.alloc hb12.size _
  have hrA := row_alloc hr2 (.cells #[.string k, .string vb, .slice none 0 0] 28)
  have hBA := heap_alloc_new w2 (.cells #[.string k, .string vb, .slice none 0 0] 28)
  obtain ⟨⟨c0, c1, c2⟩, _, _, _⟩ := row3 hp2
  obtain ⟨⟨_, _, c2a⟩, _, _, _⟩ := row3 (row_alloc hp2 (.cells #[.string k, .string vb, .slice none 0 0] 28))
  go_wp2_with fail
  obtain ⟨B, hB0⟩ : ∃ B, w2.heap.size = B := ⟨_, rfl⟩
  rw [hB0] at hBA ⊢
  have hB2 : w.heap.size + 1 < B := by omega
  go_loopg [7, 29] (ps.length + 1) (fun gk okv i W => Below w.heap.size w W ∧ ∃ (j : Nat) (okb : Bool) (ov : Value), i = .int .i64 j ∧ j ≤ ps.length ∧ j + gk = ps.length + 1 ∧ okv = .bool okb ∧ Aside (okb = (ok0 && (ps.take j).all (okOf pct))) ∧ W.heap[B]? = some (.cells #[.string k, .string vb, ov] 28 (0, 0)) ∧ W.heap[w.heap.size + 1]? = some (.cells #[.string ⟨#[]⟩, .string ⟨#[]⟩, .slice none 0 0] 28 (0, 0)) ∧ W.ownsRow w.heap.size 23 3 ov j ((ps.take j).flatMap fun p => ipcells (qOf pct p)))
  case atStart => exact ⟨hbA, 0, ok0, _, rfl, by omega, by omega, rfl, by show _ = _; simp, hBA, hrA, own_nil _ _ _ _⟩
  case round =>
    clear hbA hrA hBA hp2 hr2 c0 c1 c2 c2a hB0 hb2 hb12 hlt2
    obtain ⟨hb, j, okb, ov, rfl, hj, hg, rfl, hO, hB, hr, ho⟩ := hrel
    have hws := hb.size
    have hBl := (Array.getElem?_eq_some_iff.1 hB).1
    obtain ⟨OA, oc, rfl⟩ := own_shape ho
    by_cases hlt : j < ps.length
    · obtain ⟨p, hp⟩ : ∃ p, ps[j] = p := ⟨_, rfl⟩
      have hpk : ps[j]? = some p := by rw [List.getElem?_eq_getElem hlt, hp]
      obtain ⟨hl1, hl2⟩ := H.out.2 p (by rw [← hp]; exact List.getElem_mem hlt)
      have hrd := H.out.1.below hb
      obtain ⟨bk, o, c', he, _, _, _⟩ := hrd.cells (by omega)
      injection he with he1 he2 he3
      subst he1 he3
      clear he2
      obtain ⟨x0, x1, x2⟩ := rd_at3 hrd j p hpk
      obtain ⟨pa, pvb, ph, hpa, hpv, hph⟩ : ∃ (pa pvb : ByteArray) (ph : Bool), (⟨p.1.toArray⟩ : ByteArray) = pa ∧ (⟨(p.2.getD []).toArray⟩ : ByteArray) = pvb ∧ p.2.isSome = ph := ⟨_, _, _, rfl, rfl, rfl⟩
      rw [hpa] at x0
      rw [hph] at x1
      rw [hpv] at x2
      have ep1 : bs pa = p.1 := by rw [← hpa]
      have ep2 : bs pvb = p.2.getD [] := by rw [← hpv]
      have hA : Below wr.heap.size wr (wr.alloc (.cells #[.string pa, .bool ph, .string pvb] 23)) := (Below.refl _ _).alloc (Nat.le_refl _) _
      have hcall := makePropertyS_any pct pa pvb ph _ (hw.below (below_then hb hws hA)) (by rw [← bs_length, ep1]; exact hl1) (by rw [← bs_length, ep2]; exact hl2)
      rw [HI.out] at hcall
      have EP : Aside (bs pa = p.1 ∧ bs pvb = p.2.getD [] ∧ p.2.isSome = ph ∧ ps.take (j + 1) = ps.take j ++ [p]) := ⟨ep1, ep2, hph, by rw [List.take_succ_eq_append_getElem hlt, hp]⟩
      clear hpa hpv hph hp hpk hl1 hl2 hrd ep1 ep2
      go_wp2_with (go_at_fn 12; fail)
      refine hcall.mono ?_
      intro e w5 hpost
      obtain ⟨vb1, ok1, rfl, hv1, ho1, hb5⟩ := hpost
      have QV : Aside (ipcells (qOf pct p) = [.string pa, .bool ph, .string vb1] ∧ ok1 = okOf pct p) := by
        refine ⟨?_, ?_⟩
        · show [S p.1, .bool _, S _] = _
          rw [S_bs pa, S_bs vb1, EP.out.1, hv1, ← EP.out.2.2.1]
          unfold qOf
          simp only
          cases hps : p.2.isSome
          · simp [valS]
          · simp only [if_true, Option.isSome_some, Option.getD_some]
            rw [EP.out.1, EP.out.2.1]
            rfl
        · rw [ho1, EP.out.1, EP.out.2.1, ← EP.out.2.2.1]
          unfold okOf madeS
          rfl
      clear hv1 ho1 hcall
      have hA5 := below_then hA hA.size hb5
      have hB5 := (hA5.block _ hBl).trans hB
      have hr5 := (hA5.block _ (Array.getElem?_eq_some_iff.1 hr).1).trans hr
      have ho5 := own_below (C := 0) ho hA5
      have hbw5 := below_then hb hws hA5
      have hws5 := hbw5.size
      have hBl5 := (Array.getElem?_eq_some_iff.1 hB5).1
      clear hA hb5 hA5 x0 x1 x2 hB hr ho
      have hB6 := row_alloc hB5 (.cells #[.string pa, .bool ph, .string vb1] 23)
      have hr6 := row_alloc hr5 (.cells #[.string pa, .bool ph, .string vb1] 23)
      obtain ⟨⟨_, _, d2⟩, _, _, g2⟩ := row3 hB5
      obtain ⟨⟨_, _, d2a⟩, _, _, g2a⟩ := row3 hB6
      have hz1 : (w5.alloc (.cells #[.string pa, .bool ph, .string vb1] 23)).heap.size = w5.heap.size + 1 := by simp
      have hb6' : Below w.heap.size w (w5.alloc (.cells #[.string pa, .bool ph, .string vb1] 23)) := hbw5.alloc hws5 _
      cases okb
      all_goals
        go_wp2_with (at_builtin; go_must (refine wp_app (W := w5.alloc (.cells #[.string pa, .bool ph, .string vb1] 23)) w.heap.size rfl (.tmp 44) (.tmp 46) 26 rfl 23 _ 3 40 Tryz.underlying26 Tryz.info23 rfl (by decide) (.slice OA j oc) j _ [.string pa, .bool ph, .string vb1] rfl (by show _ = Value.slice (some ⟨(w5.alloc _).heap.size, 0, none⟩) 1 1; rw [hz1]; rfl) rfl (by intro u hu; simp at hu; rcases hu with rfl | rfl | rfl <;> rfl) (ho5.alloc _) (by omega) (by omega) (by omega) ?_); intro v1 w7 ho7 hb7 hf7 hs7; obtain ⟨A3, c3, rfl⟩ := own_shape ho7; have hB7 := (hf7.block _ (by simp; omega) (by intro c f h; rw [hB6] at h; cases h)).trans hB6; obtain ⟨⟨_, _, e2⟩, _, _, k2⟩ := row3 hB7)
        go_roundg (gk - 1)
        case rel =>
          have hr7 := (hf7.block _ (by simp; omega) (by intro c f h; rw [hr6] at h; cases h)).trans hr6
          refine ⟨(hb6'.trans hb7).setCell (by show w.heap.size ≤ B; omega) _, j + 1, _, _, by go_num, by omega, by omega, rfl, ?_, row_set hB7 2 _, ?_, ?_⟩
          · show _ = _
            rw [EP.out.2.2.2, List.all_append, ← Bool.and_assoc, ← hO.out]
            simp [QV.out.2]
          · rw [Below.heap_setCell _ _ _ _ (by show ¬ w.heap.size + 1 = B; omega)]
            exact hr7
          · rw [EP.out.2.2.2, List.flatMap_append, List.flatMap_cons, List.flatMap_nil, List.append_nil, QV.out.1]
            exact own_setOther ho7 hB7 (by decide) _
        case measure => omega
    · rw [List.take_of_length_le (by omega)] at ho
      have hO2 := hO.out
      rw [List.take_of_length_le (by omega)] at hO2
      have hjl : j = (ps.map (qOf pct)).length := by rw [List.length_map]; omega
      obtain ⟨⟨c0, c1, c2'⟩, _, _, _⟩ := row3 hB
      obtain ⟨⟨d0, d1, d2⟩, g0, g1, g2⟩ := row3 hr
      have RO := Rd.of_own ho
      have RO2 : Aside (j = (ps.map (qOf pct)).length ∧ Rd true wr 23 (.slice OA (ps.map (qOf pct)).length oc) (ps.map (qOf pct)).length 3 ((ps.map (qOf pct)).flatMap ipcells) ∧ okb = (ok0 && ps.all (okOf pct))) := by
        refine ⟨hjl, ?_, hO2⟩
        rw [List.flatMap_map, ← hjl]
        exact RO
      clear ho hjl RO hO2
      go_wp2_with fail
      (try simp only [Exit.inBlock, Exit.then]); refine bodyPost_ret (ret_cell_tmp rfl rfl (row_set (row_set (row_set hr 0 _) 1 _) 2 _) Tryz.underlying28 rfl (by kernel_rfl)) rfl ?_
      unfold MakeMSPost
      rw [B0.out]
      refine ⟨_, _, _, _, _, by rw [← RO2.out.2.2]; rfl, ((hb.setCell (by simp) _).setCell (by simp) _).setCell (by simp) _, rfl, rfl, RO2.out.1, ?_⟩
      exact RO2.out.2.1.fr2 ((((Fr2.refl 28 28 wr).set hr _).set (row_set hr 0 _) _).set (row_set (row_set hr 0 _) 1 _) _) (by decide) (by decide)
end Go.Proofs.YtleofgndghjflaaGreatDoor

set_option linter.unusedVariables false
set_option linter.unusedSimpArgs false
namespace Go.Proofs.YtleofgndghjflaaGreatDoor
open Go Go.RowKit

set_option maxHeartbeats 4000000 in
set_option maxRecDepth 100000 in
theorem memberText_any {ty : Bool} (k v : ByteArray) (pv : Value) (ps : List Pr) (w : World) (hk : k.size ≤ 1000000) (hv : v.size ≤ 1000000) (h : Rd ty w 23 pv ps.length 3 (ps.flatMap ipcells)) (hn : ps.length ≤ 10000) (hM : ∀ p ∈ ps, PrOk 1000000 p) :
    Calls Tryz.prog 21 #[.agg #[.string k, .string v, pv]] w fun e w' => e = .returned (S (memStr ⟨bs k, bs v, [], ps⟩)) ∧ Below w.heap.size w w' := by
  obtain ⟨R, hR⟩ : ∃ R, memStr ⟨bs k, bs v, [], ps⟩ = R := ⟨_, rfl⟩
  rw [hR]
  have A : Aside (memStr ⟨bs k, bs v, [], ps⟩ = R) := hR
  clear hR
  obtain ⟨AD, c, rfl, hnc, hcm⟩ := h.shape
  obtain ⟨w1, hw1⟩ : ∃ w1, w.alloc (.cells #[.string k, .string v, .slice AD ps.length c] 28) = w1 := ⟨_, rfl⟩
  have hb1 : Below w.heap.size w w1 := by rw [← hw1]; exact (Below.refl _ _).alloc (Nat.le_refl _) _
  have hp1 : w1.heap[w.heap.size]? = some (.cells #[.string k, .string v, .slice AD ps.length c] 28 (0, 0)) := by rw [← hw1]; exact heap_alloc_new _ _
  have H : Aside (Rd ty w 23 (.slice AD ps.length c) ps.length 3 (ps.flatMap ipcells) ∧ ∀ p ∈ ps, PrOk 1000000 p) := ⟨h, hM⟩
  clear h hM
  have hvk := token_any k w1 hk
  obtain ⟨ok, hok⟩ : ∃ ok, keyOk (bs k) = ok := ⟨_, rfl⟩
  rw [hok] at hvk
  have O : Aside (keyOk (bs k) = ok) := hok
  clear hok
  obtain ⟨⟨c0, c1, c2⟩, _, _, _⟩ := row3 hp1
  go_enter Tryz.func21, Tryz.ntmps21
  go_wp2_with (go_at_fn 41; fail)
  refine hvk.mono ?_
  rintro e w2 ⟨rfl, rfl⟩
  clear hvk
  cases ok
  · go_wp2_with fail
    go_ret
    refine ⟨?_, hb1⟩
    rw [← A.out, memStr, O.out]
    rfl
  · obtain ⟨ev, hev⟩ : ∃ ev : ByteArray, S (enc (bs v)) = .string ev ∧ bs ev = enc (bs v) := ⟨⟨(enc (bs v)).toArray⟩, rfl, rfl⟩
    have hve := fun W => encoded_any v W hv
    rw [hev.1] at hve
    have E : Aside (bs ev = enc (bs v)) := hev.2
    clear hev
    have evz : ev.size ≤ 3000000 := by
      rw [← bs_length, E.out, enc_len, bs_length]
      have := cntE_le (bs v)
      rw [bs_length] at this
      omega
    have n1 : (9223372036854775807 < k.size + 1) = False := by rw [eq_iff_iff, iff_false]; omega
    have n2 : (9223372036854775807 < k.size + 1 + ev.size) = False := by rw [eq_iff_iff, iff_false]; omega
    go_wp2_with fail
    go_region_held3 (fun W => Below w2.heap.size w2 W ∧ W.cell? ⟨w.heap.size, 0, none⟩ = some (.string k) ∧ W.cell? ⟨w.heap.size, 1, none⟩ = some (.string v) ∧ W.cell? ⟨w.heap.size, 2, none⟩ = some (.slice AD ps.length c)) ((first | exact ⟨(Below.refl _ _).drew, c0, c1, c2⟩ | exact ⟨(Below.refl _ w2).drew.trans hbel, cell_bel hbel c0, cell_bel hbel c1, cell_bel hbel c2⟩)) (first | (go_at_call 42; refine (hve _).mono ?_; rintro e w' ⟨rfl, hbel⟩))
    all_goals
      have hbw : Below w2.heap.size w2 w' := (Below.refl _ w2).drew.trans hbel
      have hp3 := (hbw.block _ (Array.getElem?_eq_some_iff.1 hp1).1).trans hp1
      have hb3 := below_then hb1 hb1.size hbw
      clear hbel hbw hve c0 c1 c2
      obtain ⟨⟨c0, c1, c2⟩, _, _, _⟩ := row3 hp3
      by_cases hz : ps.length = 0
      · have hz1 : ((ps.length : Int) == 0) = true := by rw [beq_iff_eq]; omega
        have F : Aside (S R = .string (k ++ ⟨#[61]⟩ ++ ev)) := by
          show _ = _
          rw [← A.out, memStr, O.out, S_bs, bs_app, bs_app, E.out]
          have : ps = [] := List.eq_nil_of_length_eq_zero hz
          subst this
          simp [memTail, bs]
        clear hz
        go_wp2_with fail
        go_ret
        exact ⟨by rw [F.out]; rfl, hb3⟩
      · have hz1 : ((ps.length : Int) == 0) = false := beq_eq_false_iff_ne.2 (by omega)
        have hne : Aside (¬ ps.length = 0) := hz
        clear hz
        go_wp2_with fail
        obtain ⟨x0, hx0⟩ : ∃ x0, k ++ (⟨#[61]⟩ : ByteArray) ++ ev = x0 := ⟨_, rfl⟩
        have hxs : x0.size ≤ 4000001 := by
          have e1 : (⟨#[61]⟩ : ByteArray).size = 1 := rfl
          rw [← hx0, ByteArray.size_append, ByteArray.size_append, e1]
          omega
        have X0 : Aside (bs x0 = bs k ++ 61 :: enc (bs v)) := by
          show _ = _
          rw [← hx0, bs_app, bs_app, E.out]
          simp [bs]
        rw [hx0]
        clear hx0 n1 n2 hz1
        go_loopg [4, 27] (ps.length + 1) (fun gk ow i wx => Below w.heap.size w wx ∧ ∃ (j : Nat) (done : List (List UInt8)), i = .int .i64 j ∧ j ≤ ps.length ∧ j + gk = ps.length + 1 ∧ done.length ≤ j ∧ wx.ownsRow w.heap.size 9 1 ow done.length (strs done) ∧ Aside (done = ((ps.take j).map pstr).filter (!·.isEmpty)))
        case atStart => exact ⟨hb3, 0, [], rfl, by omega, by omega, by simp, own_nil _ _ _ _, by show _ = _; simp⟩
        case round =>
          clear hb3 hp3 c0 c1 c2
          obtain ⟨hb, j, done, rfl, hj, hg, hdl, ho, hX⟩ := hrel
          have hws := hb.size
          by_cases hlt : j < ps.length
          · obtain ⟨p, hp⟩ : ∃ p, ps[j] = p := ⟨_, rfl⟩
            have hpk : ps[j]? = some p := by rw [List.getElem?_eq_getElem hlt, hp]
            obtain ⟨hl1, hl2⟩ := H.out.2 p (by rw [← hp]; exact List.getElem_mem hlt)
            have hrd := H.out.1.below hb
            obtain ⟨bk, o, c', he, _, _, _⟩ := hrd.cells (by omega)
            injection he with he1 he2 he3
            subst he1 he3
            clear he2
            obtain ⟨x0', x1, x2⟩ := rd_at3 hrd j p hpk
            obtain ⟨kb, vb, hh, hpc⟩ : ∃ (kb vb : ByteArray) (hh : Bool), (⟨p.1.toArray⟩ : ByteArray) = kb ∧ (⟨(p.2.getD []).toArray⟩ : ByteArray) = vb ∧ p.2.isSome = hh := ⟨_, _, _, rfl, rfl, rfl⟩
            rw [hpc.1] at x0'
            rw [hpc.2.2] at x1
            rw [hpc.2.1] at x2
            have hpe : p = (bs kb, if hh then some (bs vb) else none) := by
              obtain ⟨p1, p2⟩ := p
              rw [← hpc.1, ← hpc.2.1, ← hpc.2.2]
              cases p2 <;> rfl
            have hks : kb.size ≤ 1000000 := by rw [← hpc.1, ← bs_length]; exact hl1
            have hvs : vb.size ≤ 1000000 := by rw [← hpc.2.1, ← bs_length]; exact hl2
            have hcall := propertyText_any kb vb hh (wr.alloc (.cells #[.string kb, .bool hh, .string vb] 23)) hks hvs
            rw [← hpe] at hcall
            obtain ⟨sb, hsb⟩ : ∃ sb : ByteArray, S (pstr p) = .string sb ∧ bs sb = pstr p := ⟨⟨(pstr p).toArray⟩, rfl, rfl⟩
            rw [hsb.1] at hcall
            have X : Aside ((if sb.toList.isEmpty then done else done ++ [bs sb]) = ((ps.take (j + 1)).map pstr).filter (!·.isEmpty) ∧ S (bs sb) = .string sb) := by
              refine ⟨?_, (S_bs sb).symm⟩
              rw [List.take_succ_eq_append_getElem hlt, hp, List.map_append, List.filter_append, ← hX.out, toList_empty, hsb.2]
              cases h : (pstr p).isEmpty
              · simp [h]
              · simp [h]
            clear hpk hp hpc hpe hX hsb hl1 hl2 hrd
            go_wp2_with (go_at_fn 14; fail)
            refine hcall.mono ?_
            rintro e w5 ⟨rfl, hbel⟩
            have hb5 : Below w.heap.size w w5 := below_then (hb.alloc hws _) (hb.alloc hws _).size hbel
            have ho5 := own_below (C := 0) (ho.alloc _) hbel
            clear hcall hbel ho
            cases hse : sb.toList.isEmpty
            · go_wp2_with (at_builtin; go_must (refine wp_app w.heap.size rfl _ _ 54 rfl 9 (.string ⟨#[]⟩) 1 16 Tryz.underlying54 Tryz.infoStr rfl (by decide) u4 done.length _ [.string sb] rfl rfl rfl (one_str sb) ho5 hb5.size (by omega) (by omega) ?_); intro v1 w6 ho6 hb6 hf6 hs6)
              go_wp2_with fail
              go_roundg (gk - 1)
              case rel =>
                refine ⟨hb5.trans hb6, j + 1, done ++ [bs sb], by go_num, by omega, by omega, by simp; omega, ?_, ?_⟩
                · rw [strs, List.map_append, List.length_append]
                  show World.ownsRow _ _ _ _ _ _ (done.map S ++ [S (bs sb)])
                  rw [X.out.2]
                  exact ho6
                · have := X.out.1
                  rw [hse] at this
                  exact this
              case measure => omega
            · go_wp2_with fail
              go_roundg (gk - 1)
              case rel =>
                refine ⟨hb5, j + 1, done, by go_num, by omega, by omega, by omega, ho5, ?_⟩
                have := X.out.1
                rw [hse] at this
                exact this
              case measure => omega
          · have hfin : Aside (done = (ps.map pstr).filter (!·.isEmpty)) := by
              have := hX.out
              rw [List.take_of_length_le (by omega)] at this
              exact this
            have hMd : ∀ x ∈ done, x.length ≤ 4000001 := by
              rw [hfin.out]
              intro x hx
              obtain ⟨p, hp, rfl⟩ := List.mem_map.1 (List.mem_filter.1 hx).1
              exact pstr_le 1000000 p (H.out.2 p hp)
            have hjl := join_le 4000001 done (bs ⟨#[59]⟩) hMd
            have hjl3 : (Lib.join done (bs ⟨#[59]⟩)).length ≤ 40000020000 := by
              refine Nat.le_trans hjl ?_
              have : done.length * (4000001 + (bs ⟨#[59]⟩).length) ≤ 10000 * (4000001 + 1) := Nat.mul_le_mul (by omega) (Nat.le_refl _)
              omega
            have hj2 := join_any done u4 ⟨#[59]⟩ wr (Rd.of_own ho) (by omega) (by omega)
            obtain ⟨jb, hjb⟩ : ∃ jb : ByteArray, S (Lib.join done (bs ⟨#[59]⟩)) = .string jb ∧ bs jb = Lib.join done (bs ⟨#[59]⟩) := ⟨⟨(Lib.join done (bs ⟨#[59]⟩)).toArray⟩, rfl, rfl⟩
            rw [hjb.1] at hj2
            have hjs : jb.size ≤ 40000020000 := by rw [← bs_length, hjb.2]; exact hjl3
            have Y : Aside (S R = .string (x0 ++ ⟨#[59]⟩ ++ jb)) := by
              show _ = _
              have hnil : ¬ ps = [] := fun e => hne.out (by rw [e]; rfl)
              rw [← A.out, memStr, O.out, S_bs, bs_app, bs_app, X0.out, hjb.2, hfin.out]
              simp [memTail, hnil, propsStr, bs]
            have n3 : (9223372036854775807 < x0.size + 1) = False := by rw [eq_iff_iff, iff_false]; omega
            have n4 : (9223372036854775807 < x0.size + 1 + jb.size) = False := by rw [eq_iff_iff, iff_false]; omega
            clear hjb hX hfin hMd hjl hjl3
            go_wp2_with (go_at_fn 25; fail)
            refine hj2.mono ?_
            rintro e w5 ⟨rfl, hbel⟩
            go_wp2_with fail
            go_ret
            exact ⟨by rw [Y.out]; rfl, below_then hb hws hbel⟩
end Go.Proofs.YtleofgndghjflaaGreatDoor

set_option linter.unusedVariables false
set_option linter.unusedSimpArgs false
namespace Go.Proofs.YtleofgndghjflaaGreatDoor
open Go Go.RowKit

def fits6 (l : List RP) : Bool := decide (l.length ≤ 2147483647) && l.all fits4
def fits5 (m : RM) : Bool := decide (m.1.size ≤ 2147483647) && decide (m.2.1.size ≤ 2147483647) && fits6 m.2.2

set_option maxHeartbeats 1000000 in
set_option maxRecDepth 100000 in
theorem zzFits6_any {ty : Bool} (v : Value) (ps : List RP) (w : World) (h : Rd ty w 23 v ps.length 3 (ps.flatMap rcells)) :
    Calls Tryz.prog 43 #[v] w (BoolPost (fits6 ps) w) := by
  obtain ⟨A, c, rfl, hnc, hcm⟩ := h.shape
  have H : Aside (Rd ty w 23 (.slice A ps.length c) ps.length 3 (ps.flatMap rcells)) := h
  clear h
  obtain ⟨r, hr⟩ : ∃ r, fits6 ps = r := ⟨_, rfl⟩
  rw [hr]
  have R : Aside (r = (decide (ps.length ≤ 2147483647) && ps.all fits4)) := hr.symm
  clear hr
  by_cases hbig : ps.length ≤ 2147483647
  · have hbz : ¬ (2147483647 : Int) < ps.length := by omega
    have R2 : Aside (r = ps.all fits4) := by show _ = _; rw [R.out, decide_eq_true hbig]; rfl
    clear R
    go_enter Tryz.func43, Tryz.ntmps43
    go_wp2_with fail
    go_loopg [10] (ps.length + 1) (fun gk i W => Below w.heap.size w W ∧ ∃ k : Nat, i = .int .i64 k ∧ k ≤ ps.length ∧ k + gk = ps.length + 1 ∧ Aside (r = (ps.drop k).all fits4))
    case atStart => exact ⟨Below.refl _ _, 0, rfl, by omega, by omega, R2.out⟩
    case round =>
      obtain ⟨hb, k, rfl, hk, hg, hX⟩ := hrel
      have hws := hb.size
      by_cases hlt : k < ps.length
      · obtain ⟨p, hp⟩ : ∃ p, ps[k] = p := ⟨_, rfl⟩
        have hpk : ps[k]? = some p := by rw [List.getElem?_eq_getElem hlt, hp]
        have D : Aside (ps.drop k = p :: ps.drop (k + 1)) := by rw [← hp]; exact List.drop_eq_getElem_cons hlt
        have hrd := H.out.below hb
        obtain ⟨bk, o, c', he, _, _, _⟩ := hrd.cells (by omega)
        injection he with he1 he2 he3
        subst he1 he3
        clear he2
        obtain ⟨x0, x1, x2⟩ := rd_atR hrd k p hpk
        clear hpk hp hrd
        obtain ⟨ka, ha, va⟩ := p
        simp only at x0 x1 x2
        have hA : Below wr.heap.size wr (wr.alloc (.cells #[.string ka, .bool ha, .string va] 23)) := (Below.refl _ _).alloc (Nat.le_refl _) _
        have hcall := zzFits4_any ka va ha (wr.alloc (.cells #[.string ka, .bool ha, .string va] 23))
        obtain ⟨E, hE⟩ : ∃ E, fits4 (ka, ha, va) = E := ⟨_, rfl⟩
        rw [hE] at hcall
        have EE : Aside (fits4 (ka, ha, va) = E) := hE
        clear hE
        go_wp2_with (go_at_fn 9; fail)
        refine hcall.mono ?_
        rintro e w2 ⟨rfl, hb2⟩
        have hbw := below_then hb hws (below_then hA hA.size hb2)
        cases E
        · go_wp2_with fail
          go_ret
          exact ⟨by rw [hX.out, D.out, List.all_cons, EE.out]; rfl, hbw⟩
        · go_wp2_with fail
          go_roundg (gk - 1)
          case rel => exact ⟨hbw, k + 1, by go_num, by omega, by omega, by have := hX.out; rw [D.out, List.all_cons, EE.out] at this; exact this⟩
          case measure => omega
      · have hfin := hX.out
        rw [List.drop_eq_nil_of_le (by omega)] at hfin
        have RF : Aside (r = true) := hfin
        clear hfin
        go_wp2_with fail
        go_ret
        exact ⟨by rw [RF.out]; rfl, hb⟩
  · have hbz : (2147483647 : Int) < ps.length := by omega
    have R2 : Aside (r = false) := by show _ = _; rw [R.out, decide_eq_false hbig]; rfl
    clear R
    go_enter Tryz.func43, Tryz.ntmps43
    go_wp2_with fail
    go_ret
    exact ⟨by rw [R2.out]; rfl, Below.refl _ _⟩

set_option maxHeartbeats 1000000 in
set_option maxRecDepth 100000 in
theorem zzFits5_any {ty : Bool} (k v : ByteArray) (pv : Value) (ps : List RP) (w : World) (h : Rd ty w 23 pv ps.length 3 (ps.flatMap rcells)) :
    Calls Tryz.prog 15 #[.agg #[.string k, .string v, pv]] w (BoolPost (fits5 (k, v, ps)) w) := by
  obtain ⟨A, c, rfl, hnc, hcm⟩ := h.shape
  obtain ⟨w1, hw1⟩ : ∃ w1, w.alloc (.cells #[.string k, .string v, .slice A ps.length c] 28) = w1 := ⟨_, rfl⟩
  have hb1 : Below w.heap.size w w1 := by rw [← hw1]; exact (Below.refl _ _).alloc (Nat.le_refl _) _
  have hp1 : w1.heap[w.heap.size]? = some (.cells #[.string k, .string v, .slice A ps.length c] 28 (0, 0)) := by rw [← hw1]; exact heap_alloc_new _ _
  have hcall := zzFits6_any _ ps w1 (h.below hb1)
  clear h
  obtain ⟨f6, hf6⟩ : ∃ b, fits6 ps = b := ⟨_, rfl⟩
  rw [hf6] at hcall
  obtain ⟨r, hr⟩ : ∃ r, fits5 (k, v, ps) = r := ⟨_, rfl⟩
  rw [hr]
  have R : Aside (r = (decide (k.size ≤ 2147483647) && decide (v.size ≤ 2147483647) && f6)) := by show _ = _; rw [← hr, ← hf6]; rfl
  clear hr hf6
  obtain ⟨⟨c0, c1, c2⟩, _, _, _⟩ := row3 hp1
  by_cases hk : k.size ≤ 2147483647
  · have hkz : ¬ (2147483647 : Int) < k.size := by omega
    by_cases hv : v.size ≤ 2147483647
    · have hvz : ¬ (2147483647 : Int) < v.size := by omega
      have R2 : Aside (r = f6) := by show _ = _; rw [R.out, decide_eq_true hk, decide_eq_true hv]; rfl
      clear R
      go_enter Tryz.func15, Tryz.ntmps15
      go_wp2_with (go_at_fn 43; fail)
      refine hcall.mono ?_
      rintro e w2 ⟨rfl, hb2⟩
      have hb12 := below_then hb1 hb1.size hb2
      cases f6
      · go_wp2_with fail
        go_ret
        exact ⟨by rw [R2.out]; rfl, hb12⟩
      · go_wp2_with fail
        go_ret
        exact ⟨by rw [R2.out]; rfl, hb12⟩
    · have hvz : (2147483647 : Int) < v.size := by omega
      have R2 : Aside (r = false) := by show _ = _; rw [R.out, decide_eq_false hv]; simp
      clear R
      go_enter Tryz.func15, Tryz.ntmps15
      go_wp2_with fail
      go_ret
      exact ⟨by rw [R2.out]; rfl, hb1⟩
  · have hkz : (2147483647 : Int) < k.size := by omega
    have R2 : Aside (r = false) := by show _ = _; rw [R.out, decide_eq_false hk]; simp
    clear R
    go_enter Tryz.func15, Tryz.ntmps15
    go_wp2_with fail
    go_ret
    exact ⟨by rw [R2.out]; rfl, hb1⟩

theorem madePr_same (pct : Bool) (p : Pr) : madePr pct p = if okOf pct p then some (qOf pct p) else none := by
  unfold madePr okOf qOf
  rw [made_same]
theorem madeProps_same (pct : Bool) : ∀ ps : List Pr, madeProps pct ps = if ps.all (okOf pct) then some (ps.map (qOf pct)) else none
  | [] => rfl
  | p :: r => by
    unfold madeProps
    rw [madePr_same, madeProps_same pct r, List.all_cons]
    cases okOf pct p
    · simp
    · cases r.all (okOf pct)
      · simp
      · simp
/-- What impl makes is what spec makes. -/
theorem madeMem_same (pct : Bool) (x : SM) : madeMem pct x = if (madeMS pct x).2 then some ⟨x.1, (madeMS pct x).1.2.1, [], (madeMS pct x).1.2.2⟩ else none := by
  obtain ⟨k, v, ps⟩ := x
  unfold madeMem madeMS
  simp only
  rw [madeProps_same]
  cases ps.all (okOf pct)
  · simp
  · simp only [if_true, Bool.and_true]
    cases pct
    · unfold rawMem kvOk madeP nameOk
      simp
    · unfold pctMem madeP rawMem kvOk
      simp only [if_true]
      cases hk : keyOk k
      · simp
      · rw [keyOk_valid k hk]
        cases ho : v.all oct
        · simp
        · cases hu : unesc v with
          | none => simp
          | some u => simp

/-- A property that came in, as data. -/
def toPr (r : RP) : Pr := (bs r.1, if r.2.1 then some (bs r.2.2) else none)
theorem rcells_pr (r : RP) (h : rightP r = true) : rcells r = ipcells (toPr r) := by
  obtain ⟨k, hh, v⟩ := r
  unfold rightP at h
  unfold rcells ipcells toPr
  rw [S_bs, S_bs]
  cases hh
  · simp only [Bool.false_or, Bool.and_eq_true, decide_eq_true_eq] at h
    have : bs v = [] := List.eq_nil_of_length_eq_zero (by rw [bs_length]; exact h.2)
    rw [this]
    rfl
  · rfl
theorem rcells_prs : ∀ (l : List RP), l.all rightP = true → l.flatMap rcells = (l.map toPr).flatMap ipcells
  | [], _ => rfl
  | r :: l, h => by
    rw [List.all_cons, Bool.and_eq_true] at h
    rw [List.flatMap_cons, List.map_cons, List.flatMap_cons, rcells_pr r h.1, rcells_prs l h.2]
theorem toPr_ok (l : List RP) (h : l.all rightP = true) : ∀ p ∈ l.map toPr, PrOk 200 p := by
  intro p hp
  obtain ⟨r, hr, rfl⟩ := List.mem_map.1 hp
  have := List.all_eq_true.1 h r hr
  unfold rightP at this
  simp only [Bool.and_eq_true, decide_eq_true_eq] at this
  refine ⟨by unfold toPr; rw [bs_length]; exact this.1.1, ?_⟩
  unfold toPr
  simp only
  split
  · rw [Option.getD_some, bs_length]; exact this.1.2
  · simp
theorem PrOk.mono {M N : Nat} {p : Pr} (h : PrOk M p) (hl : M ≤ N) : PrOk N p := ⟨Nat.le_trans h.1 hl, Nat.le_trans h.2 hl⟩
end Go.Proofs.YtleofgndghjflaaGreatDoor

set_option linter.unusedVariables false
set_option linter.unusedSimpArgs false
namespace Go.Proofs.YtleofgndghjflaaGreatDoor
open Go Go.RowKit

theorem oneMem_lit {ty : Bool} (w : World) (k v : ByteArray) (A : Option Addr) (c : Nat) (rs : List RP) (h : Rd ty w 23 (.slice A rs.length c) rs.length 3 (rs.flatMap rcells)) : RMRs true ty (w.alloc (.cells #[.string k, .string v, .slice A rs.length c] 28)) (.slice (some ⟨w.heap.size, 0, none⟩) 1 1) [(k, v, rs)] := by
  have h1 := heap_alloc_new w (.cells #[.string k, .string v, .slice A rs.length c] 28)
  refine ⟨[[.string k, .string v, .slice A rs.length c]], ⟨_, 1, rfl, by simp, by omega, rfl, .inr ⟨w.heap.size, 0, rfl, fun j u hj => ?_, fun _ => ⟨_, _, h1⟩⟩⟩, ⟨_, rfl, h.below ((Below.refl _ _).alloc (Nat.le_refl _) _)⟩, trivial⟩
  rw [cell_of_row _ _ _ _ _ _ h1, Nat.zero_add]
  simpa using hj

set_option maxHeartbeats 4000000 in
set_option maxRecDepth 100000 in
theorem fnBagMember_any {ty : Bool} (pct : Bool) (k v : ByteArray) (A : Option Addr) (c : Nat) (rs : List RP) (w : World) (hw : Laid w) (h : Rd ty w 23 (.slice A rs.length c) rs.length 3 (rs.flatMap rcells)) :
    Calls Tryz.prog 4 #[.bool pct, .agg #[.string k, .string v, .slice A rs.length c]] w (BoolPost true w) := by
  obtain ⟨w1, hw1⟩ : ∃ w1, w.alloc (.cells #[.string k, .string v, .slice A rs.length c] 28) = w1 := ⟨_, rfl⟩
  have hb1 : Below w.heap.size w w1 := by rw [← hw1]; exact (Below.refl _ _).alloc (Nat.le_refl _) _
  have hp1 : w1.heap[w.heap.size]? = some (.cells #[.string k, .string v, .slice A rs.length c] 28 (0, 0)) := by rw [← hw1]; exact heap_alloc_new _ _
  obtain ⟨⟨c0, c1, c2⟩, f0, f1, f2⟩ := row3 hp1
  have hz := zzFits5_any k v _ rs w1 (h.below hb1)
  have H : Aside (Rd ty w 23 (.slice A rs.length c) rs.length 3 (rs.flatMap rcells)) := h
  clear h
  obtain ⟨fi, hfi⟩ : ∃ fi, fits5 (k, v, rs) = fi := ⟨_, rfl⟩
  rw [hfi] at hz
  clear hfi
  go_enter Tryz.func4, Tryz.ntmps4
  go_wp2_with (go_at_fn 15; fail)
  refine hz.mono ?_
  rintro e w2 ⟨rfl, hb2⟩
  have hp2 := (hb2.block _ (Array.getElem?_eq_some_iff.1 hp1).1).trans hp1
  have hb12 := below_then hb1 hb1.size hb2
  clear hz hw1 hp1 hb1 c0 c1 c2 f0 f1 f2
  obtain ⟨⟨c0, c1, c2⟩, f0, f1, f2⟩ := row3 hp2
  cases fi
  · go_wp2_with fail
    go_ret
    exact ⟨rfl, hb12⟩
  · have hA : Below w2.heap.size w2 (w2.alloc (.cells #[.string k, .string v, .slice A rs.length c] 28)) := (Below.refl _ _).alloc (Nat.le_refl _) _
    have hrt := bagRight_any _ _ _ (oneMem_lit w2 k v A c rs (H.out.below hb12))
    obtain ⟨ri, hri⟩ : ∃ ri, right [(k, v, rs)] = ri := ⟨_, rfl⟩
    rw [hri] at hrt
    go_wp2_with (go_at_fn 10; fail)
    refine hrt.mono ?_
    rintro e w3 ⟨rfl, hb3⟩
    have hb23 := below_then hA hA.size hb3
    have hp3 := (hb23.block _ (Array.getElem?_eq_some_iff.1 hp2).1).trans hp2
    have hb13 := below_then hb12 hb12.size hb23
    clear hrt hb3 hA hb23 hp2 hb12 hb2 c0 c1 c2 f0 f1 f2
    obtain ⟨⟨c0, c1, c2⟩, f0, f1, f2⟩ := row3 hp3
    have haw := awake_any w3 (hw.below hb13)
    cases ri
    · clear hri
      go_wp2_with (go_at_fn 11; fail)
      refine haw.mono ?_
      rintro e w4 ⟨rfl, hb4⟩
      go_wp2_with fail
      go_ret
      exact ⟨rfl, below_then hb13 hb13.size hb4⟩
    · have hrp : k.size ≤ 200 ∧ v.size ≤ 200 ∧ rs.length ≤ 8 ∧ rs.all rightP = true := by
        unfold right rightM at hri
        simp only [List.all_cons, List.all_nil, Bool.and_true, Bool.and_eq_true, decide_eq_true_eq] at hri
        exact ⟨hri.2.1.1.1, hri.2.1.1.2, hri.2.1.2, hri.2.2⟩
      obtain ⟨hk2, hv2, hn8, hall⟩ := hrp
      have hrl : rs.length = (rs.map toPr).length := by rw [List.length_map]
      obtain ⟨ps, hps⟩ : ∃ ps, rs.map toPr = ps := ⟨_, rfl⟩
      have hM0 := toPr_ok rs hall
      have H2 : Aside (Rd ty w 23 (.slice A rs.length c) ps.length 3 (ps.flatMap ipcells) ∧ (∀ p ∈ ps, PrOk 200 p) ∧ rs.length = ps.length ∧ k.size ≤ 200 ∧ v.size ≤ 200) := by
        refine ⟨?_, by rw [← hps]; exact hM0, by rw [← hps]; exact hrl, hk2, hv2⟩
        rw [← hps, ← rcells_prs rs hall, ← hrl]
        exact H.out
      have hk : k.size ≤ 1000000 := by omega
      have hv : v.size ≤ 1000000 := by omega
      have hn : ps.length ≤ 10000 := by rw [← hps, ← hrl]; omega
      clear hk2 hv2 hn8 hall hrl hps hM0 hri haw
      have hM : ∀ p ∈ ps, PrOk 1000000 p := fun p hp => (H2.out.2.1 p hp).mono (by omega)
      have hS := fun W (hW : Below w.heap.size w W) => makeMemberS_any pct k v _ ps W (hw.below hW) hk hv (H2.out.1.below hW) hn hM
      have hI := fun (pv : Value) W (hW : Below w.heap.size w W) (hR : Rd true W 32 pv ps.length 3 (ps.flatMap ipcells)) => makeMemberI_any pct k v pv ps W (hw.below hW) hk hv hR hn hM
      have hT := fun W (hW : Below w.heap.size w W) => toMember_any k v _ ps W (H2.out.1.below hW) (by omega)
      obtain ⟨Q, hQ⟩ : ∃ Q, madeMS pct (bs k, bs v, ps) = Q := ⟨_, rfl⟩
      have hI2 : ∀ (pv : Value) W, Below w.heap.size w W → Rd true W 32 pv ps.length 3 (ps.flatMap ipcells) → Calls Tryz.prog 17 #[.int .u8 (how pct), .agg #[.string k, .string v, pv]] W (MakeMIPost (if Q.2 then some ⟨bs k, Q.1.2.1, [], Q.1.2.2⟩ else none) W) := by
        intro pv W hW hR
        have := hI pv W hW hR
        rw [madeMem_same, hQ] at this
        exact this
      have QQ : Aside (madeMS pct (bs k, bs v, ps) = Q) := hQ
      rw [hQ] at hS
      clear hI hQ hM
      go_upto_if 19 with fail
      go_cut [5] (fun v W => v = .int .u8 (how pct) ∧ W = w3)
      case first =>
        cases pct
        · go_wp2_with fail
          go_meet
          exact ⟨rfl, rfl⟩
        · go_wp2_with fail
          go_meet
          exact ⟨rfl, rfl⟩
      case rest =>
        obtain ⟨rfl, rfl⟩ := hcut
        obtain ⟨hi, hhi⟩ : ∃ hi, how pct = hi := ⟨_, rfl⟩
        rw [hhi] at hS hI2 ⊢
        clear hhi
        have hS1 := hS wc hb13
        clear hS
        go_wp2_with (go_at_fn 16; fail)
        refine hS1.mono ?_
        intro e w4 hpost
        obtain ⟨kb1, vb1, pA1, n1, pc1, rfl, hb4, hk1, hv1, rfl, hrd1⟩ := hpost
        have hp4 := (hb4.block _ (Array.getElem?_eq_some_iff.1 hp3).1).trans hp3
        have hb14 := below_then hb13 hb13.size hb4
        clear hS1 hp3 hb13 hb4 c0 c1 c2 f0 f1 f2
        obtain ⟨w5, hw5⟩ : ∃ w5, w4.alloc (.cells #[.string kb1, .string vb1, .slice pA1 Q.1.2.2.length pc1] 28) = w5 := ⟨_, rfl⟩
        have hA5 : Below w4.heap.size w4 w5 := by rw [← hw5]; exact (Below.refl _ _).alloc (Nat.le_refl _) _
        have hq5 : w5.heap[w4.heap.size]? = some (.cells #[.string kb1, .string vb1, .slice pA1 Q.1.2.2.length pc1] 28 (0, 0)) := by rw [← hw5]; exact heap_alloc_new _ _
        have hp5 := (hA5.block _ (Array.getElem?_eq_some_iff.1 hp4).1).trans hp4
        obtain ⟨⟨d0, d1, d2⟩, _, _, _⟩ := row3 hp5
        have hb15 := below_then hb14 hb14.size hA5
        have hrd5 := hrd1.below hA5
        have hT5 := hT w5 hb15
        clear hT hp4 hb14 hrd1
        obtain ⟨⟨c0, c1, c2⟩, _, _, _⟩ := row3 hq5
        go_wp2_with (go_at_fn 18; fail)
        refine hT5.mono ?_
        intro e w6 hpost
        obtain ⟨pv6, rfl, hrd6, hb6⟩ := hpost
        have hq6 := (hb6.block _ (Array.getElem?_eq_some_iff.1 hq5).1).trans hq5
        have hb16 := below_then hb15 hb15.size hb6
        have hrd56 := hrd5.below hb6
        have hI6 := hI2 pv6 w6 hb16 hrd6
        obtain ⟨A6, c6, rfl, _, _⟩ := hrd6.shape
        clear hT5 hp5 hb15 hb6 hA5 d0 d1 d2 hI2 hrd5 hrd6 hq5 hw5
        go_wp2_with (go_at_fn 17; fail)
        refine hI6.mono ?_
        intro e w7 hpost
        obtain ⟨kb, vb, pA, n, pc, tb, ok, rfl, hb7, hR⟩ := hpost
        have hq7 := (hb7.block _ (Array.getElem?_eq_some_iff.1 hq6).1).trans hq6
        have hb17 := below_then hb16 hb16.size hb7
        have hrd57 := hrd56.below hb7
        clear hI6 hq6 hb16 hb7 c0 c1 c2 hrd56
        obtain ⟨w8, hw8⟩ : ∃ w8, w7.alloc (.cells #[.string kb, .string vb, .slice pA n pc] 42) = w8 := ⟨_, rfl⟩
        have hA8 : Below w7.heap.size w7 w8 := by rw [← hw8]; exact (Below.refl _ _).alloc (Nat.le_refl _) _
        have hu8 : w8.heap[w7.heap.size]? = some (.cells #[.string kb, .string vb, .slice pA n pc] 42 (0, 0)) := by rw [← hw8]; exact heap_alloc_new _ _
        have hq8 := (hA8.block _ (Array.getElem?_eq_some_iff.1 hq7).1).trans hq7
        have hb18 := below_then hb17 hb17.size hA8
        have hrd58 := hrd57.below hA8
        have haw := awake_any w8.drew (hw.below hb18.drew)
        obtain ⟨⟨c0, c1, c2⟩, _, _, _⟩ := row3 hu8
        obtain ⟨⟨e0, e1, e2⟩, _, _, _⟩ := row3 hq8
        obtain ⟨⟨c0', c1', c2'⟩, _, _, _⟩ := row3 (row_drew hu8)
        obtain ⟨⟨e0', e1', e2'⟩, _, _, _⟩ := row3 (row_drew hq8)
        obtain ⟨ok2, hok2⟩ : ∃ b, Q.2 = b := ⟨_, rfl⟩
        rw [hok2] at hR
        rw [hok2]
        clear hok2
        cases ok2
        · have hok : ok = false := hR
          subst hok
          clear hR
          have hb18d := hb18.drew
          go_wp2_with fail
          refine wp_region_held_drew (S := fun W => Below w.heap.size w W) (by kernel_rfl) hb18d (fun hHeld => ?_)
          refine wpAnyH_ready (rs := [0]) (by kernel_rfl) (by simp) ?_
          refine AllReadyH.cons rfl (fun K hK => ?_) AllReadyH.nil
          go_simp
          go_at_call 11
          refine haw.mono ?_
          rintro e w9 ⟨rfl, hb9⟩
          go_wp2_with fail
          refine hK.out _ _ (below_then hb18d hb18d.size hb9) (fun hHeld => ?_)
          clear hK K
          try simp only [List.getElem_toArray, List.getElem_cons_succ, List.getElem_cons_zero, Act.put, List.setIfInBounds_toArray, List.set_cons_zero, List.set_cons_succ]
          refine wpAnyH_take (i := 1) (v := .bool true) rfl (by kernel_rfl) (by kernel_rfl) (by kernel_rfl) (fun _ _ _ h => h) (Or.inl ⟨by rfl, ?_⟩) hHeld ?_
          · intro w' hSw; go_simp
          try simp only [List.getElem_toArray, List.getElem_cons_succ, List.getElem_cons_zero, Act.put, List.setIfInBounds_toArray, List.set_cons_zero, List.set_cons_succ]
          refine wpAnyH_take (i := 2) (v := .bool false) rfl (by kernel_rfl) (by kernel_rfl) (by kernel_rfl) (fun _ _ _ h => h) (Or.inl ⟨by rfl, ?_⟩) hHeld ?_
          · intro w' hSw; go_simp
          try simp only [List.getElem_toArray, List.getElem_cons_succ, List.getElem_cons_zero, Act.put, List.setIfInBounds_toArray, List.set_cons_zero, List.set_cons_succ]
          refine wpAnyH_take (i := 3) (v := .bool false) rfl (by kernel_rfl) (by kernel_rfl) (by kernel_rfl) (fun _ _ _ h => h) (Or.inl ⟨by rfl, ?_⟩) hHeld ?_
          · intro w' hSw; go_simp
          try simp only [List.getElem_toArray, List.getElem_cons_succ, List.getElem_cons_zero, Act.put, List.setIfInBounds_toArray, List.set_cons_zero, List.set_cons_succ]
          refine wpAnyH_take (i := 4) (v := .bool true) rfl (by kernel_rfl) (by kernel_rfl) (by kernel_rfl) (fun _ _ _ h => h) (Or.inl ⟨by rfl, ?_⟩) hHeld ?_
          · intro w' hSw; go_simp
          try simp only [List.getElem_toArray, List.getElem_cons_succ, List.getElem_cons_zero, Act.put, List.setIfInBounds_toArray, List.set_cons_zero, List.set_cons_succ]
          refine wpAnyH_take (i := 5) (v := .bool true) rfl (by kernel_rfl) (by kernel_rfl) (by kernel_rfl) (fun _ _ _ h => h) (Or.inl ⟨by rfl, ?_⟩) hHeld ?_
          · intro w' hSw; go_simp
          try simp only [List.getElem_toArray, List.getElem_cons_succ, List.getElem_cons_zero, Act.put, List.setIfInBounds_toArray, List.set_cons_zero, List.set_cons_succ]
          refine wpAnyH_take (i := 6) (v := .bool true) rfl (by kernel_rfl) (by kernel_rfl) (by kernel_rfl) (fun _ _ _ h => h) (Or.inl ⟨by rfl, ?_⟩) hHeld ?_
          · intro w' hSw; go_simp
          try simp only [List.getElem_toArray, List.getElem_cons_succ, List.getElem_cons_zero, Act.put, List.setIfInBounds_toArray, List.set_cons_zero, List.set_cons_succ]
          refine wpAnyH_take (i := 7) (v := .bool false) rfl (by kernel_rfl) (by kernel_rfl) (by kernel_rfl) (fun _ _ _ h => h) (Or.inl ⟨by rfl, ?_⟩) hHeld ?_
          · intro w' hSw; go_simp
          try simp only [List.getElem_toArray, List.getElem_cons_succ, List.getElem_cons_zero, Act.put, List.setIfInBounds_toArray, List.set_cons_zero, List.set_cons_succ]
          refine wpAnyH_take (i := 8) (v := .bool true) rfl (by kernel_rfl) (by kernel_rfl) (by kernel_rfl) (fun _ _ _ h => h) (Or.inl ⟨by rfl, ?_⟩) hHeld ?_
          · intro w' hSw; go_simp
          try simp only [List.getElem_toArray, List.getElem_cons_succ, List.getElem_cons_zero, Act.put, List.setIfInBounds_toArray, List.set_cons_zero, List.set_cons_succ]
          refine wpAnyH_take (i := 9) (v := .bool true) rfl (by kernel_rfl) (by kernel_rfl) (by kernel_rfl) (fun _ _ _ h => h) (Or.inl ⟨by rfl, ?_⟩) hHeld ?_
          · intro w' hSw; go_simp
          try simp only [List.getElem_toArray, List.getElem_cons_succ, List.getElem_cons_zero, Act.put, List.setIfInBounds_toArray, List.set_cons_zero, List.set_cons_succ]
          refine wpAnyH_take (i := 10) (v := undef) rfl (by kernel_rfl) (by kernel_rfl) (by kernel_rfl) (fun _ _ _ h => h) (Or.inr ⟨by rfl, rfl⟩) hHeld ?_
          try simp only [List.getElem_toArray, List.getElem_cons_succ, List.getElem_cons_zero, Act.put, List.setIfInBounds_toArray, List.set_cons_zero, List.set_cons_succ]
          refine wpAnyH_take (i := 12) (v := undef) rfl (by kernel_rfl) (by kernel_rfl) (by kernel_rfl) (fun _ _ _ h => h) (Or.inr ⟨by rfl, rfl⟩) hHeld ?_
          try simp only [List.getElem_toArray, List.getElem_cons_succ, List.getElem_cons_zero, Act.put, List.setIfInBounds_toArray, List.set_cons_zero, List.set_cons_succ]
          refine wpAnyH_take (i := 11) (v := undef) rfl (by kernel_rfl) (by kernel_rfl) (by kernel_rfl) (fun _ _ _ h => h) (Or.inr ⟨by rfl, rfl⟩) hHeld ?_
          try simp only [List.getElem_toArray, List.getElem_cons_succ, List.getElem_cons_zero, Act.put, List.setIfInBounds_toArray, List.set_cons_zero, List.set_cons_succ]
          refine wpAnyH_take (i := 13) (v := undef) rfl (by kernel_rfl) (by kernel_rfl) (by kernel_rfl) (fun _ _ _ h => h) (Or.inr ⟨by rfl, rfl⟩) hHeld ?_
          try simp only [List.getElem_toArray, List.getElem_cons_succ, List.getElem_cons_zero, Act.put, List.setIfInBounds_toArray, List.set_cons_zero, List.set_cons_succ]
          refine wpAnyH_take (i := 14) (v := undef) rfl (by kernel_rfl) (by kernel_rfl) (by kernel_rfl) (fun _ _ _ h => h) (Or.inr ⟨by rfl, rfl⟩) hHeld ?_
          try simp only [List.getElem_toArray, List.getElem_cons_succ, List.getElem_cons_zero, Act.put, List.setIfInBounds_toArray, List.set_cons_zero, List.set_cons_succ]
          refine wpAnyH_take (i := 15) (v := undef) rfl (by kernel_rfl) (by kernel_rfl) (by kernel_rfl) (fun _ _ _ h => h) (Or.inr ⟨by rfl, rfl⟩) hHeld ?_
          try simp only [List.getElem_toArray, List.getElem_cons_succ, List.getElem_cons_zero, Act.put, List.setIfInBounds_toArray, List.set_cons_zero, List.set_cons_succ]
          refine wpAnyH_take (i := 16) (v := undef) rfl (by kernel_rfl) (by kernel_rfl) (by kernel_rfl) (fun _ _ _ h => h) (Or.inr ⟨by rfl, rfl⟩) hHeld ?_
          try simp only [List.getElem_toArray, List.getElem_cons_succ, List.getElem_cons_zero, Act.put, List.setIfInBounds_toArray, List.set_cons_zero, List.set_cons_succ]
          refine wpAnyH_take (i := 17) (v := undef) rfl (by kernel_rfl) (by kernel_rfl) (by kernel_rfl) (fun _ _ _ h => h) (Or.inr ⟨by rfl, rfl⟩) hHeld ?_
          try simp only [List.getElem_toArray, List.getElem_cons_succ, List.getElem_cons_zero, Act.put, List.setIfInBounds_toArray, List.set_cons_zero, List.set_cons_succ]
          refine wpAnyH_take (i := 18) (v := undef) rfl (by kernel_rfl) (by kernel_rfl) (by kernel_rfl) (fun _ _ _ h => h) (Or.inr ⟨by rfl, rfl⟩) hHeld ?_
          try simp only [List.getElem_toArray, List.getElem_cons_succ, List.getElem_cons_zero, Act.put, List.setIfInBounds_toArray, List.set_cons_zero, List.set_cons_succ]
          refine wpAnyH_take (i := 19) (v := undef) rfl (by kernel_rfl) (by kernel_rfl) (by kernel_rfl) (fun _ _ _ h => h) (Or.inr ⟨by rfl, rfl⟩) hHeld ?_
          try simp only [List.getElem_toArray, List.getElem_cons_succ, List.getElem_cons_zero, Act.put, List.setIfInBounds_toArray, List.set_cons_zero, List.set_cons_succ]
          refine wpAnyH_take (i := 20) (v := .bool true) rfl (by kernel_rfl) (by kernel_rfl) (by kernel_rfl) (fun _ _ _ h => h) (Or.inl ⟨by rfl, ?_⟩) hHeld ?_
          · intro w' hSw; go_simp
          try simp only [List.getElem_toArray, List.getElem_cons_succ, List.getElem_cons_zero, Act.put, List.setIfInBounds_toArray, List.set_cons_zero, List.set_cons_succ]
          refine wpAnyH_take (i := 21) (v := .bool true) rfl (by kernel_rfl) (by kernel_rfl) (by kernel_rfl) (fun _ _ _ h => h) (Or.inl ⟨by rfl, ?_⟩) hHeld ?_
          · intro w' hSw; go_simp
          try simp only [List.getElem_toArray, List.getElem_cons_succ, List.getElem_cons_zero, Act.put, List.setIfInBounds_toArray, List.set_cons_zero, List.set_cons_succ]
          refine wpAnyH_take (i := 22) (v := .bool true) rfl (by kernel_rfl) (by kernel_rfl) (by kernel_rfl) (fun _ _ _ h => h) (Or.inl ⟨by rfl, ?_⟩) hHeld ?_
          · intro w' hSw; go_simp
          try simp only [List.getElem_toArray, List.getElem_cons_succ, List.getElem_cons_zero, Act.put, List.setIfInBounds_toArray, List.set_cons_zero, List.set_cons_succ]
          refine wpAnyH_done (by kernel_rfl) ?_ _
          go_wp2_with fail
          go_ret
          exact ⟨by simp, hHeld⟩
        · obtain ⟨rfl, hkb, hvb, rfl, hrI, htb⟩ := hR
          have z1 : kb = k := bs_inj hkb
          have z2 : kb1 = k := by
            refine bs_inj ?_
            rw [hk1, ← QQ.out]
            rfl
          have z3 : vb = vb1 := by
            refine bs_inj ?_
            rw [hvb, hv1]
          have hMQ : ∀ p ∈ Q.1.2.2, PrOk 1000000 p := by
            rw [← QQ.out]
            intro p hp
            obtain ⟨p0, hp0, rfl⟩ := List.mem_map.1 hp
            obtain ⟨a, b⟩ := H2.out.2.1 p0 hp0
            refine ⟨Nat.le_trans a (by omega), ?_⟩
            unfold qOf
            simp only
            split
            · have := valS_len pct p0.1 (p0.2.getD []) p0.2.isSome
              rw [Option.getD_some]
              omega
            · simp
          have hnQ : Q.1.2.2.length ≤ 10000 := by
            rw [← QQ.out]
            unfold madeMS
            simp only [List.length_map]
            exact hn
          have hvs : vb1.size ≤ 1000000 := by
            rw [← bs_length, hv1, ← QQ.out]
            have := valS_len pct (bs k) (bs v) true
            unfold valS at this
            rw [bs_length] at this
            unfold madeMS
            simp only [if_true] at this ⊢
            omega
          have htx : Aside (S (memStr ⟨bs k, bs vb1, [], Q.1.2.2⟩) = .string tb) := by
            show _ = _
            rw [S_bs tb, htb, hv1]
          clear hkb hvb htb hk1 hv1
          subst z1 z2 z3
          have hof := fun W (hW : Below w7.heap.size w7 W) => ofMember_any kb1 vb _ Q.1.2.2 W (hrI.below hW) (by omega)
          have hmt := fun W (hW : Below w7.heap.size w7 W) => memberText_any kb1 vb _ Q.1.2.2 W hk hvs (hrd57.below hW) hnQ hMQ
          rw [htx.out] at hmt
          have hb78 : Below w7.heap.size w7 w8.drew := hA8.drew
          clear htx hMQ hrd58
          go_wp2_with fail
          go_region_held3 (fun W => W.cell? ⟨w7.heap.size, 0, none⟩ = some (.string kb1) ∧ W.cell? ⟨w7.heap.size, 1, none⟩ = some (.string vb) ∧ W.cell? ⟨w7.heap.size, 2, none⟩ = some (.slice pA Q.1.2.2.length pc) ∧ W.cell? ⟨w4.heap.size, 0, none⟩ = some (.string kb1) ∧ W.cell? ⟨w4.heap.size, 1, none⟩ = some (.string vb) ∧ W.cell? ⟨w4.heap.size, 2, none⟩ = some (.slice pA1 Q.1.2.2.length pc1)) ((refine ⟨?_, ?_, ?_, ?_, ?_, ?_⟩ <;> (with_reducible assumption))) (first
            | (go_at_call 11; refine haw.mono ?_; intro e w9 hpost; obtain ⟨rfl, hb9⟩ := hpost
               have hu9 := (hb9.block _ (Array.getElem?_eq_some_iff.1 hu8).1).trans hu8
               have hq9 := (hb9.block _ (Array.getElem?_eq_some_iff.1 hq8).1).trans hq8
               obtain ⟨⟨g0, g1, g2⟩, _, _, _⟩ := row3 hu9
               obtain ⟨⟨i0, i1, i2⟩, _, _, _⟩ := row3 hq9
               have hb19 := below_then hb18.drew hb18.drew.size hb9
               have hb79 := below_then hb78 hb78.size hb9
               have hof9 := hof w9 hb79)
            | (go_at_call 20; refine hof9.mono ?_; intro e w10 hpost; obtain ⟨pv10, rfl, hrd10, hb10⟩ := hpost
               have hu10 := (hb10.block _ (Array.getElem?_eq_some_iff.1 hu9).1).trans hu9
               have hq10 := (hb10.block _ (Array.getElem?_eq_some_iff.1 hq9).1).trans hq9
               obtain ⟨⟨l0, l1, l2⟩, _, _, _⟩ := row3 hu10
               obtain ⟨⟨m0, m1, m2⟩, _, _, _⟩ := row3 hq10
               have hb110 := below_then hb19 hb19.size hb10
               have hb710 := below_then hb79 hb79.size hb10
               obtain ⟨A10, c10, rfl, _, _⟩ := hrd10.shape
               have hsm := sameMember_any kb1 vb kb1 vb A10 pA1 c10 pc1 Q.1.2.2 Q.1.2.2 w10 hrd10 (hrd57.below hb710) (by omega) (by omega)
               rw [decide_eq_true ⟨rfl, rfl, rfl⟩] at hsm)
            | (go_at_call 19; refine hsm.mono ?_; intro e w11 hpost; obtain ⟨rfl, hb11⟩ := hpost
               have hu11 := (hb11.block _ (Array.getElem?_eq_some_iff.1 hu10).1).trans hu10
               have hq11 := (hb11.block _ (Array.getElem?_eq_some_iff.1 hq10).1).trans hq10
               obtain ⟨⟨o0, o1, o2⟩, _, _, _⟩ := row3 hu11
               obtain ⟨⟨q0, q1, q2⟩, _, _, _⟩ := row3 hq11
               have hb111 := below_then hb110 hb110.size hb11
               have hb711 := below_then hb710 hb710.size hb11
               have hmt11 := hmt w11 hb711)
            | (go_at_call 21; refine hmt11.mono ?_; intro e w12 hpost; obtain ⟨rfl, hb12⟩ := hpost
               have hu12 := (hb12.block _ (Array.getElem?_eq_some_iff.1 hu11).1).trans hu11
               have hq12 := (hb12.block _ (Array.getElem?_eq_some_iff.1 hq11).1).trans hq11
               obtain ⟨⟨r0, r1, r2⟩, _, _, _⟩ := row3 hu12
               obtain ⟨⟨s0, s1, s2⟩, _, _, _⟩ := row3 hq12
               have hb112 := below_then hb111 hb111.size hb12))
          all_goals
            go_wp2_with fail
            go_ret
            exact ⟨by simp, hb112⟩
end Go.Proofs.YtleofgndghjflaaGreatDoor

set_option linter.unusedVariables false
set_option linter.unusedSimpArgs false
namespace Go.Proofs.YtleofgndghjflaaGreatDoor
open Go Go.RowKit Go.Deep

theorem Tryz.cells23 : Tryz.prog.cellsOf 23 = 3 := by kernel_rfl
theorem Tryz.cells28 : Tryz.prog.cellsOf 28 = 3 := by kernel_rfl
theorem Tryz.cells9 : Tryz.prog.cellsOf 9 = 1 := by kernel_rfl
theorem Tryz.cells4 : Tryz.prog.cellsOf 4 = 1 := by kernel_rfl
theorem Tryz.cells26 : Tryz.prog.cellsOf 26 = 1 := by kernel_rfl
theorem three_of {cs : List Value} (h : cs.length = 3) : ∃ a b c, cs = [a, b, c] := by
  match cs, h with
  | [a, b, c], _ => exact ⟨a, b, c, rfl⟩
variable {H : Type} {enc : TypeId × Value → H} {W : World}
/-- A property's three cells. -/
theorem open_prop {fuel : Nat} {cs : List Value} {x : DataW H × List MemPlace} (hf : DataW.trod enc Tryz.prog W 0 (fun _ => true) true fuel 23 cs = some x) : ∃ r : RP, cs = rcells r := by
  obtain ⟨y0, y1, y2, n, _, hl, h0, h1, h2⟩ := trod_struct3 Tryz.underlying23 hf
  rw [Tryz.cells23] at hl
  obtain ⟨a, b, c, rfl⟩ := three_of hl
  simp only [Tryz.cells9, Tryz.cells4, List.drop_zero, List.take_succ_cons, List.take_zero, List.drop_succ_cons] at h0 h1 h2
  obtain ⟨k, e0, _⟩ := DataW.trod_string Tryz.underlying9 h0
  obtain ⟨h, e1, _⟩ := DataW.trod_bool Tryz.underlying4 h1
  obtain ⟨v, e2, _⟩ := DataW.trod_string Tryz.underlying9 h2
  simp only [List.cons.injEq, and_true] at e0 e1 e2
  subst e0 e1 e2
  exact ⟨(k, h, v), rfl⟩
theorem choose_list {α : Type} {p : Nat → α → Prop} : ∀ n : Nat, (∀ i, i < n → ∃ a, p i a) → ∃ l : List α, l.length = n ∧ ∀ (i : Nat) a, l[i]? = some a → p i a
  | 0, _ => ⟨[], rfl, fun i a h => by simp at h⟩
  | n + 1, h => by
    obtain ⟨l, hl, hp⟩ := choose_list n (fun i hi => h i (by omega))
    obtain ⟨a, ha⟩ := h n (by omega)
    refine ⟨l ++ [a], by simp [hl], fun i b hb => ?_⟩
    rw [List.getElem?_append] at hb
    split at hb
    · exact hp i b hb
    · rename_i hi
      have : i = n := by
        have := (List.getElem?_eq_some_iff.1 hb).1
        simp at this
        omega
      subst this
      simp [hl] at hb
      rw [← hb]
      exact ha
theorem flat3_len {α : Type} (f : α → List Value) (h3 : ∀ p, (f p).length = 3) : ∀ l : List α, (l.flatMap f).length = l.length * 3
  | [] => rfl
  | x :: r => by rw [List.flatMap_cons, List.length_append, h3, flat3_len f h3 r, List.length_cons]; omega
theorem flat_at3 {α : Type} (f : α → List Value) (h3 : ∀ p, (f p).length = 3) (l : List α) (j : Nat) (u : Value) (h : (l.flatMap f)[j]? = some u) : ∃ x, l[j / 3]? = some x ∧ (f x)[j % 3]? = some u := by
  have hj := (List.getElem?_eq_some_iff.1 h).1
  rw [flat3_len f h3] at hj
  have h1 : j / 3 < l.length := by omega
  have h2 := fm3 f h3 l (j / 3) l[j / 3] (List.getElem?_eq_getElem h1) (j % 3) (Nat.mod_lt _ (by omega))
  rw [show j / 3 * 3 + j % 3 = j by omega, h] at h2
  exact ⟨_, List.getElem?_eq_getElem h1, h2.symm⟩
theorem plain_add (b o j : Nat) : (⟨b, o, none⟩ : Addr).add j = ⟨b, o + j, none⟩ := addr_add b o j

/-- A slice of structs of three cells each: its cells. -/
theorem open_three {α : Type} (f : α → List Value) (h3 : ∀ p, (f p).length = 3) {t e : TypeId} (ht : Tryz.prog.underlying t = some (.slice e)) (hce : Tryz.prog.cellsOf e = 3)
    (hel : ∀ (fuel : Nat) (cs : List Value) (x : DataW H × List MemPlace), DataW.trod enc Tryz.prog W 0 (fun _ => true) true fuel e cs = some x → ∃ r : α, cs = f r ∧ True)
    {fuel : Nat} {cs : List Value} {x : DataW H × List MemPlace} (hf : DataW.trod enc Tryz.prog W 0 (fun _ => true) true fuel t cs = some x) :
    ∃ A c, ∃ rs : List α, cs = [.slice A rs.length c] ∧ Rd false W e (.slice A rs.length c) rs.length 3 (rs.flatMap f) ∧ ∀ r ∈ rs, ∃ (fuel : Nat) (x : DataW H × List MemPlace), DataW.trod enc Tryz.prog W 0 (fun _ => true) true fuel e (f r) = some x := by
  rcases open_slice ht hf with ⟨rfl, _⟩ | ⟨a, len, cap, m, n, D, Pl, rfl, _, hl, hm, hmm, _, hx⟩
  · exact ⟨none, 0, [], rfl, Rd.nil _ _ _ _, fun r hr => by cases hr⟩
  · simp only [if_true] at hmm
    subst hmm
    rw [hce] at hx
    obtain ⟨rs, hrl, hrs⟩ := choose_list (p := fun i (r : α) => W.cells? 0 (a.add (i * 3)) 3 = some (f r) ∧ DataW.trod enc Tryz.prog W 0 (fun _ => true) true n e (f r) = some (D i, Pl i)) len (fun i hi => by
      obtain ⟨cs', h1, h2⟩ := hx i (by omega)
      obtain ⟨r, rfl, _⟩ := hel n cs' _ h2
      exact ⟨r, h1, h2⟩)
    subst hrl
    obtain ⟨b, o, spot⟩ := a
    refine ⟨some ⟨b, o, spot⟩, m, rs, rfl, ⟨_, m, rfl, hl, by unfold maxLen at hm; omega, flat3_len f h3 rs, ?_⟩, ?_⟩
    · by_cases h0 : rs.length = 0
      · exact .inl h0
      · right
        have hspot : spot = none := by
          obtain ⟨r, hr⟩ : ∃ r, rs[0]? = some r := ⟨_, List.getElem?_eq_getElem (by omega)⟩
          obtain ⟨_, _, hc⟩ := World.cells?_some (hrs 0 r hr).1
          have h1 := hc 0 (by omega)
          obtain ⟨v, hv⟩ : ∃ v, (f r)[0]? = some v := ⟨_, List.getElem?_eq_getElem (by rw [h3]; omega)⟩
          rw [hv] at h1
          simpa [Addr.add] using World.cell?_spot h1
        subst hspot
        refine ⟨b, o, rfl, fun j u hj => ?_, fun h => by cases h⟩
        obtain ⟨r, hr, hu⟩ := flat_at3 f h3 rs j u hj
        obtain ⟨_, _, hc⟩ := World.cells?_some (hrs _ r hr).1
        have h1 := hc (j % 3) (Nat.mod_lt _ (by omega))
        rw [hu, plain_add, plain_add] at h1
        have e : o + j / 3 * 3 + j % 3 = o + j := by omega
        rw [e] at h1
        exact h1
    · intro r hr
      obtain ⟨i, hi⟩ := List.mem_iff_getElem?.1 hr
      exact ⟨n, _, (hrs i r hi).2⟩
set_option maxRecDepth 100000 in
theorem open_props {fuel : Nat} {cs : List Value} {x : DataW H × List MemPlace} (hf : DataW.trod enc Tryz.prog W 0 (fun _ => true) true fuel 26 cs = some x) :
    ∃ A c, ∃ rs : List RP, cs = [.slice A rs.length c] ∧ Rd false W 23 (.slice A rs.length c) rs.length 3 (rs.flatMap rcells) := by
  have he : ∀ (fuel : Nat) (cs : List Value) (x : DataW H × List MemPlace), DataW.trod enc Tryz.prog W 0 (fun _ => true) true fuel 23 cs = some x → ∃ r : RP, cs = rcells r ∧ True := fun fuel cs x h => by
    obtain ⟨r, hr⟩ := open_prop h
    exact ⟨r, hr, trivial⟩
  obtain ⟨A, c, rs, h1, h2, _⟩ := open_three (enc := enc) (W := W) (α := RP) rcells rcells_len (t := 26) (e := 23) Tryz.underlying26 Tryz.cells23 he hf
  exact ⟨A, c, rs, h1, h2⟩
end Go.Proofs.YtleofgndghjflaaGreatDoor
