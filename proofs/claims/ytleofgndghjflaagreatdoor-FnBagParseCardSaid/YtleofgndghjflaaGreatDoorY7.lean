/- Contracts of the functions of this claim, proved once, joined out of smaller texts: Q0 Q1 Q2 Q3 Q4. -/
import Derived.Test.YtleofgndghjflaaGreatDoorY6
set_option linter.unusedVariables false
set_option linter.unusedSimpArgs false
namespace Go.Proofs.YtleofgndghjflaaGreatDoor
open Go Go.RowKit

set_option maxHeartbeats 1000000 in
set_option maxRecDepth 100000 in
theorem propertyText_any (k v : ByteArray) (h : Bool) (w : World) (hk : k.size ≤ 1000000) (hv : v.size ≤ 1000000) :
    Calls Tryz.prog 14 #[.agg #[.string k, .bool h, .string v]] w fun e w' => e = .returned (S (pstr (bs k, if h then some (bs v) else none))) ∧ Below w.heap.size w w' := by
  obtain ⟨R, hR⟩ : ∃ R, S (pstr (bs k, if h then some (bs v) else none)) = R := ⟨_, rfl⟩
  rw [hR]
  have A : Aside (S (pstr (bs k, if h then some (bs v) else none)) = R) := hR
  clear hR
  obtain ⟨w1, hw1⟩ : ∃ w1, w.alloc (.cells #[.string k, .bool h, .string v] 23) = w1 := ⟨_, rfl⟩
  have hb1 : Below w.heap.size w w1 := by rw [← hw1]; exact (Below.refl _ _).alloc (Nat.le_refl _) _
  have hp1 : w1.heap[w.heap.size]? = some (.cells #[.string k, .bool h, .string v] 23 (0, 0)) := by rw [← hw1]; exact heap_alloc_new _ _
  have hvk := token_any k w1 hk
  obtain ⟨ok, hok⟩ : ∃ ok, keyOk (bs k) = ok := ⟨_, rfl⟩
  rw [hok] at hvk
  have O : Aside (keyOk (bs k) = ok) := hok
  clear hok
  obtain ⟨⟨c0, c1, c2⟩, f0, f1, f2⟩ := row3 hp1
  go_enter Tryz.func14, Tryz.ntmps14
  go_wp2_with (go_at_fn 41; fail)
  refine hvk.mono ?_
  rintro e w2 ⟨rfl, rfl⟩
  clear hvk
  cases ok
  · go_wp2_with fail
    go_ret
    refine ⟨?_, hb1⟩
    rw [← A.out, pstr, O.out]
    rfl
  · cases h
    · go_wp2_with fail
      go_ret
      refine ⟨?_, hb1⟩
      rw [← A.out, pstr, O.out]
      show Ending.returned (.string k) = _
      rw [S_bs]
      rfl
    · obtain ⟨ev, hev⟩ : ∃ ev : ByteArray, S (enc (bs v)) = .string ev ∧ bs ev = enc (bs v) := ⟨⟨(enc (bs v)).toArray⟩, rfl, rfl⟩
      have hve := fun W => encoded_any v W hv
      rw [hev.1] at hve
      have E : Aside (bs ev = enc (bs v)) := hev.2
      clear hev
      have evz : ev.size ≤ 3000000 := by
        rw [← bs_length, E.out, enc_len, bs_length]
        have := cntE_le (bs v)
        rw [bs_length] at this
        omega
      have n1 : (9223372036854775807 < k.size + 1) = False := by rw [eq_iff_iff, iff_false]; omega
      have n2 : (9223372036854775807 < k.size + 1 + ev.size) = False := by rw [eq_iff_iff, iff_false]; omega
      go_wp2_with fail
      go_region_held3 (fun W => Below w.heap.size w W ∧ W.cell? ⟨w.heap.size, 0, none⟩ = some (.string k) ∧ W.cell? ⟨w.heap.size, 2, none⟩ = some (.string v)) ((first | exact ⟨hb1.drew, c0, c2⟩ | exact ⟨below_then hb1.drew hb1.drew.size hbel, cell_bel hbel c0, cell_bel hbel c2⟩)) (first | (go_at_call 42; refine (hve _).mono ?_; rintro e w' ⟨rfl, hbel⟩))
      all_goals
        go_wp2_with fail
        go_ret
        refine ⟨?_, below_then hb1.drew hb1.drew.size hbel⟩
        rw [← A.out, pstr, O.out]
        show Ending.returned (.string _) = _
        rw [S_bs]
        rw [bs_app, bs_app, E.out]
        simp [bs]

def MkPost (pct : Bool) (k v : ByteArray) (h : Bool) (w : World) (e : Ending) (w' : World) : Prop :=
  ∃ vb ok, e = .returned (.tuple #[.agg #[.string k, .bool h, .string vb], .bool ok]) ∧ bs vb = (if h then (madeP pct (bs k) (bs v)).1 else []) ∧ ok = (if h then (madeP pct (bs k) (bs v)).2 else (madeP false (bs k) []).2) ∧ Below w.heap.size w w'
set_option maxHeartbeats 1000000 in
set_option maxRecDepth 100000 in
theorem makePropertyS_any (pct : Bool) (k v : ByteArray) (h : Bool) (w : World) (hw : Laid w) (hk : k.size ≤ 1000000) (hv : v.size ≤ 1000000) :
    Calls Tryz.prog 12 #[.int .u8 (how pct), .agg #[.string k, .bool h, .string v]] w (MkPost pct k v h w) := by
  obtain ⟨w1, hw1⟩ : ∃ w1, (w.alloc (.cells #[.string k, .bool h, .string v] 23)).alloc (.cells #[.string ⟨#[]⟩, .bool false, .string ⟨#[]⟩] 23) = w1 := ⟨_, rfl⟩
  have hb1 : Below w.heap.size w w1 := by rw [← hw1]; exact ((Below.refl _ _).alloc (Nat.le_refl _) _).alloc (by simp) _
  have hp1 : w1.heap[w.heap.size]? = some (.cells #[.string k, .bool h, .string v] 23 (0, 0)) := by rw [← hw1]; exact row_alloc (heap_alloc_new _ _) _
  have hr1 : w1.heap[w.heap.size + 1]? = some (.cells #[.string ⟨#[]⟩, .bool false, .string ⟨#[]⟩] 23 (0, 0)) := by rw [← hw1]; exact heap_alloc_2 _ _ _
  obtain ⟨⟨c0, c1, c2⟩, f0, f1, f2⟩ := row3 hp1
  obtain ⟨i, hi⟩ : ∃ i, how pct = i := ⟨_, rfl⟩
  cases h
  · have hm := made_any false k ⟨#[]⟩ w1 (hw.below hb1) hk (by decide)
    obtain ⟨R, hR⟩ : ∃ R, madeP false (bs k) [] = R := ⟨_, rfl⟩
    rw [show bs ⟨#[]⟩ = [] from rfl, hR] at hm
    have A : Aside (madeP false (bs k) [] = R) := hR
    clear hR
    rw [hi]
    rw [show how false = 0 from rfl] at hm
    go_enter Tryz.func12, Tryz.ntmps12
    go_wp2_with (go_at_fn 37; fail)
    refine hm.mono ?_
    rintro e w2 ⟨rfl, hb2⟩
    have hp2 := (hb2.block _ (Array.getElem?_eq_some_iff.1 hp1).1).trans hp1
    have hr2 := (hb2.block _ (Array.getElem?_eq_some_iff.1 hr1).1).trans hr1
    have hb12 := below_then hb1 hb1.size hb2
    clear c0 c1 c2 f0 f1 f2 hm hw1
    obtain ⟨⟨c0, c1, c2⟩, f0, f1, f2⟩ := row3 hp2
    obtain ⟨⟨d0, d1, d2⟩, g0, g1, g2⟩ := row3 hr2
    go_wp2_with fail
    (try simp only [Exit.inBlock, Exit.then]); refine bodyPost_ret (ret_cell_tmp rfl rfl (row_set (row_set (row_set hr2 0 _) 1 _) 2 _) Tryz.underlying23 rfl (by kernel_rfl)) rfl ?_
    exact ⟨⟨#[]⟩, R.2, rfl, rfl, by rw [A.out]; rfl, ((hb12.setCell (by simp) _).setCell (by simp) _).setCell (by simp) _⟩
  · have hm := made_any pct k v w1 (hw.below hb1) hk hv
    obtain ⟨R, hR⟩ : ∃ R, madeP pct (bs k) (bs v) = R := ⟨_, rfl⟩
    rw [hR] at hm
    have A : Aside (madeP pct (bs k) (bs v) = R) := hR
    clear hR
    obtain ⟨vb, hvb⟩ : ∃ vb : ByteArray, S R.1 = .string vb ∧ bs vb = R.1 := ⟨⟨R.1.toArray⟩, rfl, rfl⟩
    unfold MadePost at hm
    rw [hvb.1] at hm
    have B : Aside (bs vb = R.1) := hvb.2
    clear hvb
    rw [hi] at hm ⊢
    clear hi
    go_enter Tryz.func12, Tryz.ntmps12
    go_wp2_with (go_at_fn 37; fail)
    refine hm.mono ?_
    rintro e w2 ⟨rfl, hb2⟩
    have hp2 := (hb2.block _ (Array.getElem?_eq_some_iff.1 hp1).1).trans hp1
    have hr2 := (hb2.block _ (Array.getElem?_eq_some_iff.1 hr1).1).trans hr1
    have hb12 := below_then hb1 hb1.size hb2
    clear c0 c1 c2 f0 f1 f2 hm hw1
    obtain ⟨⟨c0, c1, c2⟩, f0, f1, f2⟩ := row3 hp2
    obtain ⟨⟨d0, d1, d2⟩, g0, g1, g2⟩ := row3 hr2
    go_wp2_with fail
    (try simp only [Exit.inBlock, Exit.then]); refine bodyPost_ret (ret_cell_tmp rfl rfl (row_set (row_set (row_set hr2 0 _) 1 _) 2 _) Tryz.underlying23 rfl (by kernel_rfl)) rfl ?_
    exact ⟨vb, R.2, rfl, by rw [A.out]; exact B.out, by rw [A.out]; rfl, ((hb12.setCell (by simp) _).setCell (by simp) _).setCell (by simp) _⟩
end Go.Proofs.YtleofgndghjflaaGreatDoor

set_option linter.unusedVariables false
set_option linter.unusedSimpArgs false
namespace Go.Proofs.YtleofgndghjflaaGreatDoor
open Go Go.RowKit

def keyP (k : List UInt8) : Option Pr := if nameOk k then some (k, none) else none
def rawP (k v : List UInt8) : Option Pr := if nameOk k && Lib.validD v then some (k, some v) else none
def pctP (k v : List UInt8) : Option Pr := if keyOk k && v.all oct then (match unesc v with | none => none | some u => rawP k u) else none
def PropIs (R : Option Pr) (kb vb : ByteArray) (h : Bool) (er : Value) : Prop := match R with
  | some p => bs kb = p.1 ∧ bs vb = p.2.getD [] ∧ h = p.2.isSome ∧ er = .nilIface
  | none => kb = ⟨#[]⟩ ∧ vb = ⟨#[]⟩ ∧ h = false ∧ ∃ y, er = .iface 201 (.pointer (some y))
def NewPPost (R : Option Pr) (w : World) (e : Ending) (w' : World) : Prop :=
  ∃ kb vb h er, e = .returned (.tuple #[.agg #[.string kb, .string vb, .bool h], er]) ∧ PropIs R kb vb h er ∧ Below w.heap.size w w'
theorem Laid.err_lt {w : World} (hw : Laid w) (g : Nat) (hg : g = 0 ∨ g = 1 ∨ g = 2 ∨ g = 5 ∨ g = 6 ∨ g = 7) : g < w.heap.size := by
  obtain ⟨b, hb⟩ := hw.errs g hg
  exact lt_of_cell hb

set_option maxHeartbeats 1000000 in
set_option maxRecDepth 100000 in
theorem newKeyProperty_any (k : ByteArray) (w : World) (hw : Laid w) (hk : k.size ≤ 1000000) :
    Calls Tryz.prog 73 #[.string k] w (NewPPost (keyP (bs k)) w) := by
  obtain ⟨R, hR⟩ : ∃ R, keyP (bs k) = R := ⟨_, rfl⟩
  rw [hR]
  have A : Aside (keyP (bs k) = R) := hR
  clear hR
  obtain ⟨w1, hw1⟩ : ∃ w1, w.alloc (.cells #[.string ⟨#[]⟩, .string ⟨#[]⟩, .bool false] 86) = w1 := ⟨_, rfl⟩
  have hb1 : Below w.heap.size w w1 := by rw [← hw1]; exact (Below.refl _ _).alloc (Nat.le_refl _) _
  have hp1 : w1.heap[w.heap.size]? = some (.cells #[.string ⟨#[]⟩, .string ⟨#[]⟩, .bool false] 86 (0, 0)) := by rw [← hw1]; exact heap_alloc_new _ _
  have hn := validateBaggageName_any k w1 (hw.below hb1) (by omega)
  obtain ⟨ok, hok⟩ : ∃ ok, nameOk (bs k) = ok := ⟨_, rfl⟩
  rw [hok] at hn
  have O : Aside (nameOk (bs k) = ok) := hok
  clear hok
  go_enter Tryz.func73, Tryz.ntmps73
  go_wp2_with (go_at_fn 116; fail)
  refine hn.mono ?_
  rintro e w2 ⟨rfl, hb2⟩
  have hp2 := (hb2.block _ (Array.getElem?_eq_some_iff.1 hp1).1).trans hp1
  have hb12 := below_then hb1 hb1.size hb2
  clear hn hw1 hp1 hb1
  obtain ⟨⟨c0, c1, c2⟩, f0, f1, f2⟩ := row3 hp2
  have hlt : w.heap.size < w2.heap.size := (Array.getElem?_eq_some_iff.1 hp2).1
  cases ok
  · obtain ⟨a, ha⟩ := (hw.below hb12).errs 5 (by omega)
    have h5 := hw.err_lt 5 (by omega)
    have h5a : ¬ w.heap.size = 5 := by omega
    have h5b : ¬ 5 = w.heap.size := by omega
    go_wp2_with fail
    go_region_held3 (fun W => W.cell? ⟨5, 0, none⟩ = some (.iface 201 (.pointer (some a)))) ((simp (disch := (first | omega | (simp only [World.size_alloc, World.size_setCell, World.size_drew]; omega))) only [cellg_set, cellg_alloc, cellg_drew]; first | done | (with_reducible assumption))) (first | (go_at_call 117; refine (newInvalidProperty_any _).mono ?_; rintro e w' ⟨rfl, rfl⟩))
    all_goals
      go_wp2_with fail
      (try simp only [Exit.inBlock, Exit.then]); refine bodyPost_ret (ret_cell_tmp rfl rfl (row_drew (row_alloc (row_set (row_set (row_set hp2 0 _) 1 _) 2 _) _)) Tryz.underlying86 rfl (by kernel_rfl)) rfl ?_
      refine ⟨_, _, _, _, rfl, ?_, ((((hb12.setCell (Nat.le_refl _) _).setCell (Nat.le_refl _) _).setCell (Nat.le_refl _) _).alloc (by simp; omega) _).drew⟩
      rw [← A.out, keyP, O.out]
      exact ⟨rfl, rfl, rfl, _, rfl⟩
  · go_wp2_with fail
    (try simp only [Exit.inBlock, Exit.then]); refine bodyPost_ret (ret_cell_tmp rfl rfl (row_alloc (row_set (row_set (row_set hp2 0 _) 1 _) 2 _) _) Tryz.underlying86 rfl (by kernel_rfl)) rfl ?_
    refine ⟨_, _, _, _, rfl, ?_, ((((hb12.setCell (Nat.le_refl _) _).setCell (Nat.le_refl _) _).setCell (Nat.le_refl _) _).alloc (by simp; omega) _)⟩
    rw [← A.out, keyP, O.out]
    exact ⟨rfl, rfl, rfl, rfl⟩

set_option maxHeartbeats 1000000 in
set_option maxRecDepth 100000 in
theorem newRawProperty_any (k v : ByteArray) (w : World) (hw : Laid w) (hk : k.size ≤ 1000000) (hv : v.size ≤ 1000000) :
    Calls Tryz.prog 75 #[.string k, .string v] w (NewPPost (rawP (bs k) (bs v)) w) := by
  obtain ⟨R, hR⟩ : ∃ R, rawP (bs k) (bs v) = R := ⟨_, rfl⟩
  rw [hR]
  have A : Aside (rawP (bs k) (bs v) = R) := hR
  clear hR
  obtain ⟨w1, hw1⟩ : ∃ w1, w.alloc (.cells #[.string ⟨#[]⟩, .string ⟨#[]⟩, .bool false] 86) = w1 := ⟨_, rfl⟩
  have hb1 : Below w.heap.size w w1 := by rw [← hw1]; exact (Below.refl _ _).alloc (Nat.le_refl _) _
  have hp1 : w1.heap[w.heap.size]? = some (.cells #[.string ⟨#[]⟩, .string ⟨#[]⟩, .bool false] 86 (0, 0)) := by rw [← hw1]; exact heap_alloc_new _ _
  have hn := validateBaggageName_any k w1 (hw.below hb1) (by omega)
  obtain ⟨ok, hok⟩ : ∃ ok, nameOk (bs k) = ok := ⟨_, rfl⟩
  rw [hok] at hn
  obtain ⟨ov, hov⟩ : ∃ ov, Lib.validD (bs v) = ov := ⟨_, rfl⟩
  have O : Aside (nameOk (bs k) = ok ∧ Lib.validD (bs v) = ov) := ⟨hok, hov⟩
  clear hok
  go_enter Tryz.func75, Tryz.ntmps75
  go_wp2_with (go_at_fn 116; fail)
  refine hn.mono ?_
  rintro e w2 ⟨rfl, hb2⟩
  have hp2 := (hb2.block _ (Array.getElem?_eq_some_iff.1 hp1).1).trans hp1
  have hb12 := below_then hb1 hb1.size hb2
  clear hn hw1 hp1 hb1
  obtain ⟨⟨c0, c1, c2⟩, f0, f1, f2⟩ := row3 hp2
  have hlt : w.heap.size < w2.heap.size := (Array.getElem?_eq_some_iff.1 hp2).1
  cases ok
  · clear hov
    obtain ⟨a, ha⟩ := (hw.below hb12).errs 5 (by omega)
    have h5 := hw.err_lt 5 (by omega)
    have h5a : ¬ w.heap.size = 5 := by omega
    have h5b : ¬ 5 = w.heap.size := by omega
    go_wp2_with fail
    go_region_held3 (fun W => W.cell? ⟨5, 0, none⟩ = some (.iface 201 (.pointer (some a)))) ((simp (disch := (first | omega | (simp only [World.size_alloc, World.size_setCell, World.size_drew]; omega))) only [cellg_set, cellg_alloc, cellg_drew]; first | done | (with_reducible assumption))) (first | (go_at_call 117; refine (newInvalidProperty_any _).mono ?_; rintro e w' ⟨rfl, rfl⟩))
    all_goals
      go_wp2_with fail
      (try simp only [Exit.inBlock, Exit.then]); refine bodyPost_ret (ret_cell_tmp rfl rfl (row_drew (row_alloc (row_set (row_set (row_set hp2 0 _) 1 _) 2 _) _)) Tryz.underlying86 rfl (by kernel_rfl)) rfl ?_
      refine ⟨_, _, _, _, rfl, ?_, ((((hb12.setCell (Nat.le_refl _) _).setCell (Nat.le_refl _) _).setCell (Nat.le_refl _) _).alloc (by simp; omega) _).drew⟩
      rw [← A.out, rawP, O.out.1]
      exact ⟨rfl, rfl, rfl, _, rfl⟩
  · have hvv := validateBaggageValue_any v w2 (hw.below hb12) (by omega)
    rw [hov] at hvv
    clear hov
    go_wp2_with (go_at_fn 120; fail)
    refine hvv.mono ?_
    rintro e w3 ⟨rfl, hb3⟩
    have hp3 := (hb3.block _ (Array.getElem?_eq_some_iff.1 hp2).1).trans hp2
    have hb13 := below_then hb12 hb12.size hb3
    clear hvv hp2 hb12 c0 c1 c2 f0 f1 f2 hlt
    obtain ⟨⟨c0, c1, c2⟩, f0, f1, f2⟩ := row3 hp3
    have hlt : w.heap.size < w3.heap.size := (Array.getElem?_eq_some_iff.1 hp3).1
    cases ov
    · obtain ⟨a, ha⟩ := (hw.below hb13).errs 6 (by omega)
      have h5 := hw.err_lt 6 (by omega)
      have h5a : ¬ w.heap.size = 6 := by omega
      have h5b : ¬ 6 = w.heap.size := by omega
      go_wp2_with fail
      go_region_held3 (fun W => W.cell? ⟨6, 0, none⟩ = some (.iface 201 (.pointer (some a)))) ((simp (disch := (first | omega | (simp only [World.size_alloc, World.size_setCell, World.size_drew]; omega))) only [cellg_set, cellg_alloc, cellg_drew]; first | done | (with_reducible assumption))) (first | (go_at_call 117; refine (newInvalidProperty_any _).mono ?_; rintro e w' ⟨rfl, rfl⟩))
      all_goals
        go_wp2_with fail
        (try simp only [Exit.inBlock, Exit.then]); refine bodyPost_ret (ret_cell_tmp rfl rfl (row_drew (row_alloc (row_set (row_set (row_set hp3 0 _) 1 _) 2 _) _)) Tryz.underlying86 rfl (by kernel_rfl)) rfl ?_
        refine ⟨_, _, _, _, rfl, ?_, ((((hb13.setCell (Nat.le_refl _) _).setCell (Nat.le_refl _) _).setCell (Nat.le_refl _) _).alloc (by simp; omega) _).drew⟩
        rw [← A.out, rawP, O.out.1, O.out.2]
        exact ⟨rfl, rfl, rfl, _, rfl⟩
    · go_wp2_with fail
      (try simp only [Exit.inBlock, Exit.then]); refine bodyPost_ret (ret_cell_tmp rfl rfl (row_alloc (row_set (row_set (row_set hp3 0 _) 1 _) 2 _) _) Tryz.underlying86 rfl (by kernel_rfl)) rfl ?_
      refine ⟨_, _, _, _, rfl, ?_, ((((hb13.setCell (Nat.le_refl _) _).setCell (Nat.le_refl _) _).setCell (Nat.le_refl _) _).alloc (by simp; omega) _)⟩
      rw [← A.out, rawP, O.out.1, O.out.2]
      exact ⟨rfl, rfl, rfl, rfl⟩

set_option maxHeartbeats 1000000 in
set_option maxRecDepth 100000 in
theorem newPctProperty_any (k v : ByteArray) (w : World) (hw : Laid w) (hk : k.size ≤ 1000000) (hv : v.size ≤ 1000000) :
    Calls Tryz.prog 74 #[.string k, .string v] w (NewPPost (pctP (bs k) (bs v)) w) := by
  obtain ⟨R, hR⟩ : ∃ R, pctP (bs k) (bs v) = R := ⟨_, rfl⟩
  rw [hR]
  have A : Aside (pctP (bs k) (bs v) = R) := hR
  clear hR
  obtain ⟨w1, hw1⟩ : ∃ w1, w.alloc (.cells #[.string ⟨#[]⟩, .string ⟨#[]⟩, .bool false] 86) = w1 := ⟨_, rfl⟩
  have hb1 : Below w.heap.size w w1 := by rw [← hw1]; exact (Below.refl _ _).alloc (Nat.le_refl _) _
  have hp1 : w1.heap[w.heap.size]? = some (.cells #[.string ⟨#[]⟩, .string ⟨#[]⟩, .bool false] 86 (0, 0)) := by rw [← hw1]; exact heap_alloc_new _ _
  have hn := validateKey_any k w1 (hw.below hb1) hk
  obtain ⟨ok, hok⟩ : ∃ ok, keyOk (bs k) = ok := ⟨_, rfl⟩
  rw [hok] at hn
  obtain ⟨ov, hov⟩ : ∃ ov, (bs v).all oct = ov := ⟨_, rfl⟩
  have O : Aside (keyOk (bs k) = ok ∧ (bs v).all oct = ov) := ⟨hok, hov⟩
  clear hok
  go_enter Tryz.func74, Tryz.ntmps74
  go_wp2_with (go_at_fn 78; fail)
  refine hn.mono ?_
  rintro e w2 ⟨rfl, hb2⟩
  have hp2 := (hb2.block _ (Array.getElem?_eq_some_iff.1 hp1).1).trans hp1
  have hb12 := below_then hb1 hb1.size hb2
  clear hn hw1 hp1 hb1
  obtain ⟨⟨c0, c1, c2⟩, f0, f1, f2⟩ := row3 hp2
  have hlt : w.heap.size < w2.heap.size := (Array.getElem?_eq_some_iff.1 hp2).1
  cases ok
  · clear hov
    obtain ⟨a, ha⟩ := (hw.below hb12).errs 5 (by omega)
    have h5 := hw.err_lt 5 (by omega)
    have h5a : ¬ w.heap.size = 5 := by omega
    have h5b : ¬ 5 = w.heap.size := by omega
    go_wp2_with fail
    go_region_held3 (fun W => W.cell? ⟨5, 0, none⟩ = some (.iface 201 (.pointer (some a)))) ((simp (disch := (first | omega | (simp only [World.size_alloc, World.size_setCell, World.size_drew]; omega))) only [cellg_set, cellg_alloc, cellg_drew]; first | done | (with_reducible assumption))) (first | (go_at_call 117; refine (newInvalidProperty_any _).mono ?_; rintro e w' ⟨rfl, rfl⟩))
    all_goals
      go_wp2_with fail
      (try simp only [Exit.inBlock, Exit.then]); refine bodyPost_ret (ret_cell_tmp rfl rfl (row_drew (row_alloc (row_set (row_set (row_set hp2 0 _) 1 _) 2 _) _)) Tryz.underlying86 rfl (by kernel_rfl)) rfl ?_
      refine ⟨_, _, _, _, rfl, ?_, ((((hb12.setCell (Nat.le_refl _) _).setCell (Nat.le_refl _) _).setCell (Nat.le_refl _) _).alloc (by simp; omega) _).drew⟩
      rw [← A.out, pctP, O.out.1]
      exact ⟨rfl, rfl, rfl, _, rfl⟩
  · have hvv := validateValue_loop v w2 (hw.below hb12) hv
    rw [hov] at hvv
    clear hov
    go_wp2_with (go_at_fn 118; fail)
    refine hvv.mono ?_
    rintro e w3 ⟨rfl, hb3⟩
    have hp3 := (hb3.block _ (Array.getElem?_eq_some_iff.1 hp2).1).trans hp2
    have hb13 := below_then hb12 hb12.size hb3
    clear hvv hp2 hb12 c0 c1 c2 f0 f1 f2 hlt
    obtain ⟨⟨c0, c1, c2⟩, f0, f1, f2⟩ := row3 hp3
    have hlt : w.heap.size < w3.heap.size := (Array.getElem?_eq_some_iff.1 hp3).1
    cases ov
    · obtain ⟨a, ha⟩ := (hw.below hb13).errs 6 (by omega)
      have h5 := hw.err_lt 6 (by omega)
      have h5a : ¬ w.heap.size = 6 := by omega
      have h5b : ¬ 6 = w.heap.size := by omega
      go_wp2_with fail
      go_region_held3 (fun W => W.cell? ⟨6, 0, none⟩ = some (.iface 201 (.pointer (some a)))) ((simp (disch := (first | omega | (simp only [World.size_alloc, World.size_setCell, World.size_drew]; omega))) only [cellg_set, cellg_alloc, cellg_drew]; first | done | (with_reducible assumption))) (first | (go_at_call 117; refine (newInvalidProperty_any _).mono ?_; rintro e w' ⟨rfl, rfl⟩))
      all_goals
        go_wp2_with fail
        (try simp only [Exit.inBlock, Exit.then]); refine bodyPost_ret (ret_cell_tmp rfl rfl (row_drew (row_alloc (row_set (row_set (row_set hp3 0 _) 1 _) 2 _) _)) Tryz.underlying86 rfl (by kernel_rfl)) rfl ?_
        refine ⟨_, _, _, _, rfl, ?_, ((((hb13.setCell (Nat.le_refl _) _).setCell (Nat.le_refl _) _).setCell (Nat.le_refl _) _).alloc (by simp; omega) _).drew⟩
        rw [← A.out, pctP, O.out.1, O.out.2]
        exact ⟨rfl, rfl, rfl, _, rfl⟩
    · have hun := zzPathUnescape_any v w3 hv
      unfold UnescPost at hun
      go_wp2_with (go_at_fn 119; fail)
      refine hun.mono ?_
      rintro e w4 ⟨hb4, hres⟩
      have hp4 := (hb4.block _ (Array.getElem?_eq_some_iff.1 hp3).1).trans hp3
      have hb14 := below_then hb13 hb13.size hb4
      clear hun hp3 hb13 c0 c1 c2 f0 f1 f2 hlt
      obtain ⟨⟨c0, c1, c2⟩, f0, f1, f2⟩ := row3 hp4
      have hlt : w.heap.size < w4.heap.size := (Array.getElem?_eq_some_iff.1 hp4).1
      cases hu : unesc (bs v) with
      | none =>
        rw [hu] at hres
        obtain ⟨tt, aa, rfl⟩ := hres
        have U : Aside (unesc (bs v) = none) := hu
        clear hu
        obtain ⟨a, ha⟩ := (hw.below hb14).errs 6 (by omega)
        have h5 := hw.err_lt 6 (by omega)
        have h5a : ¬ w.heap.size = 6 := by omega
        have h5b : ¬ 6 = w.heap.size := by omega
        go_wp2_with fail
        go_region_held3 (fun W => W.cell? ⟨6, 0, none⟩ = some (.iface 201 (.pointer (some a)))) ((simp (disch := (first | omega | (simp only [World.size_alloc, World.size_setCell, World.size_drew]; omega))) only [cellg_set, cellg_alloc, cellg_drew]; first | done | (with_reducible assumption))) (first | (go_at_call 117; refine (newInvalidProperty_any _).mono ?_; rintro e w' ⟨rfl, rfl⟩))
        all_goals
          go_wp2_with fail
          (try simp only [Exit.inBlock, Exit.then]); refine bodyPost_ret (ret_cell_tmp rfl rfl (row_drew (row_alloc (row_set (row_set (row_set hp4 0 _) 1 _) 2 _) _)) Tryz.underlying86 rfl (by kernel_rfl)) rfl ?_
          refine ⟨_, _, _, _, rfl, ?_, ((((hb14.setCell (Nat.le_refl _) _).setCell (Nat.le_refl _) _).setCell (Nat.le_refl _) _).alloc (by simp; omega) _).drew⟩
          rw [← A.out, pctP, O.out.1, O.out.2, U.out]
          exact ⟨rfl, rfl, rfl, _, rfl⟩
      | some u =>
        rw [hu] at hres
        subst hres
        obtain ⟨ub, hub⟩ : ∃ ub : ByteArray, S u = .string ub ∧ bs ub = u := ⟨⟨u.toArray⟩, rfl, rfl⟩
        have hul : ub.size ≤ 1000000 := by
          have := unesc_le hu
          rw [bs_length] at this
          rw [← bs_length, hub.2]
          omega
        rw [hub.1]
        have hraw := newRawProperty_any k ub w4 (hw.below hb14) hk hul
        rw [hub.2] at hraw
        have U : Aside (R = rawP (bs k) u) := by show _ = _; rw [← A.out, pctP, O.out.1, O.out.2, hu]; rfl
        clear hu hub
        go_wp2_with (go_at_fn 75; fail)
        refine hraw.mono ?_
        intro e w5 hpost
        obtain ⟨kb, vb, h, er, rfl, hpi, hb5⟩ := hpost
        have hp5 := (hb5.block _ (Array.getElem?_eq_some_iff.1 hp4).1).trans hp4
        have hb15 := below_then hb14 hb14.size hb5
        clear hp4 hb14 c0 c1 c2 f0 f1 f2 hlt hraw
        obtain ⟨⟨c0, c1, c2⟩, f0, f1, f2⟩ := row3 hp5
        go_wp2_with fail
        (try simp only [Exit.inBlock, Exit.then]); refine bodyPost_ret (ret_cell_tmp rfl rfl (row_set (row_set (row_set hp5 0 _) 1 _) 2 _) Tryz.underlying86 rfl (by kernel_rfl)) rfl ?_
        exact ⟨kb, vb, h, er, rfl, by rw [U.out]; exact hpi, ((hb15.setCell (Nat.le_refl _) _).setCell (Nat.le_refl _) _).setCell (Nat.le_refl _) _⟩
end Go.Proofs.YtleofgndghjflaaGreatDoor

set_option linter.unusedVariables false
set_option linter.unusedSimpArgs false
namespace Go.Proofs.YtleofgndghjflaaGreatDoor
open Go Go.RowKit

theorem ret_cell_tmp2 {P : Program} {fn : Func} {p u v : Tmp} {ty : TypeId} {tmps : Array Value} {W : World} {g : Nat} {t : TypeId} {cs : Array Value} {fr : Nat × Nat} {d : TypeDesc} (h : fn.results = #[.cell p ty, .tmp u, .tmp v])
    (hp : tmps.getD p undef = .pointer (some ⟨g, 0, none⟩)) (hg : W.heap[g]? = some (.cells cs t fr)) (hu : P.underlying ty = some d) (hd : (match d with | .struct _ | .array _ _ => true | _ => false) = true) (hi : (P.info? ty).map (·.size) = some cs.size) :
    (results fn tmps).run P W = .ok (.tuple #[.agg cs, tmps.getD u undef, tmps.getD v undef]) W := by
  have hp' : tmps[p]?.getD undef = .pointer (some ⟨g, 0, none⟩) := by simpa using hp
  simp [results, h, hp', asAddr, Result.andThen, run_loadVar_row W g t ty cs fr d hg hu hd hi]

/-- A property as impl makes it. -/
def madeI (pct : Bool) (k v : List UInt8) (h : Bool) : Option Pr := if h then (if pct then pctP k v else rawP k v) else keyP k

set_option maxHeartbeats 1000000 in
set_option maxRecDepth 100000 in
theorem propertyMade_any (pct : Bool) (k v : ByteArray) (h : Bool) (w : World) (hw : Laid w) (hk : k.size ≤ 1000000) (hv : v.size ≤ 1000000) :
    Calls Tryz.prog 38 #[.int .u8 (how pct), .agg #[.string k, .bool h, .string v]] w (NewPPost (madeI pct (bs k) (bs v) h) w) := by
  obtain ⟨w1, hw1⟩ : ∃ w1, (w.alloc (.cells #[.string k, .bool h, .string v] 32)).alloc (.cells #[.string ⟨#[]⟩, .string ⟨#[]⟩, .bool false] 86) = w1 := ⟨_, rfl⟩
  have hb1 : Below w.heap.size w w1 := by rw [← hw1]; exact ((Below.refl _ _).alloc (Nat.le_refl _) _).alloc (by simp) _
  have hp1 : w1.heap[w.heap.size]? = some (.cells #[.string k, .bool h, .string v] 32 (0, 0)) := by rw [← hw1]; exact row_alloc (heap_alloc_new _ _) _
  have hr1 : w1.heap[w.heap.size + 1]? = some (.cells #[.string ⟨#[]⟩, .string ⟨#[]⟩, .bool false] 86 (0, 0)) := by rw [← hw1]; exact heap_alloc_2 _ _ _
  obtain ⟨⟨c0, c1, c2⟩, f0, f1, f2⟩ := row3 hp1
  cases h
  · have hm := newKeyProperty_any k w1 (hw.below hb1) hk
    obtain ⟨R, hR⟩ : ∃ R, keyP (bs k) = R := ⟨_, rfl⟩
    have e : madeI pct (bs k) (bs v) false = R := hR
    rw [e]
    rw [hR] at hm
    clear hR e
    obtain ⟨i, hi⟩ : ∃ i, how pct = i := ⟨_, rfl⟩
    rw [hi]
    clear hi
    go_enter Tryz.func38, Tryz.ntmps38
    go_wp2_with (go_at_fn 73; fail)
    refine hm.mono ?_
    intro e w2 hpost
    obtain ⟨kb, vb, h', er, rfl, hpi, hb2⟩ := hpost
    have hr2 := (hb2.block _ (Array.getElem?_eq_some_iff.1 hr1).1).trans hr1
    have hb12 := below_then hb1 hb1.size hb2
    clear c0 c1 c2 f0 f1 f2 hm hw1
    obtain ⟨⟨d0, d1, d2⟩, g0, g1, g2⟩ := row3 hr2
    go_wp2_with fail
    (try simp only [Exit.inBlock, Exit.then]); refine bodyPost_ret (ret_cell_tmp rfl rfl (row_set (row_set (row_set hr2 0 _) 1 _) 2 _) Tryz.underlying86 rfl (by kernel_rfl)) rfl ?_
    exact ⟨kb, vb, h', er, rfl, hpi, ((hb12.setCell (by simp) _).setCell (by simp) _).setCell (by simp) _⟩
  · cases pct
    · have hm := newRawProperty_any k v w1 (hw.below hb1) hk hv
      obtain ⟨R, hR⟩ : ∃ R, rawP (bs k) (bs v) = R := ⟨_, rfl⟩
      have e : madeI false (bs k) (bs v) true = R := hR
      rw [e]
      rw [hR] at hm
      clear hR e
      rw [show how false = 0 from rfl]
      go_enter Tryz.func38, Tryz.ntmps38
      go_wp2_with (go_at_fn 75; fail)
      refine hm.mono ?_
      intro e w2 hpost
      obtain ⟨kb, vb, h', er, rfl, hpi, hb2⟩ := hpost
      have hr2 := (hb2.block _ (Array.getElem?_eq_some_iff.1 hr1).1).trans hr1
      have hb12 := below_then hb1 hb1.size hb2
      clear c0 c1 c2 f0 f1 f2 hm hw1
      obtain ⟨⟨d0, d1, d2⟩, g0, g1, g2⟩ := row3 hr2
      go_wp2_with fail
      (try simp only [Exit.inBlock, Exit.then]); refine bodyPost_ret (ret_cell_tmp rfl rfl (row_set (row_set (row_set hr2 0 _) 1 _) 2 _) Tryz.underlying86 rfl (by kernel_rfl)) rfl ?_
      exact ⟨kb, vb, h', er, rfl, hpi, ((hb12.setCell (by simp) _).setCell (by simp) _).setCell (by simp) _⟩
    · have hm := newPctProperty_any k v w1 (hw.below hb1) hk hv
      obtain ⟨R, hR⟩ : ∃ R, pctP (bs k) (bs v) = R := ⟨_, rfl⟩
      have e : madeI true (bs k) (bs v) true = R := hR
      rw [e]
      rw [hR] at hm
      clear hR e
      rw [show how true = 1 from rfl]
      go_enter Tryz.func38, Tryz.ntmps38
      go_wp2_with (go_at_fn 74; fail)
      refine hm.mono ?_
      intro e w2 hpost
      obtain ⟨kb, vb, h', er, rfl, hpi, hb2⟩ := hpost
      have hr2 := (hb2.block _ (Array.getElem?_eq_some_iff.1 hr1).1).trans hr1
      have hb12 := below_then hb1 hb1.size hb2
      clear c0 c1 c2 f0 f1 f2 hm hw1
      obtain ⟨⟨d0, d1, d2⟩, g0, g1, g2⟩ := row3 hr2
      go_wp2_with fail
      (try simp only [Exit.inBlock, Exit.then]); refine bodyPost_ret (ret_cell_tmp rfl rfl (row_set (row_set (row_set hr2 0 _) 1 _) 2 _) Tryz.underlying86 rfl (by kernel_rfl)) rfl ?_
      exact ⟨kb, vb, h', er, rfl, hpi, ((hb12.setCell (by simp) _).setCell (by simp) _).setCell (by simp) _⟩

/-- impl.MakeProperty: the property as data, its text, and whether it was made. -/
def MakeIPost (R : Option Pr) (w : World) (e : Ending) (w' : World) : Prop :=
  ∃ kb vb h tb ok, e = .returned (.tuple #[.agg #[.string kb, .bool h, .string vb], .string tb, .bool ok]) ∧ Below w.heap.size w w' ∧ match R with
    | some p => ok = true ∧ bs kb = p.1 ∧ bs vb = p.2.getD [] ∧ h = p.2.isSome ∧ bs tb = pstr p
    | none => ok = false
theorem madeI_len (pct : Bool) (k v : List UInt8) (h : Bool) (p : Pr) (hp : madeI pct k v h = some p) : p.1 = k ∧ (p.2.getD []).length ≤ v.length := by
  unfold madeI at hp
  split at hp
  · split at hp
    · unfold pctP at hp
      split at hp
      · split at hp
        · cases hp
        · rename_i u hu
          unfold rawP at hp
          split at hp
          · injection hp with hp
            rw [← hp]
            exact ⟨rfl, unesc_le hu⟩
          · cases hp
      · cases hp
    · unfold rawP at hp
      split at hp
      · injection hp with hp
        rw [← hp]
        exact ⟨rfl, Nat.le_refl _⟩
      · cases hp
  · unfold keyP at hp
    split at hp
    · injection hp with hp
      rw [← hp]
      exact ⟨rfl, by simp⟩
    · cases hp

set_option maxHeartbeats 1000000 in
set_option maxRecDepth 100000 in
theorem makePropertyI_any (pct : Bool) (k v : ByteArray) (h : Bool) (w : World) (hw : Laid w) (hk : k.size ≤ 1000000) (hv : v.size ≤ 1000000) :
    Calls Tryz.prog 13 #[.int .u8 (how pct), .agg #[.string k, .bool h, .string v]] w (MakeIPost (madeI pct (bs k) (bs v) h) w) := by
  obtain ⟨w1, hw1⟩ : ∃ w1, (w.alloc (.cells #[.string k, .bool h, .string v] 32)).alloc (.cells #[.string ⟨#[]⟩, .bool false, .string ⟨#[]⟩] 32) = w1 := ⟨_, rfl⟩
  have hb1 : Below w.heap.size w w1 := by rw [← hw1]; exact ((Below.refl _ _).alloc (Nat.le_refl _) _).alloc (by simp) _
  have hp1 : w1.heap[w.heap.size]? = some (.cells #[.string k, .bool h, .string v] 32 (0, 0)) := by rw [← hw1]; exact row_alloc (heap_alloc_new _ _) _
  have hr1 : w1.heap[w.heap.size + 1]? = some (.cells #[.string ⟨#[]⟩, .bool false, .string ⟨#[]⟩] 32 (0, 0)) := by rw [← hw1]; exact heap_alloc_2 _ _ _
  obtain ⟨⟨c0, c1, c2⟩, f0, f1, f2⟩ := row3 hp1
  have hm := propertyMade_any pct k v h w1 (hw.below hb1) hk hv
  obtain ⟨R, hR⟩ : ∃ R, madeI pct (bs k) (bs v) h = R := ⟨_, rfl⟩
  have hlen := fun p => madeI_len pct (bs k) (bs v) h p
  rw [hR] at hm hlen ⊢
  clear hR
  rw [bs_length] at hlen
  obtain ⟨i, hi⟩ : ∃ i, how pct = i := ⟨_, rfl⟩
  rw [hi] at hm ⊢
  clear hi
  go_enter Tryz.func13, Tryz.ntmps13
  go_wp2_with (go_at_fn 38; fail)
  refine hm.mono ?_
  intro e w2 hpost
  obtain ⟨kb, vb, h', er, rfl, hpi, hb2⟩ := hpost
  have hr2 := (hb2.block _ (Array.getElem?_eq_some_iff.1 hr1).1).trans hr1
  have hb12 := below_then hb1 hb1.size hb2
  clear c0 c1 c2 f0 f1 f2 hm hw1
  obtain ⟨⟨d0, d1, d2⟩, g0, g1, g2⟩ := row3 hr2
  cases R with
  | none =>
    obtain ⟨rfl, rfl, rfl, y, rfl⟩ := hpi
    obtain ⟨⟨e0, e1, e2⟩, k0, k1, k2⟩ := row3 (row_alloc hr2 (.cells #[.string ⟨#[]⟩, .string ⟨#[]⟩, .bool false] 86))
    go_wp2_with fail
    (try simp only [Exit.inBlock, Exit.then]); refine bodyPost_ret (ret_cell_tmp2 rfl rfl (row_set (row_set (row_set (row_alloc hr2 _) 0 _) 1 _) 2 _) Tryz.underlying32 rfl (by kernel_rfl)) rfl ?_
    exact ⟨_, _, _, _, _, rfl, (((hb12.alloc hb12.size _).setCell (by simp) _).setCell (by simp) _).setCell (by simp) _, rfl⟩
  | some p =>
    obtain ⟨hk1, hv1, hh1, rfl⟩ := hpi
    obtain ⟨hl1, hl2⟩ := hlen p rfl
    have hks : kb.size ≤ 1000000 := by rw [← bs_length, hk1, hl1, bs_length]; exact hk
    have hvs : vb.size ≤ 1000000 := by rw [← bs_length, hv1]; omega
    have hpp : Aside (p = (bs kb, if h' then some (bs vb) else none) ∧ bs kb = p.1 ∧ bs vb = p.2.getD [] ∧ h' = p.2.isSome) := by
      refine ⟨?_, hk1, hv1, hh1⟩
      obtain ⟨p1, p2⟩ := p
      cases p2 <;> simp_all
    clear hk1 hv1 hh1 hl1 hl2 hlen
    have hlt : w.heap.size + 1 < w2.heap.size := (Array.getElem?_eq_some_iff.1 hr2).1
    have hb3 : Below w2.heap.size w2 (w2.alloc (.cells #[.string kb, .string vb, .bool h'] 86)) := (Below.refl _ _).alloc (Nat.le_refl _) _
    obtain ⟨w3, hw3⟩ : ∃ w3, w2.alloc (.cells #[.string kb, .string vb, .bool h'] 86) = w3 := ⟨_, rfl⟩
    have hq3 : w3.heap[w2.heap.size]? = some (.cells #[.string kb, .string vb, .bool h'] 86 (0, 0)) := by rw [← hw3]; exact heap_alloc_new _ _
    rw [hw3] at hb3
    have hr3 := (hb3.block _ (Array.getElem?_eq_some_iff.1 hr2).1).trans hr2
    have hb13 := below_then hb12 hb12.size hb3
    obtain ⟨⟨x0, x1, x2⟩, _, _, _⟩ := row3 hq3
    obtain ⟨⟨y0, y1, y2⟩, _, _, _⟩ := row3 (row_drew hq3)
    have hpo := propertyOf_any kb vb h' w3.drew
    obtain ⟨tb, htb⟩ : ∃ tb : ByteArray, S (pstr (bs kb, if h' then some (bs vb) else none)) = .string tb ∧ bs tb = pstr (bs kb, if h' then some (bs vb) else none) := ⟨⟨(pstr (bs kb, if h' then some (bs vb) else none)).toArray⟩, rfl, rfl⟩
    have hstr := fun W (hW : Laid W) => propertyString_any kb vb h' W hW hks hvs
    rw [htb.1] at hstr
    have TB : Aside (bs tb = pstr (bs kb, if h' then some (bs vb) else none)) := htb.2
    clear htb
    go_wp2_with fail
    go_region_held3 (fun W => W.cell? ⟨w2.heap.size, 0, none⟩ = some (.string kb) ∧ W.cell? ⟨w2.heap.size, 1, none⟩ = some (.string vb) ∧ W.cell? ⟨w2.heap.size, 2, none⟩ = some (.bool h')) ((refine ⟨?_, ?_, ?_⟩ <;> (first | (with_reducible assumption) | (simp (disch := (first | omega | (simp only [World.size_alloc, World.size_setCell, World.size_drew]; omega))) only [cellg_set, cellg_alloc, cellg_drew]; first | done | (with_reducible assumption))))) (first
      | (go_at_call 39; refine hpo.mono ?_; intro e w5 hpost; obtain ⟨rfl, hbe5⟩ := hpost
         have hq5 := (hbe5.block _ (Array.getElem?_eq_some_iff.1 (row_drew hq3)).1).trans (row_drew hq3)
         have hr5 := (hbe5.block _ (Array.getElem?_eq_some_iff.1 (row_drew hr3)).1).trans (row_drew hr3)
         obtain ⟨⟨z0, z1, z2⟩, _, _, _⟩ := row3 hq5
         have hb5 := below_then hb13.drew hb13.drew.size hbe5
         have hst := hstr w5 (hw.below hb5))
      | (go_at_call 40; refine hst.mono ?_; intro e w6 hpost; obtain ⟨rfl, hbe6⟩ := hpost
         have hq6 := (hbe6.block _ (Array.getElem?_eq_some_iff.1 hq5).1).trans hq5
         have hr6 := (hbe6.block _ (Array.getElem?_eq_some_iff.1 hr5).1).trans hr5
         obtain ⟨⟨u0, u1, u2⟩, _, _, _⟩ := row3 hq6
         obtain ⟨⟨d60, d61, d62⟩, g60, g61, g62⟩ := row3 hr6
         have hlt6 := (Array.getElem?_eq_some_iff.1 hq6).1
         have hne6 : ¬ w2.heap.size = w.heap.size + 1 := by omega
         have hne7 : ¬ w.heap.size + 1 = w2.heap.size := by omega
         have hb6 := below_then hb5 hb5.size hbe6))
    all_goals
      go_wp2_with fail
      (try simp only [Exit.inBlock, Exit.then]); refine bodyPost_ret (ret_cell_tmp2 rfl rfl (row_set (row_set (row_set hr6 0 _) 1 _) 2 _) Tryz.underlying32 rfl (by kernel_rfl)) rfl ?_
      refine ⟨kb, vb, h', tb, true, rfl, ((hb6.setCell (by simp) _).setCell (by simp) _).setCell (by simp) _, rfl, hpp.out.2.1, hpp.out.2.2.1, hpp.out.2.2.2, ?_⟩
      rw [TB.out, ← hpp.out.1]
end Go.Proofs.YtleofgndghjflaaGreatDoor

set_option linter.unusedVariables false
set_option linter.unusedSimpArgs false
namespace Go.Proofs.YtleofgndghjflaaGreatDoor
open Go Go.RowKit

/-- A property as it came in. -/
abbrev RP := ByteArray × Bool × ByteArray
def rcells (p : RP) : List Value := [.string p.1, .bool p.2.1, .string p.2.2]
theorem rcells_len (p : RP) : (rcells p).length = 3 := rfl
/-- A member as it came in. -/
abbrev RM := ByteArray × ByteArray × List RP
def fits4 (p : RP) : Bool := decide (p.1.size ≤ 2147483647) && decide (p.2.2.size ≤ 2147483647)
theorem zzFits4_any (k v : ByteArray) (h : Bool) (w : World) : Calls Tryz.prog 9 #[.agg #[.string k, .bool h, .string v]] w (BoolPost (fits4 (k, h, v)) w) := by
  have hb : Below w.heap.size w (w.alloc (.cells #[.string k, .bool h, .string v] 23)) := (Below.refl _ _).alloc (Nat.le_refl _) _
  obtain ⟨r, hr⟩ : ∃ r, fits4 (k, h, v) = r := ⟨_, rfl⟩
  rw [hr]
  have R : Aside (fits4 (k, h, v) = r) := hr
  clear hr
  go_enter Tryz.func9, Tryz.ntmps9
  go_wp2_with fail
  all_goals
    go_ret
    refine ⟨ret_bool ?_, hb⟩
    rw [← R.out]
    simp [fits4]
    try omega

def rightP (p : RP) : Bool := decide (p.1.size ≤ 200) && decide (p.2.2.size ≤ 200) && (p.2.1 || decide (p.2.2.size = 0))
def rightM (m : RM) : Bool := decide (m.1.size ≤ 200) && decide (m.2.1.size ≤ 200) && decide (m.2.2.length ≤ 8) && m.2.2.all rightP
def right (l : List RM) : Bool := decide (l.length ≤ 40) && l.all rightM
def RMR (ty : Bool) (w : World) (cs : List Value) (x : RM) : Prop := ∃ pv, cs = [.string x.1, .string x.2.1, pv] ∧ Rd ty w 23 pv x.2.2.length 3 (x.2.2.flatMap rcells)
def RMRs (ty ty2 : Bool) (w : World) (v : Value) (xs : List RM) : Prop := ∃ css : List (List Value), Rd ty w 28 v xs.length 3 css.flatten ∧ All2 (RMR ty2 w) css xs
theorem RMR.below {ty : Bool} {w w' : World} {cs : List Value} {x : RM} (h : RMR ty w cs x) (hb : Below w.heap.size w w') : RMR ty w' cs x := by
  obtain ⟨pv, h1, h2⟩ := h
  exact ⟨pv, h1, h2.below hb⟩
theorem RMR.len {ty : Bool} {w : World} {cs : List Value} {x : RM} (h : RMR ty w cs x) : cs.length = 3 := by
  obtain ⟨pv, rfl, _⟩ := h
  rfl
theorem RMRs.below {ty ty2 : Bool} {w w' : World} {v : Value} {xs : List RM} (h : RMRs ty ty2 w v xs) (hb : Below w.heap.size w w') : RMRs ty ty2 w' v xs := by
  obtain ⟨css, h1, h2⟩ := h
  exact ⟨css, h1.below hb, h2.imp (fun _ _ h => RMR.below h hb)⟩
theorem RMRs.shape {ty ty2 : Bool} {w : World} {v : Value} {xs : List RM} (h : RMRs ty ty2 w v xs) : ∃ A c, v = .slice A xs.length c ∧ xs.length ≤ c ∧ c ≤ 9223372036854775807 := by
  obtain ⟨css, h1, _⟩ := h
  exact h1.shape
theorem RMRs.get {ty ty2 : Bool} {w : World} {A : Option Addr} {c : Nat} {xs : List RM} (h : RMRs ty ty2 w (.slice A xs.length c) xs) (k : Nat) (hk : k < xs.length) (x : RM) (hx : xs[k] = x) :
    ∃ bk o pA pc, A = some ⟨bk, o, none⟩ ∧ w.cell? ⟨bk, o + k * 3, none⟩ = some (.string x.1) ∧ w.cell? ⟨bk, o + k * 3 + 1, none⟩ = some (.string x.2.1) ∧ w.cell? ⟨bk, o + k * 3 + 2, none⟩ = some (.slice pA x.2.2.length pc) ∧
      Rd ty2 w 23 (.slice pA x.2.2.length pc) x.2.2.length 3 (x.2.2.flatMap rcells) := by
  obtain ⟨css, hrd, hall⟩ := h
  have hxk : xs[k]? = some x := by rw [List.getElem?_eq_getElem hk, hx]
  obtain ⟨cs, hcsk, hcs⟩ := All2.get k x hall hxk
  have hat := flat_get 3 css k cs (fun c hc => by obtain ⟨_, _, h⟩ := All2.mem hall c hc; exact h.len) hcsk
  obtain ⟨bk, o, c', he, _, _, _⟩ := hrd.cells (by omega)
  injection he with he1 he2 he3
  subst he1 he3
  obtain ⟨pv, rfl, h3⟩ := hcs
  obtain ⟨PA, pc, rfl, _, _⟩ := h3.shape
  exact ⟨bk, o, PA, pc, rfl, hrd.at' rfl (by have := hat 0 (by omega); simpa using this), hrd.at' (j := k * 3 + 1) (by omega) (by have := hat 1 (by omega); simpa using this), hrd.at' (j := k * 3 + 2) (by omega) (by have := hat 2 (by omega); simpa using this), h3⟩
theorem rd_atR {ty : Bool} {w : World} {T : TypeId} {b o n c : Nat} {ps : List RP} (h : Rd ty w T (.slice (some ⟨b, o, none⟩) n c) n 3 (ps.flatMap rcells)) (k : Nat) (p : RP) (hp : ps[k]? = some p) :
    w.cell? ⟨b, o + k * 3, none⟩ = some (.string p.1) ∧ w.cell? ⟨b, o + k * 3 + 1, none⟩ = some (.bool p.2.1) ∧ w.cell? ⟨b, o + k * 3 + 2, none⟩ = some (.string p.2.2) := by
  have hat := fun j hj => fm3 rcells rcells_len ps k p hp j hj
  exact ⟨h.at' rfl (by have := hat 0 (by omega); simpa [rcells] using this), h.at' (j := k * 3 + 1) (by omega) (by have := hat 1 (by omega); simpa [rcells] using this), h.at' (j := k * 3 + 2) (by omega) (by have := hat 2 (by omega); simpa [rcells] using this)⟩

theorem empty_size (s : ByteArray) : s.toList.isEmpty = decide (s.size = 0) := by
  rw [toList_empty, ← bs_length]
  cases h : bs s <;> simp

set_option maxHeartbeats 4000000 in
set_option maxRecDepth 100000 in
theorem bagRight_any {ty ty2 : Bool} (v : Value) (xs : List RM) (w : World) (h : RMRs ty ty2 w v xs) : Calls Tryz.prog 10 #[v] w (BoolPost (right xs) w) := by
  obtain ⟨A, c, rfl, hnc, hcm⟩ := h.shape
  have H : Aside (RMRs ty ty2 w (.slice A xs.length c) xs) := h
  obtain ⟨r, hr⟩ : ∃ r, right xs = r := ⟨_, rfl⟩
  rw [hr]
  have R : Aside (r = (decide (xs.length ≤ 40) && xs.all rightM)) := hr.symm
  clear hr h
  by_cases h40 : xs.length ≤ 40
  · have h40z : ¬ (40 : Int) < xs.length := by omega
    have R2 : Aside (r = xs.all rightM) := by show _ = _; rw [R.out, decide_eq_true h40]; rfl
    clear R
    go_enter Tryz.func10, Tryz.ntmps10
    go_wp2_with fail
    go_loopg [12] (xs.length + 1) (fun gk i W => Below w.heap.size w W ∧ ∃ k : Nat, i = .int .i64 k ∧ k ≤ xs.length ∧ k + gk = xs.length + 1 ∧ Aside (r = (xs.drop k).all rightM))
    case atStart => exact ⟨Below.refl _ _, 0, rfl, by omega, by omega, R2.out⟩
    case round =>
      obtain ⟨hb, k, rfl, hk, hg, hX⟩ := hrel
      have hws := hb.size
      by_cases hlt : k < xs.length
      · obtain ⟨x, hx⟩ : ∃ x, xs[k] = x := ⟨_, rfl⟩
        obtain ⟨bk, o, pA, pc, rfl, x0, x1, x2, hp⟩ := (H.out.below hb).get k hlt x hx
        have D : Aside (xs.drop k = x :: xs.drop (k + 1)) := by rw [← hx]; exact List.drop_eq_getElem_cons hlt
        obtain ⟨w1, hw1⟩ : ∃ w1, wr.alloc (.cells #[.string x.1, .string x.2.1, .slice pA x.2.2.length pc] 28) = w1 := ⟨_, rfl⟩
        have hA : Below wr.heap.size wr w1 := by rw [← hw1]; exact (Below.refl _ _).alloc (Nat.le_refl _) _
        have hq := heap_alloc_new wr (.cells #[.string x.1, .string x.2.1, .slice pA x.2.2.length pc] 28)
        rw [hw1] at hq
        have hp1 : Aside (Rd ty2 w1 23 (.slice pA x.2.2.length pc) x.2.2.length 3 (x.2.2.flatMap rcells)) := hp.below hA
        have hbA : Below w.heap.size w w1 := below_then hb hws hA
        clear hp hx
        obtain ⟨⟨q0, q1, q2⟩, g0, g1, g2⟩ := row3 hq
        go_upto_region 6 with fail
        go_cut [31] from 16 to 31 (fun v W => v = .bool (!(decide (x.1.size ≤ 200) && decide (x.2.1.size ≤ 200) && decide (x.2.2.length ≤ 8))) ∧ W = w1)
        case first =>
          go_wp2_with fail
          all_goals
            go_meet
            refine ⟨?_, rfl⟩
            congr 1
            rw [Bool.eq_iff_iff]
            simp
            try omega
        case rest =>
          obtain ⟨rfl, rfl⟩ := hcut
          obtain ⟨E, hE⟩ : ∃ E, (decide (x.1.size ≤ 200) && decide (x.2.1.size ≤ 200) && decide (x.2.2.length ≤ 8)) = E := ⟨_, rfl⟩
          rw [hE]
          have M : Aside (rightM x = (E && x.2.2.all rightP)) := by show _ = _; rw [← hE]; rfl
          have n8 : E = true → x.2.2.length ≤ 8 := fun h => by rw [h] at hE; simp at hE; omega
          clear hE
          cases E
          · go_wp2_with fail
            go_ret
            exact ⟨by rw [hX.out, D.out, List.all_cons, M.out]; simp, hbA⟩
          · have n8 := n8 rfl
            go_wp2_with fail
            obtain ⟨g0, hg0⟩ : ∃ g0, g0 = gk := ⟨gk, rfl⟩
            subst hg0
            go_loopg [35] (x.2.2.length + 1) (fun gj i W => Below wc.heap.size wc W ∧ ∃ j : Nat, i = .int .i64 j ∧ j ≤ x.2.2.length ∧ j + gj = x.2.2.length + 1 ∧ Aside (x.2.2.all rightP = (x.2.2.drop j).all rightP))
            case atStart => exact ⟨Below.refl _ _, 0, rfl, by omega, by omega, rfl⟩
            case round =>
              rename_i wo _
              obtain ⟨hbj, j, rfl, hj, hgj, hXj⟩ := hrel
              have hbw := below_then hbA hbA.size hbj
              by_cases hjt : j < x.2.2.length
              · obtain ⟨p, hpj⟩ : ∃ p, x.2.2[j] = p := ⟨_, rfl⟩
                have hpk : x.2.2[j]? = some p := by rw [List.getElem?_eq_getElem hjt, hpj]
                have DJ : Aside (x.2.2.drop j = p :: x.2.2.drop (j + 1)) := by rw [← hpj]; exact List.drop_eq_getElem_cons hjt
                have hrd := hp1.out.below hbj
                obtain ⟨b2, o2, c', he, _, _, _⟩ := hrd.cells (by omega)
                injection he with he1 he2 he3
                subst he1 he3
                obtain ⟨y0, y1, y2⟩ := rd_atR hrd j p hpk
                clear hrd hpk hpj he2
                obtain ⟨ka, ha, va⟩ := p
                simp only at y0 y1 y2
                obtain ⟨w2, hw2⟩ : ∃ w2, wr.alloc (.cells #[.string ka, .bool ha, .string va] 23) = w2 := ⟨_, rfl⟩
                have hA2 : Below wr.heap.size wr w2 := by rw [← hw2]; exact (Below.refl _ _).alloc (Nat.le_refl _) _
                have hq2 := heap_alloc_new wr (.cells #[.string ka, .bool ha, .string va] 23)
                rw [hw2] at hq2
                obtain ⟨⟨z0, z1, z2⟩, _, _, _⟩ := row3 hq2
                obtain ⟨ez, hez⟩ : ∃ ez, va.toList.isEmpty = ez := ⟨_, rfl⟩
                have EZ : Aside (decide (va.size = 0) = ez) := by show _ = _; rw [← empty_size, hez]
                go_upto_region 11 with fail
                go_cut [58] from 41 to 58 (fun v W => v = .bool (!rightP (ka, ha, va)) ∧ W = w2)
                case first =>
                  have i1 : (200 < (ka.size : Int)) ↔ 200 < ka.size := by omega
                  have i2 : (200 < (va.size : Int)) ↔ 200 < va.size := by omega
                  have I : Aside (((200 < (ka.size : Int)) ↔ 200 < ka.size) ∧ ((200 < (va.size : Int)) ↔ 200 < va.size)) := ⟨i1, i2⟩
                  clear i1 i2
                  cases ha <;> cases ez
                  all_goals
                    go_wp2_with fail
                    all_goals
                      go_meet
                      refine ⟨?_, rfl⟩
                      unfold rightP
                      simp only [EZ.out]
                      congr 1
                      rw [Bool.eq_iff_iff]
                      simp
                      try omega
                case rest =>
                  obtain ⟨rfl, rfl⟩ := hcut
                  have hbw2 := below_then hbw hbw.size hA2
                  have hbj2 := below_then hbj hbj.size hA2
                  obtain ⟨E2, hE2⟩ : ∃ E2, rightP (ka, ha, va) = E2 := ⟨_, rfl⟩
                  rw [hE2]
                  have P2 : Aside (rightP (ka, ha, va) = E2) := hE2
                  clear hE2
                  cases E2
                  · go_wp2_with fail
                    go_ret
                    exact ⟨by rw [hX.out, D.out, List.all_cons, M.out, hXj.out, DJ.out, List.all_cons, P2.out]; simp, hbw2⟩
                  · go_wp2_with fail
                    go_roundg (gk - 1)
                    case rel => exact ⟨hbj2, j + 1, by go_num, by omega, by omega, by have := hXj.out; rw [DJ.out, List.all_cons, P2.out] at this; exact this⟩
                    case measure => omega
              · have hfin := hXj.out
                rw [List.drop_eq_nil_of_le (by omega)] at hfin
                have MF : Aside (rightM x = true) := by show _ = _; rw [M.out, hfin]; rfl
                clear hfin
                go_wp2_with fail
                go_roundg (g0 - 1)
                case rel => exact ⟨hbw, k + 1, by go_num, by omega, by omega, by have := hX.out; rw [D.out, List.all_cons, MF.out] at this; exact this⟩
                case measure => omega
      · have hfin := hX.out
        rw [List.drop_eq_nil_of_le (by omega)] at hfin
        have RF : Aside (r = true) := hfin
        clear hfin
        go_wp2_with fail
        go_ret
        exact ⟨by rw [RF.out]; rfl, hb⟩
  · have h40z : (40 : Int) < xs.length := by omega
    have R2 : Aside (r = false) := by show _ = _; rw [R.out, decide_eq_false h40]; rfl
    clear R
    go_enter Tryz.func10, Tryz.ntmps10
    go_wp2_with fail
    go_ret
    exact ⟨by rw [R2.out]; rfl, Below.refl _ _⟩
end Go.Proofs.YtleofgndghjflaaGreatDoor

set_option linter.unusedVariables false
set_option linter.unusedSimpArgs false
namespace Go.Proofs.YtleofgndghjflaaGreatDoor
open Go Go.RowKit

theorem keyOk_valid (k : List UInt8) (h : keyOk k = true) : nameOk k = true := by
  unfold keyOk at h
  unfold nameOk
  rw [Bool.and_eq_true] at h ⊢
  refine ⟨h.1, ?_⟩
  have h2 : ∀ b ∈ k, b.toNat < 128 := by
    intro b hb
    have := List.all_eq_true.1 h.2 b hb
    rcases Nat.lt_or_ge b.toNat 128 with h3 | h3
    · exact h3
    · unfold tok at this
      rw [keyB_high _ (by omega)] at this
      cases this
  rw [Lib.validD_ascii k.length k (fun b hb => h2 b (List.mem_of_mem_take hb)), List.drop_eq_nil_of_le (Nat.le_refl _)]
  exact Lib.validD_nil

/-- A property as spec makes it. -/
def madeS (pct : Bool) (k v : List UInt8) (h : Bool) : Bool := if h then (madeP pct k v).2 else (madeP false k []).2
def valS (pct : Bool) (k v : List UInt8) (h : Bool) : List UInt8 := if h then (madeP pct k v).1 else []
theorem valS_len (pct : Bool) (k v : List UInt8) (h : Bool) : (valS pct k v h).length ≤ v.length := by
  unfold valS
  cases h
  · simp
  · cases pct
    · simp [madeP]
    · unfold madeP
      simp only [if_true]
      cases hu : unesc v with
      | none => simp
      | some u => exact unesc_le hu
theorem made_same (pct : Bool) (k v : List UInt8) (h : Bool) : madeI pct k v h = if madeS pct k v h then some (k, if h then some (valS pct k v h) else none) else none := by
  cases h
  · have e : madeS pct k v false = nameOk k := by
      unfold madeS madeP nameOk
      rw [Lib.validD_nil]
      simp
    rw [e]
    unfold madeI keyP
    simp
  · cases pct
    · have e : madeS false k v true = (nameOk k && Lib.validD v) := by
        unfold madeS madeP nameOk
        simp
      rw [e]
      unfold madeI rawP valS madeP
      simp
    · unfold madeI pctP madeS valS madeP rawP
      cases hk : keyOk k
      · simp
      · rw [keyOk_valid k hk]
        cases ho : v.all oct
        · simp
        · cases hu : unesc v with
          | none => simp
          | some u => simp

theorem one_lit (w : World) (k v : ByteArray) (h : Bool) : RMRs true true ((w.alloc (.cells #[.string k, .bool h, .string v] 23)).alloc (.cells #[.string ⟨#[]⟩, .string ⟨#[]⟩, .slice (some ⟨w.heap.size, 0, none⟩) 1 1] 28)) (.slice (some ⟨w.heap.size + 1, 0, none⟩) 1 1) [(⟨#[]⟩, ⟨#[]⟩, [(k, h, v)])] := by
  obtain ⟨w1, hw1⟩ : ∃ w1, w.alloc (.cells #[.string k, .bool h, .string v] 23) = w1 := ⟨_, rfl⟩
  have hz : w1.heap.size = w.heap.size + 1 := by rw [← hw1]; simp
  have h1 : w1.heap[w.heap.size]? = some (.cells #[.string k, .bool h, .string v] 23 (0, 0)) := by rw [← hw1]; exact heap_alloc_new _ _
  rw [hw1, ← hz]
  have h2 := heap_alloc_new w1 (.cells #[.string ⟨#[]⟩, .string ⟨#[]⟩, .slice (some ⟨w.heap.size, 0, none⟩) 1 1] 28)
  have h3 := row_alloc h1 (.cells #[.string ⟨#[]⟩, .string ⟨#[]⟩, .slice (some ⟨w.heap.size, 0, none⟩) 1 1] 28)
  refine ⟨[[.string ⟨#[]⟩, .string ⟨#[]⟩, .slice (some ⟨w.heap.size, 0, none⟩) 1 1]], ⟨_, 1, rfl, by simp, by omega, rfl, .inr ⟨w1.heap.size, 0, rfl, fun j u hj => ?_, fun _ => ⟨_, _, h2⟩⟩⟩, ⟨_, rfl, ⟨_, 1, rfl, by simp, by omega, rfl, .inr ⟨w.heap.size, 0, rfl, fun j u hj => ?_, fun _ => ⟨_, _, h3⟩⟩⟩⟩, trivial⟩
  · rw [cell_of_row _ _ _ _ _ _ h2, Nat.zero_add]
    simpa using hj
  · rw [cell_of_row _ _ _ _ _ _ h3, Nat.zero_add]
    simpa [rcells] using hj

set_option maxHeartbeats 4000000 in
set_option maxRecDepth 100000 in
theorem fnBagProperty_any (pct : Bool) (k v : ByteArray) (h : Bool) (w : World) (hw : Laid w) : Calls Tryz.prog 3 #[.bool pct, .agg #[.string k, .bool h, .string v]] w (BoolPost true w) := by
  obtain ⟨w1, hw1⟩ : ∃ w1, w.alloc (.cells #[.string k, .bool h, .string v] 23) = w1 := ⟨_, rfl⟩
  have hb1 : Below w.heap.size w w1 := by rw [← hw1]; exact (Below.refl _ _).alloc (Nat.le_refl _) _
  have hp1 : w1.heap[w.heap.size]? = some (.cells #[.string k, .bool h, .string v] 23 (0, 0)) := by rw [← hw1]; exact heap_alloc_new _ _
  obtain ⟨⟨c0, c1, c2⟩, f0, f1, f2⟩ := row3 hp1
  have hz := zzFits4_any k v h w1
  obtain ⟨fi, hfi⟩ : ∃ fi, fits4 (k, h, v) = fi := ⟨_, rfl⟩
  rw [hfi] at hz
  clear hfi
  go_enter Tryz.func3, Tryz.ntmps3
  go_wp2_with (go_at_fn 9; fail)
  refine hz.mono ?_
  rintro e w2 ⟨rfl, hb2⟩
  have hp2 := (hb2.block _ (Array.getElem?_eq_some_iff.1 hp1).1).trans hp1
  have hb12 := below_then hb1 hb1.size hb2
  clear hz hw1 hp1 hb1 c0 c1 c2 f0 f1 f2
  obtain ⟨⟨c0, c1, c2⟩, f0, f1, f2⟩ := row3 hp2
  cases fi
  · go_wp2_with fail
    go_ret
    exact ⟨rfl, hb12⟩
  · have hA : Below w2.heap.size w2 ((w2.alloc (.cells #[.string k, .bool h, .string v] 23)).alloc (.cells #[.string ⟨#[]⟩, .string ⟨#[]⟩, .slice (some ⟨w2.heap.size, 0, none⟩) 1 1] 28)) := ((Below.refl _ _).alloc (Nat.le_refl _) _).alloc (by simp) _
    have hrt := bagRight_any _ _ _ (one_lit w2 k v h)
    obtain ⟨ri, hri⟩ : ∃ ri, right [((⟨#[]⟩ : ByteArray), (⟨#[]⟩ : ByteArray), [(k, h, v)])] = ri := ⟨_, rfl⟩
    rw [hri] at hrt
    go_wp2_with (go_at_fn 10; fail)
    refine hrt.mono ?_
    rintro e w3 ⟨rfl, hb3⟩
    have hb23 := below_then hA hA.size hb3
    have hp3 := (hb23.block _ (Array.getElem?_eq_some_iff.1 hp2).1).trans hp2
    have hb13 := below_then hb12 hb12.size hb23
    clear hrt hb3 hA hb23 hp2 hb12 hb2 c0 c1 c2 f0 f1 f2
    obtain ⟨⟨c0, c1, c2⟩, f0, f1, f2⟩ := row3 hp3
    have haw := awake_any w3 (hw.below hb13)
    cases ri
    · clear hri
      go_wp2_with (go_at_fn 11; fail)
      refine haw.mono ?_
      rintro e w4 ⟨rfl, hb4⟩
      go_wp2_with fail
      go_ret
      exact ⟨rfl, below_then hb13 hb13.size hb4⟩
    · have hrp : rightP (k, h, v) = true := by
        unfold right rightM at hri
        have h0 : (⟨#[]⟩ : ByteArray).size = 0 := rfl
        simpa [h0] using hri
      have hkv : k.size ≤ 1000000 ∧ v.size ≤ 1000000 := by
        unfold rightP at hrp
        simp at hrp
        omega
      obtain ⟨hk, hv⟩ := hkv
      clear hri hrp haw
      have hS := fun W (hW : Below w.heap.size w W) => makePropertyS_any pct k v h W (hw.below hW) hk hv
      have hI := fun W (hW : Below w.heap.size w W) => makePropertyI_any pct k v h W (hw.below hW) hk hv
      go_upto_if 21 with fail
      go_cut [5] (fun v W => v = .int .u8 (how pct) ∧ W = w3)
      case first =>
        cases pct
        · go_wp2_with fail
          go_meet
          exact ⟨rfl, rfl⟩
        · go_wp2_with fail
          go_meet
          exact ⟨rfl, rfl⟩
      case rest =>
        obtain ⟨rfl, rfl⟩ := hcut
        have hS1 := hS wc hb13
        obtain ⟨hi, hhi⟩ : ∃ hi, how pct = hi := ⟨_, rfl⟩
        rw [hhi] at hS1 hI ⊢
        clear hS hhi
        go_wp2_with (go_at_fn 12; fail)
        refine hS1.mono ?_
        intro e w4 hpost
        obtain ⟨vb1, ok1, rfl, hvb1, hok1, hb4⟩ := hpost
        have HS : Aside (bs vb1 = valS pct (bs k) (bs v) h ∧ ok1 = madeS pct (bs k) (bs v) h) := ⟨hvb1, hok1⟩
        clear hvb1 hok1
        have hp4 := (hb4.block _ (Array.getElem?_eq_some_iff.1 hp3).1).trans hp3
        have hb14 := below_then hb13 hb13.size hb4
        clear hS1 hp3 hb13 hb4 c0 c1 c2 f0 f1 f2
        obtain ⟨⟨c0, c1, c2⟩, f0, f1, f2⟩ := row3 hp4
        obtain ⟨w5, hw5⟩ : ∃ w5, w4.alloc (.cells #[.string k, .bool h, .string vb1] 23) = w5 := ⟨_, rfl⟩
        have hA5 : Below w4.heap.size w4 w5 := by rw [← hw5]; exact (Below.refl _ _).alloc (Nat.le_refl _) _
        have hq5 := heap_alloc_new w4 (.cells #[.string k, .bool h, .string vb1] 23)
        rw [hw5] at hq5
        have hp5 := (hA5.block _ (Array.getElem?_eq_some_iff.1 hp4).1).trans hp4
        obtain ⟨⟨d0, d1, d2⟩, _, _, _⟩ := row3 hp5
        have hb15 := below_then hb14 hb14.size hA5
        have hI1 := hI _ hb15
        clear hI
        go_wp2_with (go_at_fn 13; fail)
        refine hI1.mono ?_
        intro e w6 hpost
        obtain ⟨kb, vb, h', tb, ok, rfl, hb6, hR⟩ := hpost
        have hq6 := (hb6.block _ (Array.getElem?_eq_some_iff.1 hq5).1).trans hq5
        have hb16 := below_then hb15 hb15.size hb6
        have haw := awake_any _ (hw.below (hb16.alloc hb16.size (.cells #[.string kb, .bool h', .string vb] 32)))
        rw [made_same] at hR
        clear hI1 hp4 hp5 c0 c1 c2 f0 f1 f2 d0 d1 d2 hb14 hb15 hA5 hw5 hb6 hq5
        rw [← HS.out.2] at hR
        cases ok1
        · have hok : ok = false := hR
          subst hok
          clear hR
          go_wp2_with (go_at_fn 11; fail)
          refine haw.mono ?_
          rintro e w7 ⟨rfl, hb7⟩
          have hb17 := below_then (hb16.alloc hb16.size _) (hb16.alloc hb16.size _).size hb7
          go_wp2_with fail
          go_ret
          exact ⟨rfl, hb17⟩
        · obtain ⟨rfl, hkb, hvb, hh, htb⟩ := hR
          have e1 : kb = k := bs_inj hkb
          have e2 : h' = h := by rw [hh]; cases h <;> rfl
          have e3 : vb = vb1 := by
            refine bs_inj ?_
            rw [hvb, HS.out.1]
            cases h <;> rfl
          have e4 : Aside (S (pstr (bs k, if h then some (bs vb1) else none)) = .string tb) := by
            show _ = _
            rw [S_bs, htb, HS.out.1]
          have hvs : vb1.size ≤ 1000000 := by
            rw [← bs_length, HS.out.1]
            have := valS_len pct (bs k) (bs v) h
            rw [bs_length] at this
            omega
          clear hkb hvb hh htb
          subst e1 e2 e3
          have hgd := Tryz.guard23
          have heq := eql23 kb vb kb vb h' h'
          rw [decide_eq_true ⟨rfl, rfl, rfl⟩] at heq
          have hq8 := heap_alloc_new w6 (.cells #[.string kb, .bool h', .string vb] 32)
          go_wp2_with (go_at_fn 11; fail)
          refine haw.mono ?_
          rintro e w7 ⟨rfl, hb7⟩
          have hb17 := below_then (hb16.alloc hb16.size _) (hb16.alloc hb16.size _).size hb7
          have hq87 := (hb7.block _ (Array.getElem?_eq_some_iff.1 hq8).1).trans hq8
          have hq67 := (hb7.block _ (Array.getElem?_eq_some_iff.1 (row_alloc hq6 (.cells #[.string kb, .bool h', .string vb] 32))).1).trans (row_alloc hq6 (.cells #[.string kb, .bool h', .string vb] 32))
          clear haw hb7 hq8 hq6
          obtain ⟨⟨x0, x1, x2⟩, _, _, _⟩ := row3 hq87
          obtain ⟨⟨y0, y1, y2⟩, _, _, _⟩ := row3 hq67
          have hpt := propertyText_any kb vb h' w7 hk hvs
          rw [e4.out] at hpt
          go_wp2_with (go_at_fn 14; fail)
          refine hpt.mono ?_
          rintro e w8 ⟨rfl, hb8⟩
          go_wp2_with fail
          go_ret
          exact ⟨by simp, below_then hb17 hb17.size hb8⟩
end Go.Proofs.YtleofgndghjflaaGreatDoor
