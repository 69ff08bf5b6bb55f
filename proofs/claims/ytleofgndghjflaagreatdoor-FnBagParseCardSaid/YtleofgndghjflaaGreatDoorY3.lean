/- Contracts of the functions of this claim, proved once, joined out of smaller texts: T1 T2 T3 T4 T5 T6 T7 M2. -/
import Derived.Test.YtleofgndghjflaaGreatDoorY2
import Derived.Maps.RangeRun
set_option linter.unusedVariables false
set_option linter.unusedSimpArgs false
namespace Go.Proofs.YtleofgndghjflaaGreatDoor
open Go Go.RowKit

/-- make([]E, 0, n). -/
theorem run_make0 (t e : TypeId) (z : Value) (size bytes : Nat) (ht : Tryz.prog.underlying t = some (.slice e)) (hinfo : (Tryz.prog.info? e).map (fun i => (i.zero, i.size, i.bytes)) = some (some z, size, bytes))
    (c : Int) (n : Nat) (hc : c = n) (hbytes : bytes * n ≤ 281474976710656) (h63 : n ≤ 9223372036854775807) (w : World) :
    (Instr.makeSlice t (.int .i64 0) (.int .i64 c)).run Tryz.prog w = .ok (.slice (some ⟨w.heap.size, 0, none⟩) 0 n) (w.alloc (.cells (madeCells z.cells (n * size)) e)) := by
  subst hc
  obtain ⟨i, hi, hzz⟩ := Option.map_eq_some_iff.1 hinfo
  simp only [Prod.mk.injEq] at hzz
  obtain ⟨hz, hs, hb⟩ := hzz
  have := run_make (P := Tryz.prog) w t e i z ht hi hz .i64 .i64 0 n (Int.le_refl _) (by omega) (by rw [hb]; omega) (by omega)
  rw [hs] at this
  simpa using this
/-- make([]E, n). -/
theorem run_makeN (t e : TypeId) (z : Value) (size bytes : Nat) (ht : Tryz.prog.underlying t = some (.slice e)) (hinfo : (Tryz.prog.info? e).map (fun i => (i.zero, i.size, i.bytes)) = some (some z, size, bytes))
    (c : Int) (n : Nat) (hc : c = n) (hbytes : bytes * n ≤ 281474976710656) (h63 : n ≤ 9223372036854775807) (w : World) :
    (Instr.makeSlice t (.int .i64 c) (.int .i64 c)).run Tryz.prog w = .ok (.slice (some ⟨w.heap.size, 0, none⟩) n n) (w.alloc (.cells (madeCells z.cells (n * size)) e)) := by
  subst hc
  obtain ⟨i, hi, hzz⟩ := Option.map_eq_some_iff.1 hinfo
  simp only [Prod.mk.injEq] at hzz
  obtain ⟨hz, hs, hb⟩ := hzz
  have := run_make (P := Tryz.prog) w t e i z ht hi hz .i64 .i64 n n (by omega) (by omega) (by rw [hb]; omega) (by omega)
  rw [hs] at this
  simpa using this
theorem own_made (w : World) (B : Nat) (z : Value) (n size : Nat) (e : TypeId) (hB : B ≤ w.heap.size) (h63 : n ≤ 9223372036854775807) :
    (w.alloc (.cells (madeCells z.cells (n * size)) e)).ownsRow B e size (.slice (some ⟨w.heap.size, 0, none⟩) 0 n) 0 [] := World.ownsRow_made w _ n hB (by simpa [maxLen] using h63) (size_madeCells _ _)

theorem Tryz.info86 : (Tryz.prog.info? 86).map (fun i => (i.zero, i.size, i.bytes)) = some (some (.agg #[.string ⟨#[]⟩, .string ⟨#[]⟩, .bool false]), 3, 40) := by kernel_rfl

def propsM : List (List UInt8) → Option (List Pr)
  | [] => some []
  | p :: r => if p.isEmpty then propsM r else match propI p with
    | none => none
    | some x => (propsM r).map (x :: ·)
theorem pcells_len (p : Pr) : (pcells p).length = 3 := rfl
theorem pcells_one (p : Pr) : ∀ u ∈ pcells p, u.oneCell' = true := by
  intro u hu
  simp only [pcells, List.mem_cons, List.not_mem_nil, or_false] at hu
  rcases hu with rfl | rfl | rfl <;> rfl

def propsOf (s : List UInt8) : List Pr := (propsM (splitL 59 s)).getD []
def PropsPost (xs : List Pr) (w : World) (e : Ending) (w' : World) : Prop :=
  ∃ v, e = .returned v ∧ Rd true w' 86 v xs.length 3 (xs.flatMap pcells) ∧ Below w.heap.size w w'

set_option maxHeartbeats 1000000 in
set_option maxRecDepth 100000 in
theorem propertiesFromMetadata_any (s : ByteArray) (w : World) (hw : Laid w) (hs : s.size ≤ 1000000) :
    Calls Tryz.prog 126 #[.string s] w (PropsPost (propsOf (bs s)) w) := by
  obtain ⟨R, hR⟩ : ∃ R, propsOf (bs s) = R := ⟨_, rfl⟩
  rw [hR]
  have A : Aside (propsOf (bs s) = R) := hR
  clear hR
  cases he : s.toList.isEmpty
  · have hcn := zzCount_any s ⟨#[59]⟩ w hs rfl
    go_enter Tryz.func126, Tryz.ntmps126
    go_wp2_with (go_at_fn 167; fail)
    refine hcn.mono ?_
    rintro e w' ⟨r, rfl, hr0, hr1, rfl⟩
    have hmk := run_make0 96 86 _ 3 40 Tryz.underlying96 Tryz.info86 (r + 1) (r + 1).toNat (by omega) (by omega) (by omega)
    have hb0 : Below w.heap.size w (w.alloc (.cells (madeCells (Value.agg #[.string ⟨#[]⟩, .string ⟨#[]⟩, .bool false]).cells ((r + 1).toNat * 3)) 86)) := (Below.refl _ _).alloc (Nat.le_refl _) _
    have ho := own_made w w.heap.size (.agg #[.string ⟨#[]⟩, .string ⟨#[]⟩, .bool false]) (r + 1).toNat 3 86 (Nat.le_refl _) (by omega)
    obtain ⟨wm, hwm⟩ : ∃ wm, w.alloc (.cells (madeCells (Value.agg #[.string ⟨#[]⟩, .string ⟨#[]⟩, .bool false]).cells ((r + 1).toNat * 3)) 86) = wm := ⟨_, rfl⟩
    have hm1 := hmk w
    rw [hwm] at hb0 ho hm1
    clear hmk hwm
    have hsp := zzSplit_any 59 s ⟨#[59]⟩ wm hs rfl
    go_wp2_with (go_at_fn 93; fail)
    refine hsp.mono ?_
    intro e w3 hpost
    obtain ⟨v, rfl, hrd, hb4⟩ := hpost
    have hb5 : Below w.heap.size w w3 := below_then hb0 hb0.size hb4
    have ho3 := own_below (C := 0) ho hb4
    clear hsp ho hb4 hm1 hcn
    obtain ⟨ps, hps⟩ : ∃ ps, splitL 59 (bs s) = ps := ⟨_, rfl⟩
    have hne : 0 < ps.length := by rw [← hps]; exact List.length_pos_iff.2 (splitL_ne 59 _)
    have hsm := split_lensum 59 (bs s)
    have hln := splitL_len 59 (bs s)
    rw [hps, bs_length] at hsm hln
    have N : Aside ((propsM ps).getD [] = R) := by rw [← hps]; exact A.out
    rw [hps] at hrd
    clear hps
    obtain ⟨bk, o, c, rfl, hnc, hcm, _⟩ := hrd.cells hne
    obtain ⟨V, hV⟩ : ∃ V : Value, .slice (some ⟨w.heap.size, 0, none⟩) 0 (r + 1).toNat = V := ⟨_, rfl⟩
    rw [hV] at ho3 ⊢
    clear hV
    go_wp2_with fail
    go_loopg [3, 17] (ps.length + 1) (fun gk ow i wx => Below w.heap.size w wx ∧ ∃ (k : Nat) (done : List Pr), i = .int .i64 k ∧ k ≤ ps.length ∧ k + gk = ps.length + 1 ∧ done.length ≤ k ∧ wx.ownsRow w.heap.size 86 3 ow done.length (done.flatMap pcells) ∧ Rd true wx 9 (.slice (some ⟨bk, o, none⟩) ps.length c) ps.length 1 (strs ps) ∧ lensum (ps.drop k) ≤ s.size + 1 ∧ Aside (((propsM (ps.drop k)).map (done ++ ·)).getD [] = R))
    case atStart =>
      refine ⟨hb5, 0, [], rfl, by omega, by omega, by simp, ho3, hrd, by simp [hsm], ?_⟩
      have := N.out
      show _ = _
      rw [List.drop_zero, ← this]
      congr 1
      cases propsM ps <;> simp
    case round =>
      clear ho3 hrd hb5 N
      obtain ⟨hb, k, done, rfl, hk, hg, hdl, ho, hrd, hls, hX⟩ := hrel
      have hws := hb.size
      by_cases hlt : k < ps.length
      · obtain ⟨p, hp⟩ : ∃ p, ps[k] = p := ⟨_, rfl⟩
        have hdr : ps.drop k = p :: ps.drop (k + 1) := by rw [← hp]; exact List.drop_eq_getElem_cons hlt
        rw [hdr] at hls
        have hls2 : p.length + 1 + lensum (ps.drop (k + 1)) ≤ s.size + 1 := hls
        obtain ⟨pb, hpb⟩ : ∃ pb : ByteArray, pb = ⟨p.toArray⟩ := ⟨_, rfl⟩
        have hbp : bs pb = p := by rw [hpb]
        have hcell : wr.cell? ⟨bk, o + k, none⟩ = some (.string pb) := hrd.at (by simp [strs, List.getElem?_eq_getElem hlt, hp, S, hpb])
        have hpz : pb.size = p.length := by rw [← bs_length, hbp]
        have X : Aside (((propsM (bs pb :: ps.drop (k + 1))).map (done ++ ·)).getD [] = R ∧ pb.toList.isEmpty = (bs pb).isEmpty) := ⟨by have := hX.out; rw [hdr] at this; rw [hbp]; exact this, by rw [toList_empty]⟩
        clear hX hpb hbp hls hdr hp
        cases hpe : pb.toList.isEmpty
        · have hpp := parseProperty_any pb wr (hw.below hb) (by omega) hpe
          have X1 : Aside (((match propI (bs pb) with | none => none | some x => (propsM (ps.drop (k + 1))).map (x :: ·)).map (done ++ ·)).getD [] = R) := by
            have := X.out.1
            rw [propsM, ← X.out.2, hpe] at this
            exact this
          have hbe : Aside (bs pb ≠ []) := by
            have := X.out.2
            rw [hpe] at this
            exact List.isEmpty_eq_false_iff.1 this.symm
          clear X
          go_wp2_with (go_at_fn 168; fail)
          refine hpp.mono ?_
          rintro e w5 ⟨hbel, hm⟩
          have hb6 : Below w.heap.size w w5 := below_then hb hws hbel
          have ho6 := own_below (C := 0) ho hbel
          have hrd6 := hrd.below hbel
          clear hpp ho hrd hbel
          cases hpi : propI (bs pb) with
          | none =>
            rw [hpi] at hm
            obtain ⟨a, x, rfl, hx⟩ := hm
            obtain ⟨y, rfl⟩ := hx hbe.out
            have X2 : Aside ([] = R) := by have := X1.out; rw [hpi] at this; exact this
            clear X1 hx hpi
            obtain ⟨a1, a2, a3, ha⟩ : ∃ a1 a2 a3, pagg a = .agg #[.string a1, .string a2, .bool a3] := ⟨_, _, _, rfl⟩
            rw [ha]
            go_wp2_with fail
            go_ret
            refine ⟨_, rfl, ?_, hb6.alloc hb6.size _⟩
            rw [← X2.out]
            exact Rd.nil _ _ _ _
          | some q =>
            rw [hpi] at hm
            subst hm
            have X2 : Aside (((propsM (ps.drop (k + 1))).map fun r => done ++ (q :: r)).getD [] = R) := by
              have := X1.out
              rw [hpi] at this
              simp only [Option.map_map] at this
              exact this
            clear X1 hpi
            obtain ⟨a1, a2, a3, ha⟩ : ∃ a1 a2 a3, pagg q = .agg #[.string a1, .string a2, .bool a3] ∧ pcells q = [.string a1, .string a2, .bool a3] := ⟨_, _, _, rfl, rfl⟩
            rw [ha.1]
            have P1 : Aside (pcells q = [.string a1, .string a2, .bool a3]) := ha.2
            clear ha
            go_wp2_with (at_builtin; go_must (refine wp_app w.heap.size rfl _ _ 96 rfl 86 _ 3 40 Tryz.underlying96 Tryz.info86 rfl (by decide) u3 _ _ [.string a1, .string a2, .bool a3] rfl (by simp only [World.size_alloc]; rfl) rfl (by intro u hu; simp at hu; rcases hu with rfl | rfl | rfl <;> rfl) (ho6.alloc _) (by have := hb6.size; simp; omega) (by omega) (by omega) ?_); intro v1 w2 ho2 hb2 hf2 hs2)
            go_wp2_with fail
            go_roundg (gk - 1)
            case rel =>
              refine ⟨(hb6.alloc hb6.size _).trans hb2, k + 1, done ++ [q], by go_num, by omega, by omega, by simp; omega, ?_, (hrd6.below ((Below.refl _ _).alloc (Nat.le_refl _) _)).fr hf2 (by decide), by omega, ?_⟩
              · rw [List.flatMap_append, List.length_append, List.flatMap_cons, List.flatMap_nil, List.append_nil, P1.out]
                exact ho2
              · have := X2.out
                show _ = _
                simpa using this
            case measure => omega
        · go_wp2_with fail
          go_roundg (gk - 1)
          case rel =>
            refine ⟨hb, k + 1, done, by go_num, by omega, by omega, by omega, ho, hrd, by omega, ?_⟩
            have := X.out.1
            rw [propsM, ← X.out.2, hpe] at this
            exact this
          case measure => omega
      · go_wp2_with fail
        go_ret
        have : done = R := by
          have := hX.out
          rw [List.drop_eq_nil_of_le (by omega)] at this
          simpa [propsM] using this
        refine ⟨_, rfl, ?_, hb⟩
        rw [← this]
        exact Rd.of_own ho
  · go_enter Tryz.func126, Tryz.ntmps126
    go_wp2_with fail
    go_ret
    refine ⟨_, rfl, ?_, Below.refl _ _⟩
    rw [toList_empty] at he
    rw [← A.out, List.isEmpty_iff.1 he]
    exact Rd.nil _ _ _ _
end Go.Proofs.YtleofgndghjflaaGreatDoor

set_option linter.unusedVariables false
set_option linter.unusedSimpArgs false
namespace Go.Proofs.YtleofgndghjflaaGreatDoor
open Go Go.RowKit

theorem row5 {w : World} {g : Nat} {a b c d e : Value} {t : TypeId} (h : w.heap[g]? = some (.cells #[a, b, c, d, e] t (0, 0))) :
    (w.cell? ⟨g, 0, none⟩ = some a ∧ w.cell? ⟨g, 1, none⟩ = some b ∧ w.cell? ⟨g, 2, none⟩ = some c ∧ w.cell? ⟨g, 3, none⟩ = some d ∧ w.cell? ⟨g, 4, none⟩ = some e) ∧
    w.frozen? ⟨g, 0, none⟩ = false ∧ w.frozen? ⟨g, 1, none⟩ = false ∧ w.frozen? ⟨g, 2, none⟩ = false ∧ w.frozen? ⟨g, 3, none⟩ = false ∧ w.frozen? ⟨g, 4, none⟩ = false := by
  have hc : ∀ i : Nat, w.cell? ⟨g, i, none⟩ = #[a, b, c, d, e][i]? := fun i => cell_of_row _ _ _ _ _ _ h
  have hf : ∀ i : Nat, w.frozen? ⟨g, i, none⟩ = false := fun i => by simp [World.frozen?, h]
  exact ⟨⟨hc 0, hc 1, hc 2, hc 3, hc 4⟩, hf 0, hf 1, hf 2, hf 3, hf 4⟩

set_option maxHeartbeats 1000000 in
set_option maxRecDepth 100000 in
theorem newInvalidMember_any (w : World) : Calls Tryz.prog 107 #[] w fun e w' => e = .returned (.agg #[.string ⟨#[]⟩, .string ⟨#[]⟩, .string ⟨#[]⟩, .slice none 0 0, .bool false]) ∧ w' = w.alloc (.cells #[.string ⟨#[]⟩, .string ⟨#[]⟩, .string ⟨#[]⟩, .slice none 0 0, .bool false] 98) := by
  go_enter Tryz.func107, Tryz.ntmps107
  go_wp2_with fail
  (try simp only [Exit.inBlock, Exit.then]); refine bodyPost_ret (results_cell_row rfl _ _ w.heap.size 98 _ (0, 0) _ rfl (heap_alloc_new _ _) Tryz.underlying98 rfl (by kernel_rfl)) rfl ?_
  exact ⟨rfl, rfl⟩
theorem trimL_le : ∀ (n : Nat) (l : List UInt8), (Lib.trimLeftD n l).length ≤ l.length
  | 0, l => by simp [Lib.trimLeftD]
  | n + 1, l => by
    unfold Lib.trimLeftD
    split
    · simp
    · split
      · exact Nat.le_trans (trimL_le n _) (by rw [List.length_drop]; omega)
      · exact Nat.le_refl _
theorem trimR_le : ∀ (n : Nat) (l : List UInt8), (Lib.trimRightD n l).length ≤ l.length
  | 0, l => by simp [Lib.trimRightD]
  | n + 1, l => by
    unfold Lib.trimRightD
    split
    · simp
    · split
      · exact Nat.le_trans (trimR_le n _) (by rw [List.length_take]; omega)
      · exact Nat.le_refl _
theorem trim_le (l : List UInt8) : (Lib.trimSpaceD l).length ≤ l.length := Nat.le_trans (trimR_le _ _) (trimL_le _ _)

/-- A list-member as it is read: its key, its value, its metadata. -/
def parseM (l : List UInt8) : Option (List UInt8 × List UInt8 × List UInt8) :=
  if (cut1 59 l).2.2 && !metaOk (cut1 59 l).2.1 then none else
  if !(cut1 61 (cut1 59 l).1).2.2 then none else
  if !keyOk (Lib.trimSpaceD (cut1 61 (cut1 59 l).1).1) then none else
  if !(Lib.trimSpaceD (cut1 61 (cut1 59 l).1).2.1).all oct then none else
  (unesc (Lib.trimSpaceD (cut1 61 (cut1 59 l).1).2.1)).map fun u => (Lib.trimSpaceD (cut1 61 (cut1 59 l).1).1, fixU u, if (cut1 59 l).2.2 then normL (cut1 59 l).2.1 else [])
def noMem : Value := .agg #[.string ⟨#[]⟩, .string ⟨#[]⟩, .string ⟨#[]⟩, .slice none 0 0, .bool false]
def ParsePost (R : Option (List UInt8 × List UInt8 × List UInt8)) (w : World) (e : Ending) (w' : World) : Prop :=
  Below w.heap.size w w' ∧ match R with
    | some m => e = .returned (.tuple #[.agg #[S m.1, S m.2.1, S m.2.2, .slice none 0 0, .bool true], .nilIface])
    | none => ∃ y, e = .returned (.tuple #[noMem, .iface 201 (.pointer (some y))])

def MPost2 (ok : Bool) (w : World) (e : Ending) (w' : World) : Prop := ∃ t, e = .returned (.tuple #[.string t, .bool ok]) ∧ Below w.heap.size w w'
set_option maxHeartbeats 2000000 in
set_option maxRecDepth 100000 in
theorem parseMember_any (s : ByteArray) (w : World) (hw : Laid w) (hs : s.size ≤ 1000000) :
    Calls Tryz.prog 95 #[.string s] w (ParsePost (parseM (bs s)) w) := by
  obtain ⟨R, hR⟩ : ∃ R, parseM (bs s) = R := ⟨_, rfl⟩
  rw [hR]
  have A : Aside (parseM (bs s) = R) := hR
  clear hR
  have hb0 : Below w.heap.size w (w.alloc (.cells #[.string ⟨#[]⟩, .string ⟨#[]⟩, .string ⟨#[]⟩, .slice none 0 0, .bool false] 98)) := (Below.refl _ _).alloc (Nat.le_refl _) _
  have hp0 : (w.alloc (.cells #[.string ⟨#[]⟩, .string ⟨#[]⟩, .string ⟨#[]⟩, .slice none 0 0, .bool false] 98)).heap[w.heap.size]? = some (.cells #[.string ⟨#[]⟩, .string ⟨#[]⟩, .string ⟨#[]⟩, .slice none 0 0, .bool false] 98 (0, 0)) := heap_alloc_new _ _
  have hcut := zzCut_any 59 s ⟨#[59]⟩ (w.alloc (.cells #[.string ⟨#[]⟩, .string ⟨#[]⟩, .string ⟨#[]⟩, .slice none 0 0, .bool false] 98)) hs rfl
  go_enter Tryz.func95, Tryz.ntmps95
  go_wp2_with (go_at_fn 129; fail)
  refine hcut.mono ?_
  intro e w1 hpost
  obtain ⟨kv, raw, fnd, rfl, hcq, hbel⟩ := hpost
  have hb1 := below_then hb0 hb0.size hbel
  have hp1 := (hbel.block _ (by simp)).trans hp0
  have hcl := cut1_len 59 (bs s)
  rw [hcq] at hcl
  simp only [bs_length] at hcl
  have C : Aside (cut1 59 (bs s) = (bs kv, bs raw, fnd)) := hcq
  clear hcut hbel hb0 hp0 hcq
  go_upto_if 23 with fail
  go_cut [4] (fun v W => Below w.heap.size w W ∧ W.heap[w.heap.size]? = some (.cells #[.string ⟨#[]⟩, .string ⟨#[]⟩, .string ⟨#[]⟩, .slice none 0 0, .bool false] 98 (0, 0)) ∧ ∃ m, v = .string m ∧ Aside ((fnd && !metaOk (bs raw)) = false ∧ bs m = if fnd then normL (bs raw) else []))
  case first =>
    cases fnd
    · go_wp2_with fail
      go_meet
      exact ⟨hb1, hp1, ⟨#[]⟩, rfl, rfl, rfl⟩
    · have hvm := validateMetadata_any raw w1 (hw.below hb1) (by simp at hcl; omega)
      obtain ⟨ok, hok⟩ : ∃ ok, metaOk (bs raw) = ok := ⟨_, rfl⟩
      unfold MetaPost at hvm
      rw [hok] at hvm
      have M : Aside (metaOk (bs raw) = ok) := hok
      clear hok
      have hvm : Calls Tryz.prog 130 #[.string raw] w1 (MPost2 ok w1) := hvm
      go_wp2_with (go_at_fn 130; fail)
      refine hvm.mono ?_
      intro e w2 hpost
      obtain ⟨t, rfl, hbel⟩ := hpost
      have hb2 := below_then hb1 hb1.size hbel
      have hp2 := (hbel.block _ (Array.getElem?_eq_some_iff.1 hp1).1).trans hp1
      clear hvm hbel
      cases ok
      · have X : Aside (none = R) := by
          show _ = _
          rw [← A.out, parseM, C.out]
          simp only [M.out]
          rfl
        obtain ⟨ea, he⟩ := (hw.below hb2).errs 7 (by omega)
        have hgl : 7 < w.heap.size := by
          obtain ⟨b, hb⟩ := hw.errs 7 (by omega)
          exact lt_of_cell hb
        have hne1 : ¬ w.heap.size = 7 := by omega
        have hne2 : ¬ 7 = w.heap.size := by omega
        have hge : w.heap.size < w2.heap.size := (Array.getElem?_eq_some_iff.1 hp2).1
        obtain ⟨⟨c0, c1, c2, c3, c4⟩, f0, f1, f2, f3, f4⟩ := row5 hp2
        go_wp2_with fail
        go_region_held3 (fun W => W.cell? ⟨7, 0, none⟩ = some (.iface 201 (.pointer (some ea)))) ((simp (disch := (first | omega | (simp only [World.size_alloc, World.size_setCell, World.size_drew]; omega))) only [cellg_set, cellg_alloc, cellg_drew]; first | done | assumption)) (first | (go_at_call 107; refine (newInvalidMember_any _).mono ?_; rintro e w' ⟨rfl, rfl⟩))
        all_goals
          go_wp2_with fail
          (try simp only [Exit.inBlock, Exit.then]); refine bodyPost_ret (ret_cell_tmp rfl rfl (row_drew (row_alloc (row_set (row_set (row_set (row_set (row_set hp2 0 _) 1 _) 2 _) 3 _) 4 _) _)) Tryz.underlying98 rfl (by kernel_rfl)) rfl ?_
          refine ⟨(((((hb2.setCell (Nat.le_refl _) _).setCell (Nat.le_refl _) _).setCell (Nat.le_refl _) _).setCell (Nat.le_refl _) _).setCell (Nat.le_refl _) _ |>.alloc (by simp; omega) _).drew, ?_⟩
          rw [← X.out]; exact ⟨_, rfl⟩
      · have hnm := normalizeMetadata_any raw w2 (hw.below hb2) (by simp at hcl; omega)
        obtain ⟨m, hm⟩ : ∃ m : ByteArray, S (normL (bs raw)) = .string m ∧ bs m = normL (bs raw) := ⟨⟨(normL (bs raw)).toArray⟩, rfl, by simp [bs]⟩
        rw [hm.1] at hnm
        have N : Aside (bs m = normL (bs raw)) := hm.2
        clear hm
        go_wp2_with (go_at_fn 131; fail)
        refine hnm.mono ?_
        rintro e w3 ⟨rfl, hbel⟩
        have hb3 := below_then hb2 hb2.size hbel
        have hp3 := (hbel.block _ (Array.getElem?_eq_some_iff.1 hp2).1).trans hp2
        clear hnm hbel
        go_wp2_with fail
        go_meet
        exact ⟨hb3, hp3, m, rfl, by rw [M.out]; rfl, by rw [N.out]; rfl⟩
  case rest =>
    clear hb1 hp1
    obtain ⟨hb1, hp1, m, rfl, hM⟩ := hcut
    have hcut := zzCut_any 61 kv ⟨#[61]⟩ wc (by omega) rfl
    go_wp2_with (go_at_fn 129; fail)
    refine hcut.mono ?_
    intro e w2 hpost
    obtain ⟨k, v, f2, rfl, hcq, hbel⟩ := hpost
    have hb2 := below_then hb1 hb1.size hbel
    have hp2 := (hbel.block _ (Array.getElem?_eq_some_iff.1 hp1).1).trans hp1
    have hcl2 := cut1_len 61 (bs kv)
    rw [hcq] at hcl2
    simp only [bs_length] at hcl2
    have D : Aside (cut1 61 (bs kv) = (bs k, bs v, f2)) := hcq
    clear hcut hbel hcq hb1 hp1
    cases f2
    · have X : Aside (none = R) := by
        show _ = _
        rw [← A.out, parseM, C.out]
        simp only [hM.out.1, D.out]
        rfl
      obtain ⟨ea, he⟩ := (hw.below hb2).errs 2 (by omega)
      have hgl : 2 < w.heap.size := by
        obtain ⟨b, hb⟩ := hw.errs 2 (by omega)
        exact lt_of_cell hb
      have hne1 : ¬ w.heap.size = 2 := by omega
      have hne2 : ¬ 2 = w.heap.size := by omega
      have hge : w.heap.size < w2.heap.size := (Array.getElem?_eq_some_iff.1 hp2).1
      obtain ⟨⟨c0, c1, c2, c3, c4⟩, f0, f1, f2, f3, f4⟩ := row5 hp2
      go_wp2_with fail
      go_region_held3 (fun W => W.cell? ⟨2, 0, none⟩ = some (.iface 201 (.pointer (some ea)))) ((simp (disch := (first | omega | (simp only [World.size_alloc, World.size_setCell, World.size_drew]; omega))) only [cellg_set, cellg_alloc, cellg_drew]; first | done | assumption)) (first | (go_at_call 107; refine (newInvalidMember_any _).mono ?_; rintro e w' ⟨rfl, rfl⟩))
      all_goals
        go_wp2_with fail
        (try simp only [Exit.inBlock, Exit.then]); refine bodyPost_ret (ret_cell_tmp rfl rfl (row_drew (row_alloc (row_set (row_set (row_set (row_set (row_set hp2 0 _) 1 _) 2 _) 3 _) 4 _) _)) Tryz.underlying98 rfl (by kernel_rfl)) rfl ?_
        refine ⟨(((((hb2.setCell (Nat.le_refl _) _).setCell (Nat.le_refl _) _).setCell (Nat.le_refl _) _).setCell (Nat.le_refl _) _).setCell (Nat.le_refl _) _ |>.alloc (by simp; omega) _).drew, ?_⟩
        rw [← X.out]; exact ⟨_, rfl⟩
    · have htk := Tryz.strings_TrimSpace_any k w2 (by omega) (hw.below hb2).space (hw.below hb2).utf8 (hw.below hb2).white
      have htl := trim_le (bs k)
      obtain ⟨kk, hkk⟩ : ∃ kk : ByteArray, kk = ⟨(Lib.trimSpaceD k.data.toList).toArray⟩ := ⟨_, rfl⟩
      have hkb : bs kk = Lib.trimSpaceD (bs k) := by subst hkk; rfl
      rw [← hkk] at htk
      rw [← hkb, bs_length, bs_length] at htl
      have K : Aside (bs kk = Lib.trimSpaceD (bs k)) := hkb
      clear hkk hkb
      go_wp2_with (go_at_fn 109; fail)
      refine htk.mono ?_
      rintro e w3 ⟨rfl, hbel⟩
      have hb3 := below_then hb2 hb2.size hbel
      have hp3 := (hbel.block _ (Array.getElem?_eq_some_iff.1 hp2).1).trans hp2
      clear htk hbel hb2 hp2
      have hvk := validateKey_any kk w3 (hw.below hb3) (by omega)
      obtain ⟨ok, hok⟩ : ∃ ok, keyOk (bs kk) = ok := ⟨_, rfl⟩
      rw [hok] at hvk
      have O : Aside (keyOk (bs kk) = ok) := hok
      clear hok
      go_wp2_with (go_at_fn 78; fail)
      refine hvk.mono ?_
      rintro e w4 ⟨rfl, hbel⟩
      have hb4 := below_then hb3 hb3.size hbel
      have hp4 := (hbel.block _ (Array.getElem?_eq_some_iff.1 hp3).1).trans hp3
      clear hvk hbel hb3 hp3
      cases ok
      · have X : Aside (none = R) := by
          show _ = _
          rw [← A.out, parseM, C.out]
          simp only [hM.out.1, D.out, ← K.out, O.out]
          rfl
        obtain ⟨ea, he⟩ := (hw.below hb4).errs 5 (by omega)
        have hgl : 5 < w.heap.size := by
          obtain ⟨b, hb⟩ := hw.errs 5 (by omega)
          exact lt_of_cell hb
        have hne1 : ¬ w.heap.size = 5 := by omega
        have hne2 : ¬ 5 = w.heap.size := by omega
        have hge : w.heap.size < w4.heap.size := (Array.getElem?_eq_some_iff.1 hp4).1
        obtain ⟨⟨c0, c1, c2, c3, c4⟩, f0, f1, f2, f3, f4⟩ := row5 hp4
        go_wp2_with fail
        go_region_held3 (fun W => W.cell? ⟨5, 0, none⟩ = some (.iface 201 (.pointer (some ea)))) ((simp (disch := (first | omega | (simp only [World.size_alloc, World.size_setCell, World.size_drew]; omega))) only [cellg_set, cellg_alloc, cellg_drew]; first | done | assumption)) (first | (go_at_call 107; refine (newInvalidMember_any _).mono ?_; rintro e w' ⟨rfl, rfl⟩))
        all_goals
          go_wp2_with fail
          (try simp only [Exit.inBlock, Exit.then]); refine bodyPost_ret (ret_cell_tmp rfl rfl (row_drew (row_alloc (row_set (row_set (row_set (row_set (row_set hp4 0 _) 1 _) 2 _) 3 _) 4 _) _)) Tryz.underlying98 rfl (by kernel_rfl)) rfl ?_
          refine ⟨(((((hb4.setCell (Nat.le_refl _) _).setCell (Nat.le_refl _) _).setCell (Nat.le_refl _) _).setCell (Nat.le_refl _) _).setCell (Nat.le_refl _) _ |>.alloc (by simp; omega) _).drew, ?_⟩
          rw [← X.out]; exact ⟨_, rfl⟩
      · have htk := Tryz.strings_TrimSpace_any v w4 (by omega) (hw.below hb4).space (hw.below hb4).utf8 (hw.below hb4).white
        have htl2 := trim_le (bs v)
        obtain ⟨vv, hkk⟩ : ∃ kk : ByteArray, kk = ⟨(Lib.trimSpaceD v.data.toList).toArray⟩ := ⟨_, rfl⟩
        have hkb : bs vv = Lib.trimSpaceD (bs v) := by subst hkk; rfl
        rw [← hkk] at htk
        rw [← hkb, bs_length, bs_length] at htl2
        have V : Aside (bs vv = Lib.trimSpaceD (bs v)) := hkb
        clear hkk hkb
        go_wp2_with (go_at_fn 109; fail)
        refine htk.mono ?_
        rintro e w5 ⟨rfl, hbel⟩
        have hb5 := below_then hb4 hb4.size hbel
        have hp5 := (hbel.block _ (Array.getElem?_eq_some_iff.1 hp4).1).trans hp4
        clear htk hbel hb4 hp4
        have hvk := validateValue_loop vv w5 (hw.below hb5) (by omega)
        obtain ⟨ok, hok⟩ : ∃ ok, (bs vv).all oct = ok := ⟨_, rfl⟩
        rw [hok] at hvk
        have P : Aside ((bs vv).all oct = ok) := hok
        clear hok
        go_wp2_with (go_at_fn 118; fail)
        refine hvk.mono ?_
        rintro e w6 ⟨rfl, hbel⟩
        have hb6 := below_then hb5 hb5.size hbel
        have hp6 := (hbel.block _ (Array.getElem?_eq_some_iff.1 hp5).1).trans hp5
        clear hvk hbel hb5 hp5
        cases ok
        · have X : Aside (none = R) := by
            show _ = _
            rw [← A.out, parseM, C.out]
            simp only [hM.out.1, D.out, ← K.out, O.out, ← V.out, P.out]
            rfl
          obtain ⟨ea, he⟩ := (hw.below hb6).errs 6 (by omega)
          have hgl : 6 < w.heap.size := by
            obtain ⟨b, hb⟩ := hw.errs 6 (by omega)
            exact lt_of_cell hb
          have hne1 : ¬ w.heap.size = 6 := by omega
          have hne2 : ¬ 6 = w.heap.size := by omega
          have hge : w.heap.size < w6.heap.size := (Array.getElem?_eq_some_iff.1 hp6).1
          obtain ⟨⟨c0, c1, c2, c3, c4⟩, f0, f1, f2, f3, f4⟩ := row5 hp6
          go_wp2_with fail
          go_region_held3 (fun W => W.cell? ⟨6, 0, none⟩ = some (.iface 201 (.pointer (some ea)))) ((simp (disch := (first | omega | (simp only [World.size_alloc, World.size_setCell, World.size_drew]; omega))) only [cellg_set, cellg_alloc, cellg_drew]; first | done | assumption)) (first | (go_at_call 107; refine (newInvalidMember_any _).mono ?_; rintro e w' ⟨rfl, rfl⟩))
          all_goals
            go_wp2_with fail
            (try simp only [Exit.inBlock, Exit.then]); refine bodyPost_ret (ret_cell_tmp rfl rfl (row_drew (row_alloc (row_set (row_set (row_set (row_set (row_set hp6 0 _) 1 _) 2 _) 3 _) 4 _) _)) Tryz.underlying98 rfl (by kernel_rfl)) rfl ?_
            refine ⟨(((((hb6.setCell (Nat.le_refl _) _).setCell (Nat.le_refl _) _).setCell (Nat.le_refl _) _).setCell (Nat.le_refl _) _).setCell (Nat.le_refl _) _ |>.alloc (by simp; omega) _).drew, ?_⟩
            rw [← X.out]; exact ⟨_, rfl⟩
        · have hun := zzPathUnescape_any vv w6 (by omega)
          have Y : Aside ((unesc (bs vv)).map (fun u => (bs kk, fixU u, bs m)) = R) := by
            show _ = _
            rw [← A.out, parseM, C.out]
            simp only [hM.out.1, hM.out.2, D.out, ← K.out, O.out, ← V.out, P.out]
            rfl
          clear A
          go_wp2_with (go_at_fn 119; fail)
          refine hun.mono ?_
          rintro e w7 ⟨hbel, hm⟩
          have hb7 := below_then hb6 hb6.size hbel
          have hp7 := (hbel.block _ (Array.getElem?_eq_some_iff.1 hp6).1).trans hp6
          clear hun hbel hb6 hp6
          cases hu : unesc (bs vv) with
          | none =>
            rw [hu] at hm
            obtain ⟨t, a, rfl⟩ := hm
            have X : Aside (none = R) := by have := Y.out; rw [hu] at this; exact this
            clear Y hu
            obtain ⟨ea, he⟩ := (hw.below hb7).errs 6 (by omega)
            have hgl : 6 < w.heap.size := by
              obtain ⟨b, hb⟩ := hw.errs 6 (by omega)
              exact lt_of_cell hb
            have hne1 : ¬ w.heap.size = 6 := by omega
            have hne2 : ¬ 6 = w.heap.size := by omega
            have hge : w.heap.size < w7.heap.size := (Array.getElem?_eq_some_iff.1 hp7).1
            obtain ⟨⟨c0, c1, c2, c3, c4⟩, f0, f1, f2, f3, f4⟩ := row5 hp7
            go_wp2_with fail
            go_region_held3 (fun W => W.cell? ⟨6, 0, none⟩ = some (.iface 201 (.pointer (some ea)))) ((simp (disch := (first | omega | (simp only [World.size_alloc, World.size_setCell, World.size_drew]; omega))) only [cellg_set, cellg_alloc, cellg_drew]; first | done | assumption)) (first | (go_at_call 107; refine (newInvalidMember_any _).mono ?_; rintro e w' ⟨rfl, rfl⟩))
            all_goals
              go_wp2_with fail
              (try simp only [Exit.inBlock, Exit.then]); refine bodyPost_ret (ret_cell_tmp rfl rfl (row_drew (row_alloc (row_set (row_set (row_set (row_set (row_set hp7 0 _) 1 _) 2 _) 3 _) 4 _) _)) Tryz.underlying98 rfl (by kernel_rfl)) rfl ?_
              refine ⟨(((((hb7.setCell (Nat.le_refl _) _).setCell (Nat.le_refl _) _).setCell (Nat.le_refl _) _).setCell (Nat.le_refl _) _).setCell (Nat.le_refl _) _ |>.alloc (by simp; omega) _).drew, ?_⟩
              rw [← X.out]; exact ⟨_, rfl⟩
          | some u =>
            rw [hu] at hm
            subst hm
            have hul := unesc_le hu
            rw [bs_length] at hul
            have X : Aside (some (bs kk, fixU u, bs m) = R) := by have := Y.out; rw [hu] at this; exact this
            clear Y hu
            obtain ⟨ub, hub⟩ : ∃ ub : ByteArray, S u = .string ub ∧ bs ub = u := ⟨⟨u.toArray⟩, rfl, by simp [bs]⟩
            have hus : ub.size = u.length := by rw [← bs_length, hub.2]
            have hfx := replaceInvalid_any vv.size ub w7 (hw.below hb7) (by omega) (by omega)
            rw [hub.2] at hfx
            rw [hub.1]
            obtain ⟨fx, hfe⟩ : ∃ fx : ByteArray, S (fixU u) = .string fx := ⟨_, rfl⟩
            have FX : Aside (S (fixU u) = .string fx) := hfe
            rw [hfe] at hfx
            clear hfe hub
            go_wp2_with (go_at_fn 132; fail)
            refine hfx.mono ?_
            rintro e w8 ⟨rfl, hbel⟩
            have hb8 := below_then hb7 hb7.size hbel
            have hp8 := (hbel.block _ (Array.getElem?_eq_some_iff.1 hp7).1).trans hp7
            clear hfx hbel hb7 hp7
            obtain ⟨⟨c0, c1, c2, c3, c4⟩, f0, f1, f2, f3, f4⟩ := row5 hp8
            go_wp2_with fail
            (try simp only [Exit.inBlock, Exit.then]); refine bodyPost_ret (ret_cell_tmp rfl rfl (row_set (row_set (row_set (row_set (row_set hp8 0 _) 1 _) 2 _) 3 _) 4 _) Tryz.underlying98 rfl (by kernel_rfl)) rfl ?_
            refine ⟨((((hb8.setCell (Nat.le_refl _) _).setCell (Nat.le_refl _) _).setCell (Nat.le_refl _) _).setCell (Nat.le_refl _) _).setCell (Nat.le_refl _) _, ?_⟩
            rw [← X.out]
            simp only [← S_bs, FX.out]
            rfl
end Go.Proofs.YtleofgndghjflaaGreatDoor

set_option linter.unusedVariables false
set_option linter.unusedSimpArgs false
namespace Go.Proofs.YtleofgndghjflaaGreatDoor
open Go Go.RowKit

theorem bs_app (a b : ByteArray) : bs (a ++ b) = bs a ++ bs b := by simp [bs]
def pstr (p : Pr) : List UInt8 := if keyOk p.1 then (match p.2 with | none => p.1 | some v => p.1 ++ 61 :: enc v) else []
theorem cell_bel {W W' : World} (hb : Below W.heap.size W W') {b o : Nat} {v : Value} (h : W.cell? ⟨b, o, none⟩ = some v) : W'.cell? ⟨b, o, none⟩ = some v :=
  cell_keep (hb.block b (lt_of_cell h)) h

theorem run_cat (a b : ByteArray) (ha : a.size ≤ 8000000) (hb : b.size ≤ 8000000) : ∀ W, (binOp .add 9 (.string a) (.string b)).run Tryz.prog W = .ok (.string (a ++ b)) W := by
  intro W
  have h1 : (a.size : Int) ≤ 8388608 := by omega
  have h2 : (b.size : Int) ≤ 8388608 := by omega
  simp [binOp, run_string_add, *, Tryz.underlying9, go_sem]

set_option maxHeartbeats 1000000 in
set_option maxRecDepth 100000 in
theorem propertyString_any (k v : ByteArray) (h : Bool) (w : World) (hw : Laid w) (hk : k.size ≤ 1000000) (hv : v.size ≤ 1000000) :
    Calls Tryz.prog 40 #[.agg #[.string k, .string v, .bool h]] w fun e w' => e = .returned (S (pstr (bs k, if h then some (bs v) else none))) ∧ Below w.heap.size w w' := by
  obtain ⟨R, hR⟩ : ∃ R, S (pstr (bs k, if h then some (bs v) else none)) = R := ⟨_, rfl⟩
  rw [hR]
  have A : Aside (S (pstr (bs k, if h then some (bs v) else none)) = R) := hR
  clear hR
  have hb0 : Below w.heap.size w (w.alloc (.cells #[.string k, .string v, .bool h] 86)) := (Below.refl _ _).alloc (Nat.le_refl _) _
  have hvk := validateKey_any k _ (hw.below hb0) hk
  obtain ⟨ok, hok⟩ : ∃ ok, keyOk (bs k) = ok := ⟨_, rfl⟩
  rw [hok] at hvk
  have O : Aside (keyOk (bs k) = ok) := hok
  clear hok
  go_enter Tryz.func40, Tryz.ntmps40
  go_wp2_with (go_at_fn 78; fail)
  refine hvk.mono ?_
  rintro e w1 ⟨rfl, hbel⟩
  have hp1 : w1.heap[w.heap.size]? = some (.cells #[.string k, .string v, .bool h] 86 (0, 0)) := (hbel.block _ (by simp)).trans (heap_alloc_new _ _)
  have hb1 : Below w.heap.size w w1 := below_then hb0 hb0.size hbel
  clear hvk hbel hb0
  obtain ⟨⟨c0, c1, c2⟩, f0, f1, f2⟩ := row3 hp1
  cases ok
  · go_wp2_with fail
    go_ret
    refine ⟨?_, hb1⟩
    rw [← A.out, pstr, O.out]
    rfl
  · cases h
    · go_wp2_with fail
      go_ret
      refine ⟨?_, hb1⟩
      rw [← A.out, pstr, O.out]
      show Ending.returned (.string k) = _
      rw [S_bs]
      rfl
    · obtain ⟨ev, hev⟩ : ∃ ev : ByteArray, S (enc (bs v)) = .string ev ∧ bs ev = enc (bs v) := ⟨⟨(enc (bs v)).toArray⟩, rfl, rfl⟩
      have hve := fun W (hW : Below w.heap.size w W) => valueEscape_any v W (hw.below hW) hv
      rw [hev.1] at hve
      have E : Aside (bs ev = enc (bs v)) := hev.2
      clear hev
      have evz : ev.size ≤ 3000000 := by
        rw [← bs_length, E.out, enc_len, bs_length]
        have := cntE_le (bs v)
        rw [bs_length] at this
        omega
      have n1 : (9223372036854775807 < k.size + 1) = False := by rw [eq_iff_iff, iff_false]; omega
      have n2 : (9223372036854775807 < k.size + 1 + ev.size) = False := by rw [eq_iff_iff, iff_false]; omega
      go_wp2_with fail
      go_region_held3 (fun W => Below w.heap.size w W ∧ W.cell? ⟨w.heap.size, 0, none⟩ = some (.string k) ∧ W.cell? ⟨w.heap.size, 1, none⟩ = some (.string v)) ((first | exact ⟨hb1.drew, c0, c1⟩ | exact ⟨below_then hb1.drew hb1.drew.size hbel, cell_bel (W := w1.drew) hbel c0, cell_bel (W := w1.drew) hbel c1⟩)) (first | (go_at_call 79; refine (hve _ hb1.drew).mono ?_; rintro e w' ⟨rfl, hbel⟩))
      all_goals
        go_wp2_with fail
        go_ret
        refine ⟨?_, below_then hb1.drew hb1.drew.size hbel⟩
        rw [← A.out, pstr, O.out]
        show Ending.returned (.string _) = _
        rw [S_bs]
        rw [bs_app, bs_app, E.out]
        simp [bs]
end Go.Proofs.YtleofgndghjflaaGreatDoor

set_option linter.unusedVariables false
set_option linter.unusedSimpArgs false
namespace Go.Proofs.YtleofgndghjflaaGreatDoor
open Go Go.RowKit

theorem lens_le (M : Nat) : ∀ l : List (List UInt8), (∀ x ∈ l, x.length ≤ M) → Lib.lens l ≤ l.length * M
  | [], _ => by simp [Lib.lens]
  | x :: r, h => by
    have h1 := lens_le M r (fun y hy => h y (by simp [hy]))
    have h2 := h x (by simp)
    have : Lib.lens (x :: r) = x.length + Lib.lens r := by simp [Lib.lens]
    rw [this, List.length_cons, Nat.add_mul]
    omega
theorem join_le (M : Nat) (l : List (List UInt8)) (sep : List UInt8) (h : ∀ x ∈ l, x.length ≤ M) : (Lib.join l sep).length ≤ l.length * (M + sep.length) := by
  match l, h with
  | [], _ => simp [Lib.join_nil]
  | x :: r, h =>
    have h1 := lens_le M (x :: r) h
    rw [Lib.join_length, List.length_cons, Nat.mul_add]
    rw [List.length_cons] at h1
    have : sep.length * r.length ≤ (r.length + 1) * sep.length := by rw [Nat.mul_comm]; exact Nat.mul_le_mul_right _ (by omega)
    omega

theorem join_any {ty : Bool} (l : List (List UInt8)) (v : Value) (sep : ByteArray) (w : World) (h : Rd ty w 9 v l.length 1 (strs l)) (hn : l.length ≤ 1000000) (hlen : (Lib.join l (bs sep)).length ≤ 140737488355328) :
    Calls Tryz.prog 25 #[v, .string sep] w fun e w' => e = .returned (S (Lib.join l (bs sep))) ∧ Below w.heap.size w w' := by
  rcases Nat.eq_zero_or_pos l.length with h0 | h0
  · obtain ⟨A, c, rfl, _⟩ := h.shape
    rw [h0, List.eq_nil_of_length_eq_zero h0]
    refine (Tryz.strings_Join_none A c sep w).mono ?_
    rintro e w' ⟨rfl, rfl⟩
    exact ⟨rfl, Below.refl _ _⟩
  · obtain ⟨b, o, c, rfl, hnc, hcm, hc⟩ := h.cells h0
    have hm : (l.map fun x => (⟨x.toArray⟩ : ByteArray)).map (·.data.toList) = l := by simp [Function.comp_def]
    have hl : (l.map fun x => (⟨x.toArray⟩ : ByteArray)).length = l.length := by simp
    have hcells : ∀ (j : Nat) x, (l.map fun x => (⟨x.toArray⟩ : ByteArray))[j]? = some x → w.cell? ⟨b, o + j, none⟩ = some (.string x) := by
      intro j x hj
      refine hc j _ ?_
      rw [List.getElem?_map] at hj
      obtain ⟨y, hy, rfl⟩ := Option.map_eq_some_iff.1 hj
      simp [strs, hy, S]
    have := Tryz.strings_Join b o c (l.map fun x => ⟨x.toArray⟩) sep w hcells (lt_of_cell (hcells 0 _ (List.getElem?_eq_getElem (by rw [hl]; exact h0)))) (by rw [hl]; omega) (by rw [hl]; exact hnc) (by rw [hm]; exact hlen)
    rw [hm, hl] at this
    exact this

/-- The cells of a row of groups of three. -/
theorem fm3 {α : Type} (f : α → List Value) (h3 : ∀ p, (f p).length = 3) : ∀ (xs : List α) (i : Nat) (p : α), xs[i]? = some p → ∀ j : Nat, j < 3 → (xs.flatMap f)[i * 3 + j]? = (f p)[j]?
  | [], i, p, hi, j, hj => by simp at hi
  | x :: r, 0, p, hi, j, hj => by
    simp at hi
    subst hi
    rw [List.flatMap_cons, Nat.zero_mul, Nat.zero_add, List.getElem?_append_left (by rw [h3]; exact hj)]
  | x :: r, i + 1, p, hi, j, hj => by
    rw [List.flatMap_cons, List.getElem?_append_right (by rw [h3]; omega), h3]
    have := fm3 f h3 r i p (by simpa using hi) j hj
    rw [← this]
    congr 1
    omega
theorem Rd.at' {ty : Bool} {w : World} {t : TypeId} {b o n c sz : Nat} {xs : List Value} (h : Rd ty w t (.slice (some ⟨b, o, none⟩) n c) n sz xs) {j k : Nat} {u : Value} (hk : k = o + j) (hj : xs[j]? = some u) : w.cell? ⟨b, k, none⟩ = some u := by
  subst hk
  exact h.at hj

def propsStr (ps : List Pr) : List UInt8 := Lib.join ((ps.map pstr).filter (!·.isEmpty)) [59]
theorem enc_le (l : List UInt8) : (enc l).length ≤ 3 * l.length := by
  rw [enc_len]
  have := cntE_le l
  omega
def PrOk (M : Nat) (p : Pr) : Prop := p.1.length ≤ M ∧ (p.2.getD []).length ≤ M
theorem pstr_le (M : Nat) (p : Pr) (h : PrOk M p) : (pstr p).length ≤ 4 * M + 1 := by
  unfold pstr
  obtain ⟨h1, h2⟩ := h
  split
  · split
    · omega
    · rename_i v hv
      rw [hv] at h2
      have := enc_le v
      simp at h2 ⊢
      omega
  · simp

set_option maxHeartbeats 1000000 in
set_option maxRecDepth 100000 in
theorem propertiesString_any {ty : Bool} (ps : List Pr) (v : Value) (w : World) (hw : Laid w) (h : Rd ty w 86 v ps.length 3 (ps.flatMap pcells)) (hn : ps.length ≤ 100000) (hM : ∀ p ∈ ps, PrOk 1000000 p) :
    Calls Tryz.prog 87 #[v] w fun e w' => e = .returned (S (propsStr ps)) ∧ Below w.heap.size w w' := by
  obtain ⟨R, hR⟩ : ∃ R, S (propsStr ps) = R := ⟨_, rfl⟩
  rw [hR]
  have A : Aside (S (propsStr ps) = R) := hR
  clear hR
  obtain ⟨AD, c, rfl, hnc, hcm⟩ := h.shape
  have H : Aside (Rd ty w 86 (.slice AD ps.length c) ps.length 3 (ps.flatMap pcells)) := h
  clear h
  have hmk := run_make0 54 9 _ 1 16 Tryz.underlying54 Tryz.infoStr ps.length ps.length rfl (by omega) (by omega) w
  have ho := own_made w w.heap.size (.string ⟨#[]⟩) ps.length 1 9 (Nat.le_refl _) (by omega)
  have hb0 : Below w.heap.size w (w.alloc (.cells (madeCells (Value.string ⟨#[]⟩).cells (ps.length * 1)) 9)) := (Below.refl _ _).alloc (Nat.le_refl _) _
  obtain ⟨wm, hwm⟩ : ∃ wm, w.alloc (.cells (madeCells (Value.string ⟨#[]⟩).cells (ps.length * 1)) 9) = wm := ⟨_, rfl⟩
  rw [hwm] at hmk ho hb0
  clear hwm
  obtain ⟨V, hV⟩ : ∃ V : Value, .slice (some ⟨w.heap.size, 0, none⟩) 0 ps.length = V := ⟨_, rfl⟩
  rw [hV] at ho hmk
  clear hV
  go_enter Tryz.func87, Tryz.ntmps87
  go_wp2_with fail
  go_loopg [3, 12] (ps.length + 1) (fun gk ow i wx => Below w.heap.size w wx ∧ ∃ (k : Nat) (done : List (List UInt8)), i = .int .i64 k ∧ k ≤ ps.length ∧ k + gk = ps.length + 1 ∧ done.length ≤ k ∧ wx.ownsRow w.heap.size 9 1 ow done.length (strs done) ∧ Aside (done = ((ps.take k).map pstr).filter (!·.isEmpty)))
  case atStart => exact ⟨hb0, 0, [], rfl, by omega, by omega, by simp, ho, by show _ = _; simp⟩
  case round =>
    clear hb0 ho hmk
    obtain ⟨hb, k, done, rfl, hk, hg, hdl, ho, hX⟩ := hrel
    have hws := hb.size
    by_cases hlt : k < ps.length
    · obtain ⟨p, hp⟩ : ∃ p, ps[k] = p := ⟨_, rfl⟩
      have hpk : ps[k]? = some p := by rw [List.getElem?_eq_getElem hlt, hp]
      have hMp := hM p (by rw [← hp]; exact List.getElem_mem hlt)
      obtain ⟨b, o, c', he, _, _, _⟩ := (H.out.below hb).cells (by omega)
      injection he with he1 he2 he3
      subst he1 he3
      clear he2
      obtain ⟨kb, vb, hh, hpc⟩ : ∃ kb vb hh, pcells p = [.string kb, .string vb, .bool hh] ∧ bs kb = p.1 ∧ bs vb = p.2.getD [] ∧ hh = p.2.isSome := ⟨⟨p.1.toArray⟩, ⟨(p.2.getD []).toArray⟩, p.2.isSome, rfl, by simp [bs], by simp [bs], rfl⟩
      have hat := fun j hj => fm3 pcells pcells_len ps k p hpk j hj
      have c0 : wr.cell? ⟨b, o + k * 3, none⟩ = some (.string kb) := (H.out.below hb).at' rfl (by have := hat 0 (by omega); rw [hpc.1] at this; simpa using this)
      have c1 : wr.cell? ⟨b, o + k * 3 + 1, none⟩ = some (.string vb) := (H.out.below hb).at' (j := k * 3 + 1) (by omega) (by have := hat 1 (by omega); rw [hpc.1] at this; simpa using this)
      have c2 : wr.cell? ⟨b, o + k * 3 + 2, none⟩ = some (.bool hh) := (H.out.below hb).at' (j := k * 3 + 2) (by omega) (by have := hat 2 (by omega); rw [hpc.1] at this; simpa using this)
      have hpe : p = (bs kb, if hh then some (bs vb) else none) := by
        obtain ⟨p1, p2⟩ := p
        rw [hpc.2.1, hpc.2.2.1, hpc.2.2.2]
        cases p2 <;> rfl
      have hks : kb.size ≤ 1000000 := by rw [← bs_length, hpc.2.1]; exact hMp.1
      have hvs : vb.size ≤ 1000000 := by rw [← bs_length, hpc.2.2.1]; exact hMp.2
      have hcall := propertyString_any kb vb hh (wr.alloc (.cells #[.string kb, .string vb, .bool hh] 86)) (hw.below (hb.alloc hws _)) hks hvs
      rw [← hpe] at hcall
      obtain ⟨sb, hsb⟩ : ∃ sb : ByteArray, S (pstr p) = .string sb ∧ bs sb = pstr p := ⟨⟨(pstr p).toArray⟩, rfl, rfl⟩
      rw [hsb.1] at hcall
      have hbk : b < wr.heap.size := lt_of_cell c0
      have X : Aside ((if sb.toList.isEmpty then done else done ++ [bs sb]) = ((ps.take (k + 1)).map pstr).filter (!·.isEmpty) ∧ S (bs sb) = .string sb) := by
        refine ⟨?_, (S_bs sb).symm⟩
        rw [List.take_succ_eq_append_getElem hlt, hp, List.map_append, List.filter_append, ← hX.out, toList_empty, hsb.2]
        cases h : (pstr p).isEmpty
        · simp [h]
        · simp [h]
      clear hat hpk hp hpc hpe hX hsb hMp
      go_wp2_with (go_at_fn 40; fail)
      refine hcall.mono ?_
      rintro e w5 ⟨rfl, hbel⟩
      have hb5 : Below w.heap.size w w5 := below_then (hb.alloc hws _) (hb.alloc hws _).size hbel
      have ho5 := own_below (C := 0) (ho.alloc _) hbel
      clear hcall hbel ho
      cases hse : sb.toList.isEmpty
      · go_wp2_with (at_builtin; go_must (refine wp_app w.heap.size rfl _ _ 54 rfl 9 (.string ⟨#[]⟩) 1 16 Tryz.underlying54 Tryz.infoStr rfl (by decide) u3 done.length _ [.string sb] rfl rfl rfl (one_str sb) ho5 hb5.size (by omega) (by omega) ?_); intro v1 w2 ho2 hb2 hf2 hs2)
        go_wp2_with fail
        go_roundg (gk - 1)
        case rel =>
          refine ⟨hb5.trans hb2, k + 1, done ++ [bs sb], by go_num, by omega, by omega, by simp; omega, ?_, ?_⟩
          · rw [strs, List.map_append, List.length_append]
            show World.ownsRow _ _ _ _ _ _ (done.map S ++ [S (bs sb)])
            rw [X.out.2]
            exact ho2
          · have := X.out.1
            rw [hse] at this
            exact this
        case measure => omega
      · go_wp2_with fail
        go_roundg (gk - 1)
        case rel =>
          refine ⟨hb5, k + 1, done, by go_num, by omega, by omega, by omega, ho5, ?_⟩
          have := X.out.1
          rw [hse] at this
          exact this
        case measure => omega
    · have hfin : Aside (done = (ps.map pstr).filter (!·.isEmpty)) := by
        have := hX.out
        rw [List.take_of_length_le (by omega)] at this
        exact this
      have hMd : ∀ x ∈ done, x.length ≤ 4000001 := by
        rw [hfin.out]
        intro x hx
        obtain ⟨p, hp, rfl⟩ := List.mem_map.1 (List.mem_filter.1 hx).1
        exact pstr_le 1000000 p (hM p hp)
      have hjl := join_le 4000001 done (bs ⟨#[59]⟩) hMd
      have hjl2 : (Lib.join done (bs ⟨#[59]⟩)).length ≤ 140737488355328 := by
        refine Nat.le_trans hjl ?_
        have : done.length * (4000001 + (bs ⟨#[59]⟩).length) ≤ 100000 * (4000001 + 1) := Nat.mul_le_mul (by omega) (Nat.le_refl _)
        omega
      have hj := join_any done u3 ⟨#[59]⟩ wr (Rd.of_own ho) (by omega) hjl2
      have Y : Aside (S (Lib.join done (bs ⟨#[59]⟩)) = R) := by
        show _ = _
        rw [← A.out, propsStr, hfin.out]
        try rfl
      obtain ⟨jb, hjb⟩ : ∃ jb : ByteArray, S (Lib.join done (bs ⟨#[59]⟩)) = .string jb := ⟨_, rfl⟩
      rw [hjb] at hj Y
      clear hjb hX hfin hMd hjl hjl2
      go_wp2_with (go_at_fn 25; fail)
      refine hj.mono ?_
      rintro e w5 ⟨rfl, hbel⟩
      go_wp2_with fail
      go_ret
      exact ⟨congrArg Ending.returned Y.out, below_then hb hws hbel⟩
end Go.Proofs.YtleofgndghjflaaGreatDoor

set_option linter.unusedVariables false
set_option linter.unusedSimpArgs false
namespace Go.Proofs.YtleofgndghjflaaGreatDoor
open Go Go.RowKit

/-- A member: its key, its value, its metadata, its properties. -/
structure Mem where
  key : List UInt8
  val : List UInt8
  meta' : List UInt8
  props : List Pr
def memTail (m : Mem) : List UInt8 := if m.meta'.isEmpty then (if m.props = [] then [] else 59 :: propsStr m.props) else 59 :: m.meta'
def memStr (m : Mem) : List UInt8 := if keyOk m.key then m.key ++ 61 :: (enc m.val ++ memTail m) else []
structure MemOk (m : Mem) : Prop where
  key : m.key.length ≤ 1000000
  val : m.val.length ≤ 1000000
  meta' : m.meta'.length ≤ 1000000
  num : m.props.length ≤ 100000
  props : ∀ p ∈ m.props, PrOk 1000000 p

theorem propsStr_le (ps : List Pr) (hn : ps.length ≤ 100000) (hM : ∀ p ∈ ps, PrOk 1000000 p) : (propsStr ps).length ≤ 400000300000 := by
  have := join_le 4000001 ((ps.map pstr).filter (!·.isEmpty)) [59] (fun x hx => by
    obtain ⟨p, hp, rfl⟩ := List.mem_map.1 (List.mem_filter.1 hx).1
    exact pstr_le 1000000 p (hM p hp))
  refine Nat.le_trans this ?_
  have h1 : ((ps.map pstr).filter (!·.isEmpty)).length ≤ 100000 := Nat.le_trans (List.length_filter_le _ _) (by simpa using hn)
  refine Nat.le_trans (Nat.mul_le_mul h1 (Nat.le_refl _)) ?_
  simp

set_option maxHeartbeats 1000000 in
set_option maxRecDepth 100000 in
theorem memberString_any {ty : Bool} (m : Mem) (kb vb mb : ByteArray) (pv : Value) (d : Bool) (w : World) (hw : Laid w) (hm : MemOk m) (hk : bs kb = m.key) (hv : bs vb = m.val) (hme : bs mb = m.meta')
    (hp : Rd ty w 86 pv m.props.length 3 (m.props.flatMap pcells)) :
    Calls Tryz.prog 46 #[.agg #[.string kb, .string vb, .string mb, pv, .bool d]] w fun e w' => e = .returned (S (memStr m)) ∧ Below w.heap.size w w' := by
  obtain ⟨R, hR⟩ : ∃ R, S (memStr m) = R := ⟨_, rfl⟩
  rw [hR]
  have A : Aside (S (memStr m) = R) := hR
  clear hR
  have hks : kb.size ≤ 1000000 := by rw [← bs_length, hk]; exact hm.key
  have hvs : vb.size ≤ 1000000 := by rw [← bs_length, hv]; exact hm.val
  have hms : mb.size ≤ 1000000 := by rw [← bs_length, hme]; exact hm.meta'
  obtain ⟨AD, c, rfl, hnc, hcm⟩ := hp.shape
  have H : Aside (Rd ty w 86 (.slice AD m.props.length c) m.props.length 3 (m.props.flatMap pcells)) := hp
  have HM : Aside (MemOk m) := hm
  have Q : Aside (bs kb = m.key ∧ bs vb = m.val ∧ bs mb = m.meta') := ⟨hk, hv, hme⟩
  have hn := hm.num
  clear hp hm hk hv hme
  have hb0 : Below w.heap.size w (w.alloc (.cells #[.string kb, .string vb, .string mb, .slice AD m.props.length c, .bool d] 98)) := (Below.refl _ _).alloc (Nat.le_refl _) _
  have hvk := validateKey_any kb _ (hw.below hb0) hks
  obtain ⟨ok, hok⟩ : ∃ ok, keyOk (bs kb) = ok := ⟨_, rfl⟩
  rw [hok] at hvk
  have O : Aside (keyOk m.key = ok) := by rw [← Q.out.1]; exact hok
  clear hok
  go_enter Tryz.func46, Tryz.ntmps46
  go_wp2_with (go_at_fn 78; fail)
  refine hvk.mono ?_
  rintro e w1 ⟨rfl, hbel⟩
  have hp1 : w1.heap[w.heap.size]? = some (.cells #[.string kb, .string vb, .string mb, .slice AD m.props.length c, .bool d] 98 (0, 0)) := (hbel.block _ (by simp)).trans (heap_alloc_new _ _)
  have hb1 : Below w.heap.size w w1 := below_then hb0 hb0.size hbel
  clear hvk hbel hb0
  obtain ⟨⟨c0, c1, c2, c3, c4⟩, f0, f1, f2, f3, f4⟩ := row5 hp1
  cases ok
  · go_wp2_with fail
    go_ret
    refine ⟨?_, hb1⟩
    rw [← A.out, memStr, O.out]
    rfl
  · obtain ⟨ev, hev⟩ : ∃ ev : ByteArray, S (enc (bs vb)) = .string ev ∧ bs ev = enc (bs vb) := ⟨⟨(enc (bs vb)).toArray⟩, rfl, rfl⟩
    have hve := fun W (hW : Below w.heap.size w W) => valueEscape_any vb W (hw.below hW) hvs
    rw [hev.1] at hve
    have evz : ev.size ≤ 3000000 := by
      have h1 := enc_le (bs vb)
      rw [← hev.2, bs_length, bs_length] at h1
      omega
    have E : Aside (bs ev = enc (bs vb)) := hev.2
    clear hev
    have n1 : (9223372036854775807 < kb.size + 1) = False := by rw [eq_iff_iff, iff_false]; omega
    have n2 : (9223372036854775807 < kb.size + 1 + ev.size) = False := by rw [eq_iff_iff, iff_false]; omega
    have n3 : (9223372036854775807 < 1 + mb.size) = False := by rw [eq_iff_iff, iff_false]; omega
    have n4 : (9223372036854775807 < kb.size + 1 + ev.size + (1 + mb.size)) = False := by rw [eq_iff_iff, iff_false]; omega
    go_wp2_with fail
    go_region_held3 (fun W => W.cell? ⟨w.heap.size, 0, none⟩ = some (.string kb) ∧ W.cell? ⟨w.heap.size, 1, none⟩ = some (.string vb)) ((first | exact ⟨c0, c1⟩ | exact ⟨cell_bel (W := w1.drew) hbel c0, cell_bel (W := w1.drew) hbel c1⟩)) (first | (go_at_call 79; refine (hve _ hb1.drew).mono ?_; rintro e w' ⟨rfl, hbel⟩))
    all_goals
      have hb2 := below_then hb1.drew hb1.drew.size hbel
      have hp2 := (hbel.block _ (Array.getElem?_eq_some_iff.1 hp1).1).trans hp1
      clear hbel hve c0 c1 c2 c3 c4 f0 f1 f2 f3 f4 hb1 hp1
      rename_i hS
      clear hS
      obtain ⟨⟨c0, c1, c2, c3, c4⟩, f0, f1, f2, f3, f4⟩ := row5 hp2
      cases hme : mb.toList.isEmpty
      · have Y : Aside (Value.string (kb ++ ⟨#[61]⟩ ++ ev ++ (⟨#[59]⟩ ++ mb)) = R) := by
          show _ = _
          rw [← A.out, S_bs, memStr, memTail, O.out, ← Q.out.2.2, ← toList_empty, hme]
          simp only [bs_app, E.out, Q.out.1, Q.out.2.1]
          simp [bs]
        go_wp2_with fail
        go_ret
        exact ⟨congrArg Ending.returned Y.out, hb2⟩
      · by_cases hz : m.props.length = 0
        · have Y : Aside (Value.string (kb ++ ⟨#[61]⟩ ++ ev) = R) := by
            show _ = _
            rw [← A.out, S_bs, memStr, memTail, O.out, ← Q.out.2.2, ← toList_empty, hme, List.eq_nil_of_length_eq_zero hz]
            simp only [bs_app, E.out, Q.out.1, Q.out.2.1]
            simp [bs]
          go_wp2_with fail
          go_ret
          exact ⟨congrArg Ending.returned Y.out, hb2⟩
        · have hz1 : 0 < m.props.length := by omega
          have hps := propertiesString_any m.props _ w' (hw.below hb2) (H.out.below hb2) hn HM.out.props
          have hpl := propsStr_le m.props hn HM.out.props
          obtain ⟨pb, hpb⟩ : ∃ pb : ByteArray, S (propsStr m.props) = .string pb ∧ bs pb = propsStr m.props := ⟨⟨(propsStr m.props).toArray⟩, rfl, rfl⟩
          rw [hpb.1] at hps
          rw [← hpb.2, bs_length] at hpl
          have n5 : (9223372036854775807 < 1 + pb.size) = False := by rw [eq_iff_iff, iff_false]; omega
          have n6 : (9223372036854775807 < kb.size + 1 + ev.size + (1 + pb.size)) = False := by rw [eq_iff_iff, iff_false]; omega
          have Y : Aside (Value.string (kb ++ ⟨#[61]⟩ ++ ev ++ (⟨#[59]⟩ ++ pb)) = R) := by
            show _ = _
            have hmt : memTail m = 59 :: propsStr m.props := by
              have h1 : m.props ≠ [] := by intro h; rw [h] at hz; exact hz rfl
              unfold memTail
              rw [← Q.out.2.2, ← toList_empty, hme]
              simp [h1]
            rw [← A.out, S_bs, memStr, hmt, O.out]
            simp only [bs_app, E.out, Q.out.1, Q.out.2.1, hpb.2]
            simp [bs]
          clear hpb
          go_wp2_with (go_at_fn 87; fail)
          refine hps.mono ?_
          rintro e w3 ⟨rfl, hbel⟩
          go_wp2_with fail
          go_ret
          exact ⟨congrArg Ending.returned Y.out, below_then hb2 hb2.size hbel⟩
end Go.Proofs.YtleofgndghjflaaGreatDoor

set_option linter.unusedVariables false
set_option linter.unusedSimpArgs false
namespace Go.Proofs.YtleofgndghjflaaGreatDoor
open Go Go.RowKit

/-- A row that is being filled. -/
def Fil (w : World) (B : Nat) (e : TypeId) (N : Nat) (xs : List Value) : Prop :=
  ∃ cs, w.heap[B]? = some (.cells cs e (0, 0)) ∧ cs.size = N ∧ ∀ (j : Nat) u, xs[j]? = some u → cs[j]? = some u
theorem Fil.made (w : World) (e : TypeId) (z : Value) (N : Nat) : Fil (w.alloc (.cells (madeCells z.cells N) e)) w.heap.size e N [] :=
  ⟨_, heap_alloc_new _ _, size_madeCells _ _, fun j u h => by simp at h⟩
theorem Fil.below {w w' : World} {B : Nat} {e : TypeId} {N : Nat} {xs : List Value} (h : Fil w B e N xs) (hb : Below w.heap.size w w') : Fil w' B e N xs := by
  obtain ⟨cs, h1, h2, h3⟩ := h
  exact ⟨cs, (hb.block _ (Array.getElem?_eq_some_iff.1 h1).1).trans h1, h2, h3⟩
theorem Fil.lt {w : World} {B : Nat} {e : TypeId} {N : Nat} {xs : List Value} (h : Fil w B e N xs) : B < w.heap.size := by
  obtain ⟨cs, h1, _⟩ := h
  exact (Array.getElem?_eq_some_iff.1 h1).1
theorem Fil.cell {w : World} {B : Nat} {e : TypeId} {N : Nat} {xs : List Value} (h : Fil w B e N xs) (j : Nat) (hj : j < N) : (∃ u, w.cell? ⟨B, j, none⟩ = some u) ∧ w.frozen? ⟨B, j, none⟩ = false := by
  obtain ⟨cs, h1, h2, _⟩ := h
  exact ⟨⟨cs[j]'(by omega), by rw [cell_of_row _ _ _ _ _ _ h1]; exact Array.getElem?_eq_getElem (by omega)⟩, by simp [World.frozen?, h1]⟩
theorem Fil.push {w : World} {B : Nat} {e : TypeId} {N : Nat} {xs : List Value} (h : Fil w B e N xs) (j : Nat) (hj : j = xs.length) (hl : xs.length < N) (u : Value) : Fil (w.setCell ⟨B, j, none⟩ u) B e N (xs ++ [u]) := by
  subst hj
  obtain ⟨cs, h1, h2, h3⟩ := h
  refine ⟨cs.setIfInBounds xs.length u, by simp [World.setCell, Array.getElem?_modify, h1], by simpa using h2, fun j v hv => ?_⟩
  rw [Array.getElem?_setIfInBounds]
  split
  · rename_i he
    subst he
    rw [if_pos (by omega)]
    simp at hv
    rw [hv]
  · rename_i he
    apply h3
    rw [List.getElem?_append] at hv
    split at hv
    · exact hv
    · rename_i h2
      rw [List.getElem?_eq_none (by simp; omega)] at hv
      cases hv
theorem Fil.rd {w : World} {B : Nat} {e : TypeId} {N n sz : Nat} {xs : List Value} (h : Fil w B e N xs) (hn : xs.length = n * sz) (hm : n ≤ 9223372036854775807) : Rd true w e (.slice (some ⟨B, 0, none⟩) n n) n sz xs := by
  obtain ⟨cs, h1, h2, h3⟩ := h
  refine ⟨_, n, rfl, Nat.le_refl _, hm, hn, .inr ⟨B, 0, rfl, fun j u hj => ?_, fun _ => ⟨cs, _, h1⟩⟩⟩
  rw [cell_of_row _ _ _ _ _ _ h1, Nat.zero_add]
  exact h3 j u hj

def RowPost (e : TypeId) (ps : List Pr) (w : World) (en : Ending) (w' : World) : Prop :=
  ∃ v, en = .returned v ∧ Rd true w' e v ps.length 3 (ps.flatMap pcells) ∧ Below w.heap.size w w'
theorem Tryz.info235 : (Tryz.prog.info? 235).map (fun i => (i.zero, i.size, i.bytes)) = some (some (.agg #[.string ⟨#[]⟩, .string ⟨#[]⟩, .bool false]), 3, 40) := by kernel_rfl
theorem fm3_len (ps : List Pr) : (ps.flatMap pcells).length = ps.length * 3 := by
  induction ps with
  | nil => rfl
  | cons p r ih => rw [List.flatMap_cons, List.length_append, ih, pcells_len, List.length_cons]; omega

set_option maxHeartbeats 1000000 in
set_option maxRecDepth 100000 in
theorem asInternal_any {ty : Bool} (ps : List Pr) (v : Value) (w : World) (h : Rd ty w 86 v ps.length 3 (ps.flatMap pcells)) (hn : ps.length ≤ 100000) :
    Calls Tryz.prog 135 #[v] w (RowPost 235 ps w) := by
  obtain ⟨AD, c, rfl, hnc, hcm⟩ := h.shape
  have H : Aside (Rd ty w 86 (.slice AD ps.length c) ps.length 3 (ps.flatMap pcells)) := h
  clear h
  by_cases hz : ps.length = 0
  · have hz1 : ((ps.length : Int) == 0) = true := by rw [beq_iff_eq]; omega
    go_enter Tryz.func135, Tryz.ntmps135
    go_wp2_with fail
    go_ret
    refine ⟨_, rfl, ?_, Below.refl _ _⟩
    rw [List.eq_nil_of_length_eq_zero hz]
    exact Rd.nil _ _ _ _
  · have hz1 : ((ps.length : Int) == 0) = false := beq_eq_false_iff_ne.2 (by omega)
    have hmk := run_makeN 156 235 _ 3 40 Tryz.underlying156 Tryz.info235 ps.length ps.length rfl (by omega) (by omega) w
    have hfil := Fil.made w 235 (.agg #[.string ⟨#[]⟩, .string ⟨#[]⟩, .bool false]) (ps.length * 3)
    have hb0 : Below w.heap.size w (w.alloc (.cells (madeCells (Value.agg #[.string ⟨#[]⟩, .string ⟨#[]⟩, .bool false]).cells (ps.length * 3)) 235)) := (Below.refl _ _).alloc (Nat.le_refl _) _
    obtain ⟨wm, hwm⟩ : ∃ wm, w.alloc (.cells (madeCells (Value.agg #[.string ⟨#[]⟩, .string ⟨#[]⟩, .bool false]).cells (ps.length * 3)) 235) = wm := ⟨_, rfl⟩
    rw [hwm] at hmk hfil hb0
    clear hwm
    obtain ⟨b, o, c', he, _, _, _⟩ := H.out.cells (by omega)
    injection he with he1 he2 he3
    subst he1 he3
    clear he2
    go_enter Tryz.func135, Tryz.ntmps135
    go_wp2_with fail
    go_loopg [14] (ps.length + 1) (fun gk i wx => Below w.heap.size w wx ∧ ∃ k : Nat, i = .int .i64 k ∧ k ≤ ps.length ∧ k + gk = ps.length + 1 ∧ Fil wx w.heap.size 235 (ps.length * 3) ((ps.take k).flatMap pcells))
    case atStart => exact ⟨hb0, 0, rfl, by omega, by omega, hfil⟩
    case round =>
      clear hb0 hfil hmk
      obtain ⟨hb, k, rfl, hk, hg, hfil⟩ := hrel
      have hws := hb.size
      by_cases hlt : k < ps.length
      · obtain ⟨p, hp⟩ : ∃ p, ps[k] = p := ⟨_, rfl⟩
        have hpk : ps[k]? = some p := by rw [List.getElem?_eq_getElem hlt, hp]
        obtain ⟨kb, vb, hh, hpc⟩ : ∃ kb vb hh, pcells p = [.string kb, .string vb, .bool hh] := ⟨⟨p.1.toArray⟩, ⟨(p.2.getD []).toArray⟩, p.2.isSome, rfl⟩
        have hat := fun j hj => fm3 pcells pcells_len ps k p hpk j hj
        have c0 : wr.cell? ⟨b, o + k * 3, none⟩ = some (.string kb) := (H.out.below hb).at' rfl (by have := hat 0 (by omega); rw [hpc] at this; simpa using this)
        have c1 : wr.cell? ⟨b, o + k * 3 + 1, none⟩ = some (.string vb) := (H.out.below hb).at' (j := k * 3 + 1) (by omega) (by have := hat 1 (by omega); rw [hpc] at this; simpa using this)
        have c2 : wr.cell? ⟨b, o + k * 3 + 2, none⟩ = some (.bool hh) := (H.out.below hb).at' (j := k * 3 + 2) (by omega) (by have := hat 2 (by omega); rw [hpc] at this; simpa using this)
        have hbk : b < w.heap.size := by
          have := (H.out).at' (k := o + k * 3) rfl (by have := hat 0 (by omega); rw [hpc] at this; simpa using this)
          exact lt_of_cell this
        have hlen : ((ps.take k).flatMap pcells).length = k * 3 := by rw [fm3_len, List.length_take]; omega
        have htk : Aside ((ps.take (k + 1)).flatMap pcells = (ps.take k).flatMap pcells ++ [.string kb] ++ [.string vb] ++ [.bool hh]) := by
          show _ = _
          rw [List.take_succ_eq_append_getElem hlt, hp, List.flatMap_append, List.flatMap_cons, List.flatMap_nil, hpc]
          simp
        have hfl := hfil.lt
        obtain ⟨⟨u0, d0⟩, g0⟩ := hfil.cell (k * 3) (by omega)
        obtain ⟨⟨u1, d1⟩, g1⟩ := hfil.cell (k * 3 + 1) (by omega)
        obtain ⟨⟨u2, d2⟩, g2⟩ := hfil.cell (k * 3 + 2) (by omega)
        clear hat hpk hp hpc
        go_wp2_with fail
        go_roundg (gk - 1)
        case rel =>
          refine ⟨(((hb.setCell (Nat.le_refl _) _).setCell (Nat.le_refl _) _).setCell (Nat.le_refl _) _).alloc (by simp; omega) _, k + 1, by go_num, by omega, by omega, ?_⟩
          rw [htk.out]
          have h1 := hfil.push (k * 3) hlen.symm (by omega) (.string kb)
          have h2 := h1.push (k * 3 + 1) (by rw [List.length_append, hlen]; rfl) (by rw [List.length_append, hlen]; simp; omega) (.string vb)
          have h3 := h2.push (k * 3 + 2) (by rw [List.length_append, List.length_append, hlen]; rfl) (by rw [List.length_append, List.length_append, hlen]; simp; omega) (.bool hh)
          exact h3.below ((Below.refl _ _).alloc (Nat.le_refl _) _)
        case measure => omega
      · go_wp2_with fail
        go_ret
        rw [List.take_of_length_le (by omega)] at hfil
        exact ⟨_, rfl, hfil.rd (fm3_len ps) (by omega), hb⟩

set_option maxHeartbeats 1000000 in
set_option maxRecDepth 100000 in
theorem fromInternal_any {ty : Bool} (ps : List Pr) (v : Value) (w : World) (h : Rd ty w 235 v ps.length 3 (ps.flatMap pcells)) (hn : ps.length ≤ 100000) :
    Calls Tryz.prog 142 #[v] w (RowPost 86 ps w) := by
  obtain ⟨AD, c, rfl, hnc, hcm⟩ := h.shape
  have H : Aside (Rd ty w 235 (.slice AD ps.length c) ps.length 3 (ps.flatMap pcells)) := h
  clear h
  by_cases hz : ps.length = 0
  · have hz1 : ((ps.length : Int) == 0) = true := by rw [beq_iff_eq]; omega
    go_enter Tryz.func142, Tryz.ntmps142
    go_wp2_with fail
    go_ret
    refine ⟨_, rfl, ?_, Below.refl _ _⟩
    rw [List.eq_nil_of_length_eq_zero hz]
    exact Rd.nil _ _ _ _
  · have hz1 : ((ps.length : Int) == 0) = false := beq_eq_false_iff_ne.2 (by omega)
    have hmk := run_makeN 96 86 _ 3 40 Tryz.underlying96 Tryz.info86 ps.length ps.length rfl (by omega) (by omega) w
    have hfil := Fil.made w 86 (.agg #[.string ⟨#[]⟩, .string ⟨#[]⟩, .bool false]) (ps.length * 3)
    have hb0 : Below w.heap.size w (w.alloc (.cells (madeCells (Value.agg #[.string ⟨#[]⟩, .string ⟨#[]⟩, .bool false]).cells (ps.length * 3)) 86)) := (Below.refl _ _).alloc (Nat.le_refl _) _
    obtain ⟨wm, hwm⟩ : ∃ wm, w.alloc (.cells (madeCells (Value.agg #[.string ⟨#[]⟩, .string ⟨#[]⟩, .bool false]).cells (ps.length * 3)) 86) = wm := ⟨_, rfl⟩
    rw [hwm] at hmk hfil hb0
    clear hwm
    obtain ⟨b, o, c', he, _, _, _⟩ := H.out.cells (by omega)
    injection he with he1 he2 he3
    subst he1 he3
    clear he2
    go_enter Tryz.func142, Tryz.ntmps142
    go_wp2_with fail
    go_loopg [14] (ps.length + 1) (fun gk i wx => Below w.heap.size w wx ∧ ∃ k : Nat, i = .int .i64 k ∧ k ≤ ps.length ∧ k + gk = ps.length + 1 ∧ Fil wx w.heap.size 86 (ps.length * 3) ((ps.take k).flatMap pcells))
    case atStart => exact ⟨hb0, 0, rfl, by omega, by omega, hfil⟩
    case round =>
      clear hb0 hfil hmk
      obtain ⟨hb, k, rfl, hk, hg, hfil⟩ := hrel
      have hws := hb.size
      by_cases hlt : k < ps.length
      · obtain ⟨p, hp⟩ : ∃ p, ps[k] = p := ⟨_, rfl⟩
        have hpk : ps[k]? = some p := by rw [List.getElem?_eq_getElem hlt, hp]
        obtain ⟨kb, vb, hh, hpc⟩ : ∃ kb vb hh, pcells p = [.string kb, .string vb, .bool hh] := ⟨⟨p.1.toArray⟩, ⟨(p.2.getD []).toArray⟩, p.2.isSome, rfl⟩
        have hat := fun j hj => fm3 pcells pcells_len ps k p hpk j hj
        have c0 : wr.cell? ⟨b, o + k * 3, none⟩ = some (.string kb) := (H.out.below hb).at' rfl (by have := hat 0 (by omega); rw [hpc] at this; simpa using this)
        have c1 : wr.cell? ⟨b, o + k * 3 + 1, none⟩ = some (.string vb) := (H.out.below hb).at' (j := k * 3 + 1) (by omega) (by have := hat 1 (by omega); rw [hpc] at this; simpa using this)
        have c2 : wr.cell? ⟨b, o + k * 3 + 2, none⟩ = some (.bool hh) := (H.out.below hb).at' (j := k * 3 + 2) (by omega) (by have := hat 2 (by omega); rw [hpc] at this; simpa using this)
        have hbk : b < w.heap.size := by
          have := (H.out).at' (k := o + k * 3) rfl (by have := hat 0 (by omega); rw [hpc] at this; simpa using this)
          exact lt_of_cell this
        have hlen : ((ps.take k).flatMap pcells).length = k * 3 := by rw [fm3_len, List.length_take]; omega
        have htk : Aside ((ps.take (k + 1)).flatMap pcells = (ps.take k).flatMap pcells ++ [.string kb] ++ [.string vb] ++ [.bool hh]) := by
          show _ = _
          rw [List.take_succ_eq_append_getElem hlt, hp, List.flatMap_append, List.flatMap_cons, List.flatMap_nil, hpc]
          simp
        have hfl := hfil.lt
        obtain ⟨⟨u0, d0⟩, g0⟩ := hfil.cell (k * 3) (by omega)
        obtain ⟨⟨u1, d1⟩, g1⟩ := hfil.cell (k * 3 + 1) (by omega)
        obtain ⟨⟨u2, d2⟩, g2⟩ := hfil.cell (k * 3 + 2) (by omega)
        clear hat hpk hp hpc
        go_wp2_with fail
        go_roundg (gk - 1)
        case rel =>
          refine ⟨(((hb.setCell (Nat.le_refl _) _).setCell (Nat.le_refl _) _).setCell (Nat.le_refl _) _).alloc (by simp; omega) _, k + 1, by go_num, by omega, by omega, ?_⟩
          rw [htk.out]
          have h1 := hfil.push (k * 3) hlen.symm (by omega) (.string kb)
          have h2 := h1.push (k * 3 + 1) (by rw [List.length_append, hlen]; rfl) (by rw [List.length_append, hlen]; simp; omega) (.string vb)
          have h3 := h2.push (k * 3 + 2) (by rw [List.length_append, List.length_append, hlen]; rfl) (by rw [List.length_append, List.length_append, hlen]; simp; omega) (.bool hh)
          exact h3.below ((Below.refl _ _).alloc (Nat.le_refl _) _)
        case measure => omega
      · go_wp2_with fail
        go_ret
        rw [List.take_of_length_le (by omega)] at hfil
        exact ⟨_, rfl, hfil.rd (fm3_len ps) (by omega), hb⟩

set_option maxHeartbeats 1000000 in
set_option maxRecDepth 100000 in
theorem itemValue_any (a b : ByteArray) (A : Option Addr) (n c : Nat) (w : World) : Calls Tryz.prog 140 #[.agg #[.string a, .string b, .slice A n c]] w fun e w' => e = .returned (.string a) ∧ w' = w.alloc (.cells #[.string a, .string b, .slice A n c] 158) := by
  go_enter Tryz.func140, Tryz.ntmps140
  go_wp2_with fail
  go_ret
  exact ⟨rfl, rfl⟩
set_option maxHeartbeats 1000000 in
set_option maxRecDepth 100000 in
theorem itemMetadata_any (a b : ByteArray) (A : Option Addr) (n c : Nat) (w : World) : Calls Tryz.prog 141 #[.agg #[.string a, .string b, .slice A n c]] w fun e w' => e = .returned (.string b) ∧ w' = w.alloc (.cells #[.string a, .string b, .slice A n c] 158) := by
  go_enter Tryz.func141, Tryz.ntmps141
  go_wp2_with fail
  go_ret
  exact ⟨rfl, rfl⟩
set_option maxHeartbeats 1000000 in
set_option maxRecDepth 100000 in
theorem itemProperties_any (a b : ByteArray) (A : Option Addr) (n c : Nat) (w : World) : Calls Tryz.prog 143 #[.agg #[.string a, .string b, .slice A n c]] w fun e w' => e = .returned (.slice A n c) ∧ w' = w.alloc (.cells #[.string a, .string b, .slice A n c] 158) := by
  go_enter Tryz.func143, Tryz.ntmps143
  go_wp2_with fail
  go_ret
  exact ⟨rfl, rfl⟩
set_option maxHeartbeats 1000000 in
set_option maxRecDepth 100000 in
theorem newItemMeta_any (a b : ByteArray) (w : World) : Calls Tryz.prog 133 #[.string a, .string b] w fun e w' => e = .returned (.agg #[.string a, .string b, .slice none 0 0]) ∧ w' = w.alloc (.cells #[.string a, .string b, .slice none 0 0] 158) := by
  go_enter Tryz.func133, Tryz.ntmps133
  go_wp2_with fail
  (try simp only [Exit.inBlock, Exit.then]); refine bodyPost_ret (results_cell_row rfl _ _ w.heap.size 158 _ (0, 0) _ rfl (heap_alloc_new _ _) Tryz.underlying158 rfl (by kernel_rfl)) rfl ?_
  exact ⟨rfl, rfl⟩
set_option maxHeartbeats 1000000 in
set_option maxRecDepth 100000 in
theorem newItemProps_any (a : ByteArray) (A : Option Addr) (n c : Nat) (w : World) : Calls Tryz.prog 134 #[.string a, .slice A n c] w fun e w' => e = .returned (.agg #[.string a, .string ⟨#[]⟩, .slice A n c]) ∧ w' = w.alloc (.cells #[.string a, .string ⟨#[]⟩, .slice A n c] 158) := by
  go_enter Tryz.func134, Tryz.ntmps134
  go_wp2_with fail
  (try simp only [Exit.inBlock, Exit.then]); refine bodyPost_ret (results_cell_row rfl _ _ w.heap.size 158 _ (0, 0) _ rfl (heap_alloc_new _ _) Tryz.underlying158 rfl (by kernel_rfl)) rfl ?_
  exact ⟨rfl, rfl⟩

/-- An error: nil, or one that is. -/
def IsErr (v : Value) : Prop := v = .nilIface ∨ ∃ y, v = .iface 201 (.pointer (some y))
set_option maxHeartbeats 1000000 in
set_option maxRecDepth 100000 in
theorem zzJoin_nil (b : Value) (w : World) : Calls Tryz.prog 94 #[.nilIface, b] w fun e w' => e = .returned b ∧ w' = w := by
  go_enter Tryz.func94, Tryz.ntmps94
  go_wp2_with fail
  go_ret
  exact ⟨rfl, rfl⟩
set_option maxHeartbeats 1000000 in
set_option maxRecDepth 100000 in
theorem zzJoin_some (y : Addr) (b : Value) (w : World) : Calls Tryz.prog 94 #[.iface 201 (.pointer (some y)), b] w fun e w' => e = .returned (.iface 201 (.pointer (some y))) ∧ w' = w := by
  go_enter Tryz.func94, Tryz.ntmps94
  go_wp2_with fail
  go_ret
  exact ⟨rfl, rfl⟩
end Go.Proofs.YtleofgndghjflaaGreatDoor

set_option linter.unusedVariables false
set_option linter.unusedSimpArgs false
namespace Go.Proofs.YtleofgndghjflaaGreatDoor
open Go Go.RowKit

/-- memberFromItem: the member, its properties in a row of its own. -/
def FromItemPost (kb vb mb : ByteArray) (ps : List Pr) (w : World) (e : Ending) (w' : World) : Prop :=
  ∃ pv, e = .returned (.agg #[.string kb, .string vb, .string mb, pv, .bool true]) ∧ Rd true w' 86 pv ps.length 3 (ps.flatMap pcells) ∧ Below w.heap.size w w'

set_option maxHeartbeats 1000000 in
set_option maxRecDepth 100000 in
theorem memberFromItem_any {ty : Bool} (kb vb mb : ByteArray) (iv : Value) (ps : List Pr) (w : World) (h : Rd ty w 235 iv ps.length 3 (ps.flatMap pcells)) (hn : ps.length ≤ 100000) :
    Calls Tryz.prog 101 #[.string kb, .agg #[.string vb, .string mb, iv]] w (FromItemPost kb vb mb ps w) := by
  obtain ⟨AD, c, rfl, hnc, hcm⟩ := h.shape
  have H : Aside (Rd ty w 235 (.slice AD ps.length c) ps.length 3 (ps.flatMap pcells)) := h
  clear h
  go_enter Tryz.func101, Tryz.ntmps101
  go_wp2_with fail
  obtain ⟨w1, hw1⟩ : ∃ w1, (w.alloc (.cells #[.string vb, .string mb, .slice AD ps.length c] 158)).alloc (.cells #[.string ⟨#[]⟩, .string ⟨#[]⟩, .string ⟨#[]⟩, .slice none 0 0, .bool false] 98) = w1 := ⟨_, rfl⟩
  have hb1 : Below w.heap.size w w1 := by rw [← hw1]; exact ((Below.refl _ _).alloc (Nat.le_refl _) _).alloc (by simp) _
  have hx1 : w1.heap[w.heap.size]? = some (.cells #[.string vb, .string mb, .slice AD ps.length c] 158 (0, 0)) := by rw [← hw1]; exact row_alloc (heap_alloc_new _ _) _
  have hr1 : w1.heap[w.heap.size + 1]? = some (.cells #[.string ⟨#[]⟩, .string ⟨#[]⟩, .string ⟨#[]⟩, .slice none 0 0, .bool false] 98 (0, 0)) := by rw [← hw1]; exact heap_alloc_2 _ _ _
  have hz1 : w1.heap.size = w.heap.size + 2 := by rw [← hw1]; simp
  rw [hw1]
  clear hw1
  obtain ⟨⟨c0, c1, c2⟩, f0, f1, f2⟩ := row3 hx1
  have hb2 : Below w.heap.size w (((w1.alloc (.cells #[.string vb, .string mb, .slice AD ps.length c] 158)).alloc (.cells #[.string vb, .string mb, .slice AD ps.length c] 158)).alloc (.cells #[.string vb, .string mb, .slice AD ps.length c] 158)).drew := (((hb1.alloc hb1.size _).alloc (by simp; omega) _).alloc (by simp; omega) _).drew
  have hr2 := row_drew (row_alloc (row_alloc (row_alloc hr1 (.cells #[.string vb, .string mb, .slice AD ps.length c] 158)) (.cells #[.string vb, .string mb, .slice AD ps.length c] 158)) (.cells #[.string vb, .string mb, .slice AD ps.length c] 158))
  have hx2 := row_drew (row_alloc (row_alloc (row_alloc hx1 (.cells #[.string vb, .string mb, .slice AD ps.length c] 158)) (.cells #[.string vb, .string mb, .slice AD ps.length c] 158)) (.cells #[.string vb, .string mb, .slice AD ps.length c] 158))
  have hfi := fromInternal_any ps _ _ (H.out.below hb2) hn
  go_region_held3 (fun W => W.cell? ⟨w.heap.size, 0, none⟩ = some (.string vb) ∧ W.cell? ⟨w.heap.size, 1, none⟩ = some (.string mb) ∧ W.cell? ⟨w.heap.size, 2, none⟩ = some (.slice AD ps.length c)) ((refine ⟨?_, ?_, ?_⟩ <;> (first | (with_reducible assumption) | (simp (disch := (first | omega | (simp only [World.size_alloc, World.size_setCell, World.size_drew]; omega))) only [cellg_set, cellg_alloc, cellg_drew]; first | done | (with_reducible assumption))))) (first
    | (go_at_call 140; refine (itemValue_any _ _ _ _ _ _).mono ?_; rintro e w' ⟨rfl, rfl⟩)
    | (go_at_call 141; refine (itemMetadata_any _ _ _ _ _ _).mono ?_; rintro e w' ⟨rfl, rfl⟩)
    | (go_at_call 143; refine (itemProperties_any _ _ _ _ _ _).mono ?_; rintro e w' ⟨rfl, rfl⟩)
    | (go_at_call 142; refine hfi.mono ?_; intro e w' hpost; obtain ⟨pv, rfl, hrd, hbel⟩ := hpost; obtain ⟨A2, c2', rfl, hnc2, hcm2⟩ := hrd.shape; have hr3 := (hbel.block _ (Array.getElem?_eq_some_iff.1 hr2).1).trans hr2; have hx3 := (hbel.block _ (Array.getElem?_eq_some_iff.1 hx2).1).trans hx2; obtain ⟨⟨e0, e1, e2⟩, _, _, _⟩ := row3 hx3; obtain ⟨⟨d0, d1, d2, d3, d4⟩, g0, g1, g2, g3, g4⟩ := row5 hr3; have hws := hbel.size; have hb3 := below_then hb2 hb2.size hbel; clear hbel hfi hx3 hx2 hr2 hb2))
  all_goals
    go_wp2_with fail
    (try simp only [Exit.inBlock, Exit.then]); refine bodyPost_ret (results_cell_row rfl _ _ (w.heap.size + 1) 98 _ (0, 0) _ rfl (row_set (row_set (row_set (row_set (row_set hr3 0 _) 1 _) 2 _) 3 _) 4 _) Tryz.underlying98 rfl (by kernel_rfl)) rfl ?_
    refine ⟨_, rfl, ?_, ((((hb3.setCell (by simp) _).setCell (by simp) _).setCell (by simp) _).setCell (by simp) _).setCell (by simp) _⟩
    exact hrd.fr2 ((((((Fr2.refl 98 98 w').set hr3 _).set (row_set hr3 0 _) _).set (row_set (row_set hr3 0 _) 1 _) _).set (row_set (row_set (row_set hr3 0 _) 1 _) 2 _) _).set (row_set (row_set (row_set (row_set hr3 0 _) 1 _) 2 _) 3 _) _) (by decide) (by decide)

/-- itemFromMember: the item, its properties in a row of its own. -/
def FromMemPost (vb mb : ByteArray) (ps : List Pr) (w : World) (e : Ending) (w' : World) : Prop :=
  ∃ iv, e = .returned (.agg #[.string vb, .string mb, iv]) ∧ Rd true w' 235 iv (if mb.toList.isEmpty then ps.length else 0) 3 ((if mb.toList.isEmpty then ps else []).flatMap pcells) ∧ Below w.heap.size w w'

set_option maxHeartbeats 1000000 in
set_option maxRecDepth 100000 in
theorem itemFromMember_any {ty : Bool} (kb vb mb : ByteArray) (pv : Value) (d : Bool) (ps : List Pr) (w : World) (h : Rd ty w 86 pv ps.length 3 (ps.flatMap pcells)) (hn : ps.length ≤ 100000) :
    Calls Tryz.prog 96 #[.agg #[.string kb, .string vb, .string mb, pv, .bool d]] w (FromMemPost vb mb ps w) := by
  obtain ⟨AD, c, rfl, hnc, hcm⟩ := h.shape
  have H : Aside (Rd ty w 86 (.slice AD ps.length c) ps.length 3 (ps.flatMap pcells)) := h
  clear h
  cases hme : mb.toList.isEmpty
  · have P : Aside (∀ en w', (∃ iv, en = Ending.returned (.agg #[.string vb, .string mb, iv]) ∧ Rd true w' 235 iv 0 3 [] ∧ Below w.heap.size w w') → FromMemPost vb mb ps w en w') := fun en w' h => by unfold FromMemPost; rw [hme]; exact h
    go_enter Tryz.func96, Tryz.ntmps96
    go_wp2_with (go_at_fn 133; fail)
    refine (newItemMeta_any _ _ _).mono ?_
    rintro e w' ⟨rfl, rfl⟩
    go_wp2_with fail
    (try simp only [Exit.inBlock, Exit.then]); refine bodyPost_ret (results_cell_row rfl _ _ (w.heap.size + 1) 158 _ (0, 0) _ rfl (row_alloc (heap_alloc_2 w _ _) _) Tryz.underlying158 rfl (by kernel_rfl)) rfl ?_
    exact P.out _ _ ⟨_, rfl, Rd.nil _ _ _ _, (((Below.refl _ _).alloc (Nat.le_refl _) _).alloc (by simp) _).alloc (by simp <;> omega) _⟩
  · have P : Aside (∀ en w', (∃ iv, en = Ending.returned (.agg #[.string vb, .string mb, iv]) ∧ Rd true w' 235 iv ps.length 3 (ps.flatMap pcells) ∧ Below w.heap.size w w') → FromMemPost vb mb ps w en w') := fun en w' h => by unfold FromMemPost; rw [hme]; exact h
    go_enter Tryz.func96, Tryz.ntmps96
    go_wp2_with fail
    obtain ⟨w1, hw1⟩ : ∃ w1, (w.alloc (.cells #[.string kb, .string vb, .string mb, .slice AD ps.length c, .bool d] 98)).alloc (.cells #[.string ⟨#[]⟩, .string ⟨#[]⟩, .slice none 0 0] 158) = w1 := ⟨_, rfl⟩
    have hb1 : Below w.heap.size w w1 := by rw [← hw1]; exact ((Below.refl _ _).alloc (Nat.le_refl _) _).alloc (by simp) _
    have hx1 : w1.heap[w.heap.size]? = some (.cells #[.string kb, .string vb, .string mb, .slice AD ps.length c, .bool d] 98 (0, 0)) := by rw [← hw1]; exact row_alloc (heap_alloc_new _ _) _
    have hr1 : w1.heap[w.heap.size + 1]? = some (.cells #[.string ⟨#[]⟩, .string ⟨#[]⟩, .slice none 0 0] 158 (0, 0)) := by rw [← hw1]; exact heap_alloc_2 _ _ _
    have hz1 : w1.heap.size = w.heap.size + 2 := by rw [← hw1]; simp
    rw [hw1]
    clear hw1
    obtain ⟨⟨c0, c1, c2, c3, c4⟩, f0, f1, f2, f3, f4⟩ := row5 hx1
    have hfi := asInternal_any ps _ _ (H.out.below hb1.drew) hn
    go_region_held3 (fun W => W.cell? ⟨w.heap.size, 1, none⟩ = some (.string vb) ∧ W.cell? ⟨w.heap.size, 3, none⟩ = some (.slice AD ps.length c)) ((refine ⟨?_, ?_⟩ <;> (first | (with_reducible assumption) | (simp (disch := (first | omega | (simp only [World.size_alloc, World.size_setCell, World.size_drew]; omega))) only [cellg_set, cellg_alloc, cellg_drew]; first | done | (with_reducible assumption))))) (first
      | (go_at_call 135; refine hfi.mono ?_; intro e w' hpost; obtain ⟨pv, rfl, hrd, hbel⟩ := hpost; obtain ⟨A2, c2', rfl, hnc2, hcm2⟩ := hrd.shape; have hr3 := (hbel.block _ (by simp; omega)).trans (row_drew hr1); have hx3 := (hbel.block _ (by simp; omega)).trans (row_drew hx1); obtain ⟨⟨_, e1, _, e3, _⟩, _, _, _, _, _⟩ := row5 hx3; obtain ⟨⟨d0, d1, d2⟩, g0, g1, g2⟩ := row3 hr3; have hws := hbel.size; have hb3 := below_then hb1.drew hb1.drew.size hbel; clear hbel hfi hx3; rw [World.size_drew, hz1] at hws)
      | (go_at_call 134; refine (newItemProps_any _ _ _ _ _).mono ?_; rintro e w9 ⟨rfl, rfl⟩; have hlt9 : w.heap.size + 1 < w'.heap.size := by omega
         obtain ⟨⟨d0, d1, d2⟩, g0, g1, g2⟩ := row3 (row_alloc hr3 (.cells #[.string vb, .string ⟨#[]⟩, .slice A2 ps.length c2'] 158))))
    all_goals
      go_wp2_with fail
      have hmb : Value.string mb = .string ⟨#[]⟩ := by
        rw [S_bs]
        rw [toList_empty] at hme
        rw [List.isEmpty_iff.1 hme]
        rfl
      (try simp only [Exit.inBlock, Exit.then]); refine bodyPost_ret (results_cell_row rfl _ _ (w.heap.size + 1) 158 _ (0, 0) _ rfl (row_alloc (row_set (row_set (row_set hr3 0 _) 1 _) 2 _) _) Tryz.underlying158 rfl (by kernel_rfl)) rfl ?_
      refine P.out _ _ ⟨_, by rw [hmb]; rfl, ?_, (((hb3.setCell (by simp) _).setCell (by simp) _).setCell (by simp) _).alloc (by simp; omega) _⟩
      exact (hrd.fr2 ((((Fr2.refl 158 158 w').set hr3 _).set (row_set hr3 0 _) _).set (row_set (row_set hr3 0 _) 1 _) _) (by decide) (by decide)).below ((Below.refl _ _).alloc (Nat.le_refl _) _)
end Go.Proofs.YtleofgndghjflaaGreatDoor

set_option linter.unusedVariables false
set_option linter.unusedSimpArgs false
namespace Go.Proofs.YtleofgndghjflaaGreatDoor
open Go Go.RowKit
open Go.ChangeMaps (setBlock)

abbrev KV := ByteArray × Value
def kvE (e : MapEntry) : Value × Value := (e.key, e.val)
def kvL (p : KV) : Value × Value := (.string p.1, p.2)
/-- The entries es are the list L; each has a stamp of its own, below the clock. -/
structure Ents (es : Array MapEntry) (clock : Nat) (L : List KV) : Prop where
  same : es.toList.map kvE = L.map kvL
  old : ∀ x ∈ es.toList, x.born < clock
  nodup : (es.toList.map (·.born)).Nodup
/-- Block b is a map with the entries L. -/
def MapAt (w : World) (b : Nat) (L : List KV) : Prop := ∃ es clock, w.heap[b]? = some (.map es clock) ∧ Ents es clock L

theorem MapAt.block {w w' : World} {b : Nat} {L : List KV} (h : MapAt w b L) (hb : w'.heap[b]? = w.heap[b]?) : MapAt w' b L := by
  obtain ⟨es, clock, h1, h2⟩ := h
  exact ⟨es, clock, hb.trans h1, h2⟩
theorem MapAt.lt {w : World} {b : Nat} {L : List KV} (h : MapAt w b L) : b < w.heap.size := by
  obtain ⟨es, clock, h1, _⟩ := h
  exact (Array.getElem?_eq_some_iff.1 h1).1
theorem MapAt.below {w w' : World} {b : Nat} {L : List KV} (h : MapAt w b L) (hb : Below w.heap.size w w') : MapAt w' b L := h.block (hb.block _ h.lt)
theorem MapAt.fr {w w' : World} {b : Nat} {L : List KV} {e : TypeId} (h : MapAt w b L) (hf : Fr e w w') : MapAt w' b L := by
  have hl := h.lt
  obtain ⟨es, clock, h1, h2⟩ := h
  exact ⟨es, clock, (hf.block b hl (fun c f h' => by rw [h1] at h'; cases h')).trans h1, h2⟩
theorem MapAt.set {w : World} {b : Nat} {L : List KV} (h : MapAt w b L) {g i : Nat} {cs : Array Value} {t : TypeId} {fr : Nat × Nat} (hg : w.heap[g]? = some (.cells cs t fr)) (v : Value) : MapAt (w.setCell ⟨g, i, none⟩ v) b L := by
  refine h.block (Below.heap_setCell _ _ _ _ (fun e => ?_))
  simp at e
  subst e
  obtain ⟨es, clock, h1, _⟩ := h
  rw [hg] at h1
  cases h1
theorem MapAt.made (w : World) : MapAt (w.alloc (.map #[] 0)) w.heap.size [] := ⟨#[], 0, heap_alloc_new _ _, rfl, by simp, by simp⟩

theorem ba_eq {a b : ByteArray} (h : (a == b) = true) : a = b := by
  have h2 : (a.data == b.data) = true := h
  cases a
  cases b
  simp only at h2
  rw [eq_of_beq h2]
theorem ba_self (a : ByteArray) : (a == a) = true := by
  show (a.data == a.data) = true
  exact beq_self_eq_true _
def fnd (k : ByteArray) : List KV → Nat → Option (Nat × Value)
  | [], _ => none
  | p :: r, i => if k == p.1 then some (i, p.2) else fnd k r (i + 1)
def asc (L : List KV) (k : ByteArray) : Option Value := (fnd k L 0).map (·.2)
def putL (k : ByteArray) (v : Value) : List KV → List KV
  | [] => [(k, v)]
  | p :: r => if k == p.1 then (p.1, v) :: r else p :: putL k v r
theorem findNow_fnd (k : ByteArray) : ∀ (es : List MapEntry) (L : List KV) (i : Nat), es.map kvE = L.map kvL → Instr.findNow .string (.string k) es i = some (fnd k L i)
  | [], [], i, _ => rfl
  | [], _ :: _, _, h => by simp at h
  | _ :: _, [], _, h => by simp at h
  | e :: es, p :: L, i, h => by
    simp only [List.map_cons, List.cons.injEq, kvE, kvL, Prod.mk.injEq] at h
    obtain ⟨⟨h1, h2⟩, h3⟩ := h
    unfold Instr.findNow fnd
    rw [h1, h2]
    simp only [Instr.sameNow]
    by_cases hk : k == p.1
    · simp [hk]
    · simp only [Bool.not_eq_true] at hk
      simp only [hk]
      exact findNow_fnd k es L (i + 1) h3
theorem fnd_shift (k : ByteArray) : ∀ (L : List KV) (i : Nat), fnd k L (i + 1) = (fnd k L i).map fun x => (x.1 + 1, x.2)
  | [], _ => rfl
  | p :: r, i => by
    unfold fnd
    by_cases hk : k == p.1
    · simp [hk]
    · simp only [Bool.not_eq_true] at hk
      simp only [hk]
      exact fnd_shift k r (i + 1)
theorem putL_none (k : ByteArray) (v : Value) : ∀ (L : List KV), fnd k L 0 = none → putL k v L = L ++ [(k, v)]
  | [], _ => rfl
  | p :: r, h => by
    unfold fnd at h
    unfold putL
    by_cases hk : k == p.1
    · simp [hk] at h
    · simp only [Bool.not_eq_true] at hk
      simp only [hk] at h ⊢
      rw [fnd_shift] at h
      have := putL_none k v r (by simpa using h)
      simp [this]
theorem putL_some (k : ByteArray) (v : Value) : ∀ (L : List KV) (j : Nat) (u : Value), fnd k L 0 = some (j, u) → ∃ p, L[j]? = some p ∧ p.1 = k ∧ putL k v L = L.set j (p.1, v)
  | [], _, _, h => by simp [fnd] at h
  | p :: r, j, u, h => by
    unfold fnd at h
    unfold putL
    by_cases hk : k == p.1
    · simp only [hk, if_true, Option.some.injEq, Prod.mk.injEq] at h
      obtain ⟨rfl, _⟩ := h
      exact ⟨p, rfl, (ba_eq hk).symm, by simp [hk]⟩
    · simp only [Bool.not_eq_true] at hk
      simp only [hk] at h ⊢
      rw [fnd_shift] at h
      obtain ⟨⟨j', u'⟩, h1, h2⟩ := Option.map_eq_some_iff.1 h
      simp only [Prod.mk.injEq] at h2
      obtain ⟨rfl, rfl⟩ := h2
      obtain ⟨q, hq1, hq2, hq3⟩ := putL_some k v r j' u' h1
      exact ⟨q, by simpa using hq1, hq2, by simp [hq3]⟩

section
variable {t kt et : TypeId} {w : World} {b : Nat} {L : List KV}
theorem MapAt.lookup (h : MapAt w b L) (ht : Tryz.prog.underlying t = some (.map kt et)) (hk : Tryz.prog.underlying kt = some .string) {z : Value} (hz : (zeroValue et).run Tryz.prog w = .ok z w) (k : ByteArray) :
    (Instr.lookup t (.map (some b)) (.string k) true).run Tryz.prog w = .ok (.tuple #[(asc L k).getD z, .bool (asc L k).isSome]) w := by
  obtain ⟨es, clock, h1, h2⟩ := h
  have hf := findNow_fnd k es.toList L 0 h2.same
  have hfk : (Instr.findKey kt (.string k) es.toList).run Tryz.prog w = .ok (fnd k L 0) w := by
    simp [Instr.findKey, run_underlying hk, hf, Result.andThen]
  have hck : ∀ e, (Instr.checkKey e 10000 kt (.string k)).run Tryz.prog w = .ok () w := fun e => MapKept.run_checkKey hk (by trivial) e 9999
  unfold asc
  cases hq : fnd k L 0 with
  | none =>
    rw [hq] at hfk
    simp [Instr.lookup, run_underlying ht, MapKept.run_getObj_map h1, hck, hfk, hz, Result.andThen]
  | some x =>
    rw [hq] at hfk
    simp [Instr.lookup, run_underlying ht, MapKept.run_getObj_map h1, hck, hfk, Result.andThen]
theorem MapAt.update (h : MapAt w b L) (ht : Tryz.prog.underlying t = some (.map kt et)) (hk : Tryz.prog.underlying kt = some .string) (k : ByteArray) (v : Value) :
    ∃ w', (Instr.mapUpdate t (.map (some b)) (.string k) v).run Tryz.prog w = .ok () w' ∧ MapAt w' b (putL k v L) ∧ w.grownBy w' (some b) := by
  obtain ⟨es, clock, h1, h2⟩ := h
  have hlt := (Array.getElem?_eq_some_iff.1 h1).1
  have hf := findNow_fnd k es.toList L 0 h2.same
  have hfk : (Instr.findKey kt (.string k) es.toList).run Tryz.prog w = .ok (fnd k L 0) w := by
    simp [Instr.findKey, run_underlying hk, hf, Result.andThen]
  have hck : ∀ e, (Instr.checkKey e 10000 kt (.string k)).run Tryz.prog w = .ok () w := fun e => MapKept.run_checkKey hk (by trivial) e 9999
  have hset : ∀ o, (setObj b o).run Tryz.prog w = .ok () (setBlock w b o) := fun o => by simp [setObj, Sem.run, h1, setBlock]
  have hg : ∀ o, w.grownBy (setBlock w b o) (some b) := fun o => ⟨rfl, rfl, rfl, by simp [setBlock], fun i hi hn => by
    simp only [setBlock]
    rw [Array.getElem?_setIfInBounds_ne (by intro e; exact hn (by rw [e]))]⟩
  have hat : ∀ o, (setBlock w b o).heap[b]? = some o := fun o => by simp [setBlock, hlt]
  cases hq : fnd k L 0 with
  | none =>
    rw [hq] at hfk
    refine ⟨setBlock w b (.map (es.push { key := .string k, val := v, born := clock }) (clock + 1)), ?_, ⟨_, _, hat _, ?_⟩, hg _⟩
    · simp [Instr.mapUpdate, run_underlying ht, MapKept.run_getObj_map h1, hck, hfk, hset, Result.andThen]
    · refine ⟨?_, ?_, ?_⟩
      · rw [putL_none k v L hq]
        simp [h2.same, kvE, kvL]
      · intro x hx
        simp at hx
        rcases hx with hx | rfl
        · have := h2.old x (by simpa using hx)
          omega
        · simp
      · simp only [Array.toList_push, List.map_append, List.map_cons, List.map_nil]
        rw [List.nodup_append]
        refine ⟨h2.nodup, by simp, fun a ha c hc => ?_⟩
        simp at hc
        subst hc
        obtain ⟨x, hx, rfl⟩ := List.mem_map.1 ha
        have := h2.old x hx
        omega
  | some x =>
    obtain ⟨j, u⟩ := x
    rw [hq] at hfk
    obtain ⟨p, hp1, hp2, hp3⟩ := putL_some k v L j u hq
    have hes : es.toList[j]?.map kvE = some (kvL p) := by
      rw [← List.getElem?_map, h2.same, List.getElem?_map, hp1]
      rfl
    obtain ⟨e0, he0, he1⟩ := Option.map_eq_some_iff.1 hes
    have hk0 : e0.key = .string k := by
      have := congrArg Prod.fst he1
      simpa [kvE, kvL, hp2] using this
    have he0' : es[j]? = some e0 := by rw [← Array.getElem?_toList]; exact he0
    refine ⟨setBlock w b (.map (es.modify j fun e => { e with key := .string k, val := v }) clock), ?_, ⟨_, _, hat _, ?_⟩, hg _⟩
    · simp [Instr.mapUpdate, run_underlying ht, MapKept.run_getObj_map h1, hck, hfk, hset, Result.andThen, he0', hk0, Instr.keyThatStays, Instr.sameBits, ba_self]
    · have hmod : (es.modify j fun e => { e with key := .string k, val := v }).toList = es.toList.set j { e0 with key := .string k, val := v } := by
        rw [Array.toList_modify]
        exact ChangeMaps.modify_eq_set _ _ _ _ he0
      refine ⟨?_, ?_, ?_⟩
      · rw [hmod, hp3, List.map_set, h2.same, List.map_set]
        simp [kvE, kvL, hp2]
      · intro x hx
        rw [hmod] at hx
        rcases List.mem_or_eq_of_mem_set hx with hx | rfl
        · exact h2.old x hx
        · exact h2.old e0 (List.mem_of_getElem? he0)
      · rw [hmod, List.map_set]
        have : (es.toList.map (·.born)).set j e0.born = es.toList.map (·.born) := by
          apply List.ext_getElem?
          intro i
          rw [List.getElem?_set]
          split
          · rename_i h
            subst h
            rw [List.getElem?_map, he0]
            split
            · rfl
            · rename_i h
              exact absurd (List.getElem?_eq_some_iff.1 he0).1 (by simpa using h)
          · rfl
        simp only [this]
        exact h2.nodup
theorem Ents.len {es : Array MapEntry} {clock : Nat} (h : Ents es clock L) : es.size = L.length := by
  have := congrArg List.length h.same
  simpa using this
theorem MapAt.len (h : MapAt w b L) (ht : Tryz.prog.underlying t = some (.map kt et)) (ty : TypeId) :
    (Builtin.len_ #[t] ty #[.map (some b)]).run Tryz.prog w = .ok (.int .i64 L.length) w := by
  obtain ⟨es, clock, h1, h2⟩ := h
  simp [Builtin.len_, run_underlying ht, MapKept.run_getObj_map h1, Result.andThen, h2.len, goInt]

/-- Block r is an iterator over the map of block b, which has the entries L, and 'left' is still to come. -/
def RangeAt (w : World) (r b : Nat) (L left : List KV) : Prop :=
  ∃ es clock seen, w.heap[b]? = some (.map es clock) ∧ w.heap[r]? = some (.mapIter (some b) clock seen clock) ∧ Ents es clock L ∧ (leftOf es seen).toList.map kvE = left.map kvL
theorem RangeAt.mapAt {r : Nat} {left : List KV} (h : RangeAt w r b L left) : MapAt w b L := by
  obtain ⟨es, clock, seen, h1, h2, h3, h4⟩ := h
  exact ⟨es, clock, h1, h3⟩
theorem RangeAt.lt {r : Nat} {left : List KV} (h : RangeAt w r b L left) : r < w.heap.size := by
  obtain ⟨es, clock, seen, h1, h2, h3, h4⟩ := h
  exact (Array.getElem?_eq_some_iff.1 h2).1
theorem RangeAt.below {w' : World} {r : Nat} {left : List KV} (h : RangeAt w r b L left) (hb : Below w.heap.size w w') : RangeAt w' r b L left := by
  have h0 := h.mapAt.lt
  have h9 := h.lt
  obtain ⟨es, clock, seen, h1, h2, h3, h4⟩ := h
  exact ⟨es, clock, seen, (hb.block _ h0).trans h1, (hb.block _ h9).trans h2, h3, h4⟩
theorem RangeAt.fr {w' : World} {r : Nat} {left : List KV} {e : TypeId} (h : RangeAt w r b L left) (hf : Fr e w w') : RangeAt w' r b L left := by
  have h0 := h.mapAt.lt
  have h9 := h.lt
  obtain ⟨es, clock, seen, h1, h2, h3, h4⟩ := h
  exact ⟨es, clock, seen, (hf.block _ h0 (fun c f h' => by rw [h1] at h'; cases h')).trans h1, (hf.block _ h9 (fun c f h' => by rw [h2] at h'; cases h')).trans h2, h3, h4⟩
theorem MapAt.range (h : MapAt w b L) (ht : Tryz.prog.underlying t = some (.map kt et)) :
    ∃ o, (Instr.range t (.map (some b))).run Tryz.prog w = .ok (.pointer (some ⟨w.heap.size, 0, none⟩)) (w.alloc o) ∧ RangeAt (w.alloc o) w.heap.size b L L := by
  obtain ⟨es, clock, h1, h2⟩ := h
  have hlt := (Array.getElem?_eq_some_iff.1 h1).1
  refine ⟨_, run_range_map w t kt et b es clock ht h1, es, clock, #[], (Below.heap_alloc w _ _ hlt).trans h1, heap_alloc_new _ _, h2, ?_⟩
  have : leftOf es #[] = es := by
    unfold leftOf
    simp
  rw [this]
  exact h2.same
theorem filter_born (e : MapEntry) : ∀ l : List MapEntry, (l.map (·.born)).Nodup → e ∈ l → ∃ l', l.Perm (e :: l') ∧ l.filter (fun x => !(x.born == e.born)) = l'
  | [], _, h => by simp at h
  | x :: r, hn, h => by
    rw [List.map_cons, List.nodup_cons] at hn
    rcases List.mem_cons.1 h with rfl | h
    · refine ⟨r, List.Perm.refl _, ?_⟩
      rw [List.filter_cons]
      simp only [beq_self_eq_true, Bool.not_true, Bool.false_eq_true, if_false]
      rw [List.filter_eq_self]
      intro y hy
      simp only [Bool.not_eq_eq_eq_not, Bool.not_true, beq_eq_false_iff_ne]
      intro he
      exact hn.1 (List.mem_map.2 ⟨y, hy, he⟩)
    · obtain ⟨l', h1, h2⟩ := filter_born e r hn.2 h
      refine ⟨x :: l', (List.Perm.cons x h1).trans (List.Perm.swap _ _ _), ?_⟩
      rw [List.filter_cons, h2, if_pos]
      simp only [Bool.not_eq_eq_eq_not, Bool.not_true, beq_eq_false_iff_ne]
      intro he
      exact hn.1 (List.mem_map.2 ⟨e, h, he.symm⟩)
theorem perm_kv {l : List MapEntry} {left : List KV} (h : l.map kvE = left.map kvL) {e : MapEntry} (he : e ∈ l) : ∃ p, kvE e = kvL p ∧ ∀ l', l.Perm (e :: l') → ∃ left' : List KV, l'.map kvE = left'.map kvL ∧ left.Perm (p :: left') := by
  have hm : kvE e ∈ left.map kvL := by rw [← h]; exact List.mem_map.2 ⟨e, he, rfl⟩
  obtain ⟨p, hp, hpe⟩ := List.mem_map.1 hm
  refine ⟨p, hpe.symm, fun l' hl => ?_⟩
  have h1 : (left.map kvL).Perm (kvL p :: l'.map kvE) := by
    rw [← h, hpe]
    exact hl.map kvE
  have inj : ∀ a c : KV, kvL a = kvL c → a = c := by
    intro a c hac
    obtain ⟨a1, a2⟩ := a
    obtain ⟨c1, c2⟩ := c
    simp only [kvL, Prod.mk.injEq, Value.string.injEq] at hac
    rw [hac.1, hac.2]
  have h2 : ∀ (q : List (Value × Value)), (∀ x ∈ q, ∃ y, kvL y = x) → ∃ left' : List KV, q = left'.map kvL := by
    intro q
    induction q with
    | nil => intro _; exact ⟨[], rfl⟩
    | cons x r ih =>
      intro hq
      obtain ⟨y, hy⟩ := hq x (by simp)
      obtain ⟨z, hz⟩ := ih (fun u hu => hq u (by simp [hu]))
      exact ⟨y :: z, by rw [List.map_cons, hy, hz]⟩
  obtain ⟨left', hl'⟩ := h2 (l'.map kvE) (fun x hx => by
    have : x ∈ left.map kvL := h1.mem_iff.2 (by simp [hx])
    obtain ⟨y, _, hy⟩ := List.mem_map.1 this
    exact ⟨y, hy⟩)
  refine ⟨left', hl', ?_⟩
  rw [hl', ← List.map_cons] at h1
  have h3 : ∀ q : List KV, (q.map kvL).map (fun x => ((match x.1 with | .string s => s | _ => ⟨#[]⟩ : ByteArray), x.2)) = q := by
    intro q
    rw [List.map_map]
    have : ((fun x : Value × Value => ((match x.1 with | .string s => s | _ => ⟨#[]⟩ : ByteArray), x.2)) ∘ kvL) = id := by
      funext x
      rfl
    rw [this, List.map_id]
  have h4 := h1.map (fun x => ((match x.1 with | .string s => s | _ => ⟨#[]⟩ : ByteArray), x.2))
  rw [h3, h3] at h4
  exact h4
theorem RangeAt.next {r : Nat} {left : List KV} (h : RangeAt w r b L left) (ty : TypeId) :
    (left = [] ∧ (Instr.next (.pointer (some ⟨r, 0, none⟩)) false ty).run Tryz.prog w = .ok (.tuple #[.bool false]) w) ∨
    ∃ p left' w1, left.Perm (p :: left') ∧ (Instr.next (.pointer (some ⟨r, 0, none⟩)) false ty).run Tryz.prog w = .ok (.tuple #[.bool true, .string p.1, p.2]) w1 ∧ RangeAt w1 r b L left' ∧ w.grownBy w1 (some r) ∧
      (Instr.entry (.pointer (some ⟨r, 0, none⟩))).run Tryz.prog w1 = .ok (.tuple #[.string p.1, p.2]) w1 := by
  have h0 := h.mapAt.lt
  have h9 := h.lt
  obtain ⟨es, clock, seen, h1, h2, h3, h4⟩ := h
  have hrb : b ≠ r := by
    intro e
    rw [e, h2] at h1
    cases h1
  rcases run_next_at (P := Tryz.prog) w ty r b clock clock seen es clock h2 h1 h3.old (Nat.le_refl _) with ⟨hz, hr⟩ | ⟨e, he, w1, hw1, hr⟩
  · left
    refine ⟨?_, hr⟩
    have := congrArg List.length h4
    simp [hz] at this
    exact List.eq_nil_of_length_eq_zero this.symm
  · right
    have hm := mem_left he
    obtain ⟨p, hp1, hp2⟩ := perm_kv h4 he
    have hnd : ((leftOf es seen).toList.map (·.born)).Nodup := by
      refine h3.nodup.sublist ?_
      unfold leftOf
      rw [Array.toList_filter]
      exact (List.filter_sublist).map _
    obtain ⟨l', hl1, hl2⟩ := filter_born e _ hnd he
    obtain ⟨left', hf1, hf2⟩ := hp2 l' hl1
    simp only [kvE, kvL, Prod.mk.injEq] at hp1
    have hb1 : w1.heap[b]? = some (.map es clock) := by rcases hw1 with rfl | rfl <;> exact h1
    have hz1 : w1.heap.size = w.heap.size := by rcases hw1 with rfl | rfl <;> rfl
    have hB : (setBlock w1 r (.mapIter (some b) clock (seen.push e.born) clock)).heap[b]? = some (.map es clock) := by
      simp only [setBlock]
      rw [Array.getElem?_setIfInBounds_ne (Ne.symm hrb)]
      exact hb1
    have hR : (setBlock w1 r (.mapIter (some b) clock (seen.push e.born) clock)).heap[r]? = some (.mapIter (some b) clock (seen.push e.born) clock) := by
      simp [setBlock, hz1, h9]
    refine ⟨p, left', _, hf2, by rw [hr, hp1.1, hp1.2], ⟨es, clock, seen.push e.born, hB, hR, h3, ?_⟩, ?_, ?_⟩
    · rw [← hf1, ← hl2]
      unfold leftOf
      rw [Array.toList_filter, Array.toList_filter, List.filter_filter]
      congr 1
      apply List.filter_congr
      intro x _
      rw [contains_push]
      cases seen.contains x.born <;> cases (x.born == e.born) <;> rfl
    · rcases hw1 with rfl | rfl
      · exact ⟨rfl, rfl, rfl, by simp [setBlock], fun i hi hn => by simp only [setBlock]; rw [Array.getElem?_setIfInBounds_ne (by intro e; exact hn (by rw [e]))]⟩
      · exact ⟨rfl, rfl, rfl, by simp [setBlock], fun i hi hn => by simp only [setBlock]; rw [Array.getElem?_setIfInBounds_ne (by intro e; exact hn (by rw [e]))]; rfl⟩
    · rw [run_entry_at _ r b clock seen es clock e hR hB hm.1 h3.nodup, hp1.1, hp1.2]
end
end Go.Proofs.YtleofgndghjflaaGreatDoor
