/- Arguments that came in: slices of steps, of pieces. -/
import Derived.Test.YtfaokggblllcmaaE2
import Derived.Deep.Slices
import Derived.Deep.Strs
import Derived.Lib.SmallJoins
set_option linter.unusedVariables false
set_option linter.unusedSimpArgs false
namespace Go.Proofs.Ytfaokggblllcmaa
open Go Go.RowKit Go.Deep Go.WideShapes

theorem Try.cells27 : Try.prog.cellsOf 27 = 3 := by kernel_rfl
theorem Try.cells43 : Try.prog.cellsOf 43 = 3 := by kernel_rfl
theorem Try.cells9 : Try.prog.cellsOf 9 = 1 := by kernel_rfl
theorem Try.cells5 : Try.prog.cellsOf 5 = 1 := by kernel_rfl
theorem Try.cells33 : Try.prog.cellsOf 33 = 1 := by kernel_rfl
theorem three_of {cs : List Value} (h : cs.length = 3) : ∃ a b c, cs = [a, b, c] := by
  match cs, h with
  | [a, b, c], _ => exact ⟨a, b, c, rfl⟩
variable {H : Type} {enc : TypeId × Value → H} {W : World}
theorem u8_of {n : Int} (h : (Lit.int .u8 n).wf = true) : ∃ m : Nat, m < 256 ∧ n = m := by
  have h2 : 0 ≤ n ∧ n ≤ 255 := by
    have h3 : (decide (IntKind.u8.min ≤ n) && decide (n ≤ IntKind.u8.max)) = true := h
    rw [Bool.and_eq_true, decide_eq_true_eq, decide_eq_true_eq] at h3
    exact h3
  exact ⟨n.toNat, by omega, by omega⟩
theorem choose_list {α : Type} {p : Nat → α → Prop} : ∀ n : Nat, (∀ i, i < n → ∃ a, p i a) → ∃ l : List α, l.length = n ∧ ∀ (i : Nat) a, l[i]? = some a → p i a
  | 0, _ => ⟨[], rfl, fun i a h => by simp at h⟩
  | n + 1, h => by
    obtain ⟨l, hl, hp⟩ := choose_list n (fun i hi => h i (by omega))
    obtain ⟨a, ha⟩ := h n (by omega)
    refine ⟨l ++ [a], by simp [hl], fun i b hb => ?_⟩
    rw [List.getElem?_append] at hb
    split at hb
    · exact hp i b hb
    · rename_i hi
      have : i = n := by
        have := (List.getElem?_eq_some_iff.1 hb).1
        simp at this
        omega
      subst this
      simp [hl] at hb
      rw [← hb]
      exact ha
theorem flat3_len {α : Type} (f : α → List Value) (h3 : ∀ p, (f p).length = 3) : ∀ l : List α, (l.flatMap f).length = l.length * 3
  | [] => rfl
  | x :: r => by rw [List.flatMap_cons, List.length_append, h3, flat3_len f h3 r, List.length_cons]; omega
theorem flat_at3 {α : Type} (f : α → List Value) (h3 : ∀ p, (f p).length = 3) (l : List α) (j : Nat) (u : Value) (h : (l.flatMap f)[j]? = some u) : ∃ x, l[j / 3]? = some x ∧ (f x)[j % 3]? = some u := by
  have hj := (List.getElem?_eq_some_iff.1 h).1
  rw [flat3_len f h3] at hj
  have h1 : j / 3 < l.length := by omega
  have h2 := fm3 f h3 l (j / 3) l[j / 3] (List.getElem?_eq_getElem h1) (j % 3) (Nat.mod_lt _ (by omega))
  rw [show j / 3 * 3 + j % 3 = j by omega, h] at h2
  exact ⟨_, List.getElem?_eq_getElem h1, h2.symm⟩
theorem plain_add (b o j : Nat) : (⟨b, o, none⟩ : Addr).add j = ⟨b, o + j, none⟩ := by simp [Addr.add]

/-- A slice of structs of three cells each: its cells. -/
theorem open_three {α : Type} (f : α → List Value) (h3 : ∀ p, (f p).length = 3) {t e : TypeId} (ht : Try.prog.underlying t = some (.slice e)) (hce : Try.prog.cellsOf e = 3)
    (hel : ∀ (fuel : Nat) (cs : List Value) (x : DataW H × List MemPlace), DataW.trod enc Try.prog W 0 (fun _ => true) true fuel e cs = some x → ∃ r : α, cs = f r ∧ True)
    {fuel : Nat} {cs : List Value} {x : DataW H × List MemPlace} (hf : DataW.trod enc Try.prog W 0 (fun _ => true) true fuel t cs = some x) :
    ∃ A c, ∃ rs : List α, cs = [.slice A rs.length c] ∧ Rd false W e (.slice A rs.length c) rs.length 3 (rs.flatMap f) ∧ ∀ r ∈ rs, ∃ (fuel : Nat) (x : DataW H × List MemPlace), DataW.trod enc Try.prog W 0 (fun _ => true) true fuel e (f r) = some x := by
  rcases open_slice ht hf with ⟨rfl, _⟩ | ⟨a, len, cap, m, n, D, Pl, rfl, _, hl, hm, hmm, _, hx⟩
  · exact ⟨none, 0, [], rfl, Rd.nil _ _ _ _, fun r hr => by cases hr⟩
  · simp only [if_true] at hmm
    subst hmm
    rw [hce] at hx
    obtain ⟨rs, hrl, hrs⟩ := choose_list (p := fun i (r : α) => W.cells? 0 (a.add (i * 3)) 3 = some (f r) ∧ DataW.trod enc Try.prog W 0 (fun _ => true) true n e (f r) = some (D i, Pl i)) len (fun i hi => by
      obtain ⟨cs', h1, h2⟩ := hx i (by omega)
      obtain ⟨r, rfl, _⟩ := hel n cs' _ h2
      exact ⟨r, h1, h2⟩)
    subst hrl
    obtain ⟨b, o, spot⟩ := a
    refine ⟨some ⟨b, o, spot⟩, m, rs, rfl, ⟨_, m, rfl, hl, by unfold maxLen at hm; omega, flat3_len f h3 rs, ?_⟩, ?_⟩
    · by_cases h0 : rs.length = 0
      · exact .inl h0
      · right
        have hspot : spot = none := by
          obtain ⟨r, hr⟩ : ∃ r, rs[0]? = some r := ⟨_, List.getElem?_eq_getElem (by omega)⟩
          obtain ⟨_, _, hc⟩ := World.cells?_some (hrs 0 r hr).1
          have h1 := hc 0 (by omega)
          obtain ⟨v, hv⟩ : ∃ v, (f r)[0]? = some v := ⟨_, List.getElem?_eq_getElem (by rw [h3]; omega)⟩
          rw [hv] at h1
          simpa [Addr.add] using World.cell?_spot h1
        subst hspot
        refine ⟨b, o, rfl, fun j u hj => ?_, fun h => by cases h⟩
        obtain ⟨r, hr, hu⟩ := flat_at3 f h3 rs j u hj
        obtain ⟨_, _, hc⟩ := World.cells?_some (hrs _ r hr).1
        have h1 := hc (j % 3) (Nat.mod_lt _ (by omega))
        rw [hu, plain_add, plain_add] at h1
        have e : o + j / 3 * 3 + j % 3 = o + j := by omega
        rw [e] at h1
        exact h1
    · intro r hr
      obtain ⟨i, hi⟩ := List.mem_iff_getElem?.1 hr
      exact ⟨n, _, (hrs i r hi).2⟩
/-- A step's three cells. -/
theorem open_step {fuel : Nat} {cs : List Value} {x : DataW H × List MemPlace} (hf : DataW.trod enc Try.prog W 0 (fun _ => true) true fuel 27 cs = some x) : ∃ r : Stp, cs = scells r := by
  obtain ⟨y0, y1, y2, n, _, hl, h0, h1, h2⟩ := trod_struct3 Try.underlying27 hf
  rw [Try.cells27] at hl
  obtain ⟨a, b, c, rfl⟩ := three_of hl
  simp only [Try.cells9, Try.cells5, List.drop_zero, List.take_succ_cons, List.take_zero, List.drop_succ_cons] at h0 h1 h2
  obtain ⟨z, e0, _, hz⟩ := DataW.trod_int Try.underlying5 h0
  obtain ⟨m, _, rfl⟩ := u8_of hz
  obtain ⟨k, e1, _⟩ := DataW.trod_string Try.underlying9 h1
  obtain ⟨v, e2, _⟩ := DataW.trod_string Try.underlying9 h2
  simp only [List.cons.injEq, and_true] at e0 e1 e2
  subst e0 e1 e2
  exact ⟨(m, bs k, bs v), by rw [scells, ← S_bs, ← S_bs]⟩
set_option maxRecDepth 100000 in
theorem open_steps_arg {v : Value} {d : DataW H} {p : List MemPlace} (hv : Value.okWide Try.prog W .any 0 22 v) (h : DataW.Trod enc Try.prog W 0 (fun _ => true) true 22 v d p) : ∃ st : List Stp, Rd false W 27 v st.length 3 (st.flatMap scells) := by
  have he : ∀ (fuel : Nat) (cs : List Value) (x : DataW H × List MemPlace), DataW.trod enc Try.prog W 0 (fun _ => true) true fuel 27 cs = some x → ∃ r : Stp, cs = scells r ∧ True := fun fuel cs x h => by
    obtain ⟨r, hr⟩ := open_step h
    exact ⟨r, hr, trivial⟩
  obtain ⟨a, n, c, rfl⟩ := okWide_slice Try.underlying22 hv
  obtain ⟨fuel, hf⟩ := h
  obtain ⟨A, c', rs, h1, h2, _⟩ := open_three (enc := enc) (W := W) (α := Stp) scells scells_len (t := 22) (e := 27) Try.underlying22 Try.cells27 he hf
  have h1 : [Value.slice a n c] = [.slice A rs.length c'] := h1
  simp only [List.cons.injEq, and_true] at h1
  rw [h1]
  exact ⟨rs, h2⟩
set_option maxRecDepth 100000 in
theorem open_strs {fuel : Nat} {cs : List Value} {x : DataW H × List MemPlace} (hf : DataW.trod enc Try.prog W 0 (fun _ => true) true fuel 33 cs = some x) :
    ∃ A c, ∃ l : List (List UInt8), cs = [.slice A l.length c] ∧ Rd false W 9 (.slice A l.length c) l.length 1 (strs l) := by
  rcases Go.Deep.open_slice Try.underlying33 hf with ⟨rfl, _⟩ | ⟨a, len, cap, m, n, D, Pl, rfl, _, hl, hm, hmm, _, hx⟩
  · exact ⟨none, 0, [], rfl, Rd.nil _ _ _ _⟩
  · simp only [if_true] at hmm
    subst hmm
    rw [Try.cells9] at hx
    obtain ⟨l, hll, hls⟩ := choose_list (p := fun i (r : List UInt8) => W.cell? (a.add i) = some (S r)) len (fun i hi => by
      obtain ⟨cs', h1, h2⟩ := hx i (by omega)
      obtain ⟨z, rfl, _⟩ := DataW.trod_string Try.underlying9 h2
      obtain ⟨_, _, hc⟩ := World.cells?_some h1
      have h3 := hc 0 (by omega)
      have e0 : ∀ x : Addr, x.add 0 = x := fun x => by simp [Addr.add]
      rw [e0, Nat.mul_one] at h3
      exact ⟨bs z, by rw [← S_bs]; simpa using h3⟩)
    subst hll
    obtain ⟨b, o, spot⟩ := a
    refine ⟨some ⟨b, o, spot⟩, m, l, rfl, ⟨_, m, rfl, hl, by unfold maxLen at hm; omega, by simp [strs], ?_⟩⟩
    by_cases h0 : l.length = 0
    · exact .inl h0
    · right
      have hspot : spot = none := by
        obtain ⟨r, hr⟩ : ∃ r, l[0]? = some r := ⟨_, List.getElem?_eq_getElem (by omega)⟩
        have h1 := hls 0 r hr
        simpa [Addr.add] using World.cell?_spot h1
      subst hspot
      refine ⟨b, o, rfl, fun j u hj => ?_, fun h => by cases h⟩
      unfold strs at hj
      rw [List.getElem?_map] at hj
      obtain ⟨r, hr, rfl⟩ := Option.map_eq_some_iff.1 hj
      have h1 := hls j r hr
      rwa [plain_add] at h1
abbrev R3 := ByteArray × ByteArray × Option Addr × Nat × Nat
def r3cells (r : R3) : List Value := [.string r.1, .string r.2.1, .slice r.2.2.1 r.2.2.2.1 r.2.2.2.2]
theorem r3cells_len (r : R3) : (r3cells r).length = 3 := rfl
set_option maxRecDepth 100000 in
theorem open_piece {fuel : Nat} {cs : List Value} {x : DataW H × List MemPlace} (hf : DataW.trod enc Try.prog W 0 (fun _ => true) true fuel 43 cs = some x) :
    ∃ r : R3, cs = r3cells r ∧ ∃ l : List (List UInt8), r.2.2.2.1 = l.length ∧ Rd false W 9 (.slice r.2.2.1 l.length r.2.2.2.2) l.length 1 (strs l) := by
  obtain ⟨y0, y1, y2, n, _, hl, h0, h1, h2⟩ := trod_struct3 Try.underlying43 hf
  rw [Try.cells43] at hl
  obtain ⟨a, b, c, rfl⟩ := three_of hl
  simp only [Try.cells9, Try.cells33, List.drop_zero, List.take_succ_cons, List.take_zero, List.drop_succ_cons] at h0 h1 h2
  obtain ⟨k, e0, _⟩ := DataW.trod_string Try.underlying9 h0
  obtain ⟨v, e1, _⟩ := DataW.trod_string Try.underlying9 h1
  obtain ⟨A, m, rs, e2, hrd⟩ := open_strs h2
  simp only [List.cons.injEq, and_true] at e0 e1 e2
  subst e0 e1 e2
  exact ⟨(k, v, A, rs.length, m), rfl, rs, rfl, hrd⟩
theorem pcs_of : ∀ (l : List R3), (∀ r ∈ l, ∃ (fuel : Nat) (x : DataW H × List MemPlace), DataW.trod enc Try.prog W 0 (fun _ => true) true fuel 43 (r3cells r) = some x) →
    ∃ ps : List Pc, ps.length = l.length ∧ All2 (PcC false W) (l.map r3cells) ps
  | [], _ => ⟨[], rfl, trivial⟩
  | r :: l, h => by
    obtain ⟨rs, h1, h2⟩ := pcs_of l (fun q hq => h q (by simp [hq]))
    obtain ⟨fuel, x, hx⟩ := h r (by simp)
    obtain ⟨q, hq, ps, hn, hp⟩ := open_piece hx
    obtain ⟨k, v, A, n, m⟩ := r
    obtain ⟨k', v', A', n', m'⟩ := q
    simp only [r3cells, List.cons.injEq, Value.string.injEq, Value.slice.injEq, and_true] at hq
    obtain ⟨rfl, rfl, rfl, rfl, rfl⟩ := hq
    simp only at hn hp
    subst hn
    exact ⟨(bs k, bs v, ps) :: rs, by simp [h1], ⟨k, v, A, m, rfl, rfl, rfl, hp⟩, h2⟩
theorem flat_map (l : List R3) : l.flatMap r3cells = (l.map r3cells).flatten := by rw [List.flatMap_def]
set_option maxRecDepth 100000 in
theorem open_pieces_arg {v : Value} {d : DataW H} {p : List MemPlace} (hv : Value.okWide Try.prog W .any 0 39 v) (h : DataW.Trod enc Try.prog W 0 (fun _ => true) true 39 v d p) : ∃ ps : List Pc, PcRow false false W 43 v ps := by
  have he : ∀ (fuel : Nat) (cs : List Value) (x : DataW H × List MemPlace), DataW.trod enc Try.prog W 0 (fun _ => true) true fuel 43 cs = some x → ∃ r : R3, cs = r3cells r ∧ True := fun fuel cs x h => by
    obtain ⟨r, hr, _⟩ := open_piece h
    exact ⟨r, hr, trivial⟩
  obtain ⟨a, n, c, rfl⟩ := okWide_slice Try.underlying39 hv
  obtain ⟨fuel, hf⟩ := h
  obtain ⟨A, c', l, h1, h2, h3⟩ := open_three (enc := enc) (W := W) (α := R3) r3cells r3cells_len (t := 39) (e := 43) Try.underlying39 Try.cells43 he hf
  obtain ⟨rs, h4, h5⟩ := pcs_of l h3
  have h1 : [Value.slice a n c] = [.slice A l.length c'] := h1
  simp only [List.cons.injEq, and_true] at h1
  rw [h1]
  refine ⟨rs, l.map r3cells, ?_, h5⟩
  rw [h4, ← flat_map]
  exact h2
end Go.Proofs.Ytfaokggblllcmaa
