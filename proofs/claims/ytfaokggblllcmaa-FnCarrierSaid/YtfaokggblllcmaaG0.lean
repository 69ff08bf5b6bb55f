/- General words for this seat: rows, maps, sorted texts. -/
import Derived.Test.YtfaokggblllcmaaH0
import Derived.WalkKit
import Derived.WalkLawsBesides
import Derived.WalkSpells
import Derived.Deep.LoopGhost
import Derived.Deep.QuietTactic
import Derived.BigQuiet
import Derived.Outline
import Derived.Lib.SmallJoins
import Derived.Handy
import Derived.Deep.AppendLies
import Derived.Deep.DeepCutAuto
import Derived.Deep.DeepMust
import Derived.Deep.DrawnRows
import Derived.Deep.OwnRows
import Derived.Deep.RegionHeld3
import Derived.Laws.BytesArg
import Derived.Lib.Strings
import Derived.Maps.AppendAt
import Derived.Maps.RangeRun
set_option linter.unusedVariables false
set_option linter.unusedSimpArgs false
namespace Go.Proofs.Ytfaokggblllcmaa
open Go Go.RowKit
theorem ret_bool {a b : Bool} (h : a = b) : Ending.returned (.bool a) = .returned (.bool b) := by rw [h]
theorem ret_int {k : IntKind} {a b : Int} (h : a = b) : Ending.returned (.int k a) = .returned (.int k b) := by rw [h]
theorem lt_of_cell {w : World} {b o : Nat} {v : Value} (h : w.cell? ⟨b, o, none⟩ = some v) : b < w.heap.size := by
  unfold World.cell? at h
  cases hb : w.heap[b]? with
  | none => simp [hb] at h
  | some x => exact (Array.getElem?_eq_some_iff.1 hb).1

abbrev bs (s : ByteArray) : List UInt8 := s.data.toList
theorem bs_length (s : ByteArray) : (bs s).length = s.size := by rw [Array.length_toList]; rfl
theorem bs_get (s : ByteArray) (k : Nat) (h : k < s.size) : (bs s)[k]'(by rw [bs_length]; exact h) = s[k] := by rfl
theorem bs_drop (s : ByteArray) (k : Nat) (h : k < s.size) : (bs s).drop k = s[k] :: (bs s).drop (k + 1) := by
  rw [List.drop_eq_getElem_cons (by rw [bs_length]; exact h)]; rfl
theorem bs_drop_all (s : ByteArray) (k : Nat) (h : s.size ≤ k) : (bs s).drop k = [] := List.drop_eq_nil_of_le (by rw [bs_length]; exact h)

theorem toList_empty (s : ByteArray) : s.toList.isEmpty = (bs s).isEmpty := by rw [ByteArray.toList_eq]
theorem ext_bs (s : ByteArray) (a b : Nat) : bs (s.extract a b) = ((bs s).drop a).take (b - a) := Lib.extract_data s a b
theorem ext_size (s : ByteArray) (a b : Nat) (h : b ≤ s.size) : (s.extract a b).size = b - a := by
  rw [← bs_length, ext_bs, List.length_take, List.length_drop, bs_length]; omega
theorem below_drewN' {B : Nat} {a w : World} (h : Below B a w) : ∀ q, Below B a (w.drewN q)
  | 0 => h
  | q + 1 => (below_drewN' h q).drew
/-- All blocks but rows of element type e stay as they were. -/
structure Fr (e : TypeId) (w w' : World) : Prop where
  size : w.heap.size ≤ w'.heap.size
  block : ∀ k : Nat, k < w.heap.size → (∀ c f, w.heap[k]? ≠ some (.cells c e f)) → w'.heap[k]? = w.heap[k]?
theorem Fr.refl (e : TypeId) (w : World) : Fr e w w := ⟨Nat.le_refl _, fun _ _ _ => rfl⟩
theorem Fr.trans {e : TypeId} {a b c : World} (h : Fr e a b) (k : Fr e b c) : Fr e a c :=
  ⟨Nat.le_trans h.size k.size, fun i hi hn => by
    have h1 := h.block i hi hn
    rw [k.block i (Nat.lt_of_lt_of_le hi h.size) (fun c f => by rw [h1]; exact hn c f), h1]⟩
theorem Fr.of_below {w w' : World} (e : TypeId) (h : Below w.heap.size w w') : Fr e w w' := ⟨h.size, fun k hk _ => h.block k hk⟩
theorem Fr.alloc (e : TypeId) (w : World) (o : Obj) : Fr e w (w.alloc o) := Fr.of_below e ((Below.refl _ _).alloc (Nat.le_refl _) o)
theorem Fr.drew (e : TypeId) (w : World) : Fr e w w.drew := Fr.of_below e (Below.refl _ _).drew

/-- 'v' is a slice of n elements of sz cells each, whose cells are xs; ty: its block is a row of element type t. -/
def Rd (ty : Bool) (w : World) (t : TypeId) (v : Value) (n sz : Nat) (xs : List Value) : Prop :=
  ∃ A c, v = .slice A n c ∧ n ≤ c ∧ c ≤ 9223372036854775807 ∧ xs.length = n * sz ∧
    (n = 0 ∨ ∃ b o, A = some ⟨b, o, none⟩ ∧ (∀ (j : Nat) u, xs[j]? = some u → w.cell? ⟨b, o + j, none⟩ = some u) ∧ (ty = true → ∃ cs fr, w.heap[b]? = some (.cells cs t fr)))
section
variable {ty : Bool} {w w' : World} {t e : TypeId} {v : Value} {n sz : Nat} {xs : List Value}
theorem Rd.weak (h : Rd ty w t v n sz xs) : Rd false w t v n sz xs := by
  obtain ⟨A, c, h1, h2, h3, h4, h5⟩ := h
  exact ⟨A, c, h1, h2, h3, h4, h5.imp id fun ⟨b, o, k1, k2, _⟩ => ⟨b, o, k1, k2, by simp⟩⟩
theorem Rd.nil (ty : Bool) (w : World) (t : TypeId) (sz : Nat) : Rd ty w t (.slice none 0 0) 0 sz [] := ⟨none, 0, rfl, Nat.le_refl _, by omega, by simp, .inl rfl⟩
theorem cell_keep {b o : Nat} {u : Value} (hb : w'.heap[b]? = w.heap[b]?) (h : w.cell? ⟨b, o, none⟩ = some u) : w'.cell? ⟨b, o, none⟩ = some u := by
  unfold World.cell? at h ⊢
  simp only [hb]
  exact h
theorem Rd.below (h : Rd ty w t v n sz xs) (hb : Below w.heap.size w w') : Rd ty w' t v n sz xs := by
  obtain ⟨A, c, h1, h2, h3, h4, h5⟩ := h
  refine ⟨A, c, h1, h2, h3, h4, h5.imp id fun ⟨b, o, k1, k2, k3⟩ => ⟨b, o, k1, fun j u hj => ?_, fun hty => ?_⟩⟩
  · exact cell_keep (hb.block b (lt_of_cell (k2 j u hj))) (k2 j u hj)
  · obtain ⟨cs, fr, hc⟩ := k3 hty
    exact ⟨cs, fr, (hb.block b (Array.getElem?_eq_some_iff.1 hc).1).trans hc⟩
theorem Rd.fr (h : Rd true w t v n sz xs) (hf : Fr e w w') (hne : t ≠ e) : Rd true w' t v n sz xs := by
  obtain ⟨A, c, h1, h2, h3, h4, h5⟩ := h
  refine ⟨A, c, h1, h2, h3, h4, h5.imp id fun ⟨b, o, k1, k2, k3⟩ => ?_⟩
  obtain ⟨cs, fr, hc⟩ := k3 rfl
  have hk := hf.block b (Array.getElem?_eq_some_iff.1 hc).1 (fun c' f' h' => by rw [hc] at h'; injection h' with h'; injection h' with _ h'; exact hne h')
  exact ⟨b, o, k1, fun j u hj => cell_keep hk (k2 j u hj), fun _ => ⟨cs, fr, hk.trans hc⟩⟩
/-- The shape. -/
theorem Rd.shape (h : Rd ty w t v n sz xs) : ∃ A c, v = .slice A n c ∧ n ≤ c ∧ c ≤ 9223372036854775807 := by
  obtain ⟨A, c, h1, h2, h3, _⟩ := h
  exact ⟨A, c, h1, h2, h3⟩
theorem Rd.length (h : Rd ty w t v n sz xs) : xs.length = n * sz := by
  obtain ⟨A, c, _, _, _, h4, _⟩ := h
  exact h4
/-- The cells of a slice that is not empty. -/
theorem Rd.cells (h : Rd ty w t v n sz xs) (hn : 0 < n) : ∃ b o c, v = .slice (some ⟨b, o, none⟩) n c ∧ n ≤ c ∧ c ≤ 9223372036854775807 ∧ ∀ (j : Nat) u, xs[j]? = some u → w.cell? ⟨b, o + j, none⟩ = some u := by
  obtain ⟨A, c, h1, h2, h3, h4, h5⟩ := h
  rcases h5 with h5 | ⟨b, o, rfl, k2, _⟩
  · omega
  · exact ⟨b, o, c, h1, h2, h3, k2⟩
theorem Rd.of_own {B : Nat} (h : w.ownsRow B t sz v n xs) : Rd true w t v n sz xs := by
  obtain ⟨h1, h2⟩ := h
  rcases h2 with ⟨rfl, rfl⟩ | ⟨g, cap, cur, rfl, hg, hh, hnc, hcm, hcs, htake⟩
  · exact ⟨none, 0, rfl, Nat.le_refl _, by omega, h1, .inl rfl⟩
  · refine ⟨_, cap, rfl, hnc, by simpa [maxLen] using hcm, h1, .inr ⟨g, 0, rfl, fun j u hj => ?_, fun _ => ⟨cur, _, hh⟩⟩⟩
    rw [cell_of_row w g (0 + j) cur t (0, 0) hh]
    rw [← htake, List.getElem?_take] at hj
    split at hj
    · simpa using hj
    · cases hj
end

theorem own_base' {w : World} {base : Nat} {e : TypeId} {size n : Nat} {v : Value} {xs : List Value} (h : w.ownsRow base e size v n xs) (k : Nat) (hk : v.ownBlock = some k) : base ≤ k := (h.lt k hk).1
theorem Fr.of_grown {B : Nat} {w w' : World} {e : TypeId} {size n : Nat} {v : Value} {xs : List Value} (h : w.ownsRow B e size v n xs) (hg : w.grownBy w' v.ownBlock) : Fr e w w' := by
  refine ⟨hg.size, fun k hk hn => hg.block k hk fun he => ?_⟩
  rcases h.2 with ⟨rfl, _⟩ | ⟨g, cap, cur, rfl, _, hh, _⟩
  · simp [Value.ownBlock] at he
  · have : g = k := by simpa [Value.ownBlock] using he.symm
    subst this
    exact hn _ _ hh

section
variable {P : Program} {ops : Array Oper} {rest : List Oper} {o : Oper} {a : Act} {Q : Exit → Act → World → Prop}
/-- append(v, x), v a row of one's own (or nil), x's cells ys in the variadic's box; behind 'at_builtin'. -/
theorem wp_app {W : World} (B : Nat) (hgd : o.guard = none) (s x : Operand) (t : TypeId)
    (ho : o.op = .call { callee := .builtin .append, args := #[s, x], argTypes := #[t, t] }) (e : TypeId) (z : Value) (size bytes : Nat)
    (ht : P.underlying t = some (.slice e)) (hinfo : (P.info? e).map (fun i => (i.zero, i.size, i.bytes)) = some (some z, size, bytes)) (hz : z.cells.size = size) (hs0 : 0 < size)
    (v : Value) (n : Nat) (xs ys : List Value) (hs : a.eval s = v) (hx : a.eval x = .slice (some ⟨W.heap.size, 0, none⟩) 1 1) (hys : ys.length = size) (h1 : ∀ u ∈ ys, u.oneCell' = true)
    (HO : W.ownsRow B e size v n xs) (hB : B ≤ W.heap.size) (hl : (n + 1) * bytes ≤ 140737488355328) (hn : n < 140737488355328)
    (h : ∀ v1 w1, w1.ownsRow B e size v1 (n + 1) (xs ++ ys) → Below B W w1 → Fr e W w1 → W.heap.size ≤ w1.heap.size → wpList P ops Q rest (a.put o.dst v1) w1) :
    wpList P ops Q (o :: rest) a (W.alloc (.cells ys.toArray e)) := by
  obtain ⟨i0, hi, hzz⟩ := Option.map_eq_some_iff.1 hinfo
  simp only [Prod.mk.injEq] at hzz
  obtain ⟨hz0, hz1, hz2⟩ := hzz
  refine wpList_append_own_at (W.alloc (.cells ys.toArray e)) hgd s x t ho B e i0 z size bytes ht hi hz0 hz1 hz2 hz hs0 v n xs hs (HO.alloc _) ⟨W.heap.size, 0, none⟩ 1 1 ys hx (by rw [hys]; simp)
    (by simpa using World.news_of_block (cs := ys.toArray) (t := e) (fr := (0, 0)) (heap_alloc_new W (.cells ys.toArray e))) h1 (by simp only [maxLen]; omega) hl (by simp; omega) ?_
  intro v1 w1 hown hg _ hat
  have hg' : W.grownBy w1 v.ownBlock := World.grownBy.trans (World.grownBy_alloc W _ _) hg
  exact h v1 w1 hown ((Below.refl B W).grown hg' hB (own_base' HO)) (Fr.of_grown HO hg') hg'.size
end

/-- The same as a step of a region that draws its order: W the world as it stands; the variadic's box is its block b. -/
theorem step_app {P : Program} {ops : Array Oper} {o : Oper} {a : Act} {Q : Exit → Act → World → Prop} {K : Act → World → Prop} {E : Prop} (W : World) (B : Nat) (hgd : o.guard = none) (s x : Operand) (t : TypeId)
    (ho : o.op = .call { callee := .builtin .append, args := #[s, x], argTypes := #[t, t] }) (e : TypeId) (z : Value) (size bytes : Nat)
    (ht : P.underlying t = some (.slice e)) (hinfo : (P.info? e).map (fun i => (i.zero, i.size, i.bytes)) = some (some z, size, bytes)) (hz : z.cells.size = size) (hs0 : 0 < size)
    (v : Value) (n : Nat) (xs ys : List Value) (hs : a.eval s = v) (b : Nat) (hx : a.eval x = .slice (some ⟨b, 0, none⟩) 1 1) (hys : ys.length = size) (h1 : ∀ u ∈ ys, u.oneCell' = true)
    (HO : W.ownsRow B e size v n xs) (hb : W.heap[b]? = some (.cells ys.toArray e (0, 0))) (hB : B ≤ W.heap.size) (hl : (n + 1) * bytes ≤ 140737488355328) (hn : n < 140737488355328)
    (h : ∀ v1 w1, w1.ownsRow B e size v1 (n + 1) (xs ++ ys) → Below B W w1 → Fr e W w1 → W.heap.size ≤ w1.heap.size → K (a.put o.dst v1) w1) :
    if Region.wanted o (yielded ops a.tmps) = true then Oper.wp P o a W K Q else E := by
  obtain ⟨i0, hi, hzz⟩ := Option.map_eq_some_iff.1 hinfo
  simp only [Prod.mk.injEq] at hzz
  obtain ⟨hz0, hz1, hz2⟩ := hzz
  rw [if_pos (by simp [Region.wanted, hgd])]
  obtain ⟨v1, w1, hr, hown, hg, _, hat⟩ := run_append_own_at (P := P) W B t o.type e i0 z size bytes ht hi hz0 hz1 hz2 hz hs0 v n xs HO ⟨b, 0, none⟩ 1 1 ys (by rw [hys]; simp)
    (by simpa using World.news_of_block hb) h1 (by simp only [maxLen]; omega) hl hB
  unfold Oper.wp execOp
  simp only [ho, resolve, invoke, builtin, Sem.run_bind, Sem.run_pure, Result.andThen_ok, List.map_toArray, List.map_cons, List.map_nil, hs, hx, hr]
  exact h v1 w1 hown ((Below.refl B W).grown hg hB (own_base' HO)) (Fr.of_grown HO hg) hg.size

theorem own_nil (W : World) (base : Nat) (e : TypeId) (size : Nat) : W.ownsRow base e size (.slice none 0 0) 0 [] := ⟨by simp, .inl ⟨rfl, rfl⟩⟩
theorem own_below {w w1 : World} {B C : Nat} {e : TypeId} {size n : Nat} {v : Value} {xs : List Value} (h : w.ownsRow B e size v n xs) (hb : Below w.heap.size w w1) : w1.ownsRow B e size v n xs :=
  h.kept ⟨hb.os, hb.tape, hb.output, hb.size, fun k hk _ => hb.block k hk⟩ (row := none) (by cases v.ownBlock <;> simp)
theorem below_then {B : Nat} {w w1 w2 : World} (h : Below B w w1) (hB : B ≤ w1.heap.size) (k : Below w1.heap.size w1 w2) : Below B w w2 := h.trans (k.mono hB)
/-- A text as a value. -/
def S (l : List UInt8) : Value := .string ⟨l.toArray⟩
theorem S_bs (s : ByteArray) : Value.string s = S (bs s) := by unfold S; congr 1; 
def strs (l : List (List UInt8)) : List Value := l.map S
theorem Try.infoStr : (Try.prog.info? 9).map (fun i => (i.zero, i.size, i.bytes)) = some (some (.string ⟨#[]⟩), 1, 16) := by kernel_rfl
theorem one_str (b : ByteArray) : ∀ u ∈ [Value.string b], u.oneCell' = true := by intro u hu; rw [List.mem_singleton.1 hu]; rfl
def U8 (b : UInt8) : Value := .int .u8 b.toNat
theorem strOfU8 (d : List UInt8) : strOfNums (d.map fun b => (b.toNat : Int)) = ⟨d.toArray⟩ := by
  unfold strOfNums
  rw [List.map_map]
  congr 2
  have : ((fun n : Int => UInt8.ofNat n.toNat) ∘ fun b : UInt8 => (b.toNat : Int)) = id := by funext b; simp
  rw [this, List.map_id]
theorem Try.infoByte : (Try.prog.info? 5).map (fun i => (i.zero, i.size, i.bytes)) = some (some (.int .u8 0), 1, 1) := by kernel_rfl
theorem run_idx (s : ByteArray) (i : Int) (k : Nat) (hi : i = k) (h : k < s.size) (c : UInt8) (hc : s[k] = c) : ∀ W, (Instr.index 9 (.string s) (.int .i64 i)).run Try.prog W = .ok (.int .u8 (c.toNat : Int)) W := by
  intro W
  subst hi
  rw [run_index_string W 9 s .i64 _ Try.underlying9, dif_pos ⟨by omega, by omega⟩]
  simp only [Int.toNat_natCast, hc]
theorem one_int (k : IntKind) (n : Int) : ∀ u ∈ [Value.int k n], u.oneCell' = true := by intro u hu; rw [List.mem_singleton.1 hu]; rfl
theorem one_u8 (b : UInt8) : ∀ u ∈ [U8 b], u.oneCell' = true := by intro u hu; rw [List.mem_singleton.1 hu]; rfl
theorem heap_alloc_2 (w : World) (a b : Obj) : ((w.alloc a).alloc b).heap[w.heap.size + 1]? = some b := by
  have h := heap_alloc_new (w.alloc a) b
  have e : (w.alloc a).heap.size = w.heap.size + 1 := by rw [World.alloc]; exact Array.size_push ..
  rw [e] at h
  exact h
theorem row_set {W : World} {g : Nat} {cs : Array Value} {t : TypeId} {fr : Nat × Nat} (h : W.heap[g]? = some (.cells cs t fr)) (i : Nat) (v : Value) : (W.setCell ⟨g, i, none⟩ v).heap[g]? = some (.cells (cs.setIfInBounds i v) t fr) := by
  simp [World.setCell, Array.getElem?_modify, h]
theorem ret_cell_tmp {P : Program} {fn : Func} {p u : Tmp} {ty : TypeId} {tmps : Array Value} {W : World} {g : Nat} {t : TypeId} {cs : Array Value} {fr : Nat × Nat} {d : TypeDesc} (h : fn.results = #[.cell p ty, .tmp u])
    (hp : tmps.getD p undef = .pointer (some ⟨g, 0, none⟩)) (hg : W.heap[g]? = some (.cells cs t fr)) (hu : P.underlying ty = some d) (hd : (match d with | .struct _ | .array _ _ => true | _ => false) = true) (hi : (P.info? ty).map (·.size) = some cs.size) :
    (results fn tmps).run P W = .ok (.tuple #[.agg cs, tmps.getD u undef]) W := by
  rw [results_cell_tmp h, hp]
  simp [asAddr, Result.andThen, run_loadVar_row W g t ty cs fr d hg hu hd hi]

/-- All blocks but rows of element types e and f stay as they were. -/
structure Fr2 (e f : TypeId) (w w' : World) : Prop where
  size : w.heap.size ≤ w'.heap.size
  block : ∀ k : Nat, k < w.heap.size → (∀ c g, w.heap[k]? ≠ some (.cells c e g)) → (∀ c g, w.heap[k]? ≠ some (.cells c f g)) → w'.heap[k]? = w.heap[k]?
theorem Fr2.refl (e f : TypeId) (w : World) : Fr2 e f w w := ⟨Nat.le_refl _, fun _ _ _ _ => rfl⟩
theorem Fr2.trans {e f : TypeId} {a b c : World} (h : Fr2 e f a b) (k : Fr2 e f b c) : Fr2 e f a c :=
  ⟨Nat.le_trans h.size k.size, fun i hi hn hm => by
    have h1 := h.block i hi hn hm
    rw [k.block i (Nat.lt_of_lt_of_le hi h.size) (fun c g => by rw [h1]; exact hn c g) (fun c g => by rw [h1]; exact hm c g), h1]⟩
theorem Fr2.of_fr {e : TypeId} (f : TypeId) {w w' : World} (h : Fr e w w') : Fr2 e f w w' := ⟨h.size, fun k hk hn _ => h.block k hk hn⟩
theorem Fr2.of_below {w w' : World} (e f : TypeId) (h : Below w.heap.size w w') : Fr2 e f w w' := ⟨h.size, fun k hk _ _ => h.block k hk⟩
theorem Fr2.set {e f : TypeId} {w w' : World} (h : Fr2 e f w w') {g i : Nat} {cs : Array Value} {fr : Nat × Nat} (hg : w'.heap[g]? = some (.cells cs f fr)) (v : Value) : Fr2 e f w (w'.setCell ⟨g, i, none⟩ v) :=
  h.trans ⟨by simp [World.setCell], fun k hk _ hm => Below.heap_setCell _ _ _ _ (fun e => by simp at e; subst e; exact hm _ _ hg)⟩
theorem Rd.fr2 {w w' : World} {t e f : TypeId} {v : Value} {n sz : Nat} {xs : List Value} (h : Rd true w t v n sz xs) (hf : Fr2 e f w w') (hne : t ≠ e) (hnf : t ≠ f) : Rd true w' t v n sz xs := by
  obtain ⟨A, c, h1, h2, h3, h4, h5⟩ := h
  refine ⟨A, c, h1, h2, h3, h4, h5.imp id fun ⟨b, o, k1, k2, k3⟩ => ?_⟩
  obtain ⟨cs, fr, hc⟩ := k3 rfl
  have hk := hf.block b (Array.getElem?_eq_some_iff.1 hc).1 (fun c' f' h' => by rw [hc] at h'; injection h' with h'; injection h' with _ h'; exact hne h') (fun c' f' h' => by rw [hc] at h'; injection h' with h'; injection h' with _ h'; exact hnf h')
  exact ⟨b, o, k1, fun j u hj => cell_keep hk (k2 j u hj), fun _ => ⟨cs, fr, hk.trans hc⟩⟩
theorem row3 {w : World} {g : Nat} {a b c : Value} {t : TypeId} (h : w.heap[g]? = some (.cells #[a, b, c] t (0, 0))) :
    (w.cell? ⟨g, 0, none⟩ = some a ∧ w.cell? ⟨g, 1, none⟩ = some b ∧ w.cell? ⟨g, 2, none⟩ = some c) ∧
    w.frozen? ⟨g, 0, none⟩ = false ∧ w.frozen? ⟨g, 1, none⟩ = false ∧ w.frozen? ⟨g, 2, none⟩ = false := by
  refine ⟨⟨?_, ?_, ?_⟩, ?_, ?_, ?_⟩
  · rw [cell_of_row _ _ _ _ _ _ h]; rfl
  · rw [cell_of_row _ _ _ _ _ _ h]; rfl
  · rw [cell_of_row _ _ _ _ _ _ h]; rfl
  · simp [World.frozen?, h]
  · simp [World.frozen?, h]
  · simp [World.frozen?, h]

theorem row_drew {W : World} {g : Nat} {x : Obj} (h : W.heap[g]? = some x) : W.drew.heap[g]? = some x := h
theorem cellg_set (W : World) (b o g i : Nat) (v : Value) (h : b ≠ g) : (W.setCell ⟨g, i, none⟩ v).cell? ⟨b, o, none⟩ = W.cell? ⟨b, o, none⟩ := by
  unfold World.cell?
  simp only [Below.heap_setCell W ⟨g, i, none⟩ v b h]
theorem cellg_alloc (W : World) (b o : Nat) (x : Obj) (h : b < W.heap.size) : (W.alloc x).cell? ⟨b, o, none⟩ = W.cell? ⟨b, o, none⟩ := by
  unfold World.cell?
  simp only [Below.heap_alloc W x b h]
theorem cellg_drew (W : World) (b o : Nat) : W.drew.cell? ⟨b, o, none⟩ = W.cell? ⟨b, o, none⟩ := rfl
theorem row_alloc {W : World} {g : Nat} {x : Obj} (h : W.heap[g]? = some x) (o : Obj) : (W.alloc o).heap[g]? = some x :=
  (Below.heap_alloc W o g (Array.getElem?_eq_some_iff.1 h).1).trans h

theorem Rd.at {ty : Bool} {w : World} {t : TypeId} {b o n c sz : Nat} {xs : List Value} (h : Rd ty w t (.slice (some ⟨b, o, none⟩) n c) n sz xs) {j : Nat} {u : Value} (hj : xs[j]? = some u) : w.cell? ⟨b, o + j, none⟩ = some u := by
  have hl := h.length
  rcases Nat.eq_zero_or_pos n with h0 | h0
  · rw [h0, Nat.zero_mul] at hl
    rw [List.eq_nil_of_length_eq_zero hl] at hj
    simp at hj
  · obtain ⟨b', o', c', he, _, _, hc⟩ := h.cells h0
    injection he with he
    injection he with he
    injection he with h1 h2
    subst h1 h2
    exact hc j u hj

/-- make([]E, 0, n). -/
theorem run_make0 (t e : TypeId) (z : Value) (size bytes : Nat) (ht : Try.prog.underlying t = some (.slice e)) (hinfo : (Try.prog.info? e).map (fun i => (i.zero, i.size, i.bytes)) = some (some z, size, bytes))
    (c : Int) (n : Nat) (hc : c = n) (hbytes : bytes * n ≤ 281474976710656) (h63 : n ≤ 9223372036854775807) (w : World) :
    (Instr.makeSlice t (.int .i64 0) (.int .i64 c)).run Try.prog w = .ok (.slice (some ⟨w.heap.size, 0, none⟩) 0 n) (w.alloc (.cells (madeCells z.cells (n * size)) e)) := by
  subst hc
  obtain ⟨i, hi, hzz⟩ := Option.map_eq_some_iff.1 hinfo
  simp only [Prod.mk.injEq] at hzz
  obtain ⟨hz, hs, hb⟩ := hzz
  have := run_make (P := Try.prog) w t e i z ht hi hz .i64 .i64 0 n (Int.le_refl _) (by omega) (by rw [hb]; omega) (by omega)
  rw [hs] at this
  simpa using this
/-- make([]E, n). -/
theorem run_makeN (t e : TypeId) (z : Value) (size bytes : Nat) (ht : Try.prog.underlying t = some (.slice e)) (hinfo : (Try.prog.info? e).map (fun i => (i.zero, i.size, i.bytes)) = some (some z, size, bytes))
    (c : Int) (n : Nat) (hc : c = n) (hbytes : bytes * n ≤ 281474976710656) (h63 : n ≤ 9223372036854775807) (w : World) :
    (Instr.makeSlice t (.int .i64 c) (.int .i64 c)).run Try.prog w = .ok (.slice (some ⟨w.heap.size, 0, none⟩) n n) (w.alloc (.cells (madeCells z.cells (n * size)) e)) := by
  subst hc
  obtain ⟨i, hi, hzz⟩ := Option.map_eq_some_iff.1 hinfo
  simp only [Prod.mk.injEq] at hzz
  obtain ⟨hz, hs, hb⟩ := hzz
  have := run_make (P := Try.prog) w t e i z ht hi hz .i64 .i64 n n (by omega) (by omega) (by rw [hb]; omega) (by omega)
  rw [hs] at this
  simpa using this
theorem bs_app (a b : ByteArray) : bs (a ++ b) = bs a ++ bs b := by simp [bs]
theorem cell_bel {W W' : World} (hb : Below W.heap.size W W') {b o : Nat} {v : Value} (h : W.cell? ⟨b, o, none⟩ = some v) : W'.cell? ⟨b, o, none⟩ = some v :=
  cell_keep (hb.block b (lt_of_cell h)) h

/-- The cells of a row of groups of three. -/
theorem fm3 {α : Type} (f : α → List Value) (h3 : ∀ p, (f p).length = 3) : ∀ (xs : List α) (i : Nat) (p : α), xs[i]? = some p → ∀ j : Nat, j < 3 → (xs.flatMap f)[i * 3 + j]? = (f p)[j]?
  | [], i, p, hi, j, hj => by simp at hi
  | x :: r, 0, p, hi, j, hj => by
    simp at hi
    subst hi
    rw [List.flatMap_cons, Nat.zero_mul, Nat.zero_add, List.getElem?_append_left (by rw [h3]; exact hj)]
  | x :: r, i + 1, p, hi, j, hj => by
    rw [List.flatMap_cons, List.getElem?_append_right (by rw [h3]; omega), h3]
    have := fm3 f h3 r i p (by simpa using hi) j hj
    rw [← this]
    congr 1
    omega
theorem Rd.at' {ty : Bool} {w : World} {t : TypeId} {b o n c sz : Nat} {xs : List Value} (h : Rd ty w t (.slice (some ⟨b, o, none⟩) n c) n sz xs) {j k : Nat} {u : Value} (hk : k = o + j) (hj : xs[j]? = some u) : w.cell? ⟨b, k, none⟩ = some u := by
  subst hk
  exact h.at hj

open Go.ChangeMaps (setBlock)

abbrev KV := ByteArray × Value
def kvE (e : MapEntry) : Value × Value := (e.key, e.val)
def kvL (p : KV) : Value × Value := (.string p.1, p.2)
/-- The entries es are the list L; each has a stamp of its own, below the clock. -/
structure Ents (es : Array MapEntry) (clock : Nat) (L : List KV) : Prop where
  same : es.toList.map kvE = L.map kvL
  old : ∀ x ∈ es.toList, x.born < clock
  nodup : (es.toList.map (·.born)).Nodup
/-- Block b is a map with the entries L. -/
def MapAt (w : World) (b : Nat) (L : List KV) : Prop := ∃ es clock, w.heap[b]? = some (.map es clock) ∧ Ents es clock L

theorem MapAt.block {w w' : World} {b : Nat} {L : List KV} (h : MapAt w b L) (hb : w'.heap[b]? = w.heap[b]?) : MapAt w' b L := by
  obtain ⟨es, clock, h1, h2⟩ := h
  exact ⟨es, clock, hb.trans h1, h2⟩
theorem MapAt.lt {w : World} {b : Nat} {L : List KV} (h : MapAt w b L) : b < w.heap.size := by
  obtain ⟨es, clock, h1, _⟩ := h
  exact (Array.getElem?_eq_some_iff.1 h1).1
theorem MapAt.below {w w' : World} {b : Nat} {L : List KV} (h : MapAt w b L) (hb : Below w.heap.size w w') : MapAt w' b L := h.block (hb.block _ h.lt)
theorem MapAt.fr {w w' : World} {b : Nat} {L : List KV} {e : TypeId} (h : MapAt w b L) (hf : Fr e w w') : MapAt w' b L := by
  have hl := h.lt
  obtain ⟨es, clock, h1, h2⟩ := h
  exact ⟨es, clock, (hf.block b hl (fun c f h' => by rw [h1] at h'; cases h')).trans h1, h2⟩
theorem MapAt.set {w : World} {b : Nat} {L : List KV} (h : MapAt w b L) {g i : Nat} {cs : Array Value} {t : TypeId} {fr : Nat × Nat} (hg : w.heap[g]? = some (.cells cs t fr)) (v : Value) : MapAt (w.setCell ⟨g, i, none⟩ v) b L := by
  refine h.block (Below.heap_setCell _ _ _ _ (fun e => ?_))
  simp at e
  subst e
  obtain ⟨es, clock, h1, _⟩ := h
  rw [hg] at h1
  cases h1
theorem MapAt.made (w : World) : MapAt (w.alloc (.map #[] 0)) w.heap.size [] := ⟨#[], 0, heap_alloc_new _ _, rfl, by simp, by simp⟩

theorem ba_eq {a b : ByteArray} (h : (a == b) = true) : a = b := by
  have h2 : (a.data == b.data) = true := h
  cases a
  cases b
  simp only at h2
  rw [eq_of_beq h2]
theorem ba_self (a : ByteArray) : (a == a) = true := by
  show (a.data == a.data) = true
  exact beq_self_eq_true _
def fnd (k : ByteArray) : List KV → Nat → Option (Nat × Value)
  | [], _ => none
  | p :: r, i => if k == p.1 then some (i, p.2) else fnd k r (i + 1)
def asc (L : List KV) (k : ByteArray) : Option Value := (fnd k L 0).map (·.2)
def putL (k : ByteArray) (v : Value) : List KV → List KV
  | [] => [(k, v)]
  | p :: r => if k == p.1 then (p.1, v) :: r else p :: putL k v r
theorem findNow_fnd (k : ByteArray) : ∀ (es : List MapEntry) (L : List KV) (i : Nat), es.map kvE = L.map kvL → Instr.findNow .string (.string k) es i = some (fnd k L i)
  | [], [], i, _ => rfl
  | [], _ :: _, _, h => by simp at h
  | _ :: _, [], _, h => by simp at h
  | e :: es, p :: L, i, h => by
    simp only [List.map_cons, List.cons.injEq, kvE, kvL, Prod.mk.injEq] at h
    obtain ⟨⟨h1, h2⟩, h3⟩ := h
    unfold Instr.findNow fnd
    rw [h1, h2]
    simp only [Instr.sameNow]
    by_cases hk : k == p.1
    · simp [hk]
    · simp only [Bool.not_eq_true] at hk
      simp only [hk]
      exact findNow_fnd k es L (i + 1) h3
theorem fnd_shift (k : ByteArray) : ∀ (L : List KV) (i : Nat), fnd k L (i + 1) = (fnd k L i).map fun x => (x.1 + 1, x.2)
  | [], _ => rfl
  | p :: r, i => by
    unfold fnd
    by_cases hk : k == p.1
    · simp [hk]
    · simp only [Bool.not_eq_true] at hk
      simp only [hk]
      exact fnd_shift k r (i + 1)
theorem putL_none (k : ByteArray) (v : Value) : ∀ (L : List KV), fnd k L 0 = none → putL k v L = L ++ [(k, v)]
  | [], _ => rfl
  | p :: r, h => by
    unfold fnd at h
    unfold putL
    by_cases hk : k == p.1
    · simp [hk] at h
    · simp only [Bool.not_eq_true] at hk
      simp only [hk] at h ⊢
      rw [fnd_shift] at h
      have := putL_none k v r (by simpa using h)
      simp [this]
theorem putL_some (k : ByteArray) (v : Value) : ∀ (L : List KV) (j : Nat) (u : Value), fnd k L 0 = some (j, u) → ∃ p, L[j]? = some p ∧ p.1 = k ∧ putL k v L = L.set j (p.1, v)
  | [], _, _, h => by simp [fnd] at h
  | p :: r, j, u, h => by
    unfold fnd at h
    unfold putL
    by_cases hk : k == p.1
    · simp only [hk, if_true, Option.some.injEq, Prod.mk.injEq] at h
      obtain ⟨rfl, _⟩ := h
      exact ⟨p, rfl, (ba_eq hk).symm, by simp [hk]⟩
    · simp only [Bool.not_eq_true] at hk
      simp only [hk] at h ⊢
      rw [fnd_shift] at h
      obtain ⟨⟨j', u'⟩, h1, h2⟩ := Option.map_eq_some_iff.1 h
      simp only [Prod.mk.injEq] at h2
      obtain ⟨rfl, rfl⟩ := h2
      obtain ⟨q, hq1, hq2, hq3⟩ := putL_some k v r j' u' h1
      exact ⟨q, by simpa using hq1, hq2, by simp [hq3]⟩

section
variable {t kt et : TypeId} {w : World} {b : Nat} {L : List KV}
theorem MapAt.lookup (h : MapAt w b L) (ht : Try.prog.underlying t = some (.map kt et)) (hk : Try.prog.underlying kt = some .string) {z : Value} (hz : (zeroValue et).run Try.prog w = .ok z w) (k : ByteArray) :
    (Instr.lookup t (.map (some b)) (.string k) true).run Try.prog w = .ok (.tuple #[(asc L k).getD z, .bool (asc L k).isSome]) w := by
  obtain ⟨es, clock, h1, h2⟩ := h
  have hf := findNow_fnd k es.toList L 0 h2.same
  have hfk : (Instr.findKey kt (.string k) es.toList).run Try.prog w = .ok (fnd k L 0) w := by
    simp [Instr.findKey, run_underlying hk, hf, Result.andThen]
  have hck : ∀ e, (Instr.checkKey e 10000 kt (.string k)).run Try.prog w = .ok () w := fun e => MapKept.run_checkKey hk (by trivial) e 9999
  unfold asc
  cases hq : fnd k L 0 with
  | none =>
    rw [hq] at hfk
    simp [Instr.lookup, run_underlying ht, MapKept.run_getObj_map h1, hck, hfk, hz, Result.andThen]
  | some x =>
    rw [hq] at hfk
    simp [Instr.lookup, run_underlying ht, MapKept.run_getObj_map h1, hck, hfk, Result.andThen]
theorem MapAt.update (h : MapAt w b L) (ht : Try.prog.underlying t = some (.map kt et)) (hk : Try.prog.underlying kt = some .string) (k : ByteArray) (v : Value) :
    ∃ w', (Instr.mapUpdate t (.map (some b)) (.string k) v).run Try.prog w = .ok () w' ∧ MapAt w' b (putL k v L) ∧ w.grownBy w' (some b) := by
  obtain ⟨es, clock, h1, h2⟩ := h
  have hlt := (Array.getElem?_eq_some_iff.1 h1).1
  have hf := findNow_fnd k es.toList L 0 h2.same
  have hfk : (Instr.findKey kt (.string k) es.toList).run Try.prog w = .ok (fnd k L 0) w := by
    simp [Instr.findKey, run_underlying hk, hf, Result.andThen]
  have hck : ∀ e, (Instr.checkKey e 10000 kt (.string k)).run Try.prog w = .ok () w := fun e => MapKept.run_checkKey hk (by trivial) e 9999
  have hset : ∀ o, (setObj b o).run Try.prog w = .ok () (setBlock w b o) := fun o => by simp [setObj, Sem.run, h1, setBlock]
  have hg : ∀ o, w.grownBy (setBlock w b o) (some b) := fun o => ⟨rfl, rfl, rfl, by simp [setBlock], fun i hi hn => by
    simp only [setBlock]
    rw [Array.getElem?_setIfInBounds_ne (by intro e; exact hn (by rw [e]))]⟩
  have hat : ∀ o, (setBlock w b o).heap[b]? = some o := fun o => by simp [setBlock, hlt]
  cases hq : fnd k L 0 with
  | none =>
    rw [hq] at hfk
    refine ⟨setBlock w b (.map (es.push { key := .string k, val := v, born := clock }) (clock + 1)), ?_, ⟨_, _, hat _, ?_⟩, hg _⟩
    · simp [Instr.mapUpdate, run_underlying ht, MapKept.run_getObj_map h1, hck, hfk, hset, Result.andThen]
    · refine ⟨?_, ?_, ?_⟩
      · rw [putL_none k v L hq]
        simp [h2.same, kvE, kvL]
      · intro x hx
        simp at hx
        rcases hx with hx | rfl
        · have := h2.old x (by simpa using hx)
          omega
        · simp
      · simp only [Array.toList_push, List.map_append, List.map_cons, List.map_nil]
        rw [List.nodup_append]
        refine ⟨h2.nodup, by simp, fun a ha c hc => ?_⟩
        simp at hc
        subst hc
        obtain ⟨x, hx, rfl⟩ := List.mem_map.1 ha
        have := h2.old x hx
        omega
  | some x =>
    obtain ⟨j, u⟩ := x
    rw [hq] at hfk
    obtain ⟨p, hp1, hp2, hp3⟩ := putL_some k v L j u hq
    have hes : es.toList[j]?.map kvE = some (kvL p) := by
      rw [← List.getElem?_map, h2.same, List.getElem?_map, hp1]
      rfl
    obtain ⟨e0, he0, he1⟩ := Option.map_eq_some_iff.1 hes
    have hk0 : e0.key = .string k := by
      have := congrArg Prod.fst he1
      simpa [kvE, kvL, hp2] using this
    have he0' : es[j]? = some e0 := by rw [← Array.getElem?_toList]; exact he0
    refine ⟨setBlock w b (.map (es.modify j fun e => { e with key := .string k, val := v }) clock), ?_, ⟨_, _, hat _, ?_⟩, hg _⟩
    · simp [Instr.mapUpdate, run_underlying ht, MapKept.run_getObj_map h1, hck, hfk, hset, Result.andThen, he0', hk0, Instr.keyThatStays, Instr.sameBits, ba_self]
    · have hmod : (es.modify j fun e => { e with key := .string k, val := v }).toList = es.toList.set j { e0 with key := .string k, val := v } := by
        rw [Array.toList_modify]
        exact ChangeMaps.modify_eq_set _ _ _ _ he0
      refine ⟨?_, ?_, ?_⟩
      · rw [hmod, hp3, List.map_set, h2.same, List.map_set]
        simp [kvE, kvL, hp2]
      · intro x hx
        rw [hmod] at hx
        rcases List.mem_or_eq_of_mem_set hx with hx | rfl
        · exact h2.old x hx
        · exact h2.old e0 (List.mem_of_getElem? he0)
      · rw [hmod, List.map_set]
        have : (es.toList.map (·.born)).set j e0.born = es.toList.map (·.born) := by
          apply List.ext_getElem?
          intro i
          rw [List.getElem?_set]
          split
          · rename_i h
            subst h
            rw [List.getElem?_map, he0]
            split
            · rfl
            · rename_i h
              exact absurd (List.getElem?_eq_some_iff.1 he0).1 (by simpa using h)
          · rfl
        simp only [this]
        exact h2.nodup
theorem Ents.len {es : Array MapEntry} {clock : Nat} (h : Ents es clock L) : es.size = L.length := by
  have := congrArg List.length h.same
  simpa using this
theorem MapAt.len (h : MapAt w b L) (ht : Try.prog.underlying t = some (.map kt et)) (ty : TypeId) :
    (Builtin.len_ #[t] ty #[.map (some b)]).run Try.prog w = .ok (.int .i64 L.length) w := by
  obtain ⟨es, clock, h1, h2⟩ := h
  simp [Builtin.len_, run_underlying ht, MapKept.run_getObj_map h1, Result.andThen, h2.len, goInt]

/-- Block r is an iterator over the map of block b, which has the entries L, and 'left' is still to come. -/
def RangeAt (w : World) (r b : Nat) (L left : List KV) : Prop :=
  ∃ es clock seen, w.heap[b]? = some (.map es clock) ∧ w.heap[r]? = some (.mapIter (some b) clock seen clock) ∧ Ents es clock L ∧ (leftOf es seen).toList.map kvE = left.map kvL
theorem RangeAt.mapAt {r : Nat} {left : List KV} (h : RangeAt w r b L left) : MapAt w b L := by
  obtain ⟨es, clock, seen, h1, h2, h3, h4⟩ := h
  exact ⟨es, clock, h1, h3⟩
theorem RangeAt.lt {r : Nat} {left : List KV} (h : RangeAt w r b L left) : r < w.heap.size := by
  obtain ⟨es, clock, seen, h1, h2, h3, h4⟩ := h
  exact (Array.getElem?_eq_some_iff.1 h2).1
theorem RangeAt.below {w' : World} {r : Nat} {left : List KV} (h : RangeAt w r b L left) (hb : Below w.heap.size w w') : RangeAt w' r b L left := by
  have h0 := h.mapAt.lt
  have h9 := h.lt
  obtain ⟨es, clock, seen, h1, h2, h3, h4⟩ := h
  exact ⟨es, clock, seen, (hb.block _ h0).trans h1, (hb.block _ h9).trans h2, h3, h4⟩
theorem RangeAt.fr {w' : World} {r : Nat} {left : List KV} {e : TypeId} (h : RangeAt w r b L left) (hf : Fr e w w') : RangeAt w' r b L left := by
  have h0 := h.mapAt.lt
  have h9 := h.lt
  obtain ⟨es, clock, seen, h1, h2, h3, h4⟩ := h
  exact ⟨es, clock, seen, (hf.block _ h0 (fun c f h' => by rw [h1] at h'; cases h')).trans h1, (hf.block _ h9 (fun c f h' => by rw [h2] at h'; cases h')).trans h2, h3, h4⟩
theorem MapAt.range (h : MapAt w b L) (ht : Try.prog.underlying t = some (.map kt et)) :
    ∃ o, (Instr.range t (.map (some b))).run Try.prog w = .ok (.pointer (some ⟨w.heap.size, 0, none⟩)) (w.alloc o) ∧ RangeAt (w.alloc o) w.heap.size b L L := by
  obtain ⟨es, clock, h1, h2⟩ := h
  have hlt := (Array.getElem?_eq_some_iff.1 h1).1
  refine ⟨_, run_range_map w t kt et b es clock ht h1, es, clock, #[], (Below.heap_alloc w _ _ hlt).trans h1, heap_alloc_new _ _, h2, ?_⟩
  have : leftOf es #[] = es := by
    unfold leftOf
    simp
  rw [this]
  exact h2.same
theorem filter_born (e : MapEntry) : ∀ l : List MapEntry, (l.map (·.born)).Nodup → e ∈ l → ∃ l', l.Perm (e :: l') ∧ l.filter (fun x => !(x.born == e.born)) = l'
  | [], _, h => by simp at h
  | x :: r, hn, h => by
    rw [List.map_cons, List.nodup_cons] at hn
    rcases List.mem_cons.1 h with rfl | h
    · refine ⟨r, List.Perm.refl _, ?_⟩
      rw [List.filter_cons]
      simp only [beq_self_eq_true, Bool.not_true, Bool.false_eq_true, if_false]
      rw [List.filter_eq_self]
      intro y hy
      simp only [Bool.not_eq_eq_eq_not, Bool.not_true, beq_eq_false_iff_ne]
      intro he
      exact hn.1 (List.mem_map.2 ⟨y, hy, he⟩)
    · obtain ⟨l', h1, h2⟩ := filter_born e r hn.2 h
      refine ⟨x :: l', (List.Perm.cons x h1).trans (List.Perm.swap _ _ _), ?_⟩
      rw [List.filter_cons, h2, if_pos]
      simp only [Bool.not_eq_eq_eq_not, Bool.not_true, beq_eq_false_iff_ne]
      intro he
      exact hn.1 (List.mem_map.2 ⟨e, h, he.symm⟩)
theorem perm_kv {l : List MapEntry} {left : List KV} (h : l.map kvE = left.map kvL) {e : MapEntry} (he : e ∈ l) : ∃ p, kvE e = kvL p ∧ ∀ l', l.Perm (e :: l') → ∃ left' : List KV, l'.map kvE = left'.map kvL ∧ left.Perm (p :: left') := by
  have hm : kvE e ∈ left.map kvL := by rw [← h]; exact List.mem_map.2 ⟨e, he, rfl⟩
  obtain ⟨p, hp, hpe⟩ := List.mem_map.1 hm
  refine ⟨p, hpe.symm, fun l' hl => ?_⟩
  have h1 : (left.map kvL).Perm (kvL p :: l'.map kvE) := by
    rw [← h, hpe]
    exact hl.map kvE
  have inj : ∀ a c : KV, kvL a = kvL c → a = c := by
    intro a c hac
    obtain ⟨a1, a2⟩ := a
    obtain ⟨c1, c2⟩ := c
    simp only [kvL, Prod.mk.injEq, Value.string.injEq] at hac
    rw [hac.1, hac.2]
  have h2 : ∀ (q : List (Value × Value)), (∀ x ∈ q, ∃ y, kvL y = x) → ∃ left' : List KV, q = left'.map kvL := by
    intro q
    induction q with
    | nil => intro _; exact ⟨[], rfl⟩
    | cons x r ih =>
      intro hq
      obtain ⟨y, hy⟩ := hq x (by simp)
      obtain ⟨z, hz⟩ := ih (fun u hu => hq u (by simp [hu]))
      exact ⟨y :: z, by rw [List.map_cons, hy, hz]⟩
  obtain ⟨left', hl'⟩ := h2 (l'.map kvE) (fun x hx => by
    have : x ∈ left.map kvL := h1.mem_iff.2 (by simp [hx])
    obtain ⟨y, _, hy⟩ := List.mem_map.1 this
    exact ⟨y, hy⟩)
  refine ⟨left', hl', ?_⟩
  rw [hl', ← List.map_cons] at h1
  have h3 : ∀ q : List KV, (q.map kvL).map (fun x => ((match x.1 with | .string s => s | _ => ⟨#[]⟩ : ByteArray), x.2)) = q := by
    intro q
    rw [List.map_map]
    have : ((fun x : Value × Value => ((match x.1 with | .string s => s | _ => ⟨#[]⟩ : ByteArray), x.2)) ∘ kvL) = id := by
      funext x
      rfl
    rw [this, List.map_id]
  have h4 := h1.map (fun x => ((match x.1 with | .string s => s | _ => ⟨#[]⟩ : ByteArray), x.2))
  rw [h3, h3] at h4
  exact h4
theorem RangeAt.next {r : Nat} {left : List KV} (h : RangeAt w r b L left) (ty : TypeId) :
    (left = [] ∧ (Instr.next (.pointer (some ⟨r, 0, none⟩)) false ty).run Try.prog w = .ok (.tuple #[.bool false]) w) ∨
    ∃ p left' w1, left.Perm (p :: left') ∧ (Instr.next (.pointer (some ⟨r, 0, none⟩)) false ty).run Try.prog w = .ok (.tuple #[.bool true, .string p.1, p.2]) w1 ∧ RangeAt w1 r b L left' ∧ w.grownBy w1 (some r) ∧
      (Instr.entry (.pointer (some ⟨r, 0, none⟩))).run Try.prog w1 = .ok (.tuple #[.string p.1, p.2]) w1 := by
  have h0 := h.mapAt.lt
  have h9 := h.lt
  obtain ⟨es, clock, seen, h1, h2, h3, h4⟩ := h
  have hrb : b ≠ r := by
    intro e
    rw [e, h2] at h1
    cases h1
  rcases run_next_at (P := Try.prog) w ty r b clock clock seen es clock h2 h1 h3.old (Nat.le_refl _) with ⟨hz, hr⟩ | ⟨e, he, w1, hw1, hr⟩
  · left
    refine ⟨?_, hr⟩
    have := congrArg List.length h4
    simp [hz] at this
    exact List.eq_nil_of_length_eq_zero this.symm
  · right
    have hm := mem_left he
    obtain ⟨p, hp1, hp2⟩ := perm_kv h4 he
    have hnd : ((leftOf es seen).toList.map (·.born)).Nodup := by
      refine h3.nodup.sublist ?_
      unfold leftOf
      rw [Array.toList_filter]
      exact (List.filter_sublist).map _
    obtain ⟨l', hl1, hl2⟩ := filter_born e _ hnd he
    obtain ⟨left', hf1, hf2⟩ := hp2 l' hl1
    simp only [kvE, kvL, Prod.mk.injEq] at hp1
    have hb1 : w1.heap[b]? = some (.map es clock) := by rcases hw1 with rfl | rfl <;> exact h1
    have hz1 : w1.heap.size = w.heap.size := by rcases hw1 with rfl | rfl <;> rfl
    have hB : (setBlock w1 r (.mapIter (some b) clock (seen.push e.born) clock)).heap[b]? = some (.map es clock) := by
      simp only [setBlock]
      rw [Array.getElem?_setIfInBounds_ne (Ne.symm hrb)]
      exact hb1
    have hR : (setBlock w1 r (.mapIter (some b) clock (seen.push e.born) clock)).heap[r]? = some (.mapIter (some b) clock (seen.push e.born) clock) := by
      simp [setBlock, hz1, h9]
    refine ⟨p, left', _, hf2, by rw [hr, hp1.1, hp1.2], ⟨es, clock, seen.push e.born, hB, hR, h3, ?_⟩, ?_, ?_⟩
    · rw [← hf1, ← hl2]
      unfold leftOf
      rw [Array.toList_filter, Array.toList_filter, List.filter_filter]
      congr 1
      apply List.filter_congr
      intro x _
      rw [contains_push]
      cases seen.contains x.born <;> cases (x.born == e.born) <;> rfl
    · rcases hw1 with rfl | rfl
      · exact ⟨rfl, rfl, rfl, by simp [setBlock], fun i hi hn => by simp only [setBlock]; rw [Array.getElem?_setIfInBounds_ne (by intro e; exact hn (by rw [e]))]⟩
      · exact ⟨rfl, rfl, rfl, by simp [setBlock], fun i hi hn => by simp only [setBlock]; rw [Array.getElem?_setIfInBounds_ne (by intro e; exact hn (by rw [e]))]; rfl⟩
    · rw [run_entry_at _ r b clock seen es clock e hR hB hm.1 h3.nodup, hp1.1, hp1.2]
end
def All2 {α β : Type} (R : α → β → Prop) : List α → List β → Prop
  | [], [] => True
  | a :: r, b :: s => R a b ∧ All2 R r s
  | _, _ => False
theorem All2.length {α β : Type} {R : α → β → Prop} : ∀ {l : List α} {m : List β}, All2 R l m → l.length = m.length
  | [], [], _ => rfl
  | _ :: _, _ :: _, h => by simp [All2.length h.2]
  | [], _ :: _, h => h.elim
  | _ :: _, [], h => h.elim
theorem All2.imp {α β : Type} {R R' : α → β → Prop} (hR : ∀ a b, R a b → R' a b) : ∀ {l : List α} {m : List β}, All2 R l m → All2 R' l m
  | [], [], _ => trivial
  | _ :: _, _ :: _, h => ⟨hR _ _ h.1, All2.imp hR h.2⟩
  | [], _ :: _, h => h.elim
  | _ :: _, [], h => h.elim
theorem All2.append {α β : Type} {R : α → β → Prop} : ∀ {l : List α} {m : List β} {l' : List α} {m' : List β}, All2 R l m → All2 R l' m' → All2 R (l ++ l') (m ++ m')
  | [], [], _, _, _, h => h
  | _ :: _, _ :: _, _, _, h, h' => ⟨h.1, All2.append h.2 h'⟩
  | [], _ :: _, _, _, h, _ => h.elim
  | _ :: _, [], _, _, h, _ => h.elim
theorem All2.perm {α β : Type} {R : α → β → Prop} {l l' : List α} (hp : l.Perm l') : ∀ {m : List β}, All2 R l m → ∃ m', m.Perm m' ∧ All2 R l' m' := by
  induction hp with
  | nil => intro m h; exact ⟨m, List.Perm.refl _, h⟩
  | cons x _ ih =>
    intro m h
    match m, h with
    | y :: m, h =>
      obtain ⟨m', h1, h2⟩ := ih h.2
      exact ⟨y :: m', h1.cons y, h.1, h2⟩
  | swap x y l =>
    intro m h
    match m, h with
    | a :: b :: m, h => exact ⟨b :: a :: m, List.Perm.swap _ _ _, h.2.1, h.1, h.2.2⟩
  | trans _ _ ih1 ih2 =>
    intro m h
    obtain ⟨m', h1, h2⟩ := ih1 h
    obtain ⟨m'', h3, h4⟩ := ih2 h2
    exact ⟨m'', h1.trans h3, h4⟩

/-- What a write to a map's block leaves: rows stay. -/
theorem Rd.grownMap {w w' : World} {t : TypeId} {v : Value} {n sz : Nat} {xs : List Value} {b : Nat} {L : List KV} (h : Rd true w t v n sz xs) (hm : MapAt w b L) (hg : w.grownBy w' (some b)) : Rd true w' t v n sz xs := by
  obtain ⟨A, c, h1, h2, h3, h4, h5⟩ := h
  refine ⟨A, c, h1, h2, h3, h4, h5.imp id fun ⟨k, o, k1, k2, k3⟩ => ?_⟩
  obtain ⟨cs, fr, hc⟩ := k3 rfl
  have hkb : k ≠ b := by
    intro e
    subst e
    obtain ⟨es, clock, hh, _⟩ := hm
    rw [hc] at hh
    cases hh
  have hk := hg.block k (Array.getElem?_eq_some_iff.1 hc).1 (by simpa using hkb)
  exact ⟨k, o, k1, fun j u hj => cell_keep hk (k2 j u hj), fun _ => ⟨cs, fr, hk.trans hc⟩⟩
theorem MapAt.grownMap {w w' : World} {b c : Nat} {L : List KV} (h : MapAt w c L) (hne : c ≠ b) (hg : w.grownBy w' (some b)) : MapAt w' c L := h.block (hg.block _ h.lt (by simpa using hne))

theorem bs_inj {a b : ByteArray} (h : bs a = bs b) : a = b := by
  cases a
  cases b
  simp only [bs] at h
  congr 1
  exact Array.toList_inj.1 h
theorem key_eq (a b : ByteArray) : (a == b) = decide (bs b = bs a) := by
  by_cases h : bs b = bs a
  · rw [bs_inj h, ba_self]
    simp
  · rw [decide_eq_false h]
    by_cases h' : (a == b) = true
    · rw [ba_eq h'] at h
      exact absurd rfl h
    · simpa using h'
theorem row1 {w : World} {g : Nat} {a : Value} {t : TypeId} (h : w.heap[g]? = some (.cells #[a] t (0, 0))) : w.cell? ⟨g, 0, none⟩ = some a ∧ w.frozen? ⟨g, 0, none⟩ = false := by
  refine ⟨?_, ?_⟩
  · rw [cell_of_row _ _ _ _ _ _ h]; rfl
  · simp [World.frozen?, h]

theorem run_mm (t : TypeId) : ∀ W : World, (Instr.makeMap t none).run Try.prog W = .ok (.map (some W.heap.size)) (W.alloc (.map #[] 0)) := fun W => run_makeMap t W

theorem alloc_at (w : World) (o : Obj) (n : Nat) (h : n = w.heap.size) : (w.alloc o).heap[n]? = some o := by
  rw [h]
  exact heap_alloc_new _ _
theorem own_setOther {w : World} {B : Nat} {e t : TypeId} {size n : Nat} {v : Value} {xs : List Value} {g i : Nat} {cs : Array Value} {fr : Nat × Nat} (h : w.ownsRow B e size v n xs) (hg : w.heap[g]? = some (.cells cs t fr)) (hne : t ≠ e) (u : Value) : (w.setCell ⟨g, i, none⟩ u).ownsRow B e size v n xs := by
  refine h.kept (row := some g) ⟨rfl, rfl, rfl, by simp [World.setCell], fun k _ hk => Below.heap_setCell _ _ _ _ (fun e => hk (by simp [e]))⟩ (.inr ?_)
  intro hv
  rcases h.2 with ⟨rfl, _⟩ | ⟨g', cap, cur, rfl, _, hh, _⟩
  · simp [Value.ownBlock] at hv
  · have : g' = g := by simpa [Value.ownBlock] using hv
    subst this
    rw [hg] at hh
    injection hh with hh
    injection hh with _ hh
    exact hne hh
theorem own_shape {w : World} {base : Nat} {e : TypeId} {size n : Nat} {v : Value} {xs : List Value} (h : w.ownsRow base e size v n xs) : ∃ A c, v = .slice A n c := by
  rcases h.2 with ⟨rfl, rfl⟩ | ⟨g, cap, cur, rfl, _⟩
  · exact ⟨_, _, rfl⟩
  · exact ⟨_, _, rfl⟩
def BoolPost (b : Bool) (w : World) (e : Ending) (w' : World) : Prop := e = .returned (.bool b) ∧ Below w.heap.size w w'
theorem All2.get {α β : Type} {R : α → β → Prop} : ∀ {l : List α} {m : List β} (k : Nat) (b : β), All2 R l m → m[k]? = some b → ∃ a, l[k]? = some a ∧ R a b
  | [], [], _, _, _, h => by simp at h
  | x :: l, y :: m, 0, b, h, hb => by
    simp at hb
    subst hb
    exact ⟨x, rfl, h.1⟩
  | x :: l, y :: m, k + 1, b, h, hb => by
    obtain ⟨a, h1, h2⟩ := All2.get k b h.2 (by simpa using hb)
    exact ⟨a, by simpa using h1, h2⟩
  | [], _ :: _, _, _, h, _ => h.elim
  | _ :: _, [], _, _, h, _ => h.elim
theorem All2.mem {α β : Type} {R : α → β → Prop} : ∀ {l : List α} {m : List β}, All2 R l m → ∀ a ∈ l, ∃ b ∈ m, R a b
  | [], [], _, a, h => by simp at h
  | x :: l, y :: m, h, a, ha => by
    rcases List.mem_cons.1 ha with rfl | ha
    · exact ⟨y, by simp, h.1⟩
    · obtain ⟨b, hb, hr⟩ := All2.mem h.2 a ha
      exact ⟨b, by simp [hb], hr⟩
  | [], _ :: _, h, _, _ => h.elim
  | _ :: _, [], h, _, _ => h.elim
theorem own_le {w : World} {B C : Nat} {e : TypeId} {size n : Nat} {v : Value} {xs : List Value} (h : w.ownsRow B e size v n xs) (hC : C ≤ B) : w.ownsRow C e size v n xs := by
  refine ⟨h.1, ?_⟩
  rcases h.2 with h0 | ⟨g', c', cur, he, hbg, hr⟩
  · exact .inl h0
  · exact .inr ⟨g', c', cur, he, Nat.le_trans hC hbg, hr⟩
theorem S_str (l : List UInt8) : ∃ t, S l = .string t ∧ bs t = l := ⟨⟨l.toArray⟩, rfl, by simp [bs]⟩
theorem u8_lt (a b : UInt8) : (a < b) ∨ (b < a) ∨ a = b := by
  rcases Nat.lt_trichotomy a.toNat b.toNat with h | h | h
  · exact .inl h
  · exact .inr (.inr (UInt8.toNat_inj.1 h))
  · exact .inr (.inl h)
theorem lt8_irr : ∀ a : List UInt8, ¬ a < a
  | [] => by simp
  | x :: r => by
    rw [List.cons_lt_cons_iff]
    rintro (h | ⟨_, h⟩)
    · exact absurd h (by simp)
    · exact lt8_irr r h
theorem lt8_trans : ∀ a b c : List UInt8, a < b → b < c → a < c
  | [], _, [], _, h => by simp at h
  | [], _, _ :: _, _, _ => by simp
  | _ :: _, [], _, h, _ => by simp at h
  | _ :: _, _ :: _, [], _, h => by simp at h
  | x :: a, y :: b, z :: c, h1, h2 => by
    rw [List.cons_lt_cons_iff] at h1 h2 ⊢
    rcases h1 with h1 | ⟨rfl, h1⟩
    · rcases h2 with h2 | ⟨rfl, h2⟩
      · exact .inl (UInt8.lt_trans h1 h2)
      · exact .inl h1
    · rcases h2 with h2 | ⟨rfl, h2⟩
      · exact .inl h2
      · exact .inr ⟨rfl, lt8_trans a b c h1 h2⟩
theorem lt8_tri : ∀ a b : List UInt8, a < b ∨ a = b ∨ b < a
  | [], [] => .inr (.inl rfl)
  | [], _ :: _ => .inl (by simp)
  | _ :: _, [] => .inr (.inr (by simp))
  | x :: a, y :: b => by
    rcases u8_lt x y with h | h | rfl
    · exact .inl (by rw [List.cons_lt_cons_iff]; exact .inl h)
    · exact .inr (.inr (by rw [List.cons_lt_cons_iff]; exact .inl h))
    · rcases lt8_tri a b with h | rfl | h
      · exact .inl (by rw [List.cons_lt_cons_iff]; exact .inr ⟨rfl, h⟩)
      · exact .inr (.inl rfl)
      · exact .inr (.inr (by rw [List.cons_lt_cons_iff]; exact .inr ⟨rfl, h⟩))
theorem snoc_ind {α : Type} {P : List α → Prop} (h0 : P []) (h1 : ∀ l a, P l → P (l ++ [a])) : ∀ l, P l := by
  intro l
  rw [← List.reverse_reverse l]
  induction l.reverse with
  | nil => exact h0
  | cons a r ih => rw [List.reverse_cons]; exact h1 _ _ ih
theorem RangeAt.grownMap {w w' : World} {r b c : Nat} {L left : List KV} (h : RangeAt w r b L left) (h1 : b ≠ c) (h2 : r ≠ c) (hg : w.grownBy w' (some c)) : RangeAt w' r b L left := by
  have h0 := h.mapAt.lt
  have h9 := h.lt
  obtain ⟨es, clock, seen, e1, e2, e3, e4⟩ := h
  exact ⟨es, clock, seen, (hg.block _ h0 (by simpa using h1)).trans e1, (hg.block _ h9 (by simpa using h2)).trans e2, e3, e4⟩
theorem own_setNe {w : World} {B : Nat} {e : TypeId} {size n : Nat} {v : Value} {xs : List Value} {g i : Nat} (h : w.ownsRow B e size v n xs) (hne : v.ownBlock ≠ some g) (u : Value) : (w.setCell ⟨g, i, none⟩ u).ownsRow B e size v n xs :=
  h.kept (row := some g) ⟨rfl, rfl, rfl, by simp [World.setCell], fun k _ hk => Below.heap_setCell _ _ _ _ (fun e => hk (by simp [e]))⟩ (.inr hne)
theorem all8 (p : UInt8 → Prop) (h : ∀ n : Fin 256, p (UInt8.ofNat n.val)) : ∀ c, p c := by
  intro c
  have := h ⟨c.toNat, c.toNat_lt⟩
  simpa using this
theorem MapAt.look1 {t kt et : TypeId} {w : World} {b : Nat} {L : List KV} (h : MapAt w b L) (ht : Try.prog.underlying t = some (.map kt et)) (hk : Try.prog.underlying kt = some .string) {z : Value} (hz : (zeroValue et).run Try.prog w = .ok z w) (k : ByteArray) :
    (Instr.lookup t (.map (some b)) (.string k) false).run Try.prog w = .ok ((asc L k).getD z) w := by
  obtain ⟨es, clock, h1, h2⟩ := h
  have hf := findNow_fnd k es.toList L 0 h2.same
  have hfk : (Instr.findKey kt (.string k) es.toList).run Try.prog w = .ok (fnd k L 0) w := by
    simp [Instr.findKey, run_underlying hk, hf, Result.andThen]
  have hck : ∀ e, (Instr.checkKey e 10000 kt (.string k)).run Try.prog w = .ok () w := fun e => MapKept.run_checkKey hk (by trivial) e 9999
  unfold asc
  cases hq : fnd k L 0 with
  | none =>
    rw [hq] at hfk
    simp [Instr.lookup, run_underlying ht, MapKept.run_getObj_map h1, hck, hfk, hz, Result.andThen]
  | some x =>
    rw [hq] at hfk
    simp [Instr.lookup, run_underlying ht, MapKept.run_getObj_map h1, hck, hfk, Result.andThen]
/-- Texts, sorted. -/
def sortT (l : List (List UInt8)) : List (List UInt8) := l.mergeSort fun x y => decide (x ≤ y)
theorem le8 (a b : List UInt8) : a ≤ b ↔ ¬ b < a := Iff.rfl
theorem sortT_perm {a b : List (List UInt8)} (h : a.Perm b) : sortT a = sortT b := by
  have h1 := List.mergeSort_perm a (fun x y => decide (x ≤ y))
  have h2 := List.mergeSort_perm b (fun x y => decide (x ≤ y))
  have tr : ∀ x y z : List UInt8, decide (x ≤ y) = true → decide (y ≤ z) = true → decide (x ≤ z) = true := by
    intro x y z h1 h2
    simp only [decide_eq_true_eq, le8] at h1 h2 ⊢
    intro h3
    rcases lt8_tri y z with h | h | h
    · exact h1 (lt8_trans _ _ _ h h3)
    · rw [h] at h1; exact h1 h3
    · exact h2 h
  have tt : ∀ x y : List UInt8, (decide (x ≤ y) || decide (y ≤ x)) = true := by
    intro x y
    simp only [Bool.or_eq_true, decide_eq_true_eq, le8]
    rcases lt8_tri x y with h | h | h
    · exact .inl fun h3 => lt8_irr _ (lt8_trans _ _ _ h h3)
    · subst h; exact .inl (lt8_irr _)
    · exact .inr fun h3 => lt8_irr _ (lt8_trans _ _ _ h h3)
  have s1 := List.pairwise_mergeSort tr tt a
  have s2 := List.pairwise_mergeSort tr tt b
  refine List.Perm.eq_of_pairwise (le := fun x y => decide (x ≤ y) = true) ?_ s1 s2 (h1.trans (h.trans h2.symm))
  intro x y _ _ h3 h4
  simp only [decide_eq_true_eq, le8] at h3 h4
  rcases lt8_tri x y with h | h | h
  · exact absurd h h4
  · exact h
  · exact absurd h h3
theorem sortT_len (a : List (List UInt8)) : (sortT a).length = a.length := (List.mergeSort_perm a _).length_eq
def SortSPost (B : Nat) (v : Value) (ts : List (List UInt8)) (w : World) (e : Ending) (w' : World) : Prop :=
  e = .returned (.tuple #[]) ∧ Rd true w' 9 v ts.length 1 (strs (sortT ts)) ∧ Fr 9 w w' ∧ Below B w w'
open Go.Sort in
theorem sort_strs (B : Nat) (v : Value) (ts : List (List UInt8)) (w : World) (h : w.ownsRow B 9 1 v ts.length (strs ts)) (hn : ts.length ≤ 100000) : Calls Try.prog 15 #[v] w (SortSPost B v ts w) := by
  have hrd := Rd.of_own h
  obtain ⟨h1, h2⟩ := h
  rcases h2 with ⟨rfl, h0⟩ | ⟨g, cap, cur, rfl, hg, hh, hnc, hcm, hcs, htake⟩
  · have hts : ts = [] := by
      cases ts with
      | nil => rfl
      | cons a r => simp [strs] at h0
    subst hts
    refine (Try.slices_Sort_string_none none 0 w).mono ?_
    rintro e w' ⟨rfl, rfl⟩
    have hs0 : sortT [] = [] := List.eq_nil_of_length_eq_zero (sortT_len [])
    exact ⟨rfl, by rw [hs0]; exact Rd.nil _ _ _ _, Fr.refl _ _, Below.refl _ _⟩
  · have hgl := (Array.getElem?_eq_some_iff.1 hh).1
    rw [Nat.mul_one] at htake
    have hcell : ∀ (j : Nat) (hj : j < ts.length), cur[j]? = some (S (ts[j])) := by
      intro j hj
      have : (strs ts)[j]? = some (S ts[j]) := by unfold strs; rw [List.getElem?_map, List.getElem?_eq_getElem hj]; rfl
      rw [← htake, List.getElem?_take] at this
      rw [if_pos hj] at this
      simpa using this
    have hH : Holds encStr w g 0 ts.toArray := by
      intro j hj
      have hj' : j < ts.length := by simpa using hj
      refine ⟨?_, by simp [World.frozen?, hh]⟩
      rw [cell_of_row _ _ _ _ _ _ hh, Nat.zero_add, hcell j hj', getElem!_pos ts.toArray j hj]
      simp [S]
    refine (Try.slices_Sort_string g 0 cap ts w hH hgl (by omega)).mono ?_
    rintro e w' ⟨rfl, n, os, rfl⟩
    have hlen : (sortT ts).length = ts.length := sortT_len ts
    have hsz : (sortT ts).toArray.size = ts.toArray.size := by simpa using hlen
    have hput : (putRow encStr (Sort.ahead w n) g 0 (sortT ts).toArray).heap[g]? = some (.cells (putCells encStr 0 (sortT ts).toArray cur) 9 (0, 0)) := by
      simp only [putRow, mapBlock, Sort.ahead, Array.getElem?_modify, if_true, hh]
      rfl
    have hblk : (grow (putRow encStr (Sort.ahead w n) g 0 (sortT ts).toArray) os).heap[g]? = some (.cells (putCells encStr 0 (sortT ts).toArray cur) 9 (0, 0)) := by
      simp only [grow]
      rw [Array.getElem?_append_left (Array.getElem?_eq_some_iff.1 hput).1]
      exact hput
    have hoth : ∀ k, k < w.heap.size → k ≠ g → (grow (putRow encStr (Sort.ahead w n) g 0 (sortT ts).toArray) os).heap[k]? = w.heap[k]? := by
      intro k hk hne
      simp only [grow]
      rw [Array.getElem?_append_left (by simpa using hk)]
      simp only [putRow, mapBlock, Sort.ahead, Array.getElem?_modify]
      rw [if_neg (fun e => hne e.symm)]
    have hH2 := holds_grow encStr (putRow encStr (Sort.ahead w n) g 0 (sortT ts).toArray) os g 0 (sortT ts).toArray (by simpa using hgl) (holds_putRow encStr (Sort.ahead w n) g 0 ts.toArray (sortT ts).toArray (holds_ahead encStr w n g 0 _ hH) hsz)
    refine ⟨rfl, ⟨_, cap, rfl, hnc, by simpa [maxLen] using hcm, by simp [strs, hlen], .inr ⟨g, 0, rfl, fun j u hj => ?_, fun _ => ⟨_, _, hblk⟩⟩⟩, ⟨by simp, fun k hk hne => hoth k hk (fun e => by subst e; exact hne _ _ hh)⟩, ⟨rfl, rfl, rfl, by simp, fun k hk => ?_⟩⟩
    · unfold strs at hj
      rw [List.getElem?_map] at hj
      obtain ⟨x, hx, rfl⟩ := Option.map_eq_some_iff.1 hj
      have hjl := (List.getElem?_eq_some_iff.1 hx).1
      have := (hH2 j (by simpa using hjl)).1
      rw [getElem!_pos (sortT ts).toArray j (by simpa using hjl)] at this
      have hx2 := (List.getElem?_eq_some_iff.1 hx).2
      refine this.trans ?_
      simp [S, hx2]
    · by_cases hkw : k < w.heap.size
      · exact hoth k hkw (by omega)
      · omega
/-- Two rows of strings, compared. -/
theorem eq_strs {ty1 ty2 : Bool} (v1 v2 : Value) (xs ys : List (List UInt8)) (w : World) (h1 : Rd ty1 w 9 v1 xs.length 1 (strs xs)) (h2 : Rd ty2 w 9 v2 ys.length 1 (strs ys)) :
    Calls Try.prog 9 #[v1, v2] w fun e w' => e = .returned (.bool (decide (xs = ys))) ∧ ∃ q, w' = w.drewN q := by
  obtain ⟨A1, c1, rfl, hc1, hm1⟩ := h1.shape
  obtain ⟨A2, c2, rfl, hc2, hm2⟩ := h2.shape
  by_cases hl : xs.length = ys.length
  · by_cases hz : xs.length = 0
    · have hx : xs = [] := List.eq_nil_of_length_eq_zero hz
      have hy : ys = [] := List.eq_nil_of_length_eq_zero (by omega)
      subst hx hy
      refine (Try.slices_Equal_string_empty A1 A2 c1 0 c2 w (by omega)).mono ?_
      rintro e w' ⟨rfl, rfl⟩
      exact ⟨rfl, 0, rfl⟩
    · obtain ⟨b1, o1, d1, e1, _, _, k1⟩ := h1.cells (by omega)
      obtain ⟨b2, o2, d2, e2, _, _, k2⟩ := h2.cells (by omega)
      injection e1 with e1 _ _
      injection e2 with e2 _ _
      subst e1 e2
      have cells : ∀ (b o : Nat) (l : List (List UInt8)), (∀ (j : Nat) u, (strs l)[j]? = some u → w.cell? ⟨b, o + j, none⟩ = some u) → ∀ j, j < (l.map fun x => (⟨x.toArray⟩ : ByteArray)).length → w.cell? ⟨b, o + j, none⟩ = some (.string ((l.map fun x => (⟨x.toArray⟩ : ByteArray)).getD j ByteArray.empty)) := by
        intro b o l h j hj
        rw [List.length_map] at hj
        refine h j _ ?_
        unfold strs
        rw [List.getElem?_map, List.getElem?_eq_getElem hj]
        simp [List.getD, S, List.getElem?_eq_getElem hj]
      refine (Try.slices_Equal_string b1 o1 xs.length c1 b2 o2 ys.length c2 (xs.map fun x => ⟨x.toArray⟩) (ys.map fun x => ⟨x.toArray⟩) w (by simp) (by simp) (by omega) (by omega) (cells b1 o1 xs k1) (cells b2 o2 ys k2)).mono ?_
      rintro e w' ⟨rfl, h⟩
      refine ⟨?_, h⟩
      congr 2
      rw [List.take_of_length_le (by simp), List.take_of_length_le (by simp)]
      refine decide_eq_decide.2 ⟨fun h => ?_, fun h => by rw [h]⟩
      have := congrArg (List.map bs) h
      simpa [List.map_map, Function.comp_def, bs] using this
  · refine (Try.slices_Equal_string_lens A1 A2 xs.length c1 ys.length c2 w hl).mono ?_
    rintro e w' ⟨rfl, rfl⟩
    refine ⟨?_, 0, rfl⟩
    rw [decide_eq_false]
    intro h
    exact hl (by rw [h])
end Go.Proofs.Ytfaokggblllcmaa
