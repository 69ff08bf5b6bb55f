/- Contract: spec.CarrierDo. -/
import Derived.Test.YtfaokggblllcmaaC5
import Derived.Deep.CutBlock
import Derived.Deep.CutRange
set_option linter.unusedVariables false
set_option linter.unusedSimpArgs false
namespace Go.Proofs.Ytfaokggblllcmaa
open Go Go.RowKit

/-- A step: what is done, a key, a value. -/
abbrev Stp := Nat × List UInt8 × List UInt8
/-- What a step tells: a text, a list. -/
abbrev Ans := List UInt8 × List (List UInt8)
def ansC (hd : Bool) (M : KVs) (s : Stp) : Ans :=
  if s.1 = 1 then ((getA (keyOf hd s.2.1) M).getD [], []) else
  if s.1 = 2 then ([], if hd then (getA (keyOf hd s.2.1) M).toList else []) else
  if s.1 = 3 then ([], sortT (M.map (·.1))) else ([], [])
def nxtC (hd : Bool) (M : KVs) (s : Stp) : KVs := if s.1 = 0 then putA (keyOf hd s.2.1) s.2.2 M else M
def runC (hd : Bool) : List Stp → KVs → List Ans
  | [], _ => []
  | s :: r, M => ansC hd M s :: runC hd r (nxtC hd M s)
def endC (hd : Bool) (l : List Stp) (M : KVs) : KVs := l.foldl (nxtC hd) M
theorem runC_len (hd : Bool) : ∀ (l : List Stp) (M : KVs), (runC hd l M).length = l.length
  | [], _ => rfl
  | s :: r, M => by rw [runC, List.length_cons, List.length_cons, runC_len hd r]
theorem runC_snoc (hd : Bool) : ∀ (l : List Stp) (s : Stp) (M : KVs), runC hd (l ++ [s]) M = runC hd l M ++ [ansC hd (endC hd l M) s]
  | [], s, M => rfl
  | x :: r, s, M => by rw [List.cons_append, runC, runC, runC_snoc hd r s, List.cons_append]; rfl
theorem endC_snoc (hd : Bool) (l : List Stp) (s : Stp) (M : KVs) : endC hd (l ++ [s]) M = nxtC hd (endC hd l M) s := by simp [endC]
theorem putA_len (k v : List UInt8) : ∀ M : KVs, (putA k v M).length ≤ M.length + 1
  | [] => by simp [putA]
  | p :: r => by
    unfold putA
    split
    · simp
    · have := putA_len k v r
      simp only [List.length_cons]; omega
theorem endC_len (hd : Bool) (l : List Stp) : (endC hd l []).length ≤ l.length := by
  induction l using snoc_ind with
  | h0 => simp [endC]
  | h1 l s ih =>
    rw [endC_snoc, List.length_append]
    unfold nxtC
    split
    · have := putA_len (keyOf hd s.2.1) s.2.2 (endC hd l [])
      simp only [List.length_cons, List.length_nil]; omega
    · simp only [List.length_cons, List.length_nil]; omega
structure StOk (s : Stp) : Prop where
  op : s.1 ≤ 3
  key : s.2.1.length ≤ 100000
  val : s.2.2.length ≤ 100000
def scells (s : Stp) : List Value := [.int .u8 s.1, S s.2.1, S s.2.2]
theorem scells_len (s : Stp) : (scells s).length = 3 := rfl
def AnsR (w : World) (cs : List Value) (a : Ans) : Prop := ∃ t lv, cs = [.string t, lv] ∧ bs t = a.1 ∧ Rd true w 9 lv a.2.length 1 (strs a.2)
theorem AnsR.below {w w' : World} {cs : List Value} {a : Ans} (h : AnsR w cs a) (hb : Below w.heap.size w w') : AnsR w' cs a := by
  obtain ⟨t, lv, h1, h2, h3⟩ := h
  exact ⟨t, lv, h1, h2, h3.below hb⟩
theorem AnsR.fr {w w' : World} {cs : List Value} {a : Ans} {e : TypeId} (h : AnsR w cs a) (hf : Fr e w w') (hne : 9 ≠ e) : AnsR w' cs a := by
  obtain ⟨t, lv, h1, h2, h3⟩ := h
  exact ⟨t, lv, h1, h2, h3.fr hf hne⟩
theorem AnsR.map {w w' : World} {cs : List Value} {a : Ans} {b : Nat} {L : List KV} (h : AnsR w cs a) (hm : MapAt w b L) (hg : w.grownBy w' (some b)) : AnsR w' cs a := by
  obtain ⟨t, lv, h1, h2, h3⟩ := h
  exact ⟨t, lv, h1, h2, h3.grownMap hm hg⟩
def AnsPost (T : TypeId) (rs : List Ans) (w : World) (e : Ending) (w' : World) : Prop :=
  ∃ v css, e = .returned v ∧ Rd true w' T v rs.length 2 css.flatten ∧ All2 (AnsR w') css rs ∧ Below w.heap.size w w'
/-- What one step leaves: the carrier's map, the answer's row. -/
def SwP (T : TypeId) (hd : Bool) (wr : World) (b : Nat) (M : KVs) (a : Ans) (xb : Nat) (W : World) : Prop :=
  wr.grownBy W (some b) ∧ CarAt hd W b M ∧ ∃ t A c, W.heap[xb]? = some (.cells #[.string t, .slice A a.2.length c] T (0, 0)) ∧ bs t = a.1 ∧ Rd true W 9 (.slice A a.2.length c) a.2.length 1 (strs a.2)
theorem row2 {w : World} {g : Nat} {a b : Value} {t : TypeId} (h : w.heap[g]? = some (.cells #[a, b] t (0, 0))) :
    (w.cell? ⟨g, 0, none⟩ = some a ∧ w.cell? ⟨g, 1, none⟩ = some b) ∧ w.frozen? ⟨g, 0, none⟩ = false ∧ w.frozen? ⟨g, 1, none⟩ = false := by
  refine ⟨⟨?_, ?_⟩, ?_, ?_⟩
  · rw [cell_of_row _ _ _ _ _ _ h]; rfl
  · rw [cell_of_row _ _ _ _ _ _ h]; rfl
  · simp [World.frozen?, h]
  · simp [World.frozen?, h]
/-- All but block xb is as it was. -/
theorem grown_set {w W : World} {x : Nat} (h : w.grownBy W (some x)) (i : Nat) (v : Value) : w.grownBy (W.setCell ⟨x, i, none⟩ v) (some x) :=
  ⟨h.os, h.tape, h.output, by simpa using h.size, fun k hk hn => (Below.heap_setCell _ _ _ _ (by intro e; exact hn (congrArg some e))).trans (h.block k hk hn)⟩
theorem grown_below {w W W' : World} {x : Option Nat} (h : w.grownBy W x) (hb : Below w.heap.size W W') : w.grownBy W' x :=
  ⟨hb.os.trans h.os, hb.tape.trans h.tape, hb.output.trans h.output, Nat.le_trans h.size hb.size, fun k hk hn => (hb.block k hk).trans (h.block k hk hn)⟩
theorem Try.info36 : (Try.prog.info? 36).map (fun i => (i.zero, i.size, i.bytes)) = some (some (.agg #[.string ⟨#[]⟩, .slice none 0 0]), 2, 40) := by kernel_rfl
theorem Try.info35 : (Try.prog.info? 35).map (fun i => (i.zero, i.size, i.bytes)) = some (some (.agg #[.string ⟨#[]⟩, .slice none 0 0]), 2, 40) := by kernel_rfl
end Go.Proofs.Ytfaokggblllcmaa
