/- Contracts of the functions of this claim, proved once, joined out of smaller texts: RE RF RG RH RI RJ RK RL RM RN RO RP RQ L2. -/
import Derived.Test.YtleofgndghjflaaGreatDoorY10
import Derived.Deep.DeepAppendRoom
import Derived.Test.YtleofgndghjflaaGreatDoorY9
import Derived.Lib.SmallJoins
set_option linter.unusedVariables false
set_option linter.unusedSimpArgs false
namespace Go.Proofs.YtleofgndghjflaaGreatDoor
open Go Go.RowKit

theorem lt8_irr : ∀ a : List UInt8, ¬ a < a
  | [] => by simp
  | x :: r => by
    rw [List.cons_lt_cons_iff]
    rintro (h | ⟨_, h⟩)
    · exact absurd h (by simp)
    · exact lt8_irr r h
theorem lt8_trans : ∀ a b c : List UInt8, a < b → b < c → a < c
  | [], _, [], _, h => by simp at h
  | [], _, _ :: _, _, _ => by simp
  | _ :: _, [], _, h, _ => by simp at h
  | _ :: _, _ :: _, [], _, h => by simp at h
  | x :: a, y :: b, z :: c, h1, h2 => by
    rw [List.cons_lt_cons_iff] at h1 h2 ⊢
    rcases h1 with h1 | ⟨rfl, h1⟩
    · rcases h2 with h2 | ⟨rfl, h2⟩
      · exact .inl (UInt8.lt_trans h1 h2)
      · exact .inl h1
    · rcases h2 with h2 | ⟨rfl, h2⟩
      · exact .inl h2
      · exact .inr ⟨rfl, lt8_trans a b c h1 h2⟩
theorem lt8_tri : ∀ a b : List UInt8, a < b ∨ a = b ∨ b < a
  | [], [] => .inr (.inl rfl)
  | [], _ :: _ => .inl (by simp)
  | _ :: _, [] => .inr (.inr (by simp))
  | x :: a, y :: b => by
    rcases u8_lt x y with h | h | rfl
    · exact .inl (by rw [List.cons_lt_cons_iff]; exact .inl h)
    · exact .inr (.inr (by rw [List.cons_lt_cons_iff]; exact .inl h))
    · rcases lt8_tri a b with h | rfl | h
      · exact .inl (by rw [List.cons_lt_cons_iff]; exact .inr ⟨rfl, h⟩)
      · exact .inr (.inl rfl)
      · exact .inr (.inr (by rw [List.cons_lt_cons_iff]; exact .inr ⟨rfl, h⟩))
/-- Sorted by the keys, each key once. -/
def Srt (X : List SM) : Prop := X.Pairwise fun a b => a.1 < b.1
theorem withMS_mem (m : SM) : ∀ (X : List SM) (x : SM), x ∈ withMS m X → x = m ∨ x ∈ X
  | [], x, h => by simp [withMS] at h; exact .inl h
  | y :: X, x, h => by
    unfold withMS at h
    split at h
    · rcases List.mem_cons.1 h with rfl | h
      · exact .inr (by simp)
      · rcases withMS_mem m X x h with h | h
        · exact .inl h
        · exact .inr (by simp [h])
    · split at h
      · rcases List.mem_cons.1 h with rfl | h
        · exact .inl rfl
        · exact .inr (by simp [h])
      · rcases List.mem_cons.1 h with rfl | h
        · exact .inl rfl
        · exact .inr h
theorem withMS_sorted (m : SM) : ∀ (X : List SM), Srt X → Srt (withMS m X)
  | [], _ => by unfold withMS Srt; simp
  | y :: X, h => by
    have h' := List.pairwise_cons.1 h
    unfold withMS
    split
    · rename_i hy
      refine List.pairwise_cons.2 ⟨fun x hx => ?_, withMS_sorted m X h'.2⟩
      rcases withMS_mem m X x hx with rfl | hx
      · exact hy
      · exact h'.1 x hx
    · split
      · rename_i hy he
        exact List.pairwise_cons.2 ⟨fun x hx => by rw [← he]; exact h'.1 x hx, h'.2⟩
      · rename_i hy he
        have hm : m.1 < y.1 := by
          rcases lt8_tri y.1 m.1 with h | h | h
          · exact absurd h hy
          · exact absurd h he
          · exact h
        refine List.pairwise_cons.2 ⟨fun x hx => ?_, h⟩
        rcases List.mem_cons.1 hx with rfl | hx
        · exact hm
        · exact lt8_trans _ _ _ hm (h'.1 x hx)
theorem filter_above {k : List UInt8} : ∀ (X : List SM), (∀ x ∈ X, k < x.1) → X.filter (fun x => !decide (x.1 = k)) = X := by
  intro X h
  rw [List.filter_eq_self]
  intro x hx
  have := h x hx
  simp only [Bool.not_eq_eq_eq_not, Bool.not_true, decide_eq_false_iff_not]
  intro e
  rw [e] at this
  exact lt8_irr _ this
/-- A key taken out. -/
def withoutMS (k : List UInt8) (X : List SM) : List SM := X.filter fun x => !decide (x.1 = k)
theorem withMS_perm (m : SM) : ∀ (X : List SM), Srt X → (withMS m X).Perm (withoutMS m.1 X ++ [m])
  | [], _ => by simp [withMS, withoutMS]
  | y :: X, h => by
    have h' := List.pairwise_cons.1 h
    have ih := withMS_perm m X h'.2
    unfold withoutMS at ih ⊢
    unfold withMS
    split
    · rename_i hy
      have hne : ¬ y.1 = m.1 := fun e => by rw [e] at hy; exact lt8_irr _ hy
      rw [List.filter_cons, if_pos (by simp [hne])]
      exact ih.cons y
    · split
      · rename_i hy he
        rw [List.filter_cons, if_neg (by simp [he]), filter_above X (fun x hx => by rw [← he]; exact h'.1 x hx)]
        exact (List.perm_append_singleton m X).symm
      · rename_i hy he
        have hm : m.1 < y.1 := by
          rcases lt8_tri y.1 m.1 with h | h | h
          · exact absurd h hy
          · exact absurd h he
          · exact h
        rw [filter_above (y :: X) (fun x hx => by
          rcases List.mem_cons.1 hx with rfl | hx
          · exact hm
          · exact lt8_trans _ _ _ hm (h'.1 x hx))]
        exact (List.perm_append_singleton m (y :: X)).symm
theorem Srt.uniq {X : List SM} (h : Srt X) : ∀ a ∈ X, ∀ b ∈ X, a.1 = b.1 → a = b := by
  induction X with
  | nil => intro a ha; cases ha
  | cons y X ih =>
    have h' := List.pairwise_cons.1 h
    intro a ha b hb e
    rcases List.mem_cons.1 ha with e1 | ha1
    · rcases List.mem_cons.1 hb with e2 | hb1
      · rw [e1, e2]
      · have := h'.1 b hb1
        rw [← e1, e] at this
        exact absurd this (lt8_irr _)
    · rcases List.mem_cons.1 hb with e2 | hb1
      · have := h'.1 a ha1
        rw [← e2, ← e] at this
        exact absurd this (lt8_irr _)
      · exact ih h'.2 a ha1 b hb1 e
theorem without_sorted (k : List UInt8) {X : List SM} (h : Srt X) : Srt (withoutMS k X) := List.Pairwise.filter _ h
def askMS (k : List UInt8) (X : List SM) : SM := (X.find? fun x => decide (x.1 = k)).getD ([], [], [])

/-- A baggage's members are those of X, which is sorted. -/
structure BagIs (ms : List Mem) (X : List SM) : Prop where
  perm : (ms.map told).Perm X
  srt : Srt X
theorem BagIs.none : BagIs [] [] := ⟨List.Perm.refl _, List.Pairwise.nil⟩
theorem BagIs.nodup {ms : List Mem} {X : List SM} (h : BagIs ms X) : (ms.map Mem.key).Nodup := by
  have h1 : (X.map (·.1)).Nodup := by
    rw [List.Nodup, List.pairwise_map]
    exact h.srt.imp fun {a b} hab e => by rw [e] at hab; exact lt8_irr _ hab
  have h2 := h.perm.map (·.1)
  rw [List.map_map] at h2
  exact h2.symm.nodup h1
theorem BagIs.length {ms : List Mem} {X : List SM} (h : BagIs ms X) : ms.length = X.length := by
  have := h.perm.length_eq
  simpa using this
def lessM (k : List UInt8) (ms : List Mem) : List Mem := ms.filter fun x => !decide (x.key = k)
theorem lessM_told (k : List UInt8) (ms : List Mem) : (lessM k ms).map told = withoutMS k (ms.map told) := by
  unfold lessM withoutMS
  rw [List.filter_map]
  rfl
theorem BagIs.del {ms ms' : List Mem} {X : List SM} (h : BagIs ms X) (k : List UInt8) (hp : ms'.Perm (lessM k ms)) : BagIs ms' (withoutMS k X) := by
  refine ⟨?_, without_sorted k h.srt⟩
  refine (hp.map told).trans ?_
  rw [lessM_told]
  exact h.perm.filter _
theorem BagIs.set {ms ms' : List Mem} {X : List SM} (h : BagIs ms X) (m : Mem) (hp : ms'.Perm (lessM m.key ms ++ [m])) : BagIs ms' (withMS (told m) X) := by
  refine ⟨?_, withMS_sorted _ X h.srt⟩
  refine (hp.map told).trans ?_
  rw [List.map_append, lessM_told]
  refine List.Perm.trans ?_ (withMS_perm (told m) X h.srt).symm
  exact (h.perm.filter _).append_right _
theorem putM_perm (m : Mem) : ∀ (ms : List Mem), (ms.map Mem.key).Nodup → (putM m ms).Perm (lessM m.key ms ++ [m])
  | [], _ => by simp [putM, lessM]
  | x :: r, h => by
    rw [List.map_cons, List.nodup_cons] at h
    have ih := putM_perm m r h.2
    unfold lessM at ih ⊢
    unfold putM
    split
    · rename_i he
      have : r.filter (fun x => !decide (x.key = m.key)) = r := by
        rw [List.filter_eq_self]
        intro y hy
        simp only [Bool.not_eq_eq_eq_not, Bool.not_true, decide_eq_false_iff_not]
        intro e
        exact h.1 (List.mem_map.2 ⟨y, hy, by rw [e, he]⟩)
      rw [List.filter_cons, if_neg (by simp [he]), this]
      exact (List.perm_append_singleton m r).symm
    · rename_i he
      rw [List.filter_cons, if_pos (by simp [he])]
      exact ih.cons x
theorem BagIs.put {ms : List Mem} {X : List SM} (h : BagIs ms X) (m : Mem) : BagIs (putM m ms) (withMS (told m) X) := h.set m (putM_perm m ms h.nodup)
theorem BagIs.sorted {ms ms2 : List Mem} {X : List SM} (h : BagIs ms X) (hp : ms.Perm ms2) (hs : ms2.Pairwise fun a b => ¬ b.key < a.key) : ms2.map told = X := by
  have hp2 : (ms2.map told).Perm X := (hp.map told).symm.trans h.perm
  refine List.Perm.eq_of_pairwise (le := fun a b : SM => ¬ b.1 < a.1) ?_ ?_ ?_ hp2
  · intro a b ha hb h1 h2
    refine h.srt.uniq a (hp2.mem_iff.1 ha) b hb ?_
    rcases lt8_tri a.1 b.1 with h | h | h
    · exact absurd h h2
    · exact h
    · exact absurd h h1
  · rw [List.pairwise_map]
    exact hs
  · exact h.srt.imp fun {a b} hab hba => lt8_irr _ (lt8_trans _ _ _ hab hba)
theorem BagIs.ask {ms : List Mem} {X : List SM} (h : BagIs ms X) (k : List UInt8) : askMS k X = ((ms.find? fun x => decide (x.key = k)).map told).getD ([], [], []) := by
  unfold askMS
  congr 1
  cases hf : ms.find? (fun x => decide (x.key = k)) with
  | none =>
    rw [Option.map_none, List.find?_eq_none]
    intro x hx
    obtain ⟨m, hm, rfl⟩ := List.mem_map.1 (h.perm.mem_iff.2 hx)
    exact List.find?_eq_none.1 hf m hm
  | some m =>
    have h1 := List.mem_of_find?_eq_some hf
    have h2 := List.find?_some hf
    have h3 : told m ∈ X := h.perm.mem_iff.1 (List.mem_map.2 ⟨m, h1, rfl⟩)
    cases hx : X.find? (fun x => decide (x.1 = k)) with
    | none => exact absurd h2 (List.find?_eq_none.1 hx (told m) h3)
    | some x =>
      have h4 := List.mem_of_find?_eq_some hx
      have h5 := List.find?_some hx
      rw [Option.map_some, h.srt.uniq x h4 (told m) h3 ?_]
      simp only [decide_eq_true_eq] at h2 h5
      rw [h5, ← h2]
      rfl

/-- What the members' texts take, each with a comma. -/
def wt (ms : List Mem) : Nat := (ms.map fun m => (memStr m).length + 1).sum
theorem wt_cons (m : Mem) (ms : List Mem) : wt (m :: ms) = (memStr m).length + 1 + wt ms := by simp [wt]
theorem wt_app (a b : List Mem) : wt (a ++ b) = wt a + wt b := by simp [wt]
theorem wt_perm {a b : List Mem} (h : a.Perm b) : wt a = wt b := (h.map _).sum_nat
theorem wt_put (m : Mem) : ∀ ms : List Mem, wt (putM m ms) ≤ wt ms + ((memStr m).length + 1)
  | [] => by simp [putM, wt]
  | x :: r => by
    have ih := wt_put m r
    unfold putM
    split
    · rw [wt_cons, wt_cons]; omega
    · rw [wt_cons, wt_cons]; omega
/-- Members put into a baggage, one behind the other. -/
def newB (ms : List Mem) : List Mem := ms.foldl (fun a m => putM m a) []
theorem newB_snoc (ms : List Mem) (m : Mem) : newB (ms ++ [m]) = putM m (newB ms) := by simp [newB]
def foldW (xs : List SM) : List SM := xs.foldl (fun a m => withMS m a) []
theorem foldW_snoc (xs : List SM) (x : SM) : foldW (xs ++ [x]) = withMS x (foldW xs) := by simp [foldW]
theorem snoc_ind {α : Type} {P : List α → Prop} (h0 : P []) (h1 : ∀ l a, P l → P (l ++ [a])) : ∀ l, P l := by
  intro l
  rw [← List.reverse_reverse l]
  induction l.reverse with
  | nil => exact h0
  | cons a r ih => rw [List.reverse_cons]; exact h1 _ _ ih
theorem newB_is (ms : List Mem) : BagIs (newB ms) (foldW (ms.map told)) := by
  induction ms using snoc_ind with
  | h0 => exact BagIs.none
  | h1 l m ih => rw [newB_snoc, List.map_append, List.map_cons, List.map_nil, foldW_snoc]; exact ih.put m
theorem newB_wt (ms : List Mem) : wt (newB ms) ≤ wt ms := by
  induction ms using snoc_ind with
  | h0 => simp [newB]
  | h1 l m ih =>
    rw [newB_snoc, wt_app]
    have := wt_put m (newB l)
    have : wt [m] = (memStr m).length + 1 := by simp [wt]
    omega

/-- What a step over a baggage tells: the member asked for, whether it failed, and the members behind it. -/
abbrev Ans := SM × Bool × List SM
def stepB (op : Nat) (x : SM) (X : List SM) : Ans :=
  if op = 0 then (if (madeMS false x).2 then (([], [], []), false, withMS (madeMS false x).1 X) else (([], [], []), true, X))
  else if op = 1 then (([], [], []), false, withoutMS x.1 X)
  else if op = 2 then (askMS x.1 X, false, X) else (([], [], []), false, X)
abbrev Stp := Nat × SM
def endB (l : List Stp) (X : List SM) : List SM := l.foldl (fun X s => (stepB s.1 s.2 X).2.2) X
def runBag : List Stp → List SM → List Ans
  | [], _ => []
  | s :: r, X => stepB s.1 s.2 X :: runBag r (stepB s.1 s.2 X).2.2
theorem endB_snoc (l : List Stp) (s : Stp) (X : List SM) : endB (l ++ [s]) X = (stepB s.1 s.2 (endB l X)).2.2 := by simp [endB]
theorem runBag_app : ∀ (l m : List Stp) (X : List SM), runBag (l ++ m) X = runBag l X ++ runBag m (endB l X)
  | [], _, _ => rfl
  | s :: l, m, X => by rw [List.cons_append, runBag, runBag, runBag_app l m]; rfl
theorem runBag_len : ∀ (l : List Stp) (X : List SM), (runBag l X).length = l.length
  | [], _ => rfl
  | s :: l, X => by rw [runBag, List.length_cons, List.length_cons, runBag_len l]
theorem stepB_srt (op : Nat) (x : SM) {X : List SM} (h : Srt X) : Srt (stepB op x X).2.2 := by
  unfold stepB
  split
  · split
    · exact withMS_sorted _ _ h
    · exact h
  · split
    · exact without_sorted _ h
    · split <;> exact h
theorem runBag_get (l : List Stp) (X : List SM) (k : Nat) (s : Stp) (h : l[k]? = some s) : (runBag l X)[k]? = some (stepB s.1 s.2 (endB (l.take k) X)) := by
  have hk := (List.getElem?_eq_some_iff.1 h).1
  have e : l = l.take k ++ s :: l.drop (k + 1) := by
    have := (List.getElem?_eq_some_iff.1 h).2
    rw [← this, List.getElem_cons_drop, List.take_append_drop]
  conv => lhs; rw [e]
  rw [runBag_app, List.getElem?_append_right (by rw [runBag_len, List.length_take]; omega), runBag_len, List.length_take, Nat.min_eq_left (by omega), Nat.sub_self]
  rfl
/-- Members set one behind the other, then a key taken out. -/
theorem endB_sets : ∀ (xs : List SM), (∀ x ∈ xs, (madeMS false x).2 = true) → endB (xs.map fun x => (0, x)) [] = foldW (xs.map fun x => (madeMS false x).1) := by
  intro xs
  induction xs using snoc_ind with
  | h0 => intro _; rfl
  | h1 l x ih =>
    intro h
    rw [List.map_append, List.map_append, List.map_cons, List.map_nil, List.map_cons, List.map_nil, endB_snoc, foldW_snoc, ih (fun y hy => h y (by simp [hy]))]
    unfold stepB
    rw [if_pos rfl, if_pos (h x (by simp))]
end Go.Proofs.YtleofgndghjflaaGreatDoor

set_option linter.unusedVariables false
set_option linter.unusedSimpArgs false
namespace Go.Proofs.YtleofgndghjflaaGreatDoor
open Go Go.RowKit

theorem run_mmh (t kt et : TypeId) (n : Int) (ht : Tryz.prog.underlying t = some (.map kt et)) : ∀ W : World, (Instr.makeMap t (some (.int .i64 n))).run Tryz.prog W = .ok (.map (some W.heap.size)) (W.alloc (.map #[] 0)) := fun W => by
  simp [Instr.makeMap, run_underlying ht, asInt, asIntOf, Result.andThen]
  try rfl
theorem asc_find {w : World} (k : ByteArray) : ∀ (L : List KV) (ms : List Mem), All2 (ItemAt w) L ms → match ms.find? (fun x => decide (x.key = bs k)) with
    | none => asc L k = none
    | some m => ∃ v, asc L k = some v ∧ ItemAt w (k, v) m
  | [], [], _ => rfl
  | p :: L, x :: ms, h => by
    have h1 := h.1
    obtain ⟨vb, mb, iv, e1, e2, e3⟩ := h.1
    have ih := asc_find k L ms h.2
    unfold asc fnd
    rw [List.find?_cons, key_eq, e2]
    by_cases hk : x.key = bs k
    · simp only [hk, decide_true, if_true]
      refine ⟨p.2, rfl, vb, mb, iv, e1, hk.symm, e3⟩
    · simp only [hk, decide_false, Bool.false_eq_true, if_false]
      rw [fnd_shift]
      unfold asc at ih
      revert ih
      cases ms.find? (fun x => decide (x.key = bs k)) with
      | none =>
        intro ih
        simp only at ih ⊢
        rw [Option.map_map]
        simpa [Function.comp_def] using ih
      | some m =>
        rintro ⟨v, hv, hi⟩
        refine ⟨v, ?_, hi⟩
        rw [Option.map_map]
        simpa [Function.comp_def] using hv
  | [], _ :: _, h => h.elim
  | _ :: _, [], h => h.elim
theorem RangeAt.grownMap {w w' : World} {r b c : Nat} {L left : List KV} (h : RangeAt w r b L left) (h1 : b ≠ c) (h2 : r ≠ c) (hg : w.grownBy w' (some c)) : RangeAt w' r b L left := by
  have h0 := h.mapAt.lt
  have h9 := h.lt
  obtain ⟨es, clock, seen, e1, e2, e3, e4⟩ := h
  exact ⟨es, clock, seen, (hg.block _ h0 (by simpa using h1)).trans e1, (hg.block _ h9 (by simpa using h2)).trans e2, e3, e4⟩
theorem ItemAt.key_any {w : World} {k k' : ByteArray} {v : Value} {m : Mem} (h : ItemAt w (k, v) m) (hk : bs k' = m.key) : ItemAt w (k', v) m := by
  obtain ⟨vb, mb, iv, h1, _, h3⟩ := h
  exact ⟨vb, mb, iv, h1, hk, h3⟩
theorem BagAt.put {w : World} {b : Nat} {ms : List Mem} (h : BagAt w b ms) (k : ByteArray) (v : Value) (m : Mem) (hi : ItemAt w (k, v) m) :
    ∃ w', (Instr.mapUpdate 115 (.map (some b)) (.string k) v).run Tryz.prog w = .ok () w' ∧ BagAt w' b (putM m ms) ∧ w.grownBy w' (some b) := by
  obtain ⟨L, h1, h2⟩ := h
  obtain ⟨w', hr, hm, hg⟩ := h1.update Tryz.underlying115 Tryz.underlying9 k v
  have hk : bs k = m.key := by
    obtain ⟨_, _, _, _, h, _⟩ := hi
    exact h
  exact ⟨w', hr, ⟨_, hm, (put_put k v m hk (fun k' hk' => hi.key_any hk') L ms h2).imp (fun _ _ h => ItemAt.grownMap h h1 hg)⟩, hg⟩
theorem BagAt.made (w : World) : BagAt (w.alloc (.map #[] 0)) w.heap.size [] := ⟨[], MapAt.made w, trivial⟩
theorem BagAt.fr {w w' : World} {b : Nat} {ms : List Mem} {e : TypeId} (h : BagAt w b ms) (hf : Fr e w w') (hne : 235 ≠ e) : BagAt w' b ms := by
  obtain ⟨L, h1, h2⟩ := h
  exact ⟨L, h1.fr hf, h2.imp (fun _ _ h => ItemAt.fr h hf hne)⟩
theorem BagVal.fr {w w' : World} {v : Value} {ms : List Mem} {e : TypeId} (h : BagVal w v ms) (hf : Fr e w w') (hne : 235 ≠ e) : BagVal w' v ms := by
  rcases h with h | ⟨b, h1, h2⟩
  · exact .inl h
  · exact .inr ⟨b, h1, h2.fr hf hne⟩
theorem putM_new (m : Mem) : ∀ ms : List Mem, (∀ x ∈ ms, x.key ≠ m.key) → putM m ms = ms ++ [m]
  | [], _ => rfl
  | x :: r, h => by rw [putM, if_neg (h x (by simp)), putM_new m r (fun y hy => h y (by simp [hy])), List.cons_append]

theorem run_next_nil {w : World} {r : Nat} (h : w.heap[r]? = some (.mapIter none 0 #[] 0)) (ty : TypeId) : (Instr.next (.pointer (some ⟨r, 0, none⟩)) false ty).run Tryz.prog w = .ok (.tuple #[.bool false]) w := by
  simp only [Instr.next, getObj, Sem.run_bind, Sem.run, h, Result.andThen]
  rfl
/-- Block r is an iterator over the map v, and 'left' is still to come. -/
def IterAt (w : World) (r : Nat) (v : Value) (left : List KV) : Prop :=
  (∃ b L, v = .map (some b) ∧ RangeAt w r b L left) ∨ (v = .map none ∧ left = [] ∧ w.heap[r]? = some (.mapIter none 0 #[] 0))
theorem IterAt.it {w : World} {r : Nat} {v : Value} {left : List KV} (h : IterAt w r v left) : ∃ a b c d, w.heap[r]? = some (.mapIter a b c d) := by
  rcases h with ⟨b, L, _, es, clock, seen, _, h2, _⟩ | ⟨_, _, h⟩
  · exact ⟨_, _, _, _, h2⟩
  · exact ⟨_, _, _, _, h⟩
theorem IterAt.lt {w : World} {r : Nat} {v : Value} {left : List KV} (h : IterAt w r v left) : r < w.heap.size := by
  obtain ⟨_, _, _, _, h⟩ := h.it
  exact (Array.getElem?_eq_some_iff.1 h).1
theorem IterAt.below {w w' : World} {r : Nat} {v : Value} {left : List KV} (h : IterAt w r v left) (hb : Below w.heap.size w w') : IterAt w' r v left := by
  rcases h with ⟨b, L, h1, h2⟩ | ⟨h1, h2, h3⟩
  · exact .inl ⟨b, L, h1, h2.below hb⟩
  · exact .inr ⟨h1, h2, (hb.block _ (Array.getElem?_eq_some_iff.1 h3).1).trans h3⟩
theorem IterAt.fr {w w' : World} {r : Nat} {v : Value} {left : List KV} {e : TypeId} (h : IterAt w r v left) (hf : Fr e w w') : IterAt w' r v left := by
  rcases h with ⟨b, L, h1, h2⟩ | ⟨h1, h2, h3⟩
  · exact .inl ⟨b, L, h1, h2.fr hf⟩
  · exact .inr ⟨h1, h2, (hf.block _ (Array.getElem?_eq_some_iff.1 h3).1 (fun c f h' => by rw [h3] at h'; cases h')).trans h3⟩
theorem IterAt.grownMap {w w' : World} {r c : Nat} {v : Value} {left : List KV} (h : IterAt w r v left) (h1 : v ≠ .map (some c)) (h2 : r ≠ c) (hg : w.grownBy w' (some c)) : IterAt w' r v left := by
  rcases h with ⟨b, L, e1, e2⟩ | ⟨e1, e2, e3⟩
  · exact .inl ⟨b, L, e1, e2.grownMap (fun e => h1 (by rw [e1, e])) h2 hg⟩
  · exact .inr ⟨e1, e2, (hg.block _ (Array.getElem?_eq_some_iff.1 e3).1 (by simpa using h2)).trans e3⟩
theorem IterAt.next {w : World} {r : Nat} {v : Value} {left : List KV} (h : IterAt w r v left) :
    (left = [] ∧ ∀ ty, (Instr.next (.pointer (some ⟨r, 0, none⟩)) false ty).run Tryz.prog w = .ok (.tuple #[.bool false]) w) ∨
    ∃ p left' w1, left.Perm (p :: left') ∧ (∀ ty, (Instr.next (.pointer (some ⟨r, 0, none⟩)) false ty).run Tryz.prog w = .ok (.tuple #[.bool true, .string p.1, p.2]) w1) ∧ IterAt w1 r v left' ∧ w.grownBy w1 (some r) ∧
      (Instr.entry (.pointer (some ⟨r, 0, none⟩))).run Tryz.prog w1 = .ok (.tuple #[.string p.1, p.2]) w1 := by
  rcases h with ⟨b, L, h1, h2⟩ | ⟨h1, h2, h3⟩
  · rcases h2.next 0 with ⟨h3, h4⟩ | ⟨p, left', w1, h3, h4, h5, h6, h7⟩
    · exact .inl ⟨h3, fun ty => h4⟩
    · exact .inr ⟨p, left', w1, h3, fun ty => h4, .inl ⟨b, L, h1, h5⟩, h6, h7⟩
  · exact .inl ⟨h2, run_next_nil h3⟩
/-- What a step of an iterator leaves. -/
theorem IterAt.block {w w' : World} {r k : Nat} {v : Value} {left : List KV} {o : Obj} (h : IterAt w r v left) (hg : w.grownBy w' (some r)) (ho : w.heap[k]? = some o) (hne : ∀ a b c d, o ≠ .mapIter a b c d) : w'.heap[k]? = some o := by
  obtain ⟨a, b, c, d, hi⟩ := h.it
  refine (hg.block k (Array.getElem?_eq_some_iff.1 ho).1 ?_).trans ho
  intro e
  have e : k = r := by simpa using e
  rw [e, hi] at ho
  injection ho with ho
  exact hne a b c d ho.symm
theorem IterAt.row {w w' : World} {r k : Nat} {v : Value} {left : List KV} {cs : Array Value} {t : TypeId} {fr : Nat × Nat} (h : IterAt w r v left) (hg : w.grownBy w' (some r)) (ho : w.heap[k]? = some (.cells cs t fr)) : w'.heap[k]? = some (.cells cs t fr) :=
  h.block hg ho (fun _ _ _ _ e => by cases e)
theorem IterAt.rd {w w' : World} {t : TypeId} {v u : Value} {n sz r : Nat} {xs : List Value} {left : List KV} (hi : IterAt w r u left) (hg : w.grownBy w' (some r)) (h : Rd true w t v n sz xs) : Rd true w' t v n sz xs := by
  obtain ⟨A, c, h1, h2, h3, h4, h5⟩ := h
  refine ⟨A, c, h1, h2, h3, h4, h5.imp id fun ⟨k, o, k1, k2, k3⟩ => ?_⟩
  obtain ⟨cs, fr, hc⟩ := k3 rfl
  have hk := hi.row hg hc
  exact ⟨k, o, k1, fun j u hj => cell_keep (hk.trans hc.symm) (k2 j u hj), fun _ => ⟨cs, fr, hk⟩⟩
theorem IterAt.item {w w' : World} {p : KV} {m : Mem} {u : Value} {r : Nat} {left : List KV} (hi : IterAt w r u left) (hg : w.grownBy w' (some r)) (h : ItemAt w p m) : ItemAt w' p m := by
  obtain ⟨vb, mb, iv, h1, h2, h3, h4, h5⟩ := h
  exact ⟨vb, mb, iv, h1, h2, h3, h4, hi.rd hg h5⟩
theorem IterAt.mapAt {w w' : World} {b : Nat} {L : List KV} {u : Value} {r : Nat} {left : List KV} (hi : IterAt w r u left) (hg : w.grownBy w' (some r)) (h : MapAt w b L) : MapAt w' b L := by
  obtain ⟨es, clock, h1, h2⟩ := h
  exact ⟨es, clock, hi.block hg h1 (fun _ _ _ _ e => by cases e), h2⟩
theorem IterAt.bag {w w' : World} {b : Nat} {ms : List Mem} {u : Value} {r : Nat} {left : List KV} (hi : IterAt w r u left) (hg : w.grownBy w' (some r)) (h : BagAt w b ms) : BagAt w' b ms := by
  obtain ⟨L, h1, h2⟩ := h
  exact ⟨L, hi.mapAt hg h1, h2.imp (fun _ _ h => hi.item hg h)⟩

/-- A baggage, nil or not: its length, a look for a key, a range. -/
theorem BagVal.len {w : World} {v : Value} {ms : List Mem} (h : BagVal w v ms) (ty : TypeId) : (Builtin.len_ #[115] ty #[v]).run Tryz.prog w = .ok (.int .i64 ms.length) w := by
  rcases h with ⟨rfl, rfl⟩ | ⟨b, rfl, h⟩
  · simp [Builtin.len_, run_underlying Tryz.underlying115, goInt, Result.andThen]
  · exact h.len ty
theorem BagVal.is_map {w : World} {v : Value} {ms : List Mem} (h : BagVal w v ms) : ∃ a, v = .map a := by
  rcases h with ⟨rfl, _⟩ | ⟨b, rfl, _⟩ <;> exact ⟨_, rfl⟩
theorem BagVal.ne {w : World} {v : Value} {ms : List Mem} (h : BagVal w v ms) {c : Nat} (hc : w.heap.size ≤ c) : v ≠ .map (some c) := by
  rcases h with ⟨rfl, _⟩ | ⟨b, rfl, L, h, _⟩
  · intro e; cases e
  · intro e
    injection e with e
    injection e with e
    have := h.lt
    omega
/-- What a look for a key tells. -/
def LookIs (w : World) (k : ByteArray) (ms : List Mem) (u : Value) (f : Bool) : Prop :=
  match ms.find? (fun x => decide (x.key = bs k)) with
  | none => u = .agg #[.string ⟨#[]⟩, .string ⟨#[]⟩, .slice none 0 0] ∧ f = false
  | some m => f = true ∧ ItemAt w (k, u) m
theorem BagVal.look {w : World} {v : Value} {ms : List Mem} (h : BagVal w v ms) (k : ByteArray) : ∃ u f, (Instr.lookup 115 v (.string k) true).run Tryz.prog w = .ok (.tuple #[u, .bool f]) w ∧ LookIs w k ms u f := by
  rcases h with ⟨rfl, rfl⟩ | ⟨b, rfl, L, h1, h2⟩
  · refine ⟨_, false, ?_, rfl, rfl⟩
    have hck : ∀ e, (Instr.checkKey e 10000 9 (.string k)).run Tryz.prog w = .ok () w := fun e => MapKept.run_checkKey Tryz.underlying9 (by trivial) e 9999
    have hfk : (Instr.findKey 9 (.string k) []).run Tryz.prog w = .ok none w := by
      simp [Instr.findKey, run_underlying Tryz.underlying9, Instr.findNow, Result.andThen]
    simp [Instr.lookup, run_underlying Tryz.underlying115, hck, hfk, Tryz.zeroValue158 w, Result.andThen]
  · have hl := h1.lookup Tryz.underlying115 Tryz.underlying9 (Tryz.zeroValue158 w) k
    have hf := asc_find k L ms h2
    refine ⟨_, _, hl, ?_⟩
    unfold LookIs
    revert hf
    cases ms.find? (fun x => decide (x.key = bs k)) with
    | none =>
      intro hf
      simp only at hf ⊢
      rw [hf]
      exact ⟨rfl, rfl⟩
    | some m =>
      rintro ⟨u, hu, hi⟩
      simp only
      rw [hu]
      exact ⟨rfl, hi⟩
theorem LookIs.agg {w : World} {k : ByteArray} {ms : List Mem} {u : Value} {f : Bool} (h : LookIs w k ms u f) : ∃ a b A n c, u = .agg #[.string a, .string b, .slice A n c] := by
  unfold LookIs at h
  split at h
  · exact ⟨_, _, _, _, _, h.1⟩
  · obtain ⟨_, vb, mb, iv, h1, _, _, _, h5⟩ := h
    obtain ⟨A, c, rfl, _⟩ := h5.shape
    exact ⟨_, _, _, _, _, h1⟩
theorem BagVal.range {w : World} {v : Value} {ms : List Mem} (h : BagVal w v ms) : ∃ o L, (Instr.range 115 v).run Tryz.prog w = .ok (.pointer (some ⟨w.heap.size, 0, none⟩)) (w.alloc o) ∧ IterAt (w.alloc o) w.heap.size v L ∧ All2 (ItemAt w) L ms := by
  rcases h with ⟨rfl, rfl⟩ | ⟨b, rfl, L, h1, h2⟩
  · exact ⟨_, [], run_range_nilMap (P := Tryz.prog) w 115 9 158 Tryz.underlying115, .inr ⟨rfl, rfl, heap_alloc_new _ _⟩, trivial⟩
  · obtain ⟨o, hr, hg⟩ := h1.range Tryz.underlying115
    exact ⟨o, L, hr, .inl ⟨b, L, rfl, hg⟩, h2⟩
end Go.Proofs.YtleofgndghjflaaGreatDoor

set_option linter.unusedVariables false
set_option linter.unusedSimpArgs false
namespace Go.Proofs.YtleofgndghjflaaGreatDoor
open Go Go.RowKit

def DelPost (k : List UInt8) (ms : List Mem) (w : World) (e : Ending) (w' : World) : Prop :=
  ∃ mv ms', e = .returned (.agg #[mv]) ∧ BagVal w' mv ms' ∧ ms'.Perm (lessM k ms) ∧ Below w.heap.size w w'
theorem lessM_snoc (k : List UInt8) (l : List Mem) (m : Mem) : lessM k (l ++ [m]) = if m.key = k then lessM k l else lessM k l ++ [m] := by
  unfold lessM
  rw [List.filter_append]
  by_cases h : m.key = k <;> simp [h]
theorem lessM_put (k : List UInt8) (l : List Mem) (m : Mem) (h : m.key ≠ k) (hn : ((l ++ [m]).map Mem.key).Nodup) : putM m (lessM k l) = lessM k (l ++ [m]) := by
  rw [lessM_snoc, if_neg h, putM_new]
  intro x hx e
  rw [List.map_append, List.nodup_append] at hn
  exact hn.2.2 x.key (List.mem_map.2 ⟨x, (List.mem_filter.1 hx).1, rfl⟩) m.key (by simp) e
theorem nodup_mid {ms a : List Mem} {m : Mem} {b : List Mem} (h : (ms.map Mem.key).Nodup) (hp : ms.Perm (a ++ [m] ++ b)) : ((a ++ [m]).map Mem.key).Nodup := by
  have := (hp.map Mem.key).nodup h
  rw [List.map_append, List.nodup_append] at this
  exact this.1
theorem bs_beq (a b : ByteArray) : (a.toList == b.toList) = decide (bs a = bs b) := by
  rw [toList_beq]
  by_cases h : a = b
  · simp [h]
  · have : ¬ bs a = bs b := fun e => h (bs_inj e)
    rw [decide_eq_false h, decide_eq_false this]

set_option maxHeartbeats 4000000 in
set_option maxRecDepth 100000 in
theorem deleteMember_any (mv : Value) (ms : List Mem) (kb : ByteArray) (w : World) (h : BagVal w mv ms) (hnd : (ms.map Mem.key).Nodup) (hn : ms.length ≤ 10000) :
    Calls Tryz.prog 63 #[.agg #[mv], .string kb] w (DelPost (bs kb) ms w) := by
  obtain ⟨ma, rfl⟩ := h.is_map
  obtain ⟨w1, hw1⟩ : ∃ w1, (w.alloc (.cells #[.map ma] 117)).alloc (.cells #[.map none] 117) = w1 := ⟨_, rfl⟩
  have hb1 : Below w.heap.size w w1 := by rw [← hw1]; exact ((Below.refl _ _).alloc (Nat.le_refl _) _).alloc (by simp) _
  have hp1 : w1.heap[w.heap.size]? = some (.cells #[.map ma] 117 (0, 0)) := by rw [← hw1]; exact row_alloc (heap_alloc_new _ _) _
  have hr1 : w1.heap[w.heap.size + 1]? = some (.cells #[.map none] 117 (0, 0)) := by rw [← hw1]; exact heap_alloc_2 _ _ _
  have hz1 : w1.heap.size = w.heap.size + 2 := by rw [← hw1]; simp
  have hB1 := h.below hb1
  have hlen := hB1.len
  obtain ⟨u, f, hlk, hL⟩ := hB1.look kb
  obtain ⟨i1, i2, iA, iN, iC, rfl⟩ := hL.agg
  clear hL
  have ND : Aside ((ms.map Mem.key).Nodup) := hnd
  clear hnd
  obtain ⟨c0, f0⟩ := row1 hp1
  obtain ⟨d0, g0⟩ := row1 hr1
  have hA2 : Below w1.heap.size w1 (w1.alloc (.cells #[.string i1, .string i2, .slice iA iN iC] 158)) := (Below.refl _ _).alloc (Nat.le_refl _) _
  have hp2 := row_alloc hp1 (.cells #[.string i1, .string i2, .slice iA iN iC] 158)
  have hr2 := row_alloc hr1 (.cells #[.string i1, .string i2, .slice iA iN iC] 158)
  have hB2 := hB1.below hA2
  have hb2 := below_then hb1 hb1.size hA2
  have hz2 : (w1.alloc (.cells #[.string i1, .string i2, .slice iA iN iC] 158)).heap.size = w.heap.size + 3 := by simp [hz1]
  go_enter Tryz.func63, Tryz.ntmps63
  go_upto_if 21 with fail
  go_cut [5] (fun v W => ∃ z : Int, v = .int .i64 z ∧ W = w1.alloc (.cells #[.string i1, .string i2, .slice iA iN iC] 158))
  case first =>
    cases f
    · go_wp2_with fail
      go_meet
      exact ⟨_, rfl, rfl⟩
    · go_wp2_with fail
      go_meet
      exact ⟨_, rfl, rfl⟩
  case rest =>
    obtain ⟨z, rfl, rfl⟩ := hcut
    obtain ⟨w2, hw2⟩ : ∃ w2, w1.alloc (.cells #[.string i1, .string i2, .slice iA iN iC] 158) = w2 := ⟨_, rfl⟩
    rw [hw2] at hp2 hr2 hB2 hb2 hz2 ⊢
    clear hw2 hw1 hlk hlen hA2 hB1 hp1 hr1 hb1 c0 f0 d0 g0 h
    have hmk := run_mmh 115 9 158 z Tryz.underlying115
    have hA3 : Below w2.heap.size w2 (w2.alloc (.map #[] 0)) := (Below.refl _ _).alloc (Nat.le_refl _) _
    have hB3 := hB2.below hA3
    have hp3 := row_alloc hp2 (.map #[] 0)
    have hr3 := row_alloc hr2 (.map #[] 0)
    have hb3 := below_then hb2 hb2.size hA3
    have hN3 := BagAt.made w2
    have hne3 : Value.map ma ≠ .map (some w2.heap.size) := hB2.ne (Nat.le_refl _)
    have hmk2 := hmk w2
    obtain ⟨nb, hnb⟩ : ∃ nb, w2.heap.size = nb := ⟨_, rfl⟩
    have hz3 : (w2.alloc (.map #[] 0)).heap.size = nb + 1 := by simp [hnb]
    obtain ⟨w3, hw3⟩ : ∃ w3, w2.alloc (.map #[] 0) = w3 := ⟨_, rfl⟩
    rw [hw3] at hB3 hp3 hr3 hb3 hN3 hmk2 hz3
    rw [hnb] at hN3 hne3 hmk2
    have hnbw : w.heap.size + 3 ≤ nb := by omega
    clear hw3 hA3 hmk hB2 hp2 hr2 hb2 hnb
    obtain ⟨o, L, hro, hit, hI⟩ := hB3.range
    have hA4 : Below w3.heap.size w3 (w3.alloc o) := (Below.refl _ _).alloc (Nat.le_refl _) _
    have hr4 := row_alloc hr3 o
    have hb4 := below_then hb3 hb3.size hA4
    have hN4 := hN3.below hA4
    have hI4 := hI.imp (fun _ _ h => ItemAt.below h hA4)
    obtain ⟨c0, f0⟩ := row1 hp3
    obtain ⟨it, hitd⟩ : ∃ it, w3.heap.size = it := ⟨_, rfl⟩
    obtain ⟨w4, hw4⟩ : ∃ w4, w3.alloc o = w4 := ⟨_, rfl⟩
    rw [hw4, hitd] at hro
    rw [hw4] at hit hr4 hb4 hN4 hI4
    rw [hitd] at hit hz3
    have hne4 : it ≠ nb := by omega
    have hitw : w.heap.size ≤ it := by omega
    clear hw4 hitd hz3 hz2 hz1
    go_wp2_with fail
    clear hro hA4 hI hN3 hr3 hb3 hB3 hp3 hmk2 c0 f0
    go_loopg [] (ms.length + 1) (fun gk W => Below w.heap.size w W ∧ W.heap[w.heap.size + 1]? = some (.cells #[.map none] 117 (0, 0)) ∧ ∃ (left : List KV) (msL done : List Mem), IterAt W it (.map ma) left ∧ All2 (ItemAt W) left msL ∧ msL.length + 1 = gk ∧ Aside (ms.Perm (done ++ msL)) ∧ BagAt W nb (lessM (bs kb) done))
    case atStart => exact ⟨hb4, hr4, L, ms, [], hit, hI4, rfl, List.Perm.refl _, hN4⟩
    case round =>
      clear hit hr4 hb4 hN4 hI4
      obtain ⟨hb, hr, left, msL, done, hit, hI, hg, hP, hN⟩ := hrel
      have hws := hb.size
      rcases hit.next with ⟨rfl, hnx⟩ | ⟨p, left', w5, hpm, hnx, hit5, hg5, hen⟩
      · have hm0 : msL = [] := List.eq_nil_of_length_eq_zero (by rw [← hI.length]; rfl)
        subst hm0
        have FP : Aside (ms.Perm done) := by have := hP.out; rwa [List.append_nil] at this
        obtain ⟨d0, g0⟩ := row1 hr
        clear hP hI
        go_wp2_with fail
        (try simp only [Exit.inBlock, Exit.then]); refine bodyPost_ret (results_cell_row rfl _ _ (w.heap.size + 1) 117 _ (0, 0) _ rfl (row_set hr 0 _) Tryz.underlying117 rfl (by kernel_rfl)) rfl ?_
        refine ⟨_, lessM (bs kb) done, rfl, .inr ⟨nb, rfl, ?_⟩, (FP.out.filter _).symm, hb.setCell (by simp) _⟩
        obtain ⟨Ln, h1, h2⟩ := hN
        exact ⟨Ln, h1.set hr _, h2.imp (fun _ _ h => ItemAt.fr2 h ((Fr2.refl 117 117 wr).set hr _) (by decide) (by decide))⟩
      · obtain ⟨msL', hpm2, hI2⟩ := All2.perm hpm hI
        match msL', hI2 with
        | m :: msL', hI2 =>
          have hb5 : Below w.heap.size w w5 := hb.grown hg5 hws (by
            intro q hq
            injection hq with hq
            rw [← hq]
            exact hitw)
          have hI5 := hI2.2.imp (fun _ _ h => hit.item hg5 h)
          have hi5 := hit.item hg5 hI2.1
          have hr5 := hit.row hg5 hr
          have hN5 := hit.bag hg5 hN
          have hP2 : Aside (ms.Perm ((done ++ [m]) ++ msL')) := by
            refine hP.out.trans ?_
            rw [List.append_assoc]
            exact List.Perm.append_left _ hpm2
          have hlen2 : msL'.length + 1 = msL.length := by rw [hpm2.length_eq]; rfl
          have ND2 : Aside (((done ++ [m]).map Mem.key).Nodup) := nodup_mid ND.out hP2.out
          clear hI hI2 hr hN hit hpm hpm2 hg5 hP
          obtain ⟨kb2, pv⟩ := p
          simp only at hnx hen
          obtain ⟨vb, mb, iv, hp2, hk, hv, hme, hiv⟩ := hi5
          simp only at hp2 hk
          obtain ⟨A, c, rfl, _, _⟩ := hiv.shape
          subst hp2
          have K : Aside (bs kb2 = m.key ∧ bs vb = m.val ∧ bs mb = m.meta' ∧ Rd true w5 235 (.slice A m.props.length c) m.props.length 3 (m.props.flatMap pcells)) := ⟨hk, hv, hme, hiv⟩
          have hA6 : Below w5.heap.size w5 (w5.alloc (.cells #[.string vb, .string mb, .slice A m.props.length c] 158)) := (Below.refl _ _).alloc (Nat.le_refl _) _
          have hb6 := below_then hb5 hb5.size hA6
          have hr6 := row_alloc hr5 (.cells #[.string vb, .string mb, .slice A m.props.length c] 158)
          have hN6 := hN5.below hA6
          have hit6 := hit5.below hA6
          have hI6 := hI5.imp (fun _ _ h => ItemAt.below h hA6)
          have hq6 := hiv.below hA6
          clear hk hv hme hiv
          by_cases hkk : m.key = bs kb
          · have hkz : (kb2.toList == kb.toList) = true := by rw [bs_beq, K.out.1, decide_eq_true hkk]
            have HK : Aside (m.key = bs kb) := hkk
            clear hkk
            go_wp2_with fail
            go_roundg (gk - 1)
            case rel => exact ⟨hb6, hr6, left', msL', done ++ [m], hit6, hI6, by omega, hP2, by rw [lessM_snoc, if_pos HK.out]; exact hN6⟩
            case measure => omega
          · have hkz : (kb2.toList == kb.toList) = false := by rw [bs_beq, K.out.1, decide_eq_false hkk]
            have HK : Aside (¬ m.key = bs kb) := hkk
            clear hkk
            obtain ⟨w7, hup, hN7, hg7⟩ := hN6.put kb2 (.agg #[.string vb, .string mb, .slice A m.props.length c]) m ⟨vb, mb, _, rfl, K.out.1, K.out.2.1, K.out.2.2.1, hq6⟩
            rw [lessM_put (bs kb) done m HK.out ND2.out] at hN7
            have hit7 := hit6.grownMap hne3 hne4 hg7
            have hI7 : All2 (ItemAt w7) left' msL' := by
              obtain ⟨Ln, hm, _⟩ := hN6
              exact hI6.imp (fun _ _ h => ItemAt.grownMap h hm hg7)
            have hr7 := (hg7.block _ (Array.getElem?_eq_some_iff.1 hr6).1 (by simp; omega)).trans hr6
            have hb7 : Below w.heap.size w w7 := hb6.grown hg7 hb6.size (by intro q hq; injection hq with hq; omega)
            clear hq6 hN6 hI6 hit6 hr6 hg7
            go_wp2_with fail
            go_roundg (gk - 1)
            case rel => exact ⟨hb7, hr7, left', msL', done ++ [m], hit7, hI7, by omega, hP2, hN7⟩
            case measure => omega
        | [], hI2 => exact hI2.elim
end Go.Proofs.YtleofgndghjflaaGreatDoor

set_option linter.unusedVariables false
set_option linter.unusedSimpArgs false
namespace Go.Proofs.YtleofgndghjflaaGreatDoor
open Go Go.RowKit

theorem step_run_app {P : Program} {ops : Array Oper} {o : Oper} {a : Act} {Q : Exit → Act → World → Prop} {K : Act → World → Prop} {E : Prop} (W W' : World) (hgd : o.guard = none) (s x : Operand) (t u : TypeId)
    (ho : o.op = .call { callee := .builtin .append, args := #[s, x], argTypes := #[t, u] }) (v1 v2 v : Value) (hs : a.eval s = v1) (hx : a.eval x = v2) (hr : ∀ ty, (Builtin.append_ #[t, u] ty #[v1, v2]).run P W = .ok v W')
    (h : K (a.put o.dst v) W') : if Region.wanted o (yielded ops a.tmps) = true then Oper.wp P o a W K Q else E := by
  rw [if_pos (by simp [Region.wanted, hgd])]
  unfold Oper.wp execOp
  simp only [ho, resolve, invoke, builtin, Sem.run_bind, Sem.run_pure, Result.andThen_ok, List.map_toArray, List.map_cons, List.map_nil, hs, hx, hr]
  exact h
theorem run_clear_ms (w : World) (g o n c : Nat) (cur : Array Value) (hg : w.heap[g]? = some (.cells cur 28 (0, 0))) (hn : 0 < n) (hfit : o + n * 3 ≤ cur.size) :
    ∃ zs : List Value, zs.length = n * 3 ∧ ∀ ty, (Builtin.clear_ #[56] ty #[.slice (some ⟨g, o, none⟩) n c]).run Tryz.prog w = .ok (.tuple #[]) (w.setRow g (cur.toList.take o ++ zs ++ cur.toList.drop (o + n * 3)).toArray) := by
  obtain ⟨i0, hi, hzz⟩ := Option.map_eq_some_iff.1 Tryz.info28
  simp only [Prod.mk.injEq] at hzz
  have hv : ∀ w, (zeroValue 28).run Tryz.prog w = .ok (.agg #[.string ⟨#[]⟩, .string ⟨#[]⟩, .slice none 0 0]) w := fun w => by simp [zeroValue, typeInfo, hi, hzz.1]
  have hl : (Builtin.zeroCells (Value.agg #[.string ⟨#[]⟩, .string ⟨#[]⟩, .slice none 0 0]).cells n).toList.length = n * 3 := by
    rw [Array.length_toList, size_zeroCells]
    rfl
  have h1 : ∀ v ∈ (Builtin.zeroCells (Value.agg #[.string ⟨#[]⟩, .string ⟨#[]⟩, .slice none 0 0]).cells n).toList, v.oneCell' = true := by
    intro v hv
    unfold Builtin.zeroCells at hv
    rw [Array.toList_map, List.mem_map] at hv
    obtain ⟨i, _, rfl⟩ := hv
    have h3 : i % 3 = 0 ∨ i % 3 = 1 ∨ i % 3 = 2 := by omega
    have e3 : (Value.agg #[.string ⟨#[]⟩, .string ⟨#[]⟩, .slice none 0 0]).cells = #[.string ⟨#[]⟩, .string ⟨#[]⟩, .slice none 0 0] := rfl
    rcases h3 with h3 | h3 | h3 <;> simp [e3, h3, Value.oneCell']
  have hst := run_storeCells_at Tryz.prog g o 28 _ 0 cur w hg (by rw [hl]; omega) h1
  refine ⟨_, hl, fun ty => ?_⟩
  obtain ⟨m, rfl⟩ : ∃ m, n = m + 1 := ⟨n - 1, by omega⟩
  rw [hl, Nat.add_zero] at hst
  simp [Builtin.clear_, run_underlying Tryz.underlying56, hv, hst]

def DelSPost (B n : Nat) (xs : List Value) (w : World) (e : Ending) (w' : World) : Prop := ∃ v', e = .returned v' ∧ w'.ownsRow B 28 3 v' n xs ∧ Below B w w'
set_option maxHeartbeats 4000000 in
set_option maxRecDepth 100000 in
theorem deleteS_any (w : World) (B g n c i : Nat) (cs : List Value) (h : w.ownsRow B 28 3 (.slice (some ⟨g, 0, none⟩) n c) n cs) (hones : ∀ u ∈ cs, u.oneCell' = true) (hi : i < n) (hn : n ≤ 20000) :
    Calls Tryz.prog 66 #[.slice (some ⟨g, 0, none⟩) n c, .int .i64 i, .int .i64 ((i : Int) + 1)] w (DelSPost B (n - 1) (cs.take (i * 3) ++ cs.drop ((i + 1) * 3)) w) := by
  rcases h.2 with ⟨h0, _⟩ | ⟨g', c', cur, he, hbg, hg, hnc, hcm, hcs, htake⟩
  · cases h0
  injection he with he1 he2 he3
  injection he1 with he1
  injection he1 with he1
  subst he1 he3
  clear he2
  have hcm' : c ≤ 9223372036854775807 := by simp only [maxLen] at hcm; omega
  have hcl : cs.length = n * 3 := h.1
  have hdl : (cs.drop ((i + 1) * 3)).length = (n - (i + 1)) * 3 := by rw [List.length_drop, hcl]; omega
  have htl : (cs.take (i * 3)).length = i * 3 := by rw [List.length_take, hcl]; omega
  obtain ⟨i0, hii, hzz⟩ := Option.map_eq_some_iff.1 Tryz.info28
  simp only [Prod.mk.injEq] at hzz
  -- the row cut to i members is a row of one's own
  have hown : w.drew.ownsRow B 28 3 (.slice (some ⟨g, 0, none⟩) i c) i (cs.take (i * 3)) := ⟨htl, .inr ⟨g, c, cur, rfl, hbg, hg, by omega, hcm, hcs, by rw [← htake, List.take_take]; congr 1; omega⟩⟩
  obtain ⟨A, hA, hsrc⟩ : ∃ A : Addr, (if c = i + 1 then some (⟨g, 0, none⟩ : Addr) else some ⟨g, (i + 1) * 3, none⟩) = some A ∧ (∀ (j : Nat) u, (cs.drop ((i + 1) * 3))[j]? = some u → w.drew.cell? (A.add j) = some u) := by
    by_cases h : c = i + 1
    · refine ⟨⟨g, 0, none⟩, by simp [h], fun t u hu => ?_⟩
      rw [List.drop_eq_nil_of_le (by rw [hcl]; omega)] at hu
      simp at hu
    · refine ⟨⟨g, (i + 1) * 3, none⟩, by simp [h], fun t u hu => ?_⟩
      rw [addr_add]
      show w.cell? _ = _
      rw [cell_of_row _ _ _ _ _ _ hg]
      rw [List.getElem?_drop, ← htake, List.getElem?_take] at hu
      split at hu
      · simpa using hu
      · cases hu
  obtain ⟨w1, hr, hown1, hg1⟩ : ∃ w1, (∀ ty, (Builtin.append_ #[56, 56] ty #[.slice (some ⟨g, 0, none⟩) i c, .slice (some A) (n - (i + 1)) (c - (i + 1))]).run Tryz.prog w.drew = .ok (.slice (some ⟨g, 0, none⟩) (i + (n - (i + 1))) c) w1) ∧
      w1.ownsRow B 28 3 (.slice (some ⟨g, 0, none⟩) (i + (n - (i + 1))) c) (i + (n - (i + 1))) (cs.take (i * 3) ++ cs.drop ((i + 1) * 3)) ∧ w.drew.grownBy w1 (some g) := by
    obtain ⟨w1, h1, h2, h3⟩ := run_append_own_spare (P := Tryz.prog) w.drew B 56 56 28 i0 3 Tryz.underlying56 hii hzz.2.1 g i c _ hown A (n - (i + 1)) (c - (i + 1)) _ hdl hsrc (fun u hu => hones u (List.mem_of_mem_drop hu)) (by omega)
    exact ⟨w1, fun ty => h1, h2, h3⟩
  have hi1 : i + (n - (i + 1)) = n - 1 := by omega
  rw [hi1] at hr hown1
  rcases hown1.2 with ⟨h0, _⟩ | ⟨g', c', cur1, he, hbg1, hgg1, hnc1, hcm1, hcs1, htake1⟩
  · cases h0
  injection he with he1 he2 he3
  injection he1 with he1
  injection he1 with he1
  subst he1 he3
  clear he2
  obtain ⟨zs, hzl, hcl2⟩ := run_clear_ms w1 g ((n - 1) * 3) 1 (c - (n - 1)) cur1 hgg1 (by omega) (by rw [hcs1]; omega)
  have hb1 : Below B w w1 := (Below.refl B w).drew.trans ((Below.refl B w.drew).grown hg1 (by have := (Array.getElem?_eq_some_iff.1 hg).1; show B ≤ w.heap.size; omega) (by intro q hq; injection hq with hq; rw [← hq]; exact hbg))
  have l1 : cur1.toList.length = c * 3 := by rw [Array.length_toList, hcs1]
  have K : Aside ((w1.setRow g (cur1.toList.take ((n - 1) * 3) ++ zs ++ cur1.toList.drop ((n - 1) * 3 + 1 * 3)).toArray).ownsRow B 28 3 (.slice (some ⟨g, 0, none⟩) (n - 1) c) (n - 1) (cs.take (i * 3) ++ cs.drop ((i + 1) * 3)) ∧ Below B w (w1.setRow g (cur1.toList.take ((n - 1) * 3) ++ zs ++ cur1.toList.drop ((n - 1) * 3 + 1 * 3)).toArray)) := by
    refine ⟨⟨hown1.1, .inr ⟨g, c, _, rfl, hbg, setRow_heap w1 g cur1 _ 28 _ hgg1, by omega, hcm, ?_, ?_⟩⟩, below_setRow hb1 hbg _⟩
    · simp only [List.size_toArray, List.length_append, List.length_take, List.length_drop, l1, hzl]
      omega
    · rw [← htake1]
      simp only [List.append_assoc]
      refine List.take_left' ?_
      rw [List.length_take, l1]
      omega
  obtain ⟨w2, hw2⟩ : ∃ w2, w1.setRow g (cur1.toList.take ((n - 1) * 3) ++ zs ++ cur1.toList.drop ((n - 1) * 3 + 1 * 3)).toArray = w2 := ⟨_, rfl⟩
  rw [hw2] at hcl2 K
  have hz2 : ((i : Int) == (i : Int) + 1) = false := beq_eq_false_iff_ne.2 (by omega)
  have htn : ((i : Int) + 1).toNat = i + 1 := by omega
  have hb5 : (0 : Int) ≤ (i : Int) + 1 := by omega
  have hb6 : (i : Int) + 1 ≤ (n : Int) := by omega
  have hb7 : i + 1 ≤ n := by omega
  have hb8 : i + 1 ≤ c := by omega
  have hin : i ≤ n := by omega
  have hic : i ≤ c := by omega
  have hsub : n - (n - 1) = 1 := by omega
  have hn1 : n - 1 ≤ n := by omega
  have hn2 : n - 1 ≤ c := by omega
  have hn3 : ¬ (c = n - 1) := by omega
  have hn4 : ((n - 1 : Nat) : Int) ≤ (n : Int) := by omega
  have mixed : Tryz.prog.follows Departure.mixedOrders = true := by kernel_rfl
  clear hw2 hb1 l1 hzl htake1 hcs1 hcm1 hnc1 hgg1 hbg1 hown1 hg1 hsrc hown hdl htl hcl htake hcs hcm hg hbg h hones hii hzz hi1
  go_enter Tryz.func66, Tryz.ntmps66
  go_wp2_with fail
  go_region_law_o (refine step_run_app _ w1 rfl (.tmp 22) (.tmp 25) 56 56 rfl (.slice (some ⟨g, 0, none⟩) i c) (.slice (some A) (n - (i + 1)) (c - (i + 1))) _ (by simp [Act.eval, Act.put]) (by simp [Act.eval, Act.put, hA]) hr ?_)
  go_wp2_with fail
  go_ret
  exact ⟨_, rfl, K.out⟩
end Go.Proofs.YtleofgndghjflaaGreatDoor

set_option linter.unusedVariables false
set_option linter.unusedSimpArgs false
namespace Go.Proofs.YtleofgndghjflaaGreatDoor
open Go Go.RowKit

def SetPost (m : Mem) (ms : List Mem) (w : World) (e : Ending) (w' : World) : Prop :=
  ∃ mv ms', e = .returned (.tuple #[.agg #[mv], .nilIface]) ∧ BagVal w' mv ms' ∧ ms'.Perm (lessM m.key ms ++ [m]) ∧ Below w.heap.size w w'
theorem empty_isEmpty : (⟨#[]⟩ : ByteArray).toList.isEmpty = true := by rw [toList_empty]; rfl

set_option maxHeartbeats 4000000 in
set_option maxRecDepth 100000 in
theorem setMember_any (mv : Value) (ms : List Mem) (m : Mem) (kb vb : ByteArray) (pA : Option Addr) (pc : Nat) (w : World) (h : BagVal w mv ms) (hnd : (ms.map Mem.key).Nodup) (hn : ms.length ≤ 10000)
    (hk : bs kb = m.key) (hv : bs vb = m.val) (hme : m.meta' = []) (hq : Rd true w 86 (.slice pA m.props.length pc) m.props.length 3 (m.props.flatMap pcells)) (hpn : m.props.length ≤ 100000) :
    Calls Tryz.prog 62 #[.agg #[mv], .agg #[.string kb, .string vb, .string ⟨#[]⟩, .slice pA m.props.length pc, .bool true]] w (SetPost m ms w) := by
  obtain ⟨ma, rfl⟩ := h.is_map
  obtain ⟨w1, hw1⟩ : ∃ w1, ((w.alloc (.cells #[.map ma] 117)).alloc (.cells #[.string kb, .string vb, .string ⟨#[]⟩, .slice pA m.props.length pc, .bool true] 98)).alloc (.cells #[.map none] 117) = w1 := ⟨_, rfl⟩
  have hb1 : Below w.heap.size w w1 := by rw [← hw1]; exact (((Below.refl _ _).alloc (Nat.le_refl _) _).alloc (by simp) _).alloc (by simp <;> omega) _
  have hp1 : w1.heap[w.heap.size]? = some (.cells #[.map ma] 117 (0, 0)) := by rw [← hw1]; exact row_alloc (row_alloc (heap_alloc_new _ _) _) _
  have hx1 : w1.heap[w.heap.size + 1]? = some (.cells #[.string kb, .string vb, .string ⟨#[]⟩, .slice pA m.props.length pc, .bool true] 98 (0, 0)) := by rw [← hw1]; exact row_alloc (heap_alloc_2 _ _ _) _
  have hr1 : w1.heap[w.heap.size + 1 + 1]? = some (.cells #[.map none] 117 (0, 0)) := by rw [← hw1]; exact alloc_at _ _ _ (by simp)
  have hz1 : w1.heap.size = w.heap.size + 3 := by rw [← hw1]; simp
  have hB1 := h.below hb1
  have hq1 := hq.below hb1
  have hlen := hB1.len
  obtain ⟨u, f, hlk, hL⟩ := hB1.look kb
  obtain ⟨i1, i2, iA, iN, iC, rfl⟩ := hL.agg
  clear hL
  have ND : Aside ((ms.map Mem.key).Nodup ∧ bs kb = m.key ∧ bs vb = m.val ∧ m.meta' = []) := ⟨hnd, hk, hv, hme⟩
  clear hnd hk hv hme hq h
  obtain ⟨c0, f0⟩ := row1 hp1
  obtain ⟨⟨x0, x1, x2, x3, x4⟩, _, _, _, _, _⟩ := row5 hx1
  have hA2 : Below w1.heap.size w1 (w1.alloc (.cells #[.string i1, .string i2, .slice iA iN iC] 158)) := (Below.refl _ _).alloc (Nat.le_refl _) _
  have hp2 := row_alloc hp1 (.cells #[.string i1, .string i2, .slice iA iN iC] 158)
  have hx2 := row_alloc hx1 (.cells #[.string i1, .string i2, .slice iA iN iC] 158)
  have hr2 := row_alloc hr1 (.cells #[.string i1, .string i2, .slice iA iN iC] 158)
  have hB2 := hB1.below hA2
  have hq2 := hq1.below hA2
  have hb2 := below_then hb1 hb1.size hA2
  have hz2 : (w1.alloc (.cells #[.string i1, .string i2, .slice iA iN iC] 158)).heap.size = w.heap.size + 4 := by simp [hz1]
  go_enter Tryz.func62, Tryz.ntmps62
  go_upto_if 29 with fail
  go_cut [6] (fun v W => ∃ z : Int, v = .int .i64 z ∧ W = w1.alloc (.cells #[.string i1, .string i2, .slice iA iN iC] 158))
  case first =>
    cases f
    · go_wp2_with fail
      go_meet
      exact ⟨_, rfl, rfl⟩
    · go_wp2_with fail
      go_meet
      exact ⟨_, rfl, rfl⟩
  case rest =>
    obtain ⟨z, rfl, rfl⟩ := hcut
    obtain ⟨w2, hw2⟩ : ∃ w2, w1.alloc (.cells #[.string i1, .string i2, .slice iA iN iC] 158) = w2 := ⟨_, rfl⟩
    rw [hw2] at hp2 hr2 hB2 hb2 hz2 hx2 hq2 ⊢
    clear hw2 hw1 hlk hlen hA2 hB1 hp1 hr1 hb1 c0 f0 hx1 hq1 x0 x1 x2 x3 x4
    have hmk := run_mmh 115 9 158 z Tryz.underlying115
    have hA3 : Below w2.heap.size w2 (w2.alloc (.map #[] 0)) := (Below.refl _ _).alloc (Nat.le_refl _) _
    have hB3 := hB2.below hA3
    have hq3 := hq2.below hA3
    have hp3 := row_alloc hp2 (.map #[] 0)
    have hx3 := row_alloc hx2 (.map #[] 0)
    have hr3 := row_alloc hr2 (.map #[] 0)
    have hb3 := below_then hb2 hb2.size hA3
    have hN3 := BagAt.made w2
    have hne3 : Value.map ma ≠ .map (some w2.heap.size) := hB2.ne (Nat.le_refl _)
    have hmk2 := hmk w2
    obtain ⟨nb, hnb⟩ : ∃ nb, w2.heap.size = nb := ⟨_, rfl⟩
    have hz3 : (w2.alloc (.map #[] 0)).heap.size = nb + 1 := by simp [hnb]
    obtain ⟨w3, hw3⟩ : ∃ w3, w2.alloc (.map #[] 0) = w3 := ⟨_, rfl⟩
    rw [hw3] at hB3 hp3 hr3 hb3 hN3 hmk2 hz3 hx3 hq3
    rw [hnb] at hN3 hne3 hmk2
    have hnbw : w.heap.size + 3 ≤ nb := by omega
    clear hw3 hA3 hmk hB2 hp2 hr2 hb2 hnb hx2 hq2
    obtain ⟨o, L, hro, hit, hI⟩ := hB3.range
    have hA4 : Below w3.heap.size w3 (w3.alloc o) := (Below.refl _ _).alloc (Nat.le_refl _) _
    have hr4 := row_alloc hr3 o
    have hx4 := row_alloc hx3 o
    have hq4 := hq3.below hA4
    have hb4 := below_then hb3 hb3.size hA4
    have hN4 := hN3.below hA4
    have hI4 := hI.imp (fun _ _ h => ItemAt.below h hA4)
    obtain ⟨c0, f0⟩ := row1 hp3
    obtain ⟨it, hitd⟩ : ∃ it, w3.heap.size = it := ⟨_, rfl⟩
    obtain ⟨w4, hw4⟩ : ∃ w4, w3.alloc o = w4 := ⟨_, rfl⟩
    rw [hw4, hitd] at hro
    rw [hw4] at hit hr4 hb4 hN4 hI4 hx4 hq4
    rw [hitd] at hit hz3
    have hne4 : it ≠ nb := by omega
    have hitw : w.heap.size ≤ it := by omega
    clear hw4 hitd hz3 hz2 hz1
    go_wp2_with fail
    clear hro hA4 hI hN3 hr3 hb3 hB3 hp3 hmk2 c0 f0 hx3 hq3
    go_loopg [] (ms.length + 1) (fun gk W => Below w.heap.size w W ∧ W.heap[w.heap.size + 1]? = some (.cells #[.string kb, .string vb, .string ⟨#[]⟩, .slice pA m.props.length pc, .bool true] 98 (0, 0)) ∧ W.heap[w.heap.size + 1 + 1]? = some (.cells #[.map none] 117 (0, 0)) ∧ Rd true W 86 (.slice pA m.props.length pc) m.props.length 3 (m.props.flatMap pcells) ∧ ∃ (left : List KV) (msL done : List Mem), IterAt W it (.map ma) left ∧ All2 (ItemAt W) left msL ∧ msL.length + 1 = gk ∧ Aside (ms.Perm (done ++ msL)) ∧ BagAt W nb (lessM (bs kb) done))
    case atStart => exact ⟨hb4, hx4, hr4, hq4, L, ms, [], hit, hI4, rfl, List.Perm.refl _, hN4⟩
    case round =>
      clear hit hr4 hb4 hN4 hI4 hx4 hq4
      obtain ⟨hb, hx, hr, hq, left, msL, done, hit, hI, hg, hP, hN⟩ := hrel
      have hws := hb.size
      obtain ⟨⟨c0, c1, c2, c3, c4⟩, _, _, _, _, _⟩ := row5 hx
      rcases hit.next with ⟨rfl, hnx⟩ | ⟨p, left', w5, hpm, hnx, hit5, hg5, hen⟩
      · have hm0 : msL = [] := List.eq_nil_of_length_eq_zero (by rw [← hI.length]; rfl)
        subst hm0
        have FP : Aside (ms.Perm done) := by have := hP.out; rwa [List.append_nil] at this
        clear hP hI hit
        have hif := itemFromMember_any (ty := true) kb vb ⟨#[]⟩ (.slice pA m.props.length pc) true m.props wr.drew (hq.below (Below.refl _ _).drew) hpn
        go_wp2_with fail
        go_region_held3 (fun W => W.cell? ⟨w.heap.size + 1, 0, none⟩ = some (.string kb) ∧ W.cell? ⟨w.heap.size + 1, 1, none⟩ = some (.string vb) ∧ W.cell? ⟨w.heap.size + 1, 2, none⟩ = some (.string ⟨#[]⟩) ∧ W.cell? ⟨w.heap.size + 1, 3, none⟩ = some (.slice pA m.props.length pc) ∧ W.cell? ⟨w.heap.size + 1, 4, none⟩ = some (.bool true)) ((first | exact ⟨c0, c1, c2, c3, c4⟩ | exact ⟨d0, d1, d2, d3, d4⟩ | exact ⟨e0, e1, e2, e3, e4⟩)) (first
          | (go_at_call 96; refine hif.mono ?_; intro e w5 hpost; obtain ⟨iv, rfl, hiv, hbel⟩ := hpost
             rw [empty_isEmpty, if_pos rfl, if_pos rfl] at hiv
             have hbel : Below wr.heap.size wr w5 := (Below.refl _ _).drew.trans hbel
             have hx5 := (hbel.block _ (Array.getElem?_eq_some_iff.1 hx).1).trans hx
             obtain ⟨⟨d0, d1, d2, d3, d4⟩, _, _, _, _, _⟩ := row5 hx5
             have hr5 := (hbel.block _ (Array.getElem?_eq_some_iff.1 hr).1).trans hr
             have hb5 := below_then hb hb.size (w2 := w5) hbel
             have hN5 := hN.below (w' := w5) hbel
             clear hbel hif
             obtain ⟨w6, hup, hN6, hg6⟩ := hN5.put kb (.agg #[.string vb, .string ⟨#[]⟩, iv]) m ⟨vb, ⟨#[]⟩, iv, rfl, ND.out.2.1, ND.out.2.2.1, ND.out.2.2.2.symm, hiv⟩
             have hne6 : ¬ w.heap.size + 1 = nb := by omega
             have hx6 := (hg6.block _ (Array.getElem?_eq_some_iff.1 hx5).1 (by simpa using hne6)).trans hx5
             obtain ⟨⟨e0, e1, e2, e3, e4⟩, _, _, _, _, _⟩ := row5 hx6))
        all_goals
          have hne7 : ¬ w.heap.size + 1 + 1 = nb := by omega
          have hr6 := (hg6.block _ (Array.getElem?_eq_some_iff.1 hr5).1 (by simpa using hne7)).trans hr5
          have hb6 : Below w.heap.size w w6 := hb5.grown hg6 hb5.size (by intro q hq; injection hq with hq; omega)
          obtain ⟨y0, z0⟩ := row1 hr6
          have HN : Aside (BagAt w6 nb (putM m (lessM (bs kb) done))) := hN6
          clear hN6 hN5 hg6 hup hiv hr5 hx5 hb5 hq
          go_wp2_with fail
          (try simp only [Exit.inBlock, Exit.then]); refine bodyPost_ret (ret_cell_tmp rfl rfl (row_set hr6 0 _) Tryz.underlying117 rfl (by kernel_rfl)) rfl ?_
          refine ⟨_, putM m (lessM (bs kb) done), rfl, .inr ⟨nb, rfl, ?_⟩, ?_, hb6.setCell (by simp <;> omega) _⟩
          · obtain ⟨Ln, h1, h2⟩ := HN.out
            exact ⟨Ln, h1.set hr6 _, h2.imp (fun _ _ h => ItemAt.fr2 h ((Fr2.refl 117 117 w6).set hr6 _) (by decide) (by decide))⟩
          · rw [ND.out.2.1, putM_new m _ (fun x hx => by
              have := (List.mem_filter.1 hx).2
              simpa using this)]
            exact (FP.out.symm.filter _).append_right _
      · obtain ⟨msL', hpm2, hI2⟩ := All2.perm hpm hI
        match msL', hI2 with
        | x :: msL', hI2 =>
          have hb5 : Below w.heap.size w w5 := hb.grown hg5 hws (by
            intro q hq
            injection hq with hq
            rw [← hq]
            exact hitw)
          have hI5 := hI2.2.imp (fun _ _ h => hit.item hg5 h)
          have hi5 := hit.item hg5 hI2.1
          have hr5 := hit.row hg5 hr
          have hx5 := hit.row hg5 hx
          have hq5 := hit.rd hg5 hq
          have hN5 := hit.bag hg5 hN
          have hP2 : Aside (ms.Perm ((done ++ [x]) ++ msL')) := by
            refine hP.out.trans ?_
            rw [List.append_assoc]
            exact List.Perm.append_left _ hpm2
          have hlen2 : msL'.length + 1 = msL.length := by rw [hpm2.length_eq]; rfl
          have ND2 : Aside (((done ++ [x]).map Mem.key).Nodup) := nodup_mid ND.out.1 hP2.out
          clear hI hI2 hr hN hit hpm hpm2 hg5 hP hx hq c0 c1 c2 c3 c4
          obtain ⟨kb2, pv⟩ := p
          simp only at hnx hen
          obtain ⟨vb2, mb, iv, hp2, hk, hv, hme, hiv⟩ := hi5
          simp only at hp2 hk
          obtain ⟨A, c, rfl, _, _⟩ := hiv.shape
          subst hp2
          have K : Aside (bs kb2 = x.key ∧ bs vb2 = x.val ∧ bs mb = x.meta' ∧ Rd true w5 235 (.slice A x.props.length c) x.props.length 3 (x.props.flatMap pcells)) := ⟨hk, hv, hme, hiv⟩
          have hA6 : Below w5.heap.size w5 (w5.alloc (.cells #[.string vb2, .string mb, .slice A x.props.length c] 158)) := (Below.refl _ _).alloc (Nat.le_refl _) _
          have hb6 := below_then hb5 hb5.size hA6
          have hr6 := row_alloc hr5 (.cells #[.string vb2, .string mb, .slice A x.props.length c] 158)
          have hx6 := row_alloc hx5 (.cells #[.string vb2, .string mb, .slice A x.props.length c] 158)
          have hN6 := hN5.below hA6
          have hit6 := hit5.below hA6
          have hI6 := hI5.imp (fun _ _ h => ItemAt.below h hA6)
          have hq6 := hiv.below hA6
          have hqq6 := hq5.below hA6
          obtain ⟨⟨c0, c1, c2, c3, c4⟩, _, _, _, _, _⟩ := row5 hx6
          clear hk hv hme hiv
          by_cases hkk : x.key = bs kb
          · have hkz : (kb2.toList == kb.toList) = true := by rw [bs_beq, K.out.1, decide_eq_true hkk]
            have HK : Aside (x.key = bs kb) := hkk
            clear hkk
            go_wp2_with fail
            go_roundg (gk - 1)
            case rel => exact ⟨hb6, hx6, hr6, hqq6, left', msL', done ++ [x], hit6, hI6, by omega, hP2, by rw [lessM_snoc, if_pos HK.out]; exact hN6⟩
            case measure => omega
          · have hkz : (kb2.toList == kb.toList) = false := by rw [bs_beq, K.out.1, decide_eq_false hkk]
            have HK : Aside (¬ x.key = bs kb) := hkk
            clear hkk
            obtain ⟨w7, hup, hN7, hg7⟩ := hN6.put kb2 (.agg #[.string vb2, .string mb, .slice A x.props.length c]) x ⟨vb2, mb, _, rfl, K.out.1, K.out.2.1, K.out.2.2.1, hq6⟩
            rw [lessM_put (bs kb) done x HK.out ND2.out] at hN7
            have hit7 := hit6.grownMap hne3 hne4 hg7
            have hI7 : All2 (ItemAt w7) left' msL' := by
              obtain ⟨Ln, hm, _⟩ := hN6
              exact hI6.imp (fun _ _ h => ItemAt.grownMap h hm hg7)
            have hq7 : Rd true w7 86 (.slice pA m.props.length pc) m.props.length 3 (m.props.flatMap pcells) := by
              obtain ⟨Ln, hm, _⟩ := hN6
              exact hqq6.grownMap hm hg7
            have hr7 := (hg7.block _ (Array.getElem?_eq_some_iff.1 hr6).1 (by simp; omega)).trans hr6
            have hx7 := (hg7.block _ (Array.getElem?_eq_some_iff.1 hx6).1 (by simp; omega)).trans hx6
            have hb7 : Below w.heap.size w w7 := hb6.grown hg7 hb6.size (by intro q hq; injection hq with hq; omega)
            clear hq6 hN6 hI6 hit6 hr6 hg7 hqq6
            go_wp2_with fail
            go_roundg (gk - 1)
            case rel => exact ⟨hb7, hx7, hr7, hq7, left', msL', done ++ [x], hit7, hI7, by omega, hP2, hN7⟩
            case measure => omega
        | [], hI2 => exact hI2.elim
end Go.Proofs.YtleofgndghjflaaGreatDoor

set_option linter.unusedVariables false
set_option linter.unusedSimpArgs false
namespace Go.Proofs.YtleofgndghjflaaGreatDoor
open Go Go.RowKit

def askM (k : List UInt8) (ms : List Mem) : Mem := (ms.find? fun x => decide (x.key = k)).getD ⟨[], [], [], []⟩
def AskPost (m : Mem) (w : World) (e : Ending) (w' : World) : Prop :=
  ∃ kb vb mb pv d, e = .returned (.agg #[.string kb, .string vb, .string mb, pv, .bool d]) ∧ bs kb = m.key ∧ bs vb = m.val ∧ bs mb = m.meta' ∧ Rd true w' 86 pv m.props.length 3 (m.props.flatMap pcells) ∧ Below w.heap.size w w'

set_option maxHeartbeats 4000000 in
set_option maxRecDepth 100000 in
theorem member_any (mv : Value) (ms : List Mem) (kb : ByteArray) (w : World) (h : BagVal w mv ms) (hpr : ∀ m ∈ ms, m.props.length ≤ 100000) :
    Calls Tryz.prog 64 #[.agg #[mv], .string kb] w (AskPost (askM (bs kb) ms) w) := by
  obtain ⟨ma, rfl⟩ := h.is_map
  obtain ⟨w1, hw1⟩ : ∃ w1, (w.alloc (.cells #[.map ma] 117)).alloc (.cells #[.string ⟨#[]⟩, .string ⟨#[]⟩, .string ⟨#[]⟩, .slice none 0 0, .bool false] 98) = w1 := ⟨_, rfl⟩
  have hb1 : Below w.heap.size w w1 := by rw [← hw1]; exact ((Below.refl _ _).alloc (Nat.le_refl _) _).alloc (by simp) _
  have hp1 : w1.heap[w.heap.size]? = some (.cells #[.map ma] 117 (0, 0)) := by rw [← hw1]; exact row_alloc (heap_alloc_new _ _) _
  have hr1 : w1.heap[w.heap.size + 1]? = some (.cells #[.string ⟨#[]⟩, .string ⟨#[]⟩, .string ⟨#[]⟩, .slice none 0 0, .bool false] 98 (0, 0)) := by rw [← hw1]; exact heap_alloc_2 _ _ _
  have hB1 := h.below hb1
  obtain ⟨u, f, hlk, hL⟩ := hB1.look kb
  obtain ⟨i1, i2, iA, iN, iC, rfl⟩ := hL.agg
  obtain ⟨c0, f0⟩ := row1 hp1
  have hA2 : Below w1.heap.size w1 (w1.alloc (.cells #[.string i1, .string i2, .slice iA iN iC] 158)) := (Below.refl _ _).alloc (Nat.le_refl _) _
  have hr2 := row_alloc hr1 (.cells #[.string i1, .string i2, .slice iA iN iC] 158)
  have hb2 := below_then hb1 hb1.size hA2
  unfold LookIs at hL
  cases hf : ms.find? (fun x => decide (x.key = bs kb)) with
  | none =>
    rw [hf] at hL
    obtain ⟨hag, rfl⟩ := hL
    have R : Aside (askM (bs kb) ms = ⟨[], [], [], []⟩) := by show _ = _; unfold askM; rw [hf]; rfl
    clear hf hag
    obtain ⟨⟨d0, d1, d2, d3, d4⟩, g0, g1, g2, g3, g4⟩ := row5 (row_alloc hr2 (.cells #[.string ⟨#[]⟩, .string ⟨#[]⟩, .string ⟨#[]⟩, .slice none 0 0, .bool false] 98))
    have hb3 := hb2.alloc hb2.size (.cells #[.string ⟨#[]⟩, .string ⟨#[]⟩, .string ⟨#[]⟩, .slice none 0 0, .bool false] 98)
    have hr3 := row_alloc hr2 (.cells #[.string ⟨#[]⟩, .string ⟨#[]⟩, .string ⟨#[]⟩, .slice none 0 0, .bool false] 98)
    go_enter Tryz.func64, Tryz.ntmps64
    go_wp2_with (go_at_fn 107; fail)
    refine (newInvalidMember_any _).mono ?_
    rintro e w' ⟨rfl, rfl⟩
    go_wp2_with fail
    (try simp only [Exit.inBlock, Exit.then]); refine bodyPost_ret (results_cell_row rfl _ _ (w.heap.size + 1) 98 _ (0, 0) _ rfl (row_set (row_set (row_set (row_set (row_set hr3 0 _) 1 _) 2 _) 3 _) 4 _) Tryz.underlying98 rfl (by kernel_rfl)) rfl ?_
    rw [R.out]
    exact ⟨_, _, _, _, _, rfl, rfl, rfl, rfl, Rd.nil _ _ _ _, ((((hb3.setCell (by simp) _).setCell (by simp) _).setCell (by simp) _).setCell (by simp) _).setCell (by simp) _⟩
  | some m =>
    rw [hf] at hL
    obtain ⟨rfl, vb, mb, iv, hag, hk, hv, hme, hiv⟩ := hL
    have hpm := hpr m (List.mem_of_find?_eq_some hf)
    have R : Aside (askM (bs kb) ms = m ∧ bs kb = m.key ∧ bs vb = m.val ∧ bs mb = m.meta') := ⟨by unfold askM; rw [hf]; rfl, hk, hv, hme⟩
    simp only [Value.agg.injEq] at hag
    have e1 : i1 = vb ∧ i2 = mb ∧ Value.slice iA iN iC = iv := by simpa using hag
    obtain ⟨rfl, rfl, rfl⟩ := e1
    have hfi := memberFromItem_any kb i1 i2 _ m.props _ (hiv.below hA2) hpm
    clear hf hag hk hv hme
    go_enter Tryz.func64, Tryz.ntmps64
    go_wp2_with (go_at_fn 101; fail)
    refine hfi.mono ?_
    intro e w3 hpost
    obtain ⟨pv, rfl, hpv, hbel⟩ := hpost
    have hr3 := (hbel.block _ (Array.getElem?_eq_some_iff.1 hr2).1).trans hr2
    have hb3 := below_then hb2 hb2.size hbel
    obtain ⟨A2, c2, rfl, _, _⟩ := hpv.shape
    obtain ⟨⟨d0, d1, d2, d3, d4⟩, g0, g1, g2, g3, g4⟩ := row5 hr3
    clear hfi hiv
    go_wp2_with fail
    (try simp only [Exit.inBlock, Exit.then]); refine bodyPost_ret (results_cell_row rfl _ _ (w.heap.size + 1) 98 _ (0, 0) _ rfl (row_set (row_set (row_set (row_set (row_set hr3 0 _) 1 _) 2 _) 3 _) 4 _) Tryz.underlying98 rfl (by kernel_rfl)) rfl ?_
    rw [R.out.1]
    refine ⟨_, _, _, _, _, rfl, R.out.2.1, R.out.2.2.1, R.out.2.2.2, ?_, ((((hb3.setCell (by simp) _).setCell (by simp) _).setCell (by simp) _).setCell (by simp) _).setCell (by simp) _⟩
    exact hpv.fr2 ((((((Fr2.refl 98 98 w3).set hr3 _).set (row_set hr3 0 _) _).set (row_set (row_set hr3 0 _) 1 _) _).set (row_set (row_set (row_set hr3 0 _) 1 _) 2 _) _).set (row_set (row_set (row_set (row_set hr3 0 _) 1 _) 2 _) 3 _) _) (by decide) (by decide)
end Go.Proofs.YtleofgndghjflaaGreatDoor

set_option linter.unusedVariables false
set_option linter.unusedSimpArgs false
namespace Go.Proofs.YtleofgndghjflaaGreatDoor
open Go Go.RowKit

theorem find_nodup : ∀ (ms : List Mem) (m : Mem), (ms.map Mem.key).Nodup → m ∈ ms → ms.find? (fun x => decide (x.key = m.key)) = some m
  | [], m, _, h => by cases h
  | x :: r, m, hn, h => by
    rw [List.map_cons, List.nodup_cons] at hn
    rw [List.find?_cons]
    rcases List.mem_cons.1 h with e | h
    · rw [e, decide_eq_true rfl]
    · have : ¬ x.key = m.key := fun e => hn.1 (List.mem_map.2 ⟨m, h, e.symm⟩)
      rw [decide_eq_false this]
      exact find_nodup r m hn.2 h
/-- A look for a key of the baggage's own. -/
theorem BagAt.look1 {w : World} {b : Nat} {ms : List Mem} (h : BagAt w b ms) (k : ByteArray) (m : Mem) (hk : bs k = m.key) (hm : m ∈ ms) (hn : (ms.map Mem.key).Nodup) :
    ∃ u, (Instr.lookup 115 (.map (some b)) (.string k) false).run Tryz.prog w = .ok u w ∧ ItemAt w (k, u) m := by
  obtain ⟨L, h1, h2⟩ := h
  have hf := asc_find k L ms h2
  rw [hk, find_nodup ms m hn hm] at hf
  obtain ⟨u, hu, hi⟩ := hf
  refine ⟨u, ?_, hi⟩
  obtain ⟨es, clock, e1, e2⟩ := h1
  have hfn := findNow_fnd k es.toList L 0 e2.same
  have hfk : (Instr.findKey 9 (.string k) es.toList).run Tryz.prog w = .ok (fnd k L 0) w := by
    simp [Instr.findKey, run_underlying Tryz.underlying9, hfn, Result.andThen]
  have hck : ∀ e, (Instr.checkKey e 10000 9 (.string k)).run Tryz.prog w = .ok () w := fun e => MapKept.run_checkKey Tryz.underlying9 (by trivial) e 9999
  unfold asc at hu
  cases hq : fnd k L 0 with
  | none => rw [hq] at hu; cases hu
  | some x =>
    rw [hq] at hu hfk
    have hxu : x.2 = u := by simpa using hu
    obtain ⟨x1, x2⟩ := x
    simp only at hxu
    subst hxu
    simp [Instr.lookup, run_underlying Tryz.underlying115, MapKept.run_getObj_map e1, hck, hfk, Result.andThen]
theorem MemRow.below {w w' : World} {v : Value} {ms : List Mem} (h : MemRow w v ms) (hb : Below w.heap.size w w') : MemRow w' v ms := by
  obtain ⟨css, h1, h2⟩ := h
  exact ⟨css, h1.below hb, h2.imp (fun _ _ h => h.below hb)⟩
theorem MemRow.shape {w : World} {v : Value} {ms : List Mem} (h : MemRow w v ms) : ∃ A c, v = .slice A ms.length c ∧ ms.length ≤ c ∧ c ≤ 9223372036854775807 := by
  obtain ⟨css, h1, _⟩ := h
  exact h1.shape
/-- The k-th member's five cells. -/
theorem MemRow.get {w : World} {A : Option Addr} {c : Nat} {ms : List Mem} (h : MemRow w (.slice A ms.length c) ms) (k : Nat) (hk : k < ms.length) (m : Mem) (hm : ms[k] = m) :
    ∃ bk o kb vb mb pA pc, A = some ⟨bk, o, none⟩ ∧ w.cell? ⟨bk, o + k * 5, none⟩ = some (.string kb) ∧ w.cell? ⟨bk, o + k * 5 + 1, none⟩ = some (.string vb) ∧ w.cell? ⟨bk, o + k * 5 + 2, none⟩ = some (.string mb) ∧ w.cell? ⟨bk, o + k * 5 + 3, none⟩ = some (.slice pA m.props.length pc) ∧ w.cell? ⟨bk, o + k * 5 + 4, none⟩ = some (.bool true) ∧
      bs kb = m.key ∧ bs vb = m.val ∧ bs mb = m.meta' ∧ Rd true w 86 (.slice pA m.props.length pc) m.props.length 3 (m.props.flatMap pcells) := by
  obtain ⟨css, hrd, hall⟩ := h
  have hmk : ms[k]? = some m := by rw [List.getElem?_eq_getElem hk, hm]
  obtain ⟨cs, hcsk, hcs⟩ := All2.get k m hall hmk
  have hat := flat_get 5 css k cs (fun c hc => by obtain ⟨_, _, h⟩ := All2.mem hall c hc; exact h.len) hcsk
  obtain ⟨bk, o, c', he, _, _, _⟩ := hrd.cells (by omega)
  injection he with he1 he2 he3
  subst he1 he3
  obtain ⟨kb, vb, mb, pv, rfl, h1, h2, h3, h4⟩ := hcs
  obtain ⟨PA, pc, rfl, _, _⟩ := h4.shape
  exact ⟨bk, o, kb, vb, mb, PA, pc, rfl, hrd.at' rfl (by have := hat 0 (by omega); simpa using this), hrd.at' (j := k * 5 + 1) (by omega) (by have := hat 1 (by omega); simpa using this), hrd.at' (j := k * 5 + 2) (by omega) (by have := hat 2 (by omega); simpa using this), hrd.at' (j := k * 5 + 3) (by omega) (by have := hat 3 (by omega); simpa using this), hrd.at' (j := k * 5 + 4) (by omega) (by have := hat 4 (by omega); simpa using this), h1, h2, h3, h4⟩

def NewBPost (ms : List Mem) (w : World) (e : Ending) (w' : World) : Prop := ∃ mv, e = .returned (.tuple #[.agg #[mv], .nilIface]) ∧ BagVal w' mv ms ∧ Below w.heap.size w w'
theorem newB_len (ms : List Mem) : (newB ms).length ≤ ms.length := by
  induction ms using snoc_ind with
  | h0 => simp [newB]
  | h1 l m ih =>
    rw [newB_snoc, List.length_append]
    have := putM_len m (newB l)
    simp only [List.length_cons, List.length_nil]
    omega
theorem newB_mem (ms : List Mem) : ∀ x ∈ newB ms, x ∈ ms := by
  induction ms using snoc_ind with
  | h0 => simp [newB]
  | h1 l m ih =>
    intro x hx
    rw [newB_snoc] at hx
    rcases putM_mem m _ x hx with rfl | hx
    · simp
    · simp [ih x hx]

set_option maxHeartbeats 8000000 in
set_option maxRecDepth 100000 in
theorem New_any (v : Value) (ms : List Mem) (w : World) (hw : Laid w) (h : MemRow w v ms) (hn : ms.length ≤ 64) (hme : ∀ m ∈ ms, m.meta' = [] ∧ MemOk m) (hwt : wt ms ≤ 8000) :
    Calls Tryz.prog 65 #[v] w (NewBPost (newB ms) w) := by
  obtain ⟨A, c, rfl, hnc, hcm⟩ := h.shape
  have hb1 : Below w.heap.size w (w.alloc (.cells #[.map none] 117)) := (Below.refl _ _).alloc (Nat.le_refl _) _
  have hr1 : (w.alloc (.cells #[.map none] 117)).heap[w.heap.size]? = some (.cells #[.map none] 117 (0, 0)) := heap_alloc_new _ _
  have H : Aside (MemRow w (.slice A ms.length c) ms ∧ (∀ m ∈ ms, m.meta' = [] ∧ MemOk m) ∧ (newB ms).length ≤ ms.length ∧ wt (newB ms) ≤ 8000 ∧ ((newB ms).map Mem.key).Nodup ∧ ∀ x ∈ newB ms, x ∈ ms) := ⟨h, hme, newB_len ms, Nat.le_trans (newB_wt ms) hwt, (newB_is ms).nodup, newB_mem ms⟩
  clear h hme hwt
  by_cases h0 : ms.length = 0
  · have hz : ((ms.length : Int) == 0) = true := by rw [beq_iff_eq]; omega
    have hm0 := List.eq_nil_of_length_eq_zero h0
    obtain ⟨d0, g0⟩ := row1 hr1
    clear h0
    go_enter Tryz.func65, Tryz.ntmps65
    go_wp2_with fail
    (try simp only [Exit.inBlock, Exit.then]); refine bodyPost_ret (ret_cell_tmp rfl rfl hr1 Tryz.underlying117 rfl (by kernel_rfl)) rfl ?_
    rw [hm0]
    exact ⟨_, rfl, .inl ⟨rfl, rfl⟩, hb1⟩
  · have hz : ((ms.length : Int) == 0) = false := beq_eq_false_iff_ne.2 (by omega)
    have hmk := run_mm 115
    obtain ⟨w1, hw1⟩ : ∃ w1, w.alloc (.cells #[.map none] 117) = w1 := ⟨_, rfl⟩
    rw [hw1] at hb1 hr1
    have hz1 : w1.heap.size = w.heap.size + 1 := by rw [← hw1]; simp
    have hb2 := hb1.alloc hb1.size (.map #[] 0)
    have hr2 := row_alloc hr1 (.map #[] 0)
    have hN2 := BagAt.made w1
    have hmk1 := hmk w1
    obtain ⟨w2, hw2⟩ : ∃ w2, w1.alloc (.map #[] 0) = w2 := ⟨_, rfl⟩
    rw [hw2] at hb2 hr2 hN2 hmk1
    rw [hz1] at hN2 hmk1
    clear hmk hw2 hb1 hr1
    go_enter Tryz.func65, Tryz.ntmps65
    go_upto_block 0 with fail
    go_cut [4] (fun v4 W => v4 = .map (some (w.heap.size + 1)) ∧ Below w.heap.size w W ∧ W.heap[w.heap.size]? = some (.cells #[.map none] 117 (0, 0)) ∧ BagAt W (w.heap.size + 1) (newB ms))
    case first =>
      go_wp2_with fail
      clear hmk1
      go_loopg [21] (ms.length + 1) (fun gk i W => Below w.heap.size w W ∧ W.heap[w.heap.size]? = some (.cells #[.map none] 117 (0, 0)) ∧ ∃ k : Nat, i = .int .i64 k ∧ k ≤ ms.length ∧ k + gk = ms.length + 1 ∧ BagAt W (w.heap.size + 1) (newB (ms.take k)))
      case atStart => exact ⟨hb2, hr2, 0, rfl, by omega, by omega, hN2⟩
      case round =>
        clear hb2 hr2 hN2 hw1 hz1
        obtain ⟨hb, hr, k, rfl, hk, hg, hN⟩ := hrel
        have hws := hb.size
        have hNl : w.heap.size + 1 < wr.heap.size := by obtain ⟨L, h, _⟩ := hN; exact h.lt
        by_cases hlt : k < ms.length
        · obtain ⟨m, hm⟩ : ∃ m, ms[k] = m := ⟨_, rfl⟩
          have hmm : m ∈ ms := by rw [← hm]; exact List.getElem_mem hlt
          obtain ⟨bk, o, kb, vb, mb, pA, pc, rfl, x0, x1, x2, x3, x4, hk1, hv1, hm1, hp1⟩ := (H.out.1.below hb).get k hlt m hm
          have hpn := (H.out.2.1 m hmm).2.num
          have T : Aside (newB (ms.take (k + 1)) = putM m (newB (ms.take k)) ∧ bs kb = m.key ∧ bs vb = m.val ∧ bs mb = m.meta' ∧ mb = ⟨#[]⟩) := by
            refine ⟨by rw [List.take_succ_eq_append_getElem hlt, hm, newB_snoc], hk1, hv1, hm1, bs_inj ?_⟩
            rw [hm1, (H.out.2.1 m hmm).1]
          clear hmm hm hk1 hv1 hm1
          have hA : Below wr.heap.size wr (wr.alloc (.cells #[.string kb, .string vb, .string mb, .slice pA m.props.length pc, .bool true] 98)) := (Below.refl _ _).alloc (Nat.le_refl _) _
          have hx := heap_alloc_new wr (.cells #[.string kb, .string vb, .string mb, .slice pA m.props.length pc, .bool true] 98)
          have hb1 := below_then hb hws hA
          have hr1 := row_alloc hr (.cells #[.string kb, .string vb, .string mb, .slice pA m.props.length pc, .bool true] 98)
          have hN1 := hN.below hA
          have hp2 := hp1.below hA
          obtain ⟨w1, hw1⟩ : ∃ w1, wr.alloc (.cells #[.string kb, .string vb, .string mb, .slice pA m.props.length pc, .bool true] 98) = w1 := ⟨_, rfl⟩
          rw [hw1] at hx hb1 hr1 hN1 hp2
          obtain ⟨⟨c0, c1, c2, c3, c4⟩, _, _, _, _, _⟩ := row5 hx
          have hif := itemFromMember_any (ty := true) kb vb mb (.slice pA m.props.length pc) true m.props w1.drew (hp2.below (Below.refl _ _).drew) hpn
          clear hp1 hp2 hN hr hA
          go_wp2_with fail
          go_region_held3 (fun W => W.cell? ⟨wr.heap.size, 0, none⟩ = some (.string kb) ∧ W.cell? ⟨wr.heap.size, 1, none⟩ = some (.string vb) ∧ W.cell? ⟨wr.heap.size, 2, none⟩ = some (.string mb) ∧ W.cell? ⟨wr.heap.size, 3, none⟩ = some (.slice pA m.props.length pc) ∧ W.cell? ⟨wr.heap.size, 4, none⟩ = some (.bool true)) ((first | exact ⟨c0, c1, c2, c3, c4⟩ | exact ⟨d0, d1, d2, d3, d4⟩ | exact ⟨e0, e1, e2, e3, e4⟩)) (first
            | (go_at_call 96; refine hif.mono ?_; intro e w5 hpost; obtain ⟨iv, rfl, hiv, hbel⟩ := hpost
               rw [T.out.2.2.2.2, empty_isEmpty, if_pos rfl, if_pos rfl] at hiv
               have hbel : Below w1.heap.size w1 w5 := (Below.refl _ _).drew.trans hbel
               have hx5 := (hbel.block _ (Array.getElem?_eq_some_iff.1 hx).1).trans hx
               obtain ⟨⟨d0, d1, d2, d3, d4⟩, _, _, _, _, _⟩ := row5 hx5
               have hr5 := (hbel.block _ (Array.getElem?_eq_some_iff.1 hr1).1).trans hr1
               have hb5 := below_then hb1 hb1.size (w2 := w5) hbel
               have hN5 := hN1.below (w' := w5) hbel
               clear hbel hif
               obtain ⟨w6, hup, hN6, hg6⟩ := hN5.put kb (.agg #[.string vb, .string mb, iv]) m ⟨vb, mb, iv, rfl, T.out.2.1, T.out.2.2.1, T.out.2.2.2.1, hiv⟩
               have hne6 : ¬ wr.heap.size = w.heap.size + 1 := by omega
               have hx6 := (hg6.block _ (Array.getElem?_eq_some_iff.1 hx5).1 (by simpa using hne6)).trans hx5
               obtain ⟨⟨e0, e1, e2, e3, e4⟩, _, _, _, _, _⟩ := row5 hx6))
          all_goals
            have hr6 := (hg6.block _ (Array.getElem?_eq_some_iff.1 hr5).1 (by simp)).trans hr5
            have hb6 : Below w.heap.size w w6 := hb5.grown hg6 hb5.size (by intro q hq; injection hq with hq; omega)
            clear hN5 hg6 hup hiv hr5 hx5 hb5
            go_wp2_with fail
            go_roundg (gk - 1)
            case rel => exact ⟨hb6, hr6, k + 1, by go_num, by omega, by omega, by rw [T.out.1]; exact hN6⟩
            case measure => omega
        · rw [List.take_of_length_le (by omega)] at hN
          go_wp2_with fail
          go_meet
          exact ⟨rfl, hb, hr, hN⟩
    case rest =>
      clear hb2 hr2 hN2 hw1 hz1 hmk1
      obtain ⟨rfl, hb, hr, hN⟩ := hcut
      obtain ⟨B, hB⟩ : ∃ B, newB ms = B := ⟨_, rfl⟩
      have hBl : B.length ≤ 64 := by rw [← hB]; exact Nat.le_trans H.out.2.2.1 hn
      have HB : Aside (newB ms = B ∧ wt B ≤ 8000 ∧ (B.map Mem.key).Nodup ∧ ∀ x ∈ B, x ∈ ms) := by
        refine ⟨hB, ?_⟩
        rw [← hB]
        exact H.out.2.2.2
      rw [hB] at hN
      clear hB
      have hlen := hN.len
      have hl64 : ¬ (64 : Int) < (B.length : Int) := by omega
      have hV : BagVal wc (.map (some (w.heap.size + 1))) B := .inr ⟨_, rfl, hN⟩
      obtain ⟨o, L, hro, hit, hI⟩ := hV.range
      have hA4 : Below wc.heap.size wc (wc.alloc o) := (Below.refl _ _).alloc (Nat.le_refl _) _
      have hr4 := row_alloc hr o
      have hb4 := below_then hb hb.size hA4
      have hN4 := hN.below hA4
      have hI4 := hI.imp (fun _ _ h => ItemAt.below h hA4)
      have hsz := hb.size
      obtain ⟨it, hitd⟩ : ∃ it, wc.heap.size = it := ⟨_, rfl⟩
      obtain ⟨w4, hw4⟩ : ∃ w4, wc.alloc o = w4 := ⟨_, rfl⟩
      rw [hw4, hitd] at hro
      rw [hw4] at hit hr4 hb4 hN4 hI4
      rw [hitd] at hit
      have hitw : w.heap.size ≤ it := by omega
      clear hw4 hitd
      go_wp2_with fail
      clear hro hA4 hI hN hr hb hV hlen
      go_loopg [7, 9, 10] (B.length + 1) (fun gk v7 v9 v10 W => v7 = .nilIface ∧ Below w.heap.size w W ∧ W.heap[w.heap.size]? = some (.cells #[.map none] 117 (0, 0)) ∧ BagAt W (w.heap.size + 1) B ∧ ∃ (left : List KV) (msL done : List Mem) (tot : Nat) (fi : Bool), v9 = .int .i64 tot ∧ v10 = .bool fi ∧ tot ≤ wt done ∧ wt done ≤ 8000 ∧ IterAt W it (.map (some (w.heap.size + 1))) left ∧ All2 (ItemAt W) left msL ∧ msL.length + 1 = gk ∧ Aside (B.Perm (done ++ msL)))
      case atStart => exact ⟨rfl, hb4, hr4, hN4, L, B, [], 0, true, rfl, rfl, by omega, by simp [wt], hit, hI4, rfl, List.Perm.refl _⟩
      case round =>
        clear hit hr4 hb4 hN4 hI4
        obtain ⟨rfl, hb, hr, hN, left, msL, done, tot, fi, rfl, rfl, htot, hwd, hit, hI, hg, hP⟩ := hrel
        have hws := hb.size
        rcases hit.next with ⟨rfl, hnx⟩ | ⟨p, left', w5, hpm, hnx, hit5, hg5, hen⟩
        · have hm0 : msL = [] := List.eq_nil_of_length_eq_zero (by rw [← hI.length]; rfl)
          subst hm0
          obtain ⟨d0, g0⟩ := row1 hr
          clear hP hI hit
          go_wp2_with fail
          (try simp only [Exit.inBlock, Exit.then]); refine bodyPost_ret (ret_cell_tmp rfl rfl (row_set hr 0 _) Tryz.underlying117 rfl (by kernel_rfl)) rfl ?_
          rw [HB.out.1]
          refine ⟨_, rfl, .inr ⟨_, rfl, ?_⟩, hb.setCell (by simp) _⟩
          obtain ⟨Ln, h1, h2⟩ := hN
          exact ⟨Ln, h1.set hr _, h2.imp (fun _ _ h => ItemAt.fr2 h ((Fr2.refl 117 117 wr).set hr _) (by decide) (by decide))⟩
        · obtain ⟨msL', hpm2, hI2⟩ := All2.perm hpm hI
          match msL', hI2 with
          | m :: msL', hI2 =>
            have hb5 : Below w.heap.size w w5 := hb.grown hg5 hws (by
              intro q hq
              injection hq with hq
              rw [← hq]
              exact hitw)
            have hI5 := hI2.2.imp (fun _ _ h => hit.item hg5 h)
            have hi5 := hit.item hg5 hI2.1
            have hr5 := hit.row hg5 hr
            have hN5 := hit.bag hg5 hN
            have hP2 : Aside (B.Perm ((done ++ [m]) ++ msL')) := by
              refine hP.out.trans ?_
              rw [List.append_assoc]
              exact List.Perm.append_left _ hpm2
            have hlen2 : msL'.length + 1 = msL.length := by rw [hpm2.length_eq]; rfl
            have hmB : m ∈ B := hP2.out.mem_iff.2 (by simp)
            have hwt2 : wt done + ((memStr m).length + 1) ≤ 8000 ∧ wt (done ++ [m]) = wt done + ((memStr m).length + 1) := by
              have h1 := wt_perm hP2.out
              rw [wt_app, wt_app] at h1
              have h2 : wt [m] = (memStr m).length + 1 := by simp [wt]
              have h3 := HB.out.2.1
              rw [wt_app]
              omega
            obtain ⟨hwt2, hwt3⟩ := hwt2
            clear hI hI2 hr hN hit hpm hpm2 hg5 hP
            obtain ⟨kb2, pv⟩ := p
            simp only at hnx hen
            obtain ⟨_, _, _, _, hk2, _⟩ := hi5
            simp only at hk2
            obtain ⟨u, hlk, vb, mb, iv, hu, _, hv, hme, hiv⟩ := hN5.look1 kb2 m hk2 hmB HB.out.2.2.1
            simp only at hu
            obtain ⟨A2, c2, rfl, _, _⟩ := hiv.shape
            subst hu
            have hok := (H.out.2.1 m (HB.out.2.2.2 m hmB)).2
            have hfi := memberFromItem_any kb2 vb mb (.slice A2 m.props.length c2) m.props _ hiv hok.num
            go_wp2_with (go_at_fn 101; fail)
            refine hfi.mono ?_
            intro e w6 hpost
            obtain ⟨pv, rfl, hpv, hbel⟩ := hpost
            obtain ⟨A3, c3, rfl, _, _⟩ := hpv.shape
            have hA7 : Below w6.heap.size w6 (w6.alloc (.cells #[.string kb2, .string vb, .string mb, .slice A3 m.props.length c3, .bool true] 98)) := (Below.refl _ _).alloc (Nat.le_refl _) _
            have h57 := below_then hbel hbel.size hA7
            have hb7 := below_then hb5 hb5.size h57
            have hr7 := (h57.block _ (Array.getElem?_eq_some_iff.1 hr5).1).trans hr5
            have hN7 := hN5.below h57
            have hit7 := hit5.below h57
            have hI7 := hI5.imp (fun _ _ h => ItemAt.below h h57)
            have hms := memberString_any m kb2 vb mb _ true _ (hw.below hb7) hok hk2 hv hme (hpv.below hA7)
            obtain ⟨sb, hsb⟩ : ∃ sb : ByteArray, S (memStr m) = .string sb ∧ bs sb = memStr m := ⟨⟨(memStr m).toArray⟩, rfl, rfl⟩
            rw [hsb.1] at hms
            have hsl : sb.size = (memStr m).length := by rw [← bs_length, hsb.2]
            clear hfi hlk hiv hN5 hit5 hI5 hr5 hen hnx hbel hpv hsb hok hv hme
            go_wp2_with (go_at_fn 46; fail)
            refine hms.mono ?_
            rintro e w8 ⟨rfl, hbel⟩
            have hb8 := below_then hb7 hb7.size hbel
            have hr8 := (hbel.block _ (Array.getElem?_eq_some_iff.1 hr7).1).trans hr7
            have hN8 := hN7.below hbel
            have hit8 := hit7.below hbel
            have hI8 := hI7.imp (fun _ _ h => ItemAt.below h hbel)
            clear hms hN7 hit7 hI7 hr7 hbel hb7 h57 hA7 hb5
            have hW3 : Aside (wt (done ++ [m]) = wt done + ((memStr m).length + 1)) := hwt3
            clear hwt3
            cases fi
            · have hs1 : ¬ (8192 : Int) < (tot : Int) + ((sb.size : Int) + 1) := by omega
              go_wp2_with fail
              go_roundg (gk - 1)
              case rel => exact ⟨rfl, hb8, hr8, hN8, left', msL', done ++ [m], tot + (sb.size + 1), false, by go_num, rfl, by rw [hW3.out]; omega, by rw [hW3.out]; exact hwt2, hit8, hI8, by omega, hP2⟩
              case measure => omega
            · have hs1 : ¬ (8192 : Int) < (tot : Int) + (sb.size : Int) := by omega
              go_wp2_with fail
              go_roundg (gk - 1)
              case rel => exact ⟨rfl, hb8, hr8, hN8, left', msL', done ++ [m], tot + sb.size, false, by go_num, rfl, by rw [hW3.out]; omega, by rw [hW3.out]; exact hwt2, hit8, hI8, by omega, hP2⟩
              case measure => omega
          | [], hI2 => exact hI2.elim
end Go.Proofs.YtleofgndghjflaaGreatDoor

set_option linter.unusedVariables false
set_option linter.unusedSimpArgs false
namespace Go.Proofs.YtleofgndghjflaaGreatDoor
open Go Go.RowKit

/-- A member as it is made raw. -/
def memOf (x : SM) : Mem := ⟨x.1, x.2.1, [], x.2.2⟩
def okS (x : SM) : Bool := (madeMS false x).2
theorem qOf_raw (p : Pr) : qOf false p = p := by
  obtain ⟨k, v⟩ := p
  cases v with
  | none => rfl
  | some v => rfl
theorem madeMS_raw (x : SM) : (madeMS false x).1 = x := by
  obtain ⟨k, v, ps⟩ := x
  unfold madeMS madeP
  simp only [Bool.false_eq_true, if_false]
  congr 2
  have : (qOf false) = id := by funext p; exact qOf_raw p
  rw [this, List.map_id]
theorem memOf_told (x : SM) : told (memOf x) = x := rfl
theorem map_memOf_told : ∀ xs : List SM, (xs.map memOf).map told = xs
  | [] => rfl
  | x :: xs => by rw [List.map_cons, List.map_cons, map_memOf_told xs, memOf_told]
theorem madeMem_raw (x : SM) : madeMem false x = if okS x then some (memOf x) else none := by
  rw [madeMem_same, madeMS_raw]
  rfl
/-- A member of bounded size. -/
structure SMok (x : SM) : Prop where
  key : x.1.length ≤ 200
  val : x.2.1.length ≤ 200
  num : x.2.2.length ≤ 8
  props : ∀ p ∈ x.2.2, PrOk 200 p
theorem SMok.memOk {x : SM} (h : SMok x) : MemOk (memOf x) := by
  obtain ⟨h1, h2, h3, h4⟩ := h
  exact ⟨by show x.1.length ≤ _; omega, by show x.2.1.length ≤ _; omega, by show ([] : List UInt8).length ≤ _; simp, by show x.2.2.length ≤ _; omega, fun p hp => (h4 p hp).mono (by omega)⟩
theorem SMok.mok {x : SM} (h : SMok x) : MOk (memOf x) := by
  have h3 := h.num
  exact ⟨by show ([] : List UInt8).length ≤ _; simp, by show x.2.2.length ≤ _; omega, by show x.2.2.length ≤ _; omega⟩
theorem results_tmp5 {fn : Func} {t u v x y : Tmp} (h : fn.results = #[.tmp t, .tmp u, .tmp v, .tmp x, .tmp y]) (tmps : Array Value) (P : Program) (w : World) :
    (results fn tmps).run P w = .ok (.tuple #[tmps.getD t undef, tmps.getD u undef, tmps.getD v undef, tmps.getD x undef, tmps.getD y undef]) w := by
  simp [results, h]
theorem less_lt {ms : List Mem} (h : ms.Pairwise fun a b => Op.bytesLess b.key a.key = false) : ms.Pairwise fun a b => ¬ b.key < a.key := by
  refine h.imp fun {a b} hab => ?_
  rw [bl_eq] at hab
  exact of_decide_eq_false hab
theorem BagIs.told {ms ms2 : List Mem} {X : List SM} (h : BagIs ms X) (hp : ms.Perm ms2) (hs : ms2.Pairwise fun a b => Op.bytesLess b.key a.key = false) : ms2.map Go.Proofs.YtleofgndghjflaaGreatDoor.told = X := h.sorted hp (less_lt hs)
def MakeBPost (X : List SM) (w : World) (e : Ending) (w' : World) : Prop :=
  ∃ v n s, e = .returned (.tuple #[v, .int .i64 n, .string s, .bool true, .bool true]) ∧ MRs true true 32 42 w' v X ∧ Below w.heap.size w w'

set_option maxHeartbeats 8000000 in
set_option maxRecDepth 100000 in
theorem makeBaggage_any (v : Value) (xs : List SM) (w : World) (hw : Laid w) (h : MRs true true 32 42 w v xs) (hn : xs.length ≤ 40) (hx : ∀ x ∈ xs, SMok x) (hok : ∀ x ∈ xs, okS x = true) (hwt : wt (xs.map memOf) ≤ 8000) :
    Calls Tryz.prog 30 #[v] w (MakeBPost (foldW xs) w) := by
  obtain ⟨A, c, rfl, hnc, hcm⟩ := h.shape
  have H : Aside (MRs true true 32 42 w (.slice A xs.length c) xs ∧ (∀ x ∈ xs, SMok x ∧ okS x = true) ∧ wt (xs.map memOf) ≤ 8000) := ⟨h, fun x hxm => ⟨hx x hxm, hok x hxm⟩, hwt⟩
  clear h hx hok hwt
  go_enter Tryz.func30, Tryz.ntmps30
  go_upto_block 0 with fail
  go_cut [7] (fun v7 W => Below w.heap.size w W ∧ ∃ css, W.ownsRow w.heap.size 98 5 v7 xs.length css.flatten ∧ All2 (MemCells W) css (xs.map memOf))
  case first =>
    go_wp2_with fail
    go_loopg [7, 16] (xs.length + 1) (fun gk ov i W => Below w.heap.size w W ∧ ∃ (k : Nat) (css : List (List Value)), i = .int .i64 k ∧ k ≤ xs.length ∧ k + gk = xs.length + 1 ∧ W.ownsRow w.heap.size 98 5 ov k css.flatten ∧ All2 (MemCells W) css ((xs.take k).map memOf))
    case atStart => exact ⟨Below.refl _ _, 0, [], rfl, by omega, by omega, own_nil _ _ _ _, trivial⟩
    case round =>
      obtain ⟨hb, k, css, rfl, hk, hg, ho, him⟩ := hrel
      have hws := hb.size
      obtain ⟨OA, oc, rfl⟩ := own_shape ho
      by_cases hlt : k < xs.length
      · obtain ⟨x, hx⟩ : ∃ x, xs[k] = x := ⟨_, rfl⟩
        obtain ⟨hxo, hxk⟩ := H.out.2.1 x (by rw [← hx]; exact List.getElem_mem hlt)
        obtain ⟨bk, o, kb, vb, pA, pc, rfl, x0, x1, x2, hk1, hv1, hp1⟩ := (H.out.1.below hb).get k hlt x hx
        have htk : Aside (xs.take (k + 1) = xs.take k ++ [x]) := by show _ = _; rw [List.take_succ_eq_append_getElem hlt, hx]
        have hA : Below wr.heap.size wr (wr.alloc (.cells #[.string kb, .string vb, .slice pA x.2.2.length pc] 42)) := (Below.refl _ _).alloc (Nat.le_refl _) _
        have hb1 := below_then hb hws hA
        have hcall := memberMade_any false kb vb (.slice pA x.2.2.length pc) x.2.2 _ (hw.below hb1) (by rw [← bs_length, hk1]; have := hxo.key; omega) (by rw [← bs_length, hv1]; have := hxo.val; omega) (hp1.below hA) (by have := hxo.num; omega) (fun p hp => (hxo.props p hp).mono (by omega))
        have hxe : (bs kb, bs vb, x.2.2) = x := by rw [hk1, hv1]
        rw [hxe, madeMem_raw, hxk, show how false = 0 from rfl] at hcall
        have ho1 := own_below (C := 0) ho hA
        have him1 := him.imp (fun _ _ h => MemCells.below h hA)
        clear hx hxk hk1 hv1 hp1 hxe ho him
        go_wp2_with (go_at_fn 44; fail)
        refine hcall.mono ?_
        intro e w5 hpost
        obtain ⟨kb2, vb2, pA2, n2, pc2, d2, er, rfl, hb5, hR⟩ := hpost
        simp only [if_true] at hR
        obtain ⟨rfl, rfl, hk2, hv2, hm2, rfl, hp2⟩ := hR
        have hb15 := below_then hb1 hb1.size hb5
        have ho5 := own_below (C := 0) ho1 hb5
        have him5 := him1.imp (fun _ _ h => MemCells.below h hb5)
        have hA6 : Below w5.heap.size w5 (w5.alloc (.cells #[.string kb2, .string vb2, .string ⟨#[]⟩, .slice pA2 (memOf x).props.length pc2, .bool true] 98)) := (Below.refl _ _).alloc (Nat.le_refl _) _
        obtain ⟨w6, hw6⟩ : ∃ w6, w5.alloc (.cells #[.string kb2, .string vb2, .string ⟨#[]⟩, .slice pA2 (memOf x).props.length pc2, .bool true] 98) = w6 := ⟨_, rfl⟩
        have hx6 := heap_alloc_new w5 (.cells #[.string kb2, .string vb2, .string ⟨#[]⟩, .slice pA2 (memOf x).props.length pc2, .bool true] 98)
        rw [hw6] at hA6 hx6
        have hb16 := below_then hb15 hb15.size hA6
        have ho6 := own_below (C := 0) ho5 hA6
        have him6 := him5.imp (fun _ _ h => MemCells.below h hA6)
        have hmc : MemCells w6 [.string kb2, .string vb2, .string ⟨#[]⟩, .slice pA2 (memOf x).props.length pc2, .bool true] (memOf x) := ⟨_, _, _, _, rfl, hk2, hv2, rfl, hp2.below hA6⟩
        obtain ⟨⟨c0, c1, c2, c3, c4⟩, _, _, _, _, _⟩ := row5 hx6
        have hws6 := hb16.size
        clear hcall ho1 him1 ho5 him5 hb5 hk2 hv2 hm2 hp2 hA
        go_wp2_with (at_builtin; go_must (refine wp_app (W := w6) w.heap.size rfl _ _ 129 rfl 98 _ 5 80 Tryz.underlying129 Tryz.info98 rfl (by decide) (.slice OA k oc) k _ [.string kb2, .string vb2, .string ⟨#[]⟩, .slice pA2 (memOf x).props.length pc2, .bool true] rfl rfl rfl hmc.one ho6 hws6 (by omega) (by omega) ?_); intro v1 w7 ho7 hb7 hf7 hs7)
        go_wp2_with fail
        go_roundg (gk - 1)
        case rel =>
          refine ⟨hb16.trans hb7, k + 1, css ++ [[.string kb2, .string vb2, .string ⟨#[]⟩, .slice pA2 (memOf x).props.length pc2, .bool true]], by go_num, by omega, by omega, ?_, ?_⟩
          · rw [List.flatten_append]
            simpa using ho7
          · rw [htk.out, List.map_append, List.map_cons, List.map_nil]
            exact (him6.append (l' := [_]) (m' := [memOf x]) ⟨hmc, trivial⟩).imp (fun _ _ h => MemCells.fr h hf7 (by decide))
        case measure => omega
      · rw [List.take_of_length_le (by omega)] at him
        have hkl : k = xs.length := by omega
        go_wp2_with fail
        go_meet
        rw [hkl] at ho
        exact ⟨hb, css, by rw [hkl]; exact ho, him⟩
  case rest =>
    obtain ⟨hb, css, ho, him⟩ := hcut
    have hml : (xs.map memOf).length = xs.length := by simp
    have hrow : MemRow wc u7 (xs.map memOf) := ⟨css, by rw [hml]; exact Rd.of_own ho, him⟩
    have hnew := New_any u7 (xs.map memOf) wc (hw.below hb) hrow (by omega) (fun m hm => by
      obtain ⟨x, hx, rfl⟩ := List.mem_map.1 hm
      exact ⟨rfl, (H.out.2.1 x hx).1.memOk⟩) H.out.2.2
    have his := newB_is (xs.map memOf)
    rw [map_memOf_told] at his
    have hmok : ∀ m ∈ newB (xs.map memOf), MOk m ∧ MemOk m := by
      intro m hm
      obtain ⟨x, hx, rfl⟩ := List.mem_map.1 (newB_mem _ m hm)
      exact ⟨(H.out.2.1 x hx).1.mok, (H.out.2.1 x hx).1.memOk⟩
    have hBl := newB_len (xs.map memOf)
    rw [hml] at hBl
    obtain ⟨B, hB⟩ : ∃ B, newB (xs.map memOf) = B := ⟨_, rfl⟩
    rw [hB] at hnew his hmok hBl
    have HB : Aside (BagIs B (foldW xs) ∧ ∀ m ∈ B, MOk m ∧ MemOk m) := ⟨his, hmok⟩
    clear hB his hmok hrow him ho hml
    go_wp2_with (go_at_fn 65; fail)
    refine hnew.mono ?_
    intro e w1 hpost
    obtain ⟨mv, rfl, hbv, hbel⟩ := hpost
    obtain ⟨mv', rfl⟩ := hbv.is_map
    have hb1 := below_then hb hb.size hbel
    obtain ⟨w2, hw2⟩ : ∃ w2, w1.alloc (.cells #[.map mv'] 117) = w2 := ⟨_, rfl⟩
    have hb2 : Below w.heap.size w w2 := by rw [← hw2]; exact hb1.alloc hb1.size _
    have hp2 : w2.heap[w1.heap.size]? = some (.cells #[.map mv'] 117 (0, 0)) := by rw [← hw2]; exact heap_alloc_new _ _
    have hbv2 : BagVal w2 (.map mv') B := by rw [← hw2]; exact hbv.below ((Below.refl _ _).alloc (Nat.le_refl _) _)
    obtain ⟨c2, f2⟩ := row1 hp2
    have c2d : w2.drew.cell? ⟨w1.heap.size, 0, none⟩ = some (.map mv') := c2
    have h2d : Below w2.heap.size w2 w2.drew := (Below.refl _ _).drew
    have hms := membersOf_any (.map mv') B w2.drew (hw.below hb2.drew) (hbv2.below h2d) (by omega) (fun m hm => (HB.out.2 m hm).1)
    clear hnew hbv
    go_wp2_with fail
    go_region_held3 (fun W => W.cell? ⟨w1.heap.size, 0, none⟩ = some (.map mv')) ((first | (with_reducible assumption))) (first
      | (go_at_call 55; refine hms.mono ?_; intro e w5 hpost; obtain ⟨v5, ms5, css5, rfl, hpm5, hsr5, hrd5, him5, hbe5⟩ := hpost
         have hc5 := (hbe5.block _ (Array.getElem?_eq_some_iff.1 hp2).1).trans hp2
         obtain ⟨d5, _⟩ := row1 hc5
         have hbv5 := (hbv2.below h2d).below hbe5
         have hln := Len_any (.map mv') B w5 hbv5
         have hb5 := below_then hb2.drew hb2.drew.size hbe5)
      | (go_at_call 56; refine hln.mono ?_; intro e w6 hpost; obtain ⟨rfl, hbe6⟩ := hpost
         have hc6 := (hbe6.block _ (Array.getElem?_eq_some_iff.1 hc5).1).trans hc5
         obtain ⟨d6, _⟩ := row1 hc6
         have hbv6 := hbv5.below hbe6
         have hb6 := below_then hb5 hb5.size hbe6
         have hst := BagString_any (.map mv') B w6 (hw.below hb6) hbv6 (by omega) (fun m hm => (HB.out.2 m hm).2))
      | (go_at_call 57; refine hst.mono ?_; intro e w7 hpost; obtain ⟨ms7, hpm7, rfl, hbe7⟩ := hpost
         have hc7 := (hbe7.block _ (Array.getElem?_eq_some_iff.1 hc6).1).trans hc6
         obtain ⟨d7, _⟩ := row1 hc7))
    all_goals
      go_wp2_with fail
      (try simp only [Exit.inBlock, Exit.then]); refine bodyPost_ret (results_tmp5 rfl _ _ _) rfl ?_
      have h57 : Below w5.heap.size w5 w7 := below_then hbe6 hbe6.size hbe7
      have hT := HB.out.1.told hpm5 hsr5
      refine ⟨_, _, _, rfl, ?_, below_then hb6 hb6.size hbe7⟩
      rw [← hT]
      exact (tell_mrs hrd5 him5).below h57
end Go.Proofs.YtleofgndghjflaaGreatDoor

set_option linter.unusedVariables false
set_option linter.unusedSimpArgs false
namespace Go.Proofs.YtleofgndghjflaaGreatDoor
open Go Go.RowKit

theorem Tryz.info73 : (Tryz.prog.info? 73).map (fun i => (i.zero, i.size, i.bytes)) = some (some (.agg #[.string ⟨#[]⟩, .string ⟨#[]⟩, .slice none 0 0, .bool false, .slice none 0 0]), 5, 88) := by kernel_rfl
theorem Tryz.info66 : (Tryz.prog.info? 66).map (fun i => (i.zero, i.size, i.bytes)) = some (some (.agg #[.int .u8 0, .string ⟨#[]⟩, .string ⟨#[]⟩, .slice none 0 0]), 4, 64) := by kernel_rfl
theorem row4 {w : World} {g : Nat} {a b c d : Value} {t : TypeId} (h : w.heap[g]? = some (.cells #[a, b, c, d] t (0, 0))) :
    (w.cell? ⟨g, 0, none⟩ = some a ∧ w.cell? ⟨g, 1, none⟩ = some b ∧ w.cell? ⟨g, 2, none⟩ = some c ∧ w.cell? ⟨g, 3, none⟩ = some d) ∧ w.frozen? ⟨g, 0, none⟩ = false ∧ w.frozen? ⟨g, 1, none⟩ = false ∧ w.frozen? ⟨g, 2, none⟩ = false ∧ w.frozen? ⟨g, 3, none⟩ = false := by
  refine ⟨⟨?_, ?_, ?_, ?_⟩, ?_, ?_, ?_, ?_⟩
  · rw [cell_of_row _ _ _ _ _ _ h]; rfl
  · rw [cell_of_row _ _ _ _ _ _ h]; rfl
  · rw [cell_of_row _ _ _ _ _ _ h]; rfl
  · rw [cell_of_row _ _ _ _ _ _ h]; rfl
  all_goals simp [World.frozen?, h]
theorem MRs.fr2 {T E : TypeId} {w w' : World} {v : Value} {xs : List SM} {e f : TypeId} (h : MRs true true T E w v xs) (hf : Fr2 e f w w') (h1 : T ≠ e) (h2 : E ≠ e) (h3 : T ≠ f) (h4 : E ≠ f) : MRs true true T E w' v xs := by
  obtain ⟨css, k1, k2⟩ := h
  exact ⟨css, k1.fr2 hf h2 h4, k2.imp (fun _ _ h => MR.fr2 h hf h1 h3)⟩
/-- A step of a script over a baggage, in memory. -/
def SR (w : World) (cs : List Value) (s : Stp) : Prop := ∃ kb vb pv, cs = [.int .u8 (s.1 : Int), .string kb, .string vb, pv] ∧ bs kb = s.2.1 ∧ bs vb = s.2.2.1 ∧ Rd true w 32 pv s.2.2.2.length 3 (s.2.2.2.flatMap ipcells)
def SRs (w : World) (v : Value) (l : List Stp) : Prop := ∃ css : List (List Value), Rd true w 66 v l.length 4 css.flatten ∧ All2 (SR w) css l
theorem SR.len {w : World} {cs : List Value} {s : Stp} (h : SR w cs s) : cs.length = 4 := by
  obtain ⟨kb, vb, pv, rfl, _⟩ := h
  rfl
theorem SR.below {w w' : World} {cs : List Value} {s : Stp} (h : SR w cs s) (hb : Below w.heap.size w w') : SR w' cs s := by
  obtain ⟨kb, vb, pv, h1, h2, h3, h4⟩ := h
  exact ⟨kb, vb, pv, h1, h2, h3, h4.below hb⟩
theorem SR.fr {w w' : World} {cs : List Value} {s : Stp} {e : TypeId} (h : SR w cs s) (hf : Fr e w w') (hne : 32 ≠ e) : SR w' cs s := by
  obtain ⟨kb, vb, pv, h1, h2, h3, h4⟩ := h
  exact ⟨kb, vb, pv, h1, h2, h3, h4.fr hf hne⟩
theorem SR.ones {w : World} {cs : List Value} {s : Stp} (h : SR w cs s) : ∀ u ∈ cs, u.oneCell' = true := by
  obtain ⟨kb, vb, pv, rfl, _, _, h5⟩ := h
  obtain ⟨A, c, rfl, _⟩ := h5.shape
  intro u hu
  simp at hu
  rcases hu with rfl | rfl | rfl | rfl <;> rfl
theorem SRs.below {w w' : World} {v : Value} {l : List Stp} (h : SRs w v l) (hb : Below w.heap.size w w') : SRs w' v l := by
  obtain ⟨css, h1, h2⟩ := h
  exact ⟨css, h1.below hb, h2.imp (fun _ _ h => SR.below h hb)⟩
theorem SRs.shape {w : World} {v : Value} {l : List Stp} (h : SRs w v l) : ∃ A c, v = .slice A l.length c ∧ l.length ≤ c ∧ c ≤ 9223372036854775807 := by
  obtain ⟨css, h1, _⟩ := h
  exact h1.shape
theorem SRs.get {w : World} {A : Option Addr} {c : Nat} {l : List Stp} (h : SRs w (.slice A l.length c) l) (k : Nat) (hk : k < l.length) (s : Stp) (hs : l[k] = s) :
    ∃ bk o kb vb pA pc, A = some ⟨bk, o, none⟩ ∧ w.cell? ⟨bk, o + k * 4, none⟩ = some (.int .u8 (s.1 : Int)) ∧ w.cell? ⟨bk, o + k * 4 + 1, none⟩ = some (.string kb) ∧ w.cell? ⟨bk, o + k * 4 + 2, none⟩ = some (.string vb) ∧ w.cell? ⟨bk, o + k * 4 + 3, none⟩ = some (.slice pA s.2.2.2.length pc) ∧
      bs kb = s.2.1 ∧ bs vb = s.2.2.1 ∧ Rd true w 32 (.slice pA s.2.2.2.length pc) s.2.2.2.length 3 (s.2.2.2.flatMap ipcells) := by
  obtain ⟨css, hrd, hall⟩ := h
  have hsk : l[k]? = some s := by rw [List.getElem?_eq_getElem hk, hs]
  obtain ⟨cs, hcsk, hcs⟩ := All2.get k s hall hsk
  have hat := flat_get 4 css k cs (fun c hc => by obtain ⟨_, _, h⟩ := All2.mem hall c hc; exact h.len) hcsk
  obtain ⟨bk, o, c', he, _, _, _⟩ := hrd.cells (by omega)
  injection he with he1 he2 he3
  subst he1 he3
  obtain ⟨kb, vb, pv, rfl, h1, h2, h3⟩ := hcs
  obtain ⟨PA, pc, rfl, _, _⟩ := h3.shape
  exact ⟨bk, o, kb, vb, PA, pc, rfl, hrd.at' rfl (by have := hat 0 (by omega); simpa using this), hrd.at' (j := k * 4 + 1) (by omega) (by have := hat 1 (by omega); simpa using this), hrd.at' (j := k * 4 + 2) (by omega) (by have := hat 2 (by omega); simpa using this), hrd.at' (j := k * 4 + 3) (by omega) (by have := hat 3 (by omega); simpa using this), h1, h2, h3⟩

/-- An answer of a script, in memory. -/
def AR (w : World) (cs : List Value) (a : Ans) : Prop := ∃ kb vb pv mv, cs = [.string kb, .string vb, pv, .bool a.2.1, mv] ∧ MR true 32 w [.string kb, .string vb, pv] a.1 ∧ MRs true true 32 42 w mv a.2.2
def ARs (w : World) (v : Value) (l : List Ans) : Prop := ∃ css : List (List Value), Rd true w 73 v l.length 5 css.flatten ∧ All2 (AR w) css l
theorem AR.len {w : World} {cs : List Value} {s : Ans} (h : AR w cs s) : cs.length = 5 := by
  obtain ⟨kb, vb, pv, mv, rfl, _⟩ := h
  rfl
theorem AR.below {w w' : World} {cs : List Value} {s : Ans} (h : AR w cs s) (hb : Below w.heap.size w w') : AR w' cs s := by
  obtain ⟨kb, vb, pv, mv, h1, h2, h3⟩ := h
  exact ⟨kb, vb, pv, mv, h1, h2.below hb, h3.below hb⟩
theorem AR.fr {w w' : World} {cs : List Value} {s : Ans} {e : TypeId} (h : AR w cs s) (hf : Fr e w w') (h1 : 32 ≠ e) (h2 : 42 ≠ e) : AR w' cs s := by
  obtain ⟨kb, vb, pv, mv, k1, k2, k3⟩ := h
  exact ⟨kb, vb, pv, mv, k1, k2.fr hf h1, k3.fr hf h1 h2⟩
theorem AR.fr2 {w w' : World} {cs : List Value} {s : Ans} {e f : TypeId} (h : AR w cs s) (hf : Fr2 e f w w') (h1 : 32 ≠ e) (h2 : 42 ≠ e) (h3 : 32 ≠ f) (h4 : 42 ≠ f) : AR w' cs s := by
  obtain ⟨kb, vb, pv, mv, k1, k2, k3⟩ := h
  exact ⟨kb, vb, pv, mv, k1, k2.fr2 hf h1 h3, k3.fr2 hf h1 h2 h3 h4⟩
theorem ARs.below {w w' : World} {v : Value} {l : List Ans} (h : ARs w v l) (hb : Below w.heap.size w w') : ARs w' v l := by
  obtain ⟨css, h1, h2⟩ := h
  exact ⟨css, h1.below hb, h2.imp (fun _ _ h => AR.below h hb)⟩
theorem ARs.shape {w : World} {v : Value} {l : List Ans} (h : ARs w v l) : ∃ A c, v = .slice A l.length c ∧ l.length ≤ c ∧ c ≤ 9223372036854775807 := by
  obtain ⟨css, h1, _⟩ := h
  exact h1.shape
theorem ARs.get {w : World} {A : Option Addr} {c : Nat} {l : List Ans} (h : ARs w (.slice A l.length c) l) (k : Nat) (hk : k < l.length) (s : Ans) (hs : l[k] = s) :
    ∃ bk o kb vb pA pc mA mc, A = some ⟨bk, o, none⟩ ∧ w.cell? ⟨bk, o + k * 5, none⟩ = some (.string kb) ∧ w.cell? ⟨bk, o + k * 5 + 1, none⟩ = some (.string vb) ∧ w.cell? ⟨bk, o + k * 5 + 2, none⟩ = some (.slice pA s.1.2.2.length pc) ∧ w.cell? ⟨bk, o + k * 5 + 3, none⟩ = some (.bool s.2.1) ∧ w.cell? ⟨bk, o + k * 5 + 4, none⟩ = some (.slice mA s.2.2.length mc) ∧
      MR true 32 w [.string kb, .string vb, .slice pA s.1.2.2.length pc] s.1 ∧ MRs true true 32 42 w (.slice mA s.2.2.length mc) s.2.2 := by
  obtain ⟨css, hrd, hall⟩ := h
  have hsk : l[k]? = some s := by rw [List.getElem?_eq_getElem hk, hs]
  obtain ⟨cs, hcsk, hcs⟩ := All2.get k s hall hsk
  have hat := flat_get 5 css k cs (fun c hc => by obtain ⟨_, _, h⟩ := All2.mem hall c hc; exact h.len) hcsk
  obtain ⟨bk, o, c', he, _, _, _⟩ := hrd.cells (by omega)
  injection he with he1 he2 he3
  subst he1 he3
  obtain ⟨kb, vb, pv, mv, rfl, h1, h2⟩ := hcs
  have h1' := h1
  obtain ⟨_, _, _, hc, _, _, h3⟩ := h1
  simp only [List.cons.injEq, and_true] at hc
  rw [← hc.2.2] at h3
  obtain ⟨PA, pc, rfl, _, _⟩ := h3.shape
  obtain ⟨MA, mc, rfl, _, _⟩ := h2.shape
  exact ⟨bk, o, kb, vb, PA, pc, MA, mc, rfl, hrd.at' rfl (by have := hat 0 (by omega); simpa using this), hrd.at' (j := k * 5 + 1) (by omega) (by have := hat 1 (by omega); simpa using this), hrd.at' (j := k * 5 + 2) (by omega) (by have := hat 2 (by omega); simpa using this), hrd.at' (j := k * 5 + 3) (by omega) (by have := hat 3 (by omega); simpa using this), hrd.at' (j := k * 5 + 4) (by omega) (by have := hat 4 (by omega); simpa using this), h1', h2⟩

theorem own_setNe {w : World} {B : Nat} {e : TypeId} {size n : Nat} {v : Value} {xs : List Value} {g i : Nat} (h : w.ownsRow B e size v n xs) (hne : v.ownBlock ≠ some g) (u : Value) : (w.setCell ⟨g, i, none⟩ u).ownsRow B e size v n xs :=
  h.kept (row := some g) ⟨rfl, rfl, rfl, by simp [World.setCell], fun k _ hk => Below.heap_setCell _ _ _ _ (fun e => hk (by simp [e]))⟩ (.inr hne)
/-- Where impl.Bag stands. -/
def BI (w W : World) (ms : List Mem) (mv ov : Value) (k : Nat) (R : List Ans) : Prop :=
  Below w.heap.size w W ∧ W.heap[w.heap.size]? = some (.cells #[mv] 117 (0, 0)) ∧ BagVal W mv ms ∧ ∃ css : List (List Value), W.ownsRow w.heap.size 73 5 ov k css.flatten ∧ All2 (AR W) css R
section
variable {w W W' : World} {ms : List Mem} {mv ov : Value} {k : Nat} {R : List Ans}
theorem BI.below (h : BI w W ms mv ov k R) (hb : Below W.heap.size W W') : BI w W' ms mv ov k R := by
  obtain ⟨h1, h2, h3, css, h4, h5⟩ := h
  exact ⟨below_then h1 h1.size hb, (hb.block _ (Array.getElem?_eq_some_iff.1 h2).1).trans h2, h3.below hb, css, own_below (C := 0) h4 hb, h5.imp (fun _ _ h => AR.below h hb)⟩
theorem BagVal.set {W : World} {v : Value} {ms : List Mem} {g i : Nat} {cs : Array Value} {t : TypeId} {fr : Nat × Nat} (h : BagVal W v ms) (hg : W.heap[g]? = some (.cells cs t fr)) (ht : 235 ≠ t) (u : Value) : BagVal (W.setCell ⟨g, i, none⟩ u) v ms := by
  rcases h with h | ⟨b, h1, L, h2, h3⟩
  · exact .inl h
  · exact .inr ⟨b, h1, L, h2.set hg u, h3.imp (fun _ _ h => ItemAt.fr2 h ((Fr2.refl t t W).set hg _) ht ht)⟩
theorem BI.box (h : BI w W ms mv ov k R) {mv' : Value} {ms' : List Mem} (hv : BagVal W mv' ms') : BI w (W.setCell ⟨w.heap.size, 0, none⟩ mv') ms' mv' ov k R := by
  obtain ⟨h1, h2, h3, css, h4, h5⟩ := h
  exact ⟨h1.setCell (Nat.le_refl _) _, row_set h2 0 _, hv.set h2 (by decide) _, css, own_setOther h4 h2 (by decide) _, h5.imp (fun _ _ h => AR.fr2 h ((Fr2.refl 117 117 W).set h2 _) (by decide) (by decide) (by decide) (by decide))⟩
theorem BI.set7 (h : BI w W ms mv ov k R) {g i : Nat} {cs : Array Value} {fr : Nat × Nat} (hg : W.heap[g]? = some (.cells cs 73 fr)) (hlt : w.heap.size < g) (hne : ov.ownBlock ≠ some g) (u : Value) : BI w (W.setCell ⟨g, i, none⟩ u) ms mv ov k R := by
  obtain ⟨h1, h2, h3, css, h4, h5⟩ := h
  refine ⟨h1.setCell (by show w.heap.size ≤ g; omega) _, ?_, h3.set hg (by decide) _, css, own_setNe h4 hne _, h5.imp (fun _ _ h => AR.fr2 h ((Fr2.refl 73 73 W).set hg _) (by decide) (by decide) (by decide) (by decide))⟩
  rw [Below.heap_setCell _ _ _ _ (by show ¬ w.heap.size = g; omega)]
  exact h2
end
theorem mr_row {W : World} {g i : Nat} {cs : Array Value} {fr : Nat × Nat} {l : List Value} {x : SM} (h : MR true 32 W l x) (hg : W.heap[g]? = some (.cells cs 73 fr)) (u : Value) : MR true 32 (W.setCell ⟨g, i, none⟩ u) l x :=
  h.fr2 ((Fr2.refl 73 73 W).set hg _) (by decide) (by decide)
theorem mr_box {W : World} {g i : Nat} {cs : Array Value} {fr : Nat × Nat} {l : List Value} {x : SM} (h : MR true 32 W l x) (hg : W.heap[g]? = some (.cells cs 117 fr)) (u : Value) : MR true 32 (W.setCell ⟨g, i, none⟩ u) l x :=
  h.fr2 ((Fr2.refl 117 117 W).set hg _) (by decide) (by decide)
def emptySM : SM := ([], [], [])
theorem mr_empty (W : World) : MR true 32 W [.string ⟨#[]⟩, .string ⟨#[]⟩, .slice none 0 0] emptySM := ⟨_, _, _, rfl, rfl, rfl, Rd.nil _ _ _ _⟩
theorem askMS_told {ms : List Mem} {X : List SM} (h : BagIs ms X) (k : List UInt8) : askMS k X = told (askM k ms) := by
  rw [h.ask k]
  unfold askM
  cases ms.find? (fun x => decide (x.key = k)) with
  | none => rfl
  | some m => rfl
def BagRPost (R : List Ans) (w : World) (e : Ending) (w' : World) : Prop := ∃ v, e = .returned v ∧ ARs w' v R ∧ Below w.heap.size w w'
theorem stepB_set (x : SM) (X : List SM) (h : okS x = true) : stepB 0 x X = (emptySM, false, withMS x X) := by
  unfold stepB okS at *
  rw [if_pos rfl, if_pos h, madeMS_raw]
  rfl
theorem stepB_bad (x : SM) (X : List SM) (h : okS x = false) : stepB 0 x X = (emptySM, true, X) := by
  unfold stepB okS at *
  rw [if_pos rfl, if_neg (by rw [h]; simp)]
  rfl
theorem stepB_del (x : SM) (X : List SM) : stepB 1 x X = (emptySM, false, withoutMS x.1 X) := rfl
theorem stepB_ask (x : SM) (X : List SM) : stepB 2 x X = (askMS x.1 X, false, X) := rfl
theorem runBag_take (l : List Stp) (k : Nat) (hk : k < l.length) (s : Stp) (hs : l[k] = s) : runBag (l.take (k + 1)) [] = runBag (l.take k) [] ++ [stepB s.1 s.2 (endB (l.take k) [])] ∧ endB (l.take (k + 1)) [] = (stepB s.1 s.2 (endB (l.take k) [])).2.2 := by
  rw [List.take_succ_eq_append_getElem hk, hs, runBag_app, endB_snoc]
  exact ⟨rfl, rfl⟩
end Go.Proofs.YtleofgndghjflaaGreatDoor

set_option linter.unusedVariables false
set_option linter.unusedSimpArgs false
namespace Go.Proofs.YtleofgndghjflaaGreatDoor
open Go Go.RowKit

/-- Where impl.Bag stands behind a step. -/
def StepAt (W : World) (ms : List Mem) (kb vb : ByteArray) (pv : Value) (f : Bool) (k : Nat) (a : Ans) : Prop :=
  MR true 32 W [.string kb, .string vb, pv] a.1 ∧ f = a.2.1 ∧ BagIs ms a.2.2 ∧ ms.length ≤ k + 1 ∧ ∀ m ∈ ms, ∃ x, SMok x ∧ m = memOf x
theorem lessM_len (k : List UInt8) (ms : List Mem) : (lessM k ms).length ≤ ms.length := List.length_filter_le _ _
theorem lessM_mem {k : List UInt8} {ms : List Mem} {x : Mem} (h : x ∈ lessM k ms) : x ∈ ms := (List.mem_filter.1 h).1
theorem askM_mem (k : List UInt8) (ms : List Mem) : askM k ms ∈ ms ∨ askM k ms = ⟨[], [], [], []⟩ := by
  unfold askM
  cases h : ms.find? (fun x => decide (x.key = k)) with
  | none => exact .inr rfl
  | some m => exact .inl (List.mem_of_find?_eq_some h)
theorem memOf_props (x : SM) : memProps (memOf x) = x.2.2 := rfl

set_option maxHeartbeats 8000000 in
set_option maxRecDepth 100000 in
theorem bag_any (v : Value) (l : List Stp) (w : World) (hw : Laid w) (h : SRs w v l) (hn : l.length ≤ 40) (hx : ∀ s ∈ l, SMok s.2 ∧ s.1 ≤ 2) :
    Calls Tryz.prog 29 #[v] w (BagRPost (runBag l []) w) := by
  obtain ⟨A, c, rfl, hnc, hcm⟩ := h.shape
  have H : Aside (SRs w (.slice A l.length c) l ∧ ∀ s ∈ l, SMok s.2 ∧ s.1 ≤ 2) := ⟨h, hx⟩
  clear h hx
  have hI0 : BI w (w.alloc (.cells #[.map none] 117)) [] (.map none) (.slice none 0 0) 0 [] := ⟨(Below.refl _ _).alloc (Nat.le_refl _) _, heap_alloc_new _ _, .inl ⟨rfl, rfl⟩, [], own_nil _ _ _ _, trivial⟩
  go_enter Tryz.func29, Tryz.ntmps29
  go_wp2_with fail
  go_loopg [4, 12] (l.length + 1) (fun gk ov i W => ∃ (k : Nat) (ms : List Mem) (mv : Value), i = .int .i64 k ∧ k ≤ l.length ∧ k + gk = l.length + 1 ∧ BI w W ms mv ov k (runBag (l.take k) []) ∧ Aside (BagIs ms (endB (l.take k) []) ∧ ms.length ≤ k ∧ ∀ m ∈ ms, ∃ x, SMok x ∧ m = memOf x))
  case atStart => exact ⟨0, [], .map none, rfl, by omega, by omega, hI0, BagIs.none, by simp, by simp⟩
  case round =>
    clear hI0
    obtain ⟨k, ms, mv, rfl, hk, hg, hBI, hX⟩ := hrel
    have hb := hBI.1
    have hws := hb.size
    obtain ⟨OA, oc, rfl⟩ : ∃ A c, u4 = .slice A k c := by
      obtain ⟨_, _, _, css, ho, _⟩ := hBI
      exact own_shape ho
    have hov : Aside ((Value.slice OA k oc).ownBlock ≠ some (wr.heap.size + 1)) := by
      obtain ⟨_, _, _, css, ho, _⟩ := hBI
      intro e
      have := (ho.lt _ e).2
      omega
    by_cases hlt : k < l.length
    · obtain ⟨s, hs⟩ : ∃ s, l[k] = s := ⟨_, rfl⟩
      obtain ⟨op, x⟩ := s
      obtain ⟨hxo, hop⟩ := H.out.2 (op, x) (by rw [← hs]; exact List.getElem_mem hlt)
      simp only at hxo hop
      obtain ⟨bk, o, kb, vb, pA, pc, rfl, x0, x1, x2, x3, hk1, hv1, hp1⟩ := (H.out.1.below hb).get k hlt _ hs
      simp only at x0 x1 x2 x3 hk1 hv1 hp1
      have TK : Aside (runBag (l.take (k + 1)) [] = runBag (l.take k) [] ++ [stepB op x (endB (l.take k) [])] ∧ endB (l.take (k + 1)) [] = (stepB op x (endB (l.take k) [])).2.2) := runBag_take l k hlt _ hs
      obtain ⟨X, hXX⟩ : ∃ X, endB (l.take k) [] = X := ⟨_, rfl⟩
      rw [hXX] at hX TK
      obtain ⟨R, hRR⟩ : ∃ R, runBag (l.take k) [] = R := ⟨_, rfl⟩
      rw [hRR] at hBI TK
      obtain ⟨oi, hoi⟩ : ∃ oi : Int, (op : Int) = oi := ⟨_, rfl⟩
      rw [hoi] at x0
      obtain ⟨w1, hw1⟩ : ∃ w1, (wr.alloc (.cells #[.int .u8 oi, .string kb, .string vb, .slice pA x.2.2.length pc] 66)).alloc (.cells #[.string ⟨#[]⟩, .string ⟨#[]⟩, .slice none 0 0, .bool false, .slice none 0 0] 73) = w1 := ⟨_, rfl⟩
      have hA1 : Below wr.heap.size wr w1 := by rw [← hw1]; exact ((Below.refl _ _).alloc (Nat.le_refl _) _).alloc (by simp) _
      have hs1 : w1.heap[wr.heap.size]? = some (.cells #[.int .u8 oi, .string kb, .string vb, .slice pA x.2.2.length pc] 66 (0, 0)) := by rw [← hw1]; exact row_alloc (heap_alloc_new _ _) _
      have h71 : w1.heap[wr.heap.size + 1]? = some (.cells #[.string ⟨#[]⟩, .string ⟨#[]⟩, .slice none 0 0, .bool false, .slice none 0 0] 73 (0, 0)) := by rw [← hw1]; exact heap_alloc_2 _ _ _
      have hBI1 := hBI.below hA1
      have hp2 := hp1.below hA1
      have hmn : ms.length ≤ 40 := by have := hX.out.2.1; omega
      have KX : Aside (bs kb = x.1 ∧ bs vb = x.2.1 ∧ SMok x) := ⟨hk1, hv1, hxo⟩
      have hlw : w.heap.size < wr.heap.size + 1 := by omega
      clear hs hRR hXX hBI hp1 hk1 hv1 hxo
      obtain ⟨⟨s0, s1, s2, s3⟩, _, _, _, _⟩ := row4 hs1
      obtain ⟨c0, f0⟩ := row1 hBI1.2.1
      obtain ⟨ma, rfl⟩ := hBI1.2.2.1.is_map
      go_upto_block 2 with fail
      go_cut [] (fun W => ∃ (ms' : List Mem) (ma' : Option Nat) (kb3 vb3 : ByteArray) (pA3 : Option Addr) (pn3 pc3 : Nat) (f : Bool), BI w W ms' (.map ma') (.slice OA k oc) k R ∧ W.heap[wr.heap.size + 1]? = some (.cells #[.string kb3, .string vb3, .slice pA3 pn3 pc3, .bool f, .slice none 0 0] 73 (0, 0)) ∧ Aside (StepAt W ms' kb3 vb3 (.slice pA3 pn3 pc3) f k (stepB op x X)))
      case first =>
        rcases (show op = 0 ∨ op = 1 ∨ op = 2 by omega) with rfl | rfl | rfl
        · obtain rfl : oi = 0 := hoi.symm
          have hcall := memberMade_any false kb vb (.slice pA x.2.2.length pc) x.2.2 w1 (hw.below hBI1.1) (by rw [← bs_length, KX.out.1]; have := KX.out.2.2.key; omega) (by rw [← bs_length, KX.out.2.1]; have := KX.out.2.2.val; omega) hp2 (by have := KX.out.2.2.num; omega) (fun p hp => (KX.out.2.2.props p hp).mono (by omega))
          have hxe : (bs kb, bs vb, x.2.2) = x := by rw [KX.out.1, KX.out.2.1]
          rw [hxe, madeMem_raw, show how false = 0 from rfl] at hcall
          clear hxe
          go_wp2_with (go_at_fn 44; fail)
          refine hcall.mono ?_
          intro e w5 hpost
          obtain ⟨kb2, vb2, pA2, n2, pc2, d2, er, rfl, hb5, hR⟩ := hpost
          have hBI5 := hBI1.below hb5
          have h75 := (hb5.block _ (Array.getElem?_eq_some_iff.1 h71).1).trans h71
          clear hw1 hcall hBI1 h71 hs1 s0 s1 s2 s3 c0 f0 hp2 hb5
          cases hok : okS x with
          | true =>
            rw [hok] at hR
            simp only [if_true] at hR
            obtain ⟨rfl, rfl, hk2, hv2, hm2, rfl, hp2⟩ := hR
            have hA6 : Below w5.heap.size w5 (w5.alloc (.cells #[.string kb2, .string vb2, .string ⟨#[]⟩, .slice pA2 (memOf x).props.length pc2, .bool true] 98)) := (Below.refl _ _).alloc (Nat.le_refl _) _
            have hx6 := heap_alloc_new w5 (.cells #[.string kb2, .string vb2, .string ⟨#[]⟩, .slice pA2 (memOf x).props.length pc2, .bool true] 98)
            have hBI6 := hBI5.below hA6
            have h76 := row_alloc h75 (.cells #[.string kb2, .string vb2, .string ⟨#[]⟩, .slice pA2 (memOf x).props.length pc2, .bool true] 98)
            have hp6 := hp2.below hA6
            obtain ⟨w6, hw6⟩ : ∃ w6, w5.alloc (.cells #[.string kb2, .string vb2, .string ⟨#[]⟩, .slice pA2 (memOf x).props.length pc2, .bool true] 98) = w6 := ⟨_, rfl⟩
            rw [hw6] at hx6 hBI6 h76 hp6
            have hset := setMember_any (.map ma) ms (memOf x) kb2 vb2 pA2 pc2 w6 hBI6.2.2.1 hX.out.1.nodup (by omega) hk2 hv2 rfl hp6 (by have := KX.out.2.2.num; show x.2.2.length ≤ _; omega)
            obtain ⟨c0, f0⟩ := row1 hBI6.2.1
            obtain ⟨⟨y0, y1, y2, y3, y4⟩, _, _, _, _, _⟩ := row5 hx6
            have OK : Aside (okS x = true) := hok
            clear hA6 hBI5 h75 hp2 hp6 hk2 hv2 hm2 hok
            go_wp2_with (go_at_fn 62; fail)
            refine hset.mono ?_
            intro e w7 hpost
            obtain ⟨mv', ms', rfl, hbv7, hpm, hb7⟩ := hpost
            obtain ⟨ma', rfl⟩ := hbv7.is_map
            have hBI7 := hBI6.below hb7
            have h77 := (hb7.block _ (Array.getElem?_eq_some_iff.1 h76).1).trans h76
            have PM : Aside (ms'.Perm (lessM (memOf x).key ms ++ [memOf x])) := hpm
            obtain ⟨c0', f0'⟩ := row1 hBI7.2.1
            have hBI8 := hBI7.box hbv7
            have h78 : (w7.setCell ⟨w.heap.size, 0, none⟩ (.map ma')).heap[wr.heap.size + 1]? = some (.cells #[.string ⟨#[]⟩, .string ⟨#[]⟩, .slice none 0 0, .bool false, .slice none 0 0] 73 (0, 0)) := by
              rw [Below.heap_setCell _ _ _ _ (by show ¬ wr.heap.size + 1 = w.heap.size; omega)]
              exact h77
            obtain ⟨⟨_, _, _, z3, _⟩, _, _, _, q3, _⟩ := row5 h78
            clear hset hBI6 h76 hx6 hb7 hpm c0 f0 y0 y1 y2 y3 y4
            go_wp2_with fail
            go_meet
            refine ⟨ms', ma', ⟨#[]⟩, ⟨#[]⟩, none, 0, 0, false, hBI8.set7 h78 hlw hov.out _, row_set h78 3 _, ?_⟩
            show StepAt _ _ _ _ _ _ _ _
            rw [stepB_set x X OK.out]
            refine ⟨mr_empty _, rfl, hX.out.1.set (memOf x) PM.out, ?_, ?_⟩
            · have h1 := PM.out.length_eq
              have h2 := lessM_len (memOf x).key ms
              have h3 := hX.out.2.1
              simp only [List.length_append, List.length_cons, List.length_nil] at h1
              omega
            · intro m hm
              rcases List.mem_append.1 (PM.out.mem_iff.1 hm) with hm | hm
              · exact hX.out.2.2 m (lessM_mem hm)
              · exact ⟨x, KX.out.2.2, List.mem_singleton.1 hm⟩
          | false =>
            rw [hok] at hR
            simp only [Bool.false_eq_true, if_false] at hR
            obtain ⟨rfl, rfl, rfl, rfl, rfl, rfl, ye, rfl⟩ := hR
            have hA6 : Below w5.heap.size w5 (w5.alloc (.cells #[.string ⟨#[]⟩, .string ⟨#[]⟩, .string ⟨#[]⟩, .slice none 0 0, .bool false] 98)) := (Below.refl _ _).alloc (Nat.le_refl _) _
            have hBI6 := hBI5.below hA6
            have h76 := row_alloc h75 (.cells #[.string ⟨#[]⟩, .string ⟨#[]⟩, .string ⟨#[]⟩, .slice none 0 0, .bool false] 98)
            obtain ⟨⟨_, _, _, z3, _⟩, _, _, _, q3, _⟩ := row5 h76
            have OK : Aside (okS x = false) := hok
            clear hA6 hBI5 h75 hok
            go_wp2_with fail
            go_meet
            refine ⟨ms, ma, ⟨#[]⟩, ⟨#[]⟩, none, 0, 0, true, hBI6.set7 h76 hlw hov.out _, row_set h76 3 _, ?_⟩
            show StepAt _ _ _ _ _ _ _ _
            rw [stepB_bad x X OK.out]
            exact ⟨mr_empty _, rfl, hX.out.1, by have := hX.out.2.1; omega, hX.out.2.2⟩
        · obtain rfl : oi = 1 := hoi.symm
          have hdel := deleteMember_any (.map ma) ms kb w1 hBI1.2.2.1 hX.out.1.nodup (by omega)
          go_wp2_with (go_at_fn 63; fail)
          refine hdel.mono ?_
          intro e w7 hpost
          obtain ⟨mv', ms', rfl, hbv7, hpm, hb7⟩ := hpost
          obtain ⟨ma', rfl⟩ := hbv7.is_map
          have hBI7 := hBI1.below hb7
          have h77 := (hb7.block _ (Array.getElem?_eq_some_iff.1 h71).1).trans h71
          have PM : Aside (ms'.Perm (lessM (bs kb) ms)) := hpm
          obtain ⟨c0', f0'⟩ := row1 hBI7.2.1
          have hBI8 := hBI7.box hbv7
          have h78 : (w7.setCell ⟨w.heap.size, 0, none⟩ (.map ma')).heap[wr.heap.size + 1]? = some (.cells #[.string ⟨#[]⟩, .string ⟨#[]⟩, .slice none 0 0, .bool false, .slice none 0 0] 73 (0, 0)) := by
            rw [Below.heap_setCell _ _ _ _ (by show ¬ wr.heap.size + 1 = w.heap.size; omega)]
            exact h77
          clear hw1 hdel hBI1 h71 hs1 hb7 hpm s0 s1 s2 s3 c0 f0
          go_wp2_with fail
          go_meet
          refine ⟨ms', ma', ⟨#[]⟩, ⟨#[]⟩, none, 0, 0, false, hBI8, h78, ?_⟩
          show StepAt _ _ _ _ _ _ _ _
          rw [stepB_del x X, ← KX.out.1]
          refine ⟨mr_empty _, rfl, hX.out.1.del (bs kb) PM.out, ?_, ?_⟩
          · have h1 := PM.out.length_eq
            have h2 := lessM_len (bs kb) ms
            have h3 := hX.out.2.1
            omega
          · intro m hm
            exact hX.out.2.2 m (lessM_mem (PM.out.mem_iff.1 hm))
        · obtain rfl : oi = 2 := hoi.symm
          have hbd : ∀ m ∈ ms, m.props.length ≤ 8 ∧ m.meta' = [] := by
            intro m hm
            obtain ⟨y, hy, rfl⟩ := hX.out.2.2 m hm
            exact ⟨hy.num, rfl⟩
          have hask := member_any (.map ma) ms kb w1 hBI1.2.2.1 (fun m hm => by have := (hbd m hm).1; omega)
          have hab : (askM (bs kb) ms).props.length ≤ 8 ∧ (askM (bs kb) ms).meta' = [] := by
            rcases askM_mem (bs kb) ms with h | h
            · exact hbd _ h
            · rw [h]; exact ⟨by simp, rfl⟩
          obtain ⟨m, hm⟩ : ∃ m, askM (bs kb) ms = m := ⟨_, rfl⟩
          rw [hm] at hask hab
          have AM : Aside (askM (bs kb) ms = m ∧ m.meta' = []) := ⟨hm, hab.2⟩
          have hmp : memProps m = m.props := by unfold memProps; rw [hab.2]; rfl
          have hap := hab.1
          clear hbd hm hab
          go_wp2_with (go_at_fn 64; fail)
          refine hask.mono ?_
          intro e w5 hpost
          obtain ⟨kb4, vb4, mb4, pv4, d4, rfl, hk4, hv4, hm4, hp4, hb5⟩ := hpost
          have hBI5 := hBI1.below hb5
          have h75 := (hb5.block _ (Array.getElem?_eq_some_iff.1 h71).1).trans h71
          have hof := memberOf_any m kb4 vb4 mb4 pv4 d4 w5 (hw.below hBI5.1) hk4 hv4 hm4 (by rw [AM.out.2]; simp) (by omega) (by rw [hmp]; omega) hp4
          obtain ⟨A4, c4, rfl, _, _⟩ := hp4.shape
          clear hw1 hask hBI1 h71 hs1 hb5 s0 s1 s2 s3 c0 f0 hk4 hv4 hm4 hp4 hp2
          go_wp2_with (go_at_fn 45; fail)
          refine hof.mono ?_
          intro e w6 hpost
          obtain ⟨cs6, rfl, ⟨kb6, vb6, pv6, rfl, hk6, hv6, hp6⟩, hb6⟩ := hpost
          obtain ⟨A6, c6, rfl, _, _⟩ := hp6.shape
          have hBI6 := hBI5.below hb6
          have h76 := (hb6.block _ (Array.getElem?_eq_some_iff.1 h75).1).trans h75
          have HM : Aside (MR true 32 w6 [.string kb6, .string vb6, .slice A6 (memProps m).length c6] (told m)) := ⟨kb6, vb6, _, rfl, hk6, hv6, hp6⟩
          have HM2 : Aside (MR true 32 w6 [.string kb6, .string vb6, .slice A6 m.props.length c6] (told m)) := by
            have := HM.out
            rw [hmp] at this
            exact this
          obtain ⟨⟨z0, z1, z2, _, _⟩, q0, q1, q2, _, _⟩ := row5 h76
          clear hof hBI5 h75 hb6 hk6 hv6 hp6
          go_wp2_with fail
          go_meet
          have h760 := row_set h76 0 (.string kb6)
          have h761 := row_set h760 1 (.string vb6)
          refine ⟨ms, ma, kb6, vb6, A6, m.props.length, c6, false, ((hBI6.set7 h76 hlw hov.out _).set7 h760 hlw hov.out _).set7 h761 hlw hov.out _, row_set h761 2 _, ?_⟩
          show StepAt _ _ _ _ _ _ _ _
          rw [stepB_ask x X, ← KX.out.1, askMS_told hX.out.1, AM.out.1]
          exact ⟨mr_row (mr_row (mr_row HM2.out h76 _) h760 _) h761 _, rfl, hX.out.1, by have := hX.out.2.1; omega, hX.out.2.2⟩
      case rest =>
        clear hw1 hBI1 h71 hs1 hp2 s0 s1 s2 s3 c0 f0 hA1
        obtain ⟨ms', ma', kb3, vb3, pA3, pn3, pc3, f, hBI, h7, hS⟩ := hcut
        have hmk : ∀ m ∈ ms', MOk m := by
          intro m hm
          obtain ⟨y, hy, rfl⟩ := hS.out.2.2.2.2 m hm
          exact hy.mok
        have hml := hS.out.2.2.2.1
        have hms := membersOf_any (.map ma') ms' wc (hw.below hBI.1) hBI.2.2.1 (by omega) hmk
        obtain ⟨c0, f0⟩ := row1 hBI.2.1
        clear hmk
        go_wp2_with (go_at_fn 55; fail)
        refine hms.mono ?_
        intro e w5 hpost
        obtain ⟨v5, ms5, css5, rfl, hpm5, hsr5, hrd5, him5, hb5⟩ := hpost
        have hT := hS.out.2.2.1.told hpm5 hsr5
        have hmr := tell_mrs hrd5 him5
        rw [hT] at hmr
        obtain ⟨A5, c5, rfl, _, _⟩ := hmr.shape
        have hBI5 := hBI.below hb5
        have h75 := (hb5.block _ (Array.getElem?_eq_some_iff.1 h7).1).trans h7
        have hSS : MR true 32 w5 [.string kb3, .string vb3, .slice pA3 pn3 pc3] (stepB op x X).1 := hS.out.1.below hb5
        obtain ⟨⟨z0, z1, z2, z3, z4⟩, q0, q1, q2, q3, q4⟩ := row5 h75
        have hBI6 := hBI5.set7 (i := 4) h75 hlw hov.out (.slice A5 (stepB op x X).2.2.length c5)
        have h76 := row_set h75 4 (.slice A5 (stepB op x X).2.2.length c5)
        have hfr : Fr2 73 73 w5 (w5.setCell ⟨wr.heap.size + 1, 4, none⟩ (.slice A5 (stepB op x X).2.2.length c5)) := (Fr2.refl 73 73 w5).set h75 _
        have hmr6 := hmr.fr2 hfr (by decide) (by decide) (by decide) (by decide)
        have hSS6 := hSS.fr2 hfr (by decide) (by decide)
        obtain ⟨w6, hw6⟩ : ∃ w6, w5.setCell ⟨wr.heap.size + 1, 4, none⟩ (.slice A5 (stepB op x X).2.2.length c5) = w6 := ⟨_, rfl⟩
        rw [hw6] at hBI6 h76 hmr6 hSS6
        obtain ⟨n5, hn5⟩ : ∃ n, (stepB op x X).2.2.length = n := ⟨_, rfl⟩
        rw [hn5] at hw6 hmr6 h76
        have har : AR w6 [.string kb3, .string vb3, .slice pA3 pn3 pc3, .bool f, .slice A5 n5 c5] (stepB op x X) := ⟨kb3, vb3, _, _, by rw [hS.out.2.1], hSS6, hmr6⟩
        have HAR : Aside (AR w6 [.string kb3, .string vb3, .slice pA3 pn3 pc3, .bool f, .slice A5 n5 c5] (stepB op x X) ∧ Below wc.heap.size wc w5) := ⟨har, hb5⟩
        obtain ⟨hb6, hr6, hv6, css, ho6, hal6⟩ := hBI6
        have hwb6 := hb6.size
        obtain ⟨⟨g0, g1, g2, g3, g4⟩, _, _, _, _, _⟩ := row5 h76
        clear hms hBI hBI5 h7 h75 hrd5 him5 hmr hSS hfr hmr6 hSS6 hT hpm5 hsr5 c0 f0 har hb5
        rw [hn5]
        go_wp2_with (at_builtin; go_must (refine wp_app (W := w6) w.heap.size rfl _ _ 67 rfl 73 _ 5 88 Tryz.underlying67 Tryz.info73 rfl (by decide) (.slice OA k oc) k _ [.string kb3, .string vb3, .slice pA3 pn3 pc3, .bool f, .slice A5 n5 c5] rfl rfl rfl (by intro u hu; simp at hu; rcases hu with rfl | rfl | rfl | rfl | rfl <;> rfl) ho6 hwb6 (by omega) (by omega) ?_); intro v1 w7 ho7 hb7 hf7 hs7)
        go_wp2_with fail
        go_roundg (gk - 1)
        case rel =>
          refine ⟨k + 1, ms', .map ma', by go_num, by omega, by omega, ⟨hb6.trans hb7, ?_, hv6.fr hf7 (by decide), css ++ [[.string kb3, .string vb3, .slice pA3 pn3 pc3, .bool f, .slice A5 n5 c5]], ?_, ?_⟩, ?_⟩
          · exact (hf7.block _ (Array.getElem?_eq_some_iff.1 hr6).1 (by intro c f h; rw [hr6] at h; cases h)).trans hr6
          · rw [List.flatten_append]
            simpa using ho7
          · rw [TK.out.1]
            exact (hal6.append (l' := [_]) (m' := [_]) ⟨HAR.out.1, trivial⟩).imp (fun _ _ h => AR.fr h hf7 (by decide) (by decide))
          · show BagIs ms' _ ∧ _
            rw [TK.out.2]
            exact ⟨hS.out.2.2.1, hml, hS.out.2.2.2.2⟩
        case measure => omega
    · rw [List.take_of_length_le (by omega)] at hBI
      have hkl : k = l.length := by omega
      obtain ⟨hb6, hr6, hv6, css, ho6, hal6⟩ := hBI
      have RO : Aside (ARs wr (.slice OA k oc) (runBag l [])) := ⟨css, by rw [runBag_len, ← hkl]; exact Rd.of_own ho6, hal6⟩
      clear hkl ho6 hal6 hv6 hr6
      go_wp2_with fail
      go_ret
      exact ⟨_, rfl, RO.out, hb6⟩
end Go.Proofs.YtleofgndghjflaaGreatDoor

set_option linter.unusedVariables false
set_option linter.unusedSimpArgs false
namespace Go.Proofs.YtleofgndghjflaaGreatDoor
open Go Go.RowKit

def fits7 (l : List RM) : Bool := decide (l.length ≤ 2147483647) && l.all fits5
set_option maxHeartbeats 1000000 in
set_option maxRecDepth 100000 in
theorem zzFits7_any {ty ty2 : Bool} (v : Value) (rs : List RM) (w : World) (h : RMRs ty ty2 w v rs) : Calls Tryz.prog 28 #[v] w (BoolPost (fits7 rs) w) := by
  obtain ⟨A, c, rfl, hnc, hcm⟩ := h.shape
  have H : Aside (RMRs ty ty2 w (.slice A rs.length c) rs) := h
  clear h
  obtain ⟨r, hr⟩ : ∃ r, fits7 rs = r := ⟨_, rfl⟩
  rw [hr]
  have R : Aside (r = (decide (rs.length ≤ 2147483647) && rs.all fits5)) := hr.symm
  clear hr
  by_cases hbig : rs.length ≤ 2147483647
  · have hbz : ¬ (2147483647 : Int) < rs.length := by omega
    have R2 : Aside (r = rs.all fits5) := by show _ = _; rw [R.out, decide_eq_true hbig]; rfl
    clear R
    go_enter Tryz.func28, Tryz.ntmps28
    go_wp2_with fail
    go_loopg [10] (rs.length + 1) (fun gk i W => Below w.heap.size w W ∧ ∃ k : Nat, i = .int .i64 k ∧ k ≤ rs.length ∧ k + gk = rs.length + 1 ∧ Aside (r = (rs.drop k).all fits5))
    case atStart => exact ⟨Below.refl _ _, 0, rfl, by omega, by omega, R2.out⟩
    case round =>
      obtain ⟨hb, k, rfl, hk, hg, hX⟩ := hrel
      have hws := hb.size
      by_cases hlt : k < rs.length
      · obtain ⟨x, hx⟩ : ∃ x, rs[k] = x := ⟨_, rfl⟩
        have D : Aside (rs.drop k = x :: rs.drop (k + 1)) := by rw [← hx]; exact List.drop_eq_getElem_cons hlt
        obtain ⟨bk, o, pA, pc, rfl, x0, x1, x2, hp⟩ := (H.out.below hb).get k hlt x hx
        obtain ⟨ka, va, ps⟩ := x
        simp only at x0 x1 x2 hp
        have hA : Below wr.heap.size wr (wr.alloc (.cells #[.string ka, .string va, .slice pA ps.length pc] 28)) := (Below.refl _ _).alloc (Nat.le_refl _) _
        have hcall := zzFits5_any ka va (.slice pA ps.length pc) ps _ (hp.below hA)
        obtain ⟨E, hE⟩ : ∃ E, fits5 (ka, va, ps) = E := ⟨_, rfl⟩
        rw [hE] at hcall
        have EE : Aside (fits5 (ka, va, ps) = E) := hE
        clear hE hx hp
        go_wp2_with (go_at_fn 15; fail)
        refine hcall.mono ?_
        rintro e w2 ⟨rfl, hb2⟩
        have hbw := below_then hb hws (below_then hA hA.size hb2)
        cases E
        · go_wp2_with fail
          go_ret
          exact ⟨by rw [hX.out, D.out, List.all_cons, EE.out]; rfl, hbw⟩
        · go_wp2_with fail
          go_roundg (gk - 1)
          case rel => exact ⟨hbw, k + 1, by go_num, by omega, by omega, by have := hX.out; rw [D.out, List.all_cons, EE.out] at this; exact this⟩
          case measure => omega
      · have hfin := hX.out
        rw [List.drop_eq_nil_of_le (by omega)] at hfin
        have RF : Aside (r = true) := hfin
        clear hfin
        go_wp2_with fail
        go_ret
        exact ⟨by rw [RF.out]; rfl, hb⟩
  · have hbz : (2147483647 : Int) < rs.length := by omega
    have R2 : Aside (r = false) := by show _ = _; rw [R.out, decide_eq_false hbig]; rfl
    clear R
    go_enter Tryz.func28, Tryz.ntmps28
    go_wp2_with fail
    go_ret
    exact ⟨by rw [R2.out]; rfl, Below.refl _ _⟩

theorem without_place (key : List UInt8) (xs : List SM) (hs : Srt xs) (p : Nat) (f : Bool) (h1 : ∀ (i : Nat) x, i < p → xs[i]? = some x → x.1 < key) (h2 : ∀ (i : Nat) x, p ≤ i → xs[i]? = some x → ¬ x.1 < key) (h3 : f = true ↔ ∃ x, xs[p]? = some x ∧ x.1 = key) :
    withoutMS key xs = if f then xs.take p ++ xs.drop (p + 1) else xs := by
  unfold withoutMS
  cases f with
  | true =>
    obtain ⟨x, hx, he⟩ := h3.1 rfl
    obtain ⟨hp, hxe⟩ := List.getElem?_eq_some_iff.1 hx
    have e : xs = xs.take p ++ x :: xs.drop (p + 1) := by rw [← hxe, List.getElem_cons_drop, List.take_append_drop]
    have hs2 := hs
    unfold Srt at hs2
    rw [e, List.pairwise_append, List.pairwise_cons] at hs2
    simp only [if_true]
    conv => lhs; rw [e]
    rw [List.filter_append, List.filter_cons, if_neg (by simp [he])]
    congr 1
    · rw [List.filter_eq_self]
      intro y hy
      obtain ⟨i, hi⟩ := List.mem_iff_getElem?.1 hy
      rw [List.getElem?_take] at hi
      split at hi
      · rename_i hip
        have := h1 i y hip hi
        simp only [Bool.not_eq_eq_eq_not, Bool.not_true, decide_eq_false_iff_not]
        intro e
        rw [e] at this
        exact lt8_irr _ this
      · cases hi
    · rw [List.filter_eq_self]
      intro y hy
      have := hs2.2.1.1 y hy
      rw [he] at this
      simp only [Bool.not_eq_eq_eq_not, Bool.not_true, decide_eq_false_iff_not]
      intro e
      rw [e] at this
      exact lt8_irr _ this
  | false =>
    simp only [Bool.false_eq_true, if_false]
    rw [List.filter_eq_self]
    intro y hy
    simp only [Bool.not_eq_eq_eq_not, Bool.not_true, decide_eq_false_iff_not]
    intro e
    obtain ⟨i, hi⟩ := List.mem_iff_getElem?.1 hy
    rcases Nat.lt_trichotomy i p with h | h | h
    · have := h1 i y h hi
      rw [e] at this
      exact lt8_irr _ this
    · subst h
      cases h3.2 ⟨y, hi, e⟩
    · obtain ⟨hil, hye⟩ := List.getElem?_eq_some_iff.1 hi
      have hpl : p < xs.length := by omega
      have h4 := h2 p xs[p] (Nat.le_refl _) (List.getElem?_eq_getElem hpl)
      have h5 := List.pairwise_iff_getElem.1 hs p i hpl hil h
      rw [hye, e] at h5
      exact h4 h5
theorem without_len (k : List UInt8) (xs : List SM) : (withoutMS k xs).length ≤ xs.length := List.length_filter_le _ _

set_option maxHeartbeats 2000000 in
set_option maxRecDepth 100000 in
theorem without_any {ty ty2 : Bool} (v : Value) (xs : List SM) (kb : ByteArray) (w : World) (h : MRs ty ty2 23 28 w v xs) (hn : xs.length ≤ 10000) (hs : Srt xs) :
    Calls Tryz.prog 32 #[v, .string kb] w (ClonePost ty2 (withoutMS (bs kb) xs) w) := by
  obtain ⟨A0, c0, rfl, hnc0, hcm0⟩ := h.shape
  obtain ⟨css, hrd, hall⟩ := h
  have hcl := clone_css _ css xs _ hrd hall hn
  have H : Aside (All2 (MR ty2 23 w) css xs ∧ Srt xs) := ⟨hall, hs⟩
  clear hrd hall hs
  go_enter Tryz.func32, Tryz.ntmps32
  go_wp2_with (go_at_fn 58; fail)
  refine hcl.mono ?_
  intro e w2 hpost
  obtain ⟨v2, rfl, hown, hb2⟩ := hpost
  obtain ⟨A2, c2, rfl⟩ := own_shape hown
  have hpl := place_any (ty := true) (ty2 := ty2) _ xs kb w2 ⟨css, Rd.of_own hown, H.out.1.imp (fun _ _ h => MR.below h hb2)⟩ hn H.out.2
  have Q : Aside (Below w.heap.size w w2 ∧ w2.ownsRow w.heap.size 28 3 (.slice A2 xs.length c2) xs.length css.flatten) := ⟨hb2, hown⟩
  clear hb2 hown hcl
  go_wp2_with (go_at_fn 59; fail)
  refine hpl.mono ?_
  intro e w3 hpost
  obtain ⟨p, f, rfl, hp, h1, h2, h3, hb3⟩ := hpost
  have hown3 := own_below (C := 0) Q.out.2 hb3
  have hW := without_place (bs kb) xs H.out.2 p f h1 h2 h3
  have hb03 : Below w.heap.size w w3 := below_then Q.out.1 Q.out.1.size hb3
  have hc3 : ∀ c ∈ css, c.length = 3 := fun c hc => by obtain ⟨_, _, hc⟩ := H.out.1.mem c hc; exact hc.len
  have hft := flat_take p css hc3
  have hws := hb03.size
  cases f with
  | true =>
    obtain ⟨xp, hxp, _⟩ := h3.1 rfl
    have hpn : p < xs.length := (List.getElem?_eq_some_iff.1 hxp).1
    have hfd := flat_drop (p + 1) css hc3
    obtain ⟨g, hA⟩ : ∃ g, A2 = some ⟨g, 0, none⟩ := by
      rcases hown3.2 with ⟨_, h0⟩ | ⟨g, c, cur, he, _⟩
      · omega
      · injection he with he1
        exact ⟨g, he1⟩
    subst hA
    have hdel := deleteS_any w3 w.heap.size g xs.length c2 p css.flatten hown3 (ones_flat H.out.1) hpn (by omega)
    have HO : Aside (withoutMS (bs kb) xs = xs.take p ++ xs.drop (p + 1) ∧ (css.take p).flatten = css.flatten.take (p * 3) ∧ (css.drop (p + 1)).flatten = css.flatten.drop ((p + 1) * 3)) := ⟨hW, hft, hfd⟩
    clear hown3 h1 h2 h3 hxp hW hc3 hft hfd hpl
    go_wp2_with (go_at_fn 66; fail)
    refine hdel.mono ?_
    intro e w4 hpost
    obtain ⟨v4, rfl, hown4, hb4⟩ := hpost
    have HP : Aside (w4.ownsRow w.heap.size 28 3 v4 (xs.length - 1) (css.flatten.take (p * 3) ++ css.flatten.drop ((p + 1) * 3)) ∧ Below w.heap.size w w4) := ⟨hown4, hb03.trans hb4⟩
    clear hown4 hdel hb4
    go_wp2_with fail
    go_ret
    refine ⟨_, css.take p ++ css.drop (p + 1), rfl, ?_, ?_, HP.out.2⟩
    · rw [HO.out.1, List.flatten_append, HO.out.2.1, HO.out.2.2]
      rw [show (xs.take p ++ xs.drop (p + 1)).length = xs.length - 1 by simp; omega]
      exact HP.out.1
    · rw [HO.out.1]
      exact (H.out.1.take p).append (H.out.1.drop (p + 1))
  | false =>
    have HO : Aside (withoutMS (bs kb) xs = xs ∧ w3.ownsRow w.heap.size 28 3 (.slice A2 xs.length c2) xs.length css.flatten) := ⟨hW, hown3⟩
    clear hown3 h1 h2 h3 hW hc3 hft hpl
    go_wp2_with fail
    go_ret
    refine ⟨_, css, rfl, ?_, ?_, hb03⟩
    · rw [HO.out.1]
      exact HO.out.2
    · rw [HO.out.1]
      exact H.out.1

def AskSPost (ty : Bool) (x : SM) (w : World) (e : Ending) (w' : World) : Prop := ∃ kb vb pA pc, e = .returned (.agg #[.string kb, .string vb, .slice pA x.2.2.length pc]) ∧ MR ty 23 w' [.string kb, .string vb, .slice pA x.2.2.length pc] x ∧ Below w.heap.size w w'
theorem ask_place (key : List UInt8) (xs : List SM) (hs : Srt xs) (p : Nat) (f : Bool) (h1 : ∀ (i : Nat) x, i < p → xs[i]? = some x → x.1 < key) (h2 : ∀ (i : Nat) x, p ≤ i → xs[i]? = some x → ¬ x.1 < key) (h3 : f = true ↔ ∃ x, xs[p]? = some x ∧ x.1 = key) :
    (f = true → xs[p]? = some (askMS key xs)) ∧ (f = false → askMS key xs = ([], [], [])) := by
  cases f with
  | true =>
    obtain ⟨x, hx, he⟩ := h3.1 rfl
    have hm := List.mem_of_getElem? hx
    refine ⟨fun _ => ?_, fun h => (by cases h)⟩
    rw [hx]
    unfold askMS
    cases hf : xs.find? (fun y => decide (y.1 = key)) with
    | none => exact absurd (by simpa using he) (List.find?_eq_none.1 hf x hm)
    | some y =>
      have h4 := List.find?_some hf
      simp only [decide_eq_true_eq] at h4
      rw [hs.uniq x hm y (List.mem_of_find?_eq_some hf) (by rw [he, h4])]
      rfl
  | false =>
    refine ⟨fun h => (by cases h), fun _ => ?_⟩
    unfold askMS
    cases hf : xs.find? (fun y => decide (y.1 = key)) with
    | none => rfl
    | some y =>
      have h4 := List.find?_some hf
      simp only [decide_eq_true_eq] at h4
      have hw := without_place key xs hs p false h1 h2 h3
      have : y ∈ withoutMS key xs := by rw [hw]; exact List.mem_of_find?_eq_some hf
      have := (List.mem_filter.1 this).2
      simp [h4] at this

set_option maxHeartbeats 2000000 in
set_option maxRecDepth 100000 in
theorem ask_any {ty ty2 : Bool} (v : Value) (xs : List SM) (kb : ByteArray) (w : World) (h : MRs ty ty2 23 28 w v xs) (hn : xs.length ≤ 10000) (hs : Srt xs) :
    Calls Tryz.prog 33 #[v, .string kb] w (AskSPost ty2 (askMS (bs kb) xs) w) := by
  obtain ⟨A0, c0, rfl, hnc0, hcm0⟩ := h.shape
  have hb1 : Below w.heap.size w (w.alloc (.cells #[.string ⟨#[]⟩, .string ⟨#[]⟩, .slice none 0 0] 28)) := (Below.refl _ _).alloc (Nat.le_refl _) _
  have hr1 := heap_alloc_new w (.cells #[.string ⟨#[]⟩, .string ⟨#[]⟩, .slice none 0 0] 28)
  obtain ⟨w1, hw1⟩ : ∃ w1, w.alloc (.cells #[.string ⟨#[]⟩, .string ⟨#[]⟩, .slice none 0 0] 28) = w1 := ⟨_, rfl⟩
  rw [hw1] at hb1 hr1
  have hpl := place_any _ xs kb w1 (h.below hb1) hn hs
  have H : Aside (MRs ty ty2 23 28 w (.slice A0 xs.length c0) xs ∧ Srt xs) := ⟨h, hs⟩
  clear h hs
  go_enter Tryz.func33, Tryz.ntmps33
  go_wp2_with (go_at_fn 59; fail)
  refine hpl.mono ?_
  intro e w3 hpost
  obtain ⟨p, f, rfl, hp, h1, h2, h3, hb3⟩ := hpost
  have hb03 : Below w.heap.size w w3 := below_then hb1 hb1.size hb3
  have hr3 := (hb3.block _ (Array.getElem?_eq_some_iff.1 hr1).1).trans hr1
  have hW := ask_place (bs kb) xs H.out.2 p f h1 h2 h3
  obtain ⟨⟨d0, d1, d2⟩, g0, g1, g2⟩ := row3 hr3
  obtain ⟨x, hxx⟩ : ∃ x, askMS (bs kb) xs = x := ⟨_, rfl⟩
  rw [hxx] at hW
  have HX : Aside (askMS (bs kb) xs = x) := hxx
  clear h1 h2 h3 hpl hr1 hb1 hb3 hxx hw1
  cases f with
  | true =>
    have hW := hW.1 rfl
    obtain ⟨hpn, hxe⟩ := List.getElem?_eq_some_iff.1 hW
    obtain ⟨bk, o, ka, va, pA, pc, rfl, x0', x1', x2', hk1, hv1, hp1⟩ := H.out.1.get p hpn x hxe
    have x0 := cell_below hb03 x0'
    have x1 := cell_below hb03 x1'
    have x2 := cell_below hb03 x2'
    clear x0' x1' x2'
    have hb4 : Below w.heap.size w (((w3.setCell ⟨w.heap.size, 0, none⟩ (.string ka)).setCell ⟨w.heap.size, 1, none⟩ (.string va)).setCell ⟨w.heap.size, 2, none⟩ (.slice pA x.2.2.length pc)) := ((hb03.setCell (Nat.le_refl _) _).setCell (Nat.le_refl _) _).setCell (Nat.le_refl _) _
    have HM : Aside (MR ty2 23 w [.string ka, .string va, .slice pA x.2.2.length pc] x) := ⟨_, _, _, rfl, hk1, hv1, hp1⟩
    clear hW hxe hk1 hv1 hp1
    go_wp2_with fail
    (try simp only [Exit.inBlock, Exit.then]); refine bodyPost_ret (results_cell_row rfl _ _ w.heap.size 28 _ (0, 0) _ rfl (row_set (row_set (row_set hr3 0 _) 1 _) 2 _) Tryz.underlying28 rfl (by kernel_rfl)) rfl ?_
    rw [HX.out]
    exact ⟨ka, va, pA, pc, rfl, HM.out.below hb4, hb4⟩
  | false =>
    have hW := hW.2 rfl
    subst hW
    go_wp2_with fail
    (try simp only [Exit.inBlock, Exit.then]); refine bodyPost_ret (results_cell_row rfl _ _ w.heap.size 28 _ (0, 0) _ rfl (row_set (row_set (row_set hr3 0 _) 1 _) 2 _) Tryz.underlying28 rfl (by kernel_rfl)) rfl ?_
    rw [HX.out]
    exact ⟨_, _, none, 0, rfl, ⟨_, _, _, rfl, rfl, rfl, Rd.nil _ _ _ _⟩, ((hb03.setCell (Nat.le_refl _) _).setCell (Nat.le_refl _) _).setCell (Nat.le_refl _) _⟩
end Go.Proofs.YtleofgndghjflaaGreatDoor

set_option linter.unusedVariables false
set_option linter.unusedSimpArgs false
namespace Go.Proofs.YtleofgndghjflaaGreatDoor
open Go Go.RowKit

/-- A member that came in, as data. -/
def toSM (r : RM) : SM := (bs r.1, bs r.2.1, r.2.2.map toPr)
theorem rmr_mr {ty : Bool} {w : World} {cs : List Value} {r : RM} (h : RMR ty w cs r) (hr : rightM r = true) : MR ty 23 w cs (toSM r) := by
  obtain ⟨pv, rfl, h2⟩ := h
  unfold rightM at hr
  simp only [Bool.and_eq_true] at hr
  refine ⟨r.1, r.2.1, pv, rfl, rfl, rfl, ?_⟩
  show Rd ty w 23 pv (r.2.2.map toPr).length 3 ((r.2.2.map toPr).flatMap ipcells)
  rw [← rcells_prs r.2.2 hr.2, List.length_map]
  exact h2
theorem rmr_all {ty : Bool} {w : World} : ∀ {css : List (List Value)} {rs : List RM}, All2 (RMR ty w) css rs → rs.all rightM = true → All2 (MR ty 23 w) css (rs.map toSM)
  | [], [], _, _ => trivial
  | _ :: _, r :: rs, h, hr => by
    rw [List.all_cons, Bool.and_eq_true] at hr
    exact ⟨rmr_mr h.1 hr.1, rmr_all h.2 hr.2⟩
  | [], _ :: _, h, _ => h.elim
  | _ :: _, [], h, _ => h.elim
theorem rmrs_mrs {ty ty2 : Bool} {w : World} {v : Value} {rs : List RM} (h : RMRs ty ty2 w v rs) (hr : rs.all rightM = true) : MRs ty ty2 23 28 w v (rs.map toSM) := by
  obtain ⟨css, h1, h2⟩ := h
  exact ⟨css, by rw [List.length_map]; exact h1, rmr_all h2 hr⟩
theorem toSM_ok (r : RM) (h : rightM r = true) : SMok (toSM r) := by
  unfold rightM at h
  simp only [Bool.and_eq_true, decide_eq_true_eq] at h
  refine ⟨by show (bs r.1).length ≤ _; rw [bs_length]; exact h.1.1.1, by show (bs r.2.1).length ≤ _; rw [bs_length]; exact h.1.1.2, by show (r.2.2.map toPr).length ≤ _; rw [List.length_map]; exact h.1.2, toPr_ok r.2.2 h.2⟩
theorem right_ok {rs : List RM} (h : right rs = true) : rs.length ≤ 40 ∧ rs.all rightM = true := by
  unfold right at h
  simp only [Bool.and_eq_true, decide_eq_true_eq] at h
  exact h
theorem foldW_mem (xs : List SM) : ∀ x ∈ foldW xs, x ∈ xs := by
  induction xs using snoc_ind with
  | h0 => simp [foldW]
  | h1 l m ih =>
    intro x hx
    rw [foldW_snoc] at hx
    rcases withMS_mem m _ x hx with rfl | hx
    · simp
    · simp [ih x hx]
theorem foldW_len (xs : List SM) : (foldW xs).length ≤ xs.length := by
  have h1 := (newB_is (xs.map memOf)).length
  rw [map_memOf_told] at h1
  have h2 := newB_len (xs.map memOf)
  rw [List.length_map] at h2
  omega
theorem foldW_srt (xs : List SM) : Srt (foldW xs) := by
  have := (newB_is (xs.map memOf)).srt
  rwa [map_memOf_told] at this
def sets (xs : List SM) : List Stp := xs.map fun x => (0, x)
theorem endB_sets' (xs : List SM) (h : ∀ x ∈ xs, okS x = true) : endB (sets xs) [] = foldW xs := by
  unfold sets
  rw [endB_sets xs h]
  congr 1
  have : (fun x => (madeMS false x).1) = id := by funext x; exact madeMS_raw x
  rw [this, List.map_id]
theorem apart_plain (xs : List SM) (hne : xs ≠ []) (h : ∀ x ∈ xs, okS x = true) (key : List UInt8) :
    ∃ a1 a2 : Ans, (runBag (sets xs ++ [(1, (key, [], []))]) [])[xs.length - 1]? = some a1 ∧ a1.2.2 = foldW xs ∧ (runBag (sets xs ++ [(1, (key, [], []))]) [])[xs.length]? = some a2 ∧ a2.2.2 = withoutMS key (foldW xs) := by
  have hl : (sets xs).length = xs.length := by simp [sets]
  have hpos : 0 < xs.length := List.length_pos_iff.2 hne
  have hk : xs.length - 1 < (sets xs).length := by omega
  obtain ⟨s, hs⟩ : ∃ s, (sets xs)[xs.length - 1] = s := ⟨_, rfl⟩
  obtain ⟨r1, r2⟩ := runBag_take (sets xs) (xs.length - 1) hk s hs
  rw [show xs.length - 1 + 1 = (sets xs).length by omega, List.take_length] at r1 r2
  refine ⟨stepB s.1 s.2 (endB ((sets xs).take (xs.length - 1)) []), stepB 1 (key, [], []) (endB (sets xs) []), ?_, ?_, ?_, ?_⟩
  · rw [runBag_app, List.getElem?_append_left (by rw [runBag_len]; omega), r1, List.getElem?_append_right (by rw [runBag_len, List.length_take]; omega), runBag_len, List.length_take, Nat.min_eq_left (by omega), Nat.sub_self]
    rfl
  · rw [← r2]
    exact endB_sets' xs h
  · rw [runBag_app, List.getElem?_append_right (by rw [runBag_len]; omega), runBag_len, hl, Nat.sub_self]
    rfl
  · rw [stepB_del, endB_sets' xs h]
theorem sets_take (xs : List SM) (k : Nat) : (sets xs).take k = sets (xs.take k) := by simp [sets, List.map_take]
theorem sets_snoc (xs : List SM) (x : SM) : sets (xs ++ [x]) = sets xs ++ [(0, x)] := by simp [sets]
theorem wt_snoc (ms : List Mem) (m : Mem) : wt (ms ++ [m]) = wt ms + ((memStr m).length + 1) := by
  rw [wt_app]
  simp [wt]
theorem sr_set {w : World} {kb vb : ByteArray} {pv : Value} {x : SM} (h : MR true 32 w [.string kb, .string vb, pv] x) : SR w [.int .u8 0, .string kb, .string vb, pv] (0, x) := by
  obtain ⟨_, _, _, he, hk, hv, hp⟩ := h
  simp only [List.cons.injEq, Value.string.injEq, and_true] at he
  obtain ⟨rfl, rfl, rfl⟩ := he
  exact ⟨_, _, _, rfl, hk, hv, hp⟩
theorem memStr_small {x : SM} (h : SMok x) : (memStr (memOf x)).length ≤ 20000 := by
  have h1 := enc_le x.2.1
  have h2 : (propsStr x.2.2).length ≤ 10000 := by
    have hj := join_le 801 ((x.2.2.map pstr).filter (!·.isEmpty)) [59] (fun y hy => by
      obtain ⟨p, hp, rfl⟩ := List.mem_map.1 (List.mem_filter.1 hy).1
      have := pstr_le 200 p (h.props p hp)
      omega)
    have hl : ((x.2.2.map pstr).filter (!·.isEmpty)).length ≤ 8 := Nat.le_trans (List.length_filter_le _ _) (by rw [List.length_map]; exact h.num)
    have : ((x.2.2.map pstr).filter (!·.isEmpty)).length * (801 + [(59 : UInt8)].length) ≤ 8 * (801 + 1) := Nat.mul_le_mul hl (Nat.le_refl _)
    unfold propsStr
    omega
  have h3 := h.key
  have h4 := h.val
  unfold memStr memTail memOf
  simp only
  split
  · split
    · split
      · simp; omega
      · simp; omega
    · rename_i hh; exact absurd rfl hh
  · simp
end Go.Proofs.YtleofgndghjflaaGreatDoor

set_option linter.unusedVariables false
set_option linter.unusedSimpArgs false
namespace Go.Proofs.YtleofgndghjflaaGreatDoor
open Go Go.RowKit

set_option maxHeartbeats 8000000 in
set_option maxRecDepth 100000 in
theorem fnBagApart_any {ty ty2 : Bool} (v : Value) (rs : List RM) (b : Nat) (hb0 : b < 256) (w : World) (hw : Laid w) (h : RMRs ty ty2 w v rs) :
    Calls Tryz.prog 6 #[v, .int .u8 b] w (BoolPost true w) := by
  obtain ⟨A, c, rfl, hnc, hcm⟩ := h.shape
  have hz := zzFits7_any _ rs w h
  obtain ⟨fi, hfi⟩ : ∃ fi, fits7 rs = fi := ⟨_, rfl⟩
  rw [hfi] at hz
  clear hfi
  have H : Aside (RMRs ty ty2 w (.slice A rs.length c) rs) := h
  clear h
  go_enter Tryz.func6, Tryz.ntmps6
  go_wp2_with (go_at_fn 28; fail)
  refine hz.mono ?_
  rintro e w2 ⟨rfl, hb2⟩
  clear hz
  cases fi
  · go_wp2_with fail
    go_ret
    exact ⟨rfl, hb2⟩
  have hrt := bagRight_any _ rs w2 (H.out.below hb2)
  obtain ⟨ri, hri⟩ : ∃ ri, right rs = ri := ⟨_, rfl⟩
  rw [hri] at hrt
  go_wp2_with (go_at_fn 10; fail)
  refine hrt.mono ?_
  rintro e w3 ⟨rfl, hb3⟩
  have hb13 := below_then hb2 hb2.size hb3
  clear hrt hb3 hb2
  have haw := awake_any w3 (hw.below hb13)
  by_cases hgo : ri = true ∧ 0 < rs.length ∧ rs.length ≤ 39
  · obtain ⟨rfl, hl0, hl39⟩ := hgo
    obtain ⟨_, hall⟩ := right_ok hri
    have hz0 : ((rs.length : Int) == 0) = false := beq_eq_false_iff_ne.2 (by omega)
    have hz39 : ¬ (39 : Int) < (rs.length : Int) := by omega
    have hmrs := rmrs_mrs H.out hall
    obtain ⟨xs, hxs⟩ : ∃ xs, rs.map toSM = xs := ⟨_, rfl⟩
    have hxl : rs.length = xs.length := by rw [← hxs, List.length_map]
    have hso : ∀ x ∈ xs, SMok x := by
      intro x hx
      rw [← hxs] at hx
      obtain ⟨r, hr, rfl⟩ := List.mem_map.1 hx
      exact toSM_ok r (List.all_eq_true.1 hall r hr)
    rw [hxs] at hmrs
    rw [hxl] at hz0 hz39 hl0 hl39 hnc hmrs ⊢
    have M : Aside (MRs ty ty2 23 28 w (.slice A xs.length c) xs ∧ ∀ x ∈ xs, SMok x) := ⟨hmrs, hso⟩
    clear hmrs hso hxs hxl hri hall H
    go_upto_block 0 with fail
    go_cut [5, 6] (fun v5 v6 W => ∃ css, Below w.heap.size w W ∧ v6 = .int .i64 (wt (xs.map memOf)) ∧ W.ownsRow w.heap.size 66 4 v5 xs.length css.flatten ∧ All2 (SR W) css (sets xs) ∧ Aside (∀ x ∈ xs, okS x = true))
    case first =>
      go_wp2_with fail
      clear hz0 hz39
      go_loopg [5, 6, 37] (xs.length + 1) (fun gk v5 v6 i W => Below w.heap.size w W ∧ ∃ (k tot : Nat) (css : List (List Value)), i = .int .i64 k ∧ k ≤ xs.length ∧ k + gk = xs.length + 1 ∧ v6 = .int .i64 tot ∧ tot ≤ 20001 * k ∧ W.ownsRow w.heap.size 66 4 v5 k css.flatten ∧ All2 (SR W) css (sets (xs.take k)) ∧ Aside (tot = wt ((xs.take k).map memOf) ∧ ∀ x ∈ xs.take k, okS x = true))
      case atStart => exact ⟨hb13, 0, 0, [], rfl, by omega, by omega, rfl, by omega, own_nil _ _ _ _, trivial, rfl, by simp⟩
      case round =>
        clear haw hb13
        obtain ⟨hb, k, tot, css, rfl, hk, hg, rfl, htt, ho, hal, hX⟩ := hrel
        have hws := hb.size
        obtain ⟨OA, oc, rfl⟩ := own_shape ho
        by_cases hlt : k < xs.length
        · obtain ⟨x, hx⟩ : ∃ x, xs[k] = x := ⟨_, rfl⟩
          have hxo := M.out.2 x (by rw [← hx]; exact List.getElem_mem hlt)
          obtain ⟨bk, o, kb, vb, pA, pc, rfl, x0, x1, x2, hk1, hv1, hp1⟩ := (M.out.1.below hb).get k hlt x hx
          have TK : Aside (xs.take (k + 1) = xs.take k ++ [x] ∧ bs kb = x.1 ∧ bs vb = x.2.1 ∧ SMok x) := ⟨by rw [List.take_succ_eq_append_getElem hlt, hx], hk1, hv1, hxo⟩
          have hA1 : Below wr.heap.size wr (wr.alloc (.cells #[.string kb, .string vb, .slice pA x.2.2.length pc] 28)) := (Below.refl _ _).alloc (Nat.le_refl _) _
          have hq1 := heap_alloc_new wr (.cells #[.string kb, .string vb, .slice pA x.2.2.length pc] 28)
          obtain ⟨w4, hw4⟩ : ∃ w4, wr.alloc (.cells #[.string kb, .string vb, .slice pA x.2.2.length pc] 28) = w4 := ⟨_, rfl⟩
          rw [hw4] at hA1 hq1
          have hb4 := below_then hb hws hA1
          have hp4 := hp1.below hA1
          have ho4 := own_below (C := 0) ho hA1
          have hal4 := hal.imp (fun _ _ h => SR.below h hA1)
          have hmk := makeMemberS_any false kb vb (.slice pA x.2.2.length pc) x.2.2 w4 (hw.below hb4) (by rw [← bs_length, hk1]; have := hxo.key; omega) (by rw [← bs_length, hv1]; have := hxo.val; omega) hp4 (by have := hxo.num; omega) (fun p hp => (hxo.props p hp).mono (by omega))
          have hxe : (bs kb, bs vb, x.2.2) = x := by rw [hk1, hv1]
          rw [hxe, show how false = 0 from rfl] at hmk
          obtain ⟨Q, hQ⟩ : ∃ Q, madeMS false x = Q := ⟨_, rfl⟩
          have hQ1 : Q.1 = x := by rw [← hQ, madeMS_raw]
          have OK : Aside (okS x = Q.2) := by show _ = _; rw [← hQ]; rfl
          rw [hQ] at hmk
          obtain ⟨q1, q2⟩ := Q
          simp only at hQ1 OK
          subst hQ1
          obtain ⟨⟨c0, c1, c2⟩, _, _, _⟩ := row3 hq1
          clear hQ hxe hx hk1 hv1 hxo hp1 ho hal hA1
          go_wp2_with (go_at_fn 16; fail)
          refine hmk.mono ?_
          intro e w5 hpost
          obtain ⟨kb1, vb1, pA1, n1, pc1, rfl, hb5, hk5, hv5, rfl, hrd5⟩ := hpost
          simp only at hk5 hv5 hrd5 ⊢
          have hb15 := below_then hb4 hb4.size hb5
          have hq5 := (hb5.block _ (Array.getElem?_eq_some_iff.1 hq1).1).trans hq1
          have ho5 := own_below (C := 0) ho4 hb5
          have hal5 := hal4.imp (fun _ _ h => SR.below h hb5)
          have hp5 := hp4.below hb5
          have hA6 : Below w5.heap.size w5 (w5.alloc (.cells #[.string kb1, .string vb1, .slice pA1 q1.2.2.length pc1] 28)) := (Below.refl _ _).alloc (Nat.le_refl _) _
          have hq6 := heap_alloc_new w5 (.cells #[.string kb1, .string vb1, .slice pA1 q1.2.2.length pc1] 28)
          have hqq6 := row_alloc hq5 (.cells #[.string kb1, .string vb1, .slice pA1 q1.2.2.length pc1] 28)
          obtain ⟨w6, hw6⟩ : ∃ w6, w5.alloc (.cells #[.string kb1, .string vb1, .slice pA1 q1.2.2.length pc1] 28) = w6 := ⟨_, rfl⟩
          rw [hw6] at hA6 hq6 hqq6
          have hb6 := below_then hb15 hb15.size hA6
          have ho6 := own_below (C := 0) ho5 hA6
          have hal6 := hal5.imp (fun _ _ h => SR.below h hA6)
          have hp6 := hp5.below hA6
          have hrd6 := hrd5.below hA6
          clear hmk hb5 hq5 ho5 hal5 hp5 hrd5 hA6 hb15 hb4 hp4 ho4 hal4 hq1 hw4 c0 c1 c2
          cases q2
          · have haw6 := awake_any w6 (hw.below hb6)
            go_wp2_with (go_at_fn 11; fail)
            refine haw6.mono ?_
            rintro e w7 ⟨rfl, hb7⟩
            go_wp2_with fail
            go_ret
            exact ⟨rfl, below_then hb6 hb6.size hb7⟩
          · obtain ⟨⟨c0, c1, c2⟩, _, _, _⟩ := row3 hq6
            obtain ⟨⟨d0, d1, d2⟩, _, _, _⟩ := row3 hqq6
            have hmt := memberText_any kb1 vb1 (.slice pA1 q1.2.2.length pc1) q1.2.2 w6 (by rw [← bs_length, hk5]; have := TK.out.2.2.2.key; omega) (by rw [← bs_length, hv5]; have := TK.out.2.2.2.val; omega) hrd6 (by have := TK.out.2.2.2.num; omega) (fun p hp => (TK.out.2.2.2.props p hp).mono (by omega))
            have hml := memStr_small TK.out.2.2.2
            have hme : (⟨bs kb1, bs vb1, [], q1.2.2⟩ : Mem) = memOf q1 := by rw [hk5, hv5]; rfl
            rw [hme] at hmt
            obtain ⟨sb, hsb⟩ : ∃ sb : ByteArray, S (memStr (memOf q1)) = .string sb ∧ bs sb = memStr (memOf q1) := ⟨⟨(memStr (memOf q1)).toArray⟩, rfl, rfl⟩
            rw [hsb.1] at hmt
            have hsl : sb.size = (memStr (memOf q1)).length := by rw [← bs_length, hsb.2]
            have SL : Aside (sb.size = (memStr (memOf q1)).length) := hsl
            have hsz : sb.size ≤ 20000 := by omega
            clear hme hsb hsl hml hk5 hv5
            go_wp2_with (go_at_fn 21; fail)
            refine hmt.mono ?_
            rintro e w7 ⟨rfl, hb7⟩
            have hb17 := below_then hb6 hb6.size hb7
            have hq7 := (hb7.block _ (Array.getElem?_eq_some_iff.1 hqq6).1).trans hqq6
            have ho7 := own_below (C := 0) ho6 hb7
            have hal7 := hal6.imp (fun _ _ h => SR.below h hb7)
            have htm := toMember_any kb vb (.slice pA q1.2.2.length pc) q1.2.2 w7 (hp6.below hb7) (by have := TK.out.2.2.2.num; omega)
            clear hmt hb6 hqq6 hq6 ho6 hal6 hp6 hrd6 hb7 c0 c1 c2 d0 d1 d2 hw6
            obtain ⟨⟨d0, d1, d2⟩, _, _, _⟩ := row3 hq7
            go_wp2_with (go_at_fn 18; fail)
            refine htm.mono ?_
            intro e w8 hpost
            obtain ⟨pv8, rfl, hrd8, hb8⟩ := hpost
            obtain ⟨A8, c8, rfl, _, _⟩ := hrd8.shape
            have hb18 := below_then hb17 hb17.size hb8
            have ho8 := own_below (C := 0) ho7 hb8
            have hal8 := hal7.imp (fun _ _ h => SR.below h hb8)
            have hsr : SR w8 [.int .u8 0, .string kb, .string vb, .slice A8 q1.2.2.length c8] (0, q1) := ⟨kb, vb, _, rfl, TK.out.2.1, TK.out.2.2.1, hrd8⟩
            have hwb8 := hb18.size
            clear htm hb17 hq7 ho7 hal7 hb8 d0 d1 d2 hrd8
            go_wp2_with (at_builtin; go_must (refine wp_app (W := w8) w.heap.size rfl _ _ 64 rfl 66 _ 4 64 Tryz.underlying64 Tryz.info66 rfl (by decide) (.slice OA k oc) k _ [.int .u8 0, .string kb, .string vb, .slice A8 q1.2.2.length c8] rfl rfl rfl hsr.ones ho8 hwb8 (by omega) (by omega) ?_); intro v1 w9 ho9 hb9 hf9 hs9)
            go_wp2_with fail
            go_roundg (gk - 1)
            case rel =>
              refine ⟨hb18.trans hb9, k + 1, tot + (sb.size + 1), css ++ [[.int .u8 0, .string kb, .string vb, .slice A8 q1.2.2.length c8]], by go_num, by omega, by omega, by go_num, by omega, ?_, ?_, ?_⟩
              · rw [List.flatten_append]
                simpa using ho9
              · rw [TK.out.1, sets_snoc]
                exact (hal8.append (l' := [_]) (m' := [(0, q1)]) ⟨hsr, trivial⟩).imp (fun _ _ h => SR.fr h hf9 (by decide))
              · show _ = _ ∧ _
                rw [TK.out.1, List.map_append, List.map_cons, List.map_nil, wt_snoc, ← hX.out.1, SL.out]
                refine ⟨rfl, fun y hy => ?_⟩
                rcases List.mem_append.1 hy with hy | hy
                · exact hX.out.2 y hy
                · rw [List.mem_singleton.1 hy, OK.out]
            case measure => omega
        · have hkl : k = xs.length := by omega
          have hfin := hX.out
          rw [List.take_of_length_le (by omega)] at hal hfin
          go_wp2_with fail
          go_meet
          rw [hkl] at ho
          exact ⟨css, hb, by rw [← hfin.1], by rw [hkl]; exact ho, hal, hfin.2⟩
    case rest =>
      clear hb13 haw
      obtain ⟨css, hb, rfl, ho, hal, hOK⟩ := hcut
      obtain ⟨tot, htot⟩ : ∃ tot, wt (xs.map memOf) = tot := ⟨_, rfl⟩
      rw [htot]
      have hws := hb.size
      by_cases hbig : 8000 < tot
      · have hbz : (8000 : Int) < (tot : Int) := by omega
        have haw4 := awake_any wc (hw.below hb)
        go_wp2_with (go_at_fn 11; fail)
        refine haw4.mono ?_
        rintro e w7 ⟨rfl, hb7⟩
        go_wp2_with fail
        go_ret
        exact ⟨rfl, below_then hb hws hb7⟩
      · have hbz : ¬ (8000 : Int) < (tot : Int) := by omega
        have HT : Aside (wt (xs.map memOf) ≤ 8000) := by show _ ≤ _; omega
        clear hbig htot
        have hwb : IntKind.i64.wrap (b : Int) = b := by rw [IntKind.wrap_i64]; omega
        obtain ⟨j, hj⟩ : ∃ j, j = b % xs.length := ⟨_, rfl⟩
        have hjl : j < xs.length := by rw [hj]; exact Nat.mod_lt _ hl0
        have hmod : Int.tmod (b : Int) (xs.length : Int) = (j : Int) := by rw [hj]; rfl
        obtain ⟨x, hx⟩ : ∃ x, xs[j] = x := ⟨_, rfl⟩
        obtain ⟨bk, o, kb, vb, pA, pc, rfl, x0, x1, x2, hk1, hv1, hp1⟩ := (M.out.1.below hb).get j hjl x hx
        obtain ⟨OA, oc, rfl⟩ := own_shape ho
        have hsr : SR wc [.int .u8 1, .string kb, .string ⟨#[]⟩, .slice none 0 0] (1, (bs kb, [], [])) := ⟨kb, ⟨#[]⟩, _, rfl, rfl, rfl, Rd.nil _ _ _ _⟩
        have hkey : bs kb = xs[j].1 := by rw [hx]; exact hk1
        clear hx hk1 hv1 hp1 hj
        have hkey : Aside (bs kb = xs[j].1) := hkey
        go_wp2_with (at_builtin; go_must (refine wp_app (W := wc) w.heap.size rfl _ _ 64 rfl 66 _ 4 64 Tryz.underlying64 Tryz.info66 rfl (by decide) (.slice OA xs.length oc) xs.length _ [.int .u8 1, .string kb, .string ⟨#[]⟩, .slice none 0 0] rfl rfl rfl hsr.ones ho hws (by omega) (by omega) ?_); intro v1 w4 ho4 hb4 hf4 hs4)
        have hb14 := hb.trans hb4
        obtain ⟨K, hK⟩ : ∃ K, bs kb = K := ⟨_, rfl⟩
        have KK : Aside (bs kb = K) := hK
        rw [hK] at hsr
        have hsrs : SRs w4 v1 (sets xs ++ [(1, (K, [], []))]) := by
          refine ⟨css ++ [[.int .u8 1, .string kb, .string ⟨#[]⟩, .slice none 0 0]], ?_, (hal.append (l' := [_]) (m' := [(1, (K, [], []))]) ⟨hsr, trivial⟩).imp (fun _ _ h => SR.fr h hf4 (by decide))⟩
          have := Rd.of_own ho4
          rw [List.flatten_append]
          simpa [sets] using this
        have hbag := bag_any v1 _ w4 (hw.below hb14) hsrs (by simp [sets]; omega) (by
          intro s hs
          rcases List.mem_append.1 hs with hs | hs
          · obtain ⟨y, hy, rfl⟩ := List.mem_map.1 hs
            exact ⟨M.out.2 y hy, by simp⟩
          · rw [List.mem_singleton.1 hs]
            refine ⟨⟨?_, by simp, by simp, by simp⟩, by simp⟩
            have hxm := M.out.2 xs[j] (List.getElem_mem hjl)
            rw [← hK, hkey.out]
            exact hxm.key)
        obtain ⟨a1, a2, hr1, ha1, hr2, ha2⟩ := apart_plain xs (by intro e; rw [e] at hl0; simp at hl0) hOK.out K
        have hRl : (runBag (sets xs ++ [(1, (K, [], []))]) []).length = xs.length + 1 := by rw [runBag_len]; simp [sets]
        obtain ⟨R, hR⟩ : ∃ R, runBag (sets xs ++ [(1, (K, [], []))]) [] = R := ⟨_, rfl⟩
        rw [hR] at hbag hr1 hr2 hRl
        obtain ⟨A4, c4, rfl⟩ := own_shape ho4
        obtain ⟨N, hN⟩ : ∃ N, xs.length + 1 = N := ⟨_, rfl⟩
        rw [hN] at hRl hbag ⊢
        have Yl := foldW_len xs
        have Ys := foldW_srt xs
        have Yp : ∀ x ∈ foldW xs, x.2.2.length ≤ 100000 := fun x hx => by have := (M.out.2 x (foldW_mem xs x hx)).num; omega
        have hmbg := fun (v : Value) (W : World) (hW : Laid W) (h : MRs true true 32 42 W v xs) => makeBaggage_any v xs W hW h (by omega) M.out.2 hOK.out HT.out
        obtain ⟨Y, hY⟩ : ∃ Y, foldW xs = Y := ⟨_, rfl⟩
        rw [hY] at ha1 ha2 Yl Ys Yp hmbg
        obtain ⟨Z, hZ⟩ : ∃ Z, withoutMS K Y = Z := ⟨_, rfl⟩
        have Zl : Z.length ≤ Y.length := by rw [← hZ]; exact without_len K Y
        have Zp : ∀ x ∈ Z, x.2.2.length ≤ 100000 := fun x hx => Yp x (by rw [← hZ] at hx; exact (List.mem_filter.1 hx).1)
        rw [hZ] at ha2
        have PL : Aside (R[xs.length - 1]? = some a1 ∧ a1.2.2 = Y ∧ R[xs.length]? = some a2 ∧ a2.2.2 = Z ∧ withoutMS K Y = Z ∧ Srt Y ∧ (∀ x ∈ Y, x.2.2.length ≤ 100000) ∧ (∀ x ∈ Z, x.2.2.length ≤ 100000) ∧ R.length = xs.length + 1) := ⟨hr1, ha1, hr2, ha2, hZ, Ys, Yp, Zp, by rw [hRl, hN]⟩
        have NN : Aside (xs.length + 1 = N) := hN
        have hXp : ∀ x ∈ xs, x.2.2.length ≤ 100000 := fun x hx => by have := (M.out.2 x hx).num; omega
        have XP : Aside (∀ x ∈ xs, x.2.2.length ≤ 100000) := hXp
        clear hsrs hsr ho4 hal hf4 hs4 hb4 ho hr1 ha1 hr2 ha2 hZ Ys Yp Zp hXp hY hR hN hK hb css x0 x1 x2 hkey hOK HT hmod hwb hws hbz
        go_wp2_with (go_at_fn 29; fail)
        refine hbag.mono ?_
        intro e w5 hpost
        obtain ⟨v5, rfl, hars, hb5⟩ := hpost
        have hb15 := below_then hb14 hb14.size hb5
        obtain ⟨A5, c5, rfl, hnc5, hcm5⟩ := hars.shape
        have HA : Aside (ARs w5 (.slice A5 R.length c5) R) := hars
        rw [hRl] at hnc5 ⊢
        have hto := toMembers_any _ xs w5 (M.out.1.below hb15) (by omega) XP.out
        clear hbag hb14 hb5 hars hRl
        go_wp2_with (go_at_fn 31; fail)
        refine hto.mono ?_
        intro e w6 hpost
        obtain ⟨v6, rfl, hmr6, hb6⟩ := hpost
        have hb16 := below_then hb15 hb15.size hb6
        have hmb := hmbg v6 w6 (hw.below hb16) hmr6
        obtain ⟨A6, c6, rfl, _, _⟩ := hmr6.shape
        clear hto hmr6 hmbg
        go_wp2_with (go_at_fn 30; fail)
        refine hmb.mono ?_
        intro e w7 hpost
        obtain ⟨v7, n7, s7, rfl, hmr7, hb7⟩ := hpost
        have hb17 := below_then hb16 hb16.size hb7
        obtain ⟨A7, c7, rfl, hnc7, hcm7⟩ := hmr7.shape
        have haw7 := awake_any w7 (hw.below hb17)
        have h57 := below_then hb6 hb6.size hb7
        clear hmb hb16 hb6
        go_wp2_with (go_at_fn 11; fail)
        refine haw7.mono ?_
        rintro e w8 ⟨rfl, hb8⟩
        have hb18 := below_then hb17 hb17.size hb8
        have h58 := below_then h57 h57.size hb8
        have hmr8 := hmr7.below hb8
        clear haw7 hb17 hb7 h57 hmr7 hb15
        -- the answer behind the last member
        have hR1 : xs.length - 1 < R.length := (List.getElem?_eq_some_iff.1 PL.out.1).1
        obtain ⟨b5, o5, _, _, _, _, mA, mc, hA5, _, _, _, _, y4, _, hm1⟩ := (HA.out.below h58).get (xs.length - 1) hR1 a1 (List.getElem?_eq_some_iff.1 PL.out.1).2
        subst hA5
        have hR2 : xs.length < R.length := (List.getElem?_eq_some_iff.1 PL.out.2.2.1).1
        obtain ⟨b5', o5', _, _, _, _, mA2, mc2, hA5, _, _, _, _, z4, _, hm2⟩ := (HA.out.below h58).get xs.length hR2 a2 (List.getElem?_eq_some_iff.1 PL.out.2.2.1).2
        injection hA5 with hA5
        injection hA5 with hA5 hA6
        subst hA5 hA6
        rw [PL.out.2.1] at y4 hm1
        rw [PL.out.2.2.2.1] at z4 hm2
        obtain ⟨k1, hk1⟩ : ∃ k1, xs.length - 1 = k1 := ⟨_, rfl⟩
        rw [hk1] at y4
        have hsub : (xs.length : Int) - 1 = (k1 : Int) := by omega
        have hwk : IntKind.i64.wrap (k1 : Int) = (k1 : Int) := by rw [IntKind.wrap_i64]; omega
        have hk1N : k1 < N := by rw [← NN.out]; omega
        have hxN : xs.length < N := by rw [← NN.out]; omega
        have hk1N2 : (k1 : Int) < (N : Int) := by omega
        have hxN2 : (xs.length : Int) < (N : Int) := by omega
        have hof1 := ofMembers_any _ Y w8 hm1 (by omega) PL.out.2.2.2.2.2.2.1
        clear hR1 hR2 hk1
        go_wp2_with (go_at_fn 26; fail)
        refine hof1.mono ?_
        intro e w9 hpost
        obtain ⟨v9, rfl, hmr9, hb9⟩ := hpost
        have hb19 := below_then hb18 hb18.size hb9
        obtain ⟨A9, c9, rfl, _, _⟩ := hmr9.shape
        have z49 := cell_below hb9 z4
        have hm29 := hm2.below hb9
        have hmr89 := hmr8.below hb9
        have hof2 := ofMembers_any _ Y w9 hmr89 (by omega) PL.out.2.2.2.2.2.2.1
        clear hof1 hmr8 hm2 z4 hb18 hm1 y4
        go_wp2_with (go_at_fn 26; fail)
        refine hof2.mono ?_
        intro e wA hpost
        obtain ⟨vA, rfl, hmrA, hbA⟩ := hpost
        have hb1A := below_then hb19 hb19.size hbA
        obtain ⟨AA, cA, rfl, _, _⟩ := hmrA.shape
        have hsm := same_any _ _ Y Y wA (hmr9.below hbA) hmrA (by omega) (by omega) PL.out.2.2.2.2.2.2.1 PL.out.2.2.2.2.2.2.1
        rw [decide_eq_true rfl] at hsm
        have z4A := cell_below hbA z49
        have hm2A := hm29.below hbA
        have hmr8A := hmr89.below hbA
        clear hof2 hmr9 hmrA hmr89 hm29 z49 hb19 hb9 hbA
        go_wp2_with (go_at_fn 27; fail)
        refine hsm.mono ?_
        rintro e wB ⟨rfl, hbB⟩
        have hb1B := below_then hb1A hb1A.size hbB
        have z4B := cell_below hbB z4A
        have hm2B := hm2A.below hbB
        have hmr8B := hmr8A.below hbB
        have hof3 := ofMembers_any _ Z wB hm2B (by omega) PL.out.2.2.2.2.2.2.2.1
        clear hsm z4A hm2A hmr8A hb1A hbB
        go_wp2_with (go_at_fn 26; fail)
        refine hof3.mono ?_
        intro e wC hpost
        obtain ⟨vC, rfl, hmrC, hbC⟩ := hpost
        have hb1C := below_then hb1B hb1B.size hbC
        obtain ⟨AC, cC, rfl, _, _⟩ := hmrC.shape
        have hof4 := ofMembers_any _ Y wC (hmr8B.below hbC) (by omega) PL.out.2.2.2.2.2.2.1
        clear hof3 z4B hm2B hmr8B hb1B hbC
        go_wp2_with (go_at_fn 26; fail)
        refine hof4.mono ?_
        intro e wD hpost
        obtain ⟨vD, rfl, hmrD, hbD⟩ := hpost
        have hb1D := below_then hb1C hb1C.size hbD
        have hmrCD := hmrC.below hbD
        have hwo := without_any vD Y kb wD hmrD (by omega) PL.out.2.2.2.2.2.1
        rw [KK.out, PL.out.2.2.2.2.1] at hwo
        obtain ⟨AD, cD, rfl, _, _⟩ := hmrD.shape
        clear hof4 hmrC hmrD hb1C hbD
        go_wp2_with (go_at_fn 32; fail)
        refine hwo.mono ?_
        intro e wE hpost
        obtain ⟨vE, cssE, rfl, hownE, hallE, hbE⟩ := hpost
        have hb1E := below_then hb1D hb1D.size hbE
        have hmrE : MRs true true 23 28 wE vE Z := ⟨cssE, Rd.of_own hownE, hallE.imp (fun _ _ h => MR.below h hbE)⟩
        have hsm := same_any _ _ Z Z wE (hmrCD.below hbE) hmrE (by omega) (by omega) PL.out.2.2.2.2.2.2.2.1 PL.out.2.2.2.2.2.2.2.1
        rw [decide_eq_true rfl] at hsm
        obtain ⟨AE, cE, rfl, _, _⟩ := hmrE.shape
        clear hwo hmrCD hownE hallE hmrE hb1D hbE
        go_wp2_with (go_at_fn 27; fail)
        refine hsm.mono ?_
        rintro e wF ⟨rfl, hbF⟩
        go_wp2_with fail
        go_ret
        exact ⟨rfl, below_then hb1E hb1E.size hbF⟩
  · cases ri
    · go_wp2_with (go_at_fn 11; fail)
      refine haw.mono ?_
      rintro e w7 ⟨rfl, hb7⟩
      go_wp2_with fail
      go_ret
      exact ⟨rfl, below_then hb13 hb13.size hb7⟩
    · by_cases h0 : rs.length = 0
      · have hz0 : ((rs.length : Int) == 0) = true := by rw [beq_iff_eq]; omega
        clear hgo h0
        go_wp2_with (go_at_fn 11; fail)
        refine haw.mono ?_
        rintro e w7 ⟨rfl, hb7⟩
        go_wp2_with fail
        go_ret
        exact ⟨rfl, below_then hb13 hb13.size hb7⟩
      · have hz0 : ((rs.length : Int) == 0) = false := beq_eq_false_iff_ne.2 (by omega)
        have hz39 : (39 : Int) < (rs.length : Int) := by
          have : ¬ (rs.length ≤ 39) := fun h => hgo ⟨rfl, by omega, h⟩
          omega
        clear hgo h0
        go_wp2_with (go_at_fn 11; fail)
        refine haw.mono ?_
        rintro e w7 ⟨rfl, hb7⟩
        go_wp2_with fail
        go_ret
        exact ⟨rfl, below_then hb13 hb13.size hb7⟩
end Go.Proofs.YtleofgndghjflaaGreatDoor

set_option linter.unusedVariables false
set_option linter.unusedSimpArgs false
namespace Go.Proofs.YtleofgndghjflaaGreatDoor
open Go Go.RowKit Go.Deep Go.WideShapes

variable {H : Type} {enc : TypeId × Value → H} {W : World}
abbrev R3 := ByteArray × ByteArray × Option Addr × Nat × Nat
def r3cells (r : R3) : List Value := [.string r.1, .string r.2.1, .slice r.2.2.1 r.2.2.2.1 r.2.2.2.2]
theorem r3cells_len (r : R3) : (r3cells r).length = 3 := rfl
set_option maxRecDepth 100000 in
theorem open_member {fuel : Nat} {cs : List Value} {x : DataW H × List MemPlace} (hf : DataW.trod enc Tryz.prog W 0 (fun _ => true) true fuel 28 cs = some x) :
    ∃ r : R3, cs = r3cells r ∧ ∃ rs : List RP, r.2.2.2.1 = rs.length ∧ Rd false W 23 (.slice r.2.2.1 rs.length r.2.2.2.2) rs.length 3 (rs.flatMap rcells) := by
  obtain ⟨y0, y1, y2, n, _, hl, h0, h1, h2⟩ := trod_struct3 Tryz.underlying28 hf
  rw [Tryz.cells28] at hl
  obtain ⟨a, b, c, rfl⟩ := three_of hl
  simp only [Tryz.cells9, Tryz.cells26, List.drop_zero, List.take_succ_cons, List.take_zero, List.drop_succ_cons] at h0 h1 h2
  obtain ⟨k, e0, _⟩ := DataW.trod_string Tryz.underlying9 h0
  obtain ⟨v, e1, _⟩ := DataW.trod_string Tryz.underlying9 h1
  obtain ⟨A, m, rs, e2, hrd⟩ := open_props h2
  simp only [List.cons.injEq, and_true] at e0 e1 e2
  subst e0 e1 e2
  exact ⟨(k, v, A, rs.length, m), rfl, rs, rfl, hrd⟩
theorem rms_of : ∀ (l : List R3), (∀ r ∈ l, ∃ (fuel : Nat) (x : DataW H × List MemPlace), DataW.trod enc Tryz.prog W 0 (fun _ => true) true fuel 28 (r3cells r) = some x) →
    ∃ rs : List RM, rs.length = l.length ∧ All2 (RMR false W) (l.map r3cells) rs
  | [], _ => ⟨[], rfl, trivial⟩
  | r :: l, h => by
    obtain ⟨rs, h1, h2⟩ := rms_of l (fun q hq => h q (by simp [hq]))
    obtain ⟨fuel, x, hx⟩ := h r (by simp)
    obtain ⟨q, hq, ps, hn, hp⟩ := open_member hx
    obtain ⟨k, v, A, n, m⟩ := r
    obtain ⟨k', v', A', n', m'⟩ := q
    simp only [r3cells, List.cons.injEq, Value.string.injEq, Value.slice.injEq, and_true] at hq
    obtain ⟨rfl, rfl, rfl, rfl, rfl⟩ := hq
    simp only at hn hp
    subst hn
    exact ⟨(k, v, ps) :: rs, by simp [h1], ⟨_, rfl, hp⟩, h2⟩
theorem flat_map (l : List R3) : l.flatMap r3cells = (l.map r3cells).flatten := by rw [List.flatMap_def]
set_option maxRecDepth 100000 in
theorem open_members {fuel : Nat} {cs : List Value} {x : DataW H × List MemPlace} (hf : DataW.trod enc Tryz.prog W 0 (fun _ => true) true fuel 55 cs = some x) :
    ∃ A c, ∃ rs : List RM, cs = [.slice A rs.length c] ∧ RMRs false false W (.slice A rs.length c) rs := by
  have he : ∀ (fuel : Nat) (cs : List Value) (x : DataW H × List MemPlace), DataW.trod enc Tryz.prog W 0 (fun _ => true) true fuel 28 cs = some x → ∃ r : R3, cs = r3cells r ∧ True := fun fuel cs x h => by
    obtain ⟨r, hr, _⟩ := open_member h
    exact ⟨r, hr, trivial⟩
  obtain ⟨A, c, l, h1, h2, h3⟩ := open_three (enc := enc) (W := W) (α := R3) r3cells r3cells_len (t := 55) (e := 28) Tryz.underlying55 Tryz.cells28 he hf
  obtain ⟨rs, h4, h5⟩ := rms_of l h3
  refine ⟨A, c, rs, by rw [h4]; exact h1, l.map r3cells, ?_, h5⟩
  rw [h4, ← flat_map]
  exact h2
set_option maxRecDepth 100000 in
theorem open_members_arg {v : Value} {d : DataW H} {p : List MemPlace} (hv : Value.okWide Tryz.prog W .any 0 55 v) (h : DataW.Trod enc Tryz.prog W 0 (fun _ => true) true 55 v d p) : ∃ rs : List RM, RMRs false false W v rs := by
  obtain ⟨a, n, c, rfl⟩ := okWide_slice Tryz.underlying55 hv
  obtain ⟨fuel, hf⟩ := h
  obtain ⟨A, c', rs, h1, h2⟩ := open_members hf
  have h1 : [Value.slice a n c] = [.slice A rs.length c'] := h1
  simp only [List.cons.injEq, and_true] at h1
  rw [h1]
  exact ⟨rs, h2⟩
end Go.Proofs.YtleofgndghjflaaGreatDoor
