/- Contracts of the functions of this claim, proved once, joined out of smaller texts: T8 T9 U0 U1. -/
import Derived.Test.YtleofgndghjflaaGreatDoorY3
set_option linter.unusedVariables false
set_option linter.unusedSimpArgs false
namespace Go.Proofs.YtleofgndghjflaaGreatDoor
open Go Go.RowKit

def All2 {α β : Type} (R : α → β → Prop) : List α → List β → Prop
  | [], [] => True
  | a :: r, b :: s => R a b ∧ All2 R r s
  | _, _ => False
theorem All2.length {α β : Type} {R : α → β → Prop} : ∀ {l : List α} {m : List β}, All2 R l m → l.length = m.length
  | [], [], _ => rfl
  | _ :: _, _ :: _, h => by simp [All2.length h.2]
  | [], _ :: _, h => h.elim
  | _ :: _, [], h => h.elim
theorem All2.imp {α β : Type} {R R' : α → β → Prop} (hR : ∀ a b, R a b → R' a b) : ∀ {l : List α} {m : List β}, All2 R l m → All2 R' l m
  | [], [], _ => trivial
  | _ :: _, _ :: _, h => ⟨hR _ _ h.1, All2.imp hR h.2⟩
  | [], _ :: _, h => h.elim
  | _ :: _, [], h => h.elim
theorem All2.append {α β : Type} {R : α → β → Prop} : ∀ {l : List α} {m : List β} {l' : List α} {m' : List β}, All2 R l m → All2 R l' m' → All2 R (l ++ l') (m ++ m')
  | [], [], _, _, _, h => h
  | _ :: _, _ :: _, _, _, h, h' => ⟨h.1, All2.append h.2 h'⟩
  | [], _ :: _, _, _, h, _ => h.elim
  | _ :: _, [], _, _, h, _ => h.elim
theorem All2.perm {α β : Type} {R : α → β → Prop} {l l' : List α} (hp : l.Perm l') : ∀ {m : List β}, All2 R l m → ∃ m', m.Perm m' ∧ All2 R l' m' := by
  induction hp with
  | nil => intro m h; exact ⟨m, List.Perm.refl _, h⟩
  | cons x _ ih =>
    intro m h
    match m, h with
    | y :: m, h =>
      obtain ⟨m', h1, h2⟩ := ih h.2
      exact ⟨y :: m', h1.cons y, h.1, h2⟩
  | swap x y l =>
    intro m h
    match m, h with
    | a :: b :: m, h => exact ⟨b :: a :: m, List.Perm.swap _ _ _, h.2.1, h.1, h.2.2⟩
  | trans _ _ ih1 ih2 =>
    intro m h
    obtain ⟨m', h1, h2⟩ := ih1 h
    obtain ⟨m'', h3, h4⟩ := ih2 h2
    exact ⟨m'', h1.trans h3, h4⟩

/-- An entry of a baggage's map. -/
def ItemAt (w : World) (p : KV) (m : Mem) : Prop :=
  ∃ vb mb iv, p.2 = .agg #[.string vb, .string mb, iv] ∧ bs p.1 = m.key ∧ bs vb = m.val ∧ bs mb = m.meta' ∧ Rd true w 235 iv m.props.length 3 (m.props.flatMap pcells)
theorem ItemAt.below {w w' : World} {p : KV} {m : Mem} (h : ItemAt w p m) (hb : Below w.heap.size w w') : ItemAt w' p m := by
  obtain ⟨vb, mb, iv, h1, h2, h3, h4, h5⟩ := h
  exact ⟨vb, mb, iv, h1, h2, h3, h4, h5.below hb⟩
theorem ItemAt.fr {w w' : World} {p : KV} {m : Mem} {e : TypeId} (h : ItemAt w p m) (hf : Fr e w w') (hne : 235 ≠ e) : ItemAt w' p m := by
  obtain ⟨vb, mb, iv, h1, h2, h3, h4, h5⟩ := h
  exact ⟨vb, mb, iv, h1, h2, h3, h4, h5.fr hf hne⟩
/-- What a write to a map's block leaves: rows stay. -/
theorem Rd.grownMap {w w' : World} {t : TypeId} {v : Value} {n sz : Nat} {xs : List Value} {b : Nat} {L : List KV} (h : Rd true w t v n sz xs) (hm : MapAt w b L) (hg : w.grownBy w' (some b)) : Rd true w' t v n sz xs := by
  obtain ⟨A, c, h1, h2, h3, h4, h5⟩ := h
  refine ⟨A, c, h1, h2, h3, h4, h5.imp id fun ⟨k, o, k1, k2, k3⟩ => ?_⟩
  obtain ⟨cs, fr, hc⟩ := k3 rfl
  have hkb : k ≠ b := by
    intro e
    subst e
    obtain ⟨es, clock, hh, _⟩ := hm
    rw [hc] at hh
    cases hh
  have hk := hg.block k (Array.getElem?_eq_some_iff.1 hc).1 (by simpa using hkb)
  exact ⟨k, o, k1, fun j u hj => cell_keep hk (k2 j u hj), fun _ => ⟨cs, fr, hk.trans hc⟩⟩
theorem ItemAt.grownMap {w w' : World} {p : KV} {m : Mem} {b : Nat} {L : List KV} (h : ItemAt w p m) (hm : MapAt w b L) (hg : w.grownBy w' (some b)) : ItemAt w' p m := by
  obtain ⟨vb, mb, iv, h1, h2, h3, h4, h5⟩ := h
  exact ⟨vb, mb, iv, h1, h2, h3, h4, h5.grownMap hm hg⟩
theorem MapAt.grownMap {w w' : World} {b c : Nat} {L : List KV} (h : MapAt w c L) (hne : c ≠ b) (hg : w.grownBy w' (some b)) : MapAt w' c L := h.block (hg.block _ h.lt (by simpa using hne))

/-- A baggage's map: its members in the order in which they came. -/
def BagAt (w : World) (b : Nat) (ms : List Mem) : Prop := ∃ L, MapAt w b L ∧ All2 (ItemAt w) L ms
def BagVal (w : World) (v : Value) (ms : List Mem) : Prop := (v = .map none ∧ ms = []) ∨ ∃ b, v = .map (some b) ∧ BagAt w b ms

def hasM (k : List UInt8) (ms : List Mem) : Bool := ms.any fun x => decide (x.key = k)
def putM (m : Mem) : List Mem → List Mem
  | [] => [m]
  | x :: r => if x.key = m.key then m :: r else x :: putM m r
theorem bs_inj {a b : ByteArray} (h : bs a = bs b) : a = b := by
  cases a
  cases b
  simp only [bs] at h
  congr 1
  exact Array.toList_inj.1 h
theorem key_eq (a b : ByteArray) : (a == b) = decide (bs b = bs a) := by
  by_cases h : bs b = bs a
  · rw [bs_inj h, ba_self]
    simp
  · rw [decide_eq_false h]
    by_cases h' : (a == b) = true
    · rw [ba_eq h'] at h
      exact absurd rfl h
    · simpa using h'
theorem asc_has {w : World} (k : ByteArray) : ∀ (L : List KV) (ms : List Mem), All2 (ItemAt w) L ms → (asc L k).isSome = hasM (bs k) ms
  | [], [], _ => rfl
  | p :: L, m :: ms, h => by
    obtain ⟨vb, mb, iv, h1, h2, _⟩ := h.1
    unfold asc fnd hasM
    rw [List.any_cons, ← h2, key_eq]
    by_cases hk : bs p.1 = bs k
    · simp [hk]
    · simp only [hk, decide_false, Bool.false_eq_true, if_false, Bool.false_or]
      rw [fnd_shift]
      have := asc_has k L ms h.2
      unfold asc hasM at this
      rw [← this]
      cases fnd k L 0 <;> rfl
  | [], _ :: _, h => h.elim
  | _ :: _, [], h => h.elim
theorem put_put {w : World} (k : ByteArray) (v : Value) (m : Mem) (hk : bs k = m.key) (hi : ∀ k', bs k' = m.key → ItemAt w (k', v) m) : ∀ (L : List KV) (ms : List Mem), All2 (ItemAt w) L ms → All2 (ItemAt w) (putL k v L) (putM m ms)
  | [], [], _ => ⟨hi k hk, trivial⟩
  | p :: L, x :: ms, h => by
    obtain ⟨vb, mb, iv, h1, h2, _⟩ := h.1
    unfold putL putM
    rw [key_eq, ← hk, ← h2]
    by_cases hpk : bs p.1 = bs k
    · simp only [hpk, decide_true, if_true]
      exact ⟨hi _ (by rw [hpk, hk]), h.2⟩
    · simp only [hpk, decide_false, Bool.false_eq_true, if_false]
      exact ⟨h.1, put_put k v m hk hi L ms h.2⟩
  | [], _ :: _, h => h.elim
  | _ :: _, [], h => h.elim

/-- The sizes that Parse keeps. -/
def SizeAt (p : KV) (q : List UInt8 × Int) : Prop := bs p.1 = q.1 ∧ p.2 = .int .i64 q.2
def getS (k : List UInt8) : List (List UInt8 × Int) → Option Int
  | [] => none
  | x :: r => if x.1 = k then some x.2 else getS k r
def putS (k : List UInt8) (n : Int) : List (List UInt8 × Int) → List (List UInt8 × Int)
  | [] => [(k, n)]
  | x :: r => if x.1 = k then (x.1, n) :: r else x :: putS k n r
theorem asc_size (k : ByteArray) : ∀ (L : List KV) (q : List (List UInt8 × Int)), All2 SizeAt L q → asc L k = (getS (bs k) q).map (Value.int .i64)
  | [], [], _ => rfl
  | p :: L, x :: q, h => by
    unfold asc fnd getS
    rw [key_eq, ← h.1.1]
    by_cases hk : bs p.1 = bs k
    · simp [hk, h.1.2]
    · simp only [hk, decide_false, Bool.false_eq_true, if_false]
      rw [fnd_shift, ← asc_size k L q h.2]
      unfold asc
      cases fnd k L 0 <;> rfl
  | [], _ :: _, h => h.elim
  | _ :: _, [], h => h.elim
theorem put_size (k : ByteArray) (n : Int) : ∀ (L : List KV) (q : List (List UInt8 × Int)), All2 SizeAt L q → All2 SizeAt (putL k (.int .i64 n) L) (putS (bs k) n q)
  | [], [], _ => ⟨⟨rfl, rfl⟩, trivial⟩
  | p :: L, x :: q, h => by
    unfold putL putS
    rw [key_eq, ← h.1.1]
    by_cases hk : bs p.1 = bs k
    · simp only [hk, decide_true, if_true]
      exact ⟨⟨hk, rfl⟩, h.2⟩
    · simp only [hk, decide_false, Bool.false_eq_true, if_false]
      exact ⟨h.1, put_size k n L q h.2⟩
  | [], _ :: _, h => h.elim
  | _ :: _, [], h => h.elim

/-- Where Parse stands: the members so far, their sizes, the sum of these, how many parts were wrong, and whether anything is told as an error. -/
structure PS where
  ms : List Mem
  sz : List (List UInt8 × Int)
  tot : Int
  pe : Int
  bad : Bool
def toMem (x : List UInt8 × List UInt8 × List UInt8) : Mem := ⟨x.1, x.2.1, x.2.2, []⟩
def memSize (s : PS) (m : Mem) : Int := (memStr m).length + (if !hasM m.key s.ms && !s.ms.isEmpty then 1 else 0)
def newTot (s : PS) (m : Mem) : Int := match getS m.key s.sz with | some o => s.tot - o + memSize s m | none => s.tot + memSize s m
/-- One part: none: Parse stops here. -/
def parseGo : List (List UInt8) → PS → PS
  | [], s => s
  | p :: r, s =>
    if 64 ≤ s.ms.length then { s with bad := true }
    else match parseM p with
      | none => parseGo r { s with pe := s.pe + 1, bad := true }
      | some x =>
        if 8192 < newTot s (toMem x) then { s with bad := true }
        else parseGo r ⟨putM (toMem x) s.ms, putS x.1 (memSize s (toMem x)) s.sz, newTot s (toMem x), s.pe, s.bad⟩
def ps0 : PS := ⟨[], [], 0, 0, false⟩
/-- Parse: the members, and whether an error is told. -/
def parseB (l : List UInt8) : List Mem × Bool :=
  if l.isEmpty then ([], false)
  else if 8192 < l.length then ([], true)
  else ((parseGo (splitL 44 l) ps0).ms, (parseGo (splitL 44 l) ps0).bad)

theorem fold_len : ∀ (ps : List (List UInt8)) (acc : List UInt8), (ps.foldl nstep acc).length ≤ acc.length + lensum ps
  | [], acc => by simp [lensum]
  | p :: ps, acc => by
    rw [List.foldl_cons]
    have h1 := fold_len ps (nstep acc p)
    have h2 := nstep_len acc p
    have h3 : lensum (p :: ps) = p.length + 1 + lensum ps := by simp [lensum]
    omega
theorem normL_len (l : List UInt8) : (normL l).length ≤ l.length + 1 := by
  have h1 := fold_len (splitL 59 l) []
  rw [split_lensum] at h1
  unfold normL
  simpa using h1
theorem repL_len : ∀ (n : Nat) (l : List UInt8), l.length ≤ n → (repL n l).length ≤ 4 * l.length
  | 0, l, h => by simp [repL]
  | n + 1, l, h => by
    unfold repL
    split
    · simp
    · rename_i hne
      have hw := Lib.decodeL_width l
      have hl : 0 < l.length := List.length_pos_iff.2 hne
      have h1 := repL_len n (l.drop (Lib.decodeL l).2) (by rw [List.length_drop]; omega)
      have h2 := encRune_len ((Lib.decodeL l).1 : Int)
      rw [List.length_append]
      rw [List.length_drop] at h1
      omega
theorem fixU_len (l : List UInt8) : (fixU l).length ≤ 4 * l.length := by
  unfold fixU
  split
  · omega
  · exact repL_len _ l (Nat.le_refl _)
theorem parseM_len (l : List UInt8) (x : List UInt8 × List UInt8 × List UInt8) (h : parseM l = some x) : x.1.length ≤ l.length ∧ x.2.1.length ≤ 4 * l.length ∧ x.2.2.length ≤ l.length + 1 := by
  unfold parseM at h
  have h1 := cut1_len 59 l
  have h2 := cut1_len 61 (cut1 59 l).1
  split at h
  · cases h
  · split at h
    · cases h
    · split at h
      · cases h
      · split at h
        · cases h
        · obtain ⟨u, hu, rfl⟩ := Option.map_eq_some_iff.1 h
          have h3 := trim_le (cut1 61 (cut1 59 l).1).1
          have h4 := trim_le (cut1 61 (cut1 59 l).1).2.1
          have h5 := unesc_le hu
          have h6 := fixU_len u
          have h7 := normL_len (cut1 59 l).2.1
          refine ⟨?_, ?_, ?_⟩
          · simp only; omega
          · simp only; omega
          · simp only
            split
            · omega
            · simp
end Go.Proofs.YtleofgndghjflaaGreatDoor

set_option linter.unusedVariables false
set_option linter.unusedSimpArgs false
namespace Go.Proofs.YtleofgndghjflaaGreatDoor
open Go Go.RowKit

def ErrIs (v : Value) (bad : Bool) : Prop := (bad = false ∧ v = .nilIface) ∨ (bad = true ∧ ∃ y, v = .iface 201 (.pointer (some y)))
def JPost (w : World) (e : Ending) (w' : World) : Prop := (∃ z, e = .returned (.iface 201 (.pointer (some z)))) ∧ w' = w
theorem zzJoin_err {a : Value} {bad : Bool} (ha : ErrIs a bad) (y : Addr) (w : World) : Calls Tryz.prog 94 #[a, .iface 201 (.pointer (some y))] w (JPost w) := by
  rcases ha with ⟨_, rfl⟩ | ⟨_, z, rfl⟩
  · exact (zzJoin_nil _ w).mono fun e w' h => ⟨⟨y, h.1⟩, h.2⟩
  · exact (zzJoin_some z _ w).mono fun e w' h => ⟨⟨z, h.1⟩, h.2⟩
theorem row1 {w : World} {g : Nat} {a : Value} {t : TypeId} (h : w.heap[g]? = some (.cells #[a] t (0, 0))) : w.cell? ⟨g, 0, none⟩ = some a ∧ w.frozen? ⟨g, 0, none⟩ = false := by
  refine ⟨?_, ?_⟩
  · rw [cell_of_row _ _ _ _ _ _ h]; rfl
  · simp [World.frozen?, h]

theorem asc_agg {w : World} (k : ByteArray) : ∀ (L : List KV) (ms : List Mem), All2 (ItemAt w) L ms → ∃ a b A n c, (asc L k).getD (.agg #[.string ⟨#[]⟩, .string ⟨#[]⟩, .slice none 0 0]) = .agg #[.string a, .string b, .slice A n c]
  | [], [], _ => ⟨⟨#[]⟩, ⟨#[]⟩, none, 0, 0, rfl⟩
  | p :: L, m :: ms, h => by
    obtain ⟨vb, mb, iv, h1, _, _, _, h5⟩ := h.1
    obtain ⟨A, c, rfl, _⟩ := h5.shape
    unfold asc fnd
    by_cases hk : k == p.1
    · simp only [hk, if_true, Option.map_some, Option.getD_some, h1]
      exact ⟨_, _, _, _, _, rfl⟩
    · simp only [Bool.not_eq_true] at hk
      simp only [hk, Bool.false_eq_true, if_false]
      rw [fnd_shift]
      have := asc_agg k L ms h.2
      unfold asc at this
      simpa [Option.map_map, Function.comp_def] using this
  | [], _ :: _, h => h.elim
  | _ :: _, [], h => h.elim
theorem memStr_le (x : List UInt8 × List UInt8 × List UInt8) : (memStr (toMem x)).length ≤ x.1.length + 3 * x.2.1.length + x.2.2.length + 2 := by
  have h := enc_le x.2.1
  unfold memStr memTail toMem
  split
  · split
    · simp; omega
    · simp; omega
  · simp
theorem getS_mem (k : List UInt8) : ∀ (q : List (List UInt8 × Int)) (o : Int), getS k q = some o → ∃ x ∈ q, x.2 = o
  | [], _, h => by simp [getS] at h
  | x :: r, o, h => by
    unfold getS at h
    split at h
    · injection h with h
      exact ⟨x, by simp, h⟩
    · obtain ⟨y, hy, hy2⟩ := getS_mem k r o h
      exact ⟨y, by simp [hy], hy2⟩
theorem putS_mem (k : List UInt8) (n : Int) : ∀ (q : List (List UInt8 × Int)) (x : List UInt8 × Int), x ∈ putS k n q → x.2 = n ∨ x ∈ q
  | [], x, h => by simp [putS] at h; left; rw [h]
  | y :: r, x, h => by
    unfold putS at h
    split at h
    · rcases List.mem_cons.1 h with rfl | h
      · exact .inl rfl
      · exact .inr (by simp [h])
    · rcases List.mem_cons.1 h with rfl | h
      · exact .inr (by simp)
      · rcases putS_mem k n r x h with h | h
        · exact .inl h
        · exact .inr (by simp [h])
theorem ItemAt.fr2 {w w' : World} {p : KV} {m : Mem} {e f : TypeId} (h : ItemAt w p m) (hf : Fr2 e f w w') (hne : 235 ≠ e) (hnf : 235 ≠ f) : ItemAt w' p m := by
  obtain ⟨vb, mb, iv, h1, h2, h3, h4, h5⟩ := h
  exact ⟨vb, mb, iv, h1, h2, h3, h4, h5.fr2 hf hne hnf⟩
def ParseBPost (R : List Mem × Bool) (w : World) (e : Ending) (w' : World) : Prop :=
  ∃ mv er, e = .returned (.tuple #[.agg #[mv], er]) ∧ BagVal w' mv R.1 ∧ ErrIs er R.2 ∧ Below w.heap.size w w'
theorem run_mm (t : TypeId) : ∀ W : World, (Instr.makeMap t none).run Tryz.prog W = .ok (.map (some W.heap.size)) (W.alloc (.map #[] 0)) := fun W => run_makeMap t W

set_option maxHeartbeats 4000000 in
set_option maxRecDepth 100000 in
theorem Parse_any (s : ByteArray) (w : World) (hw : Laid w) (hs : s.size ≤ 1000000) :
    Calls Tryz.prog 54 #[.string s] w (ParseBPost (parseB (bs s)) w) := by
  obtain ⟨R, hR⟩ : ∃ R, parseB (bs s) = R := ⟨_, rfl⟩
  have A : Aside (parseB (bs s) = R) := hR
  rw [hR]
  clear hR
  have hb0 : Below w.heap.size w (w.alloc (.cells #[.map none] 117)) := (Below.refl _ _).alloc (Nat.le_refl _) _
  have hp0 : (w.alloc (.cells #[.map none] 117)).heap[w.heap.size]? = some (.cells #[.map none] 117 (0, 0)) := heap_alloc_new _ _
  cases he : s.toList.isEmpty
  · by_cases hbig : 8192 < s.size
    · have hbz : (8192 : Int) < s.size := by omega
      have hgl : 0 < w.heap.size := by
        obtain ⟨b, hb⟩ := hw.errs 0 (by omega)
        exact lt_of_cell hb
      have X : Aside (R = ([], true)) := by
        show _ = _
        rw [← A.out, parseB, ← toList_empty, he, bs_length, if_pos hbig]
        rfl
      clear A
      go_enter Tryz.func54, Tryz.ntmps54
      go_wp2_with fail
      obtain ⟨w1, hw1⟩ : ∃ w1, w.alloc (.cells #[.map none] 117) = w1 := ⟨_, rfl⟩
      rw [hw1] at hb0 hp0 ⊢
      clear hw1
      obtain ⟨c0, f0⟩ := row1 hp0
      obtain ⟨ea, hea⟩ := (hw.below hb0).errs 0 (by omega)
      have hne : ¬ w.heap.size = 0 := by omega
      have hne2 : ¬ 0 = w.heap.size := by omega
      go_region_held3 (fun W => W.cell? ⟨0, 0, none⟩ = some (.iface 201 (.pointer (some ea)))) ((first | (with_reducible assumption) | (simp (disch := (first | omega | (simp only [World.size_alloc, World.size_setCell, World.size_drew]; omega))) only [cellg_set, cellg_alloc, cellg_drew]; first | done | (with_reducible assumption)))) (fail)
      all_goals
        go_wp2_with fail
        (try simp only [Exit.inBlock, Exit.then]); refine bodyPost_ret (ret_cell_tmp rfl rfl (row_drew (row_set hp0 0 _)) Tryz.underlying117 rfl (by kernel_rfl)) rfl ?_
        exact ⟨_, _, rfl, .inl ⟨rfl, by rw [X.out]⟩, .inr ⟨by rw [X.out], _, rfl⟩, (hb0.setCell (Nat.le_refl _) _).drew⟩
    · have hbz : ¬ (8192 : Int) < s.size := by omega
      have X : Aside (R = ((parseGo (splitL 44 (bs s)) ps0).ms, (parseGo (splitL 44 (bs s)) ps0).bad)) := by
        show _ = _
        rw [← A.out, parseB, ← toList_empty, he, bs_length, if_neg hbig]
        rfl
      clear A
      have hmk1 := run_mm 115
      have hmk2 := run_mm 152
      obtain ⟨w2, hw2⟩ : ∃ w2, ((w.alloc (.cells #[.map none] 117)).alloc (.map #[] 0)).alloc (.map #[] 0) = w2 := ⟨_, rfl⟩
      have hsp := zzSplit_any 44 s ⟨#[44]⟩ w2 hs rfl
      have hz0 : (w.alloc (.cells #[.map none] 117)).heap.size = w.heap.size + 1 := by simp
      have hz1 : ((w.alloc (.cells #[.map none] 117)).alloc (.map #[] 0)).heap.size = w.heap.size + 1 + 1 := by simp
      have hb2 : Below w.heap.size w w2 := by rw [← hw2]; exact (hb0.alloc hb0.size _).alloc (by simp <;> omega) _
      have hp2 : w2.heap[w.heap.size]? = some (.cells #[.map none] 117 (0, 0)) := by rw [← hw2]; exact row_alloc (row_alloc hp0 _) _
      have hM1 : MapAt w2 (w.heap.size + 1) [] := by
        rw [← hw2, ← hz0]
        exact (MapAt.made _).below ((Below.refl _ _).alloc (Nat.le_refl _) _)
      have hM2 : MapAt w2 (w.heap.size + 1 + 1) [] := by
        rw [← hw2, ← hz1]
        exact MapAt.made _
      clear hz0 hz1 hb0 hp0
      go_enter Tryz.func54, Tryz.ntmps54
      go_wp2_with (go_at_fn 93; fail)
      refine hsp.mono ?_
      intro e w3 hpost
      obtain ⟨v, rfl, hrd, hbel⟩ := hpost
      have hb3 : Below w.heap.size w w3 := below_then hb2 hb2.size hbel
      have hp3 := (hbel.block _ (Array.getElem?_eq_some_iff.1 hp2).1).trans hp2
      have hM13 := hM1.below hbel
      have hM23 := hM2.below hbel
      clear hsp hbel hM1 hM2 hb2 hp2 hw2 hmk1 hmk2
      obtain ⟨ps, hps⟩ : ∃ ps, splitL 44 (bs s) = ps := ⟨_, rfl⟩
      have hne : 0 < ps.length := by rw [← hps]; exact List.length_pos_iff.2 (splitL_ne 44 _)
      have hsm := split_lensum 44 (bs s)
      have hln := splitL_len 44 (bs s)
      rw [hps, bs_length] at hsm hln
      rw [hps] at hrd X
      clear hps
      obtain ⟨bk, o, c, rfl, hnc, hcm, _⟩ := hrd.cells hne
      go_upto_block 0 with fail
      go_cut [8, 9] (fun v8 v9 W => ∃ st : PS, v8 = .int .i64 st.pe ∧ -100000000 ≤ st.pe ∧ st.pe ≤ 100000000 ∧ (5 < st.pe → st.bad = true) ∧ ErrIs v9 st.bad ∧ R = (st.ms, st.bad) ∧ Below w.heap.size w W ∧ W.heap[w.heap.size]? = some (.cells #[.map none] 117 (0, 0)) ∧ BagAt W (w.heap.size + 1) st.ms)
      case first =>
        go_wp2_with fail
        go_loopg [7, 8, 9, 35] (ps.length + 1) (fun gk v7 v8 v9 i W => Below w.heap.size w W ∧ W.heap[w.heap.size]? = some (.cells #[.map none] 117 (0, 0)) ∧ Rd true W 9 (.slice (some ⟨bk, o, none⟩) ps.length c) ps.length 1 (strs ps) ∧
          ∃ (k : Nat) (st : PS) (L : List KV) (L2 : List KV), i = .int .i64 k ∧ k ≤ ps.length ∧ k + gk = ps.length + 1 ∧ v7 = .int .i64 st.tot ∧ v8 = .int .i64 st.pe ∧ ErrIs v9 st.bad ∧ 0 ≤ st.pe ∧ st.pe ≤ k ∧ (0 < st.pe → st.bad = true) ∧ -(1000000000 * (k : Int)) ≤ st.tot ∧ st.tot ≤ 8192 ∧
            Aside (R = ((parseGo (ps.drop k) st).ms, (parseGo (ps.drop k) st).bad)) ∧ lensum (ps.drop k) ≤ s.size + 1 ∧ MapAt W (w.heap.size + 1) L ∧ All2 (ItemAt W) L st.ms ∧ MapAt W (w.heap.size + 1 + 1) L2 ∧ All2 SizeAt L2 st.sz ∧ ∀ q ∈ st.sz, 0 ≤ q.2 ∧ q.2 ≤ 1000000000)
        case atStart => exact ⟨hb3, hp3, hrd, 0, ps0, [], [], rfl, by omega, by omega, rfl, rfl, .inl ⟨rfl, rfl⟩, by simp [ps0], by simp [ps0], by simp [ps0], by simp [ps0], by simp [ps0], X.out, by simp [hsm], hM13, trivial, hM23, trivial, by simp [ps0]⟩
        case round =>
          clear hb3 hp3 hrd hM13 hM23 X
          obtain ⟨hb, hp, hrd, k, st, L, L2, rfl, hk, hg, rfl, rfl, herr, hpe0, hpe1, hpeb, ht0, ht1, hX, hls, hm1, ha1, hm2, ha2, hsz⟩ := hrel
          have hws := hb.size
          by_cases hlt : k < ps.length
          · obtain ⟨p, hpk⟩ : ∃ p, ps[k] = p := ⟨_, rfl⟩
            have hdr : ps.drop k = p :: ps.drop (k + 1) := by rw [← hpk]; exact List.drop_eq_getElem_cons hlt
            rw [hdr] at hls
            have hls2 : p.length + 1 + lensum (ps.drop (k + 1)) ≤ s.size + 1 := hls
            obtain ⟨pb, hpb⟩ : ∃ pb : ByteArray, pb = ⟨p.toArray⟩ := ⟨_, rfl⟩
            have hbp : bs pb = p := by rw [hpb]
            have hcell : wr.cell? ⟨bk, o + k, none⟩ = some (.string pb) := hrd.at (by simp [strs, List.getElem?_eq_getElem hlt, hpk, S, hpb])
            have hpz : pb.size = p.length := by rw [← bs_length, hbp]
            have X : Aside (R = ((parseGo (bs pb :: ps.drop (k + 1)) st).ms, (parseGo (bs pb :: ps.drop (k + 1)) st).bad)) := by have := hX.out; rw [hdr] at this; rw [hbp]; exact this
            clear hX hpb hls hdr hpk
            have hlen := hm1.len Tryz.underlying115
            have hll := ha1.length
            by_cases h64 : 64 ≤ L.length
            · have h64z : (64 : Int) ≤ L.length := by omega
              obtain ⟨ea, hea⟩ := (hw.below hb).errs 1 (by omega)
              have hj := zzJoin_err herr ea wr
              have X2 : R = (st.ms, true) := by rw [X.out, parseGo, if_pos (by omega)]
              clear X
              go_wp2_with (go_at_fn 94; fail)
              refine hj.mono ?_
              rintro e w' ⟨⟨z, rfl⟩, rfl⟩
              go_wp2_with fail
              go_meet
              exact ⟨⟨st.ms, st.sz, st.tot, st.pe, true⟩, rfl, by show _ ≤ st.pe; omega, by show st.pe ≤ _; omega, fun _ => rfl, .inr ⟨rfl, _, rfl⟩, X2, hb, hp, L, hm1, ha1⟩
            · have h64z : ¬ (64 : Int) ≤ L.length := by omega
              have hpm := parseMember_any pb wr (hw.below hb) (by omega)
              go_wp2_with (go_at_fn 95; fail)
              refine hpm.mono ?_
              rintro e w1 ⟨hbel, hm⟩
              have hb1 : Below w.heap.size w w1 := below_then hb hws hbel
              have hp1 := (hbel.block _ (Array.getElem?_eq_some_iff.1 hp).1).trans hp
              have hrd1 := hrd.below hbel
              have hm11 := hm1.below hbel
              have hm21 := hm2.below hbel
              have ha11 := ha1.imp (fun _ _ h => h.below hbel)
              have hws1 := hb1.size
              have hm1l := hm11.lt
              have hm2l := hm21.lt
              clear hpm hp hrd hm1 hm2 ha1 hcell hlen hbel hb
              cases hpq : parseM (bs pb) with
              | none =>
                rw [hpq] at hm
                obtain ⟨y, rfl⟩ := hm
                unfold noMem
                have X2 : Aside (R = ((parseGo (ps.drop (k + 1)) ⟨st.ms, st.sz, st.tot, st.pe + 1, true⟩).ms, (parseGo (ps.drop (k + 1)) ⟨st.ms, st.sz, st.tot, st.pe + 1, true⟩).bad)) := by
                  have := X.out
                  rw [parseGo, if_neg (by omega), hpq] at this
                  exact this
                clear X hpq
                have hA : Below w1.heap.size w1 (w1.alloc (.cells #[.string ⟨#[]⟩, .string ⟨#[]⟩, .string ⟨#[]⟩, .slice none 0 0, .bool false] 98)) := (Below.refl _ _).alloc (Nat.le_refl _) _
                by_cases h5 : st.pe + 1 ≤ 5
                · have hj := zzJoin_err herr y (w1.alloc (.cells #[.string ⟨#[]⟩, .string ⟨#[]⟩, .string ⟨#[]⟩, .slice none 0 0, .bool false] 98))
                  go_wp2_with (go_at_fn 94; fail)
                  refine hj.mono ?_
                  rintro e w' ⟨⟨z, rfl⟩, rfl⟩
                  go_wp2_with fail
                  go_roundg (gk - 1)
                  case rel => exact ⟨below_then hb1 hws1 hA, row_alloc hp1 _, hrd1.below hA, k + 1, ⟨st.ms, st.sz, st.tot, st.pe + 1, true⟩, L, L2, by go_num, by omega, by omega, rfl, rfl, .inr ⟨rfl, _, rfl⟩, by show _ ≤ st.pe + 1; omega, by show st.pe + 1 ≤ _; omega, fun _ => rfl, by show _ ≤ st.tot; omega, ht1, X2.out, by omega, hm11.below hA, ha11.imp (fun _ _ h => h.below hA), hm21.below hA, ha2, hsz⟩
                  case measure => omega
                · go_wp2_with fail
                  go_roundg (gk - 1)
                  case rel =>
                    have hbt := hpeb (by omega)
                    rw [hbt] at herr
                    exact ⟨below_then hb1 hws1 hA, row_alloc hp1 _, hrd1.below hA, k + 1, ⟨st.ms, st.sz, st.tot, st.pe + 1, true⟩, L, L2, by go_num, by omega, by omega, rfl, rfl, herr, by show _ ≤ st.pe + 1; omega, by show st.pe + 1 ≤ _; omega, fun _ => rfl, by show _ ≤ st.tot; omega, ht1, X2.out, by omega, hm11.below hA, ha11.imp (fun _ _ h => h.below hA), hm21.below hA, ha2, hsz⟩
                  case measure => omega
              | some x =>
                rw [hpq] at hm
                subst hm
                obtain ⟨hx1, hx2, hx3⟩ := parseM_len _ _ hpq
                rw [bs_length] at hx1 hx2 hx3
                obtain ⟨kb, vb, mb, hkvm⟩ : ∃ kb vb mb : ByteArray, S x.1 = .string kb ∧ S x.2.1 = .string vb ∧ S x.2.2 = .string mb ∧ bs kb = x.1 ∧ bs vb = x.2.1 ∧ bs mb = x.2.2 := ⟨⟨x.1.toArray⟩, ⟨x.2.1.toArray⟩, ⟨x.2.2.toArray⟩, rfl, rfl, rfl, rfl, rfl, rfl⟩
                rw [hkvm.1, hkvm.2.1, hkvm.2.2.1]
                have hA : Below w1.heap.size w1 (w1.alloc (.cells #[.string kb, .string vb, .string mb, .slice none 0 0, .bool true] 98)) := (Below.refl _ _).alloc (Nat.le_refl _) _
                have hms := memberString_any (ty := true) (toMem x) kb vb mb (.slice none 0 0) true (w1.alloc (.cells #[.string kb, .string vb, .string mb, .slice none 0 0, .bool true] 98)) (hw.below (below_then hb1 hws1 hA)) ⟨by show x.1.length ≤ _; omega, by show x.2.1.length ≤ _; omega, by show x.2.2.length ≤ _; omega, by show ([] : List Pr).length ≤ _; simp, by intro p hp; exact absurd hp (by simp [toMem])⟩ hkvm.2.2.2.1 hkvm.2.2.2.2.1 hkvm.2.2.2.2.2 (Rd.nil _ _ _ _)
                go_wp2_with (go_at_fn 46; fail)
                refine hms.mono ?_
                rintro e w3 ⟨rfl, hbel⟩
                obtain ⟨sb, hsb⟩ : ∃ sb : ByteArray, S (memStr (toMem x)) = .string sb ∧ bs sb = memStr (toMem x) := ⟨⟨(memStr (toMem x)).toArray⟩, rfl, rfl⟩
                have hsl := memStr_le x
                rw [← hsb.2, bs_length] at hsl
                rw [hsb.1]
                have hA3 : Below w1.heap.size w1 w3 := below_then hA hA.size hbel
                have hr3 : w3.heap[w1.heap.size]? = some (.cells #[.string kb, .string vb, .string mb, .slice none 0 0, .bool true] 98 (0, 0)) := (hbel.block _ (by simp)).trans (heap_alloc_new _ _)
                have hb3 := below_then hb1 hws1 hA3
                have hp3 := (hA3.block _ (Array.getElem?_eq_some_iff.1 hp1).1).trans hp1
                have hrd3 := hrd1.below hA3
                have hm13 := hm11.below hA3
                have hm23 := hm21.below hA3
                have ha13 := ha11.imp (fun _ _ h => ItemAt.below h hA3)
                have hws3 := hb3.size
                have hlk := hm13.lookup Tryz.underlying115 Tryz.underlying9 (Tryz.zeroValue158 w3) kb
                have hhas := asc_has kb L st.ms ha13
                obtain ⟨i1, i2, iA, iN, iC, hag⟩ := asc_agg kb L st.ms ha13
                obtain ⟨ex, hex⟩ : ∃ ex, (asc L kb).isSome = ex := ⟨_, rfl⟩
                rw [hag, hex] at hlk
                rw [hex, hkvm.2.2.2.1] at hhas
                have hA4 : Below w3.heap.size w3 (w3.alloc (.cells #[.string i1, .string i2, .slice iA iN iC] 158)) := (Below.refl _ _).alloc (Nat.le_refl _) _
                have hm24 := hm23.below hA4
                have hm14 := hm13.below hA4
                have hlk2 := hm24.lookup Tryz.underlying152 Tryz.underlying9 (Tryz.zeroValue3 _) kb
                rw [asc_size kb L2 st.sz ha2, hkvm.2.2.2.1] at hlk2
                obtain ⟨so, hso⟩ : ∃ so, getS x.1 st.sz = so := ⟨_, rfl⟩
                rw [hso] at hlk2
                obtain ⟨oo, hoo⟩ : ∃ oo : Int, (so.map (Value.int .i64)).getD (.int .i64 0) = .int .i64 oo ∧ oo = so.getD 0 := by cases so <;> exact ⟨_, rfl, rfl⟩
                obtain ⟨fo, hfo⟩ : ∃ fo, (so.map (Value.int .i64)).isSome = fo := ⟨_, rfl⟩
                rw [hoo.1, hfo] at hlk2
                have hlen3 := hm13.len Tryz.underlying115
                have hlen4 := hm14.len Tryz.underlying115
                have hoob : 0 ≤ oo ∧ oo ≤ 1000000000 := by
                  rw [hoo.2]
                  cases hso' : so with
                  | none => simp
                  | some o' =>
                    rw [hso'] at hso
                    obtain ⟨q, hq, hq2⟩ := getS_mem _ _ _ hso
                    have := hsz q hq
                    simpa [hq2] using this
                obtain ⟨mbs, hmbs⟩ : ∃ mbs : Int, memSize st (toMem x) = mbs := ⟨_, rfl⟩
                obtain ⟨nt, hnt⟩ : ∃ nt : Int, newTot st (toMem x) = nt := ⟨_, rfl⟩
                have hmb2 : mbs = sb.size + (if !ex && !st.ms.isEmpty then 1 else 0) := by
                  rw [← hmbs, memSize, ← bs_length sb, hsb.2, hhas]
                  rfl
                have hnt2 : nt = if fo then st.tot - oo + mbs else st.tot + mbs := by
                  have e1 : getS (toMem x).key st.sz = so := hso
                  rw [← hnt, newTot, e1, hmbs, hoo.2, ← hfo]
                  cases so <;> rfl
                have X2 : Aside (R = if 8192 < nt then (st.ms, true) else ((parseGo (ps.drop (k + 1)) ⟨putM (toMem x) st.ms, putS x.1 mbs st.sz, nt, st.pe, st.bad⟩).ms, (parseGo (ps.drop (k + 1)) ⟨putM (toMem x) st.ms, putS x.1 mbs st.sz, nt, st.pe, st.bad⟩).bad)) := by
                  have := X.out
                  rw [parseGo, if_neg (by omega), hpq] at this
                  simp only [hnt, hmbs] at this
                  show _ = _
                  rw [this]
                  split <;> rfl
                have hmsz : (st.ms.isEmpty = true ↔ L.length = 0) := by rw [hll, List.isEmpty_iff, List.length_eq_zero_iff]
                have hmbr : 0 ≤ mbs ∧ mbs ≤ 1000000 := by
                  rw [hmb2]
                  split <;> omega
                obtain ⟨⟨c0, c1, c2, c3, c4⟩, f0, f1, f2, f3, f4⟩ := row5 hr3
                have hr4 := row_alloc hr3 (.cells #[.string i1, .string i2, .slice iA iN iC] 158)
                have hltr : w1.heap.size < w3.heap.size := (Array.getElem?_eq_some_iff.1 hr3).1
                have HK : Aside (bs kb = x.1 ∧ bs vb = x.2.1 ∧ bs mb = x.2.2) := ⟨hkvm.2.2.2.1, hkvm.2.2.2.2.1, hkvm.2.2.2.2.2⟩
                have Y : Aside (hm13 = hm13) := rfl
                clear X hpq hkvm hhas hag hex hso hoo hfo hmbs hnt hsb hms hbel hA hp1 hrd1 hm11 hm21 ha11 Y
                go_upto_region 23 with fail
                go_cut [75] from 69 to 75 (fun v W => v = .bool (!ex && decide (0 < L.length)) ∧ W = w3.alloc (.cells #[.string i1, .string i2, .slice iA iN iC] 158))
                case first =>
                  cases ex
                  · by_cases hl0 : 0 < L.length
                    · have hl0z : (0 : Int) < L.length := by omega
                      go_wp2_with fail
                      go_meet
                      exact ⟨by rw [decide_eq_true hl0, show decide (0 < st.ms.length) = true from decide_eq_true (by omega)]; rfl, rfl⟩
                    · have hl0z : ¬ (0 : Int) < L.length := by omega
                      go_wp2_with fail
                      go_meet
                      exact ⟨by rw [decide_eq_false hl0, show decide (0 < st.ms.length) = false from decide_eq_false (by omega)]; rfl, rfl⟩
                  · go_wp2_with fail
                    go_meet
                    exact ⟨by simp, rfl⟩
                case rest =>
                  obtain ⟨rfl, rfl⟩ := hcut
                  obtain ⟨pl, hpl⟩ : ∃ pl, (!ex && decide (0 < L.length)) = pl := ⟨_, rfl⟩
                  have hmb3 : mbs = sb.size + (if pl then 1 else 0) := by
                    rw [hmb2, ← hpl]
                    congr 1
                    have : (!st.ms.isEmpty) = decide (0 < L.length) := by
                      cases h : st.ms.isEmpty
                      · have h0 : ¬ L.length = 0 := fun h' => by rw [hmsz.2 h'] at h; cases h
                        have h1 : 0 < L.length := Nat.pos_of_ne_zero h0
                        rw [decide_eq_true h1]
                        rfl
                      · have h0 := hmsz.1 h
                        have h1 : ¬ 0 < L.length := by rw [h0]; exact Nat.lt_irrefl 0
                        rw [decide_eq_false h1]
                        rfl
                    rw [this]
                  rw [hpl]
                  clear hpl hmb2 hmsz
                  go_upto_if 75 with fail
                  go_cut [14] (fun v W => v = .int .i64 mbs ∧ W = w3.alloc (.cells #[.string i1, .string i2, .slice iA iN iC] 158))
                  case first =>
                    cases pl
                    · go_wp2_with fail
                      go_meet
                      exact ⟨by rw [hmb3]; simp, rfl⟩
                    · go_wp2_with fail
                      go_meet
                      exact ⟨by rw [hmb3]; simp, rfl⟩
                  case rest =>
                    obtain ⟨rfl, rfl⟩ := hcut
                    clear hmb3
                    go_upto_if 85 with fail
                    go_cut [17] (fun v W => v = .int .i64 nt ∧ W = w3.alloc (.cells #[.string i1, .string i2, .slice iA iN iC] 158))
                    case first =>
                      cases fo
                      · go_wp2_with fail
                        go_meet
                        exact ⟨by rw [hnt2]; simp, rfl⟩
                      · go_wp2_with fail
                        go_meet
                        exact ⟨by rw [hnt2]; simp, rfl⟩
                    case rest =>
                      obtain ⟨rfl, rfl⟩ := hcut
                      have hntr : -(1000000000 * ((k : Int) + 1)) ≤ nt := by
                        rw [hnt2]
                        split <;> omega
                      clear hnt2 hlk hlk2 hlen3 hlen4
                      by_cases hover : 8192 < nt
                      · obtain ⟨ea, hea⟩ := (hw.below (below_then hb3 hws3 hA4)).errs 0 (by omega)
                        have hj := zzJoin_err herr ea (w3.alloc (.cells #[.string i1, .string i2, .slice iA iN iC] 158))
                        have X3 : R = (st.ms, true) := by rw [X2.out, if_pos hover]
                        clear X2
                        go_wp2_with (go_at_fn 94; fail)
                        refine hj.mono ?_
                        rintro e w' ⟨⟨z, rfl⟩, rfl⟩
                        go_wp2_with fail
                        go_meet
                        exact ⟨⟨st.ms, st.sz, st.tot, st.pe, true⟩, rfl, by show _ ≤ st.pe; omega, by show st.pe ≤ _; omega, fun _ => rfl, .inr ⟨rfl, _, rfl⟩, X3, below_then hb3 hws3 hA4, row_alloc hp3 _, L, hm14, ha13.imp (fun _ _ h => ItemAt.below h hA4)⟩
                      · have X3 : Aside (R = ((parseGo (ps.drop (k + 1)) ⟨putM (toMem x) st.ms, putS x.1 mbs st.sz, nt, st.pe, st.bad⟩).ms, (parseGo (ps.drop (k + 1)) ⟨putM (toMem x) st.ms, putS x.1 mbs st.sz, nt, st.pe, st.bad⟩).bad)) := by
                          have := X2.out
                          rw [if_neg hover] at this
                          exact this
                        have hb4 := below_then hb3 hws3 hA4
                        have hp4 := row_alloc hp3 (.cells #[.string i1, .string i2, .slice iA iN iC] 158)
                        have hrd4 := hrd3.below hA4
                        have ha14 := ha13.imp (fun _ _ h => ItemAt.below h hA4)
                        clear X2 hb3 hp3 hrd3 hm13 hm23 ha13 hr3 hA4 hws3 c0 c1 c2 c3 c4 f0 f1 f2 f3 f4
                        obtain ⟨w4, hw4⟩ : ∃ w4, w3.alloc (.cells #[.string i1, .string i2, .slice iA iN iC] 158) = w4 := ⟨_, rfl⟩
                        rw [hw4] at hb4 hp4 hrd4 ha14 hm14 hm24 hr4 ⊢
                        clear hw4
                        obtain ⟨⟨c0, c1, c2, c3, c4⟩, f0, f1, f2, f3, f4⟩ := row5 hr4
                        have hif := itemFromMember_any (ty := true) kb vb mb (.slice none 0 0) true [] w4.drew (Rd.nil _ _ _ _) (by simp)
                        go_wp2_with fail
                        go_region_held3 (fun W => W.cell? ⟨w1.heap.size, 0, none⟩ = some (.string kb) ∧ W.cell? ⟨w1.heap.size, 1, none⟩ = some (.string vb) ∧ W.cell? ⟨w1.heap.size, 2, none⟩ = some (.string mb) ∧ W.cell? ⟨w1.heap.size, 3, none⟩ = some (.slice none 0 0) ∧ W.cell? ⟨w1.heap.size, 4, none⟩ = some (.bool true)) ((first | exact ⟨c0, c1, c2, c3, c4⟩ | exact ⟨d0, d1, d2, d3, d4⟩ | exact ⟨e0, e1, e2, e3, e4⟩)) (first
                          | (go_at_call 96; refine hif.mono ?_; intro e w5 hpost; obtain ⟨iv, rfl, hiv, hbel⟩ := hpost; have hiv : Rd true w5 235 iv 0 3 [] := by simpa using hiv
                             have hbel : Below w4.heap.size w4 w5 := (Below.refl _ _).drew.trans hbel
                             have hr5 := (hbel.block _ (Array.getElem?_eq_some_iff.1 hr4).1).trans hr4
                             obtain ⟨⟨d0, d1, d2, d3, d4⟩, _, _, _, _, _⟩ := row5 hr5
                             have hm15 := hm14.below (w' := w5) hbel
                             have hm25 := hm24.below (w' := w5) hbel
                             have hb5 := below_then hb4 hb4.size (w2 := w5) hbel
                             have hp5 := (hbel.block _ (Array.getElem?_eq_some_iff.1 hp4).1).trans hp4
                             have hrd5 := hrd4.below (w' := w5) hbel
                             have ha15 := ha14.imp (fun _ _ h => ItemAt.below (w' := w5) h hbel)
                             clear hbel hif
                             obtain ⟨w6, hup, hm16, hg6⟩ := hm15.update Tryz.underlying115 Tryz.underlying9 kb (.agg #[.string vb, .string mb, iv])
                             have hne6 : ¬ w1.heap.size = w.heap.size + 1 := by omega
                             have hr6 := (hg6.block _ (Array.getElem?_eq_some_iff.1 hr5).1 (by simpa using hne6)).trans hr5
                             obtain ⟨⟨e0, e1, e2, e3, e4⟩, _, _, _, _, _⟩ := row5 hr6))
                        all_goals
                          have hn1 : ¬ w.heap.size + 1 + 1 = w.heap.size + 1 := by omega
                          have hn2 : ¬ w.heap.size + 1 = w.heap.size + 1 + 1 := by omega
                          have hm26 := hm25.grownMap hn1 hg6
                          obtain ⟨w7, hup2, hm27, hg7⟩ := hm26.update Tryz.underlying152 Tryz.underlying9 kb (.int .i64 mbs)
                          have hb6 : Below w.heap.size w w6 := hb5.grown hg6 hb5.size (by intro q hq; injection hq with hq; omega)
                          have hb7 : Below w.heap.size w w7 := hb6.grown hg7 hb6.size (by intro q hq; injection hq with hq; omega)
                          have hp6 := (hg6.block _ (Array.getElem?_eq_some_iff.1 hp5).1 (by simp)).trans hp5
                          have hp7 := (hg7.block _ (Array.getElem?_eq_some_iff.1 hp6).1 (by simp <;> omega)).trans hp6
                          have hrd7 := (hrd5.grownMap hm15 hg6).grownMap hm26 hg7
                          have hm17 := hm16.grownMap hn2 hg7
                          have hiv7 := (hiv.grownMap hm15 hg6).grownMap hm26 hg7
                          have ha17 := ha15.imp (fun _ _ h => (ItemAt.grownMap (w' := w6) h hm15 hg6).grownMap (w' := w7) hm26 hg7)
                          clear hrd5 hm15 hm25 hiv ha15 hp5 hp6 hg6 hg7 hup hb5 hb6 hb4 hp4 hrd4 ha14 hm14 hm24
                          go_wp2_with fail
                          go_roundg (gk - 1)
                          case rel =>
                            refine ⟨hb7, hp7, hrd7, k + 1, ⟨putM (toMem x) st.ms, putS x.1 mbs st.sz, nt, st.pe, st.bad⟩, _, _, by go_num, by omega, by omega, rfl, rfl, herr, hpe0, by show st.pe ≤ _; omega, hpeb, by show _ ≤ nt; omega, by show nt ≤ _; omega, X3.out, by omega, hm17, ?_, hm27, ?_, ?_⟩
                            · exact put_put kb _ (toMem x) HK.out.1 (fun k' hk' => ⟨vb, mb, iv, rfl, hk', HK.out.2.1, HK.out.2.2, hiv7⟩) L st.ms ha17
                            · have := put_size kb mbs L2 st.sz ha2
                              rw [HK.out.1] at this
                              exact this
                            · intro q hq
                              rcases putS_mem x.1 mbs st.sz q hq with hq | hq
                              · rw [hq]
                                omega
                              · exact hsz q hq
                          case measure => omega
          · have hfin := hX.out
            rw [List.drop_eq_nil_of_le (by omega), parseGo] at hfin
            go_wp2_with fail
            go_meet
            exact ⟨st, rfl, by omega, by omega, fun h => hpeb (by omega), herr, hfin, hb, hp, L, hm1, ha1⟩
      case rest =>
        clear hb3 hp3 hM13 hM23 X hrd
        obtain ⟨st, rfl, hpe0, hpe1, hpe5, herr, hR, hb, hp, L, hm, ha⟩ := hcut
        go_upto_if 113 with fail
        go_cut [9] (fun v W => ErrIs v st.bad ∧ Below w.heap.size w W ∧ W.heap[w.heap.size]? = some (.cells #[.map none] 117 (0, 0)) ∧ BagAt W (w.heap.size + 1) st.ms)
        case first =>
          by_cases h5 : 5 < st.pe
          · have h5z : (0 : Int) < st.pe - 5 := by omega
            have hbt := hpe5 h5
            rw [hbt] at herr
            obtain ⟨y, rfl⟩ : ∃ y, u9 = .iface 201 (.pointer (some y)) := by
              rcases herr with ⟨h, _⟩ | ⟨_, y, h⟩
              · cases h
              · exact ⟨y, h⟩
            clear hR
            go_wp2_with (go_at_fn 97; fail)
            refine (errors_New_any _ _).mono ?_
            intro e w5 hpost
            obtain ⟨a, rfl, hbel⟩ := hpost
            have hj := zzJoin_some y (.iface 201 a) w5
            go_wp2_with (go_at_fn 94; fail)
            refine hj.mono ?_
            rintro e w' ⟨rfl, rfl⟩
            go_wp2_with fail
            go_meet
            exact ⟨.inr ⟨hbt, _, rfl⟩, below_then hb hb.size hbel, (hbel.block _ (Array.getElem?_eq_some_iff.1 hp).1).trans hp, L, hm.below hbel, ha.imp (fun _ _ h => ItemAt.below h hbel)⟩
          · have h5z : ¬ (0 : Int) < st.pe - 5 := by omega
            go_wp2_with fail
            go_meet
            exact ⟨herr, hb, hp, L, hm, ha⟩
        case rest =>
          clear herr hb hp hm ha
          obtain ⟨herr, hb, hp, L, hm, ha⟩ := hcut
          have hlen := hm.len Tryz.underlying115
          have hll := ha.length
          obtain ⟨c0, f0⟩ := row1 hp
          by_cases h0 : L.length = 0
          · have h0z : ((L.length : Int) == 0) = true := by rw [beq_iff_eq]; omega
            have hms : st.ms = [] := List.eq_nil_of_length_eq_zero (by omega)
            clear hll
            go_wp2_with fail
            (try simp only [Exit.inBlock, Exit.then]); refine bodyPost_ret (ret_cell_tmp rfl rfl (row_set hp 0 _) Tryz.underlying117 rfl (by kernel_rfl)) rfl ?_
            exact ⟨_, _, rfl, .inl ⟨rfl, by rw [hR]; exact hms⟩, by rw [hR]; exact herr, hb.setCell (Nat.le_refl _) _⟩
          · have h0z : ((L.length : Int) == 0) = false := beq_eq_false_iff_ne.2 (by omega)
            clear hll
            go_wp2_with fail
            (try simp only [Exit.inBlock, Exit.then]); refine bodyPost_ret (ret_cell_tmp rfl rfl (row_set hp 0 _) Tryz.underlying117 rfl (by kernel_rfl)) rfl ?_
            exact ⟨_, _, rfl, .inr ⟨_, rfl, by rw [hR]; exact ⟨L, hm.set hp _, ha.imp (fun _ _ h => ItemAt.fr2 h ((Fr2.refl 117 117 wc).set hp _) (by decide) (by decide))⟩⟩, by rw [hR]; exact herr, hb.setCell (Nat.le_refl _) _⟩
  · go_enter Tryz.func54, Tryz.ntmps54
    go_wp2_with fail
    (try simp only [Exit.inBlock, Exit.then]); refine bodyPost_ret (ret_cell_tmp rfl rfl (heap_alloc_new _ _) Tryz.underlying117 rfl (by kernel_rfl)) rfl ?_
    have X : R = ([], false) := by
      rw [← A.out, parseB, ← toList_empty, he]
      rfl
    exact ⟨_, _, rfl, .inl ⟨rfl, by rw [X]⟩, .inl ⟨by rw [X], rfl⟩, hb0⟩
end Go.Proofs.YtleofgndghjflaaGreatDoor

set_option linter.unusedVariables false
set_option linter.unusedSimpArgs false
namespace Go.Proofs.YtleofgndghjflaaGreatDoor
open Go Go.RowKit

theorem BagAt.len {w : World} {b : Nat} {ms : List Mem} (h : BagAt w b ms) (ty : TypeId) : (Builtin.len_ #[115] ty #[.map (some b)]).run Tryz.prog w = .ok (.int .i64 ms.length) w := by
  obtain ⟨L, h1, h2⟩ := h
  rw [h1.len Tryz.underlying115, h2.length]
theorem BagAt.below {w w' : World} {b : Nat} {ms : List Mem} (h : BagAt w b ms) (hb : Below w.heap.size w w') : BagAt w' b ms := by
  obtain ⟨L, h1, h2⟩ := h
  exact ⟨L, h1.below hb, h2.imp (fun _ _ h => ItemAt.below h hb)⟩
theorem BagVal.below {w w' : World} {v : Value} {ms : List Mem} (h : BagVal w v ms) (hb : Below w.heap.size w w') : BagVal w' v ms := by
  rcases h with h | ⟨b, h1, h2⟩
  · exact .inl h
  · exact .inr ⟨b, h1, h2.below hb⟩

set_option maxHeartbeats 1000000 in
set_option maxRecDepth 100000 in
theorem Len_any (mv : Value) (ms : List Mem) (w : World) (h : BagVal w mv ms) :
    Calls Tryz.prog 56 #[.agg #[mv]] w fun e w' => e = .returned (.int .i64 ms.length) ∧ Below w.heap.size w w' := by
  have hb0 : Below w.heap.size w (w.alloc (.cells #[mv] 117)) := (Below.refl _ _).alloc (Nat.le_refl _) _
  rcases h with ⟨rfl, rfl⟩ | ⟨b, rfl, h⟩
  · go_enter Tryz.func56, Tryz.ntmps56
    go_wp2_with fail
    go_ret
    exact ⟨rfl, hb0⟩
  · have hlen := (h.below hb0).len
    go_enter Tryz.func56, Tryz.ntmps56
    go_wp2_with fail
    go_ret
    exact ⟨rfl, hb0⟩

/-- The cells of a member in a row. -/
def MemCells (w : World) (cs : List Value) (m : Mem) : Prop :=
  ∃ kb vb mb pv, cs = [.string kb, .string vb, .string mb, pv, .bool true] ∧ bs kb = m.key ∧ bs vb = m.val ∧ bs mb = m.meta' ∧ Rd true w 86 pv m.props.length 3 (m.props.flatMap pcells)
theorem MemCells.below {w w' : World} {cs : List Value} {m : Mem} (h : MemCells w cs m) (hb : Below w.heap.size w w') : MemCells w' cs m := by
  obtain ⟨kb, vb, mb, pv, h1, h2, h3, h4, h5⟩ := h
  exact ⟨kb, vb, mb, pv, h1, h2, h3, h4, h5.below hb⟩
theorem MemCells.fr {w w' : World} {cs : List Value} {m : Mem} {e : TypeId} (h : MemCells w cs m) (hf : Fr e w w') (hne : 86 ≠ e) : MemCells w' cs m := by
  obtain ⟨kb, vb, mb, pv, h1, h2, h3, h4, h5⟩ := h
  exact ⟨kb, vb, mb, pv, h1, h2, h3, h4, h5.fr hf hne⟩
def MemRow (w : World) (v : Value) (ms : List Mem) : Prop := ∃ css : List (List Value), Rd true w 98 v ms.length 5 css.flatten ∧ All2 (MemCells w) css ms
def MemsPost (ms : List Mem) (w : World) (e : Ending) (w' : World) : Prop :=
  ∃ v ms', e = .returned v ∧ ms.Perm ms' ∧ MemRow w' v ms' ∧ Below w.heap.size w w'
theorem Tryz.info98 : (Tryz.prog.info? 98).map (fun i => (i.zero, i.size, i.bytes)) = some (some (.agg #[.string ⟨#[]⟩, .string ⟨#[]⟩, .string ⟨#[]⟩, .slice none 0 0, .bool false]), 5, 80) := by kernel_rfl
theorem MemCells.one {w : World} {cs : List Value} {m : Mem} (h : MemCells w cs m) : ∀ u ∈ cs, u.oneCell' = true := by
  obtain ⟨kb, vb, mb, pv, rfl, _, _, _, h5⟩ := h
  obtain ⟨A, c, rfl, _⟩ := h5.shape
  intro u hu
  simp at hu
  rcases hu with rfl | rfl | rfl | rfl | rfl <;> rfl
theorem grown_fr {w w' : World} {r : Nat} {e : TypeId} (hg : w.grownBy w' (some r)) (hr : ∀ c f, w.heap[r]? ≠ some (.cells c e f)) : Fr e w w' ∨ True := .inr trivial
/-- What a step of an iterator leaves: rows stay. -/
theorem Rd.grownIter {w w' : World} {t : TypeId} {v : Value} {n sz : Nat} {xs : List Value} {r b : Nat} {L left : List KV} (h : Rd true w t v n sz xs) (hm : RangeAt w r b L left) (hg : w.grownBy w' (some r)) : Rd true w' t v n sz xs := by
  obtain ⟨A, c, h1, h2, h3, h4, h5⟩ := h
  refine ⟨A, c, h1, h2, h3, h4, h5.imp id fun ⟨k, o, k1, k2, k3⟩ => ?_⟩
  obtain ⟨cs, fr, hc⟩ := k3 rfl
  have hkb : k ≠ r := by
    intro e
    subst e
    obtain ⟨es, clock, seen, _, hh, _⟩ := hm
    rw [hc] at hh
    cases hh
  have hk := hg.block k (Array.getElem?_eq_some_iff.1 hc).1 (by simpa using hkb)
  exact ⟨k, o, k1, fun j u hj => cell_keep hk (k2 j u hj), fun _ => ⟨cs, fr, hk.trans hc⟩⟩
theorem ItemAt.grownIter {w w' : World} {p : KV} {m : Mem} {r b : Nat} {L left : List KV} (h : ItemAt w p m) (hm : RangeAt w r b L left) (hg : w.grownBy w' (some r)) : ItemAt w' p m := by
  obtain ⟨vb, mb, iv, h1, h2, h3, h4, h5⟩ := h
  exact ⟨vb, mb, iv, h1, h2, h3, h4, h5.grownIter hm hg⟩
theorem MemCells.grownIter {w w' : World} {cs : List Value} {m : Mem} {r b : Nat} {L left : List KV} (h : MemCells w cs m) (hm : RangeAt w r b L left) (hg : w.grownBy w' (some r)) : MemCells w' cs m := by
  obtain ⟨kb, vb, mb, pv, h1, h2, h3, h4, h5⟩ := h
  exact ⟨kb, vb, mb, pv, h1, h2, h3, h4, h5.grownIter hm hg⟩
theorem own_grownIter {w w' : World} {B : Nat} {e : TypeId} {size n : Nat} {v : Value} {xs : List Value} {r b : Nat} {L left : List KV} (h : w.ownsRow B e size v n xs) (hm : RangeAt w r b L left) (hg : w.grownBy w' (some r)) : w'.ownsRow B e size v n xs := by
  refine h.kept hg ?_
  have : v.ownBlock ≠ some r := by
    intro hv
    rcases h.2 with ⟨rfl, _⟩ | ⟨g, cap, cur, rfl, _, hh, _⟩
    · simp [Value.ownBlock] at hv
    · have : g = r := by simpa [Value.ownBlock] using hv
      subst this
      obtain ⟨es, clock, seen, _, hh2, _⟩ := hm
      rw [hh] at hh2
      cases hh2
  exact .inr this

set_option maxHeartbeats 1000000 in
set_option maxRecDepth 100000 in
theorem Members_any (mv : Value) (ms : List Mem) (w : World) (h : BagVal w mv ms) (hn : ms.length ≤ 10000) (hpr : ∀ m ∈ ms, m.props.length ≤ 100000) :
    Calls Tryz.prog 98 #[.agg #[mv]] w (MemsPost ms w) := by
  have hb0 : Below w.heap.size w (w.alloc (.cells #[mv] 117)) := (Below.refl _ _).alloc (Nat.le_refl _) _
  rcases h with ⟨rfl, rfl⟩ | ⟨b, rfl, h⟩
  · go_enter Tryz.func98, Tryz.ntmps98
    go_wp2_with fail
    go_ret
    exact ⟨_, [], rfl, List.Perm.refl _, ⟨[], Rd.nil _ _ _ _, trivial⟩, hb0⟩
  · have hlen := (h.below hb0).len
    by_cases hz : ms.length = 0
    · have hzz : ((ms.length : Int) == 0) = true := by rw [beq_iff_eq]; omega
      have hms := List.eq_nil_of_length_eq_zero hz
      go_enter Tryz.func98, Tryz.ntmps98
      go_wp2_with fail
      go_ret
      exact ⟨_, [], rfl, by rw [hms], ⟨[], Rd.nil _ _ _ _, trivial⟩, hb0⟩
    · have hzz : ((ms.length : Int) == 0) = false := beq_eq_false_iff_ne.2 (by omega)
      have hmk := run_make0 129 98 _ 5 80 Tryz.underlying129 Tryz.info98 ms.length ms.length rfl (by omega) (by omega)
      obtain ⟨w1, hw1⟩ : ∃ w1, w.alloc (.cells #[.map (some b)] 117) = w1 := ⟨_, rfl⟩
      have hbx : w1.heap[w.heap.size]? = some (.cells #[.map (some b)] 117 (0, 0)) := by rw [← hw1]; exact heap_alloc_new _ _
      rw [hw1] at hb0 hlen
      obtain ⟨wm, hwm⟩ : ∃ wm, w1.alloc (.cells (madeCells (Value.agg #[.string ⟨#[]⟩, .string ⟨#[]⟩, .string ⟨#[]⟩, .slice none 0 0, .bool false]).cells (ms.length * 5)) 98) = wm := ⟨_, rfl⟩
      have ho := own_made w1 w.heap.size (.agg #[.string ⟨#[]⟩, .string ⟨#[]⟩, .string ⟨#[]⟩, .slice none 0 0, .bool false]) ms.length 5 98 hb0.size (by omega)
      have hbm : Below w.heap.size w wm := by rw [← hwm]; exact hb0.alloc hb0.size _
      have hbxm : wm.heap[w.heap.size]? = some (.cells #[.map (some b)] 117 (0, 0)) := by rw [← hwm]; exact row_alloc hbx _
      have hmk1 := hmk w1
      rw [hwm] at ho hmk1
      have hbg := h.below hbm
      obtain ⟨L, hL, hI⟩ := hbg
      obtain ⟨oi, hro, hrg⟩ := hL.range Tryz.underlying115
      obtain ⟨V, hV⟩ : ∃ V : Value, .slice (some ⟨w1.heap.size, 0, none⟩) 0 ms.length = V := ⟨_, rfl⟩
      rw [hV] at ho hmk1
      clear hV hmk hwm h
      obtain ⟨c0, f0⟩ := row1 hbx
      obtain ⟨cm0, fm0⟩ := row1 hbxm
      go_enter Tryz.func98, Tryz.ntmps98
      go_wp2_with fail
      have hbi : Below w.heap.size w (wm.alloc oi) := hbm.alloc hbm.size _
      have hoi := ho.alloc oi
      have hIi := hI.imp (fun _ _ h => ItemAt.below h ((Below.refl _ _).alloc (Nat.le_refl wm.heap.size) oi))
      obtain ⟨wi, hwi⟩ : ∃ wi, wm.alloc oi = wi := ⟨_, rfl⟩
      obtain ⟨it, hit⟩ : ∃ it, wm.heap.size = it := ⟨_, rfl⟩
      rw [hwi] at hbi hoi hIi hrg ⊢
      have hitw : w.heap.size ≤ it := by rw [← hit]; exact hbm.size
      rw [hit] at hrg ⊢
      clear hwi hit ho hI hro hL hbm hbxm cm0 fm0 hmk1 hlen hw1 hbx c0 f0 hb0
      go_loopg [3] (ms.length + 1) (fun gk ow W => Below w.heap.size w W ∧ ∃ (left : List KV) (msL done : List Mem) (css : List (List Value)), RangeAt W it b L left ∧ All2 (ItemAt W) left msL ∧ msL.length + 1 = gk ∧ ms.Perm (done ++ msL) ∧ W.ownsRow w.heap.size 98 5 ow done.length css.flatten ∧ All2 (MemCells W) css done)
      case atStart => exact ⟨hbi, L, ms, [], [], hrg, hIi, rfl, List.Perm.refl _, hoi, trivial⟩
      case round =>
        clear hbi hoi hIi hrg
        obtain ⟨hb, left, msL, done, css, hrg, hI, hg, hperm, ho, hcs⟩ := hrel
        have hws := hb.size
        have hdl : done.length ≤ ms.length := by
          have := hperm.length_eq
          rw [List.length_append] at this
          omega
        rcases hrg.next 0 with ⟨rfl, hnx⟩ | ⟨p, left', w1, hpm, hnx, hrg1, hg1, hen⟩
        · have hnx' : ∀ ty, (Instr.next (.pointer (some ⟨it, 0, none⟩)) false ty).run Tryz.prog wr = .ok (.tuple #[.bool false]) wr := fun _ => hnx
          clear hnx
          have hm0 : msL = [] := List.eq_nil_of_length_eq_zero (by rw [← hI.length]; rfl)
          go_wp2_with fail
          go_ret
          refine ⟨_, done, rfl, by rw [hm0, List.append_nil] at hperm; exact hperm, ⟨css, Rd.of_own ho, hcs⟩, hb⟩
        · have hnx' : ∀ ty, (Instr.next (.pointer (some ⟨it, 0, none⟩)) false ty).run Tryz.prog wr = .ok (.tuple #[.bool true, .string p.1, p.2]) w1 := fun _ => hnx
          clear hnx
          obtain ⟨msL', hpm2, hI2⟩ := All2.perm hpm hI
          match msL', hI2 with
          | m :: msL', hI2 =>
            have hb1 : Below w.heap.size w w1 := hb.grown hg1 hws (by
              intro q hq
              injection hq with hq
              rw [← hq]
              exact hitw)
            have hI1 := hI2.2.imp (fun _ _ h => ItemAt.grownIter (w' := w1) h hrg hg1)
            have hi1 := hI2.1.grownIter hrg hg1
            have hcs1 := hcs.imp (fun _ _ h => MemCells.grownIter (w' := w1) h hrg hg1)
            have ho1 := own_grownIter ho hrg hg1
            have hmm : m ∈ ms := hperm.mem_iff.2 (List.mem_append_right _ (hpm2.mem_iff.2 (List.mem_cons_self ..)))
            have hperm2 : ms.Perm ((done ++ [m]) ++ msL') := by
              refine hperm.trans ?_
              rw [List.append_assoc]
              exact List.Perm.append_left _ hpm2
            have hlen2 : msL'.length + 1 = msL.length := by rw [hpm2.length_eq]; rfl
            clear hI hI2 hcs ho hrg hpm hperm hpm2 hg1
            obtain ⟨vb, mb, iv, hp2, hk, hv, hme, hiv⟩ := hi1
            obtain ⟨kb, pv⟩ := p
            simp only at hp2 hk hnx' hen
            subst hp2
            obtain ⟨A, c, rfl, _, _⟩ := hiv.shape
            have hA : Below w1.heap.size w1 (w1.alloc (.cells #[.string vb, .string mb, .slice A m.props.length c] 158)) := (Below.refl _ _).alloc (Nat.le_refl _) _
            have hfi := memberFromItem_any kb vb mb (.slice A m.props.length c) m.props _ (hiv.below hA) (hpr m hmm)
            go_wp2_with (go_at_fn 101; fail)
            refine hfi.mono ?_
            intro e w2 hpost
            obtain ⟨pv, rfl, hpv, hbel⟩ := hpost
            have hA2 := below_then hA hA.size hbel
            have hb2 := below_then hb1 hb1.size hA2
            have hrg2 := hrg1.below hA2
            have hI2 := hI1.imp (fun _ _ h => ItemAt.below h hA2)
            have hcs2 := hcs1.imp (fun _ _ h => MemCells.below h hA2)
            have ho2 := own_below (C := 0) ho1 hA2
            clear hfi hrg1 hI1 hcs1 ho1 hbel hA hen hnx'
            obtain ⟨A2, c2, rfl, _, _⟩ := hpv.shape
            have hmc : MemCells w2 [.string kb, .string vb, .string mb, .slice A2 m.props.length c2, .bool true] m := ⟨kb, vb, mb, _, rfl, hk, hv, hme, hpv⟩
            go_wp2_with (at_builtin; go_must (refine wp_app w.heap.size rfl _ _ 129 rfl 98 _ 5 80 Tryz.underlying129 Tryz.info98 rfl (by decide) u3 _ _ [.string kb, .string vb, .string mb, .slice A2 m.props.length c2, .bool true] rfl rfl rfl hmc.one ho2 hb2.size (by omega) (by omega) ?_); intro v1 w3 ho3 hb3 hf3 hs3)
            go_wp2_with fail
            go_roundg (gk - 1)
            case rel =>
              refine ⟨hb2.trans hb3, left', msL', done ++ [m], css ++ [[.string kb, .string vb, .string mb, .slice A2 m.props.length c2, .bool true]], hrg2.fr hf3, hI2.imp (fun _ _ h => ItemAt.fr h hf3 (by decide)), by omega, hperm2, ?_, (hcs2.append (l' := [_]) (m' := [m]) ⟨hmc, trivial⟩).imp (fun _ _ h => MemCells.fr h hf3 (by decide))⟩
              rw [List.flatten_append, List.length_append]
              simpa using ho3
            case measure => omega
          | [], hI2 => exact hI2.elim
end Go.Proofs.YtleofgndghjflaaGreatDoor

set_option linter.unusedVariables false
set_option linter.unusedSimpArgs false
namespace Go.Proofs.YtleofgndghjflaaGreatDoor
open Go Go.RowKit

def bagStr (ms : List Mem) : List UInt8 := Lib.join ((ms.map memStr).filter (!·.isEmpty)) [44]
def BStrPost (ms : List Mem) (w : World) (e : Ending) (w' : World) : Prop :=
  ∃ ms', ms.Perm ms' ∧ e = .returned (S (bagStr ms')) ∧ Below w.heap.size w w'
theorem memStr_ok (m : Mem) (h : MemOk m) : (memStr m).length ≤ 400010000000 := by
  have h1 := enc_le m.val
  have h2 := propsStr_le m.props h.num h.props
  have h3 := h.key
  have h4 := h.val
  have h5 := h.meta'
  unfold memStr memTail
  split
  · split
    · split
      · simp; omega
      · simp; omega
    · simp; omega
  · simp

set_option maxHeartbeats 1000000 in
set_option maxRecDepth 100000 in
theorem BagString_any (mv : Value) (ms : List Mem) (w : World) (hw : Laid w) (h : BagVal w mv ms) (hn : ms.length ≤ 300) (hok : ∀ m ∈ ms, MemOk m) :
    Calls Tryz.prog 57 #[.agg #[mv]] w (BStrPost ms w) := by
  have hb0 : Below w.heap.size w (w.alloc (.cells #[mv] 117)) := (Below.refl _ _).alloc (Nat.le_refl _) _
  rcases h with ⟨rfl, rfl⟩ | ⟨b, rfl, h⟩
  · have hmk := run_make0 54 9 _ 1 16 Tryz.underlying54 Tryz.infoStr 0 0 rfl (by omega) (by omega)
    obtain ⟨w1, hw1⟩ : ∃ w1, w.alloc (.cells #[.map none] 117) = w1 := ⟨_, rfl⟩
    have hbx : w1.heap[w.heap.size]? = some (.cells #[.map none] 117 (0, 0)) := by rw [← hw1]; exact heap_alloc_new _ _
    rw [hw1] at hb0
    obtain ⟨wm, hwm⟩ : ∃ wm, w1.alloc (.cells (madeCells (Value.string ⟨#[]⟩).cells (0 * 1)) 9) = wm := ⟨_, rfl⟩
    have hbm : Below w.heap.size w wm := by rw [← hwm]; exact hb0.alloc hb0.size _
    have hbxm : wm.heap[w.heap.size]? = some (.cells #[.map none] 117 (0, 0)) := by rw [← hwm]; exact row_alloc hbx _
    have hmk1 := hmk w1
    rw [hwm] at hmk1
    clear hmk hwm
    obtain ⟨c0, f0⟩ := row1 hbx
    obtain ⟨cm0, fm0⟩ := row1 hbxm
    have hr0 := run_range_nilMap (P := Tryz.prog) wm 115 9 158 Tryz.underlying115
    have hbi : Below w.heap.size w (wm.alloc (.mapIter none 0 #[] 0)) := hbm.alloc hbm.size _
    obtain ⟨wi, hwi⟩ : ∃ wi, wm.alloc (.mapIter none 0 #[] 0) = wi := ⟨_, rfl⟩
    have hn0 : ∀ ty, (Instr.next (.pointer (some ⟨wm.heap.size, 0, none⟩)) false ty).run Tryz.prog wi = .ok (.tuple #[.bool false]) wi := by
      intro ty
      rw [← hwi]
      exact run_next_nilMap (P := Tryz.prog) wm ty _ _ _
    rw [hwi] at hr0 hbi
    have hj := join_any (ty := true) [] (.slice (some ⟨w1.heap.size, 0, none⟩) 0 0) ⟨#[44]⟩ wi ⟨_, 0, rfl, Nat.le_refl _, by omega, rfl, .inl rfl⟩ (by simp) (by simp [Lib.join_nil])
    obtain ⟨jb, hjb⟩ : ∃ jb : ByteArray, S (Lib.join [] (bs ⟨#[44]⟩)) = .string jb := ⟨_, rfl⟩
    have J : Aside (S (Lib.join [] (bs ⟨#[44]⟩)) = .string jb) := hjb
    rw [hjb] at hj
    clear hjb hwi hbx hbm hbxm
    go_enter Tryz.func57, Tryz.ntmps57
    go_wp2_with fail
    go_loopg [3] 1 (fun gk v W => W = wi ∧ v = .slice (some ⟨w1.heap.size, 0, none⟩) 0 0)
    case atStart => exact ⟨rfl, rfl⟩
    case round =>
      obtain ⟨rfl, rfl⟩ := hrel
      go_wp2_with (go_at_fn 25; fail)
      refine hj.mono ?_
      rintro e w5 ⟨rfl, hbel⟩
      go_wp2_with fail
      go_ret
      refine ⟨[], List.Perm.refl _, ?_, below_then hbi hbi.size hbel⟩
      have hbn : bagStr [] = Lib.join [] (bs ⟨#[44]⟩) := by unfold bagStr; rfl
      rw [hbn, J.out]
      try rfl
  · have hlen := (h.below hb0).len
    have hmk := run_make0 54 9 _ 1 16 Tryz.underlying54 Tryz.infoStr ms.length ms.length rfl (by omega) (by omega)
    obtain ⟨w1, hw1⟩ : ∃ w1, w.alloc (.cells #[.map (some b)] 117) = w1 := ⟨_, rfl⟩
    have hbx : w1.heap[w.heap.size]? = some (.cells #[.map (some b)] 117 (0, 0)) := by rw [← hw1]; exact heap_alloc_new _ _
    rw [hw1] at hb0 hlen
    obtain ⟨wm, hwm⟩ : ∃ wm, w1.alloc (.cells (madeCells (Value.string ⟨#[]⟩).cells (ms.length * 1)) 9) = wm := ⟨_, rfl⟩
    have ho := own_made w1 w.heap.size (.string ⟨#[]⟩) ms.length 1 9 hb0.size (by omega)
    have hbm : Below w.heap.size w wm := by rw [← hwm]; exact hb0.alloc hb0.size _
    have hbxm : wm.heap[w.heap.size]? = some (.cells #[.map (some b)] 117 (0, 0)) := by rw [← hwm]; exact row_alloc hbx _
    have hmk1 := hmk w1
    rw [hwm] at ho hmk1
    have hbg := h.below hbm
    obtain ⟨L, hL, hI⟩ := hbg
    obtain ⟨oi, hro, hrg⟩ := hL.range Tryz.underlying115
    obtain ⟨V, hV⟩ : ∃ V : Value, .slice (some ⟨w1.heap.size, 0, none⟩) 0 ms.length = V := ⟨_, rfl⟩
    rw [hV] at ho hmk1
    clear hV hmk hwm h
    obtain ⟨c0, f0⟩ := row1 hbx
    obtain ⟨cm0, fm0⟩ := row1 hbxm
    go_enter Tryz.func57, Tryz.ntmps57
    go_wp2_with fail
    have hbi : Below w.heap.size w (wm.alloc oi) := hbm.alloc hbm.size _
    have hoi := ho.alloc oi
    have hIi := hI.imp (fun _ _ h => ItemAt.below h ((Below.refl _ _).alloc (Nat.le_refl wm.heap.size) oi))
    obtain ⟨wi, hwi⟩ : ∃ wi, wm.alloc oi = wi := ⟨_, rfl⟩
    obtain ⟨it, hit⟩ : ∃ it, wm.heap.size = it := ⟨_, rfl⟩
    rw [hwi] at hbi hoi hIi hrg ⊢
    have hitw : w.heap.size ≤ it := by rw [← hit]; exact hbm.size
    rw [hit] at hrg ⊢
    clear hwi hit ho hI hro hL hbm hbxm cm0 fm0 hmk1 hlen hw1 hbx c0 f0 hb0
    go_loopg [3] (ms.length + 1) (fun gk ow W => Below w.heap.size w W ∧ ∃ (left : List KV) (msL done : List Mem) (ss : List (List UInt8)), RangeAt W it b L left ∧ All2 (ItemAt W) left msL ∧ msL.length + 1 = gk ∧ ms.Perm (done ++ msL) ∧ W.ownsRow w.heap.size 9 1 ow ss.length (strs ss) ∧ ss.length ≤ done.length ∧ Aside (ss = (done.map memStr).filter (!·.isEmpty)))
    case atStart => exact ⟨hbi, L, ms, [], [], hrg, hIi, rfl, List.Perm.refl _, hoi, by simp, rfl⟩
    case round =>
      clear hbi hoi hIi hrg
      obtain ⟨hb, left, msL, done, ss, hrg, hI, hg, hperm, ho, hsl, hX⟩ := hrel
      have hws := hb.size
      have hdl : done.length ≤ ms.length := by
        have := hperm.length_eq
        rw [List.length_append] at this
        omega
      rcases hrg.next 0 with ⟨rfl, hnx⟩ | ⟨p, left', w1, hpm, hnx, hrg1, hg1, hen⟩
      · have hnx' : ∀ ty, (Instr.next (.pointer (some ⟨it, 0, none⟩)) false ty).run Tryz.prog wr = .ok (.tuple #[.bool false]) wr := fun _ => hnx
        clear hnx
        have hm0 : msL = [] := List.eq_nil_of_length_eq_zero (by rw [← hI.length]; rfl)
        rw [hm0, List.append_nil] at hperm
        have hMd : ∀ x ∈ ss, x.length ≤ 400010000000 := by
          rw [hX.out]
          intro x hx
          obtain ⟨m, hm, rfl⟩ := List.mem_map.1 (List.mem_filter.1 hx).1
          exact memStr_ok m (hok m (hperm.mem_iff.2 hm))
        have hjl := join_le 400010000000 ss (bs ⟨#[44]⟩) hMd
        have hjl2 : (Lib.join ss (bs ⟨#[44]⟩)).length ≤ 140737488355328 := by
          refine Nat.le_trans hjl ?_
          have h1 : (bs ⟨#[44]⟩).length = 1 := rfl
          rw [h1]
          have : ss.length * (400010000000 + 1) ≤ 300 * (400010000000 + 1) := Nat.mul_le_mul (by omega) (Nat.le_refl _)
          omega
        have hj := join_any ss u3 ⟨#[44]⟩ wr (Rd.of_own ho) (by omega) hjl2
        have Y : Aside (S (Lib.join ss (bs ⟨#[44]⟩)) = S (bagStr done)) := by
          show _ = _
          rw [bagStr, ← hX.out]
          try rfl
        obtain ⟨jb, hjb⟩ : ∃ jb : ByteArray, S (Lib.join ss (bs ⟨#[44]⟩)) = .string jb := ⟨_, rfl⟩
        rw [hjb] at hj Y
        clear hjb hX hMd hjl hjl2
        go_wp2_with (go_at_fn 25; fail)
        refine hj.mono ?_
        rintro e w5 ⟨rfl, hbel⟩
        go_wp2_with fail
        go_ret
        exact ⟨done, hperm, congrArg Ending.returned Y.out, below_then hb hws hbel⟩
      · have hnx' : ∀ ty, (Instr.next (.pointer (some ⟨it, 0, none⟩)) false ty).run Tryz.prog wr = .ok (.tuple #[.bool true, .string p.1, p.2]) w1 := fun _ => hnx
        clear hnx
        obtain ⟨msL', hpm2, hI2⟩ := All2.perm hpm hI
        match msL', hI2 with
        | m :: msL', hI2 =>
          have hb1 : Below w.heap.size w w1 := hb.grown hg1 hws (by
            intro q hq
            injection hq with hq
            rw [← hq]
            exact hitw)
          have hI1 := hI2.2.imp (fun _ _ h => ItemAt.grownIter (w' := w1) h hrg hg1)
          have hi1 := hI2.1.grownIter hrg hg1
          have ho1 := own_grownIter ho hrg hg1
          have hmm : m ∈ ms := hperm.mem_iff.2 (List.mem_append_right _ (hpm2.mem_iff.2 (List.mem_cons_self ..)))
          have hperm2 : ms.Perm ((done ++ [m]) ++ msL') := by
            refine hperm.trans ?_
            rw [List.append_assoc]
            exact List.Perm.append_left _ hpm2
          have hlen2 : msL'.length + 1 = msL.length := by rw [hpm2.length_eq]; rfl
          clear hI hI2 ho hrg hpm hperm hpm2 hg1
          obtain ⟨vb, mb, iv, hp2, hk, hv, hme, hiv⟩ := hi1
          obtain ⟨kb, pv⟩ := p
          simp only at hp2 hk hnx' hen
          subst hp2
          obtain ⟨A, c, rfl, _, _⟩ := hiv.shape
          have hA : Below w1.heap.size w1 (w1.alloc (.cells #[.string vb, .string mb, .slice A m.props.length c] 158)) := (Below.refl _ _).alloc (Nat.le_refl _) _
          have hfi := memberFromItem_any kb vb mb (.slice A m.props.length c) m.props _ (hiv.below hA) (hok m hmm).num
          go_wp2_with (go_at_fn 101; fail)
          refine hfi.mono ?_
          intro e w2 hpost
          obtain ⟨pv, rfl, hpv, hbel⟩ := hpost
          have hA2 := below_then hA hA.size hbel
          have hb2 := below_then hb1 hb1.size hA2
          have hrg2 := hrg1.below hA2
          have hI2 := hI1.imp (fun _ _ h => ItemAt.below h hA2)
          have ho2 := own_below (C := 0) ho1 hA2
          clear hfi hrg1 hI1 ho1 hbel hA hen hnx' hb1
          obtain ⟨A2, c2, rfl, _, _⟩ := hpv.shape
          have hms := memberString_any m kb vb mb _ true w2 (hw.below hb2) (hok m hmm) hk hv hme hpv
          obtain ⟨sb, hsb⟩ : ∃ sb : ByteArray, S (memStr m) = .string sb ∧ bs sb = memStr m := ⟨⟨(memStr m).toArray⟩, rfl, rfl⟩
          rw [hsb.1] at hms
          go_wp2_with (go_at_fn 46; fail)
          refine hms.mono ?_
          rintro e w5 ⟨rfl, hbel⟩
          have hb5 := below_then hb2 hb2.size hbel
          have hrg5 := hrg2.below hbel
          have hI5 := hI2.imp (fun _ _ h => ItemAt.below h hbel)
          have ho5 := own_below (C := 0) ho2 hbel
          have X : Aside ((if sb.toList.isEmpty then ss else ss ++ [bs sb]) = ((done ++ [m]).map memStr).filter (!·.isEmpty) ∧ S (bs sb) = .string sb) := by
            refine ⟨?_, (S_bs sb).symm⟩
            rw [List.map_append, List.filter_append, ← hX.out, toList_empty, hsb.2]
            cases h : (memStr m).isEmpty
            · simp [h]
            · simp [h]
          clear hms hsb hX hrg2 hI2 ho2 hbel hb2 hiv hpv
          cases hse : sb.toList.isEmpty
          · go_wp2_with (at_builtin; go_must (refine wp_app w.heap.size rfl _ _ 54 rfl 9 (.string ⟨#[]⟩) 1 16 Tryz.underlying54 Tryz.infoStr rfl (by decide) u3 ss.length _ [.string sb] rfl rfl rfl (one_str sb) ho5 hb5.size (by omega) (by omega) ?_); intro v1 w3 ho3 hb3 hf3 hs3)
            go_wp2_with fail
            go_roundg (gk - 1)
            case rel =>
              refine ⟨hb5.trans hb3, left', msL', done ++ [m], ss ++ [bs sb], hrg5.fr hf3, hI5.imp (fun _ _ h => ItemAt.fr h hf3 (by decide)), by omega, hperm2, ?_, by simp; omega, ?_⟩
              · rw [strs, List.map_append, List.length_append]
                show World.ownsRow _ _ _ _ _ _ (ss.map S ++ [S (bs sb)])
                rw [X.out.2]
                exact ho3
              · have := X.out.1
                rw [hse] at this
                exact this
            case measure => omega
          · go_wp2_with fail
            go_roundg (gk - 1)
            case rel =>
              refine ⟨hb5, left', msL', done ++ [m], ss, hrg5, hI5, by omega, hperm2, ho5, by simp; omega, ?_⟩
              have := X.out.1
              rw [hse] at this
              exact this
            case measure => omega
        | [], hI2 => exact hI2.elim
end Go.Proofs.YtleofgndghjflaaGreatDoor
