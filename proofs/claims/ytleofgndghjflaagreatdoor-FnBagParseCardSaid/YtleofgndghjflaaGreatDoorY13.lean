/- Contracts of the functions of this claim, proved once, joined out of smaller texts: TA TB TC TD TE TF TG TH TI TJ. -/
import Derived.Test.YtleofgndghjflaaGreatDoorY11
import Derived.Lib.MapLaws
import Derived.Stop.FmtQuoteTie
import Derived.Lib.OthersKept
set_option linter.unusedVariables false
set_option linter.unusedSimpArgs false
namespace Go.Proofs.YtleofgndghjflaaGreatDoor
open Go Go.RowKit

theorem tok_blank (c : UInt8) (h : tok c = true) : ¬ (c = 32 ∨ c = 9 ∨ c = 61) := by
  rintro (rfl | rfl | rfl) <;> exact absurd h (by decide)
theorem oct_blank (c : UInt8) (h : oct c = true) : ¬ (c = 32 ∨ c = 9) := by
  rintro (rfl | rfl) <;> exact absurd h (by decide)
/-- A text without the blanks behind it, and without those around it. -/
def rstrip (l : List UInt8) : List UInt8 := (l.reverse.dropWhile blank).reverse
def stripB (l : List UInt8) : List UInt8 := rstrip (l.dropWhile blank)
theorem drop_span (p : UInt8 → Bool) (l : List UInt8) : l.drop (l.takeWhile p).length = l.dropWhile p := by
  conv => lhs; arg 2; rw [← List.takeWhile_append_dropWhile (p := p) (l := l)]
  exact List.drop_left
theorem take_span (p : UInt8 → Bool) (l : List UInt8) : l.take (l.takeWhile p).length = l.takeWhile p := by
  conv => lhs; arg 2; rw [← List.takeWhile_append_dropWhile (p := p) (l := l)]
  exact List.take_left
theorem dropWhile_stop (p : UInt8 → Bool) (c : UInt8) (h : p c = false) (V : List UInt8) : ∀ K : List UInt8, (K ++ c :: V).dropWhile p = K.dropWhile p ++ c :: V
  | [] => by simp [List.dropWhile_cons, h]
  | x :: K => by
    rw [List.cons_append, List.dropWhile_cons, List.dropWhile_cons]
    split
    · exact dropWhile_stop p c h V K
    · rfl
theorem takeWhile_stop (p : UInt8 → Bool) (c : UInt8) (h : p c = false) (V : List UInt8) : ∀ K : List UInt8, (K ++ c :: V).takeWhile p = K.takeWhile p
  | [] => by simp [List.takeWhile_cons, h]
  | x :: K => by
    rw [List.cons_append, List.takeWhile_cons, List.takeWhile_cons]
    split
    · rw [takeWhile_stop p c h V K]
    · rfl
theorem dropWhile_all (p : UInt8 → Bool) : ∀ K : List UInt8, K.all p = true → K.dropWhile p = []
  | [], _ => rfl
  | x :: K, h => by
    rw [List.all_cons, Bool.and_eq_true] at h
    rw [List.dropWhile_cons, if_pos h.1]
    exact dropWhile_all p K h.2
theorem dropWhile_nil (p : UInt8 → Bool) : ∀ K : List UInt8, K.dropWhile p = [] → K.all p = true
  | [], _ => rfl
  | x :: K, h => by
    rw [List.dropWhile_cons] at h
    split at h
    · rename_i hx
      rw [List.all_cons, hx, dropWhile_nil p K h]
      rfl
    · cases h
theorem rstrip_app (T D : List UInt8) (hD : D.all blank = true) : rstrip (T ++ D) = rstrip T := by
  unfold rstrip
  rw [List.reverse_append]
  congr 1
  have hD' : D.reverse.all blank = true := by rw [List.all_reverse]; exact hD
  generalize D.reverse = E at hD'
  induction E with
  | nil => rfl
  | cons x E ih =>
    rw [List.all_cons, Bool.and_eq_true] at hD'
    rw [List.cons_append, List.dropWhile_cons, if_pos hD'.1]
    exact ih hD'.2
theorem rstrip_self (T : List UInt8) (h : ∀ c ∈ T, blank c = false) : rstrip T = T := by
  unfold rstrip
  have : T.reverse.dropWhile blank = T.reverse := by
    cases hT : T.reverse with
    | nil => rfl
    | cons x r =>
      have : x ∈ T := List.mem_reverse.1 (by rw [hT]; simp)
      rw [List.dropWhile_cons, if_neg (by rw [h x this]; simp)]
  rw [this, List.reverse_reverse]
theorem rstrip_split (l : List UInt8) : ∃ D, l = rstrip l ++ D ∧ D.all blank = true := by
  refine ⟨(l.reverse.takeWhile blank).reverse, ?_, ?_⟩
  · unfold rstrip
    rw [← List.reverse_append, List.takeWhile_append_dropWhile, List.reverse_reverse]
  · rw [List.all_reverse]
    exact List.all_takeWhile
theorem takeWhile_all (p : UInt8 → Bool) : ∀ (T D : List UInt8), T.all p = true → (D.all blank = true) → (∀ c, p c = true → blank c = false) → (T ++ D).takeWhile p = T ∧ (T ++ D).dropWhile p = D
  | [], [], _, _, _ => ⟨rfl, rfl⟩
  | [], c :: D, _, hD, hp => by
    rw [List.all_cons, Bool.and_eq_true] at hD
    have : p c = false := by
      cases h : p c with
      | false => rfl
      | true => rw [hp c h] at hD; cases hD.1
    rw [List.nil_append, List.takeWhile_cons, List.dropWhile_cons, if_neg (by rw [this]; simp), if_neg (by rw [this]; simp)]
    exact ⟨rfl, rfl⟩
  | x :: T, D, hT, hD, hp => by
    rw [List.all_cons, Bool.and_eq_true] at hT
    obtain ⟨h1, h2⟩ := takeWhile_all p T D hT.2 hD hp
    rw [List.cons_append, List.takeWhile_cons, List.dropWhile_cons, if_pos hT.1, if_pos hT.1, h1, h2]
    exact ⟨rfl, rfl⟩
/-- What is left behind a span and blanks is nothing just where all of the stripped text is of the span's kind. -/
theorem span_strip (p : UInt8 → Bool) (hp : ∀ c, p c = true → blank c = false) (K : List UInt8) :
    (((K.dropWhile blank).dropWhile p).dropWhile blank = [] ↔ (stripB K).all p = true) ∧ ((stripB K).all p = true → (K.dropWhile blank).takeWhile p = stripB K) := by
  unfold stripB
  generalize K.dropWhile blank = L
  have fwd : (L.dropWhile p).dropWhile blank = [] → (rstrip L) = L.takeWhile p := by
    intro h
    have hD := dropWhile_nil _ _ h
    conv => lhs; rw [← List.takeWhile_append_dropWhile (p := p) (l := L)]
    rw [rstrip_app _ _ hD, rstrip_self]
    intro c hc
    have := List.all_eq_true.1 (List.all_takeWhile (l := L) (p := p)) c hc
    exact hp c this
  refine ⟨⟨fun h => ?_, fun h => ?_⟩, fun h => ?_⟩
  · rw [fwd h]
    exact List.all_takeWhile
  · obtain ⟨D, h1, h2⟩ := rstrip_split L
    rw [h1, (takeWhile_all p _ D h h2 hp).2]
    exact dropWhile_all _ _ h2
  · obtain ⟨D, h1, h2⟩ := rstrip_split L
    conv => lhs; rw [h1]
    exact (takeWhile_all p _ D h h2 hp).1
theorem propF_def (l : List UInt8) : propF l =
    if (l.dropWhile blank).takeWhile tok = [] then none else
    match ((l.dropWhile blank).dropWhile tok).dropWhile blank with
    | [] => some ((l.dropWhile blank).takeWhile tok, none)
    | c :: l4 => if c = 61 then
        (if ((l4.dropWhile blank).dropWhile oct).dropWhile blank = [] then
          if (unesc ((l4.dropWhile blank).takeWhile oct)).isSome then some ((l.dropWhile blank).takeWhile tok, some ((l4.dropWhile blank).takeWhile oct)) else none
        else none)
      else none := by
  unfold propF skipN spanN
  simp only [drop_span, take_span, List.length_eq_zero_iff]
  rfl
theorem cut1_spec (c : UInt8) : ∀ l : List UInt8, ((cut1 c l).2.2 = false ∧ c ∉ l ∧ cut1 c l = (l, [], false)) ∨ ((cut1 c l).2.2 = true ∧ c ∉ (cut1 c l).1 ∧ l = (cut1 c l).1 ++ c :: (cut1 c l).2.1)
  | [] => .inl ⟨rfl, by simp, rfl⟩
  | x :: r => by
    unfold cut1
    by_cases hx : x = c
    · simp [hx]
    · have hx' : ¬ c = x := fun e => hx e.symm
      rcases cut1_spec c r with ⟨h1, h2, h3⟩ | ⟨h1, h2, h3⟩
      · left
        simp [hx, hx', h1, h2, h3]
      · right
        simp only [if_neg hx]
        refine ⟨h1, by simp [hx', h2], ?_⟩
        conv => lhs; rw [h3]
        rfl
theorem keyOk_def (l : List UInt8) : keyOk l = true ↔ l ≠ [] ∧ l.all tok = true := by
  unfold keyOk
  cases l <;> simp
theorem tok_nb (c : UInt8) (h : tok c = true) : blank c = false := by
  have := tok_blank c h
  unfold blank
  simp only [Bool.or_eq_false_iff, beq_eq_false_iff_ne]
  exact ⟨fun e => this (.inl e), fun e => this (.inr (.inl e))⟩
theorem oct_nb (c : UInt8) (h : oct c = true) : blank c = false := by
  have := oct_blank c h
  unfold blank
  simp only [Bool.or_eq_false_iff, beq_eq_false_iff_ne]
  exact ⟨fun e => this (.inl e), fun e => this (.inr e)⟩
theorem tok_61 : tok 61 = false := by
  cases h : tok 61 with
  | false => rfl
  | true => exact absurd (.inr (.inr rfl)) (tok_blank 61 h)
/-- A property's fields, by cutting the text at its first '=' and taking blanks away. -/
theorem propF_cut (l : List UInt8) : propF l =
    if keyOk (stripB (cut1 61 l).1) && (stripB (cut1 61 l).2.1).all oct && (unesc (stripB (cut1 61 l).2.1)).isSome then
      some (stripB (cut1 61 l).1, if (cut1 61 l).2.2 then some (stripB (cut1 61 l).2.1) else none) else none := by
  have key : ∀ K, ((K.dropWhile blank).takeWhile tok = [] → ((K.dropWhile blank).dropWhile tok).dropWhile blank = [] → keyOk (stripB K) = false) := by
    intro K h1 h2
    obtain ⟨s1, s2⟩ := span_strip tok tok_nb K
    cases hk : keyOk (stripB K) with
    | false => rfl
    | true =>
      obtain ⟨k1, k2⟩ := (keyOk_def _).1 hk
      rw [← s2 k2, h1] at k1
      exact absurd rfl k1
  rw [propF_def]
  rcases cut1_spec 61 l with ⟨h1, h2, h3⟩ | ⟨h1, h2, h3⟩
  · rw [h3]
    simp only
    have e1 : stripB [] = [] := rfl
    rw [e1, unesc_nil]
    obtain ⟨s1, s2⟩ := span_strip tok tok_nb l
    cases hm : ((l.dropWhile blank).dropWhile tok).dropWhile blank with
    | nil =>
      have ha := s1.1 hm
      rw [s2 ha]
      by_cases hn : stripB l = []
      · simp [hn, keyOk]
      · rw [if_neg hn, show keyOk (stripB l) = true from (keyOk_def _).2 ⟨hn, ha⟩]
        simp
    | cons c l4 =>
      have hc : c ≠ 61 := by
        intro e
        have h4 : c ∈ l := by
          have : c ∈ ((l.dropWhile blank).dropWhile tok).dropWhile blank := by rw [hm]; simp
          exact (List.dropWhile_sublist _).mem ((List.dropWhile_sublist _).mem ((List.dropWhile_sublist _).mem this))
        exact h2 (e ▸ h4)
      have ha : (stripB l).all tok = false := by
        cases h : (stripB l).all tok with
        | false => rfl
        | true => rw [s1.2 h] at hm; cases hm
      have hk : keyOk (stripB l) = false := by unfold keyOk; rw [ha, Bool.and_false]
      rw [hk]
      simp [hc]
  · generalize hK : (cut1 61 l).1 = K at *
    generalize hV : (cut1 61 l).2.1 = V at *
    rw [h1, h3]
    have b61 : blank 61 = false := by decide
    rw [dropWhile_stop blank 61 b61, takeWhile_stop tok 61 tok_61, dropWhile_stop tok 61 tok_61, dropWhile_stop blank 61 b61]
    obtain ⟨s1, s2⟩ := span_strip tok tok_nb K
    obtain ⟨o1, o2⟩ := span_strip oct oct_nb V
    cases hm : ((K.dropWhile blank).dropWhile tok).dropWhile blank with
    | nil =>
      have ha := s1.1 hm
      rw [s2 ha, List.nil_append]
      simp only [if_true]
      by_cases hn : stripB K = []
      · simp [hn, keyOk]
      · rw [if_neg hn, show keyOk (stripB K) = true from (keyOk_def _).2 ⟨hn, ha⟩]
        by_cases ho : ((V.dropWhile blank).dropWhile oct).dropWhile blank = []
        · have h := o1.1 ho
          rw [if_pos ho, o2 h, h]
          simp
        · have h : (stripB V).all oct = false := by
            cases h : (stripB V).all oct with
            | false => rfl
            | true => exact absurd (o1.2 h) ho
          rw [if_neg ho, h]
          simp
    | cons c l4 =>
      have hc : c ≠ 61 := by
        intro e
        have h4 : c ∈ K := by
          have : c ∈ ((K.dropWhile blank).dropWhile tok).dropWhile blank := by rw [hm]; simp
          exact (List.dropWhile_sublist _).mem ((List.dropWhile_sublist _).mem ((List.dropWhile_sublist _).mem this))
        exact h2 (e ▸ h4)
      have ha : (stripB K).all tok = false := by
        cases h : (stripB K).all tok with
        | false => rfl
        | true => rw [s1.2 h] at hm; cases hm
      have hk : keyOk (stripB K) = false := by unfold keyOk; rw [ha, Bool.and_false]
      rw [hk]
      simp [hc]
theorem split_no (c : UInt8) : ∀ l : List UInt8, ∀ p ∈ splitL c l, c ∉ p
  | [], p, h => by simp [splitL] at h; simp [h]
  | x :: r, p, h => by
    have ih := split_no c r
    unfold splitL at h
    split at h
    · rcases List.mem_cons.1 h with rfl | h
      · simp
      · exact ih p h
    · rename_i hx
      split at h
      · simp at h
        subst h
        simp
        exact fun e => hx e.symm
      · rename_i q qs hq
        rw [hq] at ih
        rcases List.mem_cons.1 h with rfl | h
        · simp only [List.mem_cons, not_or]
          exact ⟨fun e => hx e.symm, ih q (by simp)⟩
        · exact ih p (by simp [h])
theorem split_one (c : UInt8) : ∀ l : List UInt8, c ∉ l → splitL c l = [l]
  | [], _ => rfl
  | x :: r, h => by
    simp only [List.mem_cons, not_or] at h
    rw [splitL, if_neg (fun e => h.1 e.symm), split_one c r h.2]
theorem split_more (c : UInt8) (t : List UInt8) : ∀ l : List UInt8, c ∉ l → splitL c (l ++ c :: t) = l :: splitL c t
  | [], _ => by simp [splitL]
  | x :: r, h => by
    simp only [List.mem_cons, not_or] at h
    rw [List.cons_append, splitL, if_neg (fun e => h.1 e.symm), split_more c t r h.2]
/-- Parts that are joined are split again. -/
theorem split_flat (c : UInt8) : ∀ (ps : List (List UInt8)) (p : List UInt8), c ∉ p → (∀ q ∈ ps, c ∉ q) → splitL c (p ++ ps.flatMap (c :: ·)) = p :: ps
  | [], p, h, _ => by simp [split_one c p h]
  | q :: ps, p, h, hq => by
    rw [List.flatMap_cons, List.cons_append, split_more c _ p h, split_flat c ps q (hq q (by simp)) (fun x hx => hq x (by simp [hx]))]
/-- The pieces that are not empty. -/
def npc (r : List UInt8) : List (List UInt8) := (splitL 59 r).filter (!·.isEmpty)
theorem fold_filter : ∀ (ps : List (List UInt8)) (acc : List UInt8), ps.foldl nstep acc = (ps.filter (!·.isEmpty)).foldl nstep acc
  | [], _ => rfl
  | p :: ps, acc => by
    rw [List.foldl_cons, List.filter_cons]
    cases hp : p.isEmpty
    · simp only [Bool.not_false, if_true, List.foldl_cons]
      exact fold_filter ps _
    · have : nstep acc p = acc := by unfold nstep; rw [hp]; rfl
      rw [this]
      simpa using fold_filter ps acc
theorem norm_pc (r : List UInt8) : normL r = match npc r with | [] => [] | p :: ps => p ++ ps.flatMap (59 :: ·) := by
  unfold normL
  rw [fold_filter]
  have hn : ∀ p ∈ npc r, p ≠ [] := by
    intro p hp
    have := (List.mem_filter.1 hp).2
    intro e
    rw [e] at this
    cases this
  show (npc r).foldl nstep [] = _
  cases hq : npc r with
  | nil => rfl
  | cons p ps =>
    rw [hq] at hn
    have h1 : nstep [] p = p := by
      unfold nstep
      rw [List.isEmpty_eq_false_iff.2 (hn p (by simp))]
      rfl
    rw [List.foldl_cons, h1, fold_ne ps p (hn p (by simp)) (fun q hq => hn q (by simp [hq]))]
theorem norm_flat (r : List UInt8) : (if (normL r).isEmpty then [] else 59 :: normL r) = (npc r).flatMap (59 :: ·) := by
  rw [norm_pc]
  have hn : ∀ p ∈ npc r, p ≠ [] := by
    intro p hp
    have := (List.mem_filter.1 hp).2
    intro e
    rw [e] at this
    cases this
  cases hq : npc r with
  | nil => rfl
  | cons p ps =>
    rw [hq] at hn
    have hp := hn p (by simp)
    have : (p ++ ps.flatMap (59 :: ·)).isEmpty = false := by
      rw [List.isEmpty_eq_false_iff]
      intro e
      exact hp (List.append_eq_nil_iff.1 e).1
    simp only [this, Bool.false_eq_true, if_false, List.flatMap_cons, List.cons_append]
theorem propsM_filter : ∀ ps : List (List UInt8), propsM ps = propsM (ps.filter (!·.isEmpty))
  | [] => rfl
  | p :: ps => by
    rw [List.filter_cons]
    cases hp : p.isEmpty
    · simp only [Bool.not_false, if_true, propsM, hp, Bool.false_eq_true, if_false]
      rw [propsM_filter ps]
    · simp only [propsM, hp, if_true]
      simpa using propsM_filter ps
theorem norm_split (r : List UInt8) : propsM (splitL 59 (normL r)) = propsM (npc r) := by
  rw [norm_pc]
  have hn : ∀ p ∈ npc r, (59 : UInt8) ∉ p := fun p hp => split_no 59 r p (List.mem_filter.1 hp).1
  cases hq : npc r with
  | nil => rfl
  | cons p ps =>
    rw [hq] at hn
    simp only
    rw [split_flat 59 ps p (hn p (by simp)) (fun q hq => hn q (by simp [hq]))]
theorem propI_some (x : List UInt8) : (propI x).isSome = (propF x).isSome := by
  unfold propI
  split
  · rename_i h; simp [h]
  · rename_i h; simp [h]
  · rename_i k v h
    rw [h, Option.isSome_map, propF_pct x k v h]
    rfl
/-- Properties of pieces, where all of them are right. -/
def prs (ps : List (List UInt8)) : List Pr := ps.filterMap propI
theorem propsM_all : ∀ ps : List (List UInt8), (∀ p ∈ ps, p ≠ [] ∧ (propF p).isSome = true) → propsM ps = some (prs ps)
  | [], _ => rfl
  | p :: ps, h => by
    obtain ⟨h1, h2⟩ := h p (by simp)
    unfold propsM prs
    rw [List.isEmpty_eq_false_iff.2 h1, List.filterMap_cons]
    rw [← propI_some] at h2
    cases hx : propI p with
    | none => rw [hx] at h2; cases h2
    | some x =>
      simp only [Bool.false_eq_true, if_false]
      rw [propsM_all ps (fun q hq => h q (by simp [hq]))]
      rfl
theorem meta_pc (r : List UInt8) : metaOk r = (npc r).all fun p => (propF p).isSome := by
  unfold metaOk npc
  rw [List.all_filter]
  congr 1
  funext p
  unfold pieceOk
  cases p.isEmpty <;> rfl
theorem propsOf_norm (r : List UInt8) (h : metaOk r = true) : propsOf (normL r) = prs (npc r) := by
  unfold propsOf
  rw [norm_split, propsM_all]
  · rfl
  · intro p hp
    rw [meta_pc] at h
    refine ⟨?_, List.all_eq_true.1 h p hp⟩
    have := (List.mem_filter.1 hp).2
    intro e
    rw [e] at this
    cases this
/-- A text that is UTF-8 is its runes written anew. -/
theorem rep_valid : ∀ (n : Nat) (l : List UInt8), l.length ≤ n → Lib.validD l = true → rep l = l
  | 0, l, h, _ => by
    have : l = [] := List.eq_nil_of_length_eq_zero (by omega)
    subst this
    rfl
  | n + 1, l, h, hv => by
    by_cases hne : l = []
    · subst hne; rfl
    · have hl : 0 < l.length := List.length_pos_iff.2 hne
      have hw := Lib.decodeL_width l
      rw [Lib.validD_step l hne] at hv
      split at hv
      · cases hv
      · rename_i hbad
        rw [rep_step l hne, Lib.encode_decode l hne hbad, rep_valid n _ (by rw [List.length_drop]; omega) hv, List.take_append_drop]
theorem fixU_rep (l : List UInt8) : fixU l = rep l := by
  unfold fixU
  split
  · rename_i h
    exact (rep_valid _ l (Nat.le_refl _) h).symm
  · rfl
theorem decode_L (s : ByteArray) (k : Nat) : Utf8.decode s k = Lib.decodeL ((bs s).drop k) := (Lib.decodeL_drop s k).symm
end Go.Proofs.YtleofgndghjflaaGreatDoor

set_option linter.unusedVariables false
set_option linter.unusedSimpArgs false
namespace Go.Proofs.YtleofgndghjflaaGreatDoor
open Go Go.RowKit

theorem int_beq (a b : UInt8) : ((a.toNat : Int) == (b.toNat : Int)) = decide (a = b) := by
  by_cases h : a = b
  · rw [h, decide_eq_true rfl]; simp
  · rw [decide_eq_false h, beq_eq_false_iff_ne]
    intro e
    exact h (UInt8.toNat_inj.1 (by omega))
set_option maxHeartbeats 2000000 in
set_option maxRecDepth 100000 in
theorem bagCut_any (c : UInt8) (s : ByteArray) (w : World) (hs : s.size ≤ 1000000) :
    Calls Tryz.prog 108 #[.string s, .int .u8 (c.toNat : Int)] w (CutPost c s w) := by
  obtain ⟨ci, hci⟩ : ∃ ci : Int, (c.toNat : Int) = ci := ⟨_, rfl⟩
  have CI : Aside ((c.toNat : Int) = ci) := hci
  rw [hci]
  clear hci
  go_enter Tryz.func108, Tryz.ntmps108
  go_wp2_with fail
  go_loopg [10] (s.size + 1) (fun gk i W => W = w ∧ ∃ k : Nat, i = .int .i64 k ∧ k ≤ s.size ∧ k + gk = s.size + 1 ∧ Aside (∀ j : Nat, j < k → (bs s)[j]? ≠ some c))
  case atStart => exact ⟨rfl, 0, rfl, by omega, by omega, fun j hj => by omega⟩
  case round =>
    obtain ⟨rfl, k, rfl, hk, hg, hX⟩ := hrel
    by_cases hlt : k < s.size
    · obtain ⟨x, hx⟩ : ∃ x, s[k] = x := ⟨_, rfl⟩
      have hix := run_idx s (k : Int) k rfl hlt x hx
      have hsx : Aside ((bs s)[k]? = some x) := by
        show (bs s)[k]? = some x
        rw [List.getElem?_eq_getElem (by rw [bs_length]; exact hlt), ← hx]
        rfl
      clear hx
      have hbq := int_beq x c
      rw [CI.out] at hbq
      by_cases hxc : x = c
      · rw [decide_eq_true hxc] at hbq
        have E : Aside (x = c) := hxc
        clear hxc
        go_wp2_with fail
        go_quiet (fail)
        go_wp2
        go_ret3
        refine ⟨_, _, _, rfl, ?_, below_drewN' (Below.refl _ _) _⟩
        rw [cut1_at c (bs s) k (by rw [hsx.out, E.out]) hX.out]
        rw [ext_bs, ext_bs, List.drop_zero, Nat.sub_zero, ← bs_length, ← List.length_drop, List.take_length]
      · rw [decide_eq_false hxc] at hbq
        have E : Aside (¬ x = c) := hxc
        clear hxc
        go_wp2_with fail
        go_roundg (gk - 1)
        case rel =>
          refine ⟨rfl, k + 1, by go_num, by omega, by omega, fun j hj => ?_⟩
          rcases Nat.lt_or_ge j k with h | h
          · exact hX.out j h
          · obtain rfl : j = k := by omega
            rw [hsx.out]
            intro e
            injection e with e
            exact E.out e
        case measure => omega
    · go_wp2_with fail
      go_ret3
      refine ⟨_, _, _, rfl, ?_, Below.refl _ _⟩
      rw [cut1_none c (bs s)]
      intro j hj
      have h1 := (List.getElem?_eq_some_iff.1 hj).1
      rw [bs_length] at h1
      exact hX.out j (by omega) hj

set_option maxHeartbeats 2000000 in
set_option maxRecDepth 100000 in
theorem bagSplit_any (c : UInt8) (s : ByteArray) (w : World) (hs : s.size ≤ 1000000) :
    Calls Tryz.prog 67 #[.string s, .int .u8 (c.toNat : Int)] w (SplitPost c s w) := by
  have L := bs_length s
  have hlen := splitL_len c (bs s)
  have X : Aside (splitL c (bs s) = [] ++ splitL c (bs s) ∧ (splitL c (bs s)).length ≤ s.size + 1) := ⟨rfl, by omega⟩
  clear L hlen
  go_enter Tryz.func67, Tryz.ntmps67
  go_wp2_with fail
  go_loopg [0, 5] (s.size + 1) (fun gk x o wx => Below w.heap.size w wx ∧ ∃ (y : ByteArray) (done : List (List UInt8)), x = .string y ∧ y.size < gk ∧ wx.ownsRow w.heap.size 9 1 o done.length (strs done) ∧
      Aside (splitL c (bs s) = done ++ splitL c (bs y) ∧ (splitL c (bs s)).length ≤ s.size + 1) ∧ y.size ≤ 1000000 ∧ done.length ≤ 1000000)
  case atStart => exact ⟨Below.refl _ _, s, [], rfl, by omega, own_nil _ _ _ _, X, by omega, by simp⟩
  case round =>
    obtain ⟨hb, y, done, rfl, hy, ho, hX, hy1, hd⟩ := hrel
    clear X
    have hcut := bagCut_any c y wr hy1
    go_wp2_with (go_at_fn 108; fail)
    refine hcut.mono ?_
    rintro e w1 ⟨b, a, f, rfl, hc, hb1⟩
    clear hcut
    have C : Aside (cut1 c (bs y) = (bs b, bs a, f)) := hc
    have ho1 := own_below (C := 0) ho hb1
    have hbB := below_then hb hb.size hb1
    have hsz : w.heap.size ≤ w1.heap.size := hbB.size
    clear hc ho hb hb1
    cases f with
    | false =>
      go_wp2_with (at_builtin; go_must (refine wp_app w.heap.size rfl _ _ 54 rfl 9 (.string ⟨#[]⟩) 1 16 Tryz.underlying54 Tryz.infoStr rfl (by decide) u5 done.length _ [.string b] rfl rfl rfl (one_str b) ho1 hsz (by omega) (by omega) ?_); intro v1 w2 ho2 hb2 hf2 hs2)
      go_ret
      have e1 : splitL c (bs s) = done ++ [bs b] := by rw [hX.out.1, splitL_cut, C.out]; rfl
      refine ⟨v1, rfl, ?_, hbB.trans hb2⟩
      rw [e1, List.length_append]
      have := Rd.of_own ho2
      rw [S_bs] at this
      simpa [strs] using this
    | true =>
      go_wp2_with (at_builtin; go_must (refine wp_app w.heap.size rfl _ _ 54 rfl 9 (.string ⟨#[]⟩) 1 16 Tryz.underlying54 Tryz.infoStr rfl (by decide) u5 done.length _ [.string b] rfl rfl rfl (one_str b) ho1 hsz (by omega) (by omega) ?_); intro v1 w2 ho2 hb2 hf2 hs2)
      have hl := cut1_len c (bs y)
      rw [C.out, bs_length, bs_length, bs_length] at hl
      simp only [if_true] at hl
      have e1 : splitL c (bs s) = (done ++ [bs b]) ++ splitL c (bs a) := by rw [hX.out.1, splitL_cut, C.out, List.append_assoc]; rfl
      have h2 := hX.out.2
      have e2 : done.length + 1 ≤ s.size := by
        rw [e1, List.length_append] at h2
        have h3 := List.length_pos_iff.2 (splitL_ne c (bs a))
        simp only [List.length_append, List.length_cons, List.length_nil] at h2
        omega
      have E : Aside (splitL c (bs s) = (done ++ [bs b]) ++ splitL c (bs a)) := e1
      clear e1 h2
      go_roundg (y.size)
      case rel =>
        refine ⟨hbB.trans hb2, a, done ++ [bs b], rfl, by omega, ?_, ⟨E.out, hX.out.2⟩, by omega, by simp; omega⟩
        rw [List.length_append]
        rw [S_bs] at ho2
        simpa [strs] using ho2
      case measure => omega

theorem blankLit_any (x : UInt8) (w : World) : Calls Tryz.prog 196 #[.int .u8 (x.toNat : Int)] w fun e w' => e = .returned (.bool (blank x)) ∧ w = w' := by
  obtain ⟨b, hb⟩ : ∃ b, blank x = b := ⟨_, rfl⟩
  rw [hb]
  have h1 := int_beq x 32
  have h2 := int_beq x 9
  rw [show ((32 : UInt8).toNat : Int) = 32 from rfl] at h1
  rw [show ((9 : UInt8).toNat : Int) = 9 from rfl] at h2
  have B : Aside (blank x = b) := hb
  clear hb
  by_cases h32 : x = 32
  · rw [decide_eq_true h32] at h1
    have E : Aside (b = true) := by show _ = _; rw [← B.out, h32]; rfl
    clear h32 h2
    go_enter Tryz.func196, Tryz.ntmps196
    go_wp2
    go_ret
    exact ⟨by rw [E.out]; rfl, rfl⟩
  · rw [decide_eq_false h32] at h1
    by_cases h9 : x = 9
    · rw [decide_eq_true h9] at h2
      have E : Aside (b = true) := by show _ = _; rw [← B.out, h9]; rfl
      clear h32 h9
      go_enter Tryz.func196, Tryz.ntmps196
      go_wp2
      go_ret
      exact ⟨by rw [E.out]; rfl, rfl⟩
    · rw [decide_eq_false h9] at h2
      have E : Aside (b = false) := by show _ = _; rw [← B.out]; simp [blank, h32, h9]
      clear h32 h9
      go_enter Tryz.func196, Tryz.ntmps196
      go_wp2
      go_ret
      exact ⟨by rw [E.out]; rfl, rfl⟩
theorem rstrip_snoc (l : List UInt8) (x : UInt8) (h : blank x = true) : rstrip (l ++ [x]) = rstrip l := rstrip_app l [x] (by simp [h])
theorem rstrip_stop (l : List UInt8) (x : UInt8) (h : blank x = false) : rstrip (l ++ [x]) = l ++ [x] := by
  unfold rstrip
  rw [List.reverse_append, List.reverse_cons, List.reverse_nil, List.nil_append, List.singleton_append, List.dropWhile_cons, if_neg (by rw [h]; simp), List.reverse_cons, List.reverse_reverse]
theorem bs_last (y : ByteArray) (x : UInt8) (h : 0 < y.size) (hx : y[y.size - 1]'(by omega) = x) : bs y = bs (y.extract 0 (y.size - 1)) ++ [x] := by
  rw [ext_bs, List.drop_zero, Nat.sub_zero]
  have hl : (bs y).length = y.size := bs_length y
  have : (bs y)[y.size - 1]? = some x := by
    rw [List.getElem?_eq_getElem (by omega), ← hx]
    rfl
  have h2 := List.take_append_drop (y.size - 1) (bs y)
  rw [List.drop_eq_getElem_cons (by omega), List.drop_eq_nil_of_le (by omega)] at h2
  rw [← (List.getElem?_eq_some_iff.1 this).2]
  exact h2.symm

set_option maxHeartbeats 2000000 in
set_option maxRecDepth 100000 in
theorem bagBlanks_any (s : ByteArray) (w : World) (hs : s.size ≤ 1000000) :
    Calls Tryz.prog 149 #[.string s] w fun e w' => (∃ t, e = .returned (.string t) ∧ bs t = stripB (bs s) ∧ t.size ≤ s.size) ∧ w' = w := by
  go_enter Tryz.func149, Tryz.ntmps149
  go_upto_block 0 with fail
  go_cut [0] (fun v W => W = w ∧ ∃ y, v = .string y ∧ y.size ≤ s.size ∧ Aside (bs y = (bs s).dropWhile blank))
  case first =>
    go_wp2_with fail
    go_loopg [0] (s.size + 1) (fun gk v W => W = w ∧ ∃ y, v = .string y ∧ y.size < gk ∧ y.size ≤ s.size ∧ Aside ((bs s).dropWhile blank = (bs y).dropWhile blank))
    case atStart => exact ⟨rfl, s, rfl, by omega, by omega, rfl⟩
    case round =>
      obtain ⟨rfl, y, rfl, hy, hys, hX⟩ := hrel
      cases he : y.toList.isEmpty
      · have hpos : 0 < y.size := by
          rcases Nat.eq_zero_or_pos y.size with h | h
          · rw [toList_empty, List.isEmpty_eq_false_iff] at he
            exact absurd (List.eq_nil_of_length_eq_zero (by rw [bs_length]; exact h)) he
          · exact h
        obtain ⟨x, hx⟩ : ∃ x, y[0] = x := ⟨_, rfl⟩
        have hix := run_idx y 0 0 rfl hpos x hx
        have hbl := blankLit_any x wr
        have hdr := bs_drop y 0 hpos
        rw [List.drop_zero, hx] at hdr
        obtain ⟨b, hb⟩ : ∃ b, blank x = b := ⟨_, rfl⟩
        rw [hb] at hbl
        have D : Aside (bs y = x :: (bs y).drop 1 ∧ blank x = b) := ⟨hdr, hb⟩
        clear hx hdr hb
        go_wp2_with (go_at_fn 196; fail)
        refine hbl.mono ?_
        rintro e w' ⟨rfl, rfl⟩
        cases b
        · go_wp2_with fail
          go_meet
          refine ⟨rfl, y, rfl, hys, ?_⟩
          show _ = _
          rw [hX.out, D.out.1, List.dropWhile_cons, if_neg (by rw [D.out.2]; simp)]
        · go_wp2_with fail
          go_roundg (y.size)
          case rel =>
            refine ⟨rfl, _, rfl, ?_, ?_, ?_⟩
            · rw [ext_size _ _ _ (Nat.le_refl _)]; omega
            · rw [ext_size _ _ _ (Nat.le_refl _)]; omega
            · show _ = _
              rw [hX.out, ext_bs, ← bs_length, ← List.length_drop, List.take_length]
              conv => lhs; rw [D.out.1]
              rw [List.dropWhile_cons, if_pos D.out.2]
          case measure => omega
      · have hnil : bs y = [] := by rw [toList_empty] at he; exact List.isEmpty_iff.1 he
        go_wp2_with fail
        go_meet
        refine ⟨rfl, y, rfl, hys, ?_⟩
        show _ = _
        rw [hX.out, hnil]
        rfl
  case rest =>
    obtain ⟨rfl, y0, rfl, hy0, hY⟩ := hcut
    go_wp2_with fail
    go_loopg [0] (s.size + 1) (fun gk v W => W = wc ∧ ∃ y, v = .string y ∧ y.size < gk ∧ y.size ≤ s.size ∧ Aside (rstrip (bs y0) = rstrip (bs y)))
    case atStart => exact ⟨rfl, y0, rfl, by omega, hy0, rfl⟩
    case round =>
      obtain ⟨rfl, y, rfl, hy, hys, hX⟩ := hrel
      cases he : y.toList.isEmpty
      · have hpos : 0 < y.size := by
          rcases Nat.eq_zero_or_pos y.size with h | h
          · rw [toList_empty, List.isEmpty_eq_false_iff] at he
            exact absurd (List.eq_nil_of_length_eq_zero (by rw [bs_length]; exact h)) he
          · exact h
        obtain ⟨x, hx⟩ : ∃ x, y[y.size - 1]'(by omega) = x := ⟨_, rfl⟩
        have hix := run_idx y ((y.size : Int) - 1) (y.size - 1) (by omega) (by omega) x hx
        have hbl := blankLit_any x wr
        have hla := bs_last y x hpos hx
        obtain ⟨b, hb⟩ : ∃ b, blank x = b := ⟨_, rfl⟩
        rw [hb] at hbl
        have D : Aside (bs y = bs (y.extract 0 (y.size - 1)) ++ [x] ∧ blank x = b) := ⟨hla, hb⟩
        have htn : ((y.size : Int) - 1).toNat = y.size - 1 := by omega
        clear hx hla hb
        go_wp2_with (go_at_fn 196; fail)
        refine hbl.mono ?_
        rintro e w' ⟨rfl, rfl⟩
        cases b
        · go_wp2_with fail
          go_ret
          refine ⟨⟨y, rfl, ?_, hys⟩, rfl⟩
          unfold stripB
          rw [← hY.out, hX.out, D.out.1, rstrip_stop _ _ D.out.2]
        · go_wp2_with fail
          go_roundg (y.size)
          case rel =>
            refine ⟨rfl, _, rfl, ?_, ?_, ?_⟩
            · rw [ext_size _ _ _ (by omega)]; omega
            · rw [ext_size _ _ _ (by omega)]; omega
            · show _ = _
              rw [hX.out, D.out.1, rstrip_snoc _ _ D.out.2]
          case measure => omega
      · have hnil : bs y = [] := by rw [toList_empty] at he; exact List.isEmpty_iff.1 he
        go_wp2_with fail
        go_ret
        refine ⟨⟨y, rfl, ?_, hys⟩, rfl⟩
        unfold stripB
        rw [← hY.out, hX.out, hnil]
        rfl
end Go.Proofs.YtleofgndghjflaaGreatDoor

set_option linter.unusedVariables false
set_option linter.unusedSimpArgs false
namespace Go.Proofs.YtleofgndghjflaaGreatDoor
open Go Go.RowKit

theorem nums_back : ∀ l : List UInt8, (Go.Extern.FmtText.nums l).map (fun x : Int => x.toNat.toUInt8) = l
  | [] => rfl
  | x :: l => by
    have ih := nums_back l
    unfold Go.Extern.FmtText.nums at ih ⊢
    rw [List.map_cons, List.map_cons, ih]
    congr 1
    show UInt8.ofNat x.toNat = x
    exact UInt8.ofNat_toNat
set_option maxRecDepth 100000 in
theorem encode_L (r : Nat) : bs (Utf8.encode (r : Int)) = Lib.encodeRune (r : Int) := by
  have h := Go.Extern.FmtText.encode_eq r
  generalize Utf8.encode (r : Int) = en at h ⊢
  unfold Lib.encodeRune
  rw [← h]
  exact (nums_back _).symm
set_option maxHeartbeats 2000000 in
set_option maxRecDepth 100000 in
theorem replaced_any (s : ByteArray) (w : World) (hs : s.size ≤ 1000000) :
    Calls Tryz.prog 110 #[.string s] w fun e w' => (∃ t, e = .returned (.string t) ∧ bs t = fixU (bs s)) ∧ Below w.heap.size w w' := by
  obtain ⟨R, hR⟩ : ∃ R, fixU (bs s) = R := ⟨_, rfl⟩
  rw [hR]
  have A : Aside (rep (bs s) = R) := by show _ = _; rw [← hR, fixU_rep]
  clear hR
  go_enter Tryz.func110, Tryz.ntmps110
  go_wp2_with fail
  go_loopg [3] (s.size + 1) (fun gk v W => ∃ (k : Nat) (acc : ByteArray), W = w.iter s k ∧ v = .string acc ∧ k ≤ s.size ∧ k + gk = s.size + 1 ∧ acc.size ≤ 4 * k ∧ Aside (bs acc ++ rep ((bs s).drop k) = R))
  case atStart => exact ⟨0, ⟨#[]⟩, rfl, rfl, by omega, by omega, by simp [ByteArray.size], by show _ = _; rw [List.drop_zero]; exact A.out⟩
  case round =>
    obtain ⟨k, acc, rfl, rfl, hk, hg, hal, hX⟩ := hrel
    have hb : Below w.heap.size w (w.iter s k) := (Below.refl _ _).alloc (Nat.le_refl _) _
    by_cases hlt : k < s.size
    · have hn := run_next_any (P := Tryz.prog) w s k 0 hlt
      have hwid := Lib.decodeL_width ((bs s).drop k)
      have hdz := (decGo_ext s k hlt).2
      have hst := rep_step ((bs s).drop k) (by intro h; have := congrArg List.length h; rw [List.length_drop, bs_length] at this; simp at this; omega)
      rw [decode_L] at hn
      obtain ⟨r, hr⟩ : ∃ r, (Lib.decodeL ((bs s).drop k)).1 = r := ⟨_, rfl⟩
      obtain ⟨z, hz⟩ : ∃ z, (Lib.decodeL ((bs s).drop k)).2 = z := ⟨_, rfl⟩
      rw [hr, hz] at hn
      rw [hz] at hwid hdz
      rw [hr, hz, List.drop_drop] at hst
      obtain ⟨en, hen⟩ : ∃ en, Utf8.encode (r : Int) = en := ⟨_, rfl⟩
      have hcv : ∀ W, (convert 21 9 (.int .i32 (r : Int))).run Tryz.prog W = .ok (.string en) W := fun W => by
        rw [← hen]
        exact run_convert_int_string W 21 9 .i32 r (by rw [Tryz.underlying21]; rfl) Tryz.underlying9
      have hel := encRune_len (r : Int)
      rw [← encode_L, hen, bs_length] at hel
      have X : Aside (bs (acc ++ en) ++ rep ((bs s).drop (k + z)) = R) := by
        have h1 := hX.out
        rw [hst, ← encode_L, hen] at h1
        show _ = _
        rw [bs_app, List.append_assoc]
        exact h1
      have hsum : (9223372036854775807 < acc.size + en.size) = False := by rw [eq_iff_iff, iff_false]; omega
      clear hst hr hz hX hen
      go_wp2_with fail
      go_roundg (gk - z)
      case rel => exact ⟨k + z, acc ++ en, rfl, rfl, by omega, by omega, by rw [ByteArray.size_append]; omega, X⟩
      case measure => omega
    · have hn := run_next_end (P := Tryz.prog) w s k 0 hlt
      have Y : Aside (bs acc = R) := by
        have := hX.out
        rw [List.drop_eq_nil_of_le (by rw [bs_length]; omega), rep_nil, List.append_nil] at this
        exact this
      clear hX
      go_wp2_with fail
      go_ret
      exact ⟨⟨acc, rfl, Y.out⟩, hb⟩

theorem bytesApp1 (l : List UInt8) (x : UInt8) : Lib.byteCells l ++ [Value.int .u8 (x.toNat : Int)] = Lib.byteCells (l ++ [x]) := by
  simp [Lib.byteCells]
set_option maxHeartbeats 1000000 in
set_option maxRecDepth 100000 in
theorem WriteByte_any (B b : Nat) (l : List UInt8) (x : UInt8) (w : World) (h : Bd B b l w) (hlen : l.length ≤ 100000000) (hBw : B ≤ w.heap.size) :
    Calls Tryz.prog 198 #[.pointer (some ⟨b, 0, none⟩), .int .u8 (x.toNat : Int)] w fun e w' => e = .returned .nilIface ∧ Bd B b (l ++ [x]) w' ∧ Below B w w' := by
  unfold Bd at h
  have c0 := h.cell0
  have hlt := h.lt
  obtain ⟨hB, v, hbk, hown, hne⟩ := h
  have c1 : w.cell? ⟨b, 1, none⟩ = some v := by rw [Lib.cell_of_heap hbk]; rfl
  have f1 : w.frozen? ⟨b, 1, none⟩ = false := Lib.frozen_of_heap hbk 1
  have hcc := copyCheck_used b w c0
  have hbl : (Lib.byteCells l).length = l.length := by simp [Lib.byteCells]
  have AR : Aside (Lib.byteCells l ++ [Value.int .u8 (x.toNat : Int)] = Lib.byteCells (l ++ [x])) := bytesApp1 l x
  obtain ⟨xi, hxi⟩ : ∃ xi : Int, (x.toNat : Int) = xi := ⟨_, rfl⟩
  rw [hxi] at AR ⊢
  clear hxi
  go_enter Tryz.func198, Tryz.ntmps198
  go_wp2_with fail
  refine hcc.mono ?_
  rintro e w' ⟨rfl, rfl⟩
  go_wp2_with (at_builtin; go_must (refine wp_app (W := w') B rfl _ _ 57 rfl 5 (.int .u8 0) 1 1 Tryz.underlying57 Tryz.infoByte rfl (by decide) v _ (Lib.byteCells l) [.int .u8 xi] rfl rfl rfl (by intro u hu; rw [List.mem_singleton.1 hu]; rfl) hown hBw (by rw [hbl]; omega) (by rw [hbl]; omega) ?_); intro v' w2 hown' hbel hfr hss; rw [hbl] at hown'; obtain ⟨A3, c3, rfl⟩ := own_shape hown'; have hb2 := (hfr.block _ hlt (by intro c f h; rw [hbk] at h; cases h)).trans hbk; have d0 : w2.cell? ⟨b, 0, none⟩ = some (.pointer (some ⟨b, 0, none⟩)) := (by rw [Lib.cell_of_heap hb2]; rfl); have d1 : w2.cell? ⟨b, 1, none⟩ = some v := (by rw [Lib.cell_of_heap hb2]; rfl); have f2 : w2.frozen? ⟨b, 1, none⟩ = false := Lib.frozen_of_heap hb2 1)
  go_ret
  refine ⟨rfl, ?_, hbel.setCell hB _⟩
  unfold Bd
  rw [← AR.out]
  refine Lib.BuilderAt.put hB hb2 ?_ (by decide)
  rw [List.length_append, hbl]
  exact hown'

theorem Cap_any (b : Nat) (A : Option Addr) (n c : Nat) (w : World) (h : w.cell? ⟨b, 1, none⟩ = some (.slice A n c)) : Calls Tryz.prog 197 #[.pointer (some ⟨b, 0, none⟩)] w fun e w' => e = .returned (.int .i64 c) ∧ w' = w := by
  go_enter Tryz.func197, Tryz.ntmps197
  go_wp2
  go_ret
  exact ⟨rfl, rfl⟩
theorem Bd.cap {B b : Nat} {l : List UInt8} {w : World} (h : Bd B b l w) : ∃ A n c, w.cell? ⟨b, 1, none⟩ = some (.slice A n c) := by
  obtain ⟨_, v, h2, h3, _⟩ := h
  obtain ⟨A, c, rfl⟩ := own_shape h3
  exact ⟨A, _, c, by rw [Lib.cell_of_heap h2]; rfl⟩
theorem extract_le (s : ByteArray) (a b : Nat) (h : b ≤ s.size) : (s.extract a b).size ≤ b - a := by
  rw [ext_size s a b h]
  exact Nat.le_refl _

/-- strings.ToValidUTF8: a text that is UTF-8 as it is; of another one, some text. -/
def ToVPost (s : ByteArray) (w : World) (e : Ending) (w' : World) : Prop := ∃ t, e = .returned (.string t) ∧ (Lib.validD (bs s) = true → t = s) ∧ t.size ≤ 4 * s.size + 4 ∧ Below w.heap.size w w'
set_option maxHeartbeats 4000000 in
set_option maxRecDepth 100000 in
theorem toValid_any (s : ByteArray) (w : World) (hw : Laid w) (hs : s.size ≤ 1000000) :
    Calls Tryz.prog 150 #[.string s, .string ⟨#[239, 191, 189]⟩] w (ToVPost s w) := by
  obtain ⟨vd, hvd⟩ : ∃ b, Lib.validD (bs s) = b := ⟨_, rfl⟩
  have VD : Aside (Lib.validD (bs s) = vd) := hvd
  clear hvd
  go_enter Tryz.func150, Tryz.ntmps150
  go_upto_block 0 with fail
  go_cut [0] (fun v W => ∃ y : ByteArray, v = .string y ∧ y.size ≤ s.size ∧ Below w.heap.size w W ∧ ((y = s ∧ W.heap[w.heap.size]? = some (.cells #[.pointer none, .slice none 0 0] 109 (0, 0))) ∨ (vd = false ∧ ∃ l, l.length + y.size ≤ s.size ∧ Bd w.heap.size w.heap.size l W)))
  case first =>
    go_wp2_with fail
    have hb0 : Below w.heap.size w ((w.alloc (.cells #[.pointer none, .slice none 0 0] 109)).iter s 0) := ((Below.refl _ _).alloc (Nat.le_refl _) _).alloc (by simp) _
    have hx0 : ((w.alloc (.cells #[.pointer none, .slice none 0 0] 109)).iter s 0).heap[w.heap.size]? = some (.cells #[.pointer none, .slice none 0 0] 109 (0, 0)) := row_alloc (heap_alloc_new _ _) _
    have hi0 : ((w.alloc (.cells #[.pointer none, .slice none 0 0] 109)).iter s 0).heap[w.heap.size + 1]? = some (.stringIter s 0) := heap_alloc_2 _ _ _
    go_loopg [0] (s.size + 1) (fun gk v W => v = .string s ∧ Below w.heap.size w W ∧ W.heap[w.heap.size]? = some (.cells #[.pointer none, .slice none 0 0] 109 (0, 0)) ∧ ∃ k : Nat, W.heap[w.heap.size + 1]? = some (.stringIter s k) ∧ k ≤ s.size ∧ k + gk = s.size + 1 ∧ Aside (vd = true → Lib.validD ((bs s).drop k) = true))
    case atStart => exact ⟨rfl, hb0, hx0, 0, hi0, by omega, by omega, by show _ → _; rw [List.drop_zero]; intro h; rw [VD.out, h]⟩
    case round =>
      clear hb0 hx0 hi0
      obtain ⟨rfl, hb, hx, k, hi, hk, hg, hX⟩ := hrel
      have hws := hb.size
      by_cases hlt : k < s.size
      · have hn := Lib.run_next_any_at (P := Tryz.prog) wr (w.heap.size + 1) s k 0 hi hlt
        have hwid := Lib.decodeL_width ((bs s).drop k)
        have hne : (bs s).drop k ≠ [] := by intro h; have := congrArg List.length h; rw [List.length_drop, bs_length] at this; simp at this; omega
        have hst := Lib.validD_step ((bs s).drop k) hne
        have hdg := decGo_ext s k hlt
        obtain ⟨t, ht⟩ : ∃ t, s.extract k s.size = t := ⟨_, rfl⟩
        have htz : t.size = s.size - k := by rw [← ht]; exact ext_size _ _ _ (Nat.le_refl _)
        rw [ht] at hdg
        rw [decode_L] at hn
        obtain ⟨r, hr⟩ : ∃ r, (Lib.decodeL ((bs s).drop k)).1 = r := ⟨_, rfl⟩
        obtain ⟨z, hz⟩ : ∃ z, (Lib.decodeL ((bs s).drop k)).2 = z := ⟨_, rfl⟩
        rw [hr, hz] at hn
        rw [hz] at hwid
        rw [hr, hz, List.drop_drop] at hst
        have hdz := hdg.2
        rw [hz] at hdz
        have hi2 := Lib.iterAt_heap wr (w.heap.size + 1) s k (k + z) hi
        have hx2 : (wr.iterAt (w.heap.size + 1) s (k + z)).heap[w.heap.size]? = some (.cells #[.pointer none, .slice none 0 0] 109 (0, 0)) := (Lib.iterAt_other wr (w.heap.size + 1) w.heap.size s (k + z) (by omega)).trans hx
        have hb2 : Below w.heap.size w (wr.iterAt (w.heap.size + 1) s (k + z)) := hb.trans ⟨rfl, rfl, rfl, by rw [Lib.iterAt_size]; exact Nat.le_refl _, fun i hi => Lib.iterAt_other _ _ _ _ _ (by omega)⟩
        obtain ⟨w2, hw2⟩ : ∃ w2, wr.iterAt (w.heap.size + 1) s (k + z) = w2 := ⟨_, rfl⟩
        rw [hw2] at hn hi2 hx2 hb2
        have hde := Tryz.utf8_DecodeRuneInString t w2 (hw.below hb2).utf8
        rw [hdg.1, hr, hz] at hde
        have X : Aside (vd = true → (¬ (r = 65533 ∧ z = 1)) ∧ Lib.validD ((bs s).drop (k + z)) = true) := by
          intro h
          have h1 := hX.out h
          rw [hst] at h1
          split at h1
          · cases h1
          · rename_i hh
            exact ⟨hh, h1⟩
        have hws2 := hb2.size
        clear hdg hst hX hr hz hw2 hb hx hi hne
        by_cases hr1 : r = 65533
        · have hrz : ((r : Int) != 65533) = false := by rw [bne_eq_false_iff_eq]; omega
          have R1 : Aside (r = 65533) := hr1
          clear hr1
          go_wp2_with (go_at_fn 172; fail)
          refine hde.mono ?_
          rintro e w3 ⟨rfl, hb3⟩
          have hb4 := below_then hb2 hws2 hb3
          have hx4 := (hb3.block _ (Array.getElem?_eq_some_iff.1 hx2).1).trans hx2
          have hi4 := (hb3.block _ (Array.getElem?_eq_some_iff.1 hi2).1).trans hi2
          have hws4 := hb4.size
          clear hde hb3 hn hi2 hx2 hb2
          by_cases hz1 : z = 1
          · have hzz : ((z : Int) == 1) = true := by rw [beq_iff_eq]; omega
            have VF : Aside (vd = false) := by
              show _ = _
              cases hv : vd with
              | false => rfl
              | true => exact absurd ⟨R1.out, hz1⟩ (X.out hv).1
            clear hz1
            have hgr := Tryz.Builder_Grow_fresh w.heap.size w.heap.size (s.size + 3) w3 (Nat.le_refl _) hx4 hws4 (by omega)
            rw [show ((s.size + 3 : Nat) : Int) = (s.size : Int) + 3 by omega] at hgr
            have hrs : (⟨#[239, 191, 189]⟩ : ByteArray).size = 3 := rfl
            go_wp2_with (go_at_fn 50; fail)
            refine hgr.mono ?_
            rintro e w5 ⟨rfl, hbd, hb5⟩
            have hbd : Bd w.heap.size w.heap.size [] w5 := hbd
            have hb6 : Below w.heap.size w w5 := hb4.trans hb5
            obtain ⟨u, hu⟩ : ∃ u, s.extract 0 k = u := ⟨_, rfl⟩
            have huz : u.size = k := by rw [← hu, ext_size _ _ _ (by omega)]; omega
            have hWS := WriteString_any w.heap.size w.heap.size [] u w5 hbd (by simp; omega) hb6.size
            clear hgr hb5 hx4 hi4 hb4 hbd
            go_wp2_with (go_at_fn 51; fail)
            refine hWS.mono ?_
            rintro e w6 ⟨rfl, hbd6, hb7⟩
            have hb8 := hb6.trans hb7
            clear hWS hb7 hb6
            go_wp2_with fail
            go_meet
            exact ⟨t, rfl, by omega, hb8, .inr ⟨VF.out, _, by rw [List.nil_append, bs_length]; omega, hbd6⟩⟩
          · have hzz : ((z : Int) == 1) = false := beq_eq_false_iff_ne.2 (by omega)
            clear hz1
            go_wp2_with fail
            go_roundg (gk - z)
            case rel => exact ⟨rfl, hb4, hx4, k + z, hi4, by omega, by omega, fun h => (X.out h).2⟩
            case measure => omega
        · have hrz : ((r : Int) != 65533) = true := by rw [bne_iff_ne]; omega
          clear hr1 hde
          go_wp2_with fail
          go_roundg (gk - z)
          case rel => exact ⟨rfl, hb2, hx2, k + z, hi2, by omega, by omega, fun h => (X.out h).2⟩
          case measure => omega
      · have hn := Lib.run_next_end_at (P := Tryz.prog) wr (w.heap.size + 1) s k 0 hi hlt
        go_wp2_with fail
        go_meet
        exact ⟨s, rfl, Nat.le_refl _, hb, .inl ⟨rfl, hx⟩⟩
  case rest =>
    obtain ⟨y, rfl, hys, hb, hcase⟩ := hcut
    rcases hcase with ⟨rfl, hx⟩ | ⟨hvd, l0, hl0, hbd⟩
    · have c1 : wc.cell? ⟨w.heap.size, 1, none⟩ = some (.slice none 0 0) := by rw [cell_of_row _ _ _ _ _ _ hx]; rfl
      have hcp := Cap_any w.heap.size none 0 0 wc c1
      go_wp2_with (go_at_fn 197; fail)
      refine hcp.mono ?_
      rintro e w' ⟨rfl, rfl⟩
      go_wp2_with fail
      go_ret
      exact ⟨_, rfl, fun _ => rfl, by omega, hb⟩
    · obtain ⟨CA, cn, cc, c1⟩ := hbd.cap
      have hcp := Cap_any w.heap.size CA cn cc wc c1
      have VF : Aside (vd = false) := hvd
      clear hvd
      go_wp2_with (go_at_fn 197; fail)
      refine hcp.mono ?_
      rintro e w' ⟨rfl, rfl⟩
      clear hcp c1
      by_cases hc0 : cc = 0
      · have hcz : ((cc : Int) == 0) = true := by rw [beq_iff_eq]; omega
        clear hc0
        go_wp2_with fail
        go_ret
        exact ⟨y, rfl, fun h => (by rw [VD.out, VF.out] at h; cases h), by omega, hb⟩
      · have hcz : ((cc : Int) == 0) = false := beq_eq_false_iff_ne.2 (by omega)
        clear hc0
        go_wp2_with fail
        go_loopg [10, 11] (y.size + 1) (fun gk v10 v11 W => Below w.heap.size w W ∧ ∃ (f : Bool) (i : Nat) (l : List UInt8), v10 = .bool f ∧ v11 = .int .i64 i ∧ i ≤ y.size ∧ i + gk = y.size + 1 ∧ l.length ≤ l0.length + 3 * i ∧ Bd w.heap.size w.heap.size l W)
        case atStart => exact ⟨hb, false, 0, l0, rfl, rfl, by omega, by omega, by omega, hbd⟩
        case round =>
          clear hb hbd hcz
          obtain ⟨hb, f, k, l, rfl, rfl, hk, hg, hll, hbd⟩ := hrel
          have hws := hb.size
          by_cases hlt : k < y.size
          · obtain ⟨x, hx⟩ : ∃ x, y[k] = x := ⟨_, rfl⟩
            have hix := run_idx y (k : Int) k rfl hlt x hx
            clear hx
            by_cases ha : x.toNat < 128
            · have hal : (x.toNat : Int) < 128 := by omega
              have hWB := WriteByte_any w.heap.size w.heap.size l x wr hbd (by omega) hws
              clear ha
              go_wp2_with (go_at_fn 198; fail)
              refine hWB.mono ?_
              rintro e w6 ⟨rfl, hbd6, hb7⟩
              go_wp2_with fail
              go_roundg (gk - 1)
              case rel => exact ⟨hb.trans hb7, false, k + 1, l ++ [x], rfl, by go_num, by omega, by omega, by simp; omega, hbd6⟩
              case measure => omega
            · have hal : ¬ (x.toNat : Int) < 128 := by omega
              have hdg := decGo_ext y k hlt
              have hwid := Lib.decodeL_width ((bs y).drop k)
              obtain ⟨t, ht⟩ : ∃ t, y.extract k y.size = t := ⟨_, rfl⟩
              rw [ht] at hdg
              obtain ⟨r, hr⟩ : ∃ r, (Lib.decodeL ((bs y).drop k)).1 = r := ⟨_, rfl⟩
              obtain ⟨z, hz⟩ : ∃ z, (Lib.decodeL ((bs y).drop k)).2 = z := ⟨_, rfl⟩
              have hde := Tryz.utf8_DecodeRuneInString t wr (hw.below hb).utf8
              rw [hdg.1, hr, hz] at hde
              have hdz := hdg.2
              rw [hz] at hdz hwid
              clear hdg hr ha
              go_wp2_with (go_at_fn 172; fail)
              refine hde.mono ?_
              rintro e w3 ⟨rfl, hb3⟩
              have hb4 := below_then hb hws hb3
              have hbd3 := hbd.below hb3
              have hws4 := hb4.size
              clear hde hb3 hbd
              by_cases hz1 : z = 1
              · have hzz : ((z : Int) == 1) = true := by rw [beq_iff_eq]; omega
                clear hz1
                cases f
                · have hWS := WriteString_any w.heap.size w.heap.size l ⟨#[239, 191, 189]⟩ w3 hbd3 (by simp [ByteArray.size]; omega) hws4
                  have hen : (bs ⟨#[239, 191, 189]⟩).length = 3 := rfl
                  go_wp2_with (go_at_fn 51; fail)
                  refine hWS.mono ?_
                  rintro e w6 ⟨rfl, hbd6, hb7⟩
                  go_wp2_with fail
                  go_roundg (gk - 1)
                  case rel => exact ⟨hb4.trans hb7, true, k + 1, _, rfl, by go_num, by omega, by omega, by rw [List.length_append]; omega, hbd6⟩
                  case measure => omega
                · go_wp2_with fail
                  go_roundg (gk - 1)
                  case rel => exact ⟨hb4, true, k + 1, l, rfl, by go_num, by omega, by omega, by omega, hbd3⟩
                  case measure => omega
              · have hzz : ((z : Int) == 1) = false := beq_eq_false_iff_ne.2 (by omega)
                obtain ⟨u, hu⟩ : ∃ u, y.extract k (k + z) = u := ⟨_, rfl⟩
                have huz : u.size = z := by rw [← hu, ext_size _ _ _ (by omega)]; omega
                have hWS := WriteString_any w.heap.size w.heap.size l u w3 hbd3 (by omega) hws4
                clear hz1
                go_wp2_with (go_at_fn 51; fail)
                refine hWS.mono ?_
                rintro e w6 ⟨rfl, hbd6, hb7⟩
                go_wp2_with fail
                go_roundg (gk - z)
                case rel => exact ⟨hb4.trans hb7, false, k + z, _, rfl, by go_num, by omega, by omega, by rw [List.length_append, bs_length]; omega, hbd6⟩
                case measure => omega
          · have hst := Tryz.Builder_String_any w.heap.size w.heap.size l wr (.inr hbd) hws
            go_wp2_with (go_at_fn 53; fail)
            refine hst.mono ?_
            rintro e w4 ⟨rfl, hb6⟩
            go_wp2_with fail
            go_ret
            refine ⟨_, rfl, fun h => ?_, ?_, hb.trans hb6⟩
            · rw [VD.out, VF.out] at h; cases h
            · show (⟨l.toArray⟩ : ByteArray).size ≤ _
              have : (⟨l.toArray⟩ : ByteArray).size = l.length := by simp [ByteArray.size]
              omega
end Go.Proofs.YtleofgndghjflaaGreatDoor

set_option linter.unusedVariables false
set_option linter.unusedSimpArgs false
namespace Go.Proofs.YtleofgndghjflaaGreatDoor
open Go Go.RowKit

theorem ret_cell_2 {P : Program} {fn : Func} {p u1 u2 : Tmp} {ty : TypeId} {tmps : Array Value} {W : World} {g : Nat} {t : TypeId} {cs : Array Value} {fr : Nat × Nat} {d : TypeDesc} (h : fn.results = #[.cell p ty, .tmp u1, .tmp u2])
    (hp : tmps.getD p undef = .pointer (some ⟨g, 0, none⟩)) (hg : W.heap[g]? = some (.cells cs t fr)) (hu : P.underlying ty = some d) (hd : (match d with | .struct _ | .array _ _ => true | _ => false) = true) (hi : (P.info? ty).map (·.size) = some cs.size) :
    (results fn tmps).run P W = .ok (.tuple #[.agg cs, tmps.getD u1 undef, tmps.getD u2 undef]) W := by
  have hp' : tmps[p]?.getD undef = .pointer (some ⟨g, 0, none⟩) := by simpa using hp
  simp [results, h, hp', asAddr, Result.andThen, run_loadVar_row W g t ty cs fr d hg hu hd hi]
theorem ret_cell_4 {P : Program} {fn : Func} {p u1 u2 u3 u4 : Tmp} {ty : TypeId} {tmps : Array Value} {W : World} {g : Nat} {t : TypeId} {cs : Array Value} {fr : Nat × Nat} {d : TypeDesc} (h : fn.results = #[.cell p ty, .tmp u1, .tmp u2, .tmp u3, .tmp u4])
    (hp : tmps.getD p undef = .pointer (some ⟨g, 0, none⟩)) (hg : W.heap[g]? = some (.cells cs t fr)) (hu : P.underlying ty = some d) (hd : (match d with | .struct _ | .array _ _ => true | _ => false) = true) (hi : (P.info? ty).map (·.size) = some cs.size) :
    (results fn tmps).run P W = .ok (.tuple #[.agg cs, tmps.getD u1 undef, tmps.getD u2 undef, tmps.getD u3 undef, tmps.getD u4 undef]) W := by
  have hp' : tmps[p]?.getD undef = .pointer (some ⟨g, 0, none⟩) := by simpa using hp
  simp [results, h, hp', asAddr, Result.andThen, run_loadVar_row W g t ty cs fr d hg hu hd hi]

/-- Where the reference leaves a property open. -/
def pOpen (x : List UInt8) : Bool := ((stripB (cut1 61 x).1).isEmpty && !(cut1 61 x).2.2) || ((propF x).isSome && !Lib.validD ((unesc (stripB (cut1 61 x).2.1)).getD []))
def PP (x : ByteArray) (ok op : Bool) (w : World) (e : Ending) (w' : World) : Prop :=
  ∃ kb h vb, e = .returned (.tuple #[.agg #[.string kb, .bool h, .string vb], .bool ok, .bool op]) ∧ (ok = true → ∃ p, [Value.string kb, .bool h, .string vb] = ipcells p ∧ (op = false → propI (bs x) = some p)) ∧ kb.size ≤ 1000000 ∧ vb.size ≤ 5000000 ∧ Below w.heap.size w w'
def PPPost (x : ByteArray) (w : World) (e : Ending) (w' : World) : Prop := PP x (propF (bs x)).isSome (pOpen (bs x)) w e w'
theorem isEmpty_bs (t : ByteArray) : (bs t).isEmpty = t.toList.isEmpty := (toList_empty t).symm

set_option maxHeartbeats 8000000 in
set_option maxRecDepth 100000 in
theorem parsedProperty_any (x : ByteArray) (w : World) (hw : Laid w) (hs : x.size ≤ 1000000) : Calls Tryz.prog 111 #[.string x] w (PPPost x w) := by
  have hb1 : Below w.heap.size w (w.alloc (.cells #[.string ⟨#[]⟩, .bool false, .string ⟨#[]⟩] 23)) := (Below.refl _ _).alloc (Nat.le_refl _) _
  have hp1 := heap_alloc_new w (.cells #[.string ⟨#[]⟩, .bool false, .string ⟨#[]⟩] 23)
  obtain ⟨w1, hw1⟩ : ∃ w1, w.alloc (.cells #[.string ⟨#[]⟩, .bool false, .string ⟨#[]⟩] 23) = w1 := ⟨_, rfl⟩
  rw [hw1] at hb1 hp1
  have hcut := bagCut_any 61 x w1 hs
  rw [show (((61 : UInt8).toNat : Nat) : Int) = 61 from rfl] at hcut
  have hpc := propF_cut (bs x)
  obtain ⟨ok, hok⟩ : ∃ ok, (propF (bs x)).isSome = ok := ⟨_, rfl⟩
  obtain ⟨op, hop⟩ : ∃ op, pOpen (bs x) = op := ⟨_, rfl⟩
  unfold PPPost
  rw [hok, hop]
  have hpo : op = (((stripB (cut1 61 (bs x)).1).isEmpty && !(cut1 61 (bs x)).2.2) || (ok && !Lib.validD ((unesc (stripB (cut1 61 (bs x)).2.1)).getD []))) := by rw [← hop, ← hok]; rfl
  have hlen := cut1_len 61 (bs x)
  clear hop
  go_enter Tryz.func111, Tryz.ntmps111
  go_wp2_with (go_at_fn 108; fail)
  refine hcut.mono ?_
  rintro e w2 ⟨b, a, f, rfl, hc, hb2⟩
  rw [hc] at hpc hpo hlen
  simp only [bs_length] at hpc hpo hlen
  have hb12 := below_then hb1 hb1.size hb2
  have hp2 := (hb2.block _ (Array.getElem?_eq_some_iff.1 hp1).1).trans hp1
  have hbb := bagBlanks_any b w2 (by omega)
  have hba := bagBlanks_any a w2 (by omega)
  have P0 : Aside ((propF (bs x)).isSome = ok ∧ propF (bs x) = (if keyOk (stripB (bs b)) && (stripB (bs a)).all oct && (unesc (stripB (bs a))).isSome then some (stripB (bs b), if f then some (stripB (bs a)) else none) else none) ∧ op = (((stripB (bs b)).isEmpty && !f) || (ok && !Lib.validD ((unesc (stripB (bs a))).getD []))) ∧ (f = false → bs a = [])) := by
    refine ⟨hok, hpc, hpo, fun h => ?_⟩
    have h3 := cut1_spec 61 (bs x)
    rw [hc] at h3
    rcases h3 with ⟨_, _, h4⟩ | ⟨h4, _⟩
    · injection h4 with h5 h6
      injection h6 with h6 h7
    · rw [h] at h4
      cases h4
  clear hcut hc hpc hpo hok hw1 hp1 hb1 hb2
  go_wp2_with (go_at_fn 149; fail)
  refine hbb.mono ?_
  rintro e w' ⟨⟨kt, rfl, hkt, hkz⟩, rfl⟩
  clear hbb
  go_wp2_with (go_at_fn 149; fail)
  refine hba.mono ?_
  rintro e w' ⟨⟨vt, rfl, hvt, hvz⟩, rfl⟩
  clear hba
  have P1 : Aside ((propF (bs x)).isSome = ok ∧ propF (bs x) = (if keyOk (bs kt) && (bs vt).all oct && (unesc (bs vt)).isSome then some (bs kt, if f then some (bs vt) else none) else none) ∧ op = ((kt.toList.isEmpty && !f) || (ok && !Lib.validD ((unesc (bs vt)).getD []))) ∧ (f = false → bs vt = [])) := by
    have := P0.out
    rw [hkt, hvt, ← isEmpty_bs, hkt]
    refine ⟨this.1, this.2.1, this.2.2.1, fun h => ?_⟩
    rw [this.2.2.2 h]
    rfl
  clear P0 hkt hvt
  obtain ⟨ke, hke⟩ : ∃ ke, kt.toList.isEmpty = ke := ⟨_, rfl⟩
  have KE : Aside (kt.toList.isEmpty = ke) := hke
  obtain ⟨⟨c0, c1, c2⟩, f0, f1, f2⟩ := row3 hp2
  go_upto_region 3 with fail
  go_cut [25] from 20 to 25 (fun v W => v = .bool (ke && !f) ∧ W = w')
  case first =>
    cases ke <;> cases f
    all_goals
      go_wp2_with fail
      go_meet
      exact ⟨rfl, rfl⟩
  case rest =>
    obtain ⟨rfl, rfl⟩ := hcut
    obtain ⟨o1, ho1⟩ : ∃ o1, (ke && !f) = o1 := ⟨_, rfl⟩
    rw [ho1]
    have O1 : Aside ((ke && !f) = o1) := ho1
    clear ho1 hke
    cases o1 with
    | true =>
      have hO := O1.out
      rw [Bool.and_eq_true, Bool.not_eq_true'] at hO
      have OO : Aside (ke = true ∧ f = false) := hO
      clear hO
      go_wp2_with fail
      (try simp only [Exit.inBlock, Exit.then]); refine bodyPost_ret (ret_cell_2 rfl rfl (row_set (row_set (row_set hp2 0 _) 1 _) 2 _) Tryz.underlying23 rfl (by kernel_rfl)) rfl ?_
      have h1 : ok = false := by
        rw [← P1.out.1, P1.out.2.1]
        have : keyOk (bs kt) = false := by unfold keyOk; rw [isEmpty_bs, KE.out, OO.out.1]; rfl
        rw [this]
        rfl
      have h2 : op = true := by rw [P1.out.2.2.1, KE.out, OO.out.1, OO.out.2]; rfl
      rw [h1, h2]
      refine ⟨⟨#[]⟩, false, ⟨#[]⟩, rfl, fun h => by (cases h), by simp [ByteArray.size], by simp [ByteArray.size], ((hb12.setCell (by simp) _).setCell (by simp) _).setCell (by simp) _⟩
    | false =>
      have hde := decoded_any vt wc (by omega)
      obtain ⟨U, hU⟩ : ∃ U, unesc (bs vt) = U := ⟨_, rfl⟩
      unfold DecPost at hde
      rw [hU] at hde
      have UU : Aside (unesc (bs vt) = U) := hU
      obtain ⟨ub, hub, hubs⟩ := S_str (U.getD [])
      rw [hub] at hde
      obtain ⟨us, hus⟩ : ∃ us, U.isSome = us := ⟨_, rfl⟩
      rw [hus] at hde
      have US : Aside (U.isSome = us ∧ bs ub = U.getD []) := ⟨hus, hubs⟩
      have hubz : ub.size ≤ 1000000 := by
        rw [← bs_length, hubs]
        cases U with
        | none => simp
        | some u =>
          have := unesc_le hU
          rw [bs_length] at this
          simp only [Option.getD_some]
          omega
      clear hU hub hubs hus
      go_wp2_with (go_at_fn 71; fail)
      refine hde.mono ?_
      rintro e w3 ⟨hb3, rfl⟩
      have hb13 := below_then hb12 hb12.size hb3
      have hp3 := (hb3.block _ (Array.getElem?_eq_some_iff.1 hp2).1).trans hp2
      have htk := token_any kt w3 (by omega)
      have hoc := octets_any vt w3 (by omega)
      obtain ⟨ko, hko⟩ : ∃ ko, keyOk (bs kt) = ko := ⟨_, rfl⟩
      obtain ⟨oo, hoo⟩ : ∃ oo, (bs vt).all oct = oo := ⟨_, rfl⟩
      rw [hko] at htk
      rw [hoo] at hoc
      have P2 : Aside (ok = (ko && oo && us)) := by
        show _ = _
        rw [← P1.out.1, P1.out.2.1, hko, hoo, UU.out, US.out.1]
        cases ko <;> cases oo <;> cases us <;> rfl
      have P3 : Aside (ok = true → propF (bs x) = some (bs kt, if f then some (bs vt) else none)) := by
        intro h
        have h1 := P1.out.2.1
        rw [hko, hoo, UU.out, US.out.1, ← P2.out, h] at h1
        exact h1
      clear hde hb3 hp2 c0 c1 c2 f0 f1 f2 hko hoo hb12
      obtain ⟨⟨c0, c1, c2⟩, f0, f1, f2⟩ := row3 hp3
      go_upto_region 6 with fail
      go_cut [43] from 32 to 43 (fun v W => v = .bool (!(ko && oo && us)) ∧ W = w3)
      case first =>
        go_wp2_with (go_at_fn 41; fail)
        refine htk.mono ?_
        rintro e w' ⟨rfl, rfl⟩
        cases ko
        · go_wp2_with fail
          go_meet
          exact ⟨rfl, rfl⟩
        · go_wp2_with (go_at_fn 72; fail)
          refine hoc.mono ?_
          rintro e w' ⟨rfl, rfl⟩
          cases oo
          · go_wp2_with fail
            go_meet
            exact ⟨rfl, rfl⟩
          · cases us
            all_goals
              go_wp2_with fail
              go_meet
              exact ⟨rfl, rfl⟩
      case rest =>
        obtain ⟨rfl, rfl⟩ := hcut
        rw [← P2.out]
        clear htk hoc
        cases ok with
        | false =>
          have h2 : op = false := by rw [P1.out.2.2.1, KE.out, O1.out]; rfl
          have HO : Aside (op = false) := h2
          clear h2
          go_wp2_with fail
          (try simp only [Exit.inBlock, Exit.then]); refine bodyPost_ret (ret_cell_2 rfl rfl (row_set (row_set (row_set hp3 0 _) 1 _) 2 _) Tryz.underlying23 rfl (by kernel_rfl)) rfl ?_
          rw [HO.out]
          refine ⟨⟨#[]⟩, false, ⟨#[]⟩, rfl, fun h => by (cases h), by simp [ByteArray.size], by simp [ByteArray.size], ((hb13.setCell (by simp) _).setCell (by simp) _).setCell (by simp) _⟩
        | true =>
          have htv := toValid_any ub wc (hw.below hb13) hubz
          go_wp2_with (go_at_fn 150; fail)
          refine htv.mono ?_
          intro e w4 hpost
          obtain ⟨tb, rfl, htb, htz, hb4⟩ := hpost
          have hb14 := below_then hb13 hb13.size hb4
          have hp4 := (hb4.block _ (Array.getElem?_eq_some_iff.1 hp3).1).trans hp3
          have hva := Tryz.utf8_ValidString ub w4 (by omega) (hw.below hb14).utf8
          obtain ⟨vd, hvd⟩ : ∃ vd, Lib.validD (bs ub) = vd := ⟨_, rfl⟩
          have hvd' : Lib.validD ub.data.toList = vd := hvd
          rw [hvd'] at hva
          have TB : Aside ((vd = true → tb = ub) ∧ op = (!vd) ∧ Lib.validD (bs ub) = vd) := by
            refine ⟨fun h => htb (by rw [hvd, h]), ?_, hvd⟩
            rw [P1.out.2.2.1, KE.out, O1.out, UU.out, ← US.out.2, hvd]
            rfl
          clear htv hb4 hp3 c0 c1 c2 f0 f1 f2 hvd hvd' htb hb13
          go_wp2_with (go_at_fn 70; fail)
          refine hva.mono ?_
          rintro e w5 ⟨rfl, hb5⟩
          have hb15 := below_then hb14 hb14.size hb5
          have hp5 := (hb5.block _ (Array.getElem?_eq_some_iff.1 hp4).1).trans hp4
          obtain ⟨⟨c0, c1, c2⟩, f0, f1, f2⟩ := row3 hp5
          clear hva hb5 hp4 hb14
          go_wp2_with fail
          (try simp only [Exit.inBlock, Exit.then]); refine bodyPost_ret (ret_cell_2 rfl rfl (row_set (row_set (row_set hp5 0 _) 1 _) 2 _) Tryz.underlying23 rfl (by kernel_rfl)) rfl ?_
          have hub : f = false → bs ub = [] := fun hf => by rw [US.out.2, ← UU.out, P1.out.2.2.2 hf, unesc_nil]; rfl
          refine ⟨kt, f, tb, by rw [TB.out.2.1]; rfl, fun _ => ⟨(bs kt, if f then some (bs tb) else none), ?_, fun hv => ?_⟩, by omega, by omega, ((hb15.setCell (by simp) _).setCell (by simp) _).setCell (by simp) _⟩
          · unfold ipcells
            cases f with
            | true =>
              rw [S_bs, S_bs tb]
              rfl
            | false =>
              have hvd : vd = true := by rw [← TB.out.2.2, hub rfl]; rfl
              rw [TB.out.1 hvd, S_bs, S_bs ub, hub rfl]
              rfl
          · have hvd : vd = true := by rw [TB.out.2.1] at hv; simpa using hv
            rw [TB.out.1 hvd]
            unfold propI
            rw [P3.out (by trivial)]
            cases f with
            | false => rfl
            | true =>
              have hub2 := US.out.2
              simp only [if_true]
              rw [UU.out]
              cases U with
              | none => have h8 := P2.out; simp [← US.out.1] at h8
              | some u =>
                have hubu : bs ub = u := hub2
                have hvu : Lib.validD u = true := by rw [← hubu, TB.out.2.2, hvd]
                have hfx : fixU u = u := by unfold fixU; rw [hvu, if_pos rfl]
                simp [hubu, hfx]
end Go.Proofs.YtleofgndghjflaaGreatDoor

set_option linter.unusedVariables false
set_option linter.unusedSimpArgs false
namespace Go.Proofs.YtleofgndghjflaaGreatDoor
open Go Go.RowKit

theorem parseM_eq (l b a k v : List UInt8) (f1 f : Bool) (h1 : cut1 59 l = (b, a, f1)) (h2 : cut1 61 b = (k, v, f)) :
    parseM l = if f && keyOk (Lib.trimSpaceD k) && (Lib.trimSpaceD v).all oct && (unesc (Lib.trimSpaceD v)).isSome then
      (if (npc a).all (fun p => (propF p).isSome) then some (Lib.trimSpaceD k, fixU ((unesc (Lib.trimSpaceD v)).getD []), normL a) else none) else none := by
  have h3 : f1 = false → a = [] := by
    intro hf
    rcases cut1_spec 59 l with ⟨_, _, h⟩ | ⟨h, _⟩
    · rw [h1] at h
      simp only [Prod.mk.injEq] at h
      exact h.2.1
    · rw [h1] at h
      rw [hf] at h
      cases h
  rw [← meta_pc]
  unfold parseM
  rw [h1]
  simp only
  rw [h2]
  simp only
  have hm : metaOk [] = true := by decide
  have hn : normL [] = [] := by decide
  cases f1 with
  | false =>
    rw [h3 rfl, hm, hn]
    cases f <;> cases keyOk (Lib.trimSpaceD k) <;> cases (Lib.trimSpaceD v).all oct <;> cases unesc (Lib.trimSpaceD v) <;> simp
  | true =>
    cases metaOk a <;> cases f <;> cases keyOk (Lib.trimSpaceD k) <;> cases (Lib.trimSpaceD v).all oct <;> cases unesc (Lib.trimSpaceD v) <;> simp
theorem npc_nil (a : List UInt8) (h : normL a = []) : npc a = [] := by
  have := norm_flat a
  rw [h] at this
  cases hq : npc a with
  | nil => rfl
  | cons p ps => rw [hq] at this; simp at this
theorem memStr_norm (k v a : List UInt8) (h : keyOk k = true) : memStr (toMem (k, v, normL a)) = k ++ 61 :: enc v ++ (npc a).flatMap (59 :: ·) := by
  unfold memStr memTail toMem
  rw [← norm_flat]
  simp [h]
theorem memProps_norm (k v a : List UInt8) (h : metaOk a = true) : memProps (toMem (k, v, normL a)) = prs (npc a) := by
  unfold memProps toMem
  simp only
  split
  · rename_i he
    rw [npc_nil a (List.isEmpty_iff.1 he)]
    rfl
  · exact propsOf_norm a h
def npAt (L : List (List UInt8)) (k : Nat) : List (List UInt8) := (L.take k).filter (!·.isEmpty)
theorem np_skip (L : List (List UInt8)) (k : Nat) (hk : k < L.length) (h : L[k] = []) : npAt L (k + 1) = npAt L k := by
  unfold npAt
  rw [List.take_succ_eq_append_getElem hk, List.filter_append, h]
  simp
theorem np_more (L : List (List UInt8)) (k : Nat) (hk : k < L.length) (p : List UInt8) (hp : L[k] = p) (h : p.isEmpty = false) : npAt L (k + 1) = npAt L k ++ [p] := by
  unfold npAt
  rw [List.take_succ_eq_append_getElem hk, List.filter_append, hp]
  simp [h]
theorem prs_snoc (ps : List (List UInt8)) (p : List UInt8) (x : Pr) (h : propI p = some x) : prs (ps ++ [p]) = prs ps ++ [x] := by
  unfold prs
  rw [List.filterMap_append]
  simp [h]
theorem fixU_size (l : List UInt8) : (fixU l).length ≤ 4 * l.length := fixU_len l

def IsB (v : Value) : Prop := ∃ l : Bool, v = .bool l
/-- A member out of a part of a header: its cells, its text, whether it is right; 'open' where the reference leaves it open. -/
def PM (x : ByteArray) (R : Option (List UInt8 × List UInt8 × List UInt8)) (w : World) (e : Ending) (w' : World) : Prop :=
  ∃ (kb vb : ByteArray) (pv : Value) (text : ByteArray) (l o : Bool) (ps : List Pr), e = .returned (.tuple #[.agg #[.string kb, .string vb, pv], .string text, .bool R.isSome, .bool l, .bool o]) ∧ Rd true w' 23 pv ps.length 3 (ps.flatMap ipcells) ∧ ps.length ≤ x.size + 1 ∧
    (∀ r, R = some r → bs text = memStr (toMem r) ∧ bs kb = r.1 ∧ bs vb = r.2.1 ∧ (o = false → ps = memProps (toMem r))) ∧ Below w.heap.size w w'

set_option maxHeartbeats 8000000 in
set_option maxRecDepth 100000 in
theorem parsedMember_any (x : ByteArray) (w : World) (hw : Laid w) (hs : x.size ≤ 100000) : Calls Tryz.prog 68 #[.string x] w (PM x (parseM (bs x)) w) := by
  have hb1 : Below w.heap.size w (w.alloc (.cells #[.string ⟨#[]⟩, .string ⟨#[]⟩, .slice none 0 0] 28)) := (Below.refl _ _).alloc (Nat.le_refl _) _
  have hp1 := heap_alloc_new w (.cells #[.string ⟨#[]⟩, .string ⟨#[]⟩, .slice none 0 0] 28)
  obtain ⟨w1, hw1⟩ : ∃ w1, w.alloc (.cells #[.string ⟨#[]⟩, .string ⟨#[]⟩, .slice none 0 0] 28) = w1 := ⟨_, rfl⟩
  rw [hw1] at hb1 hp1
  have hcut := bagCut_any 59 x w1 (by omega)
  rw [show (((59 : UInt8).toNat : Nat) : Int) = 59 from rfl] at hcut
  obtain ⟨R, hR⟩ : ∃ R, parseM (bs x) = R := ⟨_, rfl⟩
  rw [hR]
  have RR : Aside (parseM (bs x) = R) := hR
  have hlen := cut1_len 59 (bs x)
  clear hR
  go_enter Tryz.func68, Tryz.ntmps68
  go_wp2_with (go_at_fn 108; fail)
  refine hcut.mono ?_
  rintro e w2 ⟨b, a, f1, rfl, hc, hb2⟩
  rw [hc] at hlen
  simp only [bs_length] at hlen
  have hb12 := below_then hb1 hb1.size hb2
  have hp2 := (hb2.block _ (Array.getElem?_eq_some_iff.1 hp1).1).trans hp1
  have C1 : Aside (cut1 59 (bs x) = (bs b, bs a, f1)) := hc
  have hbz : b.size ≤ x.size := by omega
  have haz : a.size ≤ x.size := by omega
  clear hcut hc hw1 hp1 hb1 hb2 hlen
  have hcut := bagCut_any 61 b w2 (by omega)
  rw [show (((61 : UInt8).toNat : Nat) : Int) = 61 from rfl] at hcut
  have hlen := cut1_len 61 (bs b)
  go_wp2_with (go_at_fn 108; fail)
  refine hcut.mono ?_
  rintro e w3 ⟨k, v, f, rfl, hc, hb3⟩
  rw [hc] at hlen
  simp only [bs_length] at hlen
  have hb13 := below_then hb12 hb12.size hb3
  have hp3 := (hb3.block _ (Array.getElem?_eq_some_iff.1 hp2).1).trans hp2
  have C2 : Aside (cut1 61 (bs b) = (bs k, bs v, f)) := hc
  have hkz : k.size ≤ x.size := by omega
  have hvz : v.size ≤ x.size := by omega
  clear hcut hc hp2 hb12 hb3 hlen
  have htk := Tryz.strings_TrimSpace_any k w3 (by omega) (hw.below hb13).space (hw.below hb13).utf8 (hw.below hb13).white
  have htl := trim_le (bs k)
  obtain ⟨kt, hkt⟩ : ∃ kt : ByteArray, kt = ⟨(Lib.trimSpaceD k.data.toList).toArray⟩ := ⟨_, rfl⟩
  have hkb : bs kt = Lib.trimSpaceD (bs k) := by subst hkt; rfl
  rw [← hkt] at htk
  rw [← hkb, bs_length, bs_length] at htl
  have K : Aside (bs kt = Lib.trimSpaceD (bs k)) := hkb
  clear hkt hkb
  go_wp2_with (go_at_fn 109; fail)
  refine htk.mono ?_
  rintro e w4 ⟨rfl, hb4⟩
  have hb14 := below_then hb13 hb13.size hb4
  have hp4 := (hb4.block _ (Array.getElem?_eq_some_iff.1 hp3).1).trans hp3
  clear htk hb4 hb13 hp3
  have htv := Tryz.strings_TrimSpace_any v w4 (by omega) (hw.below hb14).space (hw.below hb14).utf8 (hw.below hb14).white
  have htl2 := trim_le (bs v)
  obtain ⟨vt, hvt⟩ : ∃ vt : ByteArray, vt = ⟨(Lib.trimSpaceD v.data.toList).toArray⟩ := ⟨_, rfl⟩
  have hvb : bs vt = Lib.trimSpaceD (bs v) := by subst hvt; rfl
  rw [← hvt] at htv
  rw [← hvb, bs_length, bs_length] at htl2
  have V : Aside (bs vt = Lib.trimSpaceD (bs v)) := hvb
  clear hvt hvb
  go_wp2_with (go_at_fn 109; fail)
  refine htv.mono ?_
  rintro e w5 ⟨rfl, hb5⟩
  have hb15 := below_then hb14 hb14.size hb5
  have hp5 := (hb5.block _ (Array.getElem?_eq_some_iff.1 hp4).1).trans hp4
  clear htv hb5 hb14 hp4
  have hde := decoded_any vt w5 (by omega)
  obtain ⟨U, hU⟩ : ∃ U, unesc (bs vt) = U := ⟨_, rfl⟩
  unfold DecPost at hde
  rw [hU] at hde
  have UU : Aside (unesc (bs vt) = U) := hU
  obtain ⟨ub, hub, hubs⟩ := S_str (U.getD [])
  rw [hub] at hde
  obtain ⟨us, hus⟩ : ∃ us, U.isSome = us := ⟨_, rfl⟩
  rw [hus] at hde
  have US : Aside (U.isSome = us ∧ bs ub = U.getD []) := ⟨hus, hubs⟩
  have hubz : ub.size ≤ 100000 := by
    rw [← bs_length, hubs]
    cases U with
    | none => simp
    | some u =>
      have := unesc_le hU
      rw [bs_length] at this
      simp only [Option.getD_some]
      omega
  clear hU hub hubs hus
  go_wp2_with (go_at_fn 71; fail)
  refine hde.mono ?_
  rintro e w6 ⟨hb6, rfl⟩
  have hb16 := below_then hb15 hb15.size hb6
  have hp6 := (hb6.block _ (Array.getElem?_eq_some_iff.1 hp5).1).trans hp5
  have htk := token_any kt w6 (by omega)
  have hoc := octets_any vt w6 (by omega)
  obtain ⟨ko, hko⟩ : ∃ ko, keyOk (bs kt) = ko := ⟨_, rfl⟩
  obtain ⟨oo, hoo⟩ : ∃ oo, (bs vt).all oct = oo := ⟨_, rfl⟩
  rw [hko] at htk
  rw [hoo] at hoc
  obtain ⟨gd, hgd⟩ : ∃ gd, (f && ko && oo && us) = gd := ⟨_, rfl⟩
  have P1 : Aside (R = (if gd then (if (npc (bs a)).all (fun p => (propF p).isSome) then some (bs kt, fixU (bs ub), normL (bs a)) else none) else none) ∧ (gd = true → keyOk (bs kt) = true)) := by
    refine ⟨?_, fun h => ?_⟩
    · rw [← RR.out, parseM_eq _ _ _ _ _ _ _ C1.out C2.out, ← K.out, ← V.out, hko, hoo, UU.out, US.out.1, hgd, ← US.out.2]
    · rw [hko]
      rw [h] at hgd
      revert hgd
      cases f <;> cases ko <;> simp
  have GD : Aside ((f && ko && oo && us) = gd) := hgd
  clear hde hb6 hp5 hko hoo hb15 hgd K V UU US C1 C2 RR
  obtain ⟨⟨c0, c1, c2⟩, g0, g1, g2⟩ := row3 hp6
  go_upto_region 5 with fail
  go_cut [57] from 42 to 57 (fun v W => v = .bool (!(f && ko && oo && us)) ∧ W = w6)
  case first =>
    cases f
    · go_wp2_with fail
      go_meet
      exact ⟨rfl, rfl⟩
    · go_wp2_with (go_at_fn 41; fail)
      refine htk.mono ?_
      rintro e w' ⟨rfl, rfl⟩
      cases ko
      · go_wp2_with fail
        go_meet
        exact ⟨rfl, rfl⟩
      · go_wp2_with (go_at_fn 72; fail)
        refine hoc.mono ?_
        rintro e w' ⟨rfl, rfl⟩
        cases oo
        · go_wp2_with fail
          go_meet
          exact ⟨rfl, rfl⟩
        · cases us
          all_goals
            go_wp2_with fail
            go_meet
            exact ⟨rfl, rfl⟩
  case rest =>
    obtain ⟨rfl, rfl⟩ := hcut
    rw [GD.out]
    clear htk hoc GD
    cases gd with
    | false =>
      have hR : R = none := P1.out.1
      subst hR
      go_wp2_with fail
      (try simp only [Exit.inBlock, Exit.then]); refine bodyPost_ret (ret_cell_4 rfl rfl (row_set (row_set (row_set hp6 0 _) 1 _) 2 _) Tryz.underlying28 rfl (by kernel_rfl)) rfl ?_
      exact ⟨⟨#[]⟩, ⟨#[]⟩, .slice none 0 0, ⟨#[]⟩, false, false, [], rfl, Rd.nil _ _ _ _, by simp, fun r h => by (cases h), ((hb16.setCell (Nat.le_refl _) _).setCell (Nat.le_refl _) _).setCell (Nat.le_refl _) _⟩
    | true =>
      have hre := replaced_any ub wc (by omega)
      go_wp2_with (go_at_fn 110; fail)
      refine hre.mono ?_
      rintro e w7 ⟨⟨rv, rfl, hrv⟩, hb7⟩
      have hb17 := below_then hb16 hb16.size hb7
      have hp7 := (hb7.block _ (Array.getElem?_eq_some_iff.1 hp6).1).trans hp6
      have hrz : rv.size ≤ 400000 := by
        rw [← bs_length, hrv]
        have := fixU_len (bs ub)
        rw [bs_length] at this
        omega
      have RV : Aside (bs rv = fixU (bs ub)) := hrv
      clear hre hrv hb7 hp6 hb16 c0 c1 c2 g0 g1 g2
      obtain ⟨⟨c0, c1, c2⟩, g0, g1, g2⟩ := row3 hp7
      have hp8 := row_set (row_set (row_set hp7 0 (.string kt)) 1 (.string rv)) 2 (.slice none 0 0)
      have hb18 : Below w.heap.size w (((w7.setCell ⟨w.heap.size, 0, none⟩ (.string kt)).setCell ⟨w.heap.size, 1, none⟩ (.string rv)).setCell ⟨w.heap.size, 2, none⟩ (.slice none 0 0)) := ((hb17.setCell (Nat.le_refl _) _).setCell (Nat.le_refl _) _).setCell (Nat.le_refl _) _
      obtain ⟨w8, hw8⟩ : ∃ w8, ((w7.setCell ⟨w.heap.size, 0, none⟩ (.string kt)).setCell ⟨w.heap.size, 1, none⟩ (.string rv)).setCell ⟨w.heap.size, 2, none⟩ (.slice none 0 0) = w8 := ⟨_, rfl⟩
      rw [hw8] at hp8 hb18
      simp only [List.setIfInBounds_toArray] at hp8
      obtain ⟨⟨d0, d1, d2⟩, k0, k1, k2⟩ := row3 hp8
      have hen := encoded_any rv w8 (by omega)
      obtain ⟨ev, hev, hevb⟩ := S_str (enc (bs rv))
      rw [hev] at hen
      have hevz : ev.size ≤ 1200000 := by
        rw [← bs_length, hevb, enc_len, bs_length]
        have := cntE_le (bs rv)
        rw [bs_length] at this
        omega
      have n1 : (9223372036854775807 < kt.size + 1) = False := by rw [eq_iff_iff, iff_false]; omega
      have n2 : (9223372036854775807 < kt.size + 1 + ev.size) = False := by rw [eq_iff_iff, iff_false]; omega
      have EV : Aside (bs ev = enc (bs rv)) := hevb
      clear hev hevb
      go_wp2_with (go_at_fn 42; fail)
      refine hen.mono ?_
      rintro e w9 ⟨rfl, hb9⟩
      have hb19 := below_then hb18 hb18.size hb9
      have hp9 := (hb9.block _ (Array.getElem?_eq_some_iff.1 hp8).1).trans hp8
      clear hen hw8 hb9 hb18 hp8 hp7 hb17 c0 c1 c2 g0 g1 g2 d0 d1 d2 k0 k1 k2
      have hsp := bagSplit_any 59 a w9 (by omega)
      rw [show (((59 : UInt8).toNat : Nat) : Int) = 59 from rfl] at hsp
      go_wp2_with (go_at_fn 67; fail)
      refine hsp.mono ?_
      intro e w10 hpost
      obtain ⟨sv, rfl, hrd, hb10⟩ := hpost
      have hb110 := below_then hb19 hb19.size hb10
      have hp10 := (hb10.block _ (Array.getElem?_eq_some_iff.1 hp9).1).trans hp9
      obtain ⟨SA, sc, rfl, hnc, hcm⟩ := hrd.shape
      have hLl := splitL_len 59 (bs a)
      have hLm : Aside (∀ p ∈ splitL 59 (bs a), p.length ≤ x.size) := by
        intro p hp
        have h1 := lensum_mem _ p hp
        rw [split_lensum, bs_length] at h1
        omega
      have NP : Aside (npc (bs a) = npAt (splitL 59 (bs a)) (splitL 59 (bs a)).length ∧ ∀ p ∈ splitL 59 (bs a), p.isEmpty = false → p ∈ npc (bs a)) := by
        refine ⟨?_, fun p h1 h2 => List.mem_filter.2 ⟨h1, by rw [h2]; rfl⟩⟩
        unfold npc npAt
        rw [List.take_length]
      rw [bs_length] at hLl
      obtain ⟨L, hL⟩ : ∃ L, splitL 59 (bs a) = L := ⟨_, rfl⟩
      rw [hL] at hrd hnc hLl hLm NP ⊢
      have T0 : Aside (bs (kt ++ (⟨#[61]⟩ : ByteArray) ++ ev) = bs kt ++ 61 :: enc (bs rv)) := by
        show _ = _
        rw [bs_app, bs_app, EV.out]
        simp [bs]
      have hts : (kt ++ (⟨#[61]⟩ : ByteArray) ++ ev).size ≤ 1400001 := by
        have e1 : (⟨#[61]⟩ : ByteArray).size = 1 := rfl
        rw [ByteArray.size_append, ByteArray.size_append, e1]
        omega
      have hsp9 := hb19.size
      clear hsp hb10 hp9 hb19 hL EV
      go_wp2_with fail
      obtain ⟨t0, ht0⟩ : ∃ t0, kt ++ (⟨#[61]⟩ : ByteArray) ++ ev = t0 := ⟨_, rfl⟩
      rw [ht0] at T0 hts ⊢
      clear ht0 n1 n2
      go_loopg [3, 5, 6, 72] (L.length + 1) (fun gk tv lv ov iv W => Below w.heap.size w W ∧ ∃ (j : Nat) (t : ByteArray) (l o : Bool) (pv : Value) (ps : List Pr), iv = .int .i64 j ∧ tv = .string t ∧ lv = .bool l ∧ ov = .bool o ∧ j ≤ L.length ∧ j + gk = L.length + 1 ∧ t.size ≤ 1400001 + j * 100001 ∧ ps.length ≤ j ∧ W.heap[w.heap.size]? = some (.cells #[.string kt, .string rv, pv] 28 (0, 0)) ∧ W.ownsRow w.heap.size 23 3 pv ps.length (ps.flatMap ipcells) ∧ Rd true W 9 (.slice SA L.length sc) L.length 1 (strs L) ∧
        Aside (bs t = (bs kt ++ 61 :: enc (bs rv)) ++ (npAt L j).flatMap (59 :: ·) ∧ (npAt L j).all (fun p => (propF p).isSome) = true ∧ (o = false → ps = prs (npAt L j))))
      case atStart =>
        refine ⟨hb110, 0, t0, false, false, .slice none 0 0, [], rfl, rfl, rfl, rfl, Nat.zero_le _, Nat.zero_add _, Nat.le_trans hts (Nat.le_add_right _ _), Nat.zero_le _, hp10, own_nil _ _ _ _, hrd, ?_, ?_, ?_⟩
        · rw [T0.out]; simp [npAt]
        · simp [npAt]
        · intro _; simp [npAt, prs]
      case round =>
        clear hb110 hp10 hrd hts T0
        obtain ⟨hb, j, t, l, o, pv, ps, rfl, rfl, rfl, rfl, hj, hg, htz, hpl, hp, ho, hrd, hX⟩ := hrel
        have hws := hb.size
        by_cases hlt : j < L.length
        · obtain ⟨p, hpj⟩ : ∃ p, L[j] = p := ⟨_, rfl⟩
          have hpk : L[j]? = some p := by rw [List.getElem?_eq_getElem hlt, hpj]
          have hpm : p ∈ L := by rw [← hpj]; exact List.getElem_mem hlt
          obtain ⟨pb, hpb, hpbs⟩ := S_str p
          have hpz : pb.size ≤ x.size := by rw [← bs_length, hpbs]; exact hLm.out p hpm
          obtain ⟨bk, ofs, c', he, _, _, _⟩ := hrd.cells (by omega)
          injection he with he1 he2 he3
          subst he1 he3
          clear he2
          have e0 : wr.cell? ⟨bk, ofs + j, none⟩ = some (.string pb) := hrd.at' (j := j) (by omega) (by unfold strs; rw [List.getElem?_map, hpk, ← hpb]; rfl)
          have PJ : Aside (L[j]? = some p ∧ p ∈ L ∧ bs pb = p) := ⟨hpk, hpm, hpbs⟩
          obtain ⟨pe, hpe⟩ : ∃ pe, pb.toList.isEmpty = pe := ⟨_, rfl⟩
          have PE : Aside (p.isEmpty = pe) := by show _ = _; rw [← hpbs, isEmpty_bs, hpe]
          clear hpk hpm hpb hpbs hpj
          cases pe with
          | true =>
            go_wp2_with fail
            go_roundg (gk - 1)
            case rel =>
              have h1 : npAt L (j + 1) = npAt L j := np_skip L j hlt (by have := PJ.out.1; rw [List.getElem?_eq_getElem hlt] at this; injection this with this; rw [this]; exact List.isEmpty_iff.1 PE.out)
              refine ⟨hb, j + 1, t, l, o, pv, ps, by go_num, rfl, rfl, rfl, by omega, by omega, Nat.le_trans htz (Nat.add_le_add_left (Nat.mul_le_mul_right _ (Nat.le_succ _)) _), by omega, hp, ho, hrd, ?_⟩
              rw [h1]
              exact hX
            case measure => omega
          | false =>
            have hpp := parsedProperty_any pb wr (hw.below hb) (by omega)
            unfold PPPost at hpp
            obtain ⟨rt, hrt⟩ : ∃ rt, (propF (bs pb)).isSome = rt := ⟨_, rfl⟩
            obtain ⟨o1, ho1⟩ : ∃ o1, pOpen (bs pb) = o1 := ⟨_, rfl⟩
            rw [hrt, ho1] at hpp
            have RT : Aside ((propF p).isSome = rt) := by show _ = _; rw [← PJ.out.2.2]; exact hrt
            clear hrt ho1
            go_wp2_with (go_at_fn 111; fail)
            refine hpp.mono ?_
            intro e w11 hpost
            obtain ⟨kb, hh, vb, rfl, hcell, hz1, hz2, hb11⟩ := hpost
            have HC : Aside (rt = true → ∃ q, [Value.string kb, .bool hh, .string vb] = ipcells q ∧ (o1 = false → propI (bs pb) = some q)) := hcell
            have hb111 := below_then hb hws hb11
            have hws11 := hb11.size
            obtain ⟨OA, oc, rfl⟩ := own_shape ho
            have hp11 := (hb11.block _ (Array.getElem?_eq_some_iff.1 hp).1).trans hp
            have ho11 := own_below (C := 0) ho hb11
            have hrd11 := hrd.below hb11
            have hp12 := row_alloc hp11 (.cells #[.string kb, .bool hh, .string vb] 23)
            have hb112 : Below w.heap.size w (w11.alloc (.cells #[.string kb, .bool hh, .string vb] 23)) := hb111.alloc (by omega) _
            clear hpp hcell hb11 hrd ho hp e0
            go_upto_region 14 with fail
            go_cut [6] from 84 to 6 (fun v W => v = .bool (o || o1) ∧ W = w11.alloc (.cells #[.string kb, .bool hh, .string vb] 23))
            case first =>
              cases o <;> cases o1
              all_goals
                go_wp2_with fail
                go_meet
                exact ⟨rfl, rfl⟩
            case rest =>
              obtain ⟨rfl, rfl⟩ := hcut
              obtain ⟨o2, ho2⟩ : ∃ o2, (o || o1) = o2 := ⟨_, rfl⟩
              rw [ho2]
              have O2 : Aside ((o || o1) = o2) := ho2
              clear ho2
              go_upto_block 2 with fail
              go_cut [5, 6] (fun v ov W => IsB v ∧ ov = .bool o2 ∧ W = w11.alloc (.cells #[.string kb, .bool hh, .string vb] 23))
              case first =>
                go_wp2_with fail
                go_loopg [5, 90] (pb.size + 1) (fun gk lv2 iv2 W2 => W2 = w11.alloc (.cells #[.string kb, .bool hh, .string vb] 23) ∧ IsB lv2 ∧ ∃ k2 : Nat, iv2 = .int .i64 k2 ∧ k2 ≤ pb.size ∧ k2 + gk = pb.size + 1)
                case atStart => exact ⟨rfl, ⟨_, rfl⟩, 0, rfl, Nat.zero_le _, Nat.zero_add _⟩
                case round =>
                  obtain ⟨rfl, ⟨l2, rfl⟩, k2, rfl, hk2, hg2⟩ := hrel
                  by_cases hlt2 : k2 < pb.size
                  · obtain ⟨c, hc⟩ : ∃ c, pb[k2] = c := ⟨_, rfl⟩
                    have hix := run_idx pb (k2 : Int) k2 rfl hlt2 c hc
                    clear hc
                    obtain ⟨b1, hb1⟩ : ∃ b1, (((c.toNat : Nat) : Int) == 32) = b1 := ⟨_, rfl⟩
                    obtain ⟨b2, hb2⟩ : ∃ b2, (((c.toNat : Nat) : Int) == 9) = b2 := ⟨_, rfl⟩
                    cases l2 <;> cases b1 <;> cases b2
                    all_goals
                      go_wp2_with fail
                      go_roundg (gk - 1)
                      case rel => exact ⟨rfl, ⟨_, rfl⟩, k2 + 1, by go_num, by omega, by omega⟩
                      case measure => omega
                  · go_wp2_with fail
                    go_meet
                    exact ⟨⟨_, rfl⟩, rfl, rfl⟩
              case rest =>
                obtain ⟨⟨l2, rfl⟩, rfl, rfl⟩ := hcut
                cases rt with
                | false =>
                  have hR : R = none := by
                    rw [P1.out.1, if_pos trivial, if_neg]
                    intro h
                    have := List.all_eq_true.1 h p (NP.out.2 p PJ.out.2.1 PE.out)
                    rw [RT.out] at this
                    cases this
                  subst hR
                  obtain ⟨⟨c0, c1, c2⟩, g0, g1, g2⟩ := row3 hp12
                  go_wp2_with fail
                  (try simp only [Exit.inBlock, Exit.then]); refine bodyPost_ret (ret_cell_4 rfl rfl (row_set (row_set (row_set hp12 0 _) 1 _) 2 _) Tryz.underlying28 rfl (by kernel_rfl)) rfl ?_
                  exact ⟨⟨#[]⟩, ⟨#[]⟩, .slice none 0 0, ⟨#[]⟩, l2, o2, [], rfl, Rd.nil _ _ _ _, by simp, fun r h => by (cases h), ((hb112.setCell (Nat.le_refl _) _).setCell (Nat.le_refl _) _).setCell (Nat.le_refl _) _⟩
                | true =>
                  have n1 : (9223372036854775807 < 1 + pb.size) = False := by rw [eq_iff_iff, iff_false]; omega
                  have n2 : (9223372036854775807 < t.size + (1 + pb.size)) = False := by rw [eq_iff_iff, iff_false]; omega
                  obtain ⟨⟨_, _, d2⟩, _, _, g2⟩ := row3 hp11
                  obtain ⟨⟨_, _, d2a⟩, _, _, g2a⟩ := row3 hp12
                  have hzz : (w11.alloc (.cells #[.string kb, .bool hh, .string vb] 23)).heap.size = w11.heap.size + 1 := by simp
                  go_wp2_with (at_builtin; go_must (refine wp_app (W := w11.alloc (.cells #[.string kb, .bool hh, .string vb] 23)) w.heap.size rfl (.tmp 113) (.tmp 115) 26 rfl 23 _ 3 40 Tryz.underlying26 Tryz.info23 rfl (by decide) (.slice OA ps.length oc) ps.length _ [.string kb, .bool hh, .string vb] rfl (by show _ = Value.slice (some ⟨(w11.alloc _).heap.size, 0, none⟩) 1 1; rw [hzz]; rfl) rfl (by intro u hu; simp at hu; rcases hu with rfl | rfl | rfl <;> rfl) (ho11.alloc _) (by omega) (by omega) (by omega) ?_); intro v1 w13 ho13 hb13 hf13 hs13; obtain ⟨A3, c3, rfl⟩ := own_shape ho13; have hp13 := (hf13.block _ (by simp; omega) (by intro c f h; rw [hp12] at h; cases h)).trans hp12; obtain ⟨⟨_, _, e2⟩, _, _, m2⟩ := row3 hp13)
                  go_roundg (gk - 1)
                  case rel =>
                    obtain ⟨q, hq, hqo⟩ := HC.out (by trivial)
                    have hpi := PJ.out
                    have hnp : npAt L (j + 1) = npAt L j ++ [p] := np_more L j hlt p (by have := hpi.1; rw [List.getElem?_eq_getElem hlt] at this; injection this) PE.out
                    have e : (ps ++ [q]).flatMap ipcells = ps.flatMap ipcells ++ [.string kb, .bool hh, .string vb] := by rw [List.flatMap_append, hq]; simp
                    refine ⟨(hb112.trans hb13).setCell (Nat.le_refl _) _, j + 1, t ++ ((⟨#[59]⟩ : ByteArray) ++ pb), l2, o2, _, ps ++ [q], by go_num, rfl, rfl, rfl, by omega, by omega, ?_, by simp; omega, row_set hp13 2 _, ?_, ?_, ?_⟩
                    · have e1 : (⟨#[59]⟩ : ByteArray).size = 1 := rfl
                      rw [ByteArray.size_append, ByteArray.size_append, e1]
                      omega
                    · rw [List.length_append, e]
                      exact own_setOther ho13 hp13 (by decide) _
                    · exact hrd11.fr2 ((Fr2.of_fr 28 (Fr.trans (Fr.alloc 23 w11 _) hf13)).set hp13 _) (by decide) (by decide)
                    · rw [hnp, List.flatMap_append, List.all_append, hX.out.2.1]
                      refine ⟨?_, ?_, fun h => ?_⟩
                      · rw [bs_app, bs_app, hX.out.1, hpi.2.2]
                        simp [bs]
                      · simp [RT.out]
                      · have h1 := O2.out
                        rw [h, Bool.or_eq_false_iff] at h1
                        rw [hX.out.2.2 h1.1, prs_snoc _ _ q]
                        rw [← hpi.2.2]
                        exact hqo h1.2
                  case measure => omega
        · have hjl : j = L.length := by omega
          have hR : R = some (bs kt, fixU (bs ub), normL (bs a)) := by
            rw [P1.out.1, if_pos trivial, if_pos]
            rw [NP.out.1, ← hjl]
            exact hX.out.2.1
          have hPS : Aside (ps.length ≤ x.size + 1 ∧ bs t = memStr (toMem (bs kt, fixU (bs ub), normL (bs a))) ∧ (o = false → ps = memProps (toMem (bs kt, fixU (bs ub), normL (bs a))))) := by
            refine ⟨by omega, ?_, fun h => ?_⟩
            · rw [memStr_norm _ _ _ (P1.out.2 trivial), NP.out.1, ← hjl, hX.out.1, RV.out]
            · rw [memProps_norm, NP.out.1, ← hjl]
              · exact hX.out.2.2 h
              · rw [meta_pc, NP.out.1, ← hjl]
                exact hX.out.2.1
          subst hR
          clear hjl
          obtain ⟨OA, oc, rfl⟩ := own_shape ho
          obtain ⟨⟨c0, c1, c2⟩, g0, g1, g2⟩ := row3 hp
          go_wp2_with fail
          (try simp only [Exit.inBlock, Exit.then]); refine bodyPost_ret (ret_cell_4 rfl rfl (row_set (row_set (row_set hp 0 _) 1 _) 2 _) Tryz.underlying28 rfl (by kernel_rfl)) rfl ?_
          refine ⟨kt, rv, .slice OA ps.length oc, t, l, o, ps, rfl, Rd.of_own (own_setOther (own_setOther (own_setOther ho hp (by decide) _) (row_set hp 0 _) (by decide) _) (row_set (row_set hp 0 _) 1 _) (by decide) _), hPS.out.1, fun r hr => ?_, ((hb.setCell (Nat.le_refl _) _).setCell (Nat.le_refl _) _).setCell (Nat.le_refl _) _⟩
          injection hr with hr
          subst hr
          exact ⟨hPS.out.2.1, rfl, RV.out, hPS.out.2.2⟩
end Go.Proofs.YtleofgndghjflaaGreatDoor

set_option linter.unusedVariables false
set_option linter.unusedSimpArgs false
namespace Go.Proofs.YtleofgndghjflaaGreatDoor
open Go Go.RowKit

theorem all8 (p : UInt8 → Prop) (h : ∀ n : Fin 256, p (UInt8.ofNat n.val)) : ∀ c, p c := by
  intro c
  have := h ⟨c.toNat, c.toNat_lt⟩
  simpa using this
theorem enc44 : ∀ c : UInt8, (44 : UInt8) ∉ encC c := all8 _ (by decide +kernel)
theorem oct_low (c : UInt8) (h : oct c = true) : c.toNat < 128 := by
  rw [oct_eq] at h
  simp only [Bool.and_eq_true, decide_eq_true_eq] at h
  omega
theorem tok44 : tok 44 = false := by decide +kernel
def cost (l : List UInt8) : Nat := (l.map fun c => if c.toNat < 128 then 1 else 3).sum
theorem cost_cons (c : UInt8) (l : List UInt8) : cost (c :: l) = (if c.toNat < 128 then 1 else 3) + cost l := by simp [cost]
theorem cost_app (a b : List UInt8) : cost (a ++ b) = cost a + cost b := by simp [cost]
theorem cost_ge : ∀ l : List UInt8, l.length ≤ cost l
  | [] => by simp [cost]
  | c :: l => by
    have := cost_ge l
    rw [cost_cons, List.length_cons]
    split <;> omega
theorem unesc_cost : ∀ (n : Nat) (l u : List UInt8), l.length ≤ n → (∀ c ∈ l, c.toNat < 128) → unesc l = some u → cost u ≤ l.length
  | _, [], u, _, _, h => by rw [unesc_nil] at h; injection h with h; subst h; simp [cost]
  | n + 1, c :: r, u, hn, hl, h => by
    by_cases hc : c = 37
    · subst hc
      match r, hl, hn, h with
      | [], _, _, h => rw [unesc_short [] (by simp)] at h; cases h
      | [a], _, _, h => rw [unesc_short [a] (by simp)] at h; cases h
      | a :: b :: r, hl, hn, h =>
        rw [unesc_pct] at h
        split at h
        · obtain ⟨u', h1, h2⟩ := Option.map_eq_some_iff.1 h
          have := unesc_cost n r u' (by simp only [List.length_cons] at hn; omega) (fun c hc => hl c (by simp [hc])) h1
          rw [← h2, cost_cons]
          simp only [List.length_cons]
          split <;> omega
        · cases h
    · rw [unesc_plain c r hc] at h
      obtain ⟨u', h1, h2⟩ := Option.map_eq_some_iff.1 h
      have := unesc_cost n r u' (by simp only [List.length_cons] at hn; omega) (fun c hc => hl c (by simp [hc])) h1
      rw [← h2, cost_cons, if_pos (hl c (by simp))]
      simp only [List.length_cons]
      omega
  | 0, c :: r, u, hn, _, h => by simp at hn
theorem rep_cost : ∀ (n : Nat) (l : List UInt8), l.length ≤ n → (rep l).length ≤ cost l
  | 0, l, h => by
    have : l = [] := List.eq_nil_of_length_eq_zero (by omega)
    subst this
    simp [rep_nil, cost]
  | n + 1, l, h => by
    by_cases hne : l = []
    · subst hne; simp [rep_nil, cost]
    · have hl : 0 < l.length := List.length_pos_iff.2 hne
      have hw := Lib.decodeL_width l
      have hle := Lib.decodeL_le l hne
      have ih := rep_cost n (l.drop (Lib.decodeL l).2) (by rw [List.length_drop]; omega)
      rw [rep_step l hne, List.length_append]
      have hs : cost l = cost (l.take (Lib.decodeL l).2) + cost (l.drop (Lib.decodeL l).2) := by rw [← cost_app, List.take_append_drop]
      have hg := cost_ge (l.take (Lib.decodeL l).2)
      rw [List.length_take, Nat.min_eq_left hle] at hg
      by_cases hbad : (Lib.decodeL l).1 = 65533 ∧ (Lib.decodeL l).2 = 1
      · rw [hbad.1, hbad.2]
        rw [hbad.2] at hs ih
        have h3 : (Lib.encodeRune ((65533 : Nat) : Int)).length = 3 := by decide +kernel
        obtain ⟨c, r, rfl⟩ : ∃ c r, l = c :: r := by
          cases l with
          | nil => exact absurd rfl hne
          | cons c r => exact ⟨c, r, rfl⟩
        have hc : ¬ c.toNat < 128 := by
          intro hc
          have := Lib.decodeL_ascii c r hc
          rw [this] at hbad
          have := hbad.1
          simp only at this
          omega
        have e : cost ((c :: r).take 1) = 3 := by simp [cost, hc]
        rw [h3]
        omega
      · rw [Lib.encode_decode l hne hbad, List.length_take, Nat.min_eq_left hle]
        omega
theorem fix_le (v u : List UInt8) (hv : v.all oct = true) (h : unesc v = some u) : (fixU u).length ≤ v.length := by
  rw [fixU_rep]
  exact Nat.le_trans (rep_cost _ u (Nat.le_refl _)) (unesc_cost _ v u (Nat.le_refl _) (fun c hc => oct_low c (List.all_eq_true.1 hv c hc)) h)
theorem parseM_parts (p : List UInt8) (r : List UInt8 × List UInt8 × List UInt8) (h : parseM p = some r) :
    ∃ b a k v f1, cut1 59 p = (b, a, f1) ∧ cut1 61 b = (k, v, true) ∧ keyOk r.1 = true ∧ r.1 = Lib.trimSpaceD k ∧ r.2.2 = normL a ∧ r.2.1.length ≤ v.length := by
  rcases hc : cut1 59 p with ⟨b, a, f1⟩
  rcases hd : cut1 61 b with ⟨k, v, f⟩
  rw [parseM_eq p b a k v f1 f hc hd] at h
  split at h
  · rename_i hg
    simp only [Bool.and_eq_true] at hg
    obtain ⟨⟨⟨h1, h2⟩, h3⟩, h4⟩ := hg
    split at h
    · injection h with h
      subst h
      cases hu : unesc (Lib.trimSpaceD v) with
      | none => rw [hu] at h4; cases h4
      | some u =>
        refine ⟨b, a, k, v, f1, rfl, by rw [hd, h1], h2, rfl, rfl, ?_⟩
        have := fix_le _ u h3 hu
        have := trim_le v
        simp only [Option.getD_some]
        omega
    · cases h
  · cases h
theorem parseM_text (p : List UInt8) (r : List UInt8 × List UInt8 × List UInt8) (h : parseM p = some r) : (memStr (toMem r)).length ≤ 3 * p.length := by
  obtain ⟨b, a, k, v, f1, h1, h2, h3, h4, h5, h6⟩ := parseM_parts p r h
  have l1 := cut1_len 59 p
  have l2 := cut1_len 61 b
  rw [h1] at l1
  rw [h2] at l2
  simp only [if_true] at l1 l2
  have l3 := memStr_le r
  have l4 := trim_le k
  have l5 := normL_len a
  rw [← h4] at l4
  rw [← h5] at l5
  omega

/-- Parse, without its sizes. -/
def goP : List (List UInt8) → List Mem → Bool → List Mem × Bool
  | [], ms, bad => (ms, bad)
  | p :: r, ms, bad => if 64 ≤ ms.length then (ms, true) else match parseM p with
    | none => goP r ms true
    | some x => goP r (putM (toMem x) ms) bad
theorem parseGo_goP : ∀ (ps : List (List UInt8)) (st : PS), st.tot + 3 * (lensum ps : Int) ≤ 8192 → (∀ x ∈ st.sz, (0 : Int) ≤ x.2) → ((parseGo ps st).ms, (parseGo ps st).bad) = goP ps st.ms st.bad
  | [], st, _, _ => rfl
  | p :: r, st, ht, hs => by
    have e : lensum (p :: r) = p.length + 1 + lensum r := by simp [lensum]
    unfold parseGo goP
    split
    · rfl
    · cases hq : parseM p with
      | none => exact parseGo_goP r { st with pe := st.pe + 1, bad := true } (by show st.tot + _ ≤ _; omega) hs
      | some x =>
        simp only
        have h1 := parseM_text p x hq
        have h2 : memSize st (toMem x) ≤ 3 * p.length + 1 ∧ 0 ≤ memSize st (toMem x) := by
          unfold memSize
          split <;> omega
        have h3 : newTot st (toMem x) ≤ st.tot + memSize st (toMem x) := by
          unfold newTot
          split
          · rename_i o ho
            obtain ⟨y, hy, rfl⟩ := getS_mem _ _ _ ho
            have := hs y hy
            omega
          · omega
        rw [if_neg (by omega)]
        refine parseGo_goP r ⟨putM (toMem x) st.ms, putS x.1 (memSize st (toMem x)) st.sz, newTot st (toMem x), st.pe, st.bad⟩ ?_ ?_
        · show newTot st (toMem x) + _ ≤ _
          omega
        · intro y hy
          rcases putS_mem _ _ _ y hy with h | h
          · rw [h]; exact h2.2
          · exact hs y h
theorem parseB_goP (l : List UInt8) (h : l ≠ []) (hl : l.length ≤ 2000) : parseB l = goP (splitL 44 l) [] false := by
  unfold parseB
  rw [if_neg (by simpa using h), if_neg (by omega)]
  refine parseGo_goP (splitL 44 l) ps0 ?_ (by simp [ps0])
  have := split_lensum 44 l
  show (0 : Int) + _ ≤ _
  omega

/-- A member's text is not empty and bears no comma. -/
def Clean (m : Mem) : Prop := memStr m ≠ [] ∧ (44 : UInt8) ∉ memStr m
theorem split_sub (c : UInt8) : ∀ l : List UInt8, ∀ p ∈ splitL c l, ∀ x ∈ p, x ∈ l
  | [], p, h, x, hx => by simp [splitL] at h; subst h; cases hx
  | y :: r, p, h, x, hx => by
    have ih := split_sub c r
    unfold splitL at h
    split at h
    · rcases List.mem_cons.1 h with rfl | h
      · cases hx
      · exact List.mem_cons_of_mem _ (ih p h x hx)
    · split at h
      · simp at h
        subst h
        simp at hx
        simp [hx]
      · rename_i q qs hq
        rw [hq] at ih
        rcases List.mem_cons.1 h with rfl | h
        · rcases List.mem_cons.1 hx with rfl | hx
          · simp
          · exact List.mem_cons_of_mem _ (ih q (by simp) x hx)
        · exact List.mem_cons_of_mem _ (ih p (by simp [h]) x hx)
theorem cut_sub (c : UInt8) (l : List UInt8) : ∀ x ∈ (cut1 c l).2.1, x ∈ l := by
  intro x hx
  rcases cut1_spec c l with ⟨_, _, h⟩ | ⟨_, _, h⟩
  · rw [h] at hx; cases hx
  · rw [h]; simp [hx]
theorem parseM_clean (p : List UInt8) (r : List UInt8 × List UInt8 × List UInt8) (h : parseM p = some r) (hp : (44 : UInt8) ∉ p) : Clean (toMem r) := by
  obtain ⟨b, a, k, v, f1, h1, h2, h3, h4, h5, h6⟩ := parseM_parts p r h
  obtain ⟨rk, rv, rm⟩ := r
  simp only at h3 h4 h5
  subst h5
  unfold Clean
  rw [memStr_norm rk rv a h3]
  refine ⟨by simp, ?_⟩
  intro hm
  simp only [List.mem_append, List.mem_cons, List.mem_flatMap] at hm
  rcases hm with (hm | hm | hm) | ⟨q, hq, hm | hm⟩
  · have := List.all_eq_true.1 ((keyOk_def _).1 h3).2 44 hm
    rw [tok44] at this
    cases this
  · exact absurd hm (by decide)
  · unfold enc at hm
    obtain ⟨c, _, hc⟩ := List.mem_flatMap.1 hm
    exact enc44 c hc
  · exact absurd hm (by decide)
  · have h7 := split_sub 59 a q (List.mem_filter.1 hq).1 44 hm
    have h8 := cut_sub 59 p 44 (by rw [h1]; exact h7)
    exact hp h8
theorem goP_clean : ∀ (ps : List (List UInt8)) (ms : List Mem) (bad : Bool), (∀ p ∈ ps, (44 : UInt8) ∉ p) → (∀ m ∈ ms, Clean m) → ∀ m ∈ (goP ps ms bad).1, Clean m
  | [], ms, bad, _, h => h
  | p :: r, ms, bad, hp, h => by
    have hr : ∀ q ∈ r, (44 : UInt8) ∉ q := fun q hq => hp q (by simp [hq])
    unfold goP
    split
    · exact h
    · cases hq : parseM p with
      | none => exact goP_clean r ms true hr h
      | some x =>
        refine goP_clean r _ bad hr ?_
        intro m hm
        rcases putM_mem _ _ _ hm with rfl | hm
        · exact parseM_clean p x hq (hp p (by simp))
        · exact h m hm
theorem join_flat (c : UInt8) (p : List UInt8) : ∀ ps : List (List UInt8), Lib.join (p :: ps) [c] = p ++ ps.flatMap (c :: ·) := by
  intro ps
  rw [Lib.join_cons, Lib.joinTail, List.flatMap_def]
  rfl
theorem bag_split (ms : List Mem) (h : ∀ m ∈ ms, Clean m) (hne : ms ≠ []) : splitL 44 (bagStr ms) = ms.map memStr ∧ bagStr ms ≠ [] := by
  have hf : (ms.map memStr).filter (!·.isEmpty) = ms.map memStr := by
    rw [List.filter_eq_self]
    intro x hx
    obtain ⟨m, hm, rfl⟩ := List.mem_map.1 hx
    have := (h m hm).1
    simp [List.isEmpty_iff, this]
  unfold bagStr
  rw [hf]
  cases ms with
  | nil => exact absurd rfl hne
  | cons m ms =>
    rw [List.map_cons, join_flat]
    refine ⟨split_flat 44 _ _ (h m (by simp)).2 ?_, ?_⟩
    · intro q hq
      obtain ⟨x, hx, rfl⟩ := List.mem_map.1 hq
      exact (h x (by simp [hx])).2
    · intro e
      exact (h m (by simp)).1 (List.append_eq_nil_iff.1 e).1
theorem bagStr_nil : bagStr [] = [] := rfl

/-- A map from keys to the members' texts. -/
def TextAt (p : KV) (m : Mem) : Prop := bs p.1 = m.key ∧ p.2 = S (memStr m)
def textOf (ms : List Mem) (k : List UInt8) : List UInt8 := ((ms.find? fun x => decide (x.key = k)).map memStr).getD []
theorem asc_text (k : ByteArray) : ∀ (L : List KV) (ms : List Mem), All2 TextAt L ms → (asc L k).getD (.string ⟨#[]⟩) = S (textOf ms (bs k))
  | [], [], _ => rfl
  | p :: L, x :: ms, h => by
    unfold asc fnd textOf
    rw [key_eq, List.find?_cons, ← h.1.1]
    by_cases hk : bs p.1 = bs k
    · simp [hk, h.1.2]
    · simp only [hk, decide_false, Bool.false_eq_true, if_false]
      rw [fnd_shift]
      have := asc_text k L ms h.2
      unfold asc textOf at this
      rw [← this]
      cases fnd k L 0 <;> rfl
  | [], _ :: _, h => h.elim
  | _ :: _, [], h => h.elim
theorem put_text (k : ByteArray) (m : Mem) (hk : bs k = m.key) : ∀ (L : List KV) (ms : List Mem), All2 TextAt L ms → All2 TextAt (putL k (S (memStr m)) L) (putM m ms)
  | [], [], _ => ⟨⟨hk, rfl⟩, trivial⟩
  | p :: L, x :: ms, h => by
    unfold putL putM
    rw [key_eq, ← hk, ← h.1.1]
    by_cases hpk : bs p.1 = bs k
    · simp only [hpk, decide_true, if_true]
      exact ⟨⟨by rw [hpk, hk], rfl⟩, h.2⟩
    · simp only [hpk, decide_false, Bool.false_eq_true, if_false]
      exact ⟨h.1, put_text k m hk L ms h.2⟩
  | [], _ :: _, h => h.elim
  | _ :: _, [], h => h.elim
theorem MapAt.look1 {t kt et : TypeId} {w : World} {b : Nat} {L : List KV} (h : MapAt w b L) (ht : Tryz.prog.underlying t = some (.map kt et)) (hk : Tryz.prog.underlying kt = some .string) {z : Value} (hz : (zeroValue et).run Tryz.prog w = .ok z w) (k : ByteArray) :
    (Instr.lookup t (.map (some b)) (.string k) false).run Tryz.prog w = .ok ((asc L k).getD z) w := by
  obtain ⟨es, clock, h1, h2⟩ := h
  have hf := findNow_fnd k es.toList L 0 h2.same
  have hfk : (Instr.findKey kt (.string k) es.toList).run Tryz.prog w = .ok (fnd k L 0) w := by
    simp [Instr.findKey, run_underlying hk, hf, Result.andThen]
  have hck : ∀ e, (Instr.checkKey e 10000 kt (.string k)).run Tryz.prog w = .ok () w := fun e => MapKept.run_checkKey hk (by trivial) e 9999
  unfold asc
  cases hq : fnd k L 0 with
  | none =>
    rw [hq] at hfk
    simp [Instr.lookup, run_underlying ht, MapKept.run_getObj_map h1, hck, hfk, hz, Result.andThen]
  | some x =>
    rw [hq] at hfk
    simp [Instr.lookup, run_underlying ht, MapKept.run_getObj_map h1, hck, hfk, Result.andThen]
theorem find_key : ∀ (ms : List Mem), (ms.map Mem.key).Nodup → ∀ m ∈ ms, ms.find? (fun x => decide (x.key = m.key)) = some m
  | [], _, m, hm => by cases hm
  | x :: r, h, m, hm => by
    rw [List.map_cons, List.nodup_cons] at h
    rw [List.find?_cons]
    rcases List.mem_cons.1 hm with rfl | hm
    · simp
    · have : ¬ x.key = m.key := fun e => h.1 (List.mem_map.2 ⟨m, hm, e.symm⟩)
      simp only [this, decide_false]
      exact find_key r h.2 m hm
theorem texts_perm {ms : List Mem} {X : List SM} (h : BagIs ms X) : (X.map fun x => textOf ms x.1).Perm (ms.map memStr) := by
  have h1 := (h.perm.map fun x => textOf ms x.1).symm
  rw [List.map_map] at h1
  refine h1.trans (List.Perm.of_eq ?_)
  refine List.map_congr_left fun m hm => ?_
  show textOf ms m.key = _
  unfold textOf
  rw [find_key ms h.nodup m hm]
  rfl
/-- Texts, sorted. -/
def sortT (l : List (List UInt8)) : List (List UInt8) := l.mergeSort fun x y => decide (x ≤ y)
theorem le8 (a b : List UInt8) : a ≤ b ↔ ¬ b < a := Iff.rfl
theorem sortT_perm {a b : List (List UInt8)} (h : a.Perm b) : sortT a = sortT b := by
  have h1 := List.mergeSort_perm a (fun x y => decide (x ≤ y))
  have h2 := List.mergeSort_perm b (fun x y => decide (x ≤ y))
  have tr : ∀ x y z : List UInt8, decide (x ≤ y) = true → decide (y ≤ z) = true → decide (x ≤ z) = true := by
    intro x y z h1 h2
    simp only [decide_eq_true_eq, le8] at h1 h2 ⊢
    intro h3
    rcases lt8_tri y z with h | h | h
    · exact h1 (lt8_trans _ _ _ h h3)
    · rw [h] at h1; exact h1 h3
    · exact h2 h
  have tt : ∀ x y : List UInt8, (decide (x ≤ y) || decide (y ≤ x)) = true := by
    intro x y
    simp only [Bool.or_eq_true, decide_eq_true_eq, le8]
    rcases lt8_tri x y with h | h | h
    · exact .inl fun h3 => lt8_irr _ (lt8_trans _ _ _ h h3)
    · subst h; exact .inl (lt8_irr _)
    · exact .inr fun h3 => lt8_irr _ (lt8_trans _ _ _ h h3)
  have s1 := List.pairwise_mergeSort tr tt a
  have s2 := List.pairwise_mergeSort tr tt b
  refine List.Perm.eq_of_pairwise (le := fun x y => decide (x ≤ y) = true) ?_ s1 s2 (h1.trans (h.trans h2.symm))
  intro x y _ _ h3 h4
  simp only [decide_eq_true_eq, le8] at h3 h4
  rcases lt8_tri x y with h | h | h
  · exact absurd h h4
  · exact h
  · exact absurd h h3
theorem sortT_len (a : List (List UInt8)) : (sortT a).length = a.length := (List.mergeSort_perm a _).length_eq
end Go.Proofs.YtleofgndghjflaaGreatDoor

set_option linter.unusedVariables false
set_option linter.unusedSimpArgs false
namespace Go.Proofs.YtleofgndghjflaaGreatDoor
open Go Go.RowKit

def SortSPost (B : Nat) (v : Value) (ts : List (List UInt8)) (w : World) (e : Ending) (w' : World) : Prop :=
  e = .returned (.tuple #[]) ∧ Rd true w' 9 v ts.length 1 (strs (sortT ts)) ∧ Fr 9 w w' ∧ Below B w w'
open Go.Sort in
theorem sort_strs (B : Nat) (v : Value) (ts : List (List UInt8)) (w : World) (h : w.ownsRow B 9 1 v ts.length (strs ts)) (hn : ts.length ≤ 100000) : Calls Tryz.prog 69 #[v] w (SortSPost B v ts w) := by
  have hrd := Rd.of_own h
  obtain ⟨h1, h2⟩ := h
  rcases h2 with ⟨rfl, h0⟩ | ⟨g, cap, cur, rfl, hg, hh, hnc, hcm, hcs, htake⟩
  · have hts : ts = [] := by
      cases ts with
      | nil => rfl
      | cons a r => simp [strs] at h0
    subst hts
    refine (Tryz.slices_Sort_string_none none 0 w).mono ?_
    rintro e w' ⟨rfl, rfl⟩
    have hs0 : sortT [] = [] := List.eq_nil_of_length_eq_zero (sortT_len [])
    exact ⟨rfl, by rw [hs0]; exact Rd.nil _ _ _ _, Fr.refl _ _, Below.refl _ _⟩
  · have hgl := (Array.getElem?_eq_some_iff.1 hh).1
    rw [Nat.mul_one] at htake
    have hcell : ∀ (j : Nat) (hj : j < ts.length), cur[j]? = some (S (ts[j])) := by
      intro j hj
      have : (strs ts)[j]? = some (S ts[j]) := by unfold strs; rw [List.getElem?_map, List.getElem?_eq_getElem hj]; rfl
      rw [← htake, List.getElem?_take] at this
      rw [if_pos hj] at this
      simpa using this
    have hH : Holds encStr w g 0 ts.toArray := by
      intro j hj
      have hj' : j < ts.length := by simpa using hj
      refine ⟨?_, by simp [World.frozen?, hh]⟩
      rw [cell_of_row _ _ _ _ _ _ hh, Nat.zero_add, hcell j hj', getElem!_pos ts.toArray j hj]
      simp [S]
    refine (Tryz.slices_Sort_string g 0 cap ts w hH hgl (by omega)).mono ?_
    rintro e w' ⟨rfl, n, os, rfl⟩
    have hlen : (sortT ts).length = ts.length := sortT_len ts
    have hsz : (sortT ts).toArray.size = ts.toArray.size := by simpa using hlen
    have hput : (putRow encStr (Sort.ahead w n) g 0 (sortT ts).toArray).heap[g]? = some (.cells (putCells encStr 0 (sortT ts).toArray cur) 9 (0, 0)) := by
      simp only [putRow, mapBlock, Sort.ahead, Array.getElem?_modify, if_true, hh]
      rfl
    have hblk : (grow (putRow encStr (Sort.ahead w n) g 0 (sortT ts).toArray) os).heap[g]? = some (.cells (putCells encStr 0 (sortT ts).toArray cur) 9 (0, 0)) := by
      simp only [grow]
      rw [Array.getElem?_append_left (Array.getElem?_eq_some_iff.1 hput).1]
      exact hput
    have hoth : ∀ k, k < w.heap.size → k ≠ g → (grow (putRow encStr (Sort.ahead w n) g 0 (sortT ts).toArray) os).heap[k]? = w.heap[k]? := by
      intro k hk hne
      simp only [grow]
      rw [Array.getElem?_append_left (by simpa using hk)]
      simp only [putRow, mapBlock, Sort.ahead, Array.getElem?_modify]
      rw [if_neg (fun e => hne e.symm)]
    have hH2 := holds_grow encStr (putRow encStr (Sort.ahead w n) g 0 (sortT ts).toArray) os g 0 (sortT ts).toArray (by simpa using hgl) (holds_putRow encStr (Sort.ahead w n) g 0 ts.toArray (sortT ts).toArray (holds_ahead encStr w n g 0 _ hH) hsz)
    refine ⟨rfl, ⟨_, cap, rfl, hnc, by simpa [maxLen] using hcm, by simp [strs, hlen], .inr ⟨g, 0, rfl, fun j u hj => ?_, fun _ => ⟨_, _, hblk⟩⟩⟩, ⟨by simp, fun k hk hne => hoth k hk (fun e => by subst e; exact hne _ _ hh)⟩, ⟨rfl, rfl, rfl, by simp, fun k hk => ?_⟩⟩
    · unfold strs at hj
      rw [List.getElem?_map] at hj
      obtain ⟨x, hx, rfl⟩ := Option.map_eq_some_iff.1 hj
      have hjl := (List.getElem?_eq_some_iff.1 hx).1
      have := (hH2 j (by simpa using hjl)).1
      rw [getElem!_pos (sortT ts).toArray j (by simpa using hjl)] at this
      have hx2 := (List.getElem?_eq_some_iff.1 hx).2
      refine this.trans ?_
      simp [S, hx2]
    · by_cases hkw : k < w.heap.size
      · exact hoth k hkw (by omega)
      · omega
/-- Two rows of strings, compared. -/
theorem eq_strs {ty1 ty2 : Bool} (v1 v2 : Value) (xs ys : List (List UInt8)) (w : World) (h1 : Rd ty1 w 9 v1 xs.length 1 (strs xs)) (h2 : Rd ty2 w 9 v2 ys.length 1 (strs ys)) :
    Calls Tryz.prog 35 #[v1, v2] w fun e w' => e = .returned (.bool (decide (xs = ys))) ∧ ∃ q, w' = w.drewN q := by
  obtain ⟨A1, c1, rfl, hc1, hm1⟩ := h1.shape
  obtain ⟨A2, c2, rfl, hc2, hm2⟩ := h2.shape
  by_cases hl : xs.length = ys.length
  · by_cases hz : xs.length = 0
    · have hx : xs = [] := List.eq_nil_of_length_eq_zero hz
      have hy : ys = [] := List.eq_nil_of_length_eq_zero (by omega)
      subst hx hy
      refine (Tryz.slices_Equal_string_empty A1 A2 c1 0 c2 w (by omega)).mono ?_
      rintro e w' ⟨rfl, rfl⟩
      exact ⟨rfl, 0, rfl⟩
    · obtain ⟨b1, o1, d1, e1, _, _, k1⟩ := h1.cells (by omega)
      obtain ⟨b2, o2, d2, e2, _, _, k2⟩ := h2.cells (by omega)
      injection e1 with e1 _ _
      injection e2 with e2 _ _
      subst e1 e2
      have cells : ∀ (b o : Nat) (l : List (List UInt8)), (∀ (j : Nat) u, (strs l)[j]? = some u → w.cell? ⟨b, o + j, none⟩ = some u) → ∀ j, j < (l.map fun x => (⟨x.toArray⟩ : ByteArray)).length → w.cell? ⟨b, o + j, none⟩ = some (.string ((l.map fun x => (⟨x.toArray⟩ : ByteArray)).getD j ByteArray.empty)) := by
        intro b o l h j hj
        rw [List.length_map] at hj
        refine h j _ ?_
        unfold strs
        rw [List.getElem?_map, List.getElem?_eq_getElem hj]
        simp [List.getD, S, List.getElem?_eq_getElem hj]
      refine (Tryz.slices_Equal_string b1 o1 xs.length c1 b2 o2 ys.length c2 (xs.map fun x => ⟨x.toArray⟩) (ys.map fun x => ⟨x.toArray⟩) w (by simp) (by simp) (by omega) (by omega) (cells b1 o1 xs k1) (cells b2 o2 ys k2)).mono ?_
      rintro e w' ⟨rfl, h⟩
      refine ⟨?_, h⟩
      congr 2
      rw [List.take_of_length_le (by simp), List.take_of_length_le (by simp)]
      refine decide_eq_decide.2 ⟨fun h => ?_, fun h => by rw [h]⟩
      have := congrArg (List.map bs) h
      simpa [List.map_map, Function.comp_def, bs] using this
  · refine (Tryz.slices_Equal_string_lens A1 A2 xs.length c1 ys.length c2 w hl).mono ?_
    rintro e w' ⟨rfl, rfl⟩
    refine ⟨?_, 0, rfl⟩
    rw [decide_eq_false]
    intro h
    exact hl (by rw [h])
end Go.Proofs.YtleofgndghjflaaGreatDoor

set_option linter.unusedVariables false
set_option linter.unusedSimpArgs false
namespace Go.Proofs.YtleofgndghjflaaGreatDoor
open Go Go.RowKit

theorem goP_cons (p : List UInt8) (r : List (List UInt8)) (ms : List Mem) (bad : Bool) : goP (p :: r) ms bad = if 64 ≤ ms.length then (ms, true) else match parseM p with
    | none => goP r ms true
    | some x => goP r (putM (toMem x) ms) bad := rfl
theorem MR.grownMap {T : TypeId} {w w' : World} {cs : List Value} {x : SM} {b : Nat} {L : List KV} (h : MR true T w cs x) (hm : MapAt w b L) (hg : w.grownBy w' (some b)) : MR true T w' cs x := by
  obtain ⟨kb, vb, pv, h1, h2, h3, h4⟩ := h
  exact ⟨kb, vb, pv, h1, h2, h3, h4.grownMap hm hg⟩
theorem MRs.grownMap {T E : TypeId} {w w' : World} {v : Value} {xs : List SM} {b : Nat} {L : List KV} (h : MRs true true T E w v xs) (hm : MapAt w b L) (hg : w.grownBy w' (some b)) : MRs true true T E w' v xs := by
  obtain ⟨css, h1, h2⟩ := h
  exact ⟨css, h1.grownMap hm hg, h2.imp (fun _ _ h => MR.grownMap h hm hg)⟩
theorem MRs.fr9 {T E : TypeId} {w w' : World} {v : Value} {xs : List SM} {e : TypeId} (h : MRs true true T E w v xs) (hf : Fr e w w') (h1 : T ≠ e) (h2 : E ≠ e) : MRs true true T E w' v xs := by
  obtain ⟨css, k1, k2⟩ := h
  exact ⟨css, k1.fr hf h2, k2.imp (fun _ _ h => MR.fr h hf h1)⟩
/-- What is known where 'open' is not set. -/
def Shut (o : Bool) (R : List Mem × Bool) (ps : List (List UInt8)) (okb : Bool) (ms : List Mem) (X : List SM) : Prop := o = false → BagIs ms X ∧ R = goP ps ms (!okb)
def Mid (R : List Mem × Bool) (w : World) (v2 v4 v5 v6 : Value) (W : World) : Prop :=
  ∃ (okb l o : Bool) (ms : List Mem) (X : List SM) (L : List KV), v4 = .bool okb ∧ v5 = .bool l ∧ v6 = .bool o ∧ Below w.heap.size w W ∧ MRs true true 23 28 W v2 X ∧ X.length ≤ 64 ∧ Srt X ∧ MapAt W w.heap.size L ∧ All2 TextAt L ms ∧ Shut o R [] okb ms X
/-- ParseBag: the members, their texts sorted, whether all was right, whether blanks stand in metadata, whether the reference leaves it open. -/
def PBPost (R : List Mem × Bool) (w : World) (e : Ending) (w' : World) : Prop :=
  ∃ (v tv : Value) (okb l o : Bool) (ms : List Mem) (X : List SM), e = .returned (.tuple #[v, tv, .bool okb, .bool l, .bool o]) ∧ MRs true true 23 28 w' v X ∧ X.length ≤ 64 ∧ Rd true w' 9 tv X.length 1 (strs (sortT (X.map fun x => textOf ms x.1))) ∧ Below w.heap.size w w' ∧ (o = false → BagIs ms X ∧ R = (ms, !okb))
theorem withMS_len (m : SM) : ∀ X : List SM, (withMS m X).length ≤ X.length + 1
  | [] => by simp [withMS]
  | x :: X => by
    unfold withMS
    split
    · have := withMS_len m X
      simp only [List.length_cons]; omega
    · split <;> simp

set_option maxHeartbeats 8000000 in
set_option maxRecDepth 100000 in
theorem ParseBag_any (s : ByteArray) (w : World) (hw : Laid w) (hs : s.size ≤ 2000) : Calls Tryz.prog 34 #[.string s] w (PBPost (parseB (bs s)) w) := by
  obtain ⟨R, hR⟩ : ∃ R, parseB (bs s) = R := ⟨_, rfl⟩
  rw [hR]
  have A : Aside (parseB (bs s) = R) := hR
  clear hR
  cases he : s.toList.isEmpty with
  | true =>
    have X : Aside (R = ([], false)) := by
      show _ = _
      rw [← A.out, parseB, ← toList_empty, he]
      rfl
    go_enter Tryz.func34, Tryz.ntmps34
    go_wp2_with fail
    (try simp only [Exit.inBlock, Exit.then]); refine bodyPost_ret (results_tmp5 rfl _ _ _) rfl ?_
    have hs0 : sortT [] = [] := List.eq_nil_of_length_eq_zero (sortT_len [])
    exact ⟨.slice none 0 0, .slice none 0 0, true, false, false, [], [], rfl, ⟨[], Rd.nil _ _ _ _, trivial⟩, by simp, by show Rd true w 9 _ _ 1 (strs (sortT [])); rw [hs0]; exact Rd.nil _ _ _ _, Below.refl _ _, fun _ => ⟨BagIs.none, X.out⟩⟩
  | false =>
    have hne : bs s ≠ [] := by
      intro e
      rw [toList_empty, e] at he
      cases he
    have RG : Aside (R = goP (splitL 44 (bs s)) [] false) := by show _ = _; rw [← A.out]; exact parseB_goP _ hne (by rw [bs_length]; exact hs)
    clear hne A
    have hmk := run_mm 132
    obtain ⟨w1, hw1⟩ : ∃ w1, w.alloc (.map #[] 0) = w1 := ⟨_, rfl⟩
    have hM1 : MapAt w1 w.heap.size [] := by rw [← hw1]; exact MapAt.made _
    have hb1 : Below w.heap.size w w1 := by rw [← hw1]; exact (Below.refl _ _).alloc (Nat.le_refl _) _
    have hsp := bagSplit_any 44 s w1 (by omega)
    rw [show (((44 : UInt8).toNat : Nat) : Int) = 44 from rfl] at hsp
    go_enter Tryz.func34, Tryz.ntmps34
    go_wp2_with (go_at_fn 67; fail)
    refine hsp.mono ?_
    intro e w2 hpost
    obtain ⟨sv, rfl, hrd, hb2⟩ := hpost
    have hb12 := below_then hb1 hb1.size hb2
    have hM2 := hM1.below hb2
    obtain ⟨SA, sc, rfl, hnc, hcm⟩ := hrd.shape
    have hLl := splitL_len 44 (bs s)
    have hLm : Aside (∀ p ∈ splitL 44 (bs s), p.length ≤ 2000) := by
      intro p hp
      have h1 := lensum_mem _ p hp
      rw [split_lensum, bs_length] at h1
      omega
    rw [bs_length] at hLl
    obtain ⟨ps, hps⟩ : ∃ ps, splitL 44 (bs s) = ps := ⟨_, rfl⟩
    rw [hps] at hrd hnc hLl hLm RG ⊢
    clear hsp hb2 hM1 hb1 hw1 hps hmk he
    go_upto_block 0 with fail
    go_cut [2, 4, 5, 6] (fun v2 v4 v5 v6 W => Mid R w v2 v4 v5 v6 W)
    case first =>
      go_wp2_with fail
      go_loopg [2, 4, 5, 6, 23] (ps.length + 1) (fun gk v2 v4 v5 v6 i W => Below w.heap.size w W ∧ Rd true W 9 (.slice SA ps.length sc) ps.length 1 (strs ps) ∧
        ∃ (j : Nat) (okb l o : Bool) (ms : List Mem) (X : List SM) (L : List KV), i = .int .i64 j ∧ v4 = .bool okb ∧ v5 = .bool l ∧ v6 = .bool o ∧ j ≤ ps.length ∧ j + gk = ps.length + 1 ∧ MRs true true 23 28 W v2 X ∧ X.length ≤ 64 ∧ Aside (Srt X) ∧ MapAt W w.heap.size L ∧ Aside (All2 TextAt L ms) ∧ Shut o R (ps.drop j) okb ms X)
      case atStart => exact ⟨hb12, hrd, 0, true, false, false, [], [], [], rfl, rfl, rfl, rfl, Nat.zero_le _, Nat.zero_add _, ⟨[], Rd.nil _ _ _ _, trivial⟩, by simp, List.Pairwise.nil, hM2, trivial, fun _ => ⟨BagIs.none, RG.out⟩⟩
      case round =>
        clear hb12 hrd hM2 RG
        obtain ⟨hb, hrd, j, okb, l, o, ms, X, L, rfl, rfl, rfl, rfl, hj, hg, hmr, hX64, hsrt, hM, hTA, hSh⟩ := hrel
        have hws := hb.size
        by_cases hlt : j < ps.length
        · obtain ⟨p, hpj⟩ : ∃ p, ps[j] = p := ⟨_, rfl⟩
          have hpk : ps[j]? = some p := by rw [List.getElem?_eq_getElem hlt, hpj]
          have hpm : p ∈ ps := by rw [← hpj]; exact List.getElem_mem hlt
          obtain ⟨pb, hpb, hpbs⟩ := S_str p
          have hpz : pb.size ≤ 2000 := by rw [← bs_length, hpbs]; exact hLm.out p hpm
          have hdr : ps.drop j = bs pb :: ps.drop (j + 1) := by rw [hpbs, ← hpj]; exact List.drop_eq_getElem_cons hlt
          have SH : Aside (Shut o R (bs pb :: ps.drop (j + 1)) okb ms X) := by rw [← hdr]; exact hSh
          obtain ⟨bk, ofs, c', he, _, _, _⟩ := hrd.cells (by omega)
          injection he with he1 he2 he3
          subst he1 he3
          clear he2
          have e0 : wr.cell? ⟨bk, ofs + j, none⟩ = some (.string pb) := hrd.at' (j := j) (by omega) (by unfold strs; rw [List.getElem?_map, hpk, ← hpb]; rfl)
          clear hSh hdr hpbs hpb hpm hpk hpj
          obtain ⟨MA, mc, rfl, hmn, hmm⟩ := hmr.shape
          by_cases h64 : X.length = 64
          · have h64i : ((X.length : Int) == 64) = true := by rw [h64]; rfl
            have H64 : Aside (X.length = 64) := h64
            clear h64
            go_wp2_with fail
            go_meet
            refine ⟨false, l, o, ms, X, L, rfl, rfl, rfl, hb, hmr, hX64, hsrt.out, hM, hTA.out, fun h => ?_⟩
            obtain ⟨h1, h2⟩ := SH.out h
            refine ⟨h1, ?_⟩
            rw [h2, goP_cons, if_pos (by rw [h1.length, H64.out]; exact Nat.le_refl _)]
            rfl
          · have h64i : ((X.length : Int) == 64) = false := beq_eq_false_iff_ne.2 (by omega)
            have hX63 : X.length ≤ 63 := by omega
            have hpm := parsedMember_any pb wr (hw.below hb) (by omega)
            obtain ⟨Q, hQ⟩ : ∃ Q, parseM (bs pb) = Q := ⟨_, rfl⟩
            rw [hQ] at hpm
            have QQ : Aside (parseM (bs pb) = Q) := hQ
            clear hQ h64
            go_wp2_with (go_at_fn 68; fail)
            refine hpm.mono ?_
            intro e w3 hpost
            obtain ⟨kb, vb, pv, text, l1, o1, qs, rfl, hrq, hql, hqr, hb3⟩ := hpost
            have HQ : Aside ((∀ r, Q = some r → bs text = memStr (toMem r) ∧ bs kb = r.1 ∧ bs vb = r.2.1 ∧ (o1 = false → qs = memProps (toMem r))) ∧ qs.length ≤ pb.size + 1) := ⟨hqr, hql⟩
            obtain ⟨pA, pc, rfl, hpn, hpc⟩ := hrq.shape
            have hb13 := below_then hb hws hb3
            have hrd3 := hrd.below hb3
            have hmr3 := hmr.below hb3
            have hM3 := hM.below hb3
            have hws3 := hb13.size
            clear hpm hqr hql hb3 hb hrd hmr hM e0 h64i
            have hA4 : Below w3.heap.size w3 (w3.alloc (.cells #[.string kb, .string vb, .slice pA qs.length pc] 28)) := (Below.refl _ _).alloc (Nat.le_refl _) _
            obtain ⟨w4, hw4⟩ : ∃ w4, w3.alloc (.cells #[.string kb, .string vb, .slice pA qs.length pc] 28) = w4 := ⟨_, rfl⟩
            have hp4 : w4.heap[w3.heap.size]? = some (.cells #[.string kb, .string vb, .slice pA qs.length pc] 28 (0, 0)) := by rw [← hw4]; exact heap_alloc_new _ _
            rw [hw4] at hA4
            have HW4 : Aside (w3.alloc (.cells #[.string kb, .string vb, .slice pA qs.length pc] 28) = w4) := hw4
            clear hw4
            go_upto_region 11 with fail
            rw [HW4.out]
            go_cut [5, 6] from 38 to 5 (fun lv ov W => lv = .bool (l || l1) ∧ ov = .bool (o || o1) ∧ W = w4)
            case first =>
              cases l <;> cases o
              all_goals
                go_wp2_with fail
                go_meet
                exact ⟨rfl, rfl, rfl⟩
            case rest =>
              obtain ⟨rfl, rfl, rfl⟩ := hcut
              obtain ⟨l2, hl2⟩ : ∃ l2, (l || l1) = l2 := ⟨_, rfl⟩
              obtain ⟨o2, ho2⟩ : ∃ o2, (o || o1) = o2 := ⟨_, rfl⟩
              obtain ⟨qk, hqk⟩ : ∃ qk, Q.isSome = qk := ⟨_, rfl⟩
              rw [hl2, ho2, hqk]
              have O2 : Aside ((o || o1) = o2) := ho2
              have QK : Aside (Q.isSome = qk) := hqk
              clear hl2 ho2 hqk
              have hb14 : Below w.heap.size w wc := below_then hb13 hws3 hA4
              cases qk with
              | false =>
                have hQ : Q = none := by
                  cases Q with
                  | none => rfl
                  | some r => have := QK.out; cases this
                have QN : Aside (parseM (bs pb) = none) := by show _ = _; rw [QQ.out, hQ]
                clear hQ QK
                go_wp2_with fail
                go_roundg (gk - 1)
                case rel =>
                  refine ⟨hb14, hrd3.below hA4, j + 1, false, l2, o2, ms, X, L, by go_num, rfl, rfl, rfl, by omega, by omega, hmr3.below hA4, hX64, hsrt, hM3.below hA4, hTA, fun h => ?_⟩
                  have h1 := O2.out
                  rw [h, Bool.or_eq_false_iff] at h1
                  obtain ⟨h2, h3⟩ := SH.out h1.1
                  refine ⟨h2, ?_⟩
                  rw [h3, goP_cons, if_neg (by rw [h2.length]; omega), QN.out]
                  rfl
                case measure => omega
              | true =>
                obtain ⟨r, hr⟩ : ∃ r, Q = some r := by
                  cases Q with
                  | none => have := QK.out; cases this
                  | some r => exact ⟨r, rfl⟩
                obtain ⟨t1, t2, t3, t4⟩ := HQ.out.1 r hr
                have QN : Aside (parseM (bs pb) = some r ∧ bs text = memStr (toMem r) ∧ bs kb = r.1 ∧ bs vb = r.2.1 ∧ (o1 = false → qs = memProps (toMem r))) := ⟨by rw [QQ.out, hr], t1, t2, t3, t4⟩
                clear hr t1 t2 t3 t4 QK
                have hwi := with_any (ty := true) (ty2 := true) (.slice MA X.length mc) X kb vb pA qs.length pc (bs kb, bs vb, qs) wc (hmr3.below hA4) (by omega) hsrt.out ⟨kb, vb, _, rfl, rfl, rfl, hrq.below hA4⟩
                have hM4 := hM3.below hA4
                have hrd4 := hrd3.below hA4
                have hws4 := hb14.size
                obtain ⟨⟨c0, c1, c2⟩, g0, g1, g2⟩ := row3 hp4
                clear hrd3 hmr3 hM3 hrq hA4 hb13
                go_wp2_with (go_at_fn 24; fail)
                refine hwi.mono ?_
                intro e w5 hpost
                obtain ⟨v5, css5, rfl, hown5, hall5, hb5⟩ := hpost
                have hb15 := below_then hb14 hws4 hb5
                have hM5 := hM4.below hb5
                have hrd5 := hrd4.below hb5
                have hp5 := (hb5.block _ (Array.getElem?_eq_some_iff.1 hp4).1).trans hp4
                have hmr5 : MRs true true 23 28 w5 v5 (withMS (bs kb, bs vb, qs) X) := ⟨css5, Rd.of_own hown5, hall5.imp (fun _ _ h => MR.below h hb5)⟩
                have hws5 := hb15.size
                obtain ⟨w6, hup, hM6, hg6⟩ := hM5.update Tryz.underlying132 Tryz.underlying9 kb (.string text)
                have hb16 : Below w.heap.size w w6 := hb15.grown hg6 hws5 (by intro q hq; injection hq with hq; omega)
                have hrd6 := hrd5.grownMap hM5 hg6
                have hmr6 := hmr5.grownMap hM5 hg6
                clear hwi hown5 hall5 hb5 hM4 hrd4 c0 c1 c2 g0 g1 g2 hp4 hrd5 hmr5 hg6 hM5
                obtain ⟨⟨c0, c1, c2⟩, g0, g1, g2⟩ := row3 hp5
                go_wp2_with fail
                go_roundg (gk - 1)
                case rel =>
                  have hq := QN.out
                  refine ⟨hb16, hrd6, j + 1, okb, l2, o2, putM (toMem r) ms, withMS (bs kb, bs vb, qs) X, _, by go_num, rfl, rfl, rfl, by omega, by omega, hmr6, ?_, withMS_sorted _ _ hsrt.out, hM6, ?_, fun h => ?_⟩
                  · have := withMS_len (bs kb, bs vb, qs) X
                    omega
                  · have := put_text kb (toMem r) hq.2.2.1 L ms hTA.out
                    rw [← hq.2.1, ← S_bs] at this
                    exact this
                  · have h1 := O2.out
                    rw [h, Bool.or_eq_false_iff] at h1
                    obtain ⟨h2, h3⟩ := SH.out h1.1
                    have ht : (bs kb, bs vb, qs) = told (toMem r) := by
                      rw [hq.2.2.1, hq.2.2.2.1, hq.2.2.2.2 h1.2]
                      rfl
                    refine ⟨by rw [ht]; exact h2.put (toMem r), ?_⟩
                    rw [h3, goP_cons, if_neg (by rw [h2.length]; omega), hq.1]
                case measure => omega
        · have hd : ps.drop j = [] := List.drop_eq_nil_of_le (by omega)
          rw [hd] at hSh
          go_wp2_with fail
          go_meet
          exact ⟨okb, l, o, ms, X, L, rfl, rfl, rfl, hb, hmr, hX64, hsrt.out, hM, hTA.out, hSh⟩
    case rest =>
      clear hb12 hrd hM2
      obtain ⟨okb, l, o, ms, X, L, rfl, rfl, rfl, hb, hmr, hX64, hsrt, hM, hTA, hSh⟩ := hcut
      have SH : Aside ((o = false → BagIs ms X ∧ R = (ms, !okb)) ∧ All2 TextAt L ms) := ⟨hSh, hTA⟩
      obtain ⟨MA, mc, rfl, hmn, hmm⟩ := hmr.shape
      clear hSh hTA hsrt RG
      go_wp2_with fail
      go_loopg [3, 58] (X.length + 1) (fun gk tv i W => Below w.heap.size w W ∧ MRs true true 23 28 W (.slice MA X.length mc) X ∧ MapAt W w.heap.size L ∧ ∃ j : Nat, i = .int .i64 j ∧ j ≤ X.length ∧ j + gk = X.length + 1 ∧ W.ownsRow w.heap.size 9 1 tv j (strs ((X.take j).map fun x => textOf ms x.1)))
      case atStart => exact ⟨hb, hmr, hM, 0, rfl, Nat.zero_le _, Nat.zero_add _, own_nil _ _ _ _⟩
      case round =>
        clear hb hmr hM
        obtain ⟨hb, hmr, hM, j, rfl, hj, hg, ho⟩ := hrel
        have hws := hb.size
        obtain ⟨OA, oc, rfl⟩ := own_shape ho
        by_cases hlt : j < X.length
        · obtain ⟨x, hx⟩ : ∃ x, X[j] = x := ⟨_, rfl⟩
          obtain ⟨bk, ofs, kb, vb, pA, pc, rfl, x0, x1, x2, hk1, _, _⟩ := hmr.get j hlt x hx
          have hA1 : Below wr.heap.size wr (wr.alloc (.cells #[.string kb, .string vb, .slice pA x.2.2.length pc] 28)) := (Below.refl _ _).alloc (Nat.le_refl _) _
          have hMa := hM.below hA1
          have hmra := hmr.below hA1
          have hlk := hMa.look1 Tryz.underlying132 Tryz.underlying9 (Tryz.zeroValue9 _) kb
          obtain ⟨tb, htb, htbs⟩ := S_str (textOf ms x.1)
          rw [asc_text kb L ms SH.out.2, hk1, htb] at hlk
          have htk : Aside (strs ((X.take (j + 1)).map fun x => textOf ms x.1) = strs ((X.take j).map fun x => textOf ms x.1) ++ [.string tb]) := by
            show _ = _
            rw [List.take_succ_eq_append_getElem hlt, hx, List.map_append, ← htb]
            simp [strs]
          have hpa := heap_alloc_new wr (.cells #[.string kb, .string vb, .slice pA x.2.2.length pc] 28)
          obtain ⟨⟨c0, c1, c2⟩, g0, g1, g2⟩ := row3 hpa
          have hzz : (wr.alloc (.cells #[.string kb, .string vb, .slice pA x.2.2.length pc] 28)).heap.size = wr.heap.size + 1 := by simp
          have hb2 : Below w.heap.size w (wr.alloc (.cells #[.string kb, .string vb, .slice pA x.2.2.length pc] 28)) := hb.alloc hws _
          clear hmr hM htb htbs hk1 hx hA1
          go_wp2_with (at_builtin; go_must (refine wp_app (W := wr.alloc (.cells #[.string kb, .string vb, .slice pA x.2.2.length pc] 28)) w.heap.size rfl (.tmp 62) (.tmp 67) 54 rfl 9 (.string ⟨#[]⟩) 1 16 Tryz.underlying54 Tryz.infoStr rfl (by decide) (.slice OA j oc) j _ [.string tb] rfl (by show _ = Value.slice (some ⟨(wr.alloc _).heap.size, 0, none⟩) 1 1; rw [hzz]; rfl) rfl (one_str tb) (ho.alloc _) (by omega) (by omega) (by omega) ?_); intro v1 w3 ho3 hb3 hf3 hs3)
          go_roundg (gk - 1)
          case rel =>
            refine ⟨hb2.trans hb3, hmra.fr9 hf3 (by decide) (by decide), hMa.fr hf3, j + 1, by go_num, by omega, by omega, ?_⟩
            rw [htk.out]
            exact ho3
          case measure => omega
        · have hjl : j = X.length := by omega
          subst hjl
          have hml : (X.map fun x => textOf ms x.1).length = X.length := by simp
          rw [List.take_length] at ho
          have hso := sort_strs w.heap.size (.slice OA X.length oc) (X.map fun x => textOf ms x.1) wr (by rw [hml]; exact ho) (by omega)
          clear ho hml
          go_wp2_with (go_at_fn 69; fail)
          refine hso.mono ?_
          intro e w7 hpost
          obtain ⟨rfl, hrd7, hf7, hb7⟩ := hpost
          rw [List.length_map] at hrd7
          have hmr7 := hmr.fr9 hf7 (by decide) (by decide)
          clear hso
          go_wp2_with fail
          (try simp only [Exit.inBlock, Exit.then]); refine bodyPost_ret (results_tmp5 rfl _ _ _) rfl ?_
          exact ⟨_, _, okb, l, o, ms, X, rfl, hmr7, hX64, hrd7, hb.trans hb7, SH.out.1⟩
end Go.Proofs.YtleofgndghjflaaGreatDoor

set_option linter.unusedVariables false
set_option linter.unusedSimpArgs false
namespace Go.Proofs.YtleofgndghjflaaGreatDoor
open Go Go.RowKit

def SplitOwn (c : UInt8) (s : ByteArray) (w : World) (e : Ending) (w' : World) : Prop :=
  ∃ v, e = .returned v ∧ w'.ownsRow w.heap.size 9 1 v (splitL c (bs s)).length (strs (splitL c (bs s))) ∧ Below w.heap.size w w'
set_option maxHeartbeats 2000000 in
set_option maxRecDepth 100000 in
theorem bagSplit_own (c : UInt8) (s : ByteArray) (w : World) (hs : s.size ≤ 1000000) :
    Calls Tryz.prog 67 #[.string s, .int .u8 (c.toNat : Int)] w (SplitOwn c s w) := by
  have L := bs_length s
  have hlen := splitL_len c (bs s)
  have X : Aside (splitL c (bs s) = [] ++ splitL c (bs s) ∧ (splitL c (bs s)).length ≤ s.size + 1) := ⟨rfl, by omega⟩
  clear L hlen
  go_enter Tryz.func67, Tryz.ntmps67
  go_wp2_with fail
  go_loopg [0, 5] (s.size + 1) (fun gk x o wx => Below w.heap.size w wx ∧ ∃ (y : ByteArray) (done : List (List UInt8)), x = .string y ∧ y.size < gk ∧ wx.ownsRow w.heap.size 9 1 o done.length (strs done) ∧
      Aside (splitL c (bs s) = done ++ splitL c (bs y) ∧ (splitL c (bs s)).length ≤ s.size + 1) ∧ y.size ≤ 1000000 ∧ done.length ≤ 1000000)
  case atStart => exact ⟨Below.refl _ _, s, [], rfl, by omega, own_nil _ _ _ _, X, by omega, by simp⟩
  case round =>
    obtain ⟨hb, y, done, rfl, hy, ho, hX, hy1, hd⟩ := hrel
    clear X
    have hcut := bagCut_any c y wr hy1
    go_wp2_with (go_at_fn 108; fail)
    refine hcut.mono ?_
    rintro e w1 ⟨b, a, f, rfl, hc, hb1⟩
    clear hcut
    have C : Aside (cut1 c (bs y) = (bs b, bs a, f)) := hc
    have ho1 := own_below (C := 0) ho hb1
    have hbB := below_then hb hb.size hb1
    have hsz : w.heap.size ≤ w1.heap.size := hbB.size
    clear hc ho hb hb1
    cases f with
    | false =>
      go_wp2_with (at_builtin; go_must (refine wp_app w.heap.size rfl _ _ 54 rfl 9 (.string ⟨#[]⟩) 1 16 Tryz.underlying54 Tryz.infoStr rfl (by decide) u5 done.length _ [.string b] rfl rfl rfl (one_str b) ho1 hsz (by omega) (by omega) ?_); intro v1 w2 ho2 hb2 hf2 hs2)
      go_ret
      have e1 : splitL c (bs s) = done ++ [bs b] := by rw [hX.out.1, splitL_cut, C.out]; rfl
      refine ⟨v1, rfl, ?_, hbB.trans hb2⟩
      rw [e1, List.length_append]
      have := ho2
      rw [S_bs] at this
      simpa [strs] using this
    | true =>
      go_wp2_with (at_builtin; go_must (refine wp_app w.heap.size rfl _ _ 54 rfl 9 (.string ⟨#[]⟩) 1 16 Tryz.underlying54 Tryz.infoStr rfl (by decide) u5 done.length _ [.string b] rfl rfl rfl (one_str b) ho1 hsz (by omega) (by omega) ?_); intro v1 w2 ho2 hb2 hf2 hs2)
      have hl := cut1_len c (bs y)
      rw [C.out, bs_length, bs_length, bs_length] at hl
      simp only [if_true] at hl
      have e1 : splitL c (bs s) = (done ++ [bs b]) ++ splitL c (bs a) := by rw [hX.out.1, splitL_cut, C.out, List.append_assoc]; rfl
      have h2 := hX.out.2
      have e2 : done.length + 1 ≤ s.size := by
        rw [e1, List.length_append] at h2
        have h3 := List.length_pos_iff.2 (splitL_ne c (bs a))
        simp only [List.length_append, List.length_cons, List.length_nil] at h2
        omega
      have E : Aside (splitL c (bs s) = (done ++ [bs b]) ++ splitL c (bs a)) := e1
      clear e1 h2
      go_roundg (y.size)
      case rel =>
        refine ⟨hbB.trans hb2, a, done ++ [bs b], rfl, by omega, ?_, ⟨E.out, hX.out.2⟩, by omega, by simp; omega⟩
        rw [List.length_append]
        rw [S_bs] at ho2
        simpa [strs] using ho2
      case measure => omega
/-- A header's members' texts, sorted. -/
def textsOf (l : List UInt8) : List (List UInt8) := if l = [] then [] else sortT (splitL 44 l)
def TextsPost (l : List UInt8) (w : World) (e : Ending) (w' : World) : Prop := ∃ v, e = .returned v ∧ Rd true w' 9 v (textsOf l).length 1 (strs (textsOf l)) ∧ Below w.heap.size w w'
set_option maxHeartbeats 2000000 in
set_option maxRecDepth 100000 in
theorem bagTexts_any (s : ByteArray) (w : World) (hs : s.size ≤ 50000) : Calls Tryz.prog 36 #[.string s] w (TextsPost (bs s) w) := by
  obtain ⟨T, hT⟩ : ∃ T, textsOf (bs s) = T := ⟨_, rfl⟩
  have A : Aside (∀ e w', (∃ v, e = Ending.returned v ∧ Rd true w' 9 v T.length 1 (strs T) ∧ Below w.heap.size w w') → TextsPost (bs s) w e w') := fun e w' h => by unfold TextsPost; rw [hT]; exact h
  have TT : Aside (textsOf (bs s) = T) := hT
  clear hT
  cases he : s.toList.isEmpty with
  | true =>
    have X : Aside (T = []) := by
      show _ = _
      rw [← TT.out, textsOf, if_pos]
      rw [toList_empty] at he
      exact List.isEmpty_iff.1 he
    go_enter Tryz.func36, Tryz.ntmps36
    go_wp2_with fail
    go_ret
    refine A.out _ _ ⟨_, rfl, ?_, Below.refl _ _⟩
    rw [X.out]
    exact Rd.nil _ _ _ _
  | false =>
    have X : Aside (T = sortT (splitL 44 (bs s))) := by
      show _ = _
      rw [← TT.out, textsOf, if_neg]
      intro e
      rw [toList_empty, e] at he
      cases he
    have hsp := bagSplit_own 44 s w (by omega)
    rw [show (((44 : UInt8).toNat : Nat) : Int) = 44 from rfl] at hsp
    have hln := splitL_len 44 (bs s)
    rw [bs_length] at hln
    go_enter Tryz.func36, Tryz.ntmps36
    go_wp2_with (go_at_fn 67; fail)
    refine hsp.mono ?_
    intro e w1 hpost
    obtain ⟨v, rfl, hown, hb1⟩ := hpost
    have hso := sort_strs w.heap.size v _ w1 hown (by omega)
    clear hsp
    go_wp2_with (go_at_fn 69; fail)
    refine hso.mono ?_
    intro e w2 hpost
    obtain ⟨rfl, hrd2, hf2, hb2⟩ := hpost
    clear hso hown
    go_wp2_with fail
    go_ret
    refine A.out _ _ ⟨v, rfl, ?_, hb1.trans hb2⟩
    rw [X.out, sortT_len]
    exact hrd2

theorem goP_wt : ∀ (ps : List (List UInt8)) (ms : List Mem) (bad : Bool), wt (goP ps ms bad).1 ≤ wt ms + 3 * lensum ps
  | [], ms, bad => by simp [goP]
  | p :: r, ms, bad => by
    have e : lensum (p :: r) = p.length + 1 + lensum r := by simp [lensum]
    rw [goP_cons]
    split
    · simp only; omega
    · cases hq : parseM p with
      | none => have := goP_wt r ms true; simp only; omega
      | some x =>
        have h1 := goP_wt r (putM (toMem x) ms) bad
        have h2 := wt_put (toMem x) ms
        have h3 := parseM_text p x hq
        simp only
        omega
theorem lensum_texts (ms : List Mem) : lensum (ms.map memStr) = wt ms := by
  unfold lensum wt
  rw [List.map_map]
  rfl
/-- The members' texts are the same, told by the package and by the reference. -/
theorem texts_same (l : List UInt8) (ms ms3 : List Mem) (X : List SM) (b : Bool) (hB : BagIs ms X) (hR : parseB l = (ms, b)) (hl : l.length ≤ 2000) (hp : ms.Perm ms3) :
    textsOf (bagStr ms3) = sortT (X.map fun x => textOf ms x.1) ∧ (bagStr ms3).length ≤ 50000 := by
  have hs0 : sortT [] = [] := List.eq_nil_of_length_eq_zero (sortT_len [])
  by_cases hne : ms3 = []
  · subst hne
    have hms : ms = [] := hp.eq_nil
    subst hms
    have hX : X = [] := by
      have := hB.length
      exact List.eq_nil_of_length_eq_zero (by simpa using this.symm)
    subst hX
    refine ⟨?_, by rw [bagStr_nil]; simp⟩
    rw [bagStr_nil, textsOf, if_pos rfl]
    exact hs0.symm
  · have hl0 : l ≠ [] := by
      intro e
      subst e
      have : parseB [] = ([], false) := rfl
      rw [this] at hR
      injection hR with h1 h2
      rw [← h1] at hp
      exact hne hp.symm.eq_nil
    rw [parseB_goP l hl0 hl] at hR
    have hcl := goP_clean (splitL 44 l) [] false (split_no 44 l) (by simp)
    have hw := goP_wt (splitL 44 l) [] false
    rw [hR] at hcl hw
    simp only at hcl hw
    have hc3 : ∀ m ∈ ms3, Clean m := fun m hm => hcl m (hp.mem_iff.2 hm)
    obtain ⟨h1, h2⟩ := bag_split ms3 hc3 hne
    refine ⟨?_, ?_⟩
    · rw [textsOf, if_neg h2, h1]
      refine sortT_perm ?_
      exact ((hp.map memStr).symm).trans (texts_perm hB).symm
    · have h3 := split_lensum 44 (bagStr ms3)
      have h4 := split_lensum 44 l
      rw [h1, lensum_texts, ← wt_perm hp] at h3
      have h0 : wt [] = 0 := rfl
      omega
end Go.Proofs.YtleofgndghjflaaGreatDoor

set_option linter.unusedVariables false
set_option linter.unusedSimpArgs false
namespace Go.Proofs.YtleofgndghjflaaGreatDoor
open Go Go.RowKit

set_option maxHeartbeats 4000000 in
set_option maxRecDepth 100000 in
theorem fnBagParse_any (s : ByteArray) (w : World) (hw : Laid w) (hsz : s.size ≤ 9223372036854775807) : Calls Tryz.prog 8 #[.string s] w (BoolPost true w) := by
  by_cases h1 : 2147483647 < s.size
  · have h1i : (2147483647 : Int) < s.size := by omega
    go_enter Tryz.func8, Tryz.ntmps8
    go_wp2_with fail
    go_ret
    exact ⟨rfl, Below.refl _ _⟩
  · have h1i : ¬ (2147483647 : Int) < s.size := by omega
    by_cases h2 : 2000 < s.size
    · have h2i : (2000 : Int) < s.size := by omega
      have haw := awake_any w hw
      go_enter Tryz.func8, Tryz.ntmps8
      go_wp2_with (go_at_fn 11; fail)
      refine haw.mono ?_
      rintro e w1 ⟨rfl, hb1⟩
      clear haw
      go_wp2_with fail
      go_ret
      exact ⟨rfl, hb1⟩
    · have h2i : ¬ (2000 : Int) < s.size := by omega
      have hpb := ParseBag_any s w hw (by omega)
      go_enter Tryz.func8, Tryz.ntmps8
      go_wp2_with (go_at_fn 34; fail)
      refine hpb.mono ?_
      intro e w1 hpost
      obtain ⟨v, tv, okb, l, o, ms, X, rfl, hmr, hX, hrd, hb1, hSh⟩ := hpost
      clear hpb
      cases o with
      | true =>
        have haw := awake_any w1 (hw.below hb1)
        clear hSh hrd hmr
        go_wp2_with (go_at_fn 11; fail)
        refine haw.mono ?_
        rintro e w2 ⟨rfl, hb2⟩
        clear haw
        go_wp2_with fail
        go_ret
        exact ⟨rfl, below_then hb1 hb1.size hb2⟩
      | false =>
        obtain ⟨hB, hR⟩ := hSh rfl
        have hp2 := ParseBaggage_any s w1 (hw.below hb1) (by omega)
        have hok := (parseB_ok (bs s)).1
        rw [hR] at hp2 hok
        simp only [Bool.not_not] at hp2 hok
        have hML := hB.length
        have BB : Aside (BagIs ms X ∧ parseB (bs s) = (ms, !okb) ∧ ∀ m ∈ ms, SmallM 8192 m) := ⟨hB, hR, hok⟩
        obtain ⟨MA, mc, rfl, hmn, hmm⟩ := hmr.shape
        obtain ⟨TA, tc, rfl, htn, htm⟩ := hrd.shape
        clear hB hR hok hSh
        go_wp2_with (go_at_fn 23; fail)
        refine hp2.mono ?_
        intro e w2 hpost
        obtain ⟨v6, ms2, css6, ms3, rfl, q1, q2, q3, hrd6, hall6, hb2⟩ := hpost
        have hmr6 := tell_mrs hrd6 hall6
        rw [BB.out.1.told q1 q2] at hmr6
        have hts := texts_same (bs s) ms ms3 X (!okb) BB.out.1 BB.out.2.1 (by rw [bs_length]; omega) q3
        have hxp : Aside (∀ x ∈ X, x.2.2.length ≤ 100000) := by
          intro x hx
          obtain ⟨m, hm, rfl⟩ := List.mem_map.1 (BB.out.1.perm.mem_iff.2 hx)
          exact (BB.out.2.2 m hm).mok.told
        obtain ⟨jt, hjt, hjb⟩ := S_str (bagStr ms3)
        have hjz : jt.size ≤ 50000 := by rw [← bs_length, hjb]; exact hts.2
        have HT : Aside (textsOf (bs jt) = sortT (X.map fun x => textOf ms x.1)) := by show _ = _; rw [hjb]; exact hts.1
        obtain ⟨A6, c6, rfl, _, _⟩ := hmr6.shape
        have hb02 := below_then hb1 hb1.size hb2
        have hmrw := hmr.below hb2
        have hrdw := hrd.below hb2
        have haw := awake_any w2 (hw.below hb02)
        rw [hjt, hML]
        have hqq : ((X.length : Int) == (X.length : Int)) = true := by simp
        clear hp2 q1 q2 q3 hrd6 hall6 hts hjt hjb hmr hrd hML hb2 hb1
        go_wp2_with (go_at_fn 11; fail)
        refine haw.mono ?_
        rintro e w3 ⟨rfl, hb3⟩
        have hb03 := below_then hb02 hb02.size hb3
        have hmr3 := hmr6.below hb3
        have hmw3 := hmrw.below hb3
        have hrd3 := hrdw.below hb3
        have hof := ofMembers_any _ _ w3 hmr3 (by omega) hxp.out
        clear haw hb3 hmr6 hmrw hrdw hb02
        cases okb
        all_goals
          go_wp2_with (go_at_fn 26; fail)
          refine hof.mono ?_
          intro e w4 hpost
          obtain ⟨v7, rfl, hmr7, hb4⟩ := hpost
          have hb04 := below_then hb03 hb03.size hb4
          have hsm := same_any v7 _ X X w4 hmr7 (hmw3.below hb4) (by omega) (by omega) hxp.out hxp.out
          rw [show decide (X = X) = true by simp] at hsm
          obtain ⟨A7, c7, rfl, _, _⟩ := hmr7.shape
          have hrd4 := hrd3.below hb4
          clear hof hmr7 hb4 hmr3 hmw3 hrd3
          go_wp2_with (go_at_fn 27; fail)
          refine hsm.mono ?_
          rintro e w5 ⟨rfl, hb5⟩
          have hb05 := below_then hb04 hb04.size hb5
          have hrd5 := hrd4.below hb5
          clear hsm hrd4 hb5
          cases l with
          | true =>
            go_wp2_with fail
            go_ret
            exact ⟨rfl, hb05⟩
          | false =>
            have hbt := bagTexts_any jt w5 hjz
            go_wp2_with (go_at_fn 36; fail)
            refine hbt.mono ?_
            intro e w6 hpost
            obtain ⟨v8, rfl, hrd8, hb6⟩ := hpost
            have hb06 := below_then hb05 hb05.size hb6
            rw [HT.out] at hrd8
            have hlen : (sortT (X.map fun x => textOf ms x.1)).length = X.length := by rw [sortT_len]; simp
            have hrd6 := hrd5.below hb6
            rw [← hlen] at hrd6
            have heq := eq_strs v8 _ _ _ w6 hrd8 hrd6
            rw [hlen, show decide (sortT (X.map fun x => textOf ms x.1) = sortT (X.map fun x => textOf ms x.1)) = true by simp] at heq
            clear hbt hrd8 hrd6 hlen hb6 hrd5
            go_wp2_with (go_at_fn 35; fail)
            refine heq.mono ?_
            rintro e w7 ⟨rfl, q, rfl⟩
            go_wp2_with fail
            go_ret
            exact ⟨rfl, below_drewN' hb06 q⟩
end Go.Proofs.YtleofgndghjflaaGreatDoor
