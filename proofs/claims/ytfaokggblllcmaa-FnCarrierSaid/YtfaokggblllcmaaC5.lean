/- Contracts: the carriers' Get, Set, Values. -/
import Derived.Test.YtfaokggblllcmaaC4
set_option linter.unusedVariables false
set_option linter.unusedSimpArgs false
namespace Go.Proofs.Ytfaokggblllcmaa
open Go Go.RowKit

/-- Keys and values, in the order in which the keys came. -/
abbrev KVs := List (List UInt8 × List UInt8)
def putA (k v : List UInt8) : KVs → KVs
  | [] => [(k, v)]
  | p :: r => if p.1 = k then (p.1, v) :: r else p :: putA k v r
def getA (k : List UInt8) : KVs → Option (List UInt8)
  | [] => none
  | p :: r => if p.1 = k then some p.2 else getA k r
/-- A value as a carrier keeps it: a text, or a row of one text. -/
def VR (hd : Bool) (w : World) (v : Value) (x : List UInt8) : Prop :=
  match hd with
  | false => v = S x
  | true => ∃ g, v = .slice (some ⟨g, 0, none⟩) 1 1 ∧ w.heap[g]? = some (.cells #[S x] 9 (0, 0))
def KR (hd : Bool) (w : World) (p : KV) (q : List UInt8 × List UInt8) : Prop := bs p.1 = q.1 ∧ VR hd w p.2 q.2
theorem asc_kr {hd : Bool} {w : World} (k : ByteArray) : ∀ (L : List KV) (M : KVs), All2 (KR hd w) L M → (getA (bs k) M = none ∧ asc L k = none) ∨ ∃ x v, getA (bs k) M = some x ∧ asc L k = some v ∧ VR hd w v x
  | [], [], _ => .inl ⟨rfl, rfl⟩
  | p :: L, q :: M, h => by
    unfold asc fnd getA
    rw [key_eq, h.1.1]
    by_cases hk : q.1 = bs k
    · simp only [hk, decide_true, if_true]
      exact .inr ⟨_, _, rfl, rfl, h.1.2⟩
    · simp only [hk, decide_false, Bool.false_eq_true, if_false]
      rw [fnd_shift]
      have := asc_kr k L M h.2
      unfold asc at this
      rcases this with ⟨h1, h2⟩ | ⟨x, v, h1, h2, h3⟩
      · refine .inl ⟨h1, ?_⟩
        rw [Option.map_map]
        cases hf : fnd k L 0 with
        | none => rfl
        | some y => rw [hf] at h2; cases h2
      · refine .inr ⟨x, v, h1, ?_, h3⟩
        rw [Option.map_map]
        cases hf : fnd k L 0 with
        | none => rw [hf] at h2; cases h2
        | some y => rw [hf] at h2; exact h2
  | [], _ :: _, h => h.elim
  | _ :: _, [], h => h.elim
theorem put_kr {hd : Bool} {w : World} (k : ByteArray) (v : Value) (x : List UInt8) (hv : VR hd w v x) : ∀ (L : List KV) (M : KVs), All2 (KR hd w) L M → All2 (KR hd w) (putL k v L) (putA (bs k) x M)
  | [], [], _ => ⟨⟨rfl, hv⟩, trivial⟩
  | p :: L, q :: M, h => by
    unfold putL putA
    rw [key_eq, h.1.1]
    by_cases hpk : q.1 = bs k
    · simp only [hpk, decide_true, if_true]
      exact ⟨⟨by rw [h.1.1, hpk], hv⟩, h.2⟩
    · simp only [hpk, decide_false, Bool.false_eq_true, if_false]
      exact ⟨h.1, put_kr k v x hv L M h.2⟩
  | [], _ :: _, h => h.elim
  | _ :: _, [], h => h.elim
theorem VR.keep {hd : Bool} {w w' : World} {v : Value} {x : List UInt8} (h : VR hd w v x) (hk : ∀ g : Nat, w.heap[g]? = some (.cells #[S x] 9 (0, 0)) → w'.heap[g]? = some (.cells #[S x] 9 (0, 0))) : VR hd w' v x := by
  cases hd with
  | false => exact h
  | true =>
    obtain ⟨g, h1, h2⟩ := h
    exact ⟨g, h1, hk g h2⟩
/-- Block b is a carrier's map. -/
def CarAt (hd : Bool) (w : World) (b : Nat) (M : KVs) : Prop := ∃ L, MapAt w b L ∧ All2 (KR hd w) L M
theorem CarAt.keep {hd : Bool} {w w' : World} {b : Nat} {M : KVs} (h : CarAt hd w b M) (hm : w'.heap[b]? = w.heap[b]?) (hk : ∀ (g : Nat) cs, w.heap[g]? = some (.cells cs 9 (0, 0)) → w'.heap[g]? = some (.cells cs 9 (0, 0))) : CarAt hd w' b M := by
  obtain ⟨L, h1, h2⟩ := h
  exact ⟨L, h1.block hm, h2.imp (fun p q h => ⟨h.1, h.2.keep (fun g => hk g _)⟩)⟩
theorem CarAt.below {hd : Bool} {w w' : World} {b : Nat} {M : KVs} (h : CarAt hd w b M) (hb : Below w.heap.size w w') : CarAt hd w' b M := by
  obtain ⟨L, h1, _⟩ := id h
  exact h.keep (hb.block _ h1.lt) (fun g cs hg => (hb.block _ (Array.getElem?_eq_some_iff.1 hg).1).trans hg)
theorem CarAt.fr {hd : Bool} {w w' : World} {b : Nat} {M : KVs} {e : TypeId} (h : CarAt hd w b M) (hf : Fr e w w') (hne : 9 ≠ e) : CarAt hd w' b M := by
  obtain ⟨L, ⟨es, clock, h1, _⟩, _⟩ := id h
  refine h.keep (hf.block _ (Array.getElem?_eq_some_iff.1 h1).1 (fun c f h' => by rw [h1] at h'; cases h')) (fun g cs hg => (hf.block _ (Array.getElem?_eq_some_iff.1 hg).1 (fun c f h' => ?_)).trans hg)
  rw [hg] at h'
  injection h' with h'
  injection h' with _ h'
  exact hne h'
theorem CarAt.lt {hd : Bool} {w : World} {b : Nat} {M : KVs} (h : CarAt hd w b M) : b < w.heap.size := by
  obtain ⟨L, h1, _⟩ := h
  exact h1.lt
theorem CarAt.len {hd : Bool} {w : World} {b : Nat} {M : KVs} (h : CarAt hd w b M) : ∃ L, MapAt w b L ∧ L.length = M.length ∧ (L.map fun p => bs p.1) = M.map (·.1) := by
  obtain ⟨L, h1, h2⟩ := h
  refine ⟨L, h1, h2.length, ?_⟩
  clear h1
  induction L generalizing M with
  | nil => cases M with
    | nil => rfl
    | cons q M => exact h2.elim
  | cons p L ih => cases M with
    | nil => exact h2.elim
    | cons q M => rw [List.map_cons, List.map_cons, ih h2.2, h2.1.1]
theorem grown_of_below {w w' : World} {b : Option Nat} (h : Below w.heap.size w w') : w.grownBy w' b := ⟨h.os, h.tape, h.output, h.size, fun k hk _ => h.block k hk⟩
def keyOf (hd : Bool) (k : List UInt8) : List UInt8 := if hd then hname k else k
def SetPost (hd : Bool) (b : Nat) (M : KVs) (k x : List UInt8) (w : World) (e : Ending) (w' : World) : Prop :=
  e = .returned (.tuple #[]) ∧ CarAt hd w' b (putA (keyOf hd k) x M) ∧ w.grownBy w' (some b)
def GetPost (hd : Bool) (M : KVs) (k : List UInt8) (w : World) (e : Ending) (w' : World) : Prop :=
  e = .returned (S ((getA (keyOf hd k) M).getD [])) ∧ Below w.heap.size w w'
def ValsPost (M : KVs) (k : List UInt8) (w : World) (e : Ending) (w' : World) : Prop :=
  ∃ v, e = .returned v ∧ ((getA (hname k) M = none ∧ v = .slice none 0 0) ∨ ∃ y g, getA (hname k) M = some y ∧ v = .slice (some ⟨g, 0, none⟩) 1 1 ∧ w'.heap[g]? = some (.cells #[S y] 9 (0, 0))) ∧ Below w.heap.size w w'

theorem mapSet_any (b : Nat) (M : KVs) (k x : ByteArray) (w : World) (h : CarAt false w b M) : Calls Try.prog 93 #[.map (some b), .string k, .string x] w (SetPost false b M (bs k) (bs x) w) := by
  obtain ⟨L, hM, hA⟩ := h
  obtain ⟨w1, hup, hM1, hg1⟩ := hM.update Try.underlying59 Try.underlying9 k (.string x)
  go_enter Try.func93, Try.ntmps93
  go_wp2_with fail
  go_returns
  refine ⟨rfl, ⟨_, hM1, ?_⟩, hg1⟩
  exact (put_kr (hd := false) (w := w) k (.string x) (bs x) (show VR false w (.string x) (bs x) from S_bs x) L M hA).imp (fun p q h => ⟨h.1, h.2⟩)
theorem mapGet_any (b : Nat) (M : KVs) (k : ByteArray) (w : World) (h : CarAt false w b M) : Calls Try.prog 92 #[.map (some b), .string k] w (GetPost false M (bs k) w) := by
  obtain ⟨L, hM, hA⟩ := h
  have hlk := hM.look1 Try.underlying59 Try.underlying9 (Try.zeroValue9 _) k
  obtain ⟨t, ht, hts⟩ := S_str ((getA (keyOf false (bs k)) M).getD [])
  have e : (asc L k).getD (.string ⟨#[]⟩) = .string t := by
    rw [← ht]
    rcases asc_kr k L M hA with ⟨h1, h2⟩ | ⟨y, v, h1, h2, h3⟩
    · rw [h2]; show _ = S ((getA (bs k) M).getD []); rw [h1]; rfl
    · rw [h2]; show _ = S ((getA (bs k) M).getD []); rw [h1]; exact h3
  rw [e] at hlk
  have A : Aside (S ((getA (keyOf false (bs k)) M).getD []) = .string t) := ht
  clear e ht hts hA
  go_enter Try.func92, Try.ntmps92
  go_wp2_with fail
  go_ret
  exact ⟨by rw [A.out]; rfl, Below.refl _ _⟩

set_option maxRecDepth 100000 in
theorem hdrGet_any (b : Nat) (M : KVs) (k : ByteArray) (w : World) (h : CarAt true w b M) (hk : k.size ≤ 1000000) : Calls Try.prog 98 #[.map (some b), .string k] w (GetPost true M (bs k) w) := by
  have hzc := zzCanonical_any k w hk
  obtain ⟨ck, hck, hckb⟩ := S_str (hname (bs k))
  unfold NamePost at hzc
  rw [hck] at hzc
  obtain ⟨t, ht, hts⟩ := S_str ((getA (keyOf true (bs k)) M).getD [])
  have A : Aside (S ((getA (keyOf true (bs k)) M).getD []) = .string t ∧ bs ck = keyOf true (bs k)) := ⟨ht, hckb⟩
  clear ht hts hck hckb
  go_enter Try.func98, Try.ntmps98
  go_wp2_with (go_at_fn 101; fail)
  refine hzc.mono ?_
  rintro e w1 ⟨rfl, hb1⟩
  obtain ⟨L, hM, hA⟩ := h.below hb1
  have hlk := hM.look1 Try.underlying164 Try.underlying9 (Try.zeroValue33 _) ck
  clear hzc h
  rcases asc_kr ck L M hA with ⟨h1, h2⟩ | ⟨y, v, h1, h2, g, rfl, h3⟩
  · rw [h2] at hlk
    simp only [Option.getD_none] at hlk
    have E : Aside (t = ⟨#[]⟩) := by
      have := A.out.1
      rw [← A.out.2, h1] at this
      injection this with this
      exact this.symm
    clear h1 h2
    go_wp2_with fail
    go_ret
    exact ⟨by rw [A.out.1, E.out]; rfl, hb1⟩
  · rw [h2] at hlk
    simp only [Option.getD_some] at hlk
    have E : Aside (S y = .string t) := by
      have := A.out.1
      rw [← A.out.2, h1] at this
      exact this
    obtain ⟨c0, _⟩ := row1 h3
    rw [E.out] at c0
    clear h1 h2 h3
    go_wp2_with fail
    go_ret
    exact ⟨by rw [A.out.1]; rfl, hb1⟩
theorem hdrGet2_any (b : Nat) (M : KVs) (k : ByteArray) (w : World) (h : CarAt true w b M) (hk : k.size ≤ 1000000) : Calls Try.prog 94 #[.map (some b), .string k] w (GetPost true M (bs k) w) := by
  have hc := hdrGet_any b M k w h hk
  obtain ⟨t, ht, hts⟩ := S_str ((getA (keyOf true (bs k)) M).getD [])
  unfold GetPost at hc ⊢
  rw [ht] at hc ⊢
  clear ht hts h
  go_enter Try.func94, Try.ntmps94
  go_wp2_with (go_at_fn 98; fail)
  refine hc.mono ?_
  rintro e w1 ⟨rfl, hb1⟩
  clear hc
  go_wp2_with fail
  go_ret
  exact ⟨rfl, hb1⟩
set_option maxRecDepth 100000 in
theorem hdrSet_any (b : Nat) (M : KVs) (k x : ByteArray) (w : World) (h : CarAt true w b M) (hk : k.size ≤ 1000000) : Calls Try.prog 99 #[.map (some b), .string k, .string x] w (SetPost true b M (bs k) (bs x) w) := by
  have hzc := zzCanonical_any k w hk
  obtain ⟨ck, hck, hckb⟩ := S_str (hname (bs k))
  unfold NamePost at hzc
  rw [hck] at hzc
  have A : Aside (bs ck = keyOf true (bs k)) := hckb
  clear hck hckb
  go_enter Try.func99, Try.ntmps99
  go_wp2_with (go_at_fn 101; fail)
  refine hzc.mono ?_
  rintro e w1 ⟨rfl, hb1⟩
  have hA1 : Below w1.heap.size w1 (w1.alloc (.cells #[.string x] 9)) := (Below.refl _ _).alloc (Nat.le_refl _) _
  have hrow := heap_alloc_new w1 (.cells #[.string x] 9)
  have hb2 := below_then hb1 hb1.size hA1
  obtain ⟨L, hM, hA⟩ := (h.below hb1).below hA1
  have hput := put_kr (hd := true) ck (.slice (some ⟨w1.heap.size, 0, none⟩) 1 1) (bs x) ⟨w1.heap.size, rfl, by rw [← S_bs]; exact hrow⟩ L M hA
  obtain ⟨w2, hup, hM2, hg2⟩ := hM.update Try.underlying164 Try.underlying9 ck (.slice (some ⟨w1.heap.size, 0, none⟩) 1 1)
  have hbl := hM.lt
  have hput2 : All2 (KR true w2) (putL ck (.slice (some ⟨w1.heap.size, 0, none⟩) 1 1) L) (putA (keyOf true (bs k)) (bs x) M) := by
    rw [← A.out]
    refine hput.imp (fun p q h => ⟨h.1, h.2.keep (fun g hg => ?_)⟩)
    refine (hg2.block g (Array.getElem?_eq_some_iff.1 hg).1 ?_).trans hg
    intro e
    injection e with e
    subst e
    obtain ⟨es, clock, hmm, _⟩ := hM
    rw [hmm] at hg
    cases hg
  have P : Aside (CarAt true w2 b (putA (keyOf true (bs k)) (bs x) M)) := ⟨_, hM2, hput2⟩
  have G : Aside (w.grownBy w2 (some b)) := World.grownBy.trans (grown_of_below hb2) hg2
  clear hzc hput hput2 hA hM hM2 hg2 hrow h
  go_wp2_with fail
  go_returns
  exact ⟨rfl, P.out, G.out⟩
theorem hdrSet2_any (b : Nat) (M : KVs) (k x : ByteArray) (w : World) (h : CarAt true w b M) (hk : k.size ≤ 1000000) : Calls Try.prog 96 #[.map (some b), .string k, .string x] w (SetPost true b M (bs k) (bs x) w) := by
  have hc := hdrSet_any b M k x w h hk
  clear h
  go_enter Try.func96, Try.ntmps96
  go_wp2_with (go_at_fn 99; fail)
  refine hc.mono ?_
  intro e w1 hpost
  obtain ⟨rfl, h1, h2⟩ := hpost
  have P : Aside (CarAt true w1 b (putA (keyOf true (bs k)) (bs x) M) ∧ w.grownBy w1 (some b)) := ⟨h1, h2⟩
  clear hc h1 h2
  go_wp2_with fail
  go_returns
  exact ⟨rfl, P.out.1, P.out.2⟩
set_option maxRecDepth 100000 in
theorem hdrVals_any (b : Nat) (M : KVs) (k : ByteArray) (w : World) (h : CarAt true w b M) (hk : k.size ≤ 1000000) : Calls Try.prog 100 #[.map (some b), .string k] w (ValsPost M (bs k) w) := by
  have hzc := zzCanonical_any k w hk
  obtain ⟨ck, hck, hckb⟩ := S_str (hname (bs k))
  unfold NamePost at hzc
  rw [hck] at hzc
  have A : Aside (bs ck = hname (bs k)) := hckb
  clear hck hckb
  go_enter Try.func100, Try.ntmps100
  go_wp2_with (go_at_fn 101; fail)
  refine hzc.mono ?_
  rintro e w1 ⟨rfl, hb1⟩
  obtain ⟨L, hM, hA⟩ := h.below hb1
  have hlk := hM.look1 Try.underlying164 Try.underlying9 (Try.zeroValue33 _) ck
  clear hzc h
  rcases asc_kr ck L M hA with ⟨h1, h2⟩ | ⟨y, v, h1, h2, g, rfl, h3⟩
  · rw [h2] at hlk
    simp only [Option.getD_none] at hlk
    have E : Aside (getA (hname (bs k)) M = none) := by show _ = _; rw [← A.out]; exact h1
    clear h1 h2
    go_wp2_with fail
    go_ret
    exact ⟨_, rfl, .inl ⟨E.out, rfl⟩, hb1⟩
  · rw [h2] at hlk
    simp only [Option.getD_some] at hlk
    have E : Aside (getA (hname (bs k)) M = some y ∧ w1.heap[g]? = some (.cells #[S y] 9 (0, 0))) := ⟨by rw [← A.out]; exact h1, h3⟩
    clear h1 h2 h3
    go_wp2_with fail
    go_ret
    exact ⟨_, rfl, .inr ⟨y, g, E.out.1, rfl, E.out.2⟩, hb1⟩
theorem hdrVals2_any (b : Nat) (M : KVs) (k : ByteArray) (w : World) (h : CarAt true w b M) (hk : k.size ≤ 1000000) : Calls Try.prog 97 #[.map (some b), .string k] w (ValsPost M (bs k) w) := by
  have hc := hdrVals_any b M k w h hk
  clear h
  go_enter Try.func97, Try.ntmps97
  go_wp2_with (go_at_fn 100; fail)
  refine hc.mono ?_
  intro e w1 hpost
  obtain ⟨v, rfl, h1, h2⟩ := hpost
  have P : Aside (((getA (hname (bs k)) M = none ∧ v = .slice none 0 0) ∨ ∃ y g, getA (hname (bs k)) M = some y ∧ v = .slice (some ⟨g, 0, none⟩) 1 1 ∧ w1.heap[g]? = some (.cells #[S y] 9 (0, 0))) ∧ Below w.heap.size w w1) := ⟨h1, h2⟩
  clear hc h1 h2
  go_wp2_with fail
  go_ret
  exact ⟨v, rfl, P.out.1, P.out.2⟩
end Go.Proofs.Ytfaokggblllcmaa
