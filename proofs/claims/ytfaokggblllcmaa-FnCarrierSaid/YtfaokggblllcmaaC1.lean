/- Contract: spec.HeaderName. -/
import Derived.Test.YtfaokggblllcmaaC0
set_option linter.unusedVariables false
set_option linter.unusedSimpArgs false
namespace Go.Proofs.Ytfaokggblllcmaa
open Go Go.RowKit

/-- A row of bytes that may be written at its first places. -/
def Buf (w : World) (g : Nat) (l : List UInt8) : Prop :=
  ∃ cs fr, w.heap[g]? = some (.cells cs 5 fr) ∧ l.length ≤ fr.1 ∧ l.length ≤ cs.size ∧ ∀ (j : Nat) u, l[j]? = some u → cs[j]? = some (U8 u)
theorem Buf.cell {w : World} {g : Nat} {l : List UInt8} (h : Buf w g l) (j : Nat) (c : UInt8) (hj : l[j]? = some c) : w.cell? ⟨g, j, none⟩ = some (.int .u8 (c.toNat : Int)) ∧ w.frozen? ⟨g, j, none⟩ = false := by
  obtain ⟨cs, fr, hb, hf, hs, hc⟩ := h
  have hl := (List.getElem?_eq_some_iff.1 hj).1
  refine ⟨by rw [cell_of_row w g j cs 5 fr hb, hc j c hj]; rfl, ?_⟩
  simp [World.frozen?, hb]
  omega
theorem Buf.set {w : World} {g : Nat} {l : List UInt8} (h : Buf w g l) (j : Nat) (u : UInt8) (v : Value) (hv : v = U8 u) : Buf (w.setCell ⟨g, j, none⟩ v) g (l.set j u) := by
  obtain ⟨cs, fr, hb, hf, hs, hc⟩ := h
  subst hv
  refine ⟨cs.setIfInBounds j (U8 u), fr, row_set hb j _, by simpa using hf, by simpa using hs, fun i x hx => ?_⟩
  rw [List.getElem?_set] at hx
  rw [Array.getElem?_setIfInBounds]
  split at hx
  · rename_i hij
    subst hij
    split at hx
    · rename_i hjl
      injection hx with hx
      rw [if_pos rfl, if_pos (by omega), hx]
    · cases hx
  · rename_i hij
    rw [if_neg hij]
    exact hc i x hx
theorem Buf.made (w : World) (s : ByteArray) : Buf (Lib.bytesWorld w 5 s) w.heap.size (bs s) := by
  have hs : (bs s).length ≤ (Lib.bytesCells w 5 s).size := by
    rw [bs_length]
    simp [Lib.bytesCells]
  refine ⟨_, _, Lib.bytesWorld_at_new w 5 s, hs, hs, fun j u hj => ?_⟩
  have hl := (List.getElem?_eq_some_iff.1 hj).1
  simp only [Array.length_toList] at hl
  rw [Lib.bytesCells, Array.getElem?_append_left (by simpa using hl), Array.getElem?_map]
  rw [← Array.getElem?_toList, hj]
  rfl
theorem Buf.conv {w : World} {g c : Nat} {l : List UInt8} (h : Buf w g l) (n : Nat) (hn : n = l.length) : (convert 88 9 (.slice (some ⟨g, 0, none⟩) n c)).run Try.prog w = .ok (S l) w := by
  obtain ⟨cs, fr, hb, hf, hs, hc⟩ := h
  subst hn
  unfold S
  rw [← strOfU8]
  refine run_convert_bytes_arg w 88 5 Try.underlying88 Try.underlying5 g 0 l.length c _ (by simp) (fun i hi => ?_) 9 Try.underlying9
  rw [cell_of_row w g (0 + i) cs 5 fr hb, Nat.zero_add, hc i (l[i]'(by simpa using hi)) (List.getElem?_eq_getElem _)]
  have hi' : i < l.length := by simpa using hi
  simp [U8, List.getElem?_eq_getElem hi', List.getD_eq_getElem?_getD]
theorem bytesWorld_below (w : World) (s : ByteArray) : Below w.heap.size w (Lib.bytesWorld w 5 s) :=
  ⟨rfl, rfl, rfl, by rw [Lib.bytesWorld_size]; omega, fun k hk => Lib.bytesWorld_at_old w 5 s k hk⟩

def canC (up : Bool) (c : UInt8) : UInt8 := if up = true ∧ 97 ≤ c.toNat ∧ c.toNat ≤ 122 then c - 32 else if up = false ∧ 65 ≤ c.toNat ∧ c.toNat ≤ 90 then c + 32 else c
def canL : Bool → List UInt8 → List UInt8
  | _, [] => []
  | up, c :: r => canC up c :: canL (c == 45) r
/-- The canonical name of a header. -/
def hname (l : List UInt8) : List UInt8 := if l.all sgn then canL true l else l
theorem canL_length : ∀ (up : Bool) (l : List UInt8), (canL up l).length = l.length
  | _, [] => rfl
  | up, c :: r => by rw [canL, List.length_cons, List.length_cons, canL_length]
theorem can_low (c : UInt8) (h1 : 97 ≤ c.toNat) (h2 : c.toNat ≤ 122) : (((c - 32 : UInt8)).toNat : Int) = (c.toNat : Int) - 32 := by
  have : (c - 32).toNat = c.toNat - 32 := by
    rw [UInt8.toNat_sub_of_le]
    · rfl
    · exact UInt8.le_iff_toNat_le.2 (by show 32 ≤ c.toNat; omega)
  omega
theorem can_up (c : UInt8) (h1 : 65 ≤ c.toNat) (h2 : c.toNat ≤ 90) : (((c + 32 : UInt8)).toNat : Int) = (c.toNat : Int) + 32 := by
  have : (c + 32).toNat = c.toNat + 32 := by
    rw [UInt8.toNat_add]
    show (c.toNat + 32) % 256 = _
    omega
  omega
/-- Where the second loop stands. -/
def CanAt (l : List UInt8) (k : Nat) (up : Bool) (d : List UInt8) : Prop := d.length = k ∧ canL true l = d ++ canL up (l.drop k)
theorem CanAt.step {l : List UInt8} {k : Nat} {up : Bool} {d : List UInt8} (h : CanAt l k up d) (c : UInt8) (hc : l.drop k = c :: l.drop (k + 1)) : CanAt l (k + 1) (c == 45) (d ++ [canC up c]) := by
  refine ⟨by simp [h.1], ?_⟩
  rw [h.2, hc, canL]
  simp
theorem set_mid (d r : List UInt8) (c x : UInt8) (k : Nat) (h : d.length = k) : (d ++ c :: r).set k x = (d ++ [x]) ++ r := by
  subst h
  simp
end Go.Proofs.Ytfaokggblllcmaa
