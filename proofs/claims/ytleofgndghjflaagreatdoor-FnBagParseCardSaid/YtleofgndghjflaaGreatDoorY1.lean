/- Contracts of the functions of this claim, proved once, joined out of smaller texts: S0 S1 S2 M0 S3 M1 S4 S5. -/
import Derived.Test.YtleofgndghjflaaGreatDoorProg
import Derived.WalkKit
import Derived.WalkLawsBesides
import Derived.WalkSpells
import Derived.Deep.LoopGhost
import Derived.Deep.QuietTactic
import Derived.BigQuiet
import Derived.Outline
import Derived.Lib.LaidU8
import Derived.Lib.Space
import Derived.Lib.SmallJoins
import Derived.Lib.Strings
import Derived.Maps.AppendAt
import Derived.Deep.AppendLies
import Derived.Deep.DeepMust
import Derived.Laws.BytesArg
import Derived.Deep.RegionHeld3
import Derived.Deep.DrawnRows
import Derived.Deep.OwnRows
import Derived.Deep.DeepCutAuto
set_option linter.unusedVariables false
set_option linter.unusedSimpArgs false
namespace Go.Proofs.YtleofgndghjflaaGreatDoor
open Go Go.RowKit

def keyTab : List Bool := [false, false, false, false, false, false, false, false, false, false, false, false, false, false, false, false, false, false, false, false, false, false, false, false, false, false, false, false, false, false, false, false, false, true, false, true, true, true, true, true, false, false, true, true, false, true, true, false, true, true, true, true, true, true, true, true, true, true, false, false, false, false, false, false, false, true, true, true, true, true, true, true, true, true, true, true, true, true, true, true, true, true, true, true, true, true, true, true, true, true, true, false, false, false, true, true, true, true, true, true, true, true, true, true, true, true, true, true, true, true, true, true, true, true, true, true, true, true, true, true, true, true, true, false, true, false, true, false]
def valTab : List Bool := [false, false, false, false, false, false, false, false, false, false, false, false, false, false, false, false, false, false, false, false, false, false, false, false, false, false, false, false, false, false, false, false, false, true, false, true, true, true, true, true, true, true, true, true, false, true, true, true, true, true, true, true, true, true, true, true, true, true, true, false, true, true, true, true, true, true, true, true, true, true, true, true, true, true, true, true, true, true, true, true, true, true, true, true, true, true, true, true, true, true, true, true, false, true, true, true, true, true, true, true, true, true, true, true, true, true, true, true, true, true, true, true, true, true, true, true, true, true, true, true, true, true, true, true, true, true, true, false]

def keyB (c : Int) : Bool := decide (0 ≤ c) && decide (c < 128) && keyTab.getD c.toNat false
def valB (c : Int) : Bool := decide (0 ≤ c) && decide (c < 128) && valTab.getD c.toNat false

/-- What is assumed of a world: the listed variables hold what they are listed with. -/
structure Laid (w : World) : Prop where
  key : ∀ i : Nat, i < 128 → w.cell? ⟨9, i, none⟩ = some (.bool (keyTab.getD i false))
  val : ∀ i : Nat, i < 128 → w.cell? ⟨12, i, none⟩ = some (.bool (valTab.getD i false))
  utf8 : Lib.Utf8Tabs 3 4 w
  space : Lib.TabIs Tryz.prog w "strings.asciiSpace" .u8 Lib.asciiSpaceTab
  white : Lib.WhiteTab 11 w
  errs : ∀ g, g = 0 ∨ g = 1 ∨ g = 2 ∨ g = 5 ∨ g = 6 ∨ g = 7 → ∃ a, w.cell? ⟨g, 0, none⟩ = some (.iface 201 (.pointer (some a)))

theorem ret_bool {a b : Bool} (h : a = b) : Ending.returned (.bool a) = .returned (.bool b) := by rw [h]
theorem ret_int {k : IntKind} {a b : Int} (h : a = b) : Ending.returned (.int k a) = .returned (.int k b) := by rw [h]
theorem lt_of_cell {w : World} {b o : Nat} {v : Value} (h : w.cell? ⟨b, o, none⟩ = some v) : b < w.heap.size := by
  unfold World.cell? at h
  cases hb : w.heap[b]? with
  | none => simp [hb] at h
  | some x => exact (Array.getElem?_eq_some_iff.1 hb).1

theorem Laid.below {w w' : World} (h : Laid w) (hb : Below w.heap.size w w') : Laid w' := by
  have ce : ∀ b o v, w.cell? ⟨b, o, none⟩ = some v → w'.cell? ⟨b, o, none⟩ = some v := fun b o v hc => (hb.cell (p := ⟨b, o, none⟩) (lt_of_cell hc)).trans hc
  refine ⟨fun i hi => ce _ _ _ (h.key i hi), fun i hi => ce _ _ _ (h.val i hi), Utf8Tabs_below h.utf8 hb, ?_, WhiteTab_below h.white hb, fun g hg => ?_⟩
  · exact Joins.tab_stays (by kernel_rfl : Tryz.prog.globalNamed "strings.asciiSpace" = some 8) h.space hb (Nat.le_refl _)
  · obtain ⟨a, ha⟩ := h.errs g hg
    exact ⟨a, ce _ _ _ ha⟩

theorem validateKeyChar_any (c : Int) (w : World) (hw : Laid w) (h1 : -2147483648 ≤ c) (h2 : c ≤ 2147483647) :
    Calls Tryz.prog 121 #[.int .i32 c] w fun e w' => e = .returned (.bool (keyB c)) ∧ w = w' := by
  by_cases a : 0 ≤ c
  · by_cases b : c < 128
    · have hc := hw.key c.toNat (by omega)
      obtain ⟨k, hk⟩ : ∃ k, keyTab.getD c.toNat false = k := ⟨_, rfl⟩
      have hf : keyB c = k := by unfold keyB; rw [hk, decide_eq_true a, decide_eq_true b]; rfl
      rw [hk] at hc
      rw [hf]
      clear hw hk hf
      go_enter Tryz.func121, Tryz.ntmps121
      go_wp2

      go_ret
      exact ⟨rfl, rfl⟩
    · have hf : keyB c = false := by simp [keyB, b]
      rw [hf]
      clear hw hf
      go_enter Tryz.func121, Tryz.ntmps121
      go_wp2
      go_ret
      exact ⟨rfl, rfl⟩
  · have hf : keyB c = false := by simp [keyB, a]
    rw [hf]
    clear hw hf
    go_enter Tryz.func121, Tryz.ntmps121
    go_wp2
    go_ret
    exact ⟨rfl, rfl⟩

theorem validateValueChar_any (c : Int) (w : World) (hw : Laid w) (h1 : -2147483648 ≤ c) (h2 : c ≤ 2147483647) :
    Calls Tryz.prog 162 #[.int .i32 c] w fun e w' => e = .returned (.bool (valB c)) ∧ w = w' := by
  by_cases a : 0 ≤ c
  · by_cases b : c < 128
    · have hc := hw.val c.toNat (by omega)
      obtain ⟨k, hk⟩ : ∃ k, valTab.getD c.toNat false = k := ⟨_, rfl⟩
      have hf : valB c = k := by unfold valB; rw [hk, decide_eq_true a, decide_eq_true b]; rfl
      rw [hk] at hc
      rw [hf]
      clear hw hk hf
      go_enter Tryz.func162, Tryz.ntmps162
      go_wp2
      go_ret
      exact ⟨rfl, rfl⟩
    · have hf : valB c = false := by simp [valB, b]
      rw [hf]
      clear hw hf
      go_enter Tryz.func162, Tryz.ntmps162
      go_wp2
      go_ret
      exact ⟨rfl, rfl⟩
  · have hf : valB c = false := by simp [valB, a]
    rw [hf]
    clear hw hf
    go_enter Tryz.func162, Tryz.ntmps162
    go_wp2
    go_ret
    exact ⟨rfl, rfl⟩

def hexB (c : Int) : Bool := decide (48 ≤ c ∧ c ≤ 57) || decide (97 ≤ c ∧ c ≤ 102) || decide (65 ≤ c ∧ c ≤ 70)
theorem isHex_any (c : Int) (w : World) (h1 : 0 ≤ c) (h2 : c ≤ 255) : Calls Tryz.prog 163 #[.int .u8 c] w fun e w' => e = .returned (.bool (hexB c)) ∧ w = w' := by
  obtain ⟨k, hk⟩ : ∃ k, hexB c = k := ⟨_, rfl⟩
  rw [hk]
  have A : Aside (hexB c = k) := hk
  clear hk
  go_enter Tryz.func163, Tryz.ntmps163
  go_wp2
  all_goals (go_ret; exact ⟨ret_bool (by rw [← A.out, Bool.eq_iff_iff]; simp [hexB]; omega), rfl⟩)

def hexV (c : Int) : Int := if c ≤ 57 then c - 48 else if 97 ≤ c then c - 87 else c - 55
theorem zzHex_any (c : Int) (w : World) (h1 : 48 ≤ c) (h2 : c ≤ 102) (h : c ≤ 57 ∨ 65 ≤ c) : Calls Tryz.prog 164 #[.int .u8 c] w fun e w' => e = .returned (.int .u8 (hexV c)) ∧ w = w' := by
  go_enter Tryz.func164, Tryz.ntmps164
  go_wp2
  · go_ret; exact ⟨ret_int (by unfold hexV; rw [if_pos (by omega)]), rfl⟩
  · go_ret; exact ⟨ret_int (by unfold hexV; rw [if_neg (by omega), if_pos (by omega)]; omega), rfl⟩
  · go_ret; exact ⟨ret_int (by unfold hexV; rw [if_neg (by omega), if_neg (by omega)]; omega), rfl⟩

def escB (c : Int) : Bool := decide (c = 37) || !valB c
theorem shouldEscape_any (c : Int) (w : World) (hw : Laid w) (h1 : 0 ≤ c) (h2 : c ≤ 255) : Calls Tryz.prog 122 #[.int .u8 c] w fun e w' => e = .returned (.bool (escB c)) ∧ w = w' := by
  have hv := fun W hW => validateValueChar_any c W hW (by omega) (by omega)
  go_enter Tryz.func122, Tryz.ntmps122
  go_wp2_with (go_at_call 162; refine (hv _ hw).mono ?_; rintro e w' ⟨rfl, rfl⟩)
  · have h : (c == 37) = true := by assumption
    go_ret; exact ⟨ret_bool (by unfold escB; rw [decide_eq_true (by simpa using h)]; rfl), rfl⟩
  · have h : (c == 37) = false := by assumption
    go_ret; exact ⟨ret_bool (by unfold escB; rw [decide_eq_false (by simpa using h)]; rfl), rfl⟩
end Go.Proofs.YtleofgndghjflaaGreatDoor

set_option linter.unusedVariables false
set_option linter.unusedSimpArgs false
namespace Go.Proofs.YtleofgndghjflaaGreatDoor
open Go Go.RowKit

abbrev bs (s : ByteArray) : List UInt8 := s.data.toList
theorem bs_length (s : ByteArray) : (bs s).length = s.size := by rw [Array.length_toList]; rfl
theorem bs_get (s : ByteArray) (k : Nat) (h : k < s.size) : (bs s)[k]'(by rw [bs_length]; exact h) = s[k] := by rfl
theorem bs_drop (s : ByteArray) (k : Nat) (h : k < s.size) : (bs s).drop k = s[k] :: (bs s).drop (k + 1) := by
  rw [List.drop_eq_getElem_cons (by rw [bs_length]; exact h)]; rfl
theorem bs_drop_all (s : ByteArray) (k : Nat) (h : s.size ≤ k) : (bs s).drop k = [] := List.drop_eq_nil_of_le (by rw [bs_length]; exact h)

def tok (b : UInt8) : Bool := keyB b.toNat
def oct (b : UInt8) : Bool := valB b.toNat
theorem keyB_high (c : Int) (h : 128 ≤ c) : keyB c = false := by unfold keyB; rw [decide_eq_false (show ¬ c < 128 by omega)]; simp
theorem valB_high (c : Int) (h : 128 ≤ c) : valB c = false := by unfold valB; rw [decide_eq_false (show ¬ c < 128 by omega)]; simp

/-- 'validateKey', 'validateValue': all bytes are of a kind. -/
def AllR (p : UInt8 → Bool) (s : ByteArray) (r : Bool) : Prop := r = (bs s).all p

theorem validateValue_loop (s : ByteArray) (w : World) (hw : Laid w) (hs : s.size ≤ 1000000) :
    Calls Tryz.prog 118 #[.string s] w fun e w' => e = .returned (.bool ((bs s).all oct)) ∧ Below w.heap.size w w' := by
  obtain ⟨r, hr⟩ : ∃ r, (bs s).all oct = r := ⟨_, rfl⟩
  rw [hr]
  go_enter Tryz.func118, Tryz.ntmps118
  go_wp2_with fail
  go_loopg [4] (s.size + 1) (fun gk x wx => ∃ k : Nat, wx = w.iter s k ∧ k + gk = s.size + 1 ∧ ((bs s).drop k).all oct = r)
  case atStart => exact ⟨0, rfl, by omega, hr⟩
  case round =>
    obtain ⟨k, rfl, hk, hd⟩ := hrel
    have hb : ∀ j, Below w.heap.size w (w.iter s j) := fun j => (Below.refl _ _).alloc (Nat.le_refl _) _
    have hl : ∀ j, Laid (w.iter s j) := fun j => hw.below (hb j)
    by_cases hlt : k < s.size
    · have hn := run_next_any (P := Tryz.prog) w s k 0 hlt
      rw [bs_drop s k hlt, List.all_cons] at hd
      by_cases ha : (s[k]).toNat < 128
      · rw [decode_ascii s k hlt ha] at hn
        obtain ⟨c, hc⟩ : ∃ c, s[k] = c := ⟨_, rfl⟩
        rw [hc] at hn hd ha
        obtain ⟨b, hbt⟩ : ∃ b, oct c = b := ⟨_, rfl⟩
        have hcall := fun W hW => (validateValueChar_any (c.toNat : Int) W hW (by omega) (by omega))
        rw [show valB (c.toNat : Int) = b from hbt] at hcall
        rw [hbt] at hd
        have A : Aside ((b && ((bs s).drop (k + 1)).all oct) = r) := hd
        clear hd hc hbt hr
        go_wp2_with fail
        refine (hcall _ (hl _)).mono ?_
        rintro e w' ⟨rfl, rfl⟩
        cases b
        · go_wp2_with fail
          go_ret
          exact ⟨ret_bool (by rw [← A.out]; rfl), hb _⟩
        · go_wp2_with fail
          go_roundg (gk - 1)
          case rel => exact ⟨k + 1, rfl, by omega, by rw [← A.out]; simp⟩
          case measure => omega
      · have hc := decode_high s k hlt (by omega)
        have hle := decode_le s k
        obtain ⟨c, hcc⟩ : ∃ c, (Utf8.decode s k).1 = c := ⟨_, rfl⟩
        rw [hcc] at hn hc hle
        have hcall := fun W hW => (validateValueChar_any (c : Int) W hW (by omega) (by omega))
        rw [valB_high (c : Int) (by omega)] at hcall
        have hf : oct s[k] = false := valB_high _ (by omega)
        rw [hf] at hd
        have A : Aside (false = r) := by rw [← hd]; rfl
        clear hd hf hr ha
        go_wp2_with fail
        refine (hcall _ (hl _)).mono ?_
        rintro e w' ⟨rfl, rfl⟩
        go_wp2_with fail
        go_ret
        exact ⟨ret_bool A.out, hb _⟩
    · have hn := run_next_end (P := Tryz.prog) w s k 0 hlt
      rw [bs_drop_all s k (by omega)] at hd
      have A : Aside (true = r) := by rw [← hd]; rfl
      clear hd hr
      go_wp2_with fail
      go_ret
      exact ⟨ret_bool A.out, hb _⟩
theorem validateKey_loop (s : ByteArray) (w : World) (hw : Laid w) (hs : s.size ≤ 1000000) (hne : (s.toList.isEmpty) = false) :
    Calls Tryz.prog 78 #[.string s] w fun e w' => e = .returned (.bool ((bs s).all tok)) ∧ Below w.heap.size w w' := by
  obtain ⟨r, hr⟩ : ∃ r, (bs s).all tok = r := ⟨_, rfl⟩
  rw [hr]
  go_enter Tryz.func78, Tryz.ntmps78
  go_wp2_with fail
  go_loopg [4] (s.size + 1) (fun gk x wx => ∃ k : Nat, wx = w.iter s k ∧ k + gk = s.size + 1 ∧ ((bs s).drop k).all tok = r)
  case atStart => exact ⟨0, rfl, by omega, hr⟩
  case round =>
    obtain ⟨k, rfl, hk, hd⟩ := hrel
    have hb : ∀ j, Below w.heap.size w (w.iter s j) := fun j => (Below.refl _ _).alloc (Nat.le_refl _) _
    have hl : ∀ j, Laid (w.iter s j) := fun j => hw.below (hb j)
    by_cases hlt : k < s.size
    · have hn := run_next_any (P := Tryz.prog) w s k 0 hlt
      rw [bs_drop s k hlt, List.all_cons] at hd
      by_cases ha : (s[k]).toNat < 128
      · rw [decode_ascii s k hlt ha] at hn
        obtain ⟨c, hc⟩ : ∃ c, s[k] = c := ⟨_, rfl⟩
        rw [hc] at hn hd ha
        obtain ⟨b, hbt⟩ : ∃ b, tok c = b := ⟨_, rfl⟩
        have hcall := fun W hW => (validateKeyChar_any (c.toNat : Int) W hW (by omega) (by omega))
        rw [show keyB (c.toNat : Int) = b from hbt] at hcall
        rw [hbt] at hd
        have A : Aside ((b && ((bs s).drop (k + 1)).all tok) = r) := hd
        clear hd hc hbt hr
        go_wp2_with fail
        refine (hcall _ (hl _)).mono ?_
        rintro e w' ⟨rfl, rfl⟩
        cases b
        · go_wp2_with fail
          go_ret
          exact ⟨ret_bool (by rw [← A.out]; rfl), hb _⟩
        · go_wp2_with fail
          go_roundg (gk - 1)
          case rel => exact ⟨k + 1, rfl, by omega, by rw [← A.out]; simp⟩
          case measure => omega
      · have hc := decode_high s k hlt (by omega)
        have hle := decode_le s k
        obtain ⟨c, hcc⟩ : ∃ c, (Utf8.decode s k).1 = c := ⟨_, rfl⟩
        rw [hcc] at hn hc hle
        have hcall := fun W hW => (validateKeyChar_any (c : Int) W hW (by omega) (by omega))
        rw [keyB_high (c : Int) (by omega)] at hcall
        have hf : tok s[k] = false := keyB_high _ (by omega)
        rw [hf] at hd
        have A : Aside (false = r) := by rw [← hd]; rfl
        clear hd hf hr ha
        go_wp2_with fail
        refine (hcall _ (hl _)).mono ?_
        rintro e w' ⟨rfl, rfl⟩
        go_wp2_with fail
        go_ret
        exact ⟨ret_bool A.out, hb _⟩
    · have hn := run_next_end (P := Tryz.prog) w s k 0 hlt
      rw [bs_drop_all s k (by omega)] at hd
      have A : Aside (true = r) := by rw [← hd]; rfl
      clear hd hr
      go_wp2_with fail
      go_ret
      exact ⟨ret_bool A.out, hb _⟩

def keyOk (l : List UInt8) : Bool := !l.isEmpty && l.all tok
theorem toList_empty (s : ByteArray) : s.toList.isEmpty = (bs s).isEmpty := by rw [ByteArray.toList_eq]
theorem validateKey_any (s : ByteArray) (w : World) (hw : Laid w) (hs : s.size ≤ 1000000) :
    Calls Tryz.prog 78 #[.string s] w fun e w' => e = .returned (.bool (keyOk (bs s))) ∧ Below w.heap.size w w' := by
  cases he : s.toList.isEmpty
  · have := validateKey_loop s w hw hs he
    unfold keyOk
    rw [← toList_empty, he]
    exact this
  · unfold keyOk
    rw [← toList_empty, he]
    go_enter Tryz.func78, Tryz.ntmps78
    go_wp2_with fail
    go_ret
    exact ⟨rfl, Below.refl _ _⟩
end Go.Proofs.YtleofgndghjflaaGreatDoor

set_option linter.unusedVariables false
set_option linter.unusedSimpArgs false
namespace Go.Proofs.YtleofgndghjflaaGreatDoor
open Go Go.RowKit

def pfxAt (s t : List UInt8) (k : Nat) : Bool := (s.drop k).take t.length == t
def IdxR (s t : List UInt8) (r : Int) : Prop :=
  (∃ k : Nat, r = k ∧ k + t.length ≤ s.length ∧ pfxAt s t k = true ∧ ∀ j, j < k → pfxAt s t j = false) ∨ (r = -1 ∧ ∀ j, j + t.length ≤ s.length → pfxAt s t j = false)
theorem ext_bs (s : ByteArray) (a b : Nat) : bs (s.extract a b) = ((bs s).drop a).take (b - a) := Lib.extract_data s a b
theorem ext_size (s : ByteArray) (a b : Nat) (h : b ≤ s.size) : (s.extract a b).size = b - a := by
  rw [← bs_length, ext_bs, List.length_take, List.length_drop, bs_length]; omega
theorem pfx_walk (s t : ByteArray) (k : Nat) : ((s.extract k (k + t.size)).toList == t.toList) = pfxAt (bs s) (bs t) k := by
  rw [ByteArray.toList_eq, ByteArray.toList_eq]
  show (bs (s.extract k (k + t.size)) == bs t) = _
  rw [ext_bs]
  unfold pfxAt
  rw [bs_length, Nat.add_sub_cancel_left]
def IdxPost (s t : List UInt8) (w : World) (e : Ending) (w' : World) : Prop := ∃ r, e = .returned (.int .i64 r) ∧ IdxR s t r ∧ w = w'

theorem zzIndex_any (s t : ByteArray) (w : World) (hs : s.size ≤ 1000000) (ht : t.size ≤ 1000) :
    Calls Tryz.prog 169 #[.string s, .string t] w (IdxPost (bs s) (bs t) w) := by
  have hp := pfx_walk s t
  have P0 : Aside (∀ k, ((s.extract k (k + t.size)).toList == t.toList) = pfxAt (bs s) (bs t) k) := hp
  clear hp
  have L1 := bs_length s
  have L2 := bs_length t
  have L : Aside ((bs s).length = s.size ∧ (bs t).length = t.size) := ⟨L1, L2⟩
  clear L1 L2
  go_enter Tryz.func169, Tryz.ntmps169
  go_wp2
  go_loopg [5] (s.size + 1) (fun gk i wx => wx = w ∧ ∃ k : Nat, i = .int .i64 k ∧ k + gk = s.size + 1 ∧ Aside (∀ j, j < k → pfxAt (bs s) (bs t) j = false))
  case atStart => exact ⟨rfl, 0, rfl, by omega, fun j hj => by omega⟩
  case round =>
    obtain ⟨rfl, k, rfl, hk, hf⟩ := hrel
    go_wp2
    · have hle : (k : Int) + t.size ≤ s.size := by assumption
      have ht : ((s.extract k (k + t.size)).toList == t.toList) = true := by assumption
      go_ret
      exact ⟨k, rfl, .inl ⟨k, rfl, by rw [L.out.1, L.out.2]; omega, by rw [← P0.out]; exact ht, hf.out⟩, rfl⟩
    · have hle : (k : Int) + t.size ≤ s.size := by assumption
      have ht : ((s.extract k (k + t.size)).toList == t.toList) = false := by assumption
      go_roundg (gk - 1)
      case rel =>
        refine ⟨rfl, k + 1, rfl, by omega, fun j hj => ?_⟩
        rcases Nat.lt_or_ge j k with h | h
        · exact hf.out j h
        · obtain rfl : j = k := by omega
          rw [← P0.out]; exact ht
      case measure => omega
    · have hle : (s.size : Int) < (k : Int) + t.size := by assumption
      go_ret
      refine ⟨-1, rfl, .inr ⟨rfl, fun j hj => hf.out j ?_⟩, rfl⟩
      rw [L.out.1, L.out.2] at hj
      omega

/-! a text cut at the first one of a byte -/
def cut1 (c : UInt8) : List UInt8 → List UInt8 × List UInt8 × Bool
  | [] => ([], [], false)
  | x :: r => if x = c then ([], r, true) else (x :: (cut1 c r).1, (cut1 c r).2.1, (cut1 c r).2.2)
theorem pfx_one (s : List UInt8) (c : UInt8) (k : Nat) : pfxAt s [c] k = decide (s[k]? = some c) := by
  unfold pfxAt
  rcases Nat.lt_or_ge k s.length with h | h
  · rw [List.drop_eq_getElem_cons h, List.getElem?_eq_getElem h]
    simp only [List.length_singleton, List.take_succ_cons, List.take_zero]
    by_cases e : s[k] = c <;> simp [e]
  · rw [List.drop_eq_nil_of_le h, List.getElem?_eq_none h]
    simp
theorem cut1_at (c : UInt8) : ∀ (s : List UInt8) (k : Nat), s[k]? = some c → (∀ j : Nat, j < k → s[j]? ≠ some c) → cut1 c s = (s.take k, s.drop (k + 1), true)
  | [], k, h, _ => by simp at h
  | x :: r, 0, h, _ => by simp at h; simp [cut1, h]
  | x :: r, k + 1, h, hj => by
    have hx : ¬ x = c := by have := hj 0 (by omega); simpa using this
    have ih := cut1_at c r k (by simpa using h) (fun j hjk => by have := hj (j + 1) (by omega); simpa using this)
    simp [cut1, hx, ih]
theorem cut1_none (c : UInt8) : ∀ (s : List UInt8), (∀ j : Nat, s[j]? ≠ some c) → cut1 c s = (s, [], false)
  | [], _ => rfl
  | x :: r, hj => by
    have hx : ¬ x = c := by have := hj 0; simpa using this
    have ih := cut1_none c r (fun j => by have := hj (j + 1); simpa using this)
    simp [cut1, hx, ih]

def CutPost (c : UInt8) (s : ByteArray) (w : World) (e : Ending) (w' : World) : Prop :=
  ∃ b a f, e = .returned (.tuple #[.string b, .string a, .bool f]) ∧ cut1 c (bs s) = (bs b, bs a, f) ∧ Below w.heap.size w w'
theorem below_drewN' {B : Nat} {a w : World} (h : Below B a w) : ∀ q, Below B a (w.drewN q)
  | 0 => h
  | q + 1 => (below_drewN' h q).drew
theorem zzCut_any (c : UInt8) (s t : ByteArray) (w : World) (hs : s.size ≤ 1000000) (ht : bs t = [c]) :
    Calls Tryz.prog 129 #[.string s, .string t] w (CutPost c s w) := by
  have hl : t.size = 1 := by rw [← bs_length, ht]; rfl
  have A : Aside (bs t = [c] ∧ t.size = 1) := ⟨ht, hl⟩
  have hl1 : 1 ≤ t.size := by omega
  have hl2 : t.size ≤ 1 := by omega
  have hc := zzIndex_any s t w hs (by omega)
  clear ht hl
  go_enter Tryz.func129, Tryz.ntmps129
  go_wp2_with fail
  refine hc.mono ?_
  rintro e w' ⟨r, rfl, hr, rfl⟩
  clear hc
  rcases hr with ⟨k, rfl, hk, hp, hn⟩ | ⟨rfl, hn⟩
  · have hk' : k + 1 ≤ s.size := by rw [bs_length, bs_length, A.out.2] at hk; exact hk
    have B : Aside (pfxAt (bs s) (bs t) k = true ∧ ∀ j, j < k → pfxAt (bs s) (bs t) j = false) := ⟨hp, hn⟩
    clear hp hn hk
    go_wp2_with fail
    go_quiet (fail)
    go_wp2
    go_ret3
    refine ⟨_, _, _, rfl, ?_, below_drewN' (Below.refl _ _) _⟩
    rw [cut1_at c (bs s) k]
    · rw [ext_bs, ext_bs, A.out.2, List.drop_zero, Nat.sub_zero, ← bs_length, ← List.length_drop, List.take_length]
    · have := B.out.1
      rw [A.out.1, pfx_one, decide_eq_true_eq] at this
      exact this
    · intro j hj h
      have := B.out.2 j hj
      rw [A.out.1, pfx_one, decide_eq_false_iff_not] at this
      exact this h
  · have B : Aside (∀ j, j + (bs t).length ≤ (bs s).length → pfxAt (bs s) (bs t) j = false) := hn
    clear hn
    go_wp2_with fail
    go_ret3
    refine ⟨_, _, _, rfl, ?_, Below.refl _ _⟩
    rw [cut1_none c (bs s)]
    intro j hj
    have h1 := (List.getElem?_eq_some_iff.1 hj).1
    have := B.out j (by rw [A.out.1]; exact h1)
    rw [A.out.1, pfx_one, decide_eq_false_iff_not] at this
    exact this hj
end Go.Proofs.YtleofgndghjflaaGreatDoor

set_option linter.unusedVariables false
set_option linter.unusedSimpArgs false
namespace Go.Proofs.YtleofgndghjflaaGreatDoor
open Go Go.RowKit

/-- All blocks but rows of element type e stay as they were. -/
structure Fr (e : TypeId) (w w' : World) : Prop where
  size : w.heap.size ≤ w'.heap.size
  block : ∀ k : Nat, k < w.heap.size → (∀ c f, w.heap[k]? ≠ some (.cells c e f)) → w'.heap[k]? = w.heap[k]?
theorem Fr.refl (e : TypeId) (w : World) : Fr e w w := ⟨Nat.le_refl _, fun _ _ _ => rfl⟩
theorem Fr.trans {e : TypeId} {a b c : World} (h : Fr e a b) (k : Fr e b c) : Fr e a c :=
  ⟨Nat.le_trans h.size k.size, fun i hi hn => by
    have h1 := h.block i hi hn
    rw [k.block i (Nat.lt_of_lt_of_le hi h.size) (fun c f => by rw [h1]; exact hn c f), h1]⟩
theorem Fr.of_below {w w' : World} (e : TypeId) (h : Below w.heap.size w w') : Fr e w w' := ⟨h.size, fun k hk _ => h.block k hk⟩
theorem Fr.alloc (e : TypeId) (w : World) (o : Obj) : Fr e w (w.alloc o) := Fr.of_below e ((Below.refl _ _).alloc (Nat.le_refl _) o)
theorem Fr.drew (e : TypeId) (w : World) : Fr e w w.drew := Fr.of_below e (Below.refl _ _).drew

/-- 'v' is a slice of n elements of sz cells each, whose cells are xs; ty: its block is a row of element type t. -/
def Rd (ty : Bool) (w : World) (t : TypeId) (v : Value) (n sz : Nat) (xs : List Value) : Prop :=
  ∃ A c, v = .slice A n c ∧ n ≤ c ∧ c ≤ 9223372036854775807 ∧ xs.length = n * sz ∧
    (n = 0 ∨ ∃ b o, A = some ⟨b, o, none⟩ ∧ (∀ (j : Nat) u, xs[j]? = some u → w.cell? ⟨b, o + j, none⟩ = some u) ∧ (ty = true → ∃ cs fr, w.heap[b]? = some (.cells cs t fr)))
section
variable {ty : Bool} {w w' : World} {t e : TypeId} {v : Value} {n sz : Nat} {xs : List Value}
theorem Rd.weak (h : Rd ty w t v n sz xs) : Rd false w t v n sz xs := by
  obtain ⟨A, c, h1, h2, h3, h4, h5⟩ := h
  exact ⟨A, c, h1, h2, h3, h4, h5.imp id fun ⟨b, o, k1, k2, _⟩ => ⟨b, o, k1, k2, by simp⟩⟩
theorem Rd.nil (ty : Bool) (w : World) (t : TypeId) (sz : Nat) : Rd ty w t (.slice none 0 0) 0 sz [] := ⟨none, 0, rfl, Nat.le_refl _, by omega, by simp, .inl rfl⟩
theorem cell_keep {b o : Nat} {u : Value} (hb : w'.heap[b]? = w.heap[b]?) (h : w.cell? ⟨b, o, none⟩ = some u) : w'.cell? ⟨b, o, none⟩ = some u := by
  unfold World.cell? at h ⊢
  simp only [hb]
  exact h
theorem Rd.below (h : Rd ty w t v n sz xs) (hb : Below w.heap.size w w') : Rd ty w' t v n sz xs := by
  obtain ⟨A, c, h1, h2, h3, h4, h5⟩ := h
  refine ⟨A, c, h1, h2, h3, h4, h5.imp id fun ⟨b, o, k1, k2, k3⟩ => ⟨b, o, k1, fun j u hj => ?_, fun hty => ?_⟩⟩
  · exact cell_keep (hb.block b (lt_of_cell (k2 j u hj))) (k2 j u hj)
  · obtain ⟨cs, fr, hc⟩ := k3 hty
    exact ⟨cs, fr, (hb.block b (Array.getElem?_eq_some_iff.1 hc).1).trans hc⟩
theorem Rd.fr (h : Rd true w t v n sz xs) (hf : Fr e w w') (hne : t ≠ e) : Rd true w' t v n sz xs := by
  obtain ⟨A, c, h1, h2, h3, h4, h5⟩ := h
  refine ⟨A, c, h1, h2, h3, h4, h5.imp id fun ⟨b, o, k1, k2, k3⟩ => ?_⟩
  obtain ⟨cs, fr, hc⟩ := k3 rfl
  have hk := hf.block b (Array.getElem?_eq_some_iff.1 hc).1 (fun c' f' h' => by rw [hc] at h'; injection h' with h'; injection h' with _ h'; exact hne h')
  exact ⟨b, o, k1, fun j u hj => cell_keep hk (k2 j u hj), fun _ => ⟨cs, fr, hk.trans hc⟩⟩
/-- The shape. -/
theorem Rd.shape (h : Rd ty w t v n sz xs) : ∃ A c, v = .slice A n c ∧ n ≤ c ∧ c ≤ 9223372036854775807 := by
  obtain ⟨A, c, h1, h2, h3, _⟩ := h
  exact ⟨A, c, h1, h2, h3⟩
theorem Rd.length (h : Rd ty w t v n sz xs) : xs.length = n * sz := by
  obtain ⟨A, c, _, _, _, h4, _⟩ := h
  exact h4
/-- The cells of a slice that is not empty. -/
theorem Rd.cells (h : Rd ty w t v n sz xs) (hn : 0 < n) : ∃ b o c, v = .slice (some ⟨b, o, none⟩) n c ∧ n ≤ c ∧ c ≤ 9223372036854775807 ∧ ∀ (j : Nat) u, xs[j]? = some u → w.cell? ⟨b, o + j, none⟩ = some u := by
  obtain ⟨A, c, h1, h2, h3, h4, h5⟩ := h
  rcases h5 with h5 | ⟨b, o, rfl, k2, _⟩
  · omega
  · exact ⟨b, o, c, h1, h2, h3, k2⟩
theorem Rd.of_own {B : Nat} (h : w.ownsRow B t sz v n xs) : Rd true w t v n sz xs := by
  obtain ⟨h1, h2⟩ := h
  rcases h2 with ⟨rfl, rfl⟩ | ⟨g, cap, cur, rfl, hg, hh, hnc, hcm, hcs, htake⟩
  · exact ⟨none, 0, rfl, Nat.le_refl _, by omega, h1, .inl rfl⟩
  · refine ⟨_, cap, rfl, hnc, by simpa [maxLen] using hcm, h1, .inr ⟨g, 0, rfl, fun j u hj => ?_, fun _ => ⟨cur, _, hh⟩⟩⟩
    rw [cell_of_row w g (0 + j) cur t (0, 0) hh]
    rw [← htake, List.getElem?_take] at hj
    split at hj
    · simpa using hj
    · cases hj
end

theorem own_base' {w : World} {base : Nat} {e : TypeId} {size n : Nat} {v : Value} {xs : List Value} (h : w.ownsRow base e size v n xs) (k : Nat) (hk : v.ownBlock = some k) : base ≤ k := (h.lt k hk).1
theorem Fr.of_grown {B : Nat} {w w' : World} {e : TypeId} {size n : Nat} {v : Value} {xs : List Value} (h : w.ownsRow B e size v n xs) (hg : w.grownBy w' v.ownBlock) : Fr e w w' := by
  refine ⟨hg.size, fun k hk hn => hg.block k hk fun he => ?_⟩
  rcases h.2 with ⟨rfl, _⟩ | ⟨g, cap, cur, rfl, _, hh, _⟩
  · simp [Value.ownBlock] at he
  · have : g = k := by simpa [Value.ownBlock] using he.symm
    subst this
    exact hn _ _ hh

section
variable {P : Program} {ops : Array Oper} {rest : List Oper} {o : Oper} {a : Act} {Q : Exit → Act → World → Prop}
/-- append(v, x), v a row of one's own (or nil), x's cells ys in the variadic's box; behind 'at_builtin'. -/
theorem wp_app {W : World} (B : Nat) (hgd : o.guard = none) (s x : Operand) (t : TypeId)
    (ho : o.op = .call { callee := .builtin .append, args := #[s, x], argTypes := #[t, t] }) (e : TypeId) (z : Value) (size bytes : Nat)
    (ht : P.underlying t = some (.slice e)) (hinfo : (P.info? e).map (fun i => (i.zero, i.size, i.bytes)) = some (some z, size, bytes)) (hz : z.cells.size = size) (hs0 : 0 < size)
    (v : Value) (n : Nat) (xs ys : List Value) (hs : a.eval s = v) (hx : a.eval x = .slice (some ⟨W.heap.size, 0, none⟩) 1 1) (hys : ys.length = size) (h1 : ∀ u ∈ ys, u.oneCell' = true)
    (HO : W.ownsRow B e size v n xs) (hB : B ≤ W.heap.size) (hl : (n + 1) * bytes ≤ 140737488355328) (hn : n < 140737488355328)
    (h : ∀ v1 w1, w1.ownsRow B e size v1 (n + 1) (xs ++ ys) → Below B W w1 → Fr e W w1 → W.heap.size ≤ w1.heap.size → wpList P ops Q rest (a.put o.dst v1) w1) :
    wpList P ops Q (o :: rest) a (W.alloc (.cells ys.toArray e)) := by
  obtain ⟨i0, hi, hzz⟩ := Option.map_eq_some_iff.1 hinfo
  simp only [Prod.mk.injEq] at hzz
  obtain ⟨hz0, hz1, hz2⟩ := hzz
  refine wpList_append_own_at (W.alloc (.cells ys.toArray e)) hgd s x t ho B e i0 z size bytes ht hi hz0 hz1 hz2 hz hs0 v n xs hs (HO.alloc _) ⟨W.heap.size, 0, none⟩ 1 1 ys hx (by rw [hys]; simp)
    (by simpa using World.news_of_block (cs := ys.toArray) (t := e) (fr := (0, 0)) (heap_alloc_new W (.cells ys.toArray e))) h1 (by simp only [maxLen]; omega) hl (by simp; omega) ?_
  intro v1 w1 hown hg _ hat
  have hg' : W.grownBy w1 v.ownBlock := World.grownBy.trans (World.grownBy_alloc W _ _) hg
  exact h v1 w1 hown ((Below.refl B W).grown hg' hB (own_base' HO)) (Fr.of_grown HO hg') hg'.size
end

/-- The same as a step of a region that draws its order: W the world as it stands; the variadic's box is its block b. -/
theorem step_app {P : Program} {ops : Array Oper} {o : Oper} {a : Act} {Q : Exit → Act → World → Prop} {K : Act → World → Prop} {E : Prop} (W : World) (B : Nat) (hgd : o.guard = none) (s x : Operand) (t : TypeId)
    (ho : o.op = .call { callee := .builtin .append, args := #[s, x], argTypes := #[t, t] }) (e : TypeId) (z : Value) (size bytes : Nat)
    (ht : P.underlying t = some (.slice e)) (hinfo : (P.info? e).map (fun i => (i.zero, i.size, i.bytes)) = some (some z, size, bytes)) (hz : z.cells.size = size) (hs0 : 0 < size)
    (v : Value) (n : Nat) (xs ys : List Value) (hs : a.eval s = v) (b : Nat) (hx : a.eval x = .slice (some ⟨b, 0, none⟩) 1 1) (hys : ys.length = size) (h1 : ∀ u ∈ ys, u.oneCell' = true)
    (HO : W.ownsRow B e size v n xs) (hb : W.heap[b]? = some (.cells ys.toArray e (0, 0))) (hB : B ≤ W.heap.size) (hl : (n + 1) * bytes ≤ 140737488355328) (hn : n < 140737488355328)
    (h : ∀ v1 w1, w1.ownsRow B e size v1 (n + 1) (xs ++ ys) → Below B W w1 → Fr e W w1 → W.heap.size ≤ w1.heap.size → K (a.put o.dst v1) w1) :
    if Region.wanted o (yielded ops a.tmps) = true then Oper.wp P o a W K Q else E := by
  obtain ⟨i0, hi, hzz⟩ := Option.map_eq_some_iff.1 hinfo
  simp only [Prod.mk.injEq] at hzz
  obtain ⟨hz0, hz1, hz2⟩ := hzz
  rw [if_pos (by simp [Region.wanted, hgd])]
  obtain ⟨v1, w1, hr, hown, hg, _, hat⟩ := run_append_own_at (P := P) W B t o.type e i0 z size bytes ht hi hz0 hz1 hz2 hz hs0 v n xs HO ⟨b, 0, none⟩ 1 1 ys (by rw [hys]; simp)
    (by simpa using World.news_of_block hb) h1 (by simp only [maxLen]; omega) hl hB
  unfold Oper.wp execOp
  simp only [ho, resolve, invoke, builtin, Sem.run_bind, Sem.run_pure, Result.andThen_ok, List.map_toArray, List.map_cons, List.map_nil, hs, hx, hr]
  exact h v1 w1 hown ((Below.refl B W).grown hg hB (own_base' HO)) (Fr.of_grown HO hg) hg.size

theorem own_nil (W : World) (base : Nat) (e : TypeId) (size : Nat) : W.ownsRow base e size (.slice none 0 0) 0 [] := ⟨by simp, .inl ⟨rfl, rfl⟩⟩
theorem own_below {w w1 : World} {B C : Nat} {e : TypeId} {size n : Nat} {v : Value} {xs : List Value} (h : w.ownsRow B e size v n xs) (hb : Below w.heap.size w w1) : w1.ownsRow B e size v n xs :=
  h.kept ⟨hb.os, hb.tape, hb.output, hb.size, fun k hk _ => hb.block k hk⟩ (row := none) (by cases v.ownBlock <;> simp)
theorem below_then {B : Nat} {w w1 w2 : World} (h : Below B w w1) (hB : B ≤ w1.heap.size) (k : Below w1.heap.size w1 w2) : Below B w w2 := h.trans (k.mono hB)
end Go.Proofs.YtleofgndghjflaaGreatDoor

set_option linter.unusedVariables false
set_option linter.unusedSimpArgs false
namespace Go.Proofs.YtleofgndghjflaaGreatDoor
open Go Go.RowKit

/-- A text as a value. -/
def S (l : List UInt8) : Value := .string ⟨l.toArray⟩
theorem S_bs (s : ByteArray) : Value.string s = S (bs s) := by unfold S; congr 1; 
def splitL (c : UInt8) : List UInt8 → List (List UInt8)
  | [] => [[]]
  | x :: r => if x = c then [] :: splitL c r else match splitL c r with
    | [] => [[x]]
    | p :: q => (x :: p) :: q
theorem splitL_ne (c : UInt8) : ∀ l, splitL c l ≠ []
  | [] => by simp [splitL]
  | x :: r => by
    unfold splitL
    split
    · simp
    · split <;> simp
theorem splitL_cut (c : UInt8) : ∀ l, splitL c l = if (cut1 c l).2.2 then (cut1 c l).1 :: splitL c (cut1 c l).2.1 else [(cut1 c l).1]
  | [] => rfl
  | x :: r => by
    by_cases h : x = c
    · simp [splitL, cut1, h]
    · have ih := splitL_cut c r
      simp only [splitL, cut1, if_neg h]
      rw [ih]
      cases (cut1 c r).2.2 <;> simp
theorem cut1_len (c : UInt8) : ∀ l, (cut1 c l).1.length + (cut1 c l).2.1.length + (if (cut1 c l).2.2 then 1 else 0) = l.length
  | [] => rfl
  | x :: r => by
    by_cases h : x = c
    · simp [cut1, h]
    · have ih := cut1_len c r
      simp only [cut1, if_neg h, List.length_cons]
      omega
theorem splitL_len (c : UInt8) : ∀ l, (splitL c l).length ≤ l.length + 1
  | [] => by simp [splitL]
  | x :: r => by
    have ih := splitL_len c r
    have hne := splitL_ne c r
    by_cases h : x = c
    · simp [splitL, h]; omega
    · simp only [splitL, if_neg h]
      split
      · simp
      · rename_i p q hpq
        rw [hpq] at ih
        simp at ih ⊢
        omega

theorem zzContains_any (s t : ByteArray) (w : World) (hs : s.size ≤ 1000000) (ht : t.size ≤ 1000) :
    Calls Tryz.prog 171 #[.string s, .string t] w fun e w' => (∃ f, e = .returned (.bool f) ∧ (f = false → ∀ j, j + t.size ≤ s.size → pfxAt (bs s) (bs t) j = false)) ∧ w = w' := by
  have hc := zzIndex_any s t w hs ht
  have L : Aside ((bs s).length = s.size ∧ (bs t).length = t.size) := ⟨bs_length s, bs_length t⟩
  go_enter Tryz.func171, Tryz.ntmps171
  go_wp2_with fail
  refine hc.mono ?_
  rintro e w' ⟨r, rfl, hr, rfl⟩
  have A : Aside (IdxR (bs s) (bs t) r) := hr
  clear hr hc
  go_wp2_with fail
  go_ret
  refine ⟨⟨_, rfl, fun hf j hj => ?_⟩, rfl⟩
  rcases A.out with ⟨k, rfl, hk, hp, hn⟩ | ⟨rfl, hn⟩
  · simp at hf
  · exact hn j (by rw [L.out.1, L.out.2]; exact hj)

def IntIn (lo hi : Int) (w : World) (e : Ending) (w' : World) : Prop := ∃ r : Int, e = .returned (.int .i64 r) ∧ lo ≤ r ∧ r ≤ hi ∧ w = w'
theorem zzCount_any (s t : ByteArray) (w : World) (hs : s.size ≤ 1000000) (ht : t.size = 1) :
    Calls Tryz.prog 167 #[.string s, .string t] w (IntIn 0 s.size w) := by
  have h1 : 1 ≤ t.size := by omega
  have h2 : t.size ≤ 1 := by omega
  have h0 : ((t.size : Int) == 0) = false := beq_eq_false_iff_ne.2 (by omega)
  clear ht
  go_enter Tryz.func167, Tryz.ntmps167
  go_wp2_with fail
  go_loopg [5, 6] (s.size + 1) (fun gk n i wx => wx = w ∧ ∃ k m : Nat, i = .int .i64 k ∧ n = .int .i64 m ∧ m ≤ k ∧ k ≤ s.size ∧ k + gk = s.size + 1)
  case atStart => exact ⟨rfl, 0, 0, rfl, rfl, by omega, by omega, by omega⟩
  case round =>
    obtain ⟨rfl, k, m, rfl, rfl, hmk, hks, hk⟩ := hrel
    go_wp2
    · go_roundg (gk - t.size)
      case rel => exact ⟨rfl, k + t.size, m + 1, by go_num, by go_num, by omega, by omega, by omega⟩
      case measure => omega
    · go_roundg (gk - 1)
      case rel => exact ⟨rfl, k + 1, m, by go_num, rfl, by omega, by omega, by omega⟩
      case measure => omega
    · go_ret
      exact ⟨m, rfl, by omega, by omega, rfl⟩

def strs (l : List (List UInt8)) : List Value := l.map S
def SplitPost (c : UInt8) (s : ByteArray) (w : World) (e : Ending) (w' : World) : Prop :=
  ∃ v, e = .returned v ∧ Rd true w' 9 v (splitL c (bs s)).length 1 (strs (splitL c (bs s))) ∧ Below w.heap.size w w'
theorem Tryz.infoStr : (Tryz.prog.info? 9).map (fun i => (i.zero, i.size, i.bytes)) = some (some (.string ⟨#[]⟩), 1, 16) := by kernel_rfl
theorem one_str (b : ByteArray) : ∀ u ∈ [Value.string b], u.oneCell' = true := by intro u hu; rw [List.mem_singleton.1 hu]; rfl
theorem zzSplit_any (c : UInt8) (s t : ByteArray) (w : World) (hs : s.size ≤ 1000000) (ht : bs t = [c]) :
    Calls Tryz.prog 93 #[.string s, .string t] w (SplitPost c s w) := by
  have A : Aside (bs t = [c]) := ht
  clear ht
  have L := bs_length s
  have hlen := splitL_len c (bs s)
  have X : Aside (splitL c (bs s) = [] ++ splitL c (bs s) ∧ (splitL c (bs s)).length ≤ s.size + 1) := ⟨rfl, by omega⟩
  clear L hlen
  go_enter Tryz.func93, Tryz.ntmps93
  go_wp2_with fail
  go_loopg [0, 5] (s.size + 1) (fun gk x o wx => Below w.heap.size w wx ∧ ∃ (y : ByteArray) (done : List (List UInt8)), x = .string y ∧ y.size < gk ∧ wx.ownsRow w.heap.size 9 1 o done.length (strs done) ∧
      Aside (splitL c (bs s) = done ++ splitL c (bs y) ∧ (splitL c (bs s)).length ≤ s.size + 1) ∧ y.size ≤ 1000000 ∧ done.length ≤ 1000000)
  case atStart => exact ⟨Below.refl _ _, s, [], rfl, by omega, own_nil _ _ _ _, X, by omega, by simp⟩
  case round =>
    obtain ⟨hb, y, done, rfl, hy, ho, hX, hy1, hd⟩ := hrel
    clear X
    have hcut := zzCut_any c y t wr hy1 A.out
    go_wp2_with fail
    refine hcut.mono ?_
    rintro e w1 ⟨b, a, f, rfl, hc, hb1⟩
    clear hcut
    have C : Aside (cut1 c (bs y) = (bs b, bs a, f)) := hc
    have ho1 := own_below (C := 0) ho hb1
    have hbB := below_then hb hb.size hb1
    have hsz : w.heap.size ≤ w1.heap.size := hbB.size
    clear hc ho hb hb1
    go_wp2_with (at_builtin; go_must (refine wp_app w.heap.size rfl _ _ 54 rfl 9 (.string ⟨#[]⟩) 1 16 Tryz.underlying54 Tryz.infoStr rfl (by decide) u5 done.length _ [.string b] rfl rfl rfl (one_str b) ho1 hsz (by omega) (by omega) ?_); intro v1 w2 ho2 hb2 hf2 hs2)
    · have hf : (!f) = true := by assumption
      go_ret
      have hf' : f = false := by simpa using hf
      have e1 : splitL c (bs s) = done ++ [bs b] := by rw [hX.out.1, splitL_cut, C.out, hf']; rfl
      refine ⟨v1, rfl, ?_, hbB.trans hb2⟩
      rw [e1, List.length_append]
      have := Rd.of_own ho2
      rw [S_bs] at this
      simpa [strs] using this
    · have hf : (!f) = false := by assumption
      have hf' : f = true := by simpa using hf
      have hl := cut1_len c (bs y)
      rw [C.out, hf', bs_length, bs_length, bs_length] at hl
      simp only [if_true] at hl
      have e1 : splitL c (bs y) = bs b :: splitL c (bs a) := by rw [splitL_cut, C.out, hf']; rfl
      have e2 := hX.out
      rw [e1] at e2
      have e3 : done.length + 1 ≤ 1000000 := by
        have := e2.2
        rw [e2.1, List.length_append, List.length_cons] at this
        have := List.length_pos_iff.2 (splitL_ne c (bs a))
        omega
      go_roundg (y.size)
      case rel =>
        refine ⟨hbB.trans hb2, a, done ++ [bs b], rfl, by omega, ?_, ⟨by rw [e2.1]; simp, e2.2⟩, by omega, by simpa using e3⟩
        rw [S_bs] at ho2
        simpa [strs] using ho2
      case measure => omega
end Go.Proofs.YtleofgndghjflaaGreatDoor

set_option linter.unusedVariables false
set_option linter.unusedSimpArgs false
namespace Go.Proofs.YtleofgndghjflaaGreatDoor
open Go Go.RowKit

def U8 (b : UInt8) : Value := .int .u8 b.toNat
theorem strOfU8 (d : List UInt8) : strOfNums (d.map fun b => (b.toNat : Int)) = ⟨d.toArray⟩ := by
  unfold strOfNums
  rw [List.map_map]
  congr 2
  have : ((fun n : Int => UInt8.ofNat n.toNat) ∘ fun b : UInt8 => (b.toNat : Int)) = id := by funext b; simp
  rw [this, List.map_id]
theorem Tryz.infoByte : (Tryz.prog.info? 5).map (fun i => (i.zero, i.size, i.bytes)) = some (some (.int .u8 0), 1, 1) := by kernel_rfl
theorem conv_own {w : World} {B n : Nat} {v : Value} {d : List UInt8} (h : w.ownsRow B 5 1 v n (d.map U8)) : (convert 57 9 v).run Tryz.prog w = .ok (S d) w := by
  have hl : d.length = n := by have := h.1; simpa using this
  rcases h.2 with ⟨rfl, rfl⟩ | ⟨g, cap, cur, rfl, _, hh, hnc, hcm, hcs, htake⟩
  · obtain rfl : d = [] := List.eq_nil_of_length_eq_zero hl
    exact run_convert_bytes_nil w 57 5 Tryz.underlying57 Tryz.underlying5 0 0 9 Tryz.underlying9
  · unfold S
    rw [← strOfU8]
    refine run_convert_bytes_arg w 57 5 Tryz.underlying57 Tryz.underlying5 g 0 n cap _ (by simpa using hl) (fun i hi => ?_) 9 Tryz.underlying9
    rw [cell_of_row w g (0 + i) cur 5 (0, 0) hh, Nat.zero_add]
    have h1 : (d.map U8)[i]? = some (U8 (d[i]'(by omega))) := by simp [List.getElem?_eq_getElem (show i < d.length by omega)]
    rw [← htake, List.getElem?_take] at h1
    split at h1
    · rw [show cur[i]? = cur.toList[i]? by simp, h1]
      simp [U8, List.getElem?_eq_getElem (show i < d.length by omega), List.getD_eq_getElem?_getD]
    · cases h1

def hexU (c : UInt8) : Bool := hexB c.toNat
def hxU (a b : UInt8) : UInt8 := UInt8.ofNat (16 * (hexV a.toNat).toNat + (hexV b.toNat).toNat)
def unesc : List UInt8 → Option (List UInt8)
  | c :: a :: b :: r => if c = 37 then (if hexU a && hexU b then (unesc r).map (hxU a b :: ·) else none) else (unesc (a :: b :: r)).map (c :: ·)
  | l => if l.any (· == 37) then none else some l
theorem unesc_nil : unesc [] = some [] := by simp [unesc]
theorem unesc_plain (c : UInt8) (r : List UInt8) (h : c ≠ 37) : unesc (c :: r) = (unesc r).map (c :: ·) := by
  match r with
  | [] => simp [unesc, h]
  | [a] => by_cases ha : a = 37 <;> simp [unesc, h, ha]
  | a :: b :: r => simp [unesc, h]
theorem unesc_short (r : List UInt8) (h : r.length < 2) : unesc (37 :: r) = none := by
  match r with
  | [] => simp [unesc]
  | [a] => simp [unesc]
  | a :: b :: r => simp only [List.length_cons] at h; omega
theorem unesc_pct (a b : UInt8) (r : List UInt8) : unesc (37 :: a :: b :: r) = if hexU a && hexU b then (unesc r).map (hxU a b :: ·) else none := by simp [unesc]
theorem hex_or : ∀ a b : Fin 16, bits .or .u8 ((16 * a.val : Nat) : Int) (b.val : Int) = ((16 * a.val + b.val : Nat) : Int) := by decide +kernel

theorem hexB_in (c : Int) (h : hexB c = true) : (48 ≤ c ∧ c ≤ 102) ∧ (c ≤ 57 ∨ 65 ≤ c) := by
  unfold hexB at h
  simp at h
  omega
theorem run_idx (s : ByteArray) (i : Int) (k : Nat) (hi : i = k) (h : k < s.size) (c : UInt8) (hc : s[k] = c) : ∀ W, (Instr.index 9 (.string s) (.int .i64 i)).run Tryz.prog W = .ok (.int .u8 (c.toNat : Int)) W := by
  intro W
  subst hi
  rw [run_index_string W 9 s .i64 _ Tryz.underlying9, dif_pos ⟨by omega, by omega⟩]
  simp only [Int.toNat_natCast, hc]
theorem one_int (k : IntKind) (n : Int) : ∀ u ∈ [Value.int k n], u.oneCell' = true := by intro u hu; rw [List.mem_singleton.1 hu]; rfl
theorem hexV_le (c : Int) (h : hexB c = true) : 0 ≤ hexV c ∧ hexV c ≤ 15 := by
  unfold hexB at h
  unfold hexV
  simp at h
  split
  · omega
  · split <;> omega
theorem or_hex (x y : UInt8) (hx : hexU x = true) (hy : hexU y = true) : Value.int .u8 (bits .or .u8 (IntKind.u8.wrap (hexV (x.toNat : Int) * 16)) (hexV (y.toNat : Int))) = U8 (hxU x y) := by
  obtain ⟨a0, a1⟩ := hexV_le _ hx
  obtain ⟨b0, b1⟩ := hexV_le _ hy
  unfold U8 hxU
  have h := hex_or ⟨(hexV (x.toNat : Int)).toNat, by omega⟩ ⟨(hexV (y.toNat : Int)).toNat, by omega⟩
  simp only at h
  rw [IntWalk.u8_in _ (by omega)]
  have e1 : hexV (x.toNat : Int) * 16 = ((16 * (hexV (x.toNat : Int)).toNat : Nat) : Int) := by omega
  have e2 : hexV (y.toNat : Int) = (((hexV (y.toNat : Int)).toNat : Nat) : Int) := by omega
  rw [e1, e2, Int.toNat_natCast, h]
  congr 1
  rw [UInt8.toNat_ofNat', Nat.mod_eq_of_lt (by omega)]
def ErrPost (w : World) (e : Ending) (w' : World) : Prop := ∃ a, e = .returned (.iface 201 a) ∧ Below w.heap.size w w'
theorem errors_New_any (s : ByteArray) (w : World) : Calls Tryz.prog 97 #[.string s] w (ErrPost w) := by
  go_enter Tryz.func97, Tryz.ntmps97
  go_wp2_with fail
  go_ret
  exact ⟨_, rfl, (Below.refl _ _).alloc (Nat.le_refl _) _⟩

def UnescPost (s : ByteArray) (w : World) (e : Ending) (w' : World) : Prop :=
  Below w.heap.size w w' ∧ match unesc (bs s) with
    | some d => e = .returned (.tuple #[S d, .nilIface])
    | none => ∃ t a, e = .returned (.tuple #[.string t, .iface 201 a])
theorem one_u8 (b : UInt8) : ∀ u ∈ [U8 b], u.oneCell' = true := by intro u hu; rw [List.mem_singleton.1 hu]; rfl
attribute [local go_sem ↓] Go.wp_at_zero Go.wp_at_succ
set_option maxRecDepth 100000 in
set_option maxHeartbeats 1000000 in
theorem zzPathUnescape_any (s : ByteArray) (w : World) (hs : s.size ≤ 1000000) : Calls Tryz.prog 119 #[.string s] w (UnescPost s w) := by
  go_enter Tryz.func119, Tryz.ntmps119
  go_wp2_with fail
  go_loopg [4, 5] (s.size + 1) (fun gk o i wx => Below w.heap.size w wx ∧ ∃ (k : Nat) (d : List UInt8), i = .int .i64 k ∧ k ≤ s.size ∧ k + gk = s.size + 1 ∧ wx.ownsRow w.heap.size 5 1 o d.length (d.map U8) ∧
      Aside (unesc (bs s) = (unesc ((bs s).drop k)).map (d ++ ·)) ∧ d.length ≤ k)
  case atStart => exact ⟨Below.refl _ _, 0, [], rfl, by omega, by omega, own_nil _ _ _ _, by show _ = _; simp, by simp⟩
  case round =>
    obtain ⟨hb, k, d, rfl, hk, hg, ho, hX, hd⟩ := hrel
    have hsz := hb.size
    by_cases hlt : k < s.size
    · obtain ⟨c, hc⟩ : ∃ c, s[k] = c := ⟨_, rfl⟩
      have hcb := c.toNat_lt
      have D : Aside ((bs s).drop k = c :: (bs s).drop (k + 1)) := by rw [← hc]; exact bs_drop s k hlt
      by_cases hp : c = 37
      · subst hp
        by_cases h2 : k + 2 < s.size
        · obtain ⟨x, hx⟩ : ∃ x, s[k + 1]'(by omega) = x := ⟨_, rfl⟩
          obtain ⟨y, hy⟩ : ∃ y, s[k + 2]'(by omega) = y := ⟨_, rfl⟩
          have hxb := x.toNat_lt
          have hyb := y.toNat_lt
          have D2 : Aside ((bs s).drop k = 37 :: x :: y :: (bs s).drop (k + 3)) := by
            show _ = _
            rw [D.out, bs_drop s (k + 1) (by omega), bs_drop s (k + 2) (by omega), hx, hy]
          have cx := isHex_any (x.toNat : Int) wr (by omega) (by omega)
          have cy := isHex_any (y.toNat : Int) wr (by omega) (by omega)
          obtain ⟨hX', eX⟩ : ∃ b, hexB (x.toNat : Int) = b := ⟨_, rfl⟩
          obtain ⟨hY', eY⟩ : ∃ b, hexB (y.toNat : Int) = b := ⟨_, rfl⟩
          rw [eX] at cx
          rw [eY] at cy
          have E : Aside (hexU x = hX' ∧ hexU y = hY') := ⟨eX, eY⟩
          clear eX eY
          have hlt2 : (k : Int) + 2 < s.size := by omega
          have herr := errors_New_any ⟨#[105, 110, 118, 97, 108, 105, 100, 32, 85, 82, 76, 32, 101, 115, 99, 97, 112, 101]⟩ wr
          cases hX'
          · have F : Aside (unesc (bs s) = none) := by
              show _ = _
              rw [hX.out, D2.out, unesc_pct, E.out.1]
              rfl
            go_wp2_with (first | (go_at_call 163; refine cx.mono ?_; rintro e w' ⟨rfl, rfl⟩) | (go_at_call 97; refine herr.mono ?_; rintro e w' ⟨a, rfl, hbe⟩))
            go_ret2
            refine ⟨below_then hb hsz hbe, ?_⟩
            simp only [F.out]
            exact ⟨_, _, rfl⟩
          · cases hY'
            · have F : Aside (unesc (bs s) = none) := by
                show _ = _
                rw [hX.out, D2.out, unesc_pct, E.out.1, E.out.2]
                rfl
              go_wp2_with fail
              refine cx.mono ?_
              rintro e w' ⟨rfl, rfl⟩
              go_wp2_with fail
              refine cy.mono ?_
              rintro e w' ⟨rfl, rfl⟩
              go_wp2_with fail
              refine herr.mono ?_
              rintro e w' ⟨a, rfl, hbe⟩
              go_wp2_with fail
              go_ret2
              refine ⟨below_then hb hsz hbe, ?_⟩
              simp only [F.out]
              exact ⟨_, _, rfl⟩
            · go_wp2_with fail
              refine cx.mono ?_
              rintro e w' ⟨rfl, rfl⟩
              go_wp2_with fail
              refine cy.mono ?_
              rintro e w' ⟨rfl, rfl⟩
              go_wp2_with fail
              have ex : (48 ≤ (x.toNat : Int) ∧ (x.toNat : Int) ≤ 102) ∧ ((x.toNat : Int) ≤ 57 ∨ 65 ≤ (x.toNat : Int)) := hexB_in _ E.out.1
              have ey : (48 ≤ (y.toNat : Int) ∧ (y.toNat : Int) ≤ 102) ∧ ((y.toNat : Int) ≤ 57 ∨ 65 ≤ (y.toNat : Int)) := hexB_in _ E.out.2
              have dx := fun W => zzHex_any (x.toNat : Int) W ex.1.1 ex.1.2 ex.2
              have dy := fun W => zzHex_any (y.toNat : Int) W ey.1.1 ey.1.2 ey.2
              clear ex ey
              have i0 : (0 : Int) ≤ (k : Int) + 1 := by omega
              have i1 : (k : Int) + 1 < (s.size : Int) := by omega
              have i2 : (0 : Int) ≤ (k : Int) + 2 := by omega
              have j1 := run_idx s ((k : Int) + 1) (k + 1) (by omega) (by omega) x hx
              have j2 := run_idx s ((k : Int) + 2) (k + 2) (by omega) (by omega) y hy
              clear hx hy hc
              have wr1 : IntKind.i64.wrap ((k : Int) + 1) = (k : Int) + 1 := IntWalk.i64_in _ (by omega)
              have wr2 : IntKind.i64.wrap ((k : Int) + 2) = (k : Int) + 2 := IntWalk.i64_in _ (by omega)
              go_region_held3 (fun _ => True) (trivial) (first | (go_at_call_of 164 x; refine (dx _).mono ?_; rintro e w' ⟨rfl, rfl⟩) | (go_at_call_of 164 y; refine (dy _).mono ?_; rintro e w' ⟨rfl, rfl⟩) | ((refine step_app ((wr.alloc (.cells #[(.int .u8 (bits .or .u8 (IntKind.u8.wrap (hexV (x.toNat : Int) * 16)) (hexV (y.toNat : Int))))] 5)).drew) w.heap.size (by rfl) (.tmp 44) (.tmp 57) 57 (by rfl) 5 (.int .u8 0) 1 1 Tryz.underlying57 Tryz.infoByte rfl (by decide) u4 d.length (d.map U8) [(.int .u8 (bits .or .u8 (IntKind.u8.wrap (hexV (x.toNat : Int) * 16)) (hexV (y.toNat : Int))))] (by rfl) wr.heap.size (by rfl) rfl (one_int _ _) ((ho.alloc _).drew) (heap_alloc_new wr _) (by simp; omega) (by omega) (by omega) ?_; intro v1 w2 ho2 hb2 hf2 hs2)))
              all_goals
                clear wr1 wr2 j1 j2
                have hxy : Value.int .u8 (bits .or .u8 (IntKind.u8.wrap (hexV (x.toNat : Int) * 16)) (hexV (y.toNat : Int))) = U8 (hxU x y) := or_hex x y E.out.1 E.out.2
                rw [hxy] at ho2
                clear hxy
                try go_wp2_with fail
                go_roundg (gk - 3)
                case rel =>
                  refine ⟨hb.trans (((Below.refl _ _).alloc hsz _).drew.trans hb2), k + 3, d ++ [hxU x y], by go_num, by omega, by omega, by simpa using ho2, ?_, by simp; omega⟩
                  have := hX.out
                  rw [D2.out, unesc_pct, E.out.1, E.out.2] at this
                  show _ = _
                  rw [this]
                  simp only [Bool.and_self, if_true, Option.map_map]
                  congr 1
                  funext x
                  simp
                case measure => omega
        · have F : Aside (unesc (bs s) = none) := by
            show _ = _
            rw [hX.out, D.out, unesc_short _ (by rw [List.length_drop, bs_length]; omega)]
            rfl
          have herr := errors_New_any ⟨#[105, 110, 118, 97, 108, 105, 100, 32, 85, 82, 76, 32, 101, 115, 99, 97, 112, 101]⟩ wr
          have hge : (s.size : Int) ≤ (k : Int) + 2 := by omega
          go_wp2_with fail
          refine herr.mono ?_
          rintro e w' ⟨a, rfl, hbe⟩
          go_wp2_with fail
          go_ret2
          refine ⟨below_then hb hsz hbe, ?_⟩
          simp only [F.out]
          exact ⟨_, _, rfl⟩
      · have hp' : ((c.toNat : Int) != 37) = true := by
          rw [bne_iff_ne]
          intro h
          exact hp (UInt8.toNat_inj.1 (by have : (37 : UInt8).toNat = 37 := rfl; omega))
        go_wp2_with (at_builtin; go_must (refine wp_app w.heap.size rfl _ _ 57 rfl 5 (.int .u8 0) 1 1 Tryz.underlying57 Tryz.infoByte rfl (by decide) u4 d.length _ [U8 c] rfl rfl rfl (one_u8 c) ho hsz (by omega) (by omega) ?_); intro v1 w2 ho2 hb2 hf2 hs2)
        go_roundg (gk - 1)
        case rel =>
          refine ⟨hb.trans hb2, k + 1, d ++ [c], by go_num, by omega, by omega, by simpa using ho2, ?_, by simp; omega⟩
          have := hX.out
          rw [D.out, unesc_plain c _ hp, Option.map_map] at this
          show _ = _
          rw [this]
          congr 1
          funext x
          simp
        case measure => omega
    · have hco : ∀ W, W = wr → (convert 57 9 u4).run Tryz.prog W = .ok (S d) W := fun W e => by rw [e]; exact conv_own ho
      have := hX.out
      rw [bs_drop_all s k (by omega), unesc_nil] at this
      have E : Aside (unesc (bs s) = some d) := by show _ = _; rw [this]; simp
      have hcw := hco wr rfl
      clear this hco
      go_wp2_with fail
      go_ret2
      refine ⟨hb, ?_⟩
      simp only [E.out]
      rfl
end Go.Proofs.YtleofgndghjflaaGreatDoor

set_option linter.unusedVariables false
set_option linter.unusedSimpArgs false
namespace Go.Proofs.YtleofgndghjflaaGreatDoor
open Go Go.RowKit

def blank (c : UInt8) : Bool := c == 32 || c == 9
def skipN (l : List UInt8) : Nat := (l.takeWhile blank).length
theorem skipN_nil : skipN [] = 0 := rfl
theorem skipN_cons (c : UInt8) (r : List UInt8) : skipN (c :: r) = if blank c then skipN r + 1 else 0 := by
  unfold skipN
  rw [List.takeWhile_cons]
  split <;> simp
theorem skipN_le (l : List UInt8) : skipN l ≤ l.length := by
  unfold skipN
  exact (List.takeWhile_prefix _).length_le
theorem u8_ne (c : UInt8) (n : Nat) (hn : n < 256) : ((c.toNat : Int) != (n : Int)) = !(c == UInt8.ofNat n) := by
  have : (c.toNat : Int) = (n : Int) ↔ c = UInt8.ofNat n := by
    constructor
    · intro h
      apply UInt8.toNat_inj.1
      rw [UInt8.toNat_ofNat', Nat.mod_eq_of_lt (by omega)]
      omega
    · intro h
      rw [h, UInt8.toNat_ofNat', Nat.mod_eq_of_lt (by omega)]
  by_cases h : c = UInt8.ofNat n
  · rw [beq_iff_eq.2 h]; simpa using this.2 h
  · rw [beq_eq_false_iff_ne.2 h]; simpa using fun h' => h (this.1 h')
theorem blank_walk (c : UInt8) : blank c = !(((c.toNat : Int) != 32) && ((c.toNat : Int) != 9)) := by
  have h1 : ((c.toNat : Int) != 32) = !(c == 32) := u8_ne c 32 (by omega)
  have h2 : ((c.toNat : Int) != 9) = !(c == 9) := u8_ne c 9 (by omega)
  rw [h1, h2]
  unfold blank
  cases c == 32 <;> cases c == 9 <;> rfl

theorem skipSpace_any (s : ByteArray) (i : Int) (w : World) (hs : s.size ≤ 1000000) (h0 : 0 ≤ i) (h1 : i ≤ s.size) :
    Calls Tryz.prog 207 #[.string s, .int .i64 i] w fun e w' => e = .returned (.int .i64 (i + skipN ((bs s).drop i.toNat))) ∧ w = w' := by
  obtain ⟨o, rfl⟩ := Int.eq_ofNat_of_zero_le h0
  rw [Int.toNat_natCast]
  obtain ⟨r, hr⟩ : ∃ r : Nat, skipN ((bs s).drop o) + o = r := ⟨_, rfl⟩
  have hr' : (o : Int) + skipN ((bs s).drop o) = r := by omega
  rw [hr']
  have hle := skipN_le ((bs s).drop o)
  have A : Aside (skipN ((bs s).drop o) + o = r) := hr
  clear hr hr' hle
  go_enter Tryz.func207, Tryz.ntmps207
  go_wp2_with fail
  go_loopg [5, 6] (s.size + 1) (fun gk i c wx => wx = w ∧ ∃ k : Nat, i = .int .i64 k ∧ k ≤ s.size ∧ k + gk = s.size + 1 + o ∧ o ≤ k ∧ Aside (skipN ((bs s).drop k) + k = r))
  case atStart => exact ⟨rfl, o, rfl, by omega, by omega, by omega, A⟩
  case round =>
    obtain ⟨rfl, k, rfl, hk, hg, hok, hX⟩ := hrel
    clear A
    by_cases hlt : k < s.size
    · obtain ⟨c, hc⟩ : ∃ c, s[k] = c := ⟨_, rfl⟩
      have D : Aside ((bs s).drop k = c :: (bs s).drop (k + 1)) := by rw [← hc]; exact bs_drop s k hlt
      have hbw := blank_walk c
      have hX' := hX.out
      rw [D.out, skipN_cons] at hX'
      cases h1 : ((c.toNat : Int) != 32) <;> cases h2 : ((c.toNat : Int) != 9)
      all_goals
        rw [h1, h2] at hbw
        simp only [Bool.and_true, Bool.and_false, Bool.not_true, Bool.not_false] at hbw
        rw [hbw] at hX'
        have Y := hX'
        have Z : Aside (_ = _) := Y
        clear hX' hbw Y
        go_wp2
        first
          | (go_ret
             have := Z.out
             simp only [Bool.false_eq_true, if_false] at this
             exact ⟨ret_int (by omega), rfl⟩)
          | (go_roundg (gk - 1)
             case rel =>
               refine ⟨rfl, k + 1, by go_num, by omega, by omega, by omega, ?_⟩
               have := Z.out
               simp only [if_true] at this
               show _ = _
               omega
             case measure => omega)
    · have : Aside (k = r) := by
        have := hX.out
        rw [bs_drop_all s k (by omega), skipN_nil] at this
        show _ = _
        omega
      go_wp2
      go_ret
      exact ⟨ret_int (by have := this.out; omega), rfl⟩

theorem pct_ne (c : UInt8) (h : c ≠ 37) : ((c.toNat : Int) != 37) = true := by
  have h1 : ((c.toNat : Int) != 37) = !(c == 37) := u8_ne c 37 (by omega)
  rw [h1, beq_eq_false_iff_ne.2 h]
  rfl
theorem validPercentEncoding_any (s : ByteArray) (w : World) (hs : s.size ≤ 1000000) :
    Calls Tryz.prog 208 #[.string s] w fun e w' => e = .returned (.bool (unesc (bs s)).isSome) ∧ w = w' := by
  obtain ⟨r, hr⟩ : ∃ r, (unesc (bs s)).isSome = r := ⟨_, rfl⟩
  rw [hr]
  have A : Aside ((unesc ((bs s).drop 0)).isSome = r) := by rw [List.drop_zero]; exact hr
  clear hr
  go_enter Tryz.func208, Tryz.ntmps208
  go_wp2_with fail
  go_loopg [3] (s.size + 1) (fun gk i wx => wx = w ∧ ∃ k : Nat, i = .int .i64 k ∧ k ≤ s.size ∧ k + gk = s.size + 1 ∧ Aside ((unesc ((bs s).drop k)).isSome = r))
  case atStart => exact ⟨rfl, 0, rfl, by omega, by omega, A⟩
  case round =>
    obtain ⟨rfl, k, rfl, hk, hg, hX⟩ := hrel
    clear A
    by_cases hlt : k < s.size
    · obtain ⟨c, hc⟩ : ∃ c, s[k] = c := ⟨_, rfl⟩
      have hcb := c.toNat_lt
      have D : Aside ((bs s).drop k = c :: (bs s).drop (k + 1)) := by rw [← hc]; exact bs_drop s k hlt
      by_cases hp : c = 37
      · subst hp
        by_cases h2 : k + 2 < s.size
        · obtain ⟨x, hx⟩ : ∃ x, s[k + 1]'(by omega) = x := ⟨_, rfl⟩
          obtain ⟨y, hy⟩ : ∃ y, s[k + 2]'(by omega) = y := ⟨_, rfl⟩
          have hxb := x.toNat_lt
          have hyb := y.toNat_lt
          have D2 : Aside ((bs s).drop k = 37 :: x :: y :: (bs s).drop (k + 3)) := by
            show _ = _
            rw [D.out, bs_drop s (k + 1) (by omega), bs_drop s (k + 2) (by omega), hx, hy]
          have cx := isHex_any (x.toNat : Int) wr (by omega) (by omega)
          have cy := isHex_any (y.toNat : Int) wr (by omega) (by omega)
          obtain ⟨hX', eX⟩ : ∃ b, hexB (x.toNat : Int) = b := ⟨_, rfl⟩
          obtain ⟨hY', eY⟩ : ∃ b, hexB (y.toNat : Int) = b := ⟨_, rfl⟩
          rw [eX] at cx
          rw [eY] at cy
          have E : Aside (hexU x = hX' ∧ hexU y = hY') := ⟨eX, eY⟩
          clear eX eY
          have hlt2 : (k : Int) + 2 < s.size := by omega
          have F := hX.out
          rw [D2.out, unesc_pct, E.out.1, E.out.2] at F
          cases hX'
          · have G : Aside (false = r) := F
            clear F
            go_wp2_with (go_at_call 163; refine cx.mono ?_; rintro e w' ⟨rfl, rfl⟩)
            go_ret
            exact ⟨ret_bool G.out, rfl⟩
          · cases hY'
            · have G : Aside (false = r) := F
              clear F
              go_wp2_with fail
              refine cx.mono ?_
              rintro e w' ⟨rfl, rfl⟩
              go_wp2_with fail
              refine cy.mono ?_
              rintro e w' ⟨rfl, rfl⟩
              go_wp2_with fail
              go_ret
              exact ⟨ret_bool G.out, rfl⟩
            · have G : Aside ((unesc ((bs s).drop (k + 3))).isSome = r) := by
                show _ = _
                rw [← F]; simp
              clear F
              go_wp2_with fail
              refine cx.mono ?_
              rintro e w' ⟨rfl, rfl⟩
              go_wp2_with fail
              refine cy.mono ?_
              rintro e w' ⟨rfl, rfl⟩
              go_wp2_with fail
              go_roundg (gk - 3)
              case rel => exact ⟨rfl, k + 3, by go_num, by omega, by omega, G⟩
              case measure => omega
        · have F := hX.out
          rw [D.out, unesc_short _ (by rw [List.length_drop, bs_length]; omega)] at F
          have G : Aside (false = r) := F
          clear F
          have hge : (s.size : Int) ≤ (k : Int) + 2 := by omega
          go_wp2_with fail
          go_ret
          exact ⟨ret_bool G.out, rfl⟩
      · have hp' := pct_ne c hp
        have F := hX.out
        rw [D.out, unesc_plain c _ hp] at F
        have G : Aside ((unesc ((bs s).drop (k + 1))).isSome = r) := by
          show _ = _
          rw [← F]; simp
        clear F
        go_wp2_with fail
        go_roundg (gk - 1)
        case rel => exact ⟨rfl, k + 1, by go_num, by omega, by omega, G⟩
        case measure => omega
    · have F := hX.out
      rw [bs_drop_all s k (by omega), unesc_nil] at F
      have G : Aside (true = r) := F
      clear F
      go_wp2_with fail
      go_ret
      exact ⟨ret_bool G.out, rfl⟩
end Go.Proofs.YtleofgndghjflaaGreatDoor

set_option linter.unusedVariables false
set_option linter.unusedSimpArgs false
namespace Go.Proofs.YtleofgndghjflaaGreatDoor
open Go Go.RowKit

def escU (c : UInt8) : Bool := escB c.toNat
def upHex (n : Nat) : UInt8 := if n < 10 then UInt8.ofNat (48 + n) else UInt8.ofNat (55 + n)
def encC (c : UInt8) : List UInt8 := if escU c then [37, upHex (c.toNat / 16), upHex (c.toNat % 16)] else [c]
def enc (l : List UInt8) : List UInt8 := l.flatMap encC
def cntE (l : List UInt8) : Nat := l.countP escU
theorem enc_len (l : List UInt8) : (enc l).length = l.length + 2 * cntE l := by
  induction l with
  | nil => rfl
  | cons c r ih =>
    unfold enc cntE at *
    rw [List.flatMap_cons, List.length_append, ih, List.countP_cons]
    unfold encC
    cases escU c <;> simp <;> omega
theorem enc_none (l : List UInt8) (h : cntE l = 0) : enc l = l := by
  induction l with
  | nil => rfl
  | cons c r ih =>
    unfold enc cntE at *
    rw [List.countP_cons] at h
    have hc : escU c = false := by cases h' : escU c <;> simp_all
    rw [List.flatMap_cons, ih (by omega)]
    simp [encC, hc]
theorem cntE_le (l : List UInt8) : cntE l ≤ l.length := List.countP_le_length
theorem bs_take (s : ByteArray) (k : Nat) (h : k < s.size) : (bs s).take (k + 1) = (bs s).take k ++ [s[k]] := by
  rw [List.take_succ_eq_append_getElem (by rw [bs_length]; exact h)]; rfl

/-- A block that is being filled with bytes. -/
def Blk (w : World) (B N : Nat) (pre : List UInt8) : Prop :=
  ∃ cs e, w.heap[B]? = some (.cells cs e (0, 0)) ∧ N ≤ cs.size ∧ (∀ j : Nat, j < cs.size → ∃ x, cs[j]? = some (.int .u8 x)) ∧ ∀ (j : Nat) u, pre[j]? = some u → cs[j]? = some (U8 u)
theorem Blk.cell {w : World} {B N : Nat} {pre : List UInt8} (h : Blk w B N pre) (j : Nat) (hj : j < N) : (∃ x, w.cell? ⟨B, j, none⟩ = some (.int .u8 x)) ∧ w.frozen? ⟨B, j, none⟩ = false := by
  obtain ⟨cs, e, hb, hN, hx, _⟩ := h
  obtain ⟨x, hx⟩ := hx j (by omega)
  exact ⟨⟨x, by rw [cell_of_row w B j cs e (0, 0) hb]; exact hx⟩, by simp [World.frozen?, hb]⟩
theorem Blk.push {w : World} {B N : Nat} {pre : List UInt8} (h : Blk w B N pre) (hl : pre.length < N) (u : UInt8) : Blk (w.setCell ⟨B, pre.length, none⟩ (U8 u)) B N (pre ++ [u]) := by
  obtain ⟨cs, e, hb, hN, hx, hp⟩ := h
  refine ⟨cs.setIfInBounds pre.length (U8 u), e, by simp [World.setCell, Array.getElem?_modify, hb], by simpa using hN, fun j hj => ?_, fun j v hv => ?_⟩
  · rw [Array.size_setIfInBounds] at hj
    rw [Array.getElem?_setIfInBounds]
    split
    · rename_i he
      rw [if_pos (by omega)]
      exact ⟨_, rfl⟩
    · exact hx j hj
  · rw [Array.getElem?_setIfInBounds]
    split
    · rename_i he
      subst he
      rw [if_pos (by omega)]
      simp at hv
      rw [hv]
    · rename_i he
      apply hp
      rw [List.getElem?_append] at hv
      split at hv
      · exact hv
      · rename_i h2
        rw [List.getElem?_eq_none (by simp; omega)] at hv
        cases hv
theorem Blk.conv {w : World} {B N c : Nat} {pre : List UInt8} (h : Blk w B N pre) (hl : pre.length = N) : (convert 57 9 (.slice (some ⟨B, 0, none⟩) N c)).run Tryz.prog w = .ok (S pre) w := by
  obtain ⟨cs, e, hb, hN, hx, hp⟩ := h
  unfold S
  rw [← strOfU8]
  refine run_convert_bytes_arg w 57 5 Tryz.underlying57 Tryz.underlying5 B 0 N c _ (by simpa using hl) (fun i hi => ?_) 9 Tryz.underlying9
  rw [cell_of_row w B (0 + i) cs e (0, 0) hb, Nat.zero_add, hp i (pre[i]'(by omega)) (List.getElem?_eq_getElem (by omega))]
  simp [U8, List.getElem?_eq_getElem (show i < pre.length by omega), List.getD_eq_getElem?_getD]
theorem enc_take_le (l : List UInt8) (k : Nat) : (enc (l.take k)).length ≤ (enc l).length := by
  conv => rhs; rw [← List.take_append_drop k l]
  unfold enc
  rw [List.flatMap_append, List.length_append]
  omega
theorem enc_snoc (l : List UInt8) (c : UInt8) : enc (l ++ [c]) = enc l ++ encC c := by
  unfold enc
  rw [List.flatMap_append, List.flatMap_cons, List.flatMap_nil, List.append_nil]

theorem heap_alloc_2 (w : World) (a b : Obj) : ((w.alloc a).alloc b).heap[w.heap.size + 1]? = some b := by
  have h := heap_alloc_new (w.alloc a) b
  have e : (w.alloc a).heap.size = w.heap.size + 1 := by rw [World.alloc]; exact Array.size_push ..
  rw [e] at h
  exact h
theorem upHex_at (n : Nat) (h : n < 16) : (⟨#[48, 49, 50, 51, 52, 53, 54, 55, 56, 57, 65, 66, 67, 68, 69, 70]⟩ : ByteArray)[n]'h = upHex n := by
  revert n
  decide

set_option maxRecDepth 100000 in
set_option maxHeartbeats 1000000 in
theorem valueEscape_any (s : ByteArray) (w : World) (hw : Laid w) (hs : s.size ≤ 1000000) :
    Calls Tryz.prog 79 #[.string s] w fun e w' => e = .returned (S (enc (bs s))) ∧ Below w.heap.size w w' := by
  obtain ⟨R, hR⟩ : ∃ R, S (enc (bs s)) = R := ⟨_, rfl⟩
  rw [hR]
  have AR : Aside (S (enc (bs s)) = R) := hR
  clear hR
  have hesc := fun (c : UInt8) => shouldEscape_any (c.toNat : Int) w hw (by omega) (by have := c.toNat_lt; omega)
  have hcl := cntE_le (bs s)
  rw [bs_length] at hcl
  go_enter Tryz.func79, Tryz.ntmps79
  go_wp2_with fail
  go_loopg [3, 4] (s.size + 1) (fun gk n i wx => wx = w ∧ ∃ k m : Nat, i = .int .i64 k ∧ n = .int .i64 m ∧ k ≤ s.size ∧ k + gk = s.size + 1 ∧ m ≤ k ∧ Aside (m = cntE ((bs s).take k)))
  case atStart => exact ⟨rfl, 0, 0, rfl, rfl, by omega, by omega, by omega, rfl⟩
  case round =>
    obtain ⟨rfl, k, m, rfl, rfl, hk, hg, hm, hX⟩ := hrel
    by_cases hlt : k < s.size
    · obtain ⟨c, hc⟩ : ∃ c, s[k] = c := ⟨_, rfl⟩
      have hcc := hesc c
      obtain ⟨b, hb⟩ : ∃ b, escB (c.toNat : Int) = b := ⟨_, rfl⟩
      rw [hb] at hcc
      have E : Aside (cntE ((bs s).take (k + 1)) = m + (if b then 1 else 0)) := by
        show _ = _
        rw [bs_take s k hlt, hc, hX.out]
        unfold cntE
        rw [List.countP_append, List.countP_cons, List.countP_nil]
        unfold escU
        rw [hb]
        cases b <;> simp
      clear hb
      cases b
      · go_wp2_with fail
        refine hcc.mono ?_
        rintro e w' ⟨rfl, rfl⟩
        go_wp2_with fail
        go_roundg (gk - 1)
        case rel => exact ⟨rfl, k + 1, m, by go_num, rfl, by omega, by omega, by omega, by have := E.out; show _ = _; simp at this; omega⟩
        case measure => omega
      · go_wp2_with fail
        refine hcc.mono ?_
        rintro e w' ⟨rfl, rfl⟩
        go_wp2_with fail
        go_roundg (gk - 1)
        case rel => exact ⟨rfl, k + 1, m + 1, by go_num, by go_num, by omega, by omega, by omega, by have := E.out; show _ = _; simp at this; omega⟩
        case measure => omega
    · have hfull : Aside (m = cntE (bs s)) := by
        have := hX.out
        rw [List.take_of_length_le (by rw [bs_length]; omega)] at this
        exact this
      clear hX
      by_cases h0 : m = 0
      · subst h0
        go_wp2_with fail
        go_ret
        refine ⟨?_, Below.refl _ _⟩
        rw [← AR.out, enc_none _ hfull.out.symm, ← S_bs]
        rfl
      · have hz : ((m : Int) == 0) = false := beq_eq_false_iff_ne.2 (by omega)
        have hl : Aside ((enc (bs s)).length = s.size + 2 * m) := by
          show _ = _
          rw [enc_len, bs_length, hfull.out]
        have hmk : ∀ W, (Instr.makeSlice 57 (.int .i64 ((s.size : Int) + 2 * (m : Int))) (.int .i64 ((s.size : Int) + 2 * (m : Int)))).run Tryz.prog W = .ok (.slice (some ⟨W.heap.size, 0, none⟩) (s.size + 2 * m) (s.size + 2 * m)) (W.alloc (.cells (madeCells #[.int .u8 0] (s.size + 2 * m)) 5)) := by
          intro W
          have e : (s.size : Int) + 2 * (m : Int) = ((s.size + 2 * m : Nat) : Int) := by omega
          rw [e]
          exact run_make_row' 57 5 (.int .u8 0) 1 Tryz.underlying57 Tryz.infoByte rfl .i64 .i64 (s.size + 2 * m) (by omega) (by omega) W
        have hsl : (s.size : Int) + 2 * m ≤ 64 → ∀ W ad, (Instr.sliceAt 189 (.pointer (some ad)) none (some (.int .i64 ((s.size : Int) + 2 * (m : Int)))) none).run Tryz.prog W = .ok (.slice (some ad) (s.size + 2 * m) 64) W := by
          intro h64 W ad
          have hal : Tryz.prog.arrayLen 189 = 64 := by kernel_rfl
          rw [run_sliceAt_array_h W 189 ad Tryz.underlying189 .i64 _ (by omega) (by rw [hal]; omega), hal]
          have hsz : (sizeOf (Tryz.prog.elem 189)).run Tryz.prog W = .ok 1 W := by kernel_rfl
          rw [hsz]
          simp only [Result.andThen, slicedAt, Nat.zero_mul, Nat.sub_zero]
          have e2 : ((s.size : Int) + 2 * (m : Int)).toNat = s.size + 2 * m := by omega
          rw [e2]
          simp [Addr.add]
        go_upto_if 34 with fail
        go_cut [7] (fun v W => ∃ B c cs e, v = .slice (some ⟨B, 0, none⟩) (s.size + 2 * m) c ∧ W.heap[B]? = some (.cells cs e (0, 0)) ∧ s.size + 2 * m ≤ cs.size ∧ wr.heap.size ≤ B ∧ Below wr.heap.size wr W ∧ (∀ j : Nat, j < cs.size → ∃ x, cs[j]? = some (.int .u8 x)))
        case first =>
          by_cases h64 : (s.size : Int) + 2 * m ≤ 64
          · have hsl' := hsl h64
            clear hsl hmk
            go_wp2_with fail
            go_meet
            refine ⟨wr.heap.size, 64, _, 189, rfl, heap_alloc_new wr _, ?_, Nat.le_refl _, (Below.refl _ _).alloc (Nat.le_refl _) _, ?_⟩
            · show _ ≤ 64
              omega
            · intro j hj
              have hj' : j < 64 := hj
              refine ⟨0, ?_⟩
              show (Array.replicate 64 (Value.int .u8 0))[j]? = _
              simp [hj']
          · clear hsl
            go_wp2_with fail
            go_meet
            refine ⟨wr.heap.size + 1, s.size + 2 * m, madeCells #[.int .u8 0] (s.size + 2 * m), 5, rfl, ?_, ?_, by omega, ((Below.refl _ _).alloc (Nat.le_refl _) _).alloc (by rw [World.alloc, Array.size_push]; omega) _, ?_⟩
            · exact heap_alloc_2 wr _ _
            · rw [size_madeCells]
              omega
            · intro j hj
              rw [size_madeCells] at hj
              refine ⟨0, ?_⟩
              rw [← Array.getElem?_toList, toList_madeCells_one]
              simp [hj]
        case rest =>
          clear hsl hmk
          obtain ⟨B, c, cs, e, rfl, hB, hcs, hBw, hbel, hcell⟩ := hcut
          have hblk : Blk wc B (s.size + 2 * m) [] := ⟨cs, e, hB, hcs, hcell, fun j u hu => by simp at hu⟩
          clear hB hcs hcell
          go_wp2_with fail
          go_loopg [9, 10] (s.size + 1) (fun gk j i W => ∃ k jn : Nat, i = .int .i64 k ∧ k ≤ s.size ∧ k + gk = s.size + 1 ∧ j = .int .i64 jn ∧ jn ≤ s.size + 2 * m ∧ Aside (jn = (enc ((bs s).take k)).length) ∧ Blk W B (s.size + 2 * m) (enc ((bs s).take k)) ∧ Below wr.heap.size wr W)
          case atStart => exact ⟨0, 0, rfl, by omega, by omega, rfl, by omega, rfl, hblk, hbel⟩
          case round =>
            rename_i wo _
            obtain ⟨k, jn, rfl, hk, hg, rfl, hjn, hjl, hblk, hbel⟩ := hrel
            by_cases hlt : k < s.size
            · obtain ⟨c, hc⟩ : ∃ c, s[k] = c := ⟨_, rfl⟩
              have hcc := shouldEscape_any (c.toNat : Int) wr (hw.below hbel) (by omega) (by have := c.toNat_lt; omega)
              obtain ⟨b, hb⟩ : ∃ b, escB (c.toNat : Int) = b := ⟨_, rfl⟩
              rw [hb] at hcc
              have E : Aside (enc ((bs s).take (k + 1)) = enc ((bs s).take k) ++ encC c ∧ escU c = b) := ⟨by rw [bs_take s k hlt, hc, enc_snoc], hb⟩
              have hle := enc_take_le (bs s) (k + 1)
              rw [E.out.1, List.length_append, hl.out, ← hjl.out] at hle
              clear hb
              cases b
              · have hle2 : jn + 1 ≤ s.size + 2 * m := by have := E.out.2; unfold encC at hle; rw [this] at hle; simpa using hle
                clear hle
                go_wp2_with fail
                refine hcc.mono ?_
                rintro e w' ⟨rfl, rfl⟩
                obtain ⟨⟨x, hcell⟩, hfr⟩ := hblk.cell jn (by omega)
                go_wp2_with fail
                go_roundg (gk - 1)
                case rel =>
                  have h2 := E.out
                  unfold encC at h2
                  rw [h2.2] at h2
                  refine ⟨k + 1, jn + 1, by go_num, by omega, by omega, by go_num, hle2, ?_, ?_, ?_⟩
                  · show _ = _
                    rw [h2.1, List.length_append, ← hjl.out]
                    rfl
                  · rw [h2.1]
                    have hp := hblk.push (by rw [← hjl.out]; omega) c
                    rw [← hjl.out] at hp
                    exact hp
                  · exact hbel.setCell hBw _
                case measure => omega
              · have hle2 : jn + 3 ≤ s.size + 2 * m := by have := E.out.2; unfold encC at hle; rw [this] at hle; simpa using hle
                clear hle
                go_wp2_with fail
                refine hcc.mono ?_
                rintro e w' ⟨rfl, rfl⟩
                obtain ⟨⟨x, hcell⟩, hfr⟩ := hblk.cell jn (by omega)
                obtain ⟨⟨x1, hcell1⟩, hfr1⟩ := hblk.cell (jn + 1) (by omega)
                obtain ⟨⟨x2, hcell2⟩, hfr2⟩ := hblk.cell (jn + 2) (by omega)
                have hc256 := c.toNat_lt
                go_wp2_with fail
                go_roundg (gk - 1)
                case rel =>
                  have h2 := E.out
                  unfold encC at h2
                  rw [h2.2] at h2
                  refine ⟨k + 1, jn + 3, by go_num, by omega, by omega, by go_num, hle2, ?_, ?_, ?_⟩
                  · show _ = _
                    rw [h2.1, List.length_append, ← hjl.out]
                    rfl
                  · rw [h2.1]
                    have hp := hblk.push (by rw [← hjl.out]; omega) 37
                    have hp2 := hp.push (by rw [List.length_append, ← hjl.out]; simp; omega) (upHex (c.toNat / 16))
                    have hp3 := hp2.push (by rw [List.length_append, List.length_append, ← hjl.out]; simp; omega) (upHex (c.toNat % 16))
                    have q1 : (enc ((bs s).take k) ++ [37]).length = jn + 1 := by rw [List.length_append, ← hjl.out]; rfl
                    have q2 : (enc ((bs s).take k) ++ [37] ++ [upHex (c.toNat / 16)]).length = jn + 2 := by rw [List.length_append, q1]; rfl
                    rw [q2, q1, ← hjl.out] at hp3
                    rw [upHex_at _ (by omega), upHex_at _ (by omega)]
                    rw [List.append_assoc, List.append_assoc] at hp3
                    exact hp3
                  · exact ((hbel.setCell hBw _).setCell hBw _).setCell hBw _
                case measure => omega
            · have hke : k = s.size := by omega
              subst hke
              have hcv := hblk.conv (c := c) (by rw [List.take_of_length_le (by rw [bs_length]; omega)]; exact hl.out)
              go_wp2_with fail
              go_ret
              refine ⟨?_, hbel⟩
              rw [← AR.out, List.take_of_length_le (by rw [bs_length]; omega)]
              try rfl
end Go.Proofs.YtleofgndghjflaaGreatDoor
