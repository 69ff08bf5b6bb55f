/- sort.Slice of entries, as entriesOf calls it. -/
import Derived.Test.YtfaokggblllcmaaC9
set_option linter.unusedVariables false
set_option linter.unusedSimpArgs false
namespace Go.Proofs.Ytfaokggblllcmaa
open Go Go.RowKit

theorem fm2 {α : Type} (f : α → List Value) (h2 : ∀ p, (f p).length = 2) : ∀ (xs : List α) (i : Nat) (p : α), xs[i]? = some p → ∀ j : Nat, j < 2 → (xs.flatMap f)[i * 2 + j]? = (f p)[j]?
  | [], i, p, hi, j, hj => by simp at hi
  | x :: r, 0, p, hi, j, hj => by
    simp at hi
    subst hi
    rw [List.flatMap_cons, List.getElem?_append_left (by rw [h2]; omega)]
    congr 1
    omega
  | x :: r, i + 1, p, hi, j, hj => by
    have := fm2 f h2 r i p (by simpa using hi) j hj
    rw [List.flatMap_cons, List.getElem?_append_right (by rw [h2]; omega), h2, ← this]
    congr 1
    omega

/-- An element of the row that is sorted: key, value, the properties' slice. -/
abbrev IM := ByteArray × ByteArray
def encM (x : IM) : List Value := [.string x.1, .string x.2]

set_option maxHeartbeats 2000000 in
set_option maxRecDepth 100000 in
theorem less_any (blk off c Bs size : Nat) (W : World) (G : Nat → ByteArray) (hs : W.cell? ⟨Bs, 0, none⟩ = some (.slice (some ⟨blk, off, none⟩) size c))
    (hc : ∀ t, t < size → W.cell? ⟨blk, off + t * 2, none⟩ = some (.string (G t))) (i j : Nat) (hi : i < size) (hj : j < size) (_hsz : size < 4611686018427387904) :
    Calls Try.prog 29 #[.int .i64 i, .int .i64 j, .pointer (some ⟨Bs, 0, none⟩)] W fun e w' => e = .returned (.bool (Op.bytesLess (bs (G i)) (bs (G j)))) ∧ ∃ q, w' = W.drewN q := by
  have ci := hc i hi
  have cj := hc j hj
  go_enter Try.func29, Try.ntmps29
  go_wp2
  go_quiet (fail)
  go_wp2
  go_ret
  refine ⟨?_, nq, rfl⟩
  simp only [bs, ← ByteArray.toList_eq]
  rfl

theorem bl_eq : ∀ (x y : List UInt8), Op.bytesLess x y = decide (x < y)
  | _, [] => by simp [Op.bytesLess]
  | [], _ :: _ => by simp [Op.bytesLess]
  | a :: x, b :: y => by
    rw [Op.bytesLess, bl_eq x y, Bool.eq_iff_iff]
    simp [List.cons_lt_cons_iff]
def ltM (x y : IM) : Bool := Op.bytesLess (bs x.1) (bs y.1)
theorem swo_ltM : Go.Sort.SWO ltM where
  irrefl := fun x => by
    unfold ltM
    rw [bl_eq]
    exact decide_eq_false (List.lt_irrefl _)
  trans := fun x y z h1 h2 => by
    unfold ltM at *
    rw [bl_eq] at *
    exact decide_eq_true (List.lt_trans (of_decide_eq_true h1) (of_decide_eq_true h2))
  ntrans := fun x y z h1 h2 => by
    unfold ltM at *
    rw [bl_eq] at *
    have a1 := of_decide_eq_false h1
    have a2 := of_decide_eq_false h2
    refine decide_eq_false fun h => ?_
    rw [List.not_lt] at a1 a2
    exact absurd h (by rw [List.not_lt]; exact List.le_trans a2 a1)

theorem Try.t48 : ∃ i ie, Try.prog.info? 48 = some i ∧ i.desc = .slice 52 ∧ Try.prog.info? 52 = some ie ∧ ie.size = 2 ∧ ie.hasPointers = true ∧ ie.bytes = 32 := by
  have h1 : (Try.prog.info? 48).map (·.desc) = some (.slice 52) := by kernel_rfl
  have h2 : (Try.prog.info? 52).map (fun i => (i.size, i.hasPointers, i.bytes)) = some (2, true, 32) := by kernel_rfl
  obtain ⟨i, hi, hd⟩ := Option.map_eq_some_iff.1 h1
  obtain ⟨ie, hie, hd2⟩ := Option.map_eq_some_iff.1 h2
  simp only [Prod.mk.injEq] at hd2
  exact ⟨i, ie, hi, hd, hie, hd2.1, hd2.2.1, hd2.2.2⟩

open Go.Sort Go.Shelf Go.Lib in
theorem sort_members (blk off c Bs : Nat) (d : Array IM) (h2 : 2 ≤ d.size) (hsz : d.size < 4611686018427387904) (w : World) (hH : HoldsK encM 2 w blk off d) (hblk : blk < w.heap.size)
    (hBs : w.cell? ⟨Bs, 0, none⟩ = some (.slice (some ⟨blk, off, none⟩) d.size c)) (hB1 : Bs < w.heap.size) (hB2 : Bs ≠ blk) :
    Calls Try.prog 28 #[.iface 48 (.slice (some ⟨blk, off, none⟩) d.size c), .func (.func 29) #[] #[.pointer (some ⟨Bs, 0, none⟩)]] w fun e w' =>
      e = .returned (.tuple #[]) ∧ ∃ d' n os, PermIn 0 d.size d d' ∧ SortedIn ltM 0 d.size d' ∧ w' = grow (putRowK encM 2 (Sort.ahead w n) blk off d') os := by
  have hless : LessReadsK Try.prog 29 #[.pointer (some ⟨Bs, 0, none⟩)] encM 2 ltM blk off d.size w := by
    intro m os dk hs i j hi hj
    have e : sortWorldK encM 2 w blk off m dk os = putRowK encM 2 (grow (Sort.ahead w m) os) blk off dk := by
      unfold sortWorldK; rw [putRowK_grow _ _ (Sort.ahead w m) _ blk off _ hblk]
    have hHg : HoldsK encM 2 (grow (Sort.ahead w m) os) blk off d := holdsK_grow _ _ _ _ blk off d hblk (holdsK_ahead _ _ _ _ _ _ _ hH)
    refine less_any blk off c Bs d.size _ (fun t => dk[t]!.1) ?_ (fun t ht => ?_) i j hi hj (by omega)
    · rw [e, cell?_putRowK_other _ _ _ blk off dk _ (by exact hB2), cell?_grow _ _ _ (by exact hB1)]; exact hBs
    · rw [e]; exact ((holdsK_putRowK _ _ _ blk off d dk hHg hs).cell (i := t) (c := 0) (by omega) (by omega)).1
  obtain ⟨i, ie, hi, hd, hie, hs1, hp1, hb1⟩ := Try.t48
  have hk9 : swapperK d.size ie 25 = 9 := by
    have c : (d.size == 0) = false := beq_eq_false_iff_ne.2 (by omega)
    have c2 : (d.size == 1) = false := beq_eq_false_iff_ne.2 (by omega)
    simp [swapperK, hp1, hb1, c, c2]
  exact Any.sort_Slice_cells_sorted Try.laysGg6 48 52 i ie hi hd (by kernel_rfl) hie 25 (fun _ => by kernel_rfl) encM 2 (fun _ => rfl) hs1 (fun _ => by kernel_rfl)
    (fun x v hv => by simp [encM] at hv; rcases hv with rfl | rfl <;> rfl) ltM swo_ltM 29 _
    (enters_of Try.func29 (by kernel_rfl) rfl) blk off c d h2 hsz 61 (by rw [hk9]; kernel_rfl) false
    (fun args W => run_callFunc_extern Try.func61 (by kernel_rfl) (by kernel_rfl) (by kernel_rfl) (e := Extern.ReflectliteSwapper.swap false) (by kernel_rfl) args W) w hless hH hblk

def SortPost (W : World) (g : Nat) (ds : List IM) (e : Ending) (w' : World) : Prop :=
  e = .returned (.tuple #[]) ∧ ∃ ds2 : List IM, ds.Perm ds2 ∧ ds2.Pairwise (fun a b => ltM b a = false) ∧ (∃ cs1, w'.heap[g]? = some (.cells cs1 52 (0, 0)) ∧ ∀ (j : Nat) u, (ds2.flatMap encM)[j]? = some u → cs1[j]? = some u) ∧ W.grownBy w' (some g)
theorem encM_len (x : IM) : (encM x).length = 2 := rfl
theorem flatM_at (ds : List IM) (j : Nat) (hj : j < ds.length * 2) : (ds.flatMap encM)[j]? = some ((Go.Sort.flatK encM 2 ds.toArray)[j]!) := by
  have h1 : j / 2 < ds.length := by omega
  have h2 := fm2 encM encM_len ds (j / 2) ds[j / 2] (List.getElem?_eq_getElem h1) (j % 2) (Nat.mod_lt _ (by omega))
  rw [show j / 2 * 2 + j % 2 = j by omega] at h2
  rw [h2, Go.Sort.get_flatK encM 2 ds.toArray j (by simpa using hj)]
  have h3 : j % 2 < (encM ds[j / 2]).length := by rw [encM_len]; omega
  rw [List.getElem?_eq_getElem h3]
  simp [h1, h3]
theorem pair_of (ds : Array IM) (h : Go.Sort.SortedIn ltM 0 ds.size ds) : ds.toList.Pairwise (fun a b => ltM b a = false) := by
  rw [List.pairwise_iff_getElem]
  intro i j hi hj hij
  have := h i j (Nat.zero_le _) hij (by simpa using hj)
  have hi' : i < ds.size := by simpa using hi
  have hj' : j < ds.size := by simpa using hj
  rw [getElem!_pos ds i hi', getElem!_pos ds j hj'] at this
  simpa using this

open Go.Sort in
theorem sort_IM (W : World) (B g c : Nat) (ds : List IM) (h2 : 2 ≤ ds.length) (hsz : ds.length ≤ 100000) (cs0 : Array Value) (hrow : W.heap[g]? = some (.cells cs0 52 (0, 0))) (hcells : ∀ (j : Nat) u, (ds.flatMap encM)[j]? = some u → cs0[j]? = some u)
    (hBs : W.cell? ⟨B, 0, none⟩ = some (.slice (some ⟨g, 0, none⟩) ds.length c)) (hne : B ≠ g) :
    Calls Try.prog 28 #[.iface 48 (.slice (some ⟨g, 0, none⟩) ds.length c), .func (.func 29) #[] #[.pointer (some ⟨B, 0, none⟩)]] W (SortPost W g ds) := by
  have hg := (Array.getElem?_eq_some_iff.1 hrow).1
  have hH : HoldsK encM 2 W g 0 ds.toArray := by
    intro j hj
    rw [size_flatK, List.size_toArray] at hj
    have h1 := hcells j _ (flatM_at ds j hj)
    refine ⟨by rw [cell_of_row _ _ _ _ _ _ hrow, Nat.zero_add]; exact h1, by simp [World.frozen?, hrow]⟩
  have hs := sort_members g 0 c B ds.toArray (by simpa using h2) (by simp; omega) W hH hg (by simpa using hBs) (lt_of_cell hBs) hne
  simp only [List.size_toArray] at hs
  refine hs.mono ?_
  rintro e w' ⟨rfl, d', n, os, hp, hso, rfl⟩
  have hd : d'.size = ds.length := by have := hp.1; simpa using this
  have hperm : ds.Perm d'.toList := by
    have := hp.2.2
    simp only [Array.toList_extract] at this
    have e1 : List.take (ds.length - 0) (List.drop 0 d'.toList) = d'.toList := by
      rw [List.drop_zero, Nat.sub_zero, List.take_of_length_le (by simp [hd])]
    have e2 : List.take (ds.length - 0) (List.drop 0 ds.toArray.toList) = ds := by
      simp
    rw [List.extract_eq_take_drop, List.extract_eq_take_drop, e1, e2] at this
    exact this.symm
  have hput : (putRowK encM 2 (Sort.ahead W n) g 0 d').heap[g]? = some (.cells (putCells id 0 (flatK encM 2 d') cs0) 52 (0, 0)) := by
    simp only [putRowK, putRow, mapBlock, Sort.ahead, Array.getElem?_modify, if_true, hrow]
    rfl
  have hblk : (grow (putRowK encM 2 (Sort.ahead W n) g 0 d') os).heap[g]? = some (.cells (putCells id 0 (flatK encM 2 d') cs0) 52 (0, 0)) := by
    simp only [grow]
    rw [Array.getElem?_append_left (Array.getElem?_eq_some_iff.1 hput).1]
    exact hput
  refine ⟨rfl, d'.toList, hperm, pair_of d' (by rw [hd]; exact hso), ⟨_, hblk, fun j u hj => ?_⟩, ⟨rfl, rfl, rfl, ?_, fun k hk hkn => ?_⟩⟩
  · have hjl : j < d'.toList.length * 2 := by
      have := (List.getElem?_eq_some_iff.1 hj).1
      rw [show (d'.toList.flatMap encM).length = d'.toList.length * 2 from ?_] at this
      · exact this
      · induction d'.toList with
        | nil => rfl
        | cons x r ih => rw [List.flatMap_cons, List.length_append, ih, encM_len, List.length_cons]; omega
    have h1 := flatM_at d'.toList j hjl
    rw [hj] at h1
    have hHK := holdsK_putRowK encM 2 (Sort.ahead W n) g 0 ds.toArray d' (holdsK_ahead _ _ _ _ _ _ _ hH) (by simpa using hd)
    have h3 := (hHK j (by rw [size_flatK]; simpa using hjl)).1
    rw [cell_of_row _ g (0 + j) _ 52 (0, 0) hput, Nat.zero_add] at h3
    rw [h3, h1]
    simp
  · simp [grow, putRowK, putRow, mapBlock, Sort.ahead]
  · simp only [grow]
    have hk' : k < (putRowK encM 2 (Sort.ahead W n) g 0 d').heap.size := by simpa [putRowK, putRow, mapBlock, Sort.ahead] using hk
    rw [Array.getElem?_append_left hk']
    simp only [putRowK, putRow, mapBlock, Sort.ahead, Array.getElem?_modify]
    rw [if_neg (by intro e; exact hkn (by rw [e]))]

theorem below_growW (w : World) (os : Array Obj) : Below w.heap.size w (Go.Sort.grow w os) :=
  ⟨rfl, rfl, rfl, by simp [Go.Sort.grow], fun k hk => by
    simp only [Go.Sort.grow]
    rw [Array.getElem?_append_left hk]⟩
def TinyPost (W : World) (e : Ending) (w' : World) : Prop := e = .returned (.tuple #[]) ∧ Below W.heap.size W w'
theorem sort_tiny (p : Option Addr) (n c : Nat) (h1 : n ≤ 1) (lf : Fn) (la lb : Array Value) (w : World) :
    Calls Try.prog 28 #[.iface 48 (.slice p n c), .func lf la lb] w (TinyPost w) := by
  obtain ⟨i, ie, hi, hd, hie, hs1, hp1, hb1⟩ := Try.t48
  have key : ∀ f, Try.prog.funcs.findIdx? (·.name == "internal/reflectlite" ++ ".Swapper$" ++ toString (Lib.swapperK n ie 25)) = some f → Calls Try.prog 28 #[.iface 48 (.slice p n c), .func lf la lb] w (TinyPost w) := by
    intro f hf
    refine (Any.sort_Slice_tiny Try.laysGg6 48 52 i ie hi hd (by kernel_rfl) hie 25 (fun _ => by kernel_rfl) p n c h1 f hf lf la lb w).mono ?_
    rintro e w' ⟨rfl, os, rfl⟩
    exact ⟨rfl, below_growW w os⟩
  rcases Nat.lt_or_ge n 1 with h0 | h0
  · have : n = 0 := by omega
    subst this
    have hk : Lib.swapperK 0 ie 25 = 1 := by simp [Lib.swapperK]
    exact key 53 (by rw [hk]; kernel_rfl)
  · have : n = 1 := by omega
    subst this
    have hk : Lib.swapperK 1 ie 25 = 2 := by simp [Lib.swapperK]
    exact key 54 (by rw [hk]; kernel_rfl)

end Go.Proofs.Ytfaokggblllcmaa
