/- Contracts of the functions of this claim, proved once, joined out of smaller texts: L0. -/
import Derived.Test.YtleofgndghjflaaGreatDoorRows
import Derived.Test.YtleofgndghjflaaGreatDoorY1
import Derived.Test.YtleofgndghjflaaGreatDoorH0
import Derived.Deep.DeepHandedRow
import Derived.Deep.DeepWitnessRowRef
import Derived.Lib.LaidIn
import Derived.Lib.LaidU8
import Derived.Stop.LaidErr
import Derived.ProofKit
import Derived.PinnedBridge
set_option linter.unusedVariables false
set_option linter.unusedSimpArgs false
namespace Go.Proofs.YtleofgndghjflaaGreatDoor
open Go Go.RowKit Go.ChangeShapes Go.WideShapes Go.ChangeAt Go.Lib

theorem Tryz.own : ownKnob Tryz.prog.godebug = none := by kernel_rfl
theorem Tryz.star : "*" ++ "errors.errorString" = "*errors.errorString" := by decide
theorem Tryz.row201 (u : TypeId) (h : Tryz.prog.typeName? 3 u = some "*errors.errorString") : u = 201 :=
  typeName_ptr_named (nm := "errors.errorString") (by rw [Tryz.star]; kernel_rfl) (by kernel_rfl) (by decide) u (by rw [Tryz.star]; exact h)

/-- The list that all rows of this seat bear. -/
def theLaid : List (String × DataW Unit) := Rows.fnBagPropertyRow.laid

theorem boolTab (n : String) (g : Nat) (tab : List Bool) (w : World) (hg : Tryz.prog.globalNamed n = some g) (hty : (Tryz.prog.globals[g]?).map (·.type) = some 226) (hl : tab.length = 128)
    (h : VarReads Tryz.prog w n (.agg (tab.map fun b => .lit (.bool b)))) : ∀ i : Nat, i < 128 → w.cell? ⟨g, i, none⟩ = some (.bool (tab.getD i false)) := by
  intro i hi
  obtain ⟨g', t, cs, fuel, p, hg', hty', hvar, hd⟩ := h
  obtain rfl := Option.some.inj (hg.symm.trans hg')
  obtain rfl := Option.some.inj (hty.symm.trans hty')
  obtain ⟨fuel', d, q, hdi, he⟩ := array_elem Tryz.underlying226 hd i hi
  have hd2 : d = .lit (.bool (tab.getD i false)) := by
    rw [List.getElem?_map, List.getElem?_eq_getElem (by omega)] at hdi
    simp only [Option.map_some, Option.some.injEq] at hdi
    rw [← hdi, List.getD_eq_getElem?_getD, List.getElem?_eq_getElem (by omega)]
    rfl
  subst hd2
  obtain ⟨b, hb, hx⟩ := DataW.trod_bool Tryz.underlying4 he
  have hc := World.var?_cell hg hvar i
  rw [hc, ← Array.getElem?_toList]
  have c1 : Tryz.prog.cellsOf 4 = 1 := by kernel_rfl
  rw [c1, Nat.mul_one] at hb
  have h1 : cs.toList[i]? = some (.bool b) := by
    have := congrArg (·[0]?) hb
    simpa [List.getElem?_take, List.getElem?_drop] using this
  rw [h1]
  simp only [Prod.mk.injEq, DataW.lit.injEq, Lit.bool.injEq] at hx
  rw [hx.1]

theorem laid_err {n : String} {text : List UInt8} {W : World} {l r : List (String × DataW Unit)} {g : Nat} (h : laidMet Tryz.prog ((n, .iface "*errors.errorString" (.ptr (.agg [.lit (.string text)]))) :: r) W)
    (hg : Tryz.prog.globalNamed n = some g) (ht : (Tryz.prog.globals[g]?).map (·.type) = some 88) : ∃ a, W.cell? ⟨g, 0, none⟩ = some (.iface 201 (.pointer (some a))) := by
  obtain ⟨a0, t0, hv0, _⟩ := laid_sentinel h hg ht Tryz.underlying88 Tryz.row201 Tryz.underlying201 Tryz.underlying203 rfl rfl Tryz.underlying9 (by kernel_rfl) (by kernel_rfl)
  exact ⟨a0, by simpa using World.var?_cell hg hv0 0⟩

theorem reads_key {W : World} (h : laidMet Tryz.prog theLaid W) : VarReads Tryz.prog W "pub-sextary/pub/otel/baggage.safeKeyCharset" (.agg (keyTab.map fun b => .lit (.bool b))) := by
  have := laidMet.reads h (n := "pub-sextary/pub/otel/baggage.safeKeyCharset") (d := Rows.laid_pub_sextary_pub_otel_baggage_safeKeyCharset) (by simp [theLaid, Rows.fnBagPropertyRow])
  have e : (Rows.laid_pub_sextary_pub_otel_baggage_safeKeyCharset : DataW Unit) = .agg (keyTab.map fun b => .lit (.bool b)) := by kernel_rfl
  rw [e] at this
  exact this

theorem reads_val {W : World} (h : laidMet Tryz.prog theLaid W) : VarReads Tryz.prog W "pub-sextary/pub/otel/baggage.safeValueCharset" (.agg (valTab.map fun b => .lit (.bool b))) := by
  have := laidMet.reads h (n := "pub-sextary/pub/otel/baggage.safeValueCharset") (d := Rows.laid_pub_sextary_pub_otel_baggage_safeValueCharset) (by simp [theLaid, Rows.fnBagPropertyRow])
  have e : (Rows.laid_pub_sextary_pub_otel_baggage_safeValueCharset : DataW Unit) = .agg (valTab.map fun b => .lit (.bool b)) := by kernel_rfl
  rw [e] at this
  exact this
theorem reads_first {W : World} (h : laidMet Tryz.prog theLaid W) : VarReads Tryz.prog W "unicode/utf8.first" firstData := by
  have := laidMet.reads h (n := "unicode/utf8.first") (d := Rows.laid_unicode_utf8_first) (by simp [theLaid, Rows.fnBagPropertyRow])
  have e : (Rows.laid_unicode_utf8_first : DataW Unit) = firstData := Pinned.utf8First_eq
  rw [e] at this
  exact this
theorem reads_accept {W : World} (h : laidMet Tryz.prog theLaid W) : VarReads Tryz.prog W "unicode/utf8.acceptRanges" acceptData := by
  have := laidMet.reads h (n := "unicode/utf8.acceptRanges") (d := Rows.laid_unicode_utf8_acceptRanges) (by simp [theLaid, Rows.fnBagPropertyRow])
  have e : (Rows.laid_unicode_utf8_acceptRanges : DataW Unit) = acceptData := by kernel_rfl
  rw [e] at this
  exact this
theorem reads_white {W : World} (h : laidMet Tryz.prog theLaid W) : VarReads Tryz.prog W "unicode.White_Space" whiteData := by
  have := laidMet.reads h (n := "unicode.White_Space") (d := Rows.laid_unicode_White_Space) (by simp [theLaid, Rows.fnBagPropertyRow])
  have e : (Rows.laid_unicode_White_Space : DataW Unit) = whiteData := by kernel_rfl
  rw [e] at this
  exact this
theorem tab_space {W : World} (h : laidMet Tryz.prog theLaid W) : TabIs Tryz.prog W "strings.asciiSpace" .u8 asciiSpaceTab := by
  have h2 := h.tail.tail
  have e : (Rows.laid_strings_asciiSpace : DataW Unit) = tabData .u8 asciiSpaceTab := by kernel_rfl
  rw [e] at h2
  exact tabIs_of_head (g := 8) (by kernel_rfl) (by kernel_rfl) Tryz.underlying179 Tryz.underlying5 (by kernel_rfl) (by kernel_rfl) h2
theorem laid_of {W : World} (h : laidMet Tryz.prog theLaid W) : Laid W where
  key := boolTab _ 9 keyTab W (by kernel_rfl) (by kernel_rfl) rfl (reads_key h)
  val := boolTab _ 12 valTab W (by kernel_rfl) (by kernel_rfl) rfl (reads_val h)
  utf8 := utf8Tabs_of_reads (ρ := Tryz.lays197_ren) { Tryz.lays197 with } ⟨by kernel_rfl, by kernel_rfl, by kernel_rfl, by kernel_rfl, by kernel_rfl, by kernel_rfl, by kernel_rfl⟩ (reads_first h) (reads_accept h)
  space := tab_space h
  white := whiteTab_of_reads (ρ := Tryz.lays199_ren) { Tryz.lays199 with } ⟨by kernel_rfl, by kernel_rfl, by kernel_rfl, by kernel_rfl, by kernel_rfl, by kernel_rfl, by kernel_rfl, by kernel_rfl⟩ (reads_white h)
  errs := by
    intro g hg
    have h3 := h.tail.tail.tail
    rcases hg with rfl | rfl | rfl | rfl | rfl | rfl
    · exact laid_err (l := []) h3.tail.tail.tail.tail.tail (by kernel_rfl) (by kernel_rfl)
    · exact laid_err (l := []) h3.tail.tail.tail.tail (by kernel_rfl) (by kernel_rfl)
    · exact laid_err (l := []) h3.tail.tail.tail (by kernel_rfl) (by kernel_rfl)
    · exact laid_err (l := []) h3 (by kernel_rfl) (by kernel_rfl)
    · exact laid_err (l := []) h3.tail (by kernel_rfl) (by kernel_rfl)
    · exact laid_err (l := []) h3.tail.tail (by kernel_rfl) (by kernel_rfl)

/-- The world of the witness: the settled one with eight blocks more (the errors' structs; White_Space's table and its ranges), the listed variables holding what their initialisers lay. -/
noncomputable def laidWorld (os : Os) : World :=
  let N := (World.settled Tryz.prog os).heap.size
  let w0 := World.holding Tryz.prog os ⟨#[
    .cells #[.string ⟨#[105, 110, 118, 97, 108, 105, 100, 32, 107, 101, 121]⟩] 203,
    .cells #[.string ⟨#[105, 110, 118, 97, 108, 105, 100, 32, 118, 97, 108, 117, 101]⟩] 203,
    .cells #[.string ⟨#[105, 110, 118, 97, 108, 105, 100, 32, 98, 97, 103, 103, 97, 103, 101, 32, 108, 105, 115, 116, 45, 109, 101, 109, 98, 101, 114, 32, 112, 114, 111, 112, 101, 114, 116, 121]⟩] 203,
    .cells #[.string ⟨#[105, 110, 118, 97, 108, 105, 100, 32, 98, 97, 103, 103, 97, 103, 101, 32, 108, 105, 115, 116, 45, 109, 101, 109, 98, 101, 114]⟩] 203,
    .cells #[.string ⟨#[116, 111, 111, 32, 109, 97, 110, 121, 32, 108, 105, 115, 116, 45, 109, 101, 109, 98, 101, 114, 115, 32, 105, 110, 32, 98, 97, 103, 103, 97, 103, 101, 45, 115, 116, 114, 105, 110, 103]⟩] 203,
    .cells #[.string ⟨#[98, 97, 103, 103, 97, 103, 101, 45, 115, 116, 114, 105, 110, 103, 32, 116, 111, 111, 32, 108, 97, 114, 103, 101]⟩] 203,
    .cells (whiteT.map fun (z : Nat) => Value.int .u16 (z : Int)).toArray 270,
    .cells #[.slice (some ⟨N + 6, 0, none⟩) 7 7, .slice none 0 0, .int .i64 2] 267], #[], []⟩
  let put (h : Array Obj) (g : Nat) (cs : Array Value) : Array Obj := h.modify g fun
    | .cells _ t frozen => .cells cs t frozen
    | o => o
  let e (i : Nat) : Array Value := #[.iface 201 (.pointer (some ⟨N + i, 0, none⟩))]
  let h0 := put (put (put (put (put (put w0.heap 5 (e 0)) 6 (e 1)) 7 (e 2)) 2 (e 3)) 1 (e 4)) 0 (e 5)
  let h1 := put h0 3 (firstTab.map fun z => Value.int .u8 z).toArray
  let h2 := put h1 4 ((List.range 16).flatMap fun i => [Value.int .u8 (accLo i), Value.int .u8 (accHi i)]).toArray
  let h3 := put h2 8 (asciiSpaceTab.map fun z => Value.int .u8 z).toArray
  let h4 := put h3 9 (keyTab.map fun b => Value.bool b).toArray
  let h5 := put h4 12 (valTab.map fun b => Value.bool b).toArray
  let h6 := put h5 11 #[.pointer (some ⟨N + 7, 0, none⟩)]
  { w0 with heap := h6 }
noncomputable abbrev N0 : Nat := (World.settled Tryz.prog default).heap.size
theorem piece3 (os : Os) (args : Array Value) : LaidIn Tryz.prog ((laidWorld os).forCall (fun _ _ => 0) ⟨#[], args, []⟩).memory ((theLaid.drop 3).take 6) [5, 6, 7, 2, 1, 0, N0, N0 + 1, N0 + 2, N0 + 3, N0 + 4, N0 + 5] :=
  LaidIn.of_run [5, 6, 7, 2, 1, 0, N0, N0 + 1, N0 + 2, N0 + 3, N0 + 4, N0 + 5] 8 (by kernel_rfl) (by kernel_rfl) (by kernel_rfl) (by kernel_rfl)
set_option maxRecDepth 1000000 in
theorem piece9 (os : Os) (args : Array Value) : LaidIn Tryz.prog ((laidWorld os).forCall (fun _ _ => 0) ⟨#[], args, []⟩).memory ((theLaid.drop 9).take 1) [9] :=
  LaidIn.of_run [9] 8 (by kernel_rfl) (by kernel_rfl) (by kernel_rfl) (by kernel_rfl)
set_option maxRecDepth 1000000 in
theorem piece0 (os : Os) (args : Array Value) : LaidIn Tryz.prog ((laidWorld os).forCall (fun _ _ => 0) ⟨#[], args, []⟩).memory (theLaid.take 2) [4, 11, N0 + 6, N0 + 7] :=
  LaidIn.of_run [4, 11, N0 + 6, N0 + 7] 10 (by kernel_rfl) (by kernel_rfl) (by kernel_rfl) (by kernel_rfl)
set_option maxRecDepth 1000000 in
theorem piece10 (os : Os) (args : Array Value) : LaidIn Tryz.prog ((laidWorld os).forCall (fun _ _ => 0) ⟨#[], args, []⟩).memory ((theLaid.drop 10).take 1) [12] :=
  LaidIn.of_run [12] 8 (by kernel_rfl) (by kernel_rfl) (by kernel_rfl) (by kernel_rfl)
set_option maxRecDepth 1000000 in
theorem piece2 (os : Os) (args : Array Value) : LaidIn Tryz.prog ((laidWorld os).forCall (fun _ _ => 0) ⟨#[], args, []⟩).memory ((theLaid.drop 2).take 1) [8] :=
  LaidIn.of_run [8] 8 (by kernel_rfl) (by kernel_rfl) (by kernel_rfl) (by kernel_rfl)
set_option maxRecDepth 1000000 in
theorem piece11 (os : Os) (args : Array Value) : LaidIn Tryz.prog ((laidWorld os).forCall (fun _ _ => 0) ⟨#[], args, []⟩).memory (theLaid.drop 11) [3] :=
  LaidIn.of_run [3] 8 (by kernel_rfl) (by kernel_rfl) (by kernel_rfl) (by kernel_rfl)
theorem laid_met (os : Os) (args : Array Value) : laidMet Tryz.prog theLaid ((laidWorld os).forCall (fun _ _ => 0) ⟨#[], args, []⟩).memory :=
  ((((((piece0 os args).append (piece2 os args) (by kernel_rfl)).append (piece3 os args) (by kernel_rfl)).append (piece9 os args) (by kernel_rfl)).append (piece10 os args) (by kernel_rfl)).append (piece11 os args) (by kernel_rfl)).met
end Go.Proofs.YtleofgndghjflaaGreatDoor
