/- What the proofs of the five cards share: the listed variables in a witness world, the table of white space off the list, the arguments opened. -/
import Derived.Test.YtoegdojeajeoaaaDoorRows
import Derived.Test.YtoegdojeajeoaaaDoorLawTag
import Derived.ProofKit
import Derived.OpenShut
import Derived.Deep.DeepHandedRow
import Derived.Deep.DeepWitnessRowRef
import Derived.Deep.DeepLaidRun
import Derived.Lib.LaidTab
import Derived.Lib.LaidU8
namespace Go.Proofs.YtoegdojeajeoaaaDoor
open Go.ChangeShapes Go.WideShapes Go.ChangeAt Go.RowKit

theorem own : ownKnob Tryd.prog.godebug = none := by kernel_rfl
theorem laidOut : laidOutB Tryd.prog = true := by kernel_rfl
theorem gAcc : Tryd.prog.globalNamed "unicode/utf8.acceptRanges" = some 4 := by kernel_rfl
theorem yAscii : (Tryd.prog.globals[1]?).map (·.type) = some 104 := by kernel_rfl
theorem cells5 : Tryd.prog.cellsOf 5 = 1 := by kernel_rfl
theorem cells104 : Tryd.prog.cellsOf 104 = 256 := by kernel_rfl
theorem ascii_eq : (Rows.laid_strings_asciiSpace : DataW Unit) = Lib.tabData .u8 Lib.asciiSpaceTab := by kernel_rfl

/-- The four listed variables, as each row lists them. -/
abbrev listed : List (String × DataW Unit) := [("unicode/utf8.acceptRanges", Rows.laid_unicode_utf8_acceptRanges), ("unicode.White_Space", Rows.laid_unicode_White_Space), ("strings.asciiSpace", Rows.laid_strings_asciiSpace), ("unicode/utf8.first", Rows.laid_unicode_utf8_first)]

/-- WHAT THE LIST GIVES: the table of white space, and that the variables' blocks are there. -/
theorem tab_of_laid {W : World} (h : laidMet Tryd.prog listed W) : Tab W ∧ 4 ≤ W.heap.size := by
  constructor
  · obtain ⟨g, t, cs, fuel, p, hg, ht, hvar, hd⟩ := Lib.laidMet.reads h (.tail _ (.tail _ (.head _)))
    obtain rfl := Option.some.inj (gAscii.symm.trans hg)
    obtain rfl := Option.some.inj (yAscii.symm.trans ht)
    rw [ascii_eq] at hd
    show W.var? Tryd.prog "strings.asciiSpace" = _
    rw [hvar, ← Lib.cells_of_tab Tryd.underlying104 Tryd.underlying5 cells5 cells104 hd]
  · obtain ⟨g, t, cs, fuel, p, hg, ht, hvar, hd⟩ := Lib.laidMet.reads h (.head _)
    obtain rfl := Option.some.inj (gAcc.symm.trans hg)
    unfold World.var? at hvar
    rw [gAcc] at hvar
    simp only [Option.bind_some] at hvar
    rcases Nat.lt_or_ge 4 W.heap.size with h' | h'
    · omega
    · simp [Array.getElem?_eq_none h'] at hvar

/-- A WORLD FOR THE WITNESS: the settled one with two blocks more (the ranges of unicode.White_Space; its RangeTable), the four variables holding what their initialisers lay. -/
noncomputable def laidWorld (os : Os) : World :=
  let N := (World.settled Tryd.prog os).heap.size
  let w0 := World.holding Tryd.prog os ⟨#[.cells (Lib.whiteT.map fun (z : Nat) => Value.int .u16 (z : Int)).toArray 120, .cells #[.slice (some ⟨N, 0, none⟩) 7 7, .slice none 0 0, .int .i64 2] 117], #[], []⟩
  let put (h : Array Obj) (g : Nat) (cs : Array Value) : Array Obj := h.modify g fun
    | .cells _ t frozen => .cells cs t frozen
    | o => o
  { w0 with heap := put (put (put (put w0.heap 1 (Lib.asciiSpaceTab.map fun z => Value.int .u8 z).toArray) 3 (Lib.firstTab.map fun z => Value.int .u8 z).toArray)
      4 ((List.range 16).flatMap fun i => [Value.int .u8 (Lib.accLo i), Value.int .u8 (Lib.accHi i)]).toArray) 2 #[.pointer (some ⟨N + 1, 0, none⟩)] }
theorem laid_met (os : Os) (args : Array Value) : laidMet Tryd.prog listed ((laidWorld os).forCall (fun _ _ => 0) ⟨#[], args, []⟩).memory :=
  laidMet_of_run3 10 (by kernel_rfl) (by kernel_rfl) (by kernel_rfl)

/-- A slice of bytes that came in, opened. -/
theorem bytes_open {H : Type} {enc : TypeId × Value → H} {W : World} {base : Nat} {sp : Nat → Bool} {held : Bool} {a : Option Addr} {len cap : Nat} {d : DataW H} {p : List MemPlace}
    (h : DataW.Trod enc Tryd.prog W base sp held 22 (.slice a len cap) d p) : BytesIn W (.slice a len cap) len := by
  obtain ⟨fuel, hf⟩ := h
  rcases open_ints Tryd.underlying22 Tryd.underlying5 cells5 hf with ⟨hcs, _⟩ | ⟨x, l, c, zs, hcs, _, hl, hm, hz, _, hcell, hwz⟩
  · simp [Value.cells] at hcs
    obtain ⟨rfl, rfl, rfl⟩ := hcs
    exact ⟨_, _, rfl, Or.inl rfl⟩
  · simp [Value.cells] at hcs
    obtain ⟨rfl, rfl, rfl⟩ := hcs
    have hlen : len ≤ zs.length := by rw [hz]; split <;> omega
    by_cases h0 : len = 0
    · exact ⟨_, _, rfl, Or.inl h0⟩
    · obtain ⟨b, off, rfl, hc⟩ := ints_at hcell (by omega)
      refine ⟨_, _, rfl, Or.inr ⟨b, off, fun j => zs.getD j 0, rfl, ?_, fun j hj => hc j (by omega), fun j hj => ?_⟩⟩
      · have h1 := hc 0 (by omega)
        rcases Nat.lt_or_ge b W.heap.size with h' | h'
        · exact h'
        · simp [World.cell?, Array.getElem?_eq_none h'] at h1
      · have h1 := hwz (zs.getD j 0) (by rw [List.getD_eq_getElem?_getD, List.getElem?_eq_getElem (show j < zs.length by omega)]; exact List.getElem_mem _)
        exact bounds_u8 h1
end Go.Proofs.YtoegdojeajeoaaaDoor
