/- What is known of memory while a tag is read: the blocks of the tag's reader, the map of options; and how it is kept. No walk. -/
import Derived.Test.YtoegdojeajeoaaaDoorChecked
import Derived.Test.YtoegdojeajeoaaaDoorPlain
import Derived.WalkKit
import Derived.Deep.Draws
import Derived.Maps.OwnSet
import Derived.Maps.StringElems
namespace Go.Proofs.YtoegdojeajeoaaaDoor
open Go.RowKit Go.Maps

theorem law9 : Keyed Tryd.prog 9 := string_keyed Tryd.underlying9

/-- A string of these bytes. -/
abbrev str (l : Bs) : Value := .string ⟨l.toArray⟩
/-- A byte. -/
abbrev byt (c : UInt8) : Value := .int .u8 c.toNat

/-- THE OPTIONS' MAP: nil where there is no option; else a block of the call's own that reads as the options do. -/
def OM (B : Nat) (w : World) (m : Option Nat) (os : List It) : Prop :=
  match m with
  | none => os = []
  | some mb => B ≤ mb ∧ ∃ n, n ≤ os.length ∧ w.ownsMap Tryd.prog 9 (plainElem Tryd.prog 9) mb n (Dof os)

/-- THE READER OF A TAG IN MEMORY. T: the tag's reader; Pb: the reader of bytes; Bb: the bytes; l: the text; i: the place; then what is kept. -/
structure PS (w0 w : World) (B T Pb Bb cap : Nat) (l : Bs) (i : Nat) (nm : Bs) (m : Option Nat) (has : Bool) (key : Bs) (os : List It) : Prop where
  below : Below B w0 w
  hB : B ≤ w0.heap.size
  hT : B ≤ T
  hP : B ≤ Pb
  hBb : B ≤ Bb
  bbl : Bb < w.heap.size
  bt : w.heap[T]? = some (.cells #[.pointer (some ⟨Pb, 0, none⟩), str nm, .map m, .bool has, str key] 65 (0, 0))
  bp : w.heap[Pb]? = some (.cells #[.slice (some ⟨Bb, 0, none⟩) l.length cap, .int .i64 i] 91 (0, 0))
  bb : ∀ j, j < l.length → w.cell? ⟨Bb, j, none⟩ = some (byt (l.getD j 0))
  bne : Bb ≠ Pb ∧ Bb ≠ T
  bm : m ≠ some Bb
  om : OM B w m os

theorem cell_in {w : World} {b j : Nat} {cs : Array Value} {t : TypeId} {fr : Nat × Nat} {v : Value} (h : w.heap[b]? = some (.cells cs t fr)) (hv : cs[j]? = some v) : w.cell? ⟨b, j, none⟩ = some v := by simp [World.cell?, h, hv]
theorem free_in {w : World} {b j : Nat} {cs : Array Value} {t : TypeId} (h : w.heap[b]? = some (.cells cs t (0, 0))) : w.frozen? ⟨b, j, none⟩ = false := by simp [World.frozen?, h]
theorem set_in {w : World} {b j : Nat} {cs : Array Value} {t : TypeId} {fr : Nat × Nat} {u : Value} (h : w.heap[b]? = some (.cells cs t fr)) : (w.setCell ⟨b, j, none⟩ u).heap[b]? = some (.cells (cs.setIfInBounds j u) t fr) := by
  have hlt := lt_of_block h
  have h' : w.heap[b] = .cells cs t fr := by simpa [Array.getElem?_eq_getElem hlt] using h
  show (w.heap.modify b _)[b]? = _
  rw [Array.getElem?_eq_getElem (by simpa using hlt), Array.getElem_modify_self, h']
  rfl

section
variable {w0 w : World} {B T Pb Bb cap : Nat} {l : Bs} {i : Nat} {nm : Bs} {m : Option Nat} {has : Bool} {key : Bs} {os : List It}

theorem PS.Tl (h : PS w0 w B T Pb Bb cap l i nm m has key os) : T < w.heap.size := lt_of_block h.bt
theorem PS.Pl (h : PS w0 w B T Pb Bb cap l i nm m has key os) : Pb < w.heap.size := lt_of_block h.bp
theorem PS.TP (h : PS w0 w B T Pb Bb cap l i nm m has key os) : T ≠ Pb := fun e => by
  have h1 := h.bt; have h2 := h.bp
  rw [e, h2] at h1
  simp at h1
theorem PS.ml (h : PS w0 w B T Pb Bb cap l i nm m has key os) : ∀ mb, m = some mb → mb < w.heap.size := fun mb e => by
  subst e
  obtain ⟨_, n, _, ho⟩ := h.om
  exact ho.lt
theorem PS.mne (h : PS w0 w B T Pb Bb cap l i nm m has key os) : ∀ mb, m = some mb → mb ≠ T ∧ mb ≠ Pb := fun mb e => by
  subst e
  obtain ⟨_, n, _, es, clock, hb, _⟩ := h.om
  refine ⟨fun e => ?_, fun e => ?_⟩
  · subst e; rw [h.bt] at hb; cases hb
  · subst e; rw [h.bp] at hb; cases hb

theorem PS.c0 (h : PS w0 w B T Pb Bb cap l i nm m has key os) : w.cell? ⟨T, 0, none⟩ = some (.pointer (some ⟨Pb, 0, none⟩)) := cell_in h.bt rfl
theorem PS.c1 (h : PS w0 w B T Pb Bb cap l i nm m has key os) : w.cell? ⟨T, 1, none⟩ = some (str nm) := cell_in h.bt rfl
theorem PS.c2 (h : PS w0 w B T Pb Bb cap l i nm m has key os) : w.cell? ⟨T, 2, none⟩ = some (.map m) := cell_in h.bt rfl
theorem PS.c3 (h : PS w0 w B T Pb Bb cap l i nm m has key os) : w.cell? ⟨T, 3, none⟩ = some (.bool has) := cell_in h.bt rfl
theorem PS.c4 (h : PS w0 w B T Pb Bb cap l i nm m has key os) : w.cell? ⟨T, 4, none⟩ = some (str key) := cell_in h.bt rfl
theorem PS.f (h : PS w0 w B T Pb Bb cap l i nm m has key os) (j : Nat) : w.frozen? ⟨T, j, none⟩ = false := free_in h.bt
theorem PS.p0 (h : PS w0 w B T Pb Bb cap l i nm m has key os) : w.cell? ⟨Pb, 0, none⟩ = some (.slice (some ⟨Bb, 0, none⟩) l.length cap) := cell_in h.bp rfl
theorem PS.p1 (h : PS w0 w B T Pb Bb cap l i nm m has key os) : w.cell? ⟨Pb, 1, none⟩ = some (.int .i64 i) := cell_in h.bp rfl
theorem PS.fp (h : PS w0 w B T Pb Bb cap l i nm m has key os) (j : Nat) : w.frozen? ⟨Pb, j, none⟩ = false := free_in h.bp

/-- Draws turn nothing. -/
theorem PS.drewN (h : PS w0 w B T Pb Bb cap l i nm m has key os) (q : Nat) : PS w0 (w.drewN q) B T Pb Bb cap l i nm m has key os :=
  ⟨⟨h.below.os, h.below.tape, h.below.output, h.below.size, h.below.block⟩, h.hB, h.hT, h.hP, h.hBb, h.bbl, h.bt, h.bp, h.bb, h.bne, h.bm, h.om⟩
theorem PS.drew (h : PS w0 w B T Pb Bb cap l i nm m has key os) : PS w0 w.drew B T Pb Bb cap l i nm m has key os := h.drewN 1

theorem OM.kept {w' : World} {row : Option Nat} (h : OM B w m os) (hg : w.grownBy w' row) (hr : ∀ k, row = some k → m ≠ some k) : OM B w' m os := by
  cases m with
  | none => exact h
  | some mb =>
    obtain ⟨h1, n, h2, h3⟩ := h
    exact ⟨h1, n, h2, h3.kept hg (fun e => hr mb e.symm rfl)⟩

/-- Another block is written, new ones are laid. -/
theorem PS.grown {w' : World} {row : Option Nat} (h : PS w0 w B T Pb Bb cap l i nm m has key os) (hg : w.grownBy w' row) (hr : ∀ k, row = some k → B ≤ k ∧ k ≠ T ∧ k ≠ Pb ∧ k ≠ Bb ∧ m ≠ some k) : PS w0 w' B T Pb Bb cap l i nm m has key os := by
  have hBw : B ≤ w.heap.size := Nat.le_trans h.hB h.below.size
  have hblk : ∀ b, b < w.heap.size → (∀ k, row = some k → k ≠ b) → w'.heap[b]? = w.heap[b]? := fun b hb hne => hg.block b hb (fun e => hne b e.symm rfl)
  refine ⟨h.below.grown hg hBw (fun k e => (hr k e).1), h.hB, h.hT, h.hP, h.hBb, Nat.lt_of_lt_of_le h.bbl hg.size, ?_, ?_, ?_, h.bne, h.bm, h.om.kept hg (fun k e => (hr k e).2.2.2.2)⟩
  · rw [hblk T h.Tl (fun k e => (hr k e).2.1)]; exact h.bt
  · rw [hblk Pb h.Pl (fun k e => (hr k e).2.2.1)]; exact h.bp
  · intro j hj
    rw [World.cell?_of_block (w := w) (hblk Bb h.bbl (fun k e => (hr k e).2.2.2.1))]
    exact h.bb j hj

/-- .. where nothing that was there is written but a row above all of these. -/
theorem PS.grown_above {w' : World} {row : Option Nat} {base : Nat} (h : PS w0 w B T Pb Bb cap l i nm m has key os) (hg : w.grownBy w' row) (hr : ∀ k, row = some k → base ≤ k)
    (hT : T < base) (hP : Pb < base) (hBb : Bb < base) (hm : ∀ mb, m = some mb → mb < base) : PS w0 w' B T Pb Bb cap l i nm m has key os :=
  h.grown hg (fun k e => by
    have := hr k e
    have := h.hT
    refine ⟨by omega, by omega, by omega, by omega, fun e' => ?_⟩
    have := hm k e'
    omega)
theorem PS.new (h : PS w0 w B T Pb Bb cap l i nm m has key os) {w' : World} (hb : Below w.heap.size w w') : PS w0 w' B T Pb Bb cap l i nm m has key os :=
  h.grown (row := none) ⟨hb.os, hb.tape, hb.output, hb.size, fun k hk _ => hb.block k hk⟩ (fun k e => by cases e)
theorem PS.alloc (h : PS w0 w B T Pb Bb cap l i nm m has key os) (o : Obj) : PS w0 (w.alloc o) B T Pb Bb cap l i nm m has key os :=
  h.new ((Below.refl _ _).alloc (Nat.le_refl _) o)

theorem grownBy_setCell (w : World) (a : Addr) (u : Value) : w.grownBy (w.setCell a u) (some a.block) :=
  ⟨rfl, rfl, rfl, by simp [World.setCell], fun k _ hne => Below.heap_setCell _ _ _ _ (fun e => hne (by rw [e]))⟩

theorem OM.setCell {a : Addr} {u : Value} (h : OM B w m os) (ha : ∀ mb, m = some mb → mb ≠ a.block) : OM B (w.setCell a u) m os :=
  h.kept (grownBy_setCell w a u) (fun k e e' => by
    cases e
    exact ha _ e' rfl)

/-- THE PLACE GOES ON BY ONE. -/
theorem PS.next (h : PS w0 w B T Pb Bb cap l i nm m has key os) {i' : Nat} {z : Int} (hz : z = (i' : Int)) : PS w0 (w.setCell ⟨Pb, 1, none⟩ (.int .i64 z)) B T Pb Bb cap l i' nm m has key os := by
  subst hz
  refine ⟨h.below.setCell h.hP _, h.hB, h.hT, h.hP, h.hBb, by simpa [World.setCell] using h.bbl, ?_, ?_, ?_, h.bne, h.bm, h.om.setCell (fun mb e => (h.mne mb e).2)⟩
  · rw [Below.heap_setCell _ _ _ _ h.TP]; exact h.bt
  · rw [set_in h.bp]; rfl
  · intro j hj
    rw [World.cell?_of_block (w := w) (Below.heap_setCell _ _ _ _ h.bne.1)]
    exact h.bb j hj

/-- A field of the tag's reader is written. -/
theorem PS.field (h : PS w0 w B T Pb Bb cap l i nm m has key os) (j : Nat) (u : Value) {nm' : Bs} {has' : Bool} {key' : Bs}
    (he : (#[.pointer (some ⟨Pb, 0, none⟩), str nm, .map m, .bool has, str key] : Array Value).setIfInBounds j u = #[.pointer (some ⟨Pb, 0, none⟩), str nm', .map m, .bool has', str key']) :
    PS w0 (w.setCell ⟨T, j, none⟩ u) B T Pb Bb cap l i nm' m has' key' os := by
  refine ⟨h.below.setCell h.hT _, h.hB, h.hT, h.hP, h.hBb, by simpa [World.setCell] using h.bbl, ?_, ?_, ?_, h.bne, h.bm, h.om.setCell (fun mb e => (h.mne mb e).1)⟩
  · rw [set_in h.bt, he]
  · rw [Below.heap_setCell _ _ _ _ (Ne.symm h.TP)]; exact h.bp
  · intro k hk
    rw [World.cell?_of_block (w := w) (Below.heap_setCell _ _ _ _ h.bne.2)]
    exact h.bb k hk
theorem PS.setKey (h : PS w0 w B T Pb Bb cap l i nm m has key os) (key' : Bs) : PS w0 (w.setCell ⟨T, 4, none⟩ (str key')) B T Pb Bb cap l i nm m has key' os := h.field 4 _ rfl
theorem PS.setHas (h : PS w0 w B T Pb Bb cap l i nm m has key os) : PS w0 (w.setCell ⟨T, 3, none⟩ (.bool true)) B T Pb Bb cap l i nm m true key os := h.field 3 _ rfl
theorem PS.setName (h : PS w0 w B T Pb Bb cap l i nm m has key os) (nm' : Bs) : PS w0 (w.setCell ⟨T, 1, none⟩ (str nm')) B T Pb Bb cap l i nm' m has key os := h.field 1 _ rfl

/-- THE MAP IS MADE. -/
theorem PS.make (h : PS w0 w B T Pb Bb cap l i nm none has key os) : PS w0 ((w.setCell ⟨T, 2, none⟩ (.map (some w.heap.size))).alloc (.map #[] 0)) B T Pb Bb cap l i nm (some w.heap.size) has key os := by
  have hTl := h.Tl
  have hPl := h.Pl
  have hBw : B ≤ w.heap.size := Nat.le_trans h.hB h.below.size
  have hos : os = [] := h.om
  have hsz : (w.setCell ⟨T, 2, none⟩ (.map (some w.heap.size))).heap.size = w.heap.size := by simp [World.setCell]
  have hal : ∀ k, k < w.heap.size → ((w.setCell ⟨T, 2, none⟩ (.map (some w.heap.size))).alloc (.map #[] 0)).heap[k]? = (w.setCell ⟨T, 2, none⟩ (.map (some w.heap.size))).heap[k]? := fun k hk => Below.heap_alloc _ _ _ (by rw [hsz]; exact hk)
  refine ⟨(h.below.setCell h.hT _).alloc (by rw [hsz]; exact hBw) _, h.hB, h.hT, h.hP, h.hBb, ?_, ?_, ?_, ?_, h.bne, fun e => by have := h.bbl; cases e; omega, hBw, 0, Nat.zero_le _, ?_⟩
  · have := h.bbl
    simp
    omega
  · rw [hal T hTl, set_in h.bt]; rfl
  · rw [hal Pb hPl, Below.heap_setCell _ _ _ _ (Ne.symm h.TP)]; exact h.bp
  · intro k hk
    rw [World.cell?_of_block (w := w) ((hal Bb h.bbl).trans (Below.heap_setCell _ _ _ _ h.bne.2))]
    exact h.bb k hk
  · subst hos
    have := World.ownsMap_made (H := Unit) (w.setCell ⟨T, 2, none⟩ (.map (some w.heap.size))) Tryd.prog 9 (plainElem Tryd.prog 9)
    rw [hsz] at this
    exact this

/-- AN OPTION IS STORED. -/
theorem PS.put {mb n : Nat} {w' : World} {x : It} (h : PS w0 w B T Pb Bb cap l i nm (some mb) has key os) (hn : n ≤ os.length) (hown : w'.ownsMap Tryd.prog 9 (plainElem Tryd.prog 9) mb (n + 1) ((Dof os).put (.string x.1) (.lit (.string x.2))))
    (hg : w.grownBy w' (some mb)) : PS w0 w' B T Pb Bb cap l i nm (some mb) has key (os ++ [x]) := by
  have hBw : B ≤ w.heap.size := Nat.le_trans h.hB h.below.size
  have hmb := h.om.1
  have hne := h.mne mb rfl
  have hbne : mb ≠ Bb := fun e => h.bm (by rw [e])
  refine ⟨h.below.grown hg hBw (fun k e => by cases e; exact hmb), h.hB, h.hT, h.hP, h.hBb, Nat.lt_of_lt_of_le h.bbl hg.size, ?_, ?_, ?_, h.bne, h.bm, hmb, n + 1, by simp; omega, by rw [Dof_snoc]; exact hown⟩
  · rw [hg.block T h.Tl (fun e => hne.1 (Option.some.inj e).symm)]; exact h.bt
  · rw [hg.block Pb h.Pl (fun e => hne.2 (Option.some.inj e).symm)]; exact h.bp
  · intro j hj
    rw [World.cell?_of_block (w := w) (hg.block Bb h.bbl (fun e => hbne (Option.some.inj e).symm))]
    exact h.bb j hj
end
end Go.Proofs.YtoegdojeajeoaaaDoor
