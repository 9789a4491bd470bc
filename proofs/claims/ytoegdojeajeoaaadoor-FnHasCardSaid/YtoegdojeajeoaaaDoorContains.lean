/- slices.ContainsFunc over items, with the closure that asks for a key. -/
import Derived.Test.YtoegdojeajeoaaaDoorOptions
namespace Go.Proofs.YtoegdojeajeoaaaDoor
open Go.RowKit Go.Maps Go.WideMaps Go.Sort

set_option maxHeartbeats 400000 in
theorem pred_any (gx : Nat) (key : Bs) (w : World) (hg : gx < w.heap.size) (hc : w.cell? ⟨gx, 0, none⟩ = some (str key)) :
    PredBelow Tryd.prog 19 #[.pointer (some ⟨gx, 0, none⟩)] (fun x : It => .agg (cellsIt x).toArray) (fun x => x.1 == key) w := fun W x hb => by
  have hcW : W.cell? ⟨gx, 0, none⟩ = some (str key) := (hb.cell (p := ⟨gx, 0, none⟩) hg).trans hc
  have hgW : gx < W.heap.size := Nat.lt_of_lt_of_le hg hb.size
  have hne : gx ≠ W.heap.size := by omega
  obtain ⟨x1, x2⟩ := x
  show Calls Tryd.prog 19 #[.agg #[str x1, str x2], .pointer (some ⟨gx, 0, none⟩)] W fun e w' => e = .returned (.bool (x1 == key)) ∧ Below w.heap.size w w'
  go_enter Tryd.func19, Tryd.ntmps19
  go_wp2
  go_ret
  exact ⟨rfl, hb.alloc hb.size _⟩

set_option maxHeartbeats 400000 in
/-- No item. -/
theorem contains_none (f : Value) (w : World) : Calls Tryd.prog 18 #[.slice none 0 0, f] w fun e w' => e = .returned (.bool false) ∧ w' = w := by
  have h27 : Calls Tryd.prog 27 #[.slice none 0 0, f] w fun e w' => e = .returned (.int .i64 (-1)) ∧ w' = w := by
    go_enter Tryd.func27, Tryd.ntmps27
    go_wp2_with fail
    refine wp_loop_rounds 1 ?_
    rw [rounds_succ]
    go_wp2_with fail
    go_ret
    exact ⟨rfl, rfl⟩
  go_enter Tryd.func18, Tryd.ntmps18
  go_wp2_with fail
  refine h27.mono ?_
  rintro e w' ⟨rfl, rfl⟩
  go_wp2_with fail
  go_ret
  exact ⟨rfl, rfl⟩

/-- Cells of a slice of items, as the shelf's contracts ask for them. -/
theorem its_enc {w : World} {base g cap : Nat} {xs : List It} (h : OwnIts w base (.slice (some ⟨g, 0, none⟩) xs.length cap) xs) :
    ∀ j, j < xs.length → ∀ i v, (cellsIt xs[j]!)[i]? = some v → w.cell? ⟨g, 0 + j * 2 + i, none⟩ = some v := by
  intro j hj i v hv
  have hx : xs[j]? = some xs[j]! := by rw [List.getElem?_eq_getElem hj, getElem!_pos xs j hj]
  obtain ⟨g', cap', hs, _, _, h1, h2⟩ := its_cells h hx
  cases hs
  rw [Nat.zero_add]
  generalize xs[j]! = y at hv h1 h2
  match i, hv with
  | 0, hv => simp [cellsIt] at hv; rw [← hv]; exact h1
  | 1, hv => simp [cellsIt] at hv; rw [← hv]; exact h2
  | i + 2, hv => simp [cellsIt] at hv

/-- SLICES.CONTAINSFUNC with the closure of spec.Items. -/
theorem contains_any (base gx : Nat) (o : Value) (xs : List It) (key : Bs) (w : World) (hg : gx < w.heap.size) (hc : w.cell? ⟨gx, 0, none⟩ = some (str key)) (hown : OwnIts w base o xs) (hl : xs.length ≤ 100) :
    Calls Tryd.prog 18 #[o, .func (.func 19) #[] #[.pointer (some ⟨gx, 0, none⟩)]] w fun e w' => e = .returned (.bool (hasKey xs key)) ∧ Below w.heap.size w w' := by
  rcases hown.2 with ⟨rfl, h0⟩ | ⟨g, cap, cur, rfl, _, hb, _⟩
  · obtain rfl : xs = [] := List.length_eq_zero_iff.1 h0
    exact (contains_none _ w).mono fun e w' ⟨he, hw⟩ => ⟨he, hw ▸ Below.refl _ _⟩
  · have eg : ∀ args w, (callFunc 19 args).run Tryd.prog w = .ok (.enter 19 args) w := enters_of Tryd.func19 (by kernel_rfl) rfl
    have h := AnyQ.slices_ContainsFunc Tryd.lc18 2 Tryd.isAgg28 Tryd.sizeOf28 cellsIt (fun _ => rfl) (fun x => x.1 == key) 19 #[.pointer (some ⟨gx, 0, none⟩)] eg g 0 xs.length cap xs w
      (pred_any gx key w hg hc) (Nat.le_refl _) (by omega) (lt_of_block hb) (its_enc hown)
    rw [List.take_length] at h
    exact h
end Go.Proofs.YtoegdojeajeoaaaDoor
