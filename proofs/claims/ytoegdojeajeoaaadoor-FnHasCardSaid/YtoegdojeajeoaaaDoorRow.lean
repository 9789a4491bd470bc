/- A slice of items of the call's own: its cells; strings put together, as the walk reckons them. -/
import Derived.Test.YtoegdojeajeoaaaDoorSteps
import Derived.Test.YtoegdojeajeoaaaDoorParsed
namespace Go.Proofs.YtoegdojeajeoaaaDoor
open Go.RowKit Go.Maps Go.WideMaps

/-- An item's two cells; a list of items', one behind the other. -/
abbrev cellsIt (x : It) : List Value := [str x.1, str x.2]
def cellsOf (xs : List It) : List Value := xs.flatMap cellsIt

theorem cellsOf_nil : cellsOf [] = [] := rfl
theorem cellsOf_cons (x : It) (xs : List It) : cellsOf (x :: xs) = str x.1 :: str x.2 :: cellsOf xs := rfl
theorem cellsOf_append (xs ys : List It) : cellsOf (xs ++ ys) = cellsOf xs ++ cellsOf ys := by simp [cellsOf]
theorem cellsOf_length (xs : List It) : (cellsOf xs).length = xs.length * 2 := by
  induction xs with
  | nil => rfl
  | cons x xs ih => rw [cellsOf_cons]; simp [ih]; omega
theorem cellsOf_get (xs : List It) : ∀ k x, xs[k]? = some x → (cellsOf xs)[k * 2]? = some (str x.1) ∧ (cellsOf xs)[k * 2 + 1]? = some (str x.2) := by
  induction xs with
  | nil => intro k x h; simp at h
  | cons y xs ih =>
    intro k x h
    rw [cellsOf_cons]
    cases k with
    | zero => simp at h; subst h; simp
    | succ k =>
      have h' : xs[k]? = some x := by simpa using h
      obtain ⟨h1, h2⟩ := ih k x h'
      rw [show (k + 1) * 2 = (k * 2) + 1 + 1 by omega]
      simp only [List.getElem?_cons_succ]
      exact ⟨h1, h2⟩

/-- A SLICE OF ITEMS OF THE CALL's OWN. -/
abbrev OwnIts (w : World) (base : Nat) (v : Value) (xs : List It) : Prop := w.ownsRow base 28 2 v xs.length (cellsOf xs)

/-- The k-th item's cells. -/
theorem its_cells {w : World} {base : Nat} {v : Value} {xs : List It} (h : OwnIts w base v xs) {k : Nat} {x : It} (hx : xs[k]? = some x) :
    ∃ g cap, v = .slice (some ⟨g, 0, none⟩) xs.length cap ∧ base ≤ g ∧ g < w.heap.size ∧ w.cell? ⟨g, k * 2, none⟩ = some (str x.1) ∧ w.cell? ⟨g, k * 2 + 1, none⟩ = some (str x.2) := by
  have hk : k < xs.length := (List.getElem?_eq_some_iff.1 hx).1
  obtain ⟨h1, h2⟩ := cellsOf_get xs k x hx
  rcases h.2 with ⟨_, h0⟩ | ⟨g, cap, cur, hv, hg, hb, _, _, _, ht⟩
  · omega
  · refine ⟨g, cap, hv, hg, lt_of_block hb, cell_in hb ?_, cell_in hb ?_⟩
    · rw [← ht, List.getElem?_take_of_lt (by omega), Array.getElem?_toList] at h1
      exact h1
    · rw [← ht, List.getElem?_take_of_lt (by omega), Array.getElem?_toList] at h2
      exact h2

/-- What is owned stays owned while nothing that was there turns. -/
theorem own_below {w w' : World} {base e size n : Nat} {v : Value} {ks : List Value} (h : w.ownsRow base e size v n ks) (hb : Below w.heap.size w w') : w'.ownsRow base e size v n ks :=
  own_none h ⟨hb.os, hb.tape, hb.output, hb.size, fun k hk _ => hb.block k hk⟩
end Go.Proofs.YtoegdojeajeoaaaDoor
