/- spec.Same on two slices of the call's own that hold the same strings: true. -/
import Derived.Test.YtoegdojeajeoaaaDoorOptions
namespace Go.Proofs.YtoegdojeajeoaaaDoor
open Go.RowKit Go.Maps Go.WideMaps Go.Sort

/-- A slice of strings of the call's own: its shape, its cells. -/
theorem strs_cells {w : World} {base : Nat} {v : Value} {zs : List Bs} (h : w.ownsRow base 9 1 v zs.length (zs.map str)) (hz : 1 ≤ zs.length) :
    ∃ g cap, v = .slice (some ⟨g, 0, none⟩) zs.length cap ∧ ∀ j, j < (zs.map fun s => (⟨s.toArray⟩ : ByteArray)).length → w.cell? ⟨g, 0 + j, none⟩ = some (.string ((zs.map fun s => (⟨s.toArray⟩ : ByteArray)).getD j ByteArray.empty)) := by
  rcases h.2 with ⟨_, h0⟩ | ⟨g, cap, cur, hv, _, hb, h1, h2, h3, h4⟩
  · omega
  · refine ⟨g, cap, hv, fun j hj => ?_⟩
    have hj' : j < zs.length := by simpa using hj
    have e : (cur.toList.take (zs.length * 1))[j]? = (zs.map str)[j]? := by rw [h4]
    rw [List.getElem?_take_of_lt (by omega), Array.getElem?_toList] at e
    rw [Nat.zero_add]
    refine cell_in hb ?_
    rw [e]
    simp [List.getD, List.getElem?_eq_getElem hj']

/-- A slice of no string: its shape. -/
theorem strs_empty {w : World} {base : Nat} {v : Value} (h : w.ownsRow base 9 1 v 0 []) : ∃ a cap, v = .slice a 0 cap := by
  rcases h.2 with ⟨hv, _⟩ | ⟨g, cap, cur, hv, _⟩
  · exact ⟨none, 0, hv⟩
  · exact ⟨_, cap, hv⟩

set_option maxHeartbeats 400000 in
theorem same_any {b1 b2 : Nat} {v u : Value} {zs : List Bs} {w : World} (h1 : w.ownsRow b1 9 1 v zs.length (zs.map str)) (h2 : w.ownsRow b2 9 1 u zs.length (zs.map str)) (hl : zs.length ≤ 1000) :
    Calls Tryd.prog 14 #[v, u] w fun e w' => e = .returned (.bool true) ∧ Below w.heap.size w w' := by
  have hE : Calls Tryd.prog 24 #[v, u] w fun e w' => e = .returned (.bool true) ∧ ∃ q, w' = w.drewN q := by
    by_cases hz : 1 ≤ zs.length
    · obtain ⟨g1, c1, rfl, hc1⟩ := strs_cells h1 hz
      obtain ⟨g2, c2, rfl, hc2⟩ := strs_cells h2 hz
      have := Tryd.slices_Equal_string g1 0 zs.length c1 g2 0 zs.length c2 (zs.map fun s => ⟨s.toArray⟩) (zs.map fun s => ⟨s.toArray⟩) w (by simp) (by simp) (by omega) (by omega) hc1 hc2
      simpa using this
    · obtain rfl : zs = [] := List.length_eq_zero_iff.1 (by omega)
      obtain ⟨a1, c1, rfl⟩ := strs_empty h1
      obtain ⟨a2, c2, rfl⟩ := strs_empty h2
      exact (Tryd.slices_Equal_string_empty a1 a2 c1 0 c2 w (by omega)).mono fun e w' hh => ⟨by simpa using hh.1, 0, hh.2⟩
  have HE := Lib.hid hE
  clear h1 h2 hE
  go_enter Tryd.func14, Tryd.ntmps14
  go_wp2_with fail
  refine HE.out.mono ?_
  rintro e w' ⟨rfl, q, rfl⟩
  go_wp2_with fail
  go_ret
  exact ⟨rfl, ⟨rfl, rfl, rfl, Nat.le_refl _, fun _ _ => rfl⟩⟩
end Go.Proofs.YtoegdojeajeoaaaDoor
