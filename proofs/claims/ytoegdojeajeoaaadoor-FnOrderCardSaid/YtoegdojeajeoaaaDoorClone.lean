/- slices.Clone and slices.Reverse over items; spec.Turned and spec.Bare, walked. -/
import Derived.Test.YtoegdojeajeoaaaDoorItems
namespace Go.Proofs.YtoegdojeajeoaaaDoor
open Go.RowKit Go.Maps Go.WideMaps Go.Sort

/-- New items in a slice of the call's own. -/
def NewIts (w : World) (xs : List It) (e : Ending) (w' : World) : Prop := ∃ v', e = .returned v' ∧ OwnIts w' w.heap.size v' xs ∧ Below w.heap.size w w'

/-- SLICES.CLONE. -/
theorem clone_any (base : Nat) (v : Value) (xs : List It) (w : World) (hown : OwnIts w base v xs) (hl : xs.length ≤ 100) : Calls Tryd.prog 25 #[v] w (NewIts w xs) := by
  obtain ⟨i0, hi, hz0, hz1, hz2⟩ := info_parts Tryd.info28
  rcases hown.2 with ⟨rfl, h0⟩ | ⟨g, cap, cur, rfl, _, hb, h1, h2, h3, h4⟩
  · obtain rfl : xs = [] := List.length_eq_zero_iff.1 h0
    exact (AnyE.slices_Clone_nil Tryd.lc25 0 0 w).mono fun e w' ⟨he, hw⟩ => ⟨_, he, World.ownsRow_nil _ _ _ _, hw ▸ Below.refl _ _⟩
  · have h := AnyE.slices_Clone Tryd.lc25 i0 (.agg #[.string ⟨#[]⟩, .string ⟨#[]⟩]) 2 32 hi hz0 hz1 hz2 rfl (by decide) Tryd.sizeOf28 g 0 xs.length cap (cellsOf xs) w (cellsOf_length xs) (by unfold maxLen; omega) (by omega)
      (fun j u hj => by
        rw [Nat.zero_add]
        refine cell_in hb ?_
        rw [← h4] at hj
        have hj' : j < xs.length * 2 := by
          rw [h4] at hj
          have := (List.getElem?_eq_some_iff.1 hj).1
          rwa [cellsOf_length] at this
        rw [List.getElem?_take_of_lt hj', Array.getElem?_toList] at hj
        exact hj)
      (fun u hu => by
        obtain ⟨x, _, hx⟩ := List.mem_flatMap.1 hu
        simp [cellsIt] at hx
        rcases hx with rfl | rfl <;> rfl)
    exact h.mono fun e w' ⟨v', he, ho, _, hb'⟩ => ⟨v', he, ho, hb'⟩

/-! ### the items' cells, flat -/
theorem flat_eq (xs : List It) : flatK cellsIt 2 xs.toArray = (cellsOf xs).toArray := by
  apply Array.ext
  · simp [cellsOf_length]
  · intro t h1 h2
    have ht : t < xs.length * 2 := by simpa using h1
    have hk : t / 2 < xs.length := by omega
    obtain ⟨e1, e2⟩ := cellsOf_get xs (t / 2) xs[t / 2] (List.getElem?_eq_getElem hk)
    have hget : (flatK cellsIt 2 xs.toArray)[t] = (cellsIt xs[t / 2])[t % 2]! := by
      have := get_flatK cellsIt 2 xs.toArray t (by simpa using ht)
      rw [getElem!_pos _ t h1] at this
      rw [this]
      simp [hk]
    generalize xs[t / 2] = x at hget e1 e2
    rw [hget]
    have hc : (cellsOf xs)[t]? = some (cellsIt x)[t % 2]! := by
      rcases Nat.mod_two_eq_zero_or_one t with h | h
      · have e := show t / 2 * 2 = t by omega
        rw [e] at e1
        rw [h, e1]
        simp [cellsIt]
      · have e := show t / 2 * 2 + 1 = t by omega
        rw [e] at e2
        rw [h, e2]
        simp [cellsIt]
    have := (List.getElem?_eq_some_iff.1 hc).2
    simpa using this.symm

theorem holds_id {w : World} {g : Nat} {cur : Array Value} {e : TypeId} {L : List Value} (hb : w.heap[g]? = some (.cells cur e (0, 0))) (ht : cur.toList.take L.length = L) : Holds id w g 0 L.toArray := by
  intro j hj
  have hj' : j < L.length := by simpa using hj
  refine ⟨?_, free_in hb⟩
  rw [Nat.zero_add]
  refine cell_in hb ?_
  have h1 : (cur.toList.take L.length)[j]? = L[j]? := by rw [ht]
  rw [List.getElem?_take_of_lt hj', Array.getElem?_toList] at h1
  rw [h1, List.getElem?_eq_getElem hj']
  simp [hj']

theorem take_putId (cur : Array Value) (L : List Value) (h : L.length ≤ cur.size) : (putCells id 0 L.toArray cur).toList.take L.length = L := by
  apply List.ext_getElem?
  intro j
  by_cases hj : j < L.length
  · rw [List.getElem?_take_of_lt hj, Array.getElem?_toList]
    have hc : j < cur.size := by omega
    simp [putCells, hj, hc]
  · rw [List.getElem?_take_eq_none (by omega), List.getElem?_eq_none (by omega)]

theorem heap_putId {w : World} {g n : Nat} {cur : Array Value} {e : TypeId} {fr : Nat × Nat} (d : Array Value) (hb : w.heap[g]? = some (.cells cur e fr)) :
    (putRow id (Sort.ahead w n) g 0 d).heap[g]? = some (.cells (putCells id 0 d cur) e fr) := by
  simp [putRow, mapBlock, Sort.ahead, Array.getElem?_modify, hb, onCells]

/-- SLICES.REVERSE. -/
theorem reverse_any (base : Nat) (v : Value) (xs : List It) (w : World) (hown : OwnIts w base v xs) (hl : xs.length ≤ 100) :
    Calls Tryd.prog 26 #[v] w fun e w' => e = .returned (.tuple #[]) ∧ OwnIts w' base v xs.reverse ∧ w.grownBy w' v.ownBlock := by
  rcases hown.2 with ⟨rfl, h0⟩ | ⟨g, cap, cur, rfl, hbase, hb, h1, h2, h3, h4⟩
  · obtain rfl : xs = [] := List.length_eq_zero_iff.1 h0
    exact (AnyQ.slices_Reverse_empty Tryd.lr26 none 0 w).mono fun e w' ⟨he, hw⟩ => ⟨he, hw ▸ World.ownsRow_nil _ _ _ _, hw ▸ World.grownBy.refl _ _⟩
  · have hlen := cellsOf_length xs
    have hH : HoldsK cellsIt 2 w g 0 xs.toArray := by
      show Holds id w g 0 (flatK cellsIt 2 xs.toArray)
      rw [flat_eq]
      exact holds_id hb (by rw [hlen]; exact h4)
    have h := AnyQ.slices_Reverse Tryd.lr26 2 Tryd.isAgg28 Tryd.sizeOf28 cellsIt (fun _ => rfl) (fun x u hu => by simp [cellsIt] at hu; rcases hu with rfl | rfl <;> rfl) g 0 cap xs.toArray w hH (by simp; omega)
    rw [List.size_toArray] at h
    refine h.mono fun e w' ⟨he, n, hw⟩ => ?_
    have hw2 : w' = putRow id (Sort.ahead w n) g 0 (cellsOf xs.reverse).toArray := by
      rw [hw]
      show putRow id (Sort.ahead w n) g 0 (flatK cellsIt 2 xs.toArray.reverse) = _
      rw [List.reverse_toArray, flat_eq]
    subst hw2
    have hlr : (cellsOf xs.reverse).length = xs.length * 2 := by rw [cellsOf_length, List.length_reverse]
    refine ⟨he, ⟨cellsOf_length _, .inr ⟨g, cap, _, by rw [List.length_reverse], hbase, heap_putId _ hb, by rw [List.length_reverse]; exact h1, h2, by simp [putCells, h3], ?_⟩⟩, ?_⟩
    · rw [List.length_reverse, ← hlr]
      exact take_putId cur _ (by rw [hlr, h3]; omega)
    · refine ⟨rfl, rfl, rfl, by simp [putRow, mapBlock, Sort.ahead], fun k hk hne => ?_⟩
      have : g ≠ k := fun e => hne (by rw [← e]; rfl)
      simp [putRow, mapBlock, Sort.ahead, Array.getElem?_modify, this]

set_option maxHeartbeats 400000 in
/-- SPEC.TURNED. -/
theorem turned_any (base : Nat) (v : Value) (xs : List It) (w : World) (hown : OwnIts w base v xs) (hl : xs.length ≤ 100) : Calls Tryd.prog 17 #[v] w (NewIts w xs.reverse) := by
  have HC := Lib.hid (clone_any base v xs w hown hl)
  clear hown
  go_enter Tryd.func17, Tryd.ntmps17
  go_wp2_with fail
  refine HC.out.mono ?_
  rintro e w1 ⟨v1, rfl, hown1, hb1⟩
  have HR := Lib.hid (reverse_any w.heap.size v1 xs w1 hown1 hl)
  have hlt := hown1.lt
  have HL := Lib.hid hlt
  clear hown1 hlt
  go_wp2_with fail
  refine HR.out.mono ?_
  rintro e w2 ⟨rfl, hown2, hg2⟩
  have hend : NewIts w xs.reverse (.returned v1) w2 := ⟨v1, rfl, hown2, hb1.grown hg2 hb1.size (fun k e => (HL.out k e).1)⟩
  clear hown2 hg2 hb1
  go_wp2_with fail
  go_ret
  exact hend

/-- A value struck. -/
theorem cells_set (xs : List It) : ∀ k x, xs[k]? = some x → (cellsOf xs).set (k * 2 + 1) (str []) = cellsOf (xs.set k (x.1, [])) := by
  induction xs with
  | nil => intro k x h; simp at h
  | cons y xs ih =>
    intro k x h
    cases k with
    | zero => simp at h; subst h; simp [cellsOf_cons]
    | succ k =>
      have h' : xs[k]? = some x := by simpa using h
      have := ih k x h'
      rw [cellsOf_cons, List.set_cons_succ, show (k + 1) * 2 = (k * 2 + 1) + 1 by omega, List.set_cons_succ, List.set_cons_succ, cellsOf_cons, this]

/-- Items, the first k of which have lost their values. -/
def Struck (xs ys : List It) (k : Nat) : Prop := ys.length = xs.length ∧ ∀ j, ys[j]? = if j < k then (bare xs)[j]? else xs[j]?
theorem Struck.start (xs : List It) : Struck xs xs 0 := ⟨rfl, fun j => by simp⟩
theorem Struck.step {xs ys : List It} {k : Nat} {y : It} (h : Struck xs ys k) (hk : k < xs.length) (hy : ys[k]? = some y) : Struck xs (ys.set k (y.1, [])) (k + 1) := by
  refine ⟨by rw [List.length_set]; exact h.1, fun j => ?_⟩
  have hyk := h.2 k
  rw [hy, if_neg (Nat.lt_irrefl _)] at hyk
  rw [List.getElem?_set]
  by_cases e : k = j
  · subst e
    rw [if_pos rfl, if_pos (by rw [h.1]; exact hk), if_pos (Nat.lt_succ_self _)]
    simp [bare, ← hyk]
  · rw [if_neg e, h.2 j]
    by_cases hj : j < k
    · rw [if_pos hj, if_pos (by omega)]
    · rw [if_neg hj, if_neg (by omega)]
theorem Struck.done {xs ys : List It} (h : Struck xs ys xs.length) : ys = bare xs := by
  apply List.ext_getElem?
  intro j
  rw [h.2 j]
  by_cases hj : j < xs.length
  · rw [if_pos hj]
  · rw [if_neg hj, List.getElem?_eq_none (by omega), List.getElem?_eq_none (by simp [bare]; omega)]

set_option maxRecDepth 100000 in
set_option maxHeartbeats 400000 in
/-- SPEC.BARE. -/
theorem bare_any (base : Nat) (v : Value) (xs : List It) (w : World) (hown : OwnIts w base v xs) (hl : xs.length ≤ 100) : Calls Tryd.prog 16 #[v] w (NewIts w (bare xs)) := by
  have HC := Lib.hid (clone_any base v xs w hown hl)
  clear hown
  obtain ⟨B, HB⟩ : ∃ B, Hid (B = w.heap.size) := ⟨_, rfl⟩
  go_enter Tryd.func16, Tryd.ntmps16
  go_wp2_with fail
  refine HC.out.mono ?_
  rintro e w1 ⟨v1, rfl, hown1, hb1⟩
  obtain ⟨a, cap, rfl⟩ := its_shape hown1
  rw [← HB.out] at hown1
  go_wp2_with fail
  go_loopw [9] (fun i wr => ∃ (k : Nat) (ys : List It), k ≤ xs.length ∧ i = .int .i64 k ∧ wr.ownsRow B 28 2 (.slice a xs.length cap) xs.length (cellsOf ys) ∧ Struck xs ys k ∧ Below w.heap.size w wr) (fun i _ => xs.length - (intOf i).toNat)
  case atStart => exact ⟨0, xs, Nat.zero_le _, rfl, hown1, Struck.start xs, hb1⟩
  case round =>
    clear hown1 hb1
    obtain ⟨k, ys, hk, rfl, hrow, hst, hnx⟩ := hrel
    have HSt := Lib.hid hst
    clear hst
    by_cases hlt : k < xs.length
    · obtain ⟨y, hy⟩ : ∃ y, ys[k]? = some y := ⟨ys[k]'(by rw [HSt.out.1]; exact hlt), List.getElem?_eq_getElem _⟩
      have hown2 : OwnIts wr B (.slice a xs.length cap) ys := by
        show wr.ownsRow B 28 2 _ ys.length _
        rw [HSt.out.1]; exact hrow
      obtain ⟨g, cap', hv, hg, hgl, hc1, hc2⟩ := its_cells hown2 hy
      obtain ⟨rfl, _, _⟩ := Value.slice.inj hv
      have f2 := hrow.frozenAt (k * 2 + 1)
      obtain ⟨hrow2, hgr⟩ := hrow.stored (k * 2 + 1) (str [])
      rw [cells_set ys k y hy] at hrow2
      have hst2 := HSt.out.step hlt hy
      have HF := Lib.hid (show (wr.setCell ⟨g, k * 2 + 1, none⟩ (str [])).ownsRow B 28 2 (.slice (some ⟨g, 0, none⟩) xs.length cap) xs.length (cellsOf (ys.set k (y.1, []))) ∧ Struck xs (ys.set k (y.1, [])) (k + 1) ∧ Below w.heap.size w (wr.setCell ⟨g, k * 2 + 1, none⟩ (str [])) from
        ⟨hrow2, hst2, hnx.setCell (by rw [← HB.out]; exact hg) _⟩)
      clear hrow hrow2 hgr hst2 hown2 hy hc1 hv
      go_wp2_with fail
      go_roundw
      case rel => exact ⟨k + 1, _, by omega, by go_num, HF.out⟩
      case measure => simp [intOf]; omega
    · obtain rfl : k = xs.length := by omega
      have hend : NewIts w (bare xs) (.returned (.slice a xs.length cap)) wr := by
        have hys := HSt.out.done
        refine ⟨_, rfl, ?_, hnx⟩
        rw [← hys]
        show wr.ownsRow w.heap.size 28 2 _ ys.length _
        rw [HSt.out.1, ← HB.out]
        exact hrow
      clear hrow
      go_wp2_with fail
      go_ret
      exact hend
end Go.Proofs.YtoegdojeajeoaaaDoor
