/- spec.Options, walked. -/
import Derived.Test.YtoegdojeajeoaaaDoorRow
namespace Go.Proofs.YtoegdojeajeoaaaDoor
open Go.RowKit Go.Maps Go.WideMaps Go.Sort

/-- What spec.Options hands back. -/
def OptsAt (w : World) (xs : List It) (e : Ending) (w' : World) : Prop :=
  ∃ v, e = .returned v ∧ w'.ownsRow w.heap.size 9 1 v xs.length ((opts xs).map str) ∧ Below w.heap.size w w'

theorem its_shape {w : World} {base : Nat} {v : Value} {xs : List It} (h : OwnIts w base v xs) : ∃ a cap, v = .slice a xs.length cap := by
  rcases h.2 with ⟨hv, h0⟩ | ⟨g, cap, cur, hv, _⟩
  · exact ⟨none, 0, by rw [hv, h0]⟩
  · exact ⟨_, cap, hv⟩

theorem take_map_next {α : Type} (f : It → α) {xs : List It} {k : Nat} {x : It} (hx : xs[k]? = some x) : (xs.take (k + 1)).map f = (xs.take k).map f ++ [f x] := by
  obtain ⟨hk, he⟩ := List.getElem?_eq_some_iff.1 hx
  rw [List.take_succ_eq_append_getElem hk, List.map_append, he]
  rfl

/-- The one cell of a block laid behind another. -/
theorem cell_one_behind (w : World) (o : Obj) (v : Value) (t : TypeId) : ∀ j u, [v][j]? = some u → ((w.alloc o).alloc (.cells #[v] t)).cell? ((⟨w.heap.size + 1, 0, none⟩ : Addr).add j) = some u := by
  have hs : (w.alloc o).heap.size = w.heap.size + 1 := by simp
  have := cell_one_new (w.alloc o) v t
  rw [hs] at this
  exact this

set_option maxRecDepth 100000 in
set_option maxHeartbeats 1000000 in
theorem options_any (base : Nat) (v : Value) (xs : List It) (w : World) (hown : OwnIts w base v xs) (hl : xs.length ≤ 100) (hsh : ∀ x ∈ xs, x.1.length ≤ 100 ∧ x.2.length ≤ 100) :
    Calls Tryd.prog 15 #[v] w (OptsAt w xs) := by
  obtain ⟨i0, hi, hz0, hz1, hz2⟩ := info_parts Tryd.info9
  obtain ⟨a, cap, rfl⟩ := its_shape hown
  have HS := Lib.hid hsh
  clear hsh
  obtain ⟨B, HB⟩ : ∃ B, Hid (B = w.heap.size) := ⟨_, rfl⟩
  have hBw : B ≤ w.heap.size := by rw [HB.out]; exact Nat.le_refl _
  go_enter Tryd.func15, Tryd.ntmps15
  go_wp2_with fail
  go_loopw [3, 8] (fun o i wr => ∃ k : Nat, k ≤ xs.length ∧ i = .int .i64 k ∧ wr.ownsRow B 9 1 o k (((xs.take k).map opt).map str) ∧ Below w.heap.size w wr) (fun _ i _ => xs.length - (intOf i).toNat)
  case atStart => exact ⟨0, Nat.zero_le _, rfl, World.ownsRow_nil _ _ _ _, Below.refl _ _⟩
  case round =>
    obtain ⟨k, hk, rfl, hrow, hnx⟩ := hrel
    by_cases hlt : k < xs.length
    · obtain ⟨x, hx⟩ : ∃ x, xs[k]? = some x := ⟨xs[k], List.getElem?_eq_getElem hlt⟩
      obtain ⟨g, cap', hv, hg, hgl, hc1, hc2⟩ := its_cells hown hx
      cases hv
      have c1 := (hnx.cell (p := ⟨g, k * 2, none⟩) hgl).trans hc1
      have c2 := (hnx.cell (p := ⟨g, k * 2 + 1, none⟩) hgl).trans hc2
      obtain ⟨hl1, hl2⟩ := HS.out x (List.mem_of_getElem? hx)
      have HT := Lib.hid (take_map_next opt hx)
      obtain ⟨x1, x2⟩ := x
      simp only at hl1 hl2 c1 c2
      clear hc1 hc2 hx hg
      go_wp2_with (first
        | (at_builtin; go_must (refine wpList_append_own _ rfl _ _ 32 rfl B 9 i0 (.string ⟨#[]⟩) 1 16 Tryd.underlying32 hi hz0 hz1 hz2 rfl (by decide) _ _ _ rfl ((hrow.alloc (.cells #[str x1, str x2] 28)).alloc _) ⟨wr.heap.size + 1, 0, none⟩ 1 1 [Value.string ((⟨x1.toArray⟩ : ByteArray) ++ ⟨#[61]⟩ ++ ⟨x2.toArray⟩)] rfl rfl (cell_one_behind _ _ _ _) (by simp [Value.oneCell']) (by unfold maxLen; omega) (by omega) (by have := hnx.size; simp; omega) ?_); intro v' w4 hown4 hg4 _)
        | fail)
      have hg5 : ((wr.alloc (.cells #[str x1, str x2] 28)).alloc (.cells #[Value.string ((⟨x1.toArray⟩ : ByteArray) ++ ⟨#[61]⟩ ++ ⟨x2.toArray⟩)] 9)).grownBy w4 u3.ownBlock := hg4
      clear hg4
      have hBr : w.heap.size ≤ wr.heap.size := hnx.size
      have hbel := ((hnx.alloc hBr (.cells #[str x1, str x2] 28)).alloc (by simp; omega) (.cells #[Value.string ((⟨x1.toArray⟩ : ByteArray) ++ ⟨#[61]⟩ ++ ⟨x2.toArray⟩)] 9)).grown hg5 (by simp; omega) (fun q e => by have := (hrow.lt q e).1; rw [HB.out] at this; exact this)
      have HF := Lib.hid (show w4.ownsRow B 9 1 v' (k + 1) (((xs.take (k + 1)).map opt).map str) by rw [HT.out, List.map_append]; rw [opt_val] at hown4; exact hown4)
      clear hown4 hg5 hrow c1 c2
      go_wp2_with fail
      go_roundw
      case rel => exact ⟨k + 1, by omega, by go_num, HF.out, hbel⟩
      case measure => simp [intOf]; omega
    · obtain rfl : k = xs.length := by omega
      have HSo := Lib.hid (sort_own (base := B) (v := u3) (ss := xs.map opt) (w := wr) (by rw [List.take_length] at hrow; simpa using hrow) (by simp; omega))
      have hlt' := hrow.lt
      have HL := Lib.hid hlt'
      clear hrow hlt'
      go_wp2_with fail
      refine HSo.out.mono ?_
      rintro e w4 ⟨rfl, hown4, hg4⟩
      have hend : OptsAt w xs (.returned u3) w4 := by
        refine ⟨u3, rfl, ?_, hnx.grown hg4 hnx.size (fun q e => by have := (HL.out q e).1; rw [HB.out] at this; exact this)⟩
        rw [← HB.out]
        simpa [opts] using hown4
      clear hown4 hg4
      go_wp2_with fail
      go_ret
      exact hend
end Go.Proofs.YtoegdojeajeoaaaDoor
