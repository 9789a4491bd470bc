/- spec.Tag, walked: the tag's text. -/
import Derived.Test.YtoegdojeajeoaaaDoorOptions
namespace Go.Proofs.YtoegdojeajeoaaaDoor
open Go.RowKit Go.Maps Go.WideMaps Go.Sort

/-- STRINGS.JOIN with commas, of a slice of the call's own. -/
theorem join_own {base : Nat} {v : Value} {ss : List Bs} {w : World} (h : w.ownsRow base 9 1 v ss.length (ss.map str)) (hn1 : 1 ≤ ss.length) (hn : ss.length ≤ 1000) (hl : (Lib.join ss [44]).length ≤ 10000) :
    Calls Tryd.prog 20 #[v, .string ⟨#[44]⟩] w fun e w' => e = .returned (str (Lib.join ss [44])) ∧ Below w.heap.size w w' := by
  rcases h.2 with ⟨_, h0⟩ | ⟨g, cap, cur, rfl, hbase, hb, h1, h2, h3, h4⟩
  · omega
  · have hmap : (ss.map fun s => (⟨s.toArray⟩ : ByteArray)).map (·.data.toList) = ss := by simp [Function.comp_def]
    have hj := Tryd.strings_Join g 0 cap (ss.map fun s => ⟨s.toArray⟩) ⟨#[44]⟩ w (fun j x hx => by
      have e : (cur.toList.take (ss.length * 1))[j]? = (ss.map str)[j]? := by rw [h4]
      have hj : j < ss.length := by have := (List.getElem?_eq_some_iff.1 hx).1; simpa using this
      rw [List.getElem?_take_of_lt (by omega), Array.getElem?_toList] at e
      rw [Nat.zero_add]
      refine cell_in hb ?_
      rw [e]
      simp only [List.getElem?_map, Option.map_eq_some_iff] at hx ⊢
      obtain ⟨s, hs, rfl⟩ := hx
      exact ⟨s, hs, rfl⟩) (lt_of_block hb) (by simp; omega) (by simpa using h1) (by rw [hmap]; show (Lib.join ss [44]).length ≤ _; omega)
    rw [hmap, List.length_map] at hj
    exact hj

theorem part_val_str (x1 x2 : Bs) (h : x2 ≠ []) : Value.string ((⟨x1.toArray⟩ : ByteArray) ++ ⟨#[58]⟩ ++ ⟨x2.toArray⟩) = str (part (x1, x2)) := by
  have e : ((⟨x1.toArray⟩ : ByteArray) ++ ⟨#[58]⟩ ++ ⟨x2.toArray⟩) = ⟨(part (x1, x2)).toArray⟩ := by
    apply ByteArray.ext
    simp [ByteArray.data_append, part, h]
  rw [e]

set_option maxRecDepth 100000 in
set_option maxHeartbeats 1000000 in
theorem tag_any (base : Nat) (v : Value) (name : Bs) (xs : List It) (w : World) (hown : OwnIts w base v xs) (hl : xs.length ≤ 100) (hsh : ∀ x ∈ xs, x.1.length ≤ 100 ∧ x.2.length ≤ 100) (htl : (tagOf name xs).length ≤ 10000) :
    Calls Tryd.prog 9 #[str name, v] w fun e w' => e = .returned (str (tagOf name xs)) ∧ Below w.heap.size w w' := by
  obtain ⟨i0, hi, hz0, hz1, hz2⟩ := info_parts Tryd.info9
  obtain ⟨a, cap, rfl⟩ := its_shape hown
  have HS := Lib.hid hsh
  clear hsh
  obtain ⟨tg, HTg⟩ : ∃ tg, Hid (tg = tagOf name xs) := ⟨_, rfl⟩
  rw [← HTg.out] at htl ⊢
  obtain ⟨B, HB⟩ : ∃ B, Hid (B = w.heap.size) := ⟨_, rfl⟩
  have hBw : B ≤ w.heap.size := by rw [HB.out]; exact Nat.le_refl _
  have hmade : (w.alloc (.cells #[str name] 9)).ownsRow B 9 1 (.slice (some ⟨w.heap.size, 0, none⟩) 1 1) (0 + 1) ([name].map str) := by
    exact ⟨rfl, .inr ⟨w.heap.size, 1, _, rfl, hBw, (MapKept.heap_alloc w _).1, Nat.le_refl _, by unfold maxLen; omega, rfl, rfl⟩⟩
  go_enter Tryd.func9, Tryd.ntmps9
  go_wp2_with fail
  go_loopw [5, 12] (fun o i wr => ∃ k : Nat, k ≤ xs.length ∧ i = .int .i64 k ∧ wr.ownsRow B 9 1 o (k + 1) ((name :: (xs.take k).map part).map str) ∧ Below w.heap.size w wr) (fun _ i _ => xs.length - (intOf i).toNat)
  case atStart => exact ⟨0, Nat.zero_le _, rfl, hmade, (Below.refl _ _).alloc (Nat.le_refl _) _⟩
  case round =>
    clear hmade
    obtain ⟨k, hk, rfl, hrow, hnx⟩ := hrel
    by_cases hlt : k < xs.length
    · obtain ⟨x, hx⟩ : ∃ x, xs[k]? = some x := ⟨xs[k], List.getElem?_eq_getElem hlt⟩
      obtain ⟨g, cap', hv, hg, hgl, hc1, hc2⟩ := its_cells hown hx
      cases hv
      have c1 := (hnx.cell (p := ⟨g, k * 2, none⟩) hgl).trans hc1
      have c2 := (hnx.cell (p := ⟨g, k * 2 + 1, none⟩) hgl).trans hc2
      obtain ⟨hl1, hl2⟩ := HS.out x (List.mem_of_getElem? hx)
      have HT := Lib.hid (take_map_next part hx)
      obtain ⟨x1, x2⟩ := x
      simp only at hl1 hl2 c1 c2
      clear hc1 hc2 hx hg
      have hBr : w.heap.size ≤ wr.heap.size := hnx.size
      by_cases hv2 : x2 = []
      · subst hv2
        go_wp2_with (first
          | (at_builtin; go_must (refine wpList_append_own _ rfl _ _ 32 rfl B 9 i0 (.string ⟨#[]⟩) 1 16 Tryd.underlying32 hi hz0 hz1 hz2 rfl (by decide) _ _ _ rfl ((hrow.alloc (.cells #[str x1, str []] 28)).alloc _) ⟨wr.heap.size + 1, 0, none⟩ 1 1 [str x1] rfl rfl (cell_one_behind _ _ _ _) (by simp [Value.oneCell']) (by unfold maxLen; omega) (by omega) (by have := hnx.size; simp; omega) ?_); intro v' w4 hown4 hg4 _)
          | fail)
        have hg5 : ((wr.alloc (.cells #[str x1, str []] 28)).alloc (.cells #[str x1] 9)).grownBy w4 u5.ownBlock := hg4
        clear hg4
        have hbel := ((hnx.alloc hBr (.cells #[str x1, str []] 28)).alloc (by simp; omega) (.cells #[str x1] 9)).grown hg5 (by simp; omega) (fun q e => by have := (hrow.lt q e).1; rw [HB.out] at this; exact this)
        have HF := Lib.hid (show w4.ownsRow B 9 1 v' (k + 1 + 1) ((name :: (xs.take (k + 1)).map part).map str) by
          rw [HT.out, ← List.cons_append, List.map_append, part_bare (x := (x1, [])) rfl]; exact hown4)
        clear hown4 hg5 hrow c1 c2
        go_wp2_with fail
        go_roundw
        case rel => exact ⟨k + 1, by omega, by go_num, HF.out, hbel⟩
        case measure => simp [intOf]; omega
      · have ne2 : x2.isEmpty = false := by cases x2 with | nil => exact absurd rfl hv2 | cons => rfl
        have HV := Lib.hid hv2
        go_wp2_with (first
          | (at_builtin; go_must (refine wpList_append_own _ rfl _ _ 32 rfl B 9 i0 (.string ⟨#[]⟩) 1 16 Tryd.underlying32 hi hz0 hz1 hz2 rfl (by decide) _ _ _ rfl ((hrow.alloc (.cells #[str x1, str x2] 28)).alloc _) ⟨wr.heap.size + 1, 0, none⟩ 1 1 [Value.string ((⟨x1.toArray⟩ : ByteArray) ++ ⟨#[58]⟩ ++ ⟨x2.toArray⟩)] rfl rfl (cell_one_behind _ _ _ _) (by simp [Value.oneCell']) (by unfold maxLen; omega) (by omega) (by have := hnx.size; simp; omega) ?_); intro v' w4 hown4 hg4 _)
          | fail)
        have hg5 : ((wr.alloc (.cells #[str x1, str x2] 28)).alloc (.cells #[Value.string ((⟨x1.toArray⟩ : ByteArray) ++ ⟨#[58]⟩ ++ ⟨x2.toArray⟩)] 9)).grownBy w4 u5.ownBlock := hg4
        clear hg4
        have hbel := ((hnx.alloc hBr (.cells #[str x1, str x2] 28)).alloc (by simp; omega) (.cells #[Value.string ((⟨x1.toArray⟩ : ByteArray) ++ ⟨#[58]⟩ ++ ⟨x2.toArray⟩)] 9)).grown hg5 (by simp; omega) (fun q e => by have := (hrow.lt q e).1; rw [HB.out] at this; exact this)
        have HF := Lib.hid (show w4.ownsRow B 9 1 v' (k + 1 + 1) ((name :: (xs.take (k + 1)).map part).map str) by
          rw [part_val_str x1 x2 HV.out] at hown4
          rw [HT.out, ← List.cons_append, List.map_append]; exact hown4)
        clear hown4 hg5 hrow c1 c2
        go_wp2_with fail
        go_roundw
        case rel => exact ⟨k + 1, by omega, by go_num, HF.out, hbel⟩
        case measure => simp [intOf]; omega
    · obtain rfl : k = xs.length := by omega
      have hj := join_own (base := B) (v := u5) (ss := name :: xs.map part) (w := wr) (by rw [List.take_length] at hrow; simpa using hrow) (by simp) (by simp; omega) (by rw [join_tag, ← HTg.out]; exact htl)
      rw [join_tag, ← HTg.out] at hj
      have HJ := Lib.hid hj
      clear hrow hj
      go_wp2_with fail
      refine HJ.out.mono ?_
      rintro e w4 ⟨rfl, hb4⟩
      have hend : Below w.heap.size w w4 := hnx.trans (hb4.mono hnx.size)
      clear hb4 hnx
      go_wp2_with fail
      go_ret
      exact ⟨rfl, hend⟩
end Go.Proofs.YtoegdojeajeoaaaDoor
