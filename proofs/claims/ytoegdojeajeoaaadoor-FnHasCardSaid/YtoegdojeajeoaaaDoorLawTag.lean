/- The laws FnExactTag and FnNameless, walked out of the contracts. -/
import Derived.Test.YtoegdojeajeoaaaDoorSane
import Derived.Test.YtoegdojeajeoaaaDoorItems
import Derived.Test.YtoegdojeajeoaaaDoorTag
namespace Go.Proofs.YtoegdojeajeoaaaDoor
open Go.RowKit Go.Maps Go.WideMaps Go.Sort

/-- A slice of n bytes that came in. -/
def BytesIn (w : World) (v : Value) (n : Nat) : Prop :=
  ∃ a c, v = .slice a n c ∧ (n = 0 ∨ ∃ (b off : Nat) (z : Nat → Int), a = some ⟨b, off, none⟩ ∧ b < w.heap.size ∧ (∀ j, j < n → w.cell? ⟨b, off + j, none⟩ = some (.int .u8 (z j))) ∧ ∀ j, j < n → 0 ≤ z j ∧ z j ≤ 255)

theorem BytesIn.below {w w' : World} {v : Value} {n : Nat} (h : BytesIn w v n) (hb : Below w.heap.size w w') : BytesIn w' v n := by
  obtain ⟨a, c, hv, h0 | ⟨b, off, z, ha, hbl, hc, hz⟩⟩ := h
  · exact ⟨a, c, hv, Or.inl h0⟩
  · exact ⟨a, c, hv, Or.inr ⟨b, off, z, ha, Nat.lt_of_lt_of_le hbl hb.size, fun j hj => (hb.cell (p := ⟨b, off + j, none⟩) hbl).trans (hc j hj), hz⟩⟩

theorem items_in {w : World} {v : Value} {n : Nat} (h : BytesIn w v n) (hn : n ≤ 140737488351232) : Calls Tryd.prog 8 #[v] w (ItemsAt w) := by
  obtain ⟨a, c, rfl, rfl | ⟨b, off, z, rfl, hbl, hc, hz⟩⟩ := h
  · exact items_none a c w
  · exact items_any b off n c z w hn hc hz hbl

/-- What a law leaves: true; nothing that was there has turned. -/
def Yes (w : World) (e : Ending) (w' : World) : Prop := e = .returned (.bool true) ∧ Below w.heap.size w w'

theorem good_short {xs : List It} (h : Good xs) : ∀ x ∈ xs, x.1.length ≤ 100 ∧ x.2.length ≤ 100 := fun x hx => by
  obtain ⟨_, _, h3, h4, h5⟩ := h.1 x hx
  exact ⟨by omega, by omega⟩

set_option maxRecDepth 100000 in
set_option maxHeartbeats 1000000 in
theorem law_tag (n : Int) (a : Option Addr) (len c : Nat) (w : World) (h0 : 0 ≤ n) (h1 : n ≤ 255) (hv : BytesIn w (.slice a len c) len) (ht : Tab w) (hB : 4 ≤ w.heap.size) :
    Calls Tryd.prog 4 #[.int .u8 n, .slice a len c] w (Yes w) := by
  by_cases hbig : 2147483647 < len
  · go_enter Tryd.func4, Tryd.ntmps4
    go_wp2_with fail
    go_ret
    exact ⟨rfl, Below.refl _ _⟩
  · have HI := Lib.hid (items_in hv (by omega))
    clear hv
    go_enter Tryd.func4, Tryd.ntmps4
    go_wp2_with fail
    refine HI.out.mono ?_
    rintro e w1 ⟨v, xs, rfl, hown, hgood, hb1⟩
    have hl6 := hgood.2.2
    go_wp2_with fail
    refine (name_any n w1 h0 h1).mono ?_
    rintro e w2 ⟨nm, rfl, hlow, hnl, hb2⟩
    have HN := Lib.hid hnl
    have hown2 := own_below hown hb2
    have hbb2 := hb1.trans (hb2.mono hb1.size)
    clear hown hb1 hb2 hnl
    go_wp2_with fail
    refine (tag_any _ v nm xs w2 hown2 (by omega) (good_short hgood) (Nat.le_trans (tag_length (by rw [HN.out]; omega) hgood) (by omega))).mono ?_
    rintro e w3 ⟨rfl, hb3⟩
    have hown3 := own_below hown2 hb3
    have hbb3 := hbb2.trans (hb3.mono hbb2.size)
    clear hown2 hb3 hbb2
    go_wp2_with fail
    refine (parsed_tag nm xs w3 hgood hlow (by rw [HN.out]; omega) (by rw [HN.out]; omega) (tab_below hbb3 hB ht) (Nat.le_trans hB hbb3.size)).mono ?_
    rintro e w4 ⟨o, rfl, hopt, hb4⟩
    have hown4 := own_below hown3 hb4
    have hbb4 := hbb3.trans (hb4.mono hbb3.size)
    clear hown3 hb4 hbb3
    go_wp2_with fail
    refine (options_any _ v xs w4 hown4 (by omega) (good_short hgood)).mono ?_
    rintro e w5 ⟨o2, rfl, hopt2, hb5⟩
    have hopt5 := own_below hopt hb5
    have hbb5 := hbb4.trans (hb5.mono hbb4.size)
    have HL := Lib.hid (opts_length xs)
    clear hown4 hb5 hbb4 hopt
    go_wp2_with fail
    refine (same_any (zs := opts xs) (by rw [HL.out]; exact hopt5) (by rw [HL.out]; exact hopt2) (by rw [HL.out]; omega)).mono ?_
    rintro e w6 ⟨rfl, hb6⟩
    have hbb6 := hbb5.trans (hb6.mono hbb5.size)
    clear hb6 hbb5 hopt5 hopt2
    go_wp2_with fail
    refine (sane_any w6 (tab_below hbb6 hB ht) (Nat.le_trans hB hbb6.size)).mono ?_
    rintro e w7 ⟨rfl, hb7⟩
    have hbb7 := hbb6.trans (hb7.mono hbb6.size)
    clear hb7 hbb6
    go_wp2_with fail
    go_ret
    exact ⟨rfl, hbb7⟩

/-- 's[1:]'. -/
theorem ext_tail (c : UInt8) (tl : Bs) : Value.string ((⟨(c :: tl).toArray⟩ : ByteArray).extract 1 (tl.length + 1)) = str tl := by
  have e : (⟨(c :: tl).toArray⟩ : ByteArray).extract 1 (tl.length + 1) = ⟨tl.toArray⟩ := by
    apply ByteArray.ext
    apply Array.toList_inj.1
    rw [Lib.extract_data]
    simp
  rw [e]

set_option maxRecDepth 100000 in
set_option maxHeartbeats 1000000 in
theorem law_nameless (a : Option Addr) (len c : Nat) (w : World) (hv : BytesIn w (.slice a len c) len) (ht : Tab w) (hB : 4 ≤ w.heap.size) :
    Calls Tryd.prog 5 #[.slice a len c] w (Yes w) := by
  by_cases hbig : 2147483647 < len
  · go_enter Tryd.func5, Tryd.ntmps5
    go_wp2_with fail
    go_ret
    exact ⟨rfl, Below.refl _ _⟩
  · have HI := Lib.hid (items_in hv (by omega))
    clear hv
    go_enter Tryd.func5, Tryd.ntmps5
    go_wp2_with fail
    refine HI.out.mono ?_
    rintro e w1 ⟨v, xs, rfl, hown, hgood, hb1⟩
    have hl6 := hgood.2.2
    have hsane : Hid (Calls Tryd.prog 12 #[] w1 (Yes w1)) := sane_any w1 (tab_below hb1 hB ht) (Nat.le_trans hB hb1.size)
    cases xs with
    | nil =>
      obtain ⟨a1, cap, rfl⟩ := its_shape hown
      go_wp2_with fail
      refine hsane.out.mono ?_
      rintro e w2 ⟨rfl, hb2⟩
      have hbb := hb1.trans (hb2.mono hb1.size)
      clear hb1 hb2
      go_wp2_with fail
      go_ret
      exact ⟨rfl, hbb⟩
    | cons x r =>
      obtain ⟨g, cap, hv, _, hgl, hc0, hc1⟩ := its_cells hown (k := 0) (x := x) rfl
      obtain ⟨m, hm, hm1⟩ : ∃ m : Nat, Hid (m = (x :: r).length) ∧ ((m : Int) == 0) = false := ⟨_, rfl, by simp; omega⟩
      rw [← hm.out] at hv
      subst hv
      have hm2 : 1 ≤ m := by rw [hm.out]; simp
      rw [Nat.zero_mul] at hc0 hc1
      rw [Nat.zero_add] at hc1
      by_cases hx2 : x.2 = []
      · have hc2 : w1.cell? ⟨g, 1, none⟩ = some (str []) := by rw [hc1, hx2]
        clear hc1 hx2
        go_wp2_with fail
        refine hsane.out.mono ?_
        rintro e w2 ⟨rfl, hb2⟩
        have hbb := hb1.trans (hb2.mono hb1.size)
        clear hb1 hb2
        go_wp2_with fail
        go_ret
        exact ⟨rfl, hbb⟩
      · obtain ⟨x1, x2⟩ := x
        have ne2 : x2.isEmpty = false := by cases x2 with | nil => exact absurd rfl hx2 | cons => rfl
        have hne3 : ¬ x2 = [] := hx2
        go_wp2_with fail
        have HX := Lib.hid hx2
        clear ne2 hne3 hx2
        refine (tag_any _ _ [] ((x1, x2) :: r) w1 hown (by omega) (good_short hgood) (Nat.le_trans (tag_length (by simp) hgood) (by omega))).mono ?_
        rintro e w3 ⟨rfl, hb3⟩
        have htg : tagOf [] ((x1, x2) :: r) = 44 :: (part (x1, x2) ++ rest r) := by simp [tagOf, rest_cons]
        rw [htg]
        generalize htl : part (x1, x2) ++ rest r = tl
        have HT := Lib.hid htl
        clear htg htl
        go_wp2_with fail
        rw [ext_tail]
        have hown3 := own_below hown hb3
        have hbb3 := hb1.trans (hb3.mono hb1.size)
        have hpt : Hid (Calls Tryd.prog 13 #[str tl] w3 (ParsedAt w3 [] ((x1, x2) :: r))) := by
          have := parsed_bare (x1, x2) r w3 hgood HX.out (tab_below hbb3 hB ht) (Nat.le_trans hB hbb3.size)
          rw [HT.out] at this
          exact this
        clear hown hb1 hb3 hc0 hc1
        refine hpt.out.mono ?_
        rintro e w4 ⟨o, rfl, hopt, hb4⟩
        have hown4 := own_below hown3 hb4
        have hbb4 := hbb3.trans (hb4.mono hbb3.size)
        clear hown3 hb4 hbb3
        go_wp2_with fail
        refine (options_any _ _ ((x1, x2) :: r) w4 hown4 (by omega) (good_short hgood)).mono ?_
        rintro e w5 ⟨o2, rfl, hopt2, hb5⟩
        have hopt5 := own_below hopt hb5
        have hbb5 := hbb4.trans (hb5.mono hbb4.size)
        have HL := Lib.hid (opts_length ((x1, x2) :: r))
        clear hown4 hb5 hbb4 hopt
        go_wp2_with fail
        refine (same_any (zs := opts ((x1, x2) :: r)) (by rw [HL.out]; exact hopt5) (by rw [HL.out]; exact hopt2) (by rw [HL.out]; omega)).mono ?_
        rintro e w6 ⟨rfl, hb6⟩
        have hbb6 := hbb5.trans (hb6.mono hbb5.size)
        clear hb6 hbb5 hopt5 hopt2
        go_wp2_with fail
        refine (sane_any w6 (tab_below hbb6 hB ht) (Nat.le_trans hB hbb6.size)).mono ?_
        rintro e w7 ⟨rfl, hb7⟩
        have hbb7 := hbb6.trans (hb7.mono hbb6.size)
        clear hb7 hbb6
        go_wp2_with fail
        go_ret
        exact ⟨rfl, hbb7⟩
end Go.Proofs.YtoegdojeajeoaaaDoor
