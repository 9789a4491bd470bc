/- The laws FnExactFlags and FnOrder, walked out of the contracts. -/
import Derived.Test.YtoegdojeajeoaaaDoorLawTag
import Derived.Test.YtoegdojeajeoaaaDoorClone
namespace Go.Proofs.YtoegdojeajeoaaaDoor
open Go.RowKit Go.Maps Go.WideMaps Go.Sort

set_option maxRecDepth 100000 in
set_option maxHeartbeats 1000000 in
theorem law_flags (n : Int) (a : Option Addr) (len c : Nat) (w : World) (h0 : 0 ≤ n) (h1 : n ≤ 255) (hv : BytesIn w (.slice a len c) len) (ht : Tab w) (hB : 4 ≤ w.heap.size) :
    Calls Tryd.prog 6 #[.int .u8 n, .slice a len c] w (Yes w) := by
  by_cases hbig : 2147483647 < len
  · go_enter Tryd.func6, Tryd.ntmps6
    go_wp2_with fail
    go_ret
    exact ⟨rfl, Below.refl _ _⟩
  · have HI := Lib.hid (items_in hv (by omega))
    clear hv
    go_enter Tryd.func6, Tryd.ntmps6
    go_wp2_with fail
    refine HI.out.mono ?_
    rintro e w0 ⟨v0, zs, rfl, hown0, hgood0, hb0⟩
    have hl0 := hgood0.2.2
    have HBa := Lib.hid (bare_any _ v0 zs w0 hown0 (by omega))
    have hgood := hgood0.bare
    generalize bare zs = xs at HBa hgood
    clear hown0 hgood0 hl0
    go_wp2_with fail
    refine HBa.out.mono ?_
    rintro e w1 ⟨v, rfl, hown, hb01⟩
    have hb1 := hb0.trans (hb01.mono hb0.size)
    have hl6 := hgood.2.2
    clear hb0 hb01
    go_wp2_with fail
    refine (name_any n w1 h0 h1).mono ?_
    rintro e w2 ⟨nm, rfl, hlow, hnl, hb2⟩
    have HN := Lib.hid hnl
    have hown2 := own_below hown hb2
    have hbb2 := hb1.trans (hb2.mono hb1.size)
    clear hown hb1 hb2 hnl
    go_wp2_with fail
    refine (tag_any _ v nm xs w2 hown2 (by omega) (good_short hgood) (Nat.le_trans (tag_length (by rw [HN.out]; omega) hgood) (by omega))).mono ?_
    rintro e w3 ⟨rfl, hb3⟩
    have hown3 := own_below hown2 hb3
    have hbb3 := hbb2.trans (hb3.mono hbb2.size)
    clear hown2 hb3 hbb2
    go_wp2_with fail
    refine (parsed_tag nm xs w3 hgood hlow (by rw [HN.out]; omega) (by rw [HN.out]; omega) (tab_below hbb3 hB ht) (Nat.le_trans hB hbb3.size)).mono ?_
    rintro e w4 ⟨o, rfl, hopt, hb4⟩
    have hown4 := own_below hown3 hb4
    have hbb4 := hbb3.trans (hb4.mono hbb3.size)
    clear hown3 hb4 hbb3
    go_wp2_with fail
    refine (options_any _ v xs w4 hown4 (by omega) (good_short hgood)).mono ?_
    rintro e w5 ⟨o2, rfl, hopt2, hb5⟩
    have hopt5 := own_below hopt hb5
    have hbb5 := hbb4.trans (hb5.mono hbb4.size)
    have HL := Lib.hid (opts_length xs)
    clear hown4 hb5 hbb4 hopt
    go_wp2_with fail
    refine (same_any (zs := opts xs) (by rw [HL.out]; exact hopt5) (by rw [HL.out]; exact hopt2) (by rw [HL.out]; omega)).mono ?_
    rintro e w6 ⟨rfl, hb6⟩
    have hbb6 := hbb5.trans (hb6.mono hbb5.size)
    clear hb6 hbb5 hopt5 hopt2
    go_wp2_with fail
    refine (sane_any w6 (tab_below hbb6 hB ht) (Nat.le_trans hB hbb6.size)).mono ?_
    rintro e w7 ⟨rfl, hb7⟩
    have hbb7 := hbb6.trans (hb7.mono hbb6.size)
    clear hb7 hbb6
    go_wp2_with fail
    go_ret
    exact ⟨rfl, hbb7⟩

set_option maxRecDepth 100000 in
set_option maxHeartbeats 1000000 in
theorem law_order (n : Int) (a : Option Addr) (len c : Nat) (w : World) (h0 : 0 ≤ n) (h1 : n ≤ 255) (hv : BytesIn w (.slice a len c) len) (ht : Tab w) (hB : 4 ≤ w.heap.size) :
    Calls Tryd.prog 7 #[.int .u8 n, .slice a len c] w (Yes w) := by
  by_cases hbig : 2147483647 < len
  · go_enter Tryd.func7, Tryd.ntmps7
    go_wp2_with fail
    go_ret
    exact ⟨rfl, Below.refl _ _⟩
  · have HI := Lib.hid (items_in hv (by omega))
    clear hv
    go_enter Tryd.func7, Tryd.ntmps7
    go_wp2_with fail
    refine HI.out.mono ?_
    rintro e w1 ⟨v, xs, rfl, hown, hgood, hb1⟩
    have hl6 := hgood.2.2
    have hgr := hgood.reverse
    have hor := opts_reverse xs
    have hlr : xs.reverse.length = xs.length := List.length_reverse
    obtain ⟨ys, HY⟩ : ∃ ys, Hid (ys = xs.reverse) := ⟨_, rfl⟩
    rw [← HY.out] at hgr hor hlr
    have HO := Lib.hid hor
    have HLr := Lib.hid hlr
    clear hor hlr
    go_wp2_with fail
    refine (name_any n w1 h0 h1).mono ?_
    rintro e w2 ⟨nm, rfl, hlow, hnl, hb2⟩
    have HN := Lib.hid hnl
    have hown2 := own_below hown hb2
    have hbb2 := hb1.trans (hb2.mono hb1.size)
    clear hown hb1 hb2 hnl
    go_wp2_with fail
    refine (tag_any _ v nm xs w2 hown2 (by omega) (good_short hgood) (Nat.le_trans (tag_length (by rw [HN.out]; omega) hgood) (by omega))).mono ?_
    rintro e w3 ⟨rfl, hb3⟩
    have hown3 := own_below hown2 hb3
    have hbb3 := hbb2.trans (hb3.mono hbb2.size)
    clear hown2 hb3 hbb2
    go_wp2_with fail
    refine (parsed_tag nm xs w3 hgood hlow (by rw [HN.out]; omega) (by rw [HN.out]; omega) (tab_below hbb3 hB ht) (Nat.le_trans hB hbb3.size)).mono ?_
    rintro e w4 ⟨o, rfl, hopt, hb4⟩
    have hown4 := own_below hown3 hb4
    have hbb4 := hbb3.trans (hb4.mono hbb3.size)
    clear hown3 hb4 hbb3
    go_wp2_with fail
    refine (turned_any _ v xs w4 hown4 (by omega)).mono ?_
    rintro e w5 ⟨v2, rfl, hrev, hb5⟩
    rw [← HY.out] at hrev
    have hopt5 := own_below hopt hb5
    have hbb5 := hbb4.trans (hb5.mono hbb4.size)
    clear hown4 hopt hb5 hbb4
    go_wp2_with fail
    refine (tag_any _ v2 nm ys w5 hrev (by rw [HLr.out]; omega) (good_short hgr) (Nat.le_trans (tag_length (by rw [HN.out]; omega) hgr) (by omega))).mono ?_
    rintro e w6 ⟨rfl, hb6⟩
    have hopt6 := own_below hopt5 hb6
    have hbb6 := hbb5.trans (hb6.mono hbb5.size)
    clear hrev hopt5 hb6 hbb5
    go_wp2_with fail
    refine (parsed_tag nm ys w6 hgr hlow (by rw [HN.out]; omega) (by rw [HN.out]; omega) (tab_below hbb6 hB ht) (Nat.le_trans hB hbb6.size)).mono ?_
    rintro e w7 ⟨o2, rfl, hopt2, hb7⟩
    rw [HLr.out, HO.out] at hopt2
    have hopt7 := own_below hopt6 hb7
    have hbb7 := hbb6.trans (hb7.mono hbb6.size)
    have HL := Lib.hid (opts_length xs)
    clear hopt6 hb7 hbb6
    go_wp2_with fail
    refine (same_any (zs := opts xs) (by rw [HL.out]; exact hopt7) (by rw [HL.out]; exact hopt2) (by rw [HL.out]; omega)).mono ?_
    rintro e w8 ⟨rfl, hb8⟩
    have hbb8 := hbb7.trans (hb8.mono hbb7.size)
    clear hb8 hbb7 hopt7 hopt2
    go_wp2_with fail
    refine (sane_any w8 (tab_below hbb8 hB ht) (Nat.le_trans hB hbb8.size)).mono ?_
    rintro e w9 ⟨rfl, hb9⟩
    have hbb9 := hbb8.trans (hb9.mono hbb8.size)
    clear hb9 hbb8
    go_wp2_with fail
    go_ret
    exact ⟨rfl, hbb9⟩
end Go.Proofs.YtoegdojeajeoaaaDoor
