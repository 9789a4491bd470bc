/- The law FnHas, walked out of the contracts. -/
import Derived.Test.YtoegdojeajeoaaaDoorLawTag
namespace Go.Proofs.YtoegdojeajeoaaaDoor
open Go.RowKit Go.Maps Go.WideMaps Go.Sort

/-- What impl.Has answers about a key at a tag's text. -/
def HasIs (T k : Bs) (r : Bool) : Prop := ∀ w : World, Tab w → 4 ≤ w.heap.size → Calls Tryd.prog 11 #[str T, str k] w fun e w' => e = .returned (.bool r) ∧ Below w.heap.size w w'

theorem hasKey_mem {xs : List It} {x : It} (h : x ∈ xs) : hasKey xs x.1 = true := List.any_eq_true.2 ⟨x, h, by simp⟩
theorem hasKey_next {xs : List It} {j : Nat} {x : It} (hx : xs[j]? = some x) (k : Bs) : hasKey (xs.take (j + 1)) k = (hasKey (xs.take j) k || (x.1 == k)) := by
  obtain ⟨hk, he⟩ := List.getElem?_eq_some_iff.1 hx
  unfold hasKey
  rw [List.take_succ_eq_append_getElem hk, List.any_append, he]
  simp

set_option maxRecDepth 100000 in
set_option maxHeartbeats 2000000 in
theorem law_has (n : Int) (a1 : Option Addr) (len1 k1 : Nat) (a2 : Option Addr) (len2 k2 : Nat) (w : World) (h0 : 0 ≤ n) (h1 : n ≤ 255) (hv1 : BytesIn w (.slice a1 len1 k1) len1) (hv2 : BytesIn w (.slice a2 len2 k2) len2) (ht : Tab w) (hB : 4 ≤ w.heap.size) :
    Calls Tryd.prog 3 #[.int .u8 n, .slice a1 len1 k1, .slice a2 len2 k2] w (Yes w) := by
  by_cases hbig1 : 2147483647 < len1
  · have g1 : decide ((2147483647 : Int) < (len1 : Int)) = true := by simp; omega
    go_enter Tryd.func3, Tryd.ntmps3
    go_wp2_with fail
    go_ret
    exact ⟨rfl, Below.refl _ _⟩
  · have g1 : decide ((2147483647 : Int) < (len1 : Int)) = false := by simp; omega
    by_cases hbig2 : 2147483647 < len2
    · have g2 : decide ((2147483647 : Int) < (len2 : Int)) = true := by simp; omega
      go_enter Tryd.func3, Tryd.ntmps3
      go_wp2_with fail
      go_ret
      exact ⟨rfl, Below.refl _ _⟩
    · have g2 : decide ((2147483647 : Int) < (len2 : Int)) = false := by simp; omega
      have HI1 := Lib.hid (items_in hv1 (by omega))
      have HV2 := Lib.hid hv2
      clear hv1 hv2
      go_enter Tryd.func3, Tryd.ntmps3
      go_wp2_with fail
      refine HI1.out.mono ?_
      rintro e w1 ⟨v1, xs, rfl, hown1, hgood, hb1⟩
      have hx6 := hgood.2.2
      have HI2 := Lib.hid (items_in (HV2.out.below hb1) (by omega))
      go_wp2_with fail
      refine HI2.out.mono ?_
      rintro e w2 ⟨v2, ys, rfl, hoy2, hgoody, hb2⟩
      have hy6 := hgoody.2.2
      have HY := Lib.hid (good_short hgoody)
      have hox2 := own_below hown1 hb2
      have hbb2 := hb1.trans (hb2.mono hb1.size)
      clear hown1 hb1 hb2 hgoody g1 g2 hbig1 hbig2
      go_wp2_with fail
      refine (name_any n w2 h0 h1).mono ?_
      rintro e w3 ⟨nm, rfl, hlow, hnl, hb3⟩
      have HN := Lib.hid hnl
      have hox3 := own_below hox2 hb3
      have hoy3 := own_below hoy2 hb3
      have hbb3 := hbb2.trans (hb3.mono hbb2.size)
      clear hox2 hoy2 hb3 hnl hbb2
      go_wp2_with fail
      refine (tag_any _ v1 nm xs w3 hox3 (by omega) (good_short hgood) (Nat.le_trans (tag_length (by rw [HN.out]; omega) hgood) (by omega))).mono ?_
      rintro e w4 ⟨rfl, hb4⟩
      have hox := own_below hox3 hb4
      have hoy := own_below hoy3 hb4
      have hbb := hbb3.trans (hb4.mono hbb3.size)
      have HH : Hid (∀ k : Bs, k.length ≤ 100 → HasIs (tagOf nm xs) k (hasKey xs k)) := fun k hk W hW hBW => has_tag nm xs k W hgood hlow (by rw [HN.out]; omega) (by rw [HN.out]; omega) hk hW hBW
      have HX := Lib.hid (good_short hgood)
      have hT : Hid (Tab w4) := tab_below hbb hB ht
      have hB4 : 4 ≤ w4.heap.size := Nat.le_trans hB hbb.size
      generalize tagOf nm xs = T at HH ⊢
      clear hox3 hoy3 hb4 hbb3 hgood hlow ht
      obtain ⟨a, cap, rfl⟩ := its_shape hox
      obtain ⟨a', cap', rfl⟩ := its_shape hoy
      go_wp2_with fail
      go_loopw [35] (fun i wr => ∃ k : Nat, k ≤ xs.length ∧ i = .int .i64 k ∧ Below w4.heap.size w4 wr) (fun i _ => xs.length - (intOf i).toNat)
      case atStart => exact ⟨0, Nat.zero_le _, rfl, Below.refl _ _⟩
      case round =>
        obtain ⟨k, hk, rfl, hnx⟩ := hrel
        by_cases hlt : k < xs.length
        · obtain ⟨x, hx⟩ : ∃ x, xs[k]? = some x := ⟨xs[k], List.getElem?_eq_getElem hlt⟩
          obtain ⟨g, cap2, hv, hg, hgl, hc1, hc2⟩ := its_cells hox hx
          cases hv
          have c1 := (hnx.cell (p := ⟨g, k * 2, none⟩) hgl).trans hc1
          have c2 := (hnx.cell (p := ⟨g, k * 2 + 1, none⟩) hgl).trans hc2
          have hmem := List.mem_of_getElem? hx
          have HK : Hid (HasIs T x.1 true) := by
            have := HH.out x.1 (HX.out x hmem).1
            rw [hasKey_mem hmem] at this
            exact this
          obtain ⟨x1, x2⟩ := x
          simp only at c1 c2
          clear hc1 hc2 hx hg hmem
          have hal := hnx.alloc hnx.size (.cells #[str x1, str x2] 28)
          have HT := Lib.hid (tab_below hal hB4 hT.out)
          go_wp2_with fail
          refine (HK.out _ HT.out (Nat.le_trans hB4 hal.size)).mono ?_
          rintro e w5 ⟨rfl, hb5⟩
          have hnx5 := hal.trans (hb5.mono hal.size)
          clear hal hb5 c1 c2 hnx
          go_wp2_with fail
          go_roundw
          case rel => exact ⟨k + 1, by omega, by go_num, hnx5⟩
          case measure => simp [intOf]; omega
        · obtain rfl : k = xs.length := by omega
          go_wp2_with fail
          obtain ⟨wa, rfl⟩ : ∃ wa : World, wa = wr := ⟨_, rfl⟩
          go_loopw [47] (fun i wr => ∃ k : Nat, k ≤ ys.length ∧ i = .int .i64 k ∧ Below w4.heap.size w4 wr) (fun i _ => ys.length - (intOf i).toNat)
          case atStart => exact ⟨0, Nat.zero_le _, rfl, hnx⟩
          case round =>
            clear hnx
            obtain ⟨k, hk, rfl, hnx⟩ := hrel
            by_cases hlt : k < ys.length
            · obtain ⟨y, hy⟩ : ∃ y, ys[k]? = some y := ⟨ys[k], List.getElem?_eq_getElem hlt⟩
              obtain ⟨g, cap2, hv, hg, hgl, hc1, hc2⟩ := its_cells hoy hy
              cases hv
              have c1 := (hnx.cell (p := ⟨g, k * 2, none⟩) hgl).trans hc1
              have c2 := (hnx.cell (p := ⟨g, k * 2 + 1, none⟩) hgl).trans hc2
              have HK := Lib.hid (HH.out y.1 (HY.out y (List.mem_of_getElem? hy)).1)
              obtain ⟨y1, y2⟩ := y
              simp only at c1 c2
              clear hc1 hc2 hy hg
              have hal := hnx.alloc hnx.size (.cells #[str y1, str y2] 28)
              obtain ⟨wo, rfl⟩ : ∃ wo : World, wo = wr := ⟨_, rfl⟩
              have hcy : (wo.alloc (.cells #[str y1, str y2] 28)).cell? ⟨wo.heap.size, 0, none⟩ = some (str y1) := cell_in (MapKept.heap_alloc wo _).1 rfl
              have hsz : wo.heap.size < (wo.alloc (.cells #[str y1, str y2] 28)).heap.size := by simp
              go_wp2_with fail
              go_loopw [14, 53] (fun f i wi => ∃ j : Nat, j ≤ xs.length ∧ i = .int .i64 j ∧ f = .bool (hasKey (xs.take j) y1) ∧ Below w4.heap.size w4 wi ∧ wi.cell? ⟨wo.heap.size, 0, none⟩ = some (str y1) ∧ wo.heap.size < wi.heap.size) (fun _ i _ => xs.length - (intOf i).toNat)
              case atStart => exact ⟨0, Nat.zero_le _, rfl, rfl, hal, hcy, hsz⟩
              case round =>
                clear hal hcy hsz c1 c2
                obtain ⟨j, hj, rfl, rfl, hni, hcy, hsz⟩ := hrel
                by_cases hjl : j < xs.length
                · obtain ⟨x, hx⟩ : ∃ x, xs[j]? = some x := ⟨xs[j], List.getElem?_eq_getElem hjl⟩
                  obtain ⟨g, cap2, hv, hg, hgl, hc1, hc2⟩ := its_cells hox hx
                  cases hv
                  have c1 := (hni.cell (p := ⟨g, j * 2, none⟩) hgl).trans hc1
                  have c2 := (hni.cell (p := ⟨g, j * 2 + 1, none⟩) hgl).trans hc2
                  have HX1 := Lib.hid (hasKey_next hx y1)
                  obtain ⟨x1, x2⟩ := x
                  simp only at c1 c2 HX1
                  clear hc1 hc2 hx hg
                  have hne : wo.heap.size ≠ wr.heap.size := by omega
                  have HA := Lib.hid (hni.alloc hni.size (.cells #[str x1, str x2] 28))
                  have HC : Hid ((wr.alloc (.cells #[str x1, str x2] 28)).cell? ⟨wo.heap.size, 0, none⟩ = some (str y1)) := by
                    rw [World.cell?_of_block (w := wr) (Below.heap_alloc _ _ _ (by exact hsz))]
                    exact hcy
                  have HS := Lib.hid (show wo.heap.size < (wr.alloc (.cells #[str x1, str x2] 28)).heap.size by simp; omega)
                  generalize hf : hasKey (xs.take j) y1 = f at HX1 ⊢
                  cases f with
                  | true =>
                    go_wp2_with fail
                    go_roundw
                    case rel => exact ⟨j + 1, by omega, by go_num, by rw [HX1.out]; rfl, HA.out, HC.out, HS.out⟩
                    case measure => simp [intOf]; omega
                  | false =>
                    go_wp2_with fail
                    go_roundw
                    case rel => exact ⟨j + 1, by omega, by go_num, by rw [HX1.out]; rfl, HA.out, HC.out, HS.out⟩
                    case measure => simp [intOf]; omega
                · obtain rfl : j = xs.length := by omega
                  rw [List.take_length]
                  generalize hasKey xs y1 = r at HK ⊢
                  have HT := Lib.hid (tab_below hni hB4 hT.out)
                  cases r with
                  | true =>
                    go_wp2_with fail
                    refine (HK.out _ HT.out (Nat.le_trans hB4 hni.size)).mono ?_
                    rintro e w5 ⟨rfl, hb5⟩
                    have hnx5 := hni.trans (hb5.mono hni.size)
                    clear hni hb5
                    go_wp2_with fail
                    go_roundw
                    case rel => exact ⟨k + 1, by omega, by go_num, hnx5⟩
                    case measure => simp [intOf]; omega
                  | false =>
                    go_wp2_with fail
                    refine (HK.out _ HT.out (Nat.le_trans hB4 hni.size)).mono ?_
                    rintro e w5 ⟨rfl, hb5⟩
                    have hnx5 := hni.trans (hb5.mono hni.size)
                    clear hni hb5
                    go_wp2_with fail
                    go_roundw
                    case rel => exact ⟨k + 1, by omega, by go_num, hnx5⟩
                    case measure => simp [intOf]; omega
            · obtain rfl : k = ys.length := by omega
              go_wp2_with fail
              refine (sane_any wr (tab_below hnx hB4 hT.out) (Nat.le_trans hB4 hnx.size)).mono ?_
              rintro e w7 ⟨rfl, hb7⟩
              have hend := hbb.trans ((hnx.trans (hb7.mono hnx.size)).mono hbb.size)
              clear hb7 hnx
              go_wp2_with fail
              go_ret
              exact ⟨rfl, hend⟩
end Go.Proofs.YtoegdojeajeoaaaDoor
