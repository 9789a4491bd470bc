/- spec.Items, walked: items with different keys, at most six, whatever the bytes. -/
import Derived.Test.YtoegdojeajeoaaaDoorContains
import Derived.Test.YtoegdojeajeoaaaDoorName
import Derived.BigRegion
import Derived.Deep.DeepCutAuto
namespace Go.Proofs.YtoegdojeajeoaaaDoor
open Go.RowKit Go.Maps Go.WideMaps Go.Sort

/-- A string of two numbers. -/
abbrev two (a b : Int) : Bs := [UInt8.ofNat a.toNat, UInt8.ofNat b.toNat]
theorem strOf_two (a b : Int) : strOfNums [a, b] = ⟨(two a b).toArray⟩ := rfl
theorem conv_two (w : World) (g : Nat) (a b : Int) (h0 : w.cell? ⟨g, 0, none⟩ = some (.int .u8 a)) (h1 : w.cell? ⟨g, 1, none⟩ = some (.int .u8 b)) :
    (convert 22 9 (.slice (some ⟨g, 0, none⟩) 2 2)).run Tryd.prog w = .ok (str (two a b)) w :=
  run_convert_bytes_arg w 22 5 Tryd.underlying22 Tryd.underlying5 g 0 2 2 [a, b] rfl (fun i hi => by
    rw [Nat.zero_add]
    match i, hi with
    | 0, _ => exact h0
    | 1, _ => exact h1) 9 Tryd.underlying9

/-- THE ITEM IN THE MAKING: its block, and what it holds. -/
def XAt (wr wx : World) (gx : Nat) (key val : Bs) : Prop :=
  Below wr.heap.size wr wx ∧ wr.heap.size ≤ gx ∧ wx.heap[gx]? = some (.cells #[str key, str val] 28 (0, 0)) ∧ Low key ∧ key.length = 2 ∧ Low val ∧ val.length ≤ 2

theorem low_two {a b : Int} (ha : 97 ≤ a ∧ a ≤ 122) (hb : 97 ≤ b ∧ b ≤ 122) : Low (two a b) := low_cons (low_ofInt _ ha.1 ha.2) (low_cons (low_ofInt _ hb.1 hb.2) low_nil)

theorem xAt_first (wr : World) (a b : Int) (t : Obj) (ha : 97 ≤ a ∧ a ≤ 122) (hb : 97 ≤ b ∧ b ≤ 122) : XAt wr ((wr.alloc (.cells #[str (two a b), str []] 28)).alloc t).drew wr.heap.size (two a b) [] := by
  have h1 := (MapKept.heap_alloc wr (.cells #[str (two a b), str []] 28)).1
  refine ⟨(((Below.refl _ _).alloc (Nat.le_refl _) _).alloc (by simp) _).drew, Nat.le_refl _, ?_, low_two ha hb, rfl, low_nil, by simp⟩
  show ((wr.alloc _).alloc t).heap[wr.heap.size]? = _
  rw [Below.heap_alloc _ _ _ (by simp)]
  exact h1
theorem xAt_second (wr : World) (a b : Int) (t : Obj) (ha : 97 ≤ a ∧ a ≤ 122) (hb : 97 ≤ b ∧ b ≤ 122) : XAt wr ((wr.alloc t).alloc (.cells #[str (two a b), str []] 28)).drew (wr.heap.size + 1) (two a b) [] := by
  have h1 := (MapKept.heap_alloc (wr.alloc t) (.cells #[str (two a b), str []] 28)).1
  refine ⟨(((Below.refl _ _).alloc (Nat.le_refl _) _).alloc (by simp) _).drew, Nat.le_succ _, ?_, low_two ha hb, rfl, low_nil, by simp⟩
  have e : (wr.alloc t).heap.size = wr.heap.size + 1 := by simp
  rw [e] at h1
  exact h1
/-- What a block of two cells laid ahead of another, or behind it, reads as. -/
theorem cell_ahead (w : World) (cs : Array Value) (t : TypeId) (o : Obj) (j : Nat) (v : Value) (hv : cs[j]? = some v) : (((w.alloc (.cells cs t)).alloc o).drew).cell? ⟨w.heap.size, j, none⟩ = some v := by
  have h1 := (MapKept.heap_alloc w (.cells cs t)).1
  show ((w.alloc (.cells cs t)).alloc o).cell? _ = _
  rw [World.cell?_of_block (w := w.alloc (.cells cs t)) (Below.heap_alloc _ _ _ (by simp))]
  exact cell_in h1 hv
theorem cell_after (w : World) (cs : Array Value) (t : TypeId) (o : Obj) (j : Nat) (v : Value) (hv : cs[j]? = some v) : (((w.alloc o).alloc (.cells cs t)).drew).cell? ⟨w.heap.size + 1, j, none⟩ = some v := by
  have h1 := (MapKept.heap_alloc (w.alloc o) (.cells cs t)).1
  have e : (w.alloc o).heap.size = w.heap.size + 1 := by simp
  rw [e] at h1
  exact cell_in h1 hv

theorem xAt_val {wr wc : World} {gx : Nat} {key val : Bs} (h : XAt wr wc gx key []) (t : Obj) (hv : Low val) (hl : val.length ≤ 2) : XAt wr ((wc.setCell ⟨gx, 1, none⟩ (str val)).alloc t).drew gx key val := by
  obtain ⟨h1, h2, h3, h4, h5, _, _⟩ := h
  have hs : (wc.setCell ⟨gx, 1, none⟩ (str val)).heap.size = wc.heap.size := by simp [World.setCell]
  refine ⟨((h1.setCell h2 _).alloc (by rw [hs]; exact h1.size) _).drew, h2, ?_, h4, h5, hv, hl⟩
  show ((wc.setCell ⟨gx, 1, none⟩ (str val)).alloc t).heap[gx]? = _
  rw [Below.heap_alloc _ _ _ (by rw [hs]; exact lt_of_block h3), set_in h3]
  rfl

/-- What spec.Items hands back: items with different keys, at most six, in a slice of its own. -/
def ItemsAt (w : World) (e : Ending) (w' : World) : Prop := ∃ v xs, e = .returned v ∧ OwnIts w' w.heap.size v xs ∧ Good xs ∧ Below w.heap.size w w'

theorem Tryd.info28 : (Tryd.prog.info? 28).map (fun i => (i.zero, i.size, i.bytes)) = some (some (.agg #[.string ⟨#[]⟩, .string ⟨#[]⟩]), 2, 32) := by kernel_rfl

theorem Good.snoc {xs : List It} {key val : Bs} (h : Good xs) (hk : hasKey xs key = false) (hl : xs.length < 6) (h1 : Low key) (h2 : key.length = 2) (h3 : Low val) (h4 : val.length ≤ 2) : Good (xs ++ [(key, val)]) := by
  refine ⟨fun x hx => ?_, ?_, by simp; omega⟩
  · rcases List.mem_append.1 hx with hx | hx
    · exact h.1 x hx
    · rw [List.mem_singleton.1 hx]
      exact ⟨h1, h3, by show 1 ≤ key.length; omega, by show key.length ≤ 3; omega, h4⟩
  · rw [List.map_append, List.nodup_append]
    refine ⟨h.2.1, by simp, fun a ha b hb e => ?_⟩
    simp at hb
    subst hb
    subst e
    obtain ⟨y, hy, he⟩ := List.mem_map.1 ha
    have : hasKey xs a = true := List.any_eq_true.2 ⟨y, hy, by simp [he]⟩
    rw [hk] at this
    cases this

theorem cell_two_new (w : World) (x y : Value) (t : TypeId) : ∀ j u, [x, y][j]? = some u → (w.alloc (.cells #[x, y] t)).cell? ((⟨w.heap.size, 0, none⟩ : Addr).add j) = some u := by
  intro j u hj
  match j, hj with
  | 0, hj => simp at hj; subst hj; simp [Addr.add]
  | 1, hj => simp at hj; subst hj; simp [Addr.add]
  | (j + 2), hj => simp at hj

set_option maxRecDepth 100000 in
set_option maxHeartbeats 2000000 in
theorem items_any (b off n c : Nat) (z : Nat → Int) (w : World) (hn : n ≤ 140737488351232) (hc : ∀ j, j < n → w.cell? ⟨b, off + j, none⟩ = some (.int .u8 (z j))) (hz : ∀ j, j < n → 0 ≤ z j ∧ z j ≤ 255) (hb : b < w.heap.size) :
    Calls Tryd.prog 8 #[.slice (some ⟨b, off, none⟩) n c] w (ItemsAt w) := by
  have HC := Lib.hid hc
  have HZ := Lib.hid hz
  clear hc hz
  obtain ⟨i0, hi, hz0, hz1, hz2⟩ := info_parts Tryd.info28
  obtain ⟨B, HB⟩ : ∃ B, Hid (B = w.heap.size) := ⟨_, rfl⟩
  have hBw : B ≤ w.heap.size := by rw [HB.out]; exact Nat.le_refl _
  go_enter Tryd.func8, Tryd.ntmps8
  go_wp2_with fail
  go_loopg [3, 4] (n + 3) (fun gk o i wr => ∃ (k : Nat) (xs : List It), k ≤ n + 2 ∧ n + 3 - k ≤ gk ∧ i = .int .i64 k ∧ OwnIts wr B o xs ∧ Good xs ∧ Below w.heap.size w wr)
  case atStart => exact ⟨0, [], by omega, by omega, rfl, World.ownsRow_nil _ _ _ _, ⟨by simp, by simp, by simp⟩, Below.refl _ _⟩
  case round =>
    obtain ⟨k, xs, hk, hgk, rfl, hrow, hgood, hnx⟩ := hrel
    have hlen := hgood.2.2
    obtain ⟨ao, co, ho⟩ := its_shape hrow
    subst ho
    have HG := Lib.hid hgood
    clear hgood
    by_cases hlt : k + 2 < n ∧ xs.length < 6
    · obtain ⟨hk2, hx6⟩ := hlt
      have c0 := (hnx.cell (p := ⟨b, off + k, none⟩) hb).trans (HC.out k (by omega))
      have c1 := (hnx.cell (p := ⟨b, off + (k + 1), none⟩) hb).trans (HC.out (k + 1) (by omega))
      have c2 := (hnx.cell (p := ⟨b, off + (k + 2), none⟩) hb).trans (HC.out (k + 2) (by omega))
      obtain ⟨z00, z01⟩ := HZ.out k (by omega)
      obtain ⟨z10, z11⟩ := HZ.out (k + 1) (by omega)
      obtain ⟨z20, z21⟩ := HZ.out (k + 2) (by omega)
      generalize z k = d0 at *
      generalize z (k + 1) = d1 at *
      generalize z (k + 2) = d2 at *
      have hbr : b < wr.heap.size := Nat.lt_of_lt_of_le hb hnx.size
      have c0a : ∀ o, (wr.alloc o).cell? ⟨b, off + k, none⟩ = some (.int .u8 d0) := fun o => by rw [World.cell?_of_block (w := wr) (Below.heap_alloc _ _ _ (by exact hbr))]; exact c0
      have cv1 := fun a b => conv_two ((wr.alloc (.cells #[.int .u8 a, .int .u8 b] 5)).drew) wr.heap.size a b (cell_in (MapKept.heap_alloc wr _).1 rfl) (cell_in (MapKept.heap_alloc wr _).1 rfl)
      have cv2 := fun a b => conv_two (((wr.alloc (.cells #[.int .u8 a, .int .u8 b] 5)).alloc (.cells #[str [], str []] 28)).drew) wr.heap.size a b (cell_ahead _ _ _ _ _ _ rfl) (cell_ahead _ _ _ _ _ _ rfl)
      have cv3 := fun a b => conv_two (((wr.alloc (.cells #[str [], str []] 28)).alloc (.cells #[.int .u8 a, .int .u8 b] 5)).drew) (wr.heap.size + 1) a b (cell_after _ _ _ _ _ _ rfl) (cell_after _ _ _ _ _ _ rfl)
      go_upto_region 5 with fail
      go_cut [5] (fun s5 wx => ∃ gx, s5 = .pointer (some ⟨gx, 0, none⟩) ∧ XAt wr wx gx (two (97 + d0 % 5) (97 + d0 / 5 % 5)) [])
      case first =>
        go_region
        all_goals (go_wp2_with fail; go_meet; first | exact ⟨_, rfl, xAt_first _ _ _ _ ⟨by omega, by omega⟩ ⟨by omega, by omega⟩⟩ | exact ⟨_, rfl, xAt_second _ _ _ _ ⟨by omega, by omega⟩ ⟨by omega, by omega⟩⟩)
      case rest =>
        clear cv1 cv2 cv3 c0a
        obtain ⟨gx, rfl, hx⟩ := hcut
        obtain ⟨key, hx⟩ : ∃ key, XAt wr wc gx key [] := ⟨_, hx⟩
        clear c0
        have c1c := (hx.1.cell (p := ⟨b, off + (k + 1), none⟩) hbr).trans c1
        have c2c := (hx.1.cell (p := ⟨b, off + (k + 2), none⟩) hbr).trans c2
        clear c1 c2
        go_upto_if 40 with fail
        go_cut [5] (fun s5 wx => ∃ gx val, s5 = .pointer (some ⟨gx, 0, none⟩) ∧ XAt wr wx gx key val)
        case first =>
          cases hpar : (d1 % 2 == 0) with
          | false =>
            go_wp2_with fail
            go_meet
            exact ⟨gx, [], rfl, hx⟩
          | true =>
            have HX := Lib.hid hx
            have x0 := cell_in (j := 0) hx.2.2.1 rfl
            have x1 := cell_in (j := 1) hx.2.2.1 rfl
            have f1 := free_in (j := 1) hx.2.2.1
            have hgx := lt_of_block hx.2.2.1
            have cv1 := fun a b => conv_two ((wc.alloc (.cells #[.int .u8 a, .int .u8 b] 5)).drew) wc.heap.size a b (cell_in (MapKept.heap_alloc wc _).1 rfl) (cell_in (MapKept.heap_alloc wc _).1 rfl)
            clear hx
            go_wp2_with fail
            go_region
            all_goals (go_wp2_with fail; go_meet; exact ⟨gx, _, rfl, xAt_val HX.out _ (low_two ⟨by omega, by omega⟩ ⟨by omega, by omega⟩) (Nat.le_refl _)⟩)
        case rest =>
          obtain ⟨gx, val, rfl, hx⟩ := hcut
          clear c1c c2c
          have hrow2 := own_below hrow hx.1
          have x0 := cell_in (j := 0) hx.2.2.1 rfl
          have x1 := cell_in (j := 1) hx.2.2.1 rfl
          have hgx := lt_of_block hx.2.2.1
          have HK := Lib.hid (contains_any B gx _ xs key wc hgx x0 hrow2 (by omega))
          have hbs : B ≤ wc.heap.size := Nat.le_trans (Nat.le_trans hBw hnx.size) hx.1.size
          have hnx2 := hnx.trans (hx.1.mono hnx.size)
          cases hh : hasKey xs key with
          | true =>
            rw [hh] at HK
            have HX := Lib.hid hx
            clear hx hrow
            go_wp2_with fail
            refine HK.out.mono ?_
            rintro e w3 ⟨rfl, hb3⟩
            have hrow3 := own_below hrow2 hb3
            have hnx3 := hnx2.trans (hb3.mono hnx2.size)
            clear hrow2 hb3 x0 x1
            go_wp2_with fail
            go_roundg (n + 3 - (k + 3))
            case measure => omega
            case rel => exact ⟨k + 3, xs, by omega, by omega, by go_num, hrow3, HG.out, hnx3⟩
          | false =>
            rw [hh] at HK
            have hgood2 := HG.out.snoc hh hx6 hx.2.2.2.1 hx.2.2.2.2.1 hx.2.2.2.2.2.1 hx.2.2.2.2.2.2
            have HG2 := Lib.hid hgood2
            have HX := Lib.hid hx
            clear hx hrow hgood2
            go_wp2_with fail
            refine HK.out.mono ?_
            rintro e w3 ⟨rfl, hb3⟩
            have hrow3 := own_below hrow2 hb3
            have hnx3 := hnx2.trans (hb3.mono hnx2.size)
            have y0 := (hb3.cell (p := ⟨gx, 0, none⟩) hgx).trans x0
            have y1 := (hb3.cell (p := ⟨gx, 1, none⟩) hgx).trans x1
            have hbs3 := Nat.le_trans hbs hb3.size
            clear hrow2 hb3 x0 x1
            go_wp2_with (first
              | (at_builtin; go_must (refine wpList_append_own _ rfl _ _ 23 rfl B 28 i0 (.agg #[.string ⟨#[]⟩, .string ⟨#[]⟩]) 2 32 Tryd.underlying23 hi hz0 hz1 hz2 rfl (by decide) _ _ _ rfl (hrow3.alloc _) ⟨w3.heap.size, 0, none⟩ 1 1 [str key, str val] rfl rfl (cell_two_new _ _ _ _) (by simp [Value.oneCell']) (by unfold maxLen; omega) (by omega) (by simp; omega) ?_); intro v' w4 hown4 hg4 _)
              | fail)
            have hg5 : (w3.alloc (.cells #[str key, str val] 28)).grownBy w4 (Value.slice ao xs.length co).ownBlock := hg4
            clear hg4
            have hrow4 : OwnIts w4 B v' (xs ++ [(key, val)]) := by
              show w4.ownsRow B 28 2 v' (xs ++ [(key, val)]).length (cellsOf (xs ++ [(key, val)]))
              rw [cellsOf_append, List.length_append]
              exact hown4
            have hbel := (hnx3.alloc hnx3.size (.cells #[str key, str val] 28)).grown hg5 (by have := hnx3.size; simp; omega) (fun q e => by have := (hrow3.lt q e).1; rw [HB.out] at this; exact this)
            go_roundg (n + 3 - (k + 3))
            case measure => omega
            case rel => exact ⟨k + 3, xs ++ [(key, val)], by omega, by omega, by go_num, hrow4, HG2.out, hbel⟩
    · have hend : ∀ wz : World, OwnIts wz B (.slice ao xs.length co) xs → Below w.heap.size w wz → ItemsAt w (.returned (.slice ao xs.length co)) wz :=
        fun wz h1 h2 => ⟨_, xs, rfl, by rw [← HB.out]; exact h1, HG.out, h2⟩
      have HE := Lib.hid hend
      clear hend
      by_cases hk2 : k + 2 < n
      · have h6 : ¬ ((xs.length : Int) < 6) := by omega
        clear hlt
        go_wp2_with fail
        go_ret
        exact HE.out _ hrow hnx
      · have h6 : decide ((k : Int) + 2 < (n : Int)) = false := by simp; omega
        clear hlt
        go_wp2_with fail
        go_ret
        exact HE.out _ hrow hnx

set_option maxRecDepth 100000 in
set_option maxHeartbeats 400000 in
/-- No byte. -/
theorem items_none (a : Option Addr) (c : Nat) (w : World) : Calls Tryd.prog 8 #[.slice a 0 c] w (ItemsAt w) := by
  have hend : ItemsAt w (.returned (.slice none 0 0)) w := ⟨_, [], rfl, World.ownsRow_nil _ _ _ _, ⟨by simp, by simp, by simp⟩, Below.refl _ _⟩
  go_enter Tryd.func8, Tryd.ntmps8
  go_wp2_with fail
  refine wp_loop_rounds 1 ?_
  rw [rounds_succ]
  go_wp2_with fail
  go_ret
  exact hend
end Go.Proofs.YtoegdojeajeoaaaDoor
