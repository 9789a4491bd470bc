/- parseValue, walked: it reads an item's value; parseKey comes in by its contract. Then both, for every list of items. -/
import Derived.Test.YtoegdojeajeoaaaDoorKey
import Derived.StillTailTactics
namespace Go.Proofs.YtoegdojeajeoaaaDoor
open Go.RowKit Go.Maps Go.WideMaps

set_option maxRecDepth 100000 in
set_option maxHeartbeats 2000000 in
theorem val_step (x : It) (xs : List It) (hrec : ∀ y ys, xs = y :: ys → PKs y ys) : PVs x xs := by
  intro w0 w B T Pb Bb cap i l nm m has os h0 ht hB hok hl hos hv0 hd
  obtain ⟨i0, hi, hz0, hz1, hz2⟩ := info_parts Tryd.info5
  obtain ⟨hx1, hx2, hx3, hx4, hx5⟩ := hok x List.mem_cons_self
  have hv1 : 1 ≤ x.2.length := by rcases h : x.2 with _ | ⟨a, r⟩; exact absurd h hv0; simp
  have HD := Lib.hid hd
  have HR := Lib.hid hrec
  have HO := Lib.hid hok
  have HV := Lib.hid hv0
  clear hrec hok hv0
  obtain ⟨F, HE⟩ : ∃ F, Hid (F = (x :: xs).foldl St.step ⟨has, nm, os⟩) := ⟨_, rfl⟩
  rw [← HE.out]
  obtain ⟨base, hTl, hPl, hBl, HM, hbw⟩ : ∃ base, T < base ∧ Pb < base ∧ Bb < base ∧ Hid (∀ mb, m = some mb → mb < base) ∧ base ≤ w.heap.size := ⟨_, h0.Tl, h0.Pl, h0.bbl, h0.ml, Nat.le_refl _⟩
  have c0 := h0.c0
  obtain ⟨hil0, hget0⟩ := drop_get hd hv1
  obtain ⟨hb1, hb2⟩ := low_bounds hx2 hv1
  rw [Nat.add_zero] at hil0 hget0
  generalize x.2.getD 0 0 = c at hget0 hb1 hb2
  have n39 : ((c.toNat : Int) == 39) = false := by simp; omega
  have HG0 := Lib.hid hget0
  clear hget0 hd
  go_enter Tryd.func42, Tryd.ntmps42
  go_wp2_with fail
  refine (peek_ps h0 hil0 c HG0.out).mono ?_
  rintro e w1 ⟨rfl, hp1, hg1⟩
  have hbw1 := Nat.le_trans hbw hg1.size
  clear c0 hg1
  go_wp2_with fail
  clear hil0 n39 hb1 hb2
  go_loopg [3] x.2.length (fun gk v wr => ∃ k : Nat, k ≤ x.2.length ∧ x.2.length - k ≤ gk ∧ base ≤ wr.heap.size ∧ wr.ownsRow base 5 1 v k ((x.2.take k).map byt) ∧ PS w0 wr B T Pb Bb cap l (i + k) nm m has x.1 os)
  case atStart => exact ⟨0, Nat.zero_le _, by omega, hbw1, World.ownsRow_nil _ _ _ _, hp1⟩
  case round =>
    obtain ⟨k, hk, hgk, hbr, hown, hp⟩ := hrel
    have c0 := hp.c0
    by_cases hlt : k < x.2.length
    · obtain ⟨hil, hget⟩ := drop_get HD.out hlt
      obtain ⟨hc1, hc2⟩ := low_bounds hx2 hlt
      have hsnoc := take_next hlt
      generalize x.2.getD k 0 = c at hget hc1 hc2 hsnoc
      have HG := Lib.hid hget
      have HS := Lib.hid hsnoc
      clear hget hsnoc
      have n92 : ((c.toNat : Int) == 92) = false := by simp; omega
      have n40 : ((c.toNat : Int) == 40) = false := by simp; omega
      have n44 : ((c.toNat : Int) == 44) = false := by simp; omega
      go_wp2_with fail
      refine (valid_t hp hil).mono ?_
      rintro e w1 ⟨rfl, hp1, hg1⟩
      have hown1 := own_none hown hg1
      have hb1 := Nat.le_trans hbr hg1.size
      clear hown hp hg1 c0
      have c0 := hp1.c0
      go_wp2_with fail
      refine (read_ps hp1 hil hl c HG.out).mono ?_
      rintro e w2 ⟨rfl, hp2, hg2⟩
      have hown2 := own_low hown1 hg2 hPl
      have hb2 := Nat.le_trans hb1 hg2.size
      clear hown1 hp1 hg2 c0
      go_wp2_with (first
        | (at_builtin; go_must (refine wpList_append_own _ rfl _ _ 22 rfl base 5 i0 (.int .u8 0) 1 1 Tryd.underlying22 hi hz0 hz1 hz2 rfl (by decide) _ _ _ rfl (hown2.alloc _) ⟨w2.heap.size, 0, none⟩ 1 1 [byt c] rfl rfl (cell_one_new _ _ _) (by simp [Value.oneCell']) (by unfold maxLen; omega) (by omega) (by simp; omega) ?_); intro v' w3 hown3 hg3 _)
        | fail)
      have hg4 : (w2.alloc (.cells #[byt c] 5)).grownBy w3 u3.ownBlock := hg3
      clear hg3
      have hp3 := (hp2.alloc (.cells #[byt c] 5)).grown_above hg4 (fun g e => (hown2.lt g e).1) hTl hPl hBl HM.out
      have hb3 : base ≤ w3.heap.size := Nat.le_trans hb2 (Nat.le_trans (by simp) hg4.size)
      have HF := Lib.hid (show w3.ownsRow base 5 1 v' (k + 1) ((x.2.take (k + 1)).map byt) by rw [HS.out, List.map_append]; exact hown3)
      clear hown2 hg4 hp2 hown3
      go_wp2_with fail
      go_roundg (x.2.length - (k + 1))
      case measure => omega
      case rel => exact ⟨k + 1, by omega, by omega, hb3, HF.out, hp3⟩
    · obtain rfl : k = x.2.length := by omega
      rw [List.take_length] at hown
      obtain ⟨g, cp, hu⟩ := own_shape hown hv1
      subst hu
      cases xs with
      | nil =>
        have hend : i + x.2.length = l.length := drop_end (by rw [HD.out]; simp [rest]) hv1
        have HN := Lib.hid hend
        clear hend
        go_wp2_with fail
        refine (valid_f hp HN.out).mono ?_
        rintro e w1 ⟨rfl, hp1, hg1⟩
        have hown1 := own_none hown hg1
        have hcv := conv_own hown1
        have hcv2 := conv_own (w := w1.drew) hown1
        clear hown hp hg1 c0 hown1
        have c4 := hp1.c4
        go_wp2_with fail
        go_still_tail 7, (by kernel_rfl)
        show wpList _ _ _ _ _ w1.drew
        have hp2 := hp1.drew
        go_wp2_with fail
        refine (set_val hp2 ht hB x.1 x.2 hx1 hx3 (by omega) hx2 HV.out (by omega) (by simp at hos; omega)).mono ?_
        rintro e w2 hk2
        have hfin := hk2.done
        obtain ⟨rfl, m', hp3⟩ := hk2
        clear hcv hcv2
        go_wp2_with fail
        go_end0
        rw [HE.out]
        exact hfin
      | cons y ys =>
        have hd3 : l.drop i = x.2 ++ 44 :: (part y ++ rest ys) := by rw [HD.out, rest_cons]
        obtain ⟨hil, hget, hd4⟩ := drop_next hd3
        obtain ⟨hy1, hy2, hy3, hy4, hy5⟩ := HO.out y (List.mem_cons_of_mem _ List.mem_cons_self)
        obtain ⟨tl, hd5⟩ : ∃ tl, l.drop (i + x.2.length + 1) = y.1 ++ tl := by
          rw [hd4]
          by_cases hyv : y.2 = []
          · exact ⟨rest ys, by rw [part_bare hyv]⟩
          · exact ⟨58 :: y.2 ++ rest ys, by rw [part_val hyv]; simp⟩
        obtain ⟨hil2, hget2⟩ := drop_get hd5 hy3
        obtain ⟨hc1, hc2⟩ := low_bounds hy1 hy3
        rw [Nat.add_zero] at hil2 hget2
        generalize y.1.getD 0 0 = c2 at hget2 hc1 hc2
        have n32 : ((c2.toNat : Int) == 32) = false := by simp; omega
        have HG := Lib.hid hget
        have HG2 := Lib.hid hget2
        have HD4 := Lib.hid hd4
        clear hd3 hget hget2 hd4 hd5
        go_wp2_with fail
        refine (valid_t hp hil).mono ?_
        rintro e w1 ⟨rfl, hp1, hg1⟩
        have hown1 := own_none hown hg1
        clear hown hp hg1 c0
        have c0 := hp1.c0
        go_wp2_with fail
        refine (read_ps hp1 hil hl 44 HG.out).mono ?_
        rintro e w2 ⟨he, hp2, hg2⟩
        rw [show byt 44 = Value.int .u8 44 from rfl] at he
        subst he
        have hown2 := own_low hown1 hg2 hPl
        clear hown1 hp1 hg2 c0
        have c0 := hp2.c0
        go_wp2_with fail
        refine (skip_ps hp2 hil2 c2 32 HG2.out n32).mono ?_
        rintro e w3 ⟨rfl, hp3, hg3⟩
        have hown3 := own_none hown2 hg3
        have hcv := conv_own hown3
        have hcv2 := conv_own (w := w3.drew) hown3
        clear hown2 hp2 hg3 c0 hown3
        have c4 := hp3.c4
        go_wp2_with fail
        go_still_tail 7, (by kernel_rfl)
        show wpList _ _ _ _ _ w3.drew
        have hp4 := hp3.drew
        go_wp2_with fail
        refine (set_val hp4 ht hB x.1 x.2 hx1 hx3 (by omega) hx2 HV.out (by omega) (by simp at hos; omega)).mono ?_
        rintro e w4 ⟨rfl, m', hp5⟩
        clear hcv hcv2
        rw [show (x.1, x.2) = x from rfl] at hp5
        have hlen := St.step_len ⟨has, nm, os⟩ x
        have hlen2 : os.length + ((ys.length + 1) + 1) ≤ 100 := by simpa using hos
        have hrec := HR.out y ys rfl w0 w4 B T Pb Bb cap (i + x.2.length + 1) l _ m' true x.1 _ hp5 ht hB (fun z hz => HO.out z (List.mem_cons_of_mem _ hz)) hl (by simp at hlen ⊢; omega) HD4.out
        rw [St.eta] at hrec
        have HC := Lib.hid hrec
        clear hrec hlen hlen2
        go_wp2_with fail
        refine HC.out.mono ?_
        rintro e w5 hk5
        have hk6 := hk5
        obtain ⟨rfl, _⟩ := hk6
        go_wp2_with fail
        refine bodyPost_ret (results_none rfl _ _ _) rfl ?_
        rw [HE.out]
        exact hk5

/-- BOTH, for every list of items. -/
theorem key_any (xs : List It) : ∀ x, PKs x xs := by
  induction xs with
  | nil => exact fun x => key_step x [] (fun _ _ h => by cases h) (val_step x [] (fun _ _ h => by cases h))
  | cons y ys ih =>
    have hrec : ∀ z zs, y :: ys = z :: zs → PKs z zs := fun z zs h => by cases h; exact ih y
    exact fun x => key_step x (y :: ys) hrec (val_step x (y :: ys) hrec)
end Go.Proofs.YtoegdojeajeoaaaDoor
