/- parseKey, walked: it reads an item's key, then what stands behind it. What it calls (itself, parseValue) comes in by its contract. -/
import Derived.Test.YtoegdojeajeoaaaDoorSteps
import Derived.Deep.LoopGhost
import Derived.Deep.DeepMust
namespace Go.Proofs.YtoegdojeajeoaaaDoor
open Go.RowKit Go.Maps Go.WideMaps

theorem drop_get {l ks tail : Bs} {i k : Nat} (h : l.drop i = ks ++ tail) (hk : k < ks.length) : i + k < l.length ∧ l.getD (i + k) 0 = ks.getD k 0 := by
  have e : (l.drop i)[k]? = ks[k]? := by rw [h, List.getElem?_append_left hk]
  rw [List.getElem?_drop] at e
  refine ⟨?_, by simp [List.getD, e]⟩
  rcases Nat.lt_or_ge (i + k) l.length with h' | h'
  · exact h'
  · rw [List.getElem?_eq_none h', List.getElem?_eq_getElem hk] at e
    cases e
theorem drop_next {l ks tail : Bs} {c : UInt8} {i : Nat} (h : l.drop i = ks ++ c :: tail) : i + ks.length < l.length ∧ l.getD (i + ks.length) 0 = c ∧ l.drop (i + ks.length + 1) = tail := by
  have e : (l.drop i)[ks.length]? = some c := by rw [h]; simp
  rw [List.getElem?_drop] at e
  refine ⟨?_, by simp [List.getD, e], ?_⟩
  · rcases Nat.lt_or_ge (i + ks.length) l.length with h' | h'
    · exact h'
    · rw [List.getElem?_eq_none h'] at e; cases e
  · have : (l.drop i).drop (ks.length + 1) = tail := by rw [h]; simp
    rw [List.drop_drop] at this
    rw [← this, Nat.add_assoc]
theorem drop_end {l ks : Bs} {i : Nat} (h : l.drop i = ks) (hk : 1 ≤ ks.length) : i + ks.length = l.length := by
  have := congrArg List.length h
  simp at this
  omega

/-- What is known when the reading has come to its end. -/
def Done (w0 : World) (B T Pb Bb cap : Nat) (l : Bs) (s : St) (e : Ending) (w' : World) : Prop :=
  e = .returned (.tuple #[]) ∧ ∃ i' m' key', PS w0 w' B T Pb Bb cap l i' s.name m' s.has key' s.os

theorem Kept.done {w0 w' : World} {B T Pb Bb cap : Nat} {l : Bs} {i : Nat} {key : Bs} {s : St} {x : It} {e : Ending} (h : Kept w0 B T Pb Bb cap l i (s.step x).name key (s.step x).os e w') : Done w0 B T Pb Bb cap l (s.step x) e w' := by
  obtain ⟨he, m', hp⟩ := h
  have : (s.step x).has = true := by unfold St.step; split <;> rfl
  exact ⟨he, _, m', _, by rw [this]; exact hp⟩

/-- PARSEKEY's CONTRACT at an item and what follows. -/
def PKs (x : It) (xs : List It) : Prop :=
  ∀ (w0 w : World) (B T Pb Bb cap i : Nat) (l nm : Bs) (m : Option Nat) (has : Bool) (key : Bs) (os : List It), PS w0 w B T Pb Bb cap l i nm m has key os → Tab w0 → 4 ≤ B → (∀ y ∈ x :: xs, OkIt y) → l.length ≤ 100 →
    os.length + (x :: xs).length ≤ 100 → l.drop i = part x ++ rest xs →
    Calls Tryd.prog 32 #[.pointer (some ⟨T, 0, none⟩)] w (Done w0 B T Pb Bb cap l ((x :: xs).foldl St.step ⟨has, nm, os⟩))
/-- PARSEVALUE's CONTRACT. -/
def PVs (x : It) (xs : List It) : Prop :=
  ∀ (w0 w : World) (B T Pb Bb cap i : Nat) (l nm : Bs) (m : Option Nat) (has : Bool) (os : List It), PS w0 w B T Pb Bb cap l i nm m has x.1 os → Tab w0 → 4 ≤ B → (∀ y ∈ x :: xs, OkIt y) → l.length ≤ 100 →
    os.length + (x :: xs).length ≤ 100 → x.2 ≠ [] → l.drop i = x.2 ++ rest xs →
    Calls Tryd.prog 42 #[.pointer (some ⟨T, 0, none⟩)] w (Done w0 B T Pb Bb cap l ((x :: xs).foldl St.step ⟨has, nm, os⟩))

theorem Tryd.info5 : (Tryd.prog.info? 5).map (fun i => (i.zero, i.size, i.bytes)) = some (some (.int .u8 0), 1, 1) := by kernel_rfl

theorem low_bounds {ks : Bs} (h : Low ks) {k : Nat} (hk : k < ks.length) : 97 ≤ (ks.getD k 0).toNat ∧ (ks.getD k 0).toNat ≤ 122 := by
  have e : ks.getD k 0 = ks[k] := by simp [List.getD, hk]
  rw [e]
  exact h _ (List.getElem_mem hk)
theorem take_next {ks : Bs} {k : Nat} (hk : k < ks.length) : ks.take (k + 1) = ks.take k ++ [ks.getD k 0] := by
  rw [List.take_succ_eq_append_getElem hk]
  simp [List.getD, hk]

/-- What the call owns is kept while nothing that was there is written. -/
theorem own_none {w w' : World} {base e size n : Nat} {v : Value} {ks : List Value} (h : w.ownsRow base e size v n ks) (hg : w.grownBy w' none) : w'.ownsRow base e size v n ks := h.kept hg (Classical.em _)
/-- .. while a block below is written. -/
theorem own_low {w w' : World} {base e size n r : Nat} {v : Value} {ks : List Value} (h : w.ownsRow base e size v n ks) (hg : w.grownBy w' (some r)) (hr : r < base) : w'.ownsRow base e size v n ks :=
  h.kept hg (Or.inr fun e => by have := (h.lt r e).1; omega)

theorem St.step_len (s : St) (x : It) : (s.step x).os.length ≤ s.os.length + 1 := by unfold St.step; split <;> simp
theorem St.eta (s : St) (x : It) : (⟨true, (s.step x).name, (s.step x).os⟩ : St) = s.step x := by unfold St.step; split <;> rfl

/-- A slice of the call's own that holds something: its shape. -/
theorem own_shape {w : World} {base e size n : Nat} {v : Value} {ks : List Value} (h : w.ownsRow base e size v n ks) (hn : 1 ≤ n) : ∃ g cp, v = .slice (some ⟨g, 0, none⟩) n cp := by
  rcases h.2 with ⟨_, h0⟩ | ⟨g, cp, cur, hv, _⟩
  · omega
  · exact ⟨g, cp, hv⟩

set_option maxRecDepth 100000 in
set_option maxHeartbeats 2000000 in
theorem key_step (x : It) (xs : List It) (hrec : ∀ y ys, xs = y :: ys → PKs y ys) (hval : PVs x xs) : PKs x xs := by
  intro w0 w B T Pb Bb cap i l nm m has key os h0 ht hB hok hl hos hd
  obtain ⟨i0, hi, hz0, hz1, hz2⟩ := info_parts Tryd.info5
  obtain ⟨hx1, hx2, hx3, hx4, hx5⟩ := hok x List.mem_cons_self
  have HD := Lib.hid hd
  have HR := Lib.hid hrec
  have HO := Lib.hid hok
  clear hd hrec hok
  obtain ⟨F, HE⟩ : ∃ F, Hid (F = (x :: xs).foldl St.step ⟨has, nm, os⟩) := ⟨_, rfl⟩
  rw [← HE.out]
  obtain ⟨tail, hd1⟩ : ∃ tail, Hid (l.drop i = x.1 ++ tail) := by
    by_cases hv : x.2 = []
    · exact ⟨rest xs, by have := HD.out; rw [part_bare hv] at this; exact this⟩
    · exact ⟨58 :: (x.2 ++ rest xs), by have := HD.out; rw [part_val hv] at this; rw [this.trans (List.append_assoc _ _ _)]; exact rfl⟩
  have c4 := h0.c4
  have f4 := h0.f 4
  have h1 := h0.setKey []
  obtain ⟨base, hTl, hPl, hBl, HM, hbw⟩ : ∃ base, T < base ∧ Pb < base ∧ Bb < base ∧ Hid (∀ mb, m = some mb → mb < base) ∧ base ≤ w.heap.size := ⟨_, h0.Tl, h0.Pl, h0.bbl, h0.ml, Nat.le_refl _⟩
  go_enter Tryd.func32, Tryd.ntmps32
  go_wp2_with fail
  go_loopg [2] x.1.length (fun gk v wr => ∃ k : Nat, k ≤ x.1.length ∧ x.1.length - k ≤ gk ∧ base ≤ wr.heap.size ∧ wr.ownsRow base 5 1 v k ((x.1.take k).map byt) ∧ PS w0 wr B T Pb Bb cap l (i + k) nm m has [] os)
  case atStart => exact ⟨0, Nat.zero_le _, by omega, by simpa [World.setCell] using hbw, World.ownsRow_nil _ _ _ _, h1⟩
  case round =>
    obtain ⟨k, hk, hgk, hbr, hown, hp⟩ := hrel
    have c0 := hp.c0
    by_cases hlt : k < x.1.length
    · obtain ⟨hil, hget⟩ := drop_get hd1.out hlt
      obtain ⟨hc1, hc2⟩ := low_bounds hx1 hlt
      have hsnoc := take_next hlt
      generalize x.1.getD k 0 = c at hget hc1 hc2 hsnoc
      have HG := Lib.hid hget
      have HS := Lib.hid hsnoc
      clear hget hsnoc
      have n44 : ((c.toNat : Int) == 44) = false := by simp; omega
      have n58 : ((c.toNat : Int) == 58) = false := by simp; omega
      have n39 : ((c.toNat : Int) == 39) = false := by simp; omega
      go_wp2_with fail
      refine (valid_t hp hil).mono ?_
      rintro e w1 ⟨rfl, hp1, hg1⟩
      have hown1 := own_none hown hg1
      have hb1 := Nat.le_trans hbr hg1.size
      clear hown hp hg1 c0
      have c0 := hp1.c0
      go_wp2_with fail
      refine (read_ps hp1 hil hl c HG.out).mono ?_
      rintro e w2 ⟨rfl, hp2, hg2⟩
      have hown2 := own_low hown1 hg2 hPl
      have hb2 := Nat.le_trans hb1 hg2.size
      clear hown1 hp1 hg2 c0
      go_wp2_with (first
        | (at_builtin; go_must (refine wpList_append_own _ rfl _ _ 22 rfl base 5 i0 (.int .u8 0) 1 1 Tryd.underlying22 hi hz0 hz1 hz2 rfl (by decide) _ _ _ rfl (hown2.alloc _) ⟨w2.heap.size, 0, none⟩ 1 1 [byt c] rfl rfl (cell_one_new _ _ _) (by simp [Value.oneCell']) (by unfold maxLen; omega) (by omega) (by simp; omega) ?_); intro v' w3 hown3 hg3 _)
        | fail)
      have hg4 : (w2.alloc (.cells #[byt c] 5)).grownBy w3 u2.ownBlock := hg3
      clear hg3
      have hp3 := (hp2.alloc (.cells #[byt c] 5)).grown_above hg4 (fun g e => (hown2.lt g e).1) hTl hPl hBl HM.out
      have hb3 : base ≤ w3.heap.size := Nat.le_trans hb2 (Nat.le_trans (by simp) hg4.size)
      have HF := Lib.hid (show w3.ownsRow base 5 1 v' (k + 1) ((x.1.take (k + 1)).map byt) by rw [HS.out, List.map_append]; exact hown3)
      clear hown2 hg4 hp2 hown3
      go_wp2_with fail
      go_roundg (x.1.length - (k + 1))
      case measure => omega
      case rel => exact ⟨k + 1, by omega, by omega, hb3, HF.out, hp3⟩
    · obtain rfl : k = x.1.length := by omega
      rw [List.take_length] at hown
      obtain ⟨g, cp, hu⟩ := own_shape hown hx3
      subst hu
      by_cases hv : x.2 = []
      · have hd2 : l.drop i = x.1 ++ rest xs := by have := HD.out; rw [part_bare hv] at this; exact this
        have hxe : x = (x.1, []) := Prod.ext rfl hv
        cases xs with
        | nil =>
          have hend : i + x.1.length = l.length := drop_end (by rw [hd2]; simp [rest]) hx3
          have HX := Lib.hid hxe
          have HN := Lib.hid hend
          clear hd2 hxe hv hend
          go_wp2_with fail
          refine (valid_f hp HN.out).mono ?_
          rintro e w1 ⟨rfl, hp1, hg1⟩
          have hown1 := own_none hown hg1
          have hcv := conv_own hown1
          clear hown hp hg1 c0 hown1
          go_wp2_with fail
          refine (set_bare hp1 ht hB x.1 hx1 (by omega) (by simp at hos; omega)).mono ?_
          rintro e w2 hk2
          have hfin := hk2.done
          rw [← HX.out] at hfin
          obtain ⟨rfl, m', hp2⟩ := hk2
          clear hcv
          go_wp2_with fail
          go_end0
          rw [HE.out]
          exact hfin
        | cons y ys =>
          have hd3 : l.drop i = x.1 ++ 44 :: (part y ++ rest ys) := by rw [hd2, rest_cons]
          obtain ⟨hil, hget, hd4⟩ := drop_next hd3
          obtain ⟨hy1, hy2, hy3, hy4, hy5⟩ := HO.out y (List.mem_cons_of_mem _ List.mem_cons_self)
          obtain ⟨tl, hd5⟩ : ∃ tl, l.drop (i + x.1.length + 1) = y.1 ++ tl := by
            rw [hd4]
            by_cases hyv : y.2 = []
            · exact ⟨rest ys, by rw [part_bare hyv]⟩
            · exact ⟨58 :: y.2 ++ rest ys, by rw [part_val hyv]; simp⟩
          obtain ⟨hil2, hget2⟩ := drop_get hd5 hy3
          obtain ⟨hc1, hc2⟩ := low_bounds hy1 hy3
          rw [Nat.add_zero] at hil2 hget2
          generalize y.1.getD 0 0 = c at hget2 hc1 hc2
          have n32 : ((c.toNat : Int) == 32) = false := by simp; omega
          have HX := Lib.hid hxe
          have HG := Lib.hid hget
          have HG2 := Lib.hid hget2
          have HD4 := Lib.hid hd4
          clear hd2 hxe hv hd3 hget hget2 hd4 hd5
          go_wp2_with fail
          refine (valid_t hp hil).mono ?_
          rintro e w1 ⟨rfl, hp1, hg1⟩
          have hown1 := own_none hown hg1
          clear hown hp hg1 c0
          have c0 := hp1.c0
          go_wp2_with fail
          refine (read_ps hp1 hil hl 44 HG.out).mono ?_
          rintro e w2 ⟨he, hp2, hg2⟩
          rw [show byt 44 = Value.int .u8 44 from rfl] at he
          subst he
          have hown2 := own_low hown1 hg2 hPl
          clear hown1 hp1 hg2 c0
          have c0 := hp2.c0
          go_wp2_with fail
          refine (skip_ps hp2 hil2 c 32 HG2.out n32).mono ?_
          rintro e w3 ⟨rfl, hp3, hg3⟩
          have hown3 := own_none hown2 hg3
          have hcv := conv_own hown3
          clear hown2 hp2 hg3 c0 hown3
          go_wp2_with fail
          refine (set_bare hp3 ht hB x.1 hx1 (by omega) (by simp at hos; omega)).mono ?_
          rintro e w4 ⟨rfl, m', hp4⟩
          clear hcv
          rw [← HX.out] at hp4
          have hlen := St.step_len ⟨has, nm, os⟩ x
          have hlen2 : os.length + ((ys.length + 1) + 1) ≤ 100 := by simpa using hos
          have hrec := HR.out y ys rfl w0 w4 B T Pb Bb cap (i + x.1.length + 1) l _ m' true [] _ hp4 ht hB (fun z hz => HO.out z (List.mem_cons_of_mem _ hz)) hl (by simp at hlen ⊢; omega) HD4.out
          rw [St.eta] at hrec
          have HC := Lib.hid hrec
          clear hrec hlen hlen2
          go_wp2_with fail
          refine HC.out.mono ?_
          rintro e w5 hk5
          have hk6 := hk5
          obtain ⟨rfl, _⟩ := hk6
          go_wp2_with fail
          refine bodyPost_ret (results_none rfl _ _ _) rfl ?_
          rw [HE.out]
          exact hk5
      · have hd2 : l.drop i = x.1 ++ 58 :: (x.2 ++ rest xs) := by have := HD.out; rw [part_val hv] at this; rw [this.trans (List.append_assoc _ _ _)]; rfl
        obtain ⟨hil, hget, hd4⟩ := drop_next hd2
        have HV := Lib.hid hv
        have HG := Lib.hid hget
        have HD4 := Lib.hid hd4
        clear hd2 hget hd4 hv
        go_wp2_with fail
        refine (valid_t hp hil).mono ?_
        rintro e w1 ⟨rfl, hp1, hg1⟩
        have hown1 := own_none hown hg1
        clear hown hp hg1 c0
        have c0 := hp1.c0
        go_wp2_with fail
        refine (read_ps hp1 hil hl 58 HG.out).mono ?_
        rintro e w2 ⟨he, hp2, hg2⟩
        rw [show byt 58 = Value.int .u8 58 from rfl] at he
        subst he
        have hown2 := own_low hown1 hg2 hPl
        have hcv := conv_own hown2
        clear hown1 hp1 hg2 c0 hown2
        have c4 := hp2.c4
        have f4 := hp2.f 4
        have hp3 := hp2.setKey x.1
        have hval := hval w0 _ B T Pb Bb cap (i + x.1.length + 1) l nm m has os hp3 ht hB HO.out hl hos HV.out HD4.out
        have HC := Lib.hid hval
        clear hval
        go_wp2_with fail
        refine HC.out.mono ?_
        rintro e w5 hk5
        have hk6 := hk5
        obtain ⟨rfl, _⟩ := hk6
        go_wp2_with fail
        refine bodyPost_ret (results_none rfl _ _ _) rfl ?_
        rw [HE.out]
        exact hk5
end Go.Proofs.YtoegdojeajeoaaaDoor
