/- impl.Parsed, walked: the name, and the options of the tag, sorted. -/
import Derived.Test.YtoegdojeajeoaaaDoorHas
import Derived.Sort.OwnSorted
import Derived.Maps.RangeWalk
import Derived.Maps.StringElems
namespace Go.Proofs.YtoegdojeajeoaaaDoor
open Go.RowKit Go.Maps Go.WideMaps Go.Sort

/-- SLICES.SORT on a slice of strings of the call's own. -/
theorem sort_own {base : Nat} {v : Value} {ss : List Bs} {w : World} (h : w.ownsRow base 9 1 v ss.length (ss.map str)) (hn : ss.length ≤ 1000) :
    Calls Tryd.prog 23 #[v] w fun e w' => e = .returned (.tuple #[]) ∧ w'.ownsRow base 9 1 v ss.length ((ss.mergeSort leB).map str) ∧ w.grownBy w' v.ownBlock := by
  rcases h.2 with ⟨rfl, h0⟩ | ⟨g, cap, cur, rfl, hbase, hb, h1, h2, h3, h4⟩
  · obtain rfl : ss = [] := List.length_eq_zero_iff.1 h0
    refine (Tryd.slices_Sort_string_none none 0 w).mono fun e w' hh => ?_
    obtain ⟨rfl, rfl⟩ := hh
    exact ⟨rfl, by simpa using h, World.grownBy.refl _ _⟩
  · have hH : Holds encStr w g 0 ss.toArray := holds_of_block hb (by simpa using h4)
    refine (Tryd.slices_Sort_string g 0 cap ss w hH (lt_of_block hb) (by omega)).mono fun e w' hh => ?_
    obtain ⟨rfl, nn, os, rfl⟩ := hh
    exact ⟨rfl, ownsRow_sorted (ts := ss.mergeSort leB) (by simp) hbase hb h1 h2 h3, grownBy_sorted _⟩

theorem Tryd.info9 : (Tryd.prog.info? 9).map (fun i => (i.zero, i.size, i.bytes)) = some (some (.string ⟨#[]⟩), 1, 16) := by kernel_rfl

/-- What impl.Parsed hands back: the name, and the options in order in a slice of its own. -/
def ParsedAt (w : World) (nm : Bs) (os : List It) (e : Ending) (w' : World) : Prop :=
  ∃ v, e = .returned (.tuple #[str nm, v]) ∧ w'.ownsRow w.heap.size 9 1 v os.length ((opts os).map str) ∧ Below w.heap.size w w'

/-- What was collected: pairs of the map, no key twice. -/
def Got (os : List It) (left : Lit → Bool) (ps : List It) : Prop := Collected (Dof os) left (ps.map (·.1)) ∧ ∀ p ∈ ps, p ∈ os

theorem Got.done {os ps : List It} {left : Lit → Bool} (h : Got os left ps) (hn : (os.map (·.1)).Nodup) (hl : ∀ kl, left kl = false) : ps.Perm os :=
  perm_items hn h.1.1 (fun k => by rw [h.1.2 k, hl]; simp) (fun p hp z => atKey_Dof hn (h.2 p hp) z)

/-- An entry of the map is an item. -/
theorem entry_item {os : List It} (hn : (os.map (·.1)).Nodup) {x : Bs} {c : ByteArray} (hat : ∀ zd, (Dof os).atKey (.string x) zd = .lit (.string c.data.toList)) : (x, c.data.toList) ∈ os := by
  have h1 : Maps.has (Dof os) (.string x) = true := has_true_of_atKey hat
  rw [has_Dof, List.any_eq_true] at h1
  obtain ⟨y, hy, he⟩ := h1
  have he : y.1 = x := by simpa using he
  have h2 := hat .nil
  rw [← he, atKey_Dof hn hy] at h2
  have h3 : y.2 = c.data.toList := by simpa using h2
  have : y = (x, c.data.toList) := Prod.ext he h3
  exact this ▸ hy

/-- A map is no row of the call's own. -/
theorem map_ne_row {w : World} {base e size m mb n : Nat} {v : Value} {xs : List Value} {D : DataW Unit} (h : w.ownsRow base e size v m xs) (ho : w.ownsMap Tryd.prog 9 (plainElem Tryd.prog 9) mb n D) : some mb ≠ v.ownBlock := by
  rcases h.2 with ⟨rfl, _⟩ | ⟨g, cap, cur, rfl, _, hb, _⟩
  · simp [Value.ownBlock]
  · intro e1
    simp [Value.ownBlock] at e1
    subst e1
    obtain ⟨es, clock, hb2, _⟩ := ho
    rw [hb] at hb2
    cases hb2

theorem ownsRow_mono {w : World} {base base' e size n : Nat} {v : Value} {xs : List Value} (h : w.ownsRow base e size v n xs) (hb : base' ≤ base) : w.ownsRow base' e size v n xs := by
  refine ⟨h.1, ?_⟩
  rcases h.2 with h2 | ⟨g, cap, cur, hv, hg, r⟩
  · exact Or.inl h2
  · exact Or.inr ⟨g, cap, cur, hv, Nat.le_trans hb hg, r⟩

/-- An option's text, as the walk reckons it. -/
theorem opt_val (x cv : Bs) : Value.string ((⟨x.toArray⟩ : ByteArray) ++ ⟨#[61]⟩ ++ ⟨cv.toArray⟩) = str (opt (x, cv)) := by
  have e : ((⟨x.toArray⟩ : ByteArray) ++ ⟨#[61]⟩ ++ ⟨cv.toArray⟩) = ⟨(opt (x, cv)).toArray⟩ := by
    apply ByteArray.ext
    simp [ByteArray.data_append, opt]
  rw [e]

set_option maxRecDepth 100000 in
set_option maxHeartbeats 1000000 in
theorem parsed_any (l : Bs) (F : St) (w : World) (hn : (F.os.map (·.1)).Nodup) (hos : F.os.length ≤ 100) (hsh : ∀ x ∈ F.os, x.1.length ≤ 100 ∧ x.2.length ≤ 100)
    (HC : Hid (Calls Tryd.prog 21 #[str l] w (TagAt w F))) :
    Calls Tryd.prog 13 #[str l] w (ParsedAt w F.name F.os) := by
  obtain ⟨has, nm, os⟩ := F
  have HN := Lib.hid hn
  have HS := Lib.hid hsh
  clear hn hsh
  obtain ⟨i0, hi, hz0, hz1, hz2⟩ := info_parts Tryd.info9
  go_enter Tryd.func13, Tryd.ntmps13
  go_wp2_with fail
  refine HC.out.mono ?_
  rintro e w1 ⟨T, m, rfl, hb, c1, c2, hom, hT⟩
  cases m with
  | none =>
    obtain rfl : os = [] := hom
    have hrg := run_range_nilMap (P := Tryd.prog) w1 46 9 9 Tryd.underlying46
    have hnx : ∀ ty, (Instr.next (.pointer (some ⟨w1.heap.size, 0, none⟩)) false ty).run Tryd.prog (w1.alloc (.mapIter none 0 #[] 0)) = _ := fun ty => run_next_nilMap _ ty 0 0 #[]
    go_wp2_with fail
    refine wp_loop_rounds 1 ?_
    rw [rounds_succ]
    go_wp2_with fail
    refine (Tryd.slices_Sort_string_none none 0 _).mono ?_
    rintro e w2 ⟨rfl, rfl⟩
    have c1' : (w1.alloc (.mapIter none 0 #[] 0)).cell? ⟨T, 1, none⟩ = some (str nm) := by rw [World.cell?_of_block (w := w1) (Below.heap_alloc _ _ _ (by show T < _; omega))]; exact c1
    have hend : ParsedAt w nm [] (.returned (.tuple #[str nm, .slice none 0 0])) (w1.alloc (.mapIter none 0 #[] 0)) := ⟨_, rfl, by simpa [opts] using World.ownsRow_nil _ _ _ _, hb.alloc hb.size _⟩
    clear hrg hnx
    go_wp2_with fail
    go_ret2
    exact hend
  | some mb =>
    obtain ⟨_, n, hno, hown⟩ := hom
    have hbl := hown.lt
    have hsz : Maps.size (Dof os) ≤ 100 := Nat.le_trans hown.size_le (Nat.le_trans hno hos)
    go_wp2_with (first
      | (at_range; go_must (refine wpList_range_own _ rfl _ 46 rfl 9 9 law9 Tryd.underlying46 _ mb n _ rfl hown ?_); intro w2 hrg2 hg2 hs2)
      | fail)
    go_frame
    have c1' := hg2.cell c1 (by simp)
    go_loopw [5] (fun v wr => ∃ (left : Lit → Bool) (cnt : Nat) (ps : List It), wr.ranges Tryd.prog 9 (plainElem Tryd.prog 9) mb w1.heap.size n (Dof os) left cnt ∧ ps.length + cnt ≤ 100 ∧
        wr.ownsRow w1.heap.size 9 1 v ps.length ((ps.map opt).map str) ∧ Got os left ps ∧ Below w.heap.size w wr ∧ wr.cell? ⟨T, 1, none⟩ = some (str nm) ∧ w1.heap.size ≤ wr.heap.size)
      (fun _ wr => wr.rangeLeft mb w1.heap.size)
    case atStart => exact ⟨_, _, [], hrg2, by simpa using hsz, World.ownsRow_nil _ _ _ _, ⟨Collected.start _, by simp⟩, hb.grown hg2 hb.size (fun k e => by cases e), c1', hg2.size⟩
    case round =>
      clear hs2 hg2 hrg2 c1' c1 hown
      obtain ⟨left, cnt, ps, hrg, hcs, hrow, hgot, hnx, cT, hbs⟩ := hrel
      go_wp2_with (first
        | (at_next; go_must (refine wpList_next_ranges _ rfl _ rfl 9 law9 (plainElem Tryd.prog 9) encStr Value.string (fun key kl hk => by obtain ⟨x, hx, _⟩ := Maps.keyOf_str Tryd.underlying9 hk; exact ⟨x, hx⟩) (fun v y hv => by obtain ⟨c, rfl, _⟩ := plainElem_string_inv Tryd.underlying9 hv; exact ⟨c, rfl⟩) mb w1.heap.size n _ _ _ rfl hrg ?_ ?_))
        | fail)
      · intro hc0 hl0
        have hperm := hgot.done HN.out hl0
        have HSo := Lib.hid (sort_own (ss := ps.map opt) (by simpa using hrow) (by simp; omega))
        have HF := Lib.hid (show (ps.map opt).length = os.length ∧ (ps.map opt).mergeSort leB = opts os from ⟨by simpa using hperm.length_eq, opts_of_perm hperm⟩)
        clear hc0 hl0 hperm hgot
        go_wp2_with fail
        refine HSo.out.mono ?_
        rintro e w4 ⟨rfl, hown4, hg4⟩
        rw [HF.out.1, HF.out.2] at hown4
        have cT4 := hg4.cell cT (row_ne_low hrow hT)
        have hbel := hnx.grown hg4 (Nat.le_trans hb.size hbs) (fun k e => Nat.le_trans hb.size (hrow.lt k e).1)
        have hend : ParsedAt w nm os (.returned (.tuple #[str nm, u5])) w4 := ⟨u5, rfl, ownsRow_mono hown4 hb.size, hbel⟩
        clear cT hg4 hown4
        go_wp2_with fail
        go_ret2
        exact hend
      · intro x c kl yd yp w3 cnt3 hkey hlk hv hat hrg3 hlt hg3 hs3 hen
        obtain ⟨x', ex, rfl, _⟩ := Maps.keyOf_str Tryd.underlying9 hkey
        obtain rfl : x = x' := encStr_inj ex
        obtain ⟨cv, rfl⟩ : ∃ cv : Bs, c = ⟨cv.toArray⟩ := ⟨c.data.toList, by simp⟩
        have hyd : yd = .lit (.string cv) := by
          obtain ⟨s, es, ez, _⟩ := plainElem_string_inv Tryd.underlying9 hv
          cases es
          exact congrArg Prod.fst ez
        subst hyd
        have hmem : (x, cv) ∈ os := entry_item HN.out (c := ⟨cv.toArray⟩) hat
        obtain ⟨hl1, hl2⟩ := HS.out _ hmem
        simp only at hl1 hl2
        have hgot2 : Got os (fun z => left z && !z.sameKey (.string x)) (ps ++ [(x, cv)]) := by
          refine ⟨?_, fun p hp => ?_⟩
          · rw [List.map_append]; exact hgot.1.step hlk hat
          · rcases List.mem_append.1 hp with hp | hp
            · exact hgot.2 p hp
            · rw [List.mem_singleton.1 hp]; exact hmem
        have hrow3 := hrow.kept hg3 (Or.inr (row_ne_iter hrow hrg).symm)
        have cT3 := hg3.cell cT (by simp; omega)
        have hbs3 := Nat.le_trans hbs hg3.size
        have hnx3 := hnx.grown hg3 (Nat.le_trans hb.size hbs) (fun k e => by cases e; exact hb.size)
        have hne3 := row_ne_iter hrow3 hrg3
        have HA := Lib.hid hat
        clear hs3 hgot hrow hg3 cT hnx hkey hlk hv ex hat hbs
        go_wp2_with (first
          | (at_builtin; go_must (refine wpList_append_own _ rfl _ _ 32 rfl w1.heap.size 9 i0 (.string ⟨#[]⟩) 1 16 Tryd.underlying32 hi hz0 hz1 hz2 rfl (by decide) _ _ _ rfl (hrow3.alloc _) ⟨w3.heap.size, 0, none⟩ 1 1 [Value.string ((⟨x.toArray⟩ : ByteArray) ++ ⟨#[61]⟩ ++ ⟨cv.toArray⟩)] rfl rfl (cell_one_new _ _ _) (by simp [Value.oneCell']) (by unfold maxLen; omega) (by omega) (by simp; omega) ?_); intro v' w4 hown4 hg4 _)
          | fail)
        have hg5 : (w3.alloc (.cells #[Value.string ((⟨x.toArray⟩ : ByteArray) ++ ⟨#[61]⟩ ++ ⟨cv.toArray⟩)] 9)).grownBy w4 u5.ownBlock := hg4
        clear hg4
        have hrg4 := (hrg3.alloc _).kept hg5 (row_ne_low hrow3 hbl) hne3
        have cT4 : w4.cell? ⟨T, 1, none⟩ = some (str nm) := hg5.cell (by rw [World.cell?_of_block (w := w3) (Below.heap_alloc _ _ _ (by show T < _; omega))]; exact cT3) (row_ne_low hrow3 hT)
        have hown5 : w4.ownsRow w1.heap.size 9 1 v' (ps ++ [(x, cv)]).length (((ps ++ [(x, cv)]).map opt).map str) := by
          rw [opt_val] at hown4
          simpa using hown4
        have hbel := (hnx3.alloc (Nat.le_trans hb.size hbs3) (.cells #[Value.string ((⟨x.toArray⟩ : ByteArray) ++ ⟨#[61]⟩ ++ ⟨cv.toArray⟩)] 9)).grown hg5 (by have := hb.size; simp; omega) (fun k e => Nat.le_trans hb.size (hrow3.lt k e).1)
        have hbs4 : w1.heap.size ≤ w4.heap.size := Nat.le_trans hbs3 (Nat.le_trans (by simp) hg5.size)
        refine ⟨⟨_, cnt3, ps ++ [(x, cv)], hrg4, by simp; omega, hown5, hgot2, hbel, cT4, hbs4⟩, ?_⟩
        rw [hrg4.left_eq, hrg.left_eq]
        exact hlt
end Go.Proofs.YtoegdojeajeoaaaDoor
