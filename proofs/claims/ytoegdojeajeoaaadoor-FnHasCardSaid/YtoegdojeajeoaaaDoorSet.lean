/- setTagOption: what an option does to the tag's reader and to the map of options; TrimSpace of small letters gives them back. -/
import Derived.Test.YtoegdojeajeoaaaDoorState
import Derived.Test.YtoegdojeajeoaaaDoorReader
import Derived.Test.YtoegdojeajeoaaaDoorShelf
namespace Go.Proofs.YtoegdojeajeoaaaDoor
open Go.RowKit Go.Maps Go.WideMaps

/-- The table of white space, as the walk's first world has it. -/
abbrev Tab (w : World) : Prop := Lib.TabIs Tryd.prog w "strings.asciiSpace" .u8 Lib.asciiSpaceTab
theorem gAscii : Tryd.prog.globalNamed "strings.asciiSpace" = some 1 := by kernel_rfl
theorem tab_below {B : Nat} {w w' : World} (h : Below B w w') (hB : 4 ≤ B) (ht : Tab w) : Tab w' := by
  exact var?_below h gAscii (by omega) ht

theorem low_notSp {l : Bs} (h : Low l) : ∀ c ∈ l, Lib.isSp c = false := by
  intro c hc
  have := h c hc
  simp only [Lib.isSp, Bool.or_eq_false_iff, beq_eq_false_iff_ne, ne_eq]
  refine ⟨⟨⟨⟨⟨?_, ?_⟩, ?_⟩, ?_⟩, ?_⟩, ?_⟩ <;> (rintro rfl; simp at this)
theorem dropWhile_low {l : Bs} (h : ∀ c ∈ l, Lib.isSp c = false) : l.dropWhile Lib.isSp = l := by
  cases l with
  | nil => rfl
  | cons a l => rw [List.dropWhile_cons_of_neg]; simp [h a List.mem_cons_self]
theorem trim_id {l : Bs} (h : Low l) : Lib.trimSpace l = l := by
  have h1 := low_notSp h
  rw [Lib.trimSpace, dropWhile_low h1, dropWhile_low (fun c hc => h1 c (List.mem_reverse.1 hc)), List.reverse_reverse]

theorem below_bytesWorld (w : World) (e : TypeId) (s : ByteArray) : Below w.heap.size w (Lib.bytesWorld w e s) :=
  ⟨rfl, rfl, rfl, by rw [Lib.bytesWorld_size]; omega, fun k hk => Lib.bytesWorld_at_old w e s k hk⟩

theorem trim_low (l : Bs) (w : World) (h : Low l) (hl : l.length ≤ 100) (ht : Tab w) :
    Calls Tryd.prog 59 #[str l] w fun e w' => e = .returned (str l) ∧ Below w.heap.size w w' := by
  refine (Tryd.strings_TrimSpace ⟨l.toArray⟩ w (by show l.length ≤ _; omega) (fun j b hb => ?_) ht).mono fun e w' hh => ?_
  · have := h b (List.mem_of_getElem? (by simpa using hb))
    omega
  · obtain ⟨rfl, rfl⟩ := hh
    refine ⟨?_, below_bytesWorld _ _ _⟩
    show Ending.returned (.string ⟨(Lib.trimSpace l).toArray⟩) = _
    rw [trim_id h]

section
variable {w0 w : World} {B T Pb Bb cap : Nat} {l : Bs} {i : Nat} {nm : Bs} {m : Option Nat} {has : Bool} {key : Bs} {os : List It}

/-- What setTagOption leaves. -/
def Kept (w0 : World) (B T Pb Bb cap : Nat) (l : Bs) (i : Nat) (nm : Bs) (key : Bs) (os : List It) (e : Ending) (w' : World) : Prop :=
  e = .returned (.tuple #[]) ∧ ∃ m', PS w0 w' B T Pb Bb cap l i nm m' true key os

set_option maxHeartbeats 1000000 in
/-- THE NAME. -/
theorem set_name (h : PS w0 w B T Pb Bb cap l i nm m false key os) (ht : Tab w0) (hB : 4 ≤ B) (v : Bs) (hv : Low v) (hl : v.length ≤ 100) :
    Calls Tryd.prog 41 #[.pointer (some ⟨T, 0, none⟩), str [], str v] w (Kept w0 B T Pb Bb cap l i v key os) := by
  go_enter Tryd.func41, Tryd.ntmps41
  go_wp2_with fail
  refine (trim_low [] w (by simp [Low]) (by simp) (tab_below h.below hB ht)).mono ?_
  rintro e w1 ⟨rfl, hb1⟩
  have h1 := h.new hb1
  clear hb1
  go_wp2_with fail
  refine (trim_low v w1 hv hl (tab_below h1.below hB ht)).mono ?_
  rintro e w2 ⟨rfl, hb2⟩
  have h2 := h1.new hb2
  clear hb2 h1
  have c3 := h2.c3
  have f3 := h2.f 3
  have c1 := h2.c1
  have f1 := h2.f 1
  have hend := (h2.setHas).setName v
  go_wp2
  go_end0
  exact ⟨rfl, _, hend⟩

theorem hkey (k : Bs) (hk : k.length ≤ 100) : keyOf Tryd.prog 9 (str k) = some (.string k) := keyOf_string_mk (s := ⟨k.toArray⟩) Tryd.underlying9 (by show k.length ≤ maxLen; unfold maxLen; omega)
theorem helem (k : Bs) (hk : k.length ≤ 100) : plainElem (H := Unit) Tryd.prog 9 (str k) = some (.lit (.string k), []) := plainElem_string (s := ⟨k.toArray⟩) Tryd.underlying9 (by show k.length ≤ maxLen; unfold maxLen; omega)
theorem q46 (w : World) (r : Option Nat) : (binOp .eql 46 (.map r) (.map none)).run Tryd.prog w = .ok (.bool r.isNone) w := run_eql_map_nil w _ _ _ r Tryd.underlying46

set_option maxHeartbeats 1000000 in
/-- AN OPTION WITHOUT A VALUE, the map there. -/
theorem set_bare_some {mb : Nat} (h : PS w0 w B T Pb Bb cap l i nm (some mb) true key os) (ht : Tab w0) (hB : 4 ≤ B) (v : Bs) (hv : Low v) (hl : v.length ≤ 100) (ho : os.length ≤ 100) :
    Calls Tryd.prog 41 #[.pointer (some ⟨T, 0, none⟩), str [], str v] w (Kept w0 B T Pb Bb cap l i nm key (os ++ [(v, [])])) := by
  have Q := q46
  go_enter Tryd.func41, Tryd.ntmps41
  go_wp2_with fail
  refine (trim_low [] w (by simp [Low]) (by simp) (tab_below h.below hB ht)).mono ?_
  rintro e w1 ⟨rfl, hb1⟩
  have h1 := h.new hb1
  clear hb1
  go_wp2_with fail
  refine (trim_low v w1 hv hl (tab_below h1.below hB ht)).mono ?_
  rintro e w2 ⟨rfl, hb2⟩
  have h2 := h1.new hb2
  clear hb2 h1
  have c3 := h2.c3
  have c2 := h2.c2
  obtain ⟨hmb, n, hn, hown⟩ := h2.om
  have hn1 : n < maxLen := by unfold maxLen; omega
  have hk := hkey v hl
  have he := helem [] (by simp)
  go_wp2_with (first
    | (at_mapUpdate; refine wpList_mapUpdate_own _ rfl _ _ _ 46 rfl 9 9 law9 Tryd.underlying46 _ mb n _ rfl hown hn1 _ _ _ rfl rfl hk _ [] he ?_; intro w3 hown3 hg3)
    | fail)
  have hend := h2.put (x := (v, [])) hn hown3 hg3
  go_end0
  exact ⟨rfl, _, hend⟩

set_option maxHeartbeats 1000000 in
/-- AN OPTION WITHOUT A VALUE, no map yet. -/
theorem set_bare_none (h : PS w0 w B T Pb Bb cap l i nm none true key os) (ht : Tab w0) (hB : 4 ≤ B) (v : Bs) (hv : Low v) (hl : v.length ≤ 100) (ho : os.length ≤ 100) :
    Calls Tryd.prog 41 #[.pointer (some ⟨T, 0, none⟩), str [], str v] w (Kept w0 B T Pb Bb cap l i nm key (os ++ [(v, [])])) := by
  have Q := q46
  have M := @run_makeMap Tryd.prog
  go_enter Tryd.func41, Tryd.ntmps41
  go_wp2_with fail
  refine (trim_low [] w (by simp [Low]) (by simp) (tab_below h.below hB ht)).mono ?_
  rintro e w1 ⟨rfl, hb1⟩
  have h1 := h.new hb1
  clear hb1
  go_wp2_with fail
  refine (trim_low v w1 hv hl (tab_below h1.below hB ht)).mono ?_
  rintro e w2 ⟨rfl, hb2⟩
  have h2 := h1.new hb2
  clear hb2 h1
  have c3 := h2.c3
  have c2 := h2.c2
  have f2 := h2.f 2
  have hTl := h2.Tl
  have h3 := h2.make
  obtain ⟨hmb, n, hn, hown⟩ := h3.om
  have hn1 : n < maxLen := by unfold maxLen; omega
  have hk := hkey v hl
  have he := helem [] (by simp)
  go_wp2_with (first
    | (at_mapUpdate; go_must (refine wpList_mapUpdate_own _ rfl _ _ _ 46 rfl 9 9 law9 Tryd.underlying46 _ w2.heap.size n _ rfl hown hn1 _ _ _ rfl rfl hk _ [] he ?_); intro w3 hown3 hg3)
    | fail)
  have hend := h3.put (x := (v, [])) hn hown3 hg3
  go_end0
  exact ⟨rfl, _, hend⟩

set_option maxHeartbeats 1000000 in
/-- AN OPTION WITH A VALUE, the map there. -/
theorem set_val_some {mb : Nat} (h : PS w0 w B T Pb Bb cap l i nm (some mb) has key os) (ht : Tab w0) (hB : 4 ≤ B) (k v : Bs) (hkl : Low k) (hk1 : 1 ≤ k.length) (hk2 : k.length ≤ 100) (hv : Low v) (hl : v.length ≤ 100) (ho : os.length ≤ 100) :
    Calls Tryd.prog 41 #[.pointer (some ⟨T, 0, none⟩), str k, str v] w (Kept w0 B T Pb Bb cap l i nm key (os ++ [(k, v)])) := by
  have Q := q46
  have ne1 : ¬ k = [] := by rintro rfl; simp at hk1
  have ne2 : k.isEmpty = false := by cases k; simp at hk1; rfl
  cases has
  all_goals
    go_enter Tryd.func41, Tryd.ntmps41
    go_wp2_with fail
    refine (trim_low k w hkl hk2 (tab_below h.below hB ht)).mono ?_
    rintro e w1 ⟨rfl, hb1⟩
    have h1 := h.new hb1
    clear hb1
    go_wp2_with fail
    refine (trim_low v w1 hv hl (tab_below h1.below hB ht)).mono ?_
    rintro e w2 ⟨rfl, hb2⟩
    have h2 := h1.new hb2
    clear hb2 h1
    have c3 := h2.c3
    have f3 := h2.f 3
    have c2 := h2.c2
  · have h3 := h2.setHas
    obtain ⟨hmb, n, hn, hown⟩ := h3.om
    have hn1 : n < maxLen := by unfold maxLen; omega
    have hk := hkey k hk2
    have he := helem v hl
    go_wp2_with (first
      | (at_mapUpdate; go_must (refine wpList_mapUpdate_own _ rfl _ _ _ 46 rfl 9 9 law9 Tryd.underlying46 _ mb n _ rfl hown hn1 _ _ _ rfl rfl hk _ [] he ?_); intro w3 hown3 hg3)
      | fail)
    have hend := h3.put (x := (k, v)) hn hown3 hg3
    go_end0
    exact ⟨rfl, _, hend⟩
  · obtain ⟨hmb, n, hn, hown⟩ := h2.om
    have hn1 : n < maxLen := by unfold maxLen; omega
    have hk := hkey k hk2
    have he := helem v hl
    go_wp2_with (first
      | (at_mapUpdate; go_must (refine wpList_mapUpdate_own _ rfl _ _ _ 46 rfl 9 9 law9 Tryd.underlying46 _ mb n _ rfl hown hn1 _ _ _ rfl rfl hk _ [] he ?_); intro w3 hown3 hg3)
      | fail)
    have hend := h2.put (x := (k, v)) hn hown3 hg3
    go_end0
    exact ⟨rfl, _, hend⟩

set_option maxHeartbeats 1000000 in
/-- AN OPTION WITH A VALUE, no map yet. -/
theorem set_val_none (h : PS w0 w B T Pb Bb cap l i nm none has key os) (ht : Tab w0) (hB : 4 ≤ B) (k v : Bs) (hkl : Low k) (hk1 : 1 ≤ k.length) (hk2 : k.length ≤ 100) (hv : Low v) (hl : v.length ≤ 100) (ho : os.length ≤ 100) :
    Calls Tryd.prog 41 #[.pointer (some ⟨T, 0, none⟩), str k, str v] w (Kept w0 B T Pb Bb cap l i nm key (os ++ [(k, v)])) := by
  have Q := q46
  have M := @run_makeMap Tryd.prog
  have ne1 : ¬ k = [] := by rintro rfl; simp at hk1
  have ne2 : k.isEmpty = false := by cases k; simp at hk1; rfl
  cases has
  all_goals
    go_enter Tryd.func41, Tryd.ntmps41
    go_wp2_with fail
    refine (trim_low k w hkl hk2 (tab_below h.below hB ht)).mono ?_
    rintro e w1 ⟨rfl, hb1⟩
    have h1 := h.new hb1
    clear hb1
    go_wp2_with fail
    refine (trim_low v w1 hv hl (tab_below h1.below hB ht)).mono ?_
    rintro e w2 ⟨rfl, hb2⟩
    have h2 := h1.new hb2
    clear hb2 h1
    have c3 := h2.c3
    have f3 := h2.f 3
    have c2 := h2.c2
    have f2 := h2.f 2
    have hTl := h2.Tl
  · have h3 := h2.setHas.make
    have hsz : (w2.setCell ⟨T, 3, none⟩ (.bool true)).heap.size = w2.heap.size := by simp [World.setCell]
    rw [hsz] at h3
    clear hsz
    obtain ⟨hmb, n, hn, hown⟩ := h3.om
    have hn1 : n < maxLen := by unfold maxLen; omega
    have hk := hkey k hk2
    have he := helem v hl
    go_wp2_with (first
      | (at_mapUpdate; go_must (refine wpList_mapUpdate_own _ rfl _ _ _ 46 rfl 9 9 law9 Tryd.underlying46 _ _ n _ rfl hown hn1 _ _ _ rfl rfl hk _ [] he ?_); intro w3 hown3 hg3)
      | fail)
    have hend := h3.put (x := (k, v)) hn hown3 hg3
    go_end0
    exact ⟨rfl, _, hend⟩
  · have h3 := h2.make
    obtain ⟨hmb, n, hn, hown⟩ := h3.om
    have hn1 : n < maxLen := by unfold maxLen; omega
    have hk := hkey k hk2
    have he := helem v hl
    go_wp2_with (first
      | (at_mapUpdate; go_must (refine wpList_mapUpdate_own _ rfl _ _ _ 46 rfl 9 9 law9 Tryd.underlying46 _ w2.heap.size n _ rfl hown hn1 _ _ _ rfl rfl hk _ [] he ?_); intro w3 hown3 hg3)
      | fail)
    have hend := h3.put (x := (k, v)) hn hown3 hg3
    go_end0
    exact ⟨rfl, _, hend⟩
end
end Go.Proofs.YtoegdojeajeoaaaDoor
