/- laws.sane, walked; impl.Parsed and impl.Has at the tags that the laws build. -/
import Derived.Test.YtoegdojeajeoaaaDoorParsed
import Derived.Test.YtoegdojeajeoaaaDoorSame
namespace Go.Proofs.YtoegdojeajeoaaaDoor
open Go.RowKit Go.Maps Go.WideMaps Go.Sort

/-- PARSED at a text that is an item and what follows. -/
theorem parsed_text (l : Bs) (x : It) (xs : List It) (nm : Bs) (os : List It) (w : World) (hok : ∀ y ∈ x :: xs, OkIt y) (hl : l.length ≤ 100) (hn : (x :: xs).length ≤ 100) (hd : l = part x ++ rest xs) (ht : Tab w) (hB : 4 ≤ w.heap.size)
    (hF : (x :: xs).foldl St.step ⟨false, [], []⟩ = ⟨true, nm, os⟩) (hnd : (os.map (·.1)).Nodup) (hos : os.length ≤ 100) (hsh : ∀ y ∈ os, OkIt y) :
    Calls Tryd.prog 13 #[str l] w (ParsedAt w nm os) := by
  have h := parse_any l x xs w hok hl hn hd ht hB
  rw [hF] at h
  exact parsed_any l ⟨true, nm, os⟩ w hnd hos (fun y hy => by obtain ⟨_, _, h3, h4, h5⟩ := hsh y hy; exact ⟨by omega, by omega⟩) h

/-- PARSED at a name and good items. -/
theorem parsed_tag (nm : Bs) (xs : List It) (w : World) (hg : Good xs) (h1 : Low nm) (h2 : 1 ≤ nm.length) (h3 : nm.length ≤ 3) (ht : Tab w) (hB : 4 ≤ w.heap.size) : Calls Tryd.prog 13 #[str (tagOf nm xs)] w (ParsedAt w nm xs) := by
  have hl := hg.2.2
  refine parsed_text (tagOf nm xs) (nm, []) xs nm xs w (fun y hy => ?_) (Nat.le_trans (tag_length h3 hg) (by omega)) (by simp; omega) ?_ ht hB (St.fold_name nm xs) hg.2.1 (by omega) hg.1
  · rcases List.mem_cons.1 hy with rfl | hy
    · exact ⟨h1, by simp [Low], h2, h3, by simp⟩
    · exact hg.1 y hy
  · rw [part_bare rfl]; rfl

/-- PARSED at good items without a name, the first of which has a value. -/
theorem parsed_bare (x : It) (xs : List It) (w : World) (hg : Good (x :: xs)) (hx : x.2 ≠ []) (ht : Tab w) (hB : 4 ≤ w.heap.size) : Calls Tryd.prog 13 #[str (part x ++ rest xs)] w (ParsedAt w [] (x :: xs)) := by
  have hl := hg.2.2
  have htl := tag_length (name := []) (by simp) hg
  refine parsed_text _ x xs [] (x :: xs) w hg.1 ?_ (by omega) rfl ht hB (St.fold_val x xs hx) hg.2.1 (by omega) hg.1
  have : (tagOf [] (x :: xs)).length = (part x ++ rest xs).length + 1 := by simp [tagOf, rest_cons]
  omega

/-- HAS at a name and good items. -/
theorem has_tag (nm : Bs) (xs : List It) (k : Bs) (w : World) (hg : Good xs) (h1 : Low nm) (h2 : 1 ≤ nm.length) (h3 : nm.length ≤ 3) (hk : k.length ≤ 100) (ht : Tab w) (hB : 4 ≤ w.heap.size) :
    Calls Tryd.prog 11 #[str (tagOf nm xs), str k] w fun e w' => e = .returned (.bool (hasKey xs k)) ∧ Below w.heap.size w w' := by
  have hl := hg.2.2
  have h := has_any (tagOf nm xs) (nm, []) xs k w (fun y hy => by
    rcases List.mem_cons.1 hy with rfl | hy
    · exact ⟨h1, by simp [Low], h2, h3, by simp⟩
    · exact hg.1 y hy) (Nat.le_trans (tag_length h3 hg) (by omega)) (by simp; omega) (by rw [part_bare rfl]; rfl) ht hB hk
  rw [St.fold_name nm xs] at h
  exact h

set_option maxRecDepth 100000 in
set_option maxHeartbeats 400000 in
theorem sane_any (w : World) (ht : Tab w) (hB : 4 ≤ w.heap.size) : Calls Tryd.prog 12 #[] w fun e w' => e = .returned (.bool true) ∧ Below w.heap.size w w' := by
  have hP := parsed_tag [110] [([107], [118])] w ⟨by simp [OkIt, Low], by simp, by simp⟩ (by simp [Low]) (by simp) (by simp) ht hB
  have HP := Lib.hid hP
  clear hP
  go_enter Tryd.func12, Tryd.ntmps12
  go_wp2_with fail
  refine HP.out.mono ?_
  rintro e w1 ⟨v, rfl, hown, hb⟩
  have hopt : opts [([107], [118])] = [[107, 61, 118]] := by simp [opts, opt]
  rw [hopt] at hown
  obtain ⟨g, cap, rfl, hc⟩ := strs_cells (zs := [[107, 61, 118]]) hown (by simp)
  have c0 := hc 0 (by simp)
  simp at c0
  clear hown hc hopt
  go_wp2_with fail
  go_ret
  exact ⟨rfl, hb⟩
end Go.Proofs.YtoegdojeajeoaaaDoor
