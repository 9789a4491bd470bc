/- Parse, walked: what the tag that it hands back holds. -/
import Derived.Test.YtoegdojeajeoaaaDoorVal
namespace Go.Proofs.YtoegdojeajeoaaaDoor
open Go.RowKit Go.Maps Go.WideMaps

/-- A new reader over these bytes. -/
def NewReader (w : World) (l : Bs) (e : Ending) (w' : World) : Prop :=
  ∃ Pb Bb cap, e = .returned (.pointer (some ⟨Pb, 0, none⟩)) ∧ Below w.heap.size w w' ∧ w.heap.size ≤ Pb ∧ w.heap.size ≤ Bb ∧ Bb < w'.heap.size ∧ Bb ≠ Pb ∧
    w'.heap[Pb]? = some (.cells #[.slice (some ⟨Bb, 0, none⟩) l.length cap, .int .i64 (0 : Nat)] 91 (0, 0)) ∧ ∀ j, j < l.length → w'.cell? ⟨Bb, j, none⟩ = some (byt (l.getD j 0))

set_option maxHeartbeats 400000 in
theorem new_any (b : Value) (w : World) (a : Option Addr) (n c : Nat) (hb : b = .slice a n c) : Calls Tryd.prog 37 #[b] w fun e w' => e = .returned (.pointer (some ⟨w.heap.size, 0, none⟩)) ∧ w' = w.alloc (.cells #[b, .int .i64 0] 91) := by
  subst hb
  go_enter Tryd.func37, Tryd.ntmps37
  go_wp2
  go_ret
  exact ⟨rfl, rfl⟩

/-- What the new reader's two blocks hold. -/
theorem new_holds (w : World) (l : Bs) : NewReader w l (.returned (.pointer (some ⟨(Lib.bytesWorld w 5 ⟨l.toArray⟩).heap.size, 0, none⟩)))
    ((Lib.bytesWorld w 5 ⟨l.toArray⟩).alloc (.cells #[.slice (some ⟨w.heap.size, 0, none⟩) l.length (grownCap w l.length 0 5), .int .i64 0] 91)) := by
  have hs : (Lib.bytesWorld w 5 ⟨l.toArray⟩).heap.size = w.heap.size + 1 := Lib.bytesWorld_size _ _ _
  have hb := below_bytesWorld w 5 ⟨l.toArray⟩
  refine ⟨_, w.heap.size, _, rfl, hb.alloc hb.size _, hb.size, Nat.le_refl _, by simp; omega, by omega, (MapKept.heap_alloc _ _).1, fun j hj => ?_⟩
  rw [World.cell?_of_block (w := Lib.bytesWorld w 5 ⟨l.toArray⟩) (Below.heap_alloc _ _ _ (by show w.heap.size < _; omega))]
  exact Lib.bytesWorld_cell w 5 ⟨l.toArray⟩ j hj

set_option maxHeartbeats 400000 in
theorem newString_any (l : Bs) (w : World) : Calls Tryd.prog 31 #[str l] w (NewReader w l) := by
  have hcv := fun (w : World) => Lib.run_convert_string_bytes (P := Tryd.prog) w 9 22 5 ⟨l.toArray⟩ Tryd.underlying9 Tryd.underlying22 Tryd.underlying5
  have hend := new_holds w l
  go_enter Tryd.func31, Tryd.ntmps31
  go_wp2_with fail
  refine (new_any _ _ _ _ _ rfl).mono ?_
  rintro e w' ⟨rfl, rfl⟩
  clear hcv
  go_wp2_with fail
  go_ret
  exact hend

/-- WHAT PARSE HANDS BACK: a tag in memory that holds what was kept. -/
def TagAt (w : World) (F : St) (e : Ending) (w' : World) : Prop :=
  ∃ T m, e = .returned (.pointer (some ⟨T, 1, none⟩)) ∧ Below w.heap.size w w' ∧ w'.cell? ⟨T, 1, none⟩ = some (str F.name) ∧ w'.cell? ⟨T, 2, none⟩ = some (.map m) ∧ OM w.heap.size w' m F.os ∧ T < w'.heap.size

set_option maxHeartbeats 1000000 in
theorem parse_any (l : Bs) (x : It) (xs : List It) (w : World) (hok : ∀ y ∈ x :: xs, OkIt y) (hl : l.length ≤ 100) (hn : (x :: xs).length ≤ 100) (hd : l = part x ++ rest xs) (ht : Tab w) (hB : 4 ≤ w.heap.size) :
    Calls Tryd.prog 21 #[str l] w (TagAt w ((x :: xs).foldl St.step ⟨false, [], []⟩)) := by
  obtain ⟨F, HE⟩ : ∃ F, Hid (F = (x :: xs).foldl St.step ⟨false, [], []⟩) := ⟨_, rfl⟩
  rw [← HE.out]
  have HD := Lib.hid hd
  have HO := Lib.hid hok
  clear hd hok
  go_enter Tryd.func21, Tryd.ntmps21
  go_wp2_with fail
  refine (newString_any l w).mono ?_
  rintro e w1 ⟨Pb, Bb, cap, rfl, hb1, hP, hBb, hBl, hne, hbp, hbb⟩
  have hps : PS w (w1.alloc (.cells #[.pointer (some ⟨Pb, 0, none⟩), str [], .map none, .bool false, str []] 65)) w.heap.size w1.heap.size Pb Bb cap l 0 [] none false [] [] := by
    have hPl := lt_of_block hbp
    refine ⟨hb1.alloc hb1.size _, Nat.le_refl _, hb1.size, hP, hBb, by simp; omega, (MapKept.heap_alloc _ _).1, ?_, fun j hj => ?_, ⟨hne, by omega⟩, by simp, rfl⟩
    · rw [Below.heap_alloc _ _ _ hPl]; exact hbp
    · rw [World.cell?_of_block (w := w1) (Below.heap_alloc _ _ _ hBl)]; exact hbb j hj
  have hkey := key_any xs x w _ w.heap.size w1.heap.size Pb Bb cap 0 l [] none false [] [] hps ht hB HO.out hl (by simpa using hn) (by rw [List.drop_zero]; exact HD.out)
  have HC := Lib.hid hkey
  clear hkey hbp hbb hps
  go_wp2_with fail
  refine HC.out.mono ?_
  rw [← HE.out]
  rintro e w2 ⟨rfl, i', m', key', hp2⟩
  have hend : TagAt w F (.returned (.pointer (some ⟨w1.heap.size, 1, none⟩))) w2 := ⟨_, m', rfl, hp2.below, hp2.c1, hp2.c2, hp2.om, hp2.Tl⟩
  clear hp2
  go_wp2_with fail
  go_ret
  exact hend
end Go.Proofs.YtoegdojeajeoaaaDoor
