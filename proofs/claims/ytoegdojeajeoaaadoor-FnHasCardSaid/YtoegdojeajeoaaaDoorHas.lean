/- HasOption and impl.Has, walked. -/
import Derived.Test.YtoegdojeajeoaaaDoorParse
namespace Go.Proofs.YtoegdojeajeoaaaDoor
open Go.RowKit Go.Maps Go.WideMaps

theorem zero9 (w : World) : (zeroValue 9).run Tryd.prog w = .ok (.string ⟨#[]⟩) w := by kernel_rfl
/-- Whether an item has this key. -/
def hasKey (os : List It) (k : Bs) : Bool := os.any fun x => x.1 == k

set_option maxHeartbeats 400000 in
theorem hasOption_some (T mb n : Nat) (os : List It) (k : Bs) (w : World) (c2 : w.cell? ⟨T, 2, none⟩ = some (.map (some mb))) (hown : w.ownsMap Tryd.prog 9 (plainElem Tryd.prog 9) mb n (Dof os)) (hk : k.length ≤ 100) :
    Calls Tryd.prog 22 #[.pointer (some ⟨T, 1, none⟩), str k] w fun e w' => e = .returned (.bool (hasKey os k)) ∧ w = w' := by
  have hkk := hkey k hk
  have he := helem [] (by simp)
  have hh : Maps.has (Dof os) (.string k) = hasKey os k := has_Dof os k
  generalize hasKey os k = r at hh ⊢
  go_enter Tryd.func22, Tryd.ntmps22
  go_wp2_with (first
    | (at_lookup; go_must (refine wpList_lookup_own_ok _ rfl _ _ 46 rfl 9 9 law9 Tryd.underlying46 _ (zero9 _) (.lit (.string [])) [] he mb n _ rfl hown _ _ rfl hkk ?_); intro v ps hv; obtain ⟨s, rfl, _, _⟩ := plainElem_string_inv Tryd.underlying9 hv)
    | fail)
  go_ret
  exact ⟨rfl, rfl⟩

set_option maxHeartbeats 400000 in
theorem hasOption_none (T : Nat) (k : Bs) (w : World) (c2 : w.cell? ⟨T, 2, none⟩ = some (.map none)) (hk : k.length ≤ 100) :
    Calls Tryd.prog 22 #[.pointer (some ⟨T, 1, none⟩), str k] w fun e w' => e = .returned (.bool false) ∧ w = w' := by
  have hrun := look_nil (w := w) true law9 Tryd.underlying46 (zero9 _) (hkey k hk)
  go_enter Tryd.func22, Tryd.ntmps22
  go_wp2
  go_ret
  exact ⟨rfl, rfl⟩

/-- HASOPTION, whatever the tag holds. -/
theorem hasOption_any {B : Nat} (T : Nat) (m : Option Nat) (os : List It) (k : Bs) (w : World) (c2 : w.cell? ⟨T, 2, none⟩ = some (.map m)) (h : OM B w m os) (hk : k.length ≤ 100) :
    Calls Tryd.prog 22 #[.pointer (some ⟨T, 1, none⟩), str k] w fun e w' => e = .returned (.bool (hasKey os k)) ∧ w = w' := by
  cases m with
  | none =>
    obtain rfl : os = [] := h
    exact hasOption_none T k w c2 hk
  | some mb =>
    obtain ⟨_, n, _, hown⟩ := h
    exact hasOption_some T mb n os k w c2 hown hk

set_option maxHeartbeats 400000 in
/-- IMPL.HAS at a tag's text. -/
theorem has_any (l : Bs) (x : It) (xs : List It) (k : Bs) (w : World) (hok : ∀ y ∈ x :: xs, OkIt y) (hl : l.length ≤ 100) (hn : (x :: xs).length ≤ 100) (hd : l = part x ++ rest xs) (ht : Tab w) (hB : 4 ≤ w.heap.size) (hk : k.length ≤ 100) :
    Calls Tryd.prog 11 #[str l, str k] w fun e w' => e = .returned (.bool (hasKey ((x :: xs).foldl St.step ⟨false, [], []⟩).os k)) ∧ Below w.heap.size w w' := by
  have HC := Lib.hid (parse_any l x xs w hok hl hn hd ht hB)
  clear hok hd
  generalize (x :: xs).foldl St.step ⟨false, [], []⟩ = F at HC ⊢
  go_enter Tryd.func11, Tryd.ntmps11
  go_wp2_with fail
  refine HC.out.mono ?_
  rintro e w1 ⟨T, m, rfl, hb, c1, c2, hom, hT⟩
  go_wp2_with fail
  refine (hasOption_any T m F.os k w1 c2 hom hk).mono ?_
  rintro e w2 ⟨rfl, rfl⟩
  go_wp2_with fail
  go_ret
  exact ⟨rfl, hb⟩
end Go.Proofs.YtoegdojeajeoaaaDoor
