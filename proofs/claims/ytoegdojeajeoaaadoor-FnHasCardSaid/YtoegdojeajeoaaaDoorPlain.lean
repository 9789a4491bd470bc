/- Plain facts on lists for the statements about tags: what the reader of a tag makes of items, what the options are, and that sorted lists of the same options are one. No program, no memory. -/
import Derived.Sort.KeysCollected
import Derived.Maps.OwnSet
import Derived.Lib.Join
namespace Go.Proofs.YtoegdojeajeoaaaDoor
open Go.Maps

abbrev Bs := List UInt8
abbrev It := List UInt8 × List UInt8

/-- Small letters alone. -/
def Low (l : Bs) : Prop := ∀ c ∈ l, 97 ≤ c.toNat ∧ c.toNat ≤ 122
/-- An item: a key of one to three small letters, a value of at most two. -/
def OkIt (x : It) : Prop := Low x.1 ∧ Low x.2 ∧ 1 ≤ x.1.length ∧ x.1.length ≤ 3 ∧ x.2.length ≤ 2
/-- At most six items, no key twice. -/
def Good (xs : List It) : Prop := (∀ x ∈ xs, OkIt x) ∧ (xs.map (·.1)).Nodup ∧ xs.length ≤ 6

/-- An item's text. -/
def part (x : It) : Bs := if x.2 = [] then x.1 else x.1 ++ 58 :: x.2
/-- The items' texts, a comma ahead of each. -/
def rest (xs : List It) : Bs := xs.flatMap fun x => 44 :: part x
/-- The tag's text. -/
def tagOf (name : Bs) (xs : List It) : Bs := name ++ rest xs
/-- An option's text. -/
def opt (x : It) : Bs := x.1 ++ 61 :: x.2
/-- The options, in order. -/
def opts (xs : List It) : List Bs := (xs.map opt).mergeSort leB

theorem rest_nil : rest [] = [] := rfl
theorem rest_cons (x : It) (xs : List It) : rest (x :: xs) = 44 :: (part x ++ rest xs) := by simp [rest]
theorem part_bare {x : It} (h : x.2 = []) : part x = x.1 := by simp [part, h]
theorem part_val {x : It} (h : x.2 ≠ []) : part x = x.1 ++ 58 :: x.2 := by simp [part, h]

theorem join_tag (name : Bs) (xs : List It) : Lib.join (name :: xs.map part) [44] = tagOf name xs := by
  rw [Lib.join_cons]
  simp [tagOf, rest, Lib.joinTail, List.flatMap_def, List.map_map, Function.comp_def]

/-! ### what the reader keeps -/
structure St where
  has : Bool
  name : Bs
  os : List It

def St.step (s : St) (x : It) : St := if s.has = false ∧ x.2 = [] then ⟨true, x.1, s.os⟩ else ⟨true, s.name, s.os ++ [x]⟩

theorem St.step_has (s : St) (x : It) (h : s.has = true) : s.step x = ⟨true, s.name, s.os ++ [x]⟩ := by simp [St.step, h]
theorem St.step_name (s : St) (x : It) (h : s.has = false) (hx : x.2 = []) : s.step x = ⟨true, x.1, s.os⟩ := by simp [St.step, h, hx]
theorem St.step_val (s : St) (x : It) (hx : x.2 ≠ []) : s.step x = ⟨true, s.name, s.os ++ [x]⟩ := by simp [St.step, hx]

theorem St.fold_has (xs : List It) : ∀ s : St, s.has = true → xs.foldl St.step s = ⟨true, s.name, s.os ++ xs⟩ := by
  induction xs with
  | nil => intro s h; cases s; simp_all
  | cons x xs ih => intro s h; rw [List.foldl_cons, St.step_has s x h, ih _ rfl]; simp

theorem St.fold_name (name : Bs) (xs : List It) : ((name, []) :: xs).foldl St.step ⟨false, [], []⟩ = ⟨true, name, xs⟩ := by
  rw [List.foldl_cons, St.step_name _ _ rfl rfl, St.fold_has _ _ rfl]; rfl

theorem St.fold_val (x : It) (xs : List It) (hx : x.2 ≠ []) : (x :: xs).foldl St.step ⟨false, [], []⟩ = ⟨true, [], x :: xs⟩ := by
  rw [List.foldl_cons, St.step_val _ _ hx, St.fold_has _ _ rfl]; rfl

/-! ### the map -/
/-- What the map of options reads as. -/
def Dof (os : List It) : DataW Unit := os.foldl (fun D x => D.put (.string x.1) (.lit (.string x.2))) (.map [])

theorem Dof_nil : Dof [] = .map [] := rfl
theorem Dof_snoc (os : List It) (x : It) : Dof (os ++ [x]) = (Dof os).put (.string x.1) (.lit (.string x.2)) := by simp [Dof, List.foldl_append]

theorem isMap_fold (os : List It) : ∀ D : DataW Unit, IsMap D → IsMap (os.foldl (fun D x => D.put (.string x.1) (.lit (.string x.2))) D) := by
  induction os with
  | nil => exact fun D h => h
  | cons x os ih => exact fun D h => ih _ (h.put _ _)
theorem Dof_isMap (os : List It) : IsMap (Dof os) := isMap_fold os _ isMap_empty

theorem keyLit {a : Bs} : WideAt.IsKeyLit (Lit.string a) := by simp [WideAt.IsKeyLit]
theorem lit_ne {a b : Bs} (h : a ≠ b) : Lit.string a ≠ Lit.string b := fun e => h (by simpa using e)

theorem has_fold (os : List It) (k : Bs) : ∀ D : DataW Unit, IsMap D → has (os.foldl (fun D x => D.put (.string x.1) (.lit (.string x.2))) D) (.string k) = (has D (.string k) || os.any (fun x => x.1 == k)) := by
  induction os with
  | nil => intro D _; simp
  | cons x os ih =>
    intro D h
    rw [List.foldl_cons, ih _ (h.put _ _)]
    by_cases e : x.1 = k
    · subst e
      rw [has_put_same h keyLit]
      simp
    · have e' : (x.1 == k) = false := by simp [e]
      rw [has_put_other (lit_ne (Ne.symm e)), List.any_cons, e', Bool.false_or]
theorem has_Dof (os : List It) (k : Bs) : has (Dof os) (.string k) = os.any (fun x => x.1 == k) := by
  rw [Dof, has_fold _ _ _ isMap_empty]; simp [has]

theorem atKey_skip (os : List It) (k : Bs) (z : DataW Unit) : ∀ D : DataW Unit, (∀ x ∈ os, x.1 ≠ k) → (os.foldl (fun D x => D.put (.string x.1) (.lit (.string x.2))) D).atKey (.string k) z = D.atKey (.string k) z := by
  induction os with
  | nil => intro D _; rfl
  | cons x os ih =>
    intro D h
    rw [List.foldl_cons, ih _ (fun y hy => h y (List.mem_cons_of_mem _ hy)), atKey_put_other (lit_ne (Ne.symm (h x List.mem_cons_self)))]

theorem atKey_fold (os : List It) (x : It) (z : DataW Unit) : ∀ D : DataW Unit, IsMap D → (os.map (·.1)).Nodup → x ∈ os → (os.foldl (fun D x => D.put (.string x.1) (.lit (.string x.2))) D).atKey (.string x.1) z = .lit (.string x.2) := by
  induction os with
  | nil => intro D _ _ h; cases h
  | cons y os ih =>
    intro D hD hn hx
    rw [List.map_cons, List.nodup_cons] at hn
    rw [List.foldl_cons]
    rcases List.mem_cons.1 hx with rfl | hx
    · rw [atKey_skip _ _ _ _ (fun q hq e => hn.1 (by rw [← e]; exact List.mem_map_of_mem hq)), atKey_put_same hD keyLit]
    · exact ih _ (hD.put _ _) hn.2 hx
theorem atKey_Dof {os : List It} (hn : (os.map (·.1)).Nodup) {x : It} (hx : x ∈ os) (z : DataW Unit) : (Dof os).atKey (.string x.1) z = .lit (.string x.2) :=
  atKey_fold os x z _ isMap_empty hn hx

/-! ### what a range over the map collects -/
theorem nodup_of_keys {xs : List It} (h : (xs.map (·.1)).Nodup) : xs.Nodup := by
  refine (List.pairwise_map.1 h).imp ?_
  intro a b hne e
  exact hne (by rw [e])

/-- Pairs whose keys are the map's, each with the map's value: they are the items in some order. -/
theorem perm_items {xs ps : List It} (hx : (xs.map (·.1)).Nodup) (hp : (ps.map (·.1)).Nodup) (hk : ∀ k, k ∈ ps.map (·.1) ↔ has (Dof xs) (.string k) = true)
    (hv : ∀ p ∈ ps, ∀ z, (Dof xs).atKey (.string p.1) z = .lit (.string p.2)) : ps.Perm xs := by
  refine (List.perm_ext_iff_of_nodup (nodup_of_keys hp) (nodup_of_keys hx)).2 fun p => ?_
  have hmem : ∀ p ∈ ps, p ∈ xs := by
    intro p hpm
    have h1 := (hk p.1).1 (List.mem_map_of_mem hpm)
    rw [has_Dof, List.any_eq_true] at h1
    obtain ⟨y, hy, he⟩ := h1
    have he : y.1 = p.1 := by simpa using he
    have h2 := hv p hpm .nil
    rw [← he, atKey_Dof hx hy] at h2
    have h3 : y.2 = p.2 := by simpa using h2
    have : y = p := Prod.ext he h3
    exact this ▸ hy
  refine ⟨hmem p, fun hpm => ?_⟩
  have h1 : has (Dof xs) (.string p.1) = true := by
    rw [has_Dof, List.any_eq_true]
    exact ⟨p, hpm, by simp⟩
  obtain ⟨q, hq, he⟩ := List.mem_map.1 ((hk p.1).2 h1)
  have hqx := hmem q hq
  have h2 := hv q hq .nil
  rw [he, atKey_Dof hx hpm] at h2
  have h3 : p.2 = q.2 := by simpa using h2
  have : q = p := Prod.ext he h3.symm
  exact this ▸ hq

theorem opts_of_perm {xs ys : List It} (h : xs.Perm ys) : opts xs = opts ys := mergeSort_of_perm (h.map opt)

/-- The options of the items the other way round. -/
theorem opts_reverse (xs : List It) : opts xs.reverse = opts xs := opts_of_perm (List.reverse_perm xs)
theorem opts_length (xs : List It) : (opts xs).length = xs.length := by simp [opts, List.length_mergeSort]

/-! ### Good items -/
theorem Good.reverse {xs : List It} (h : Good xs) : Good xs.reverse :=
  ⟨fun x hx => h.1 x (List.mem_reverse.1 hx), by rw [List.map_reverse]; exact (List.reverse_perm _).nodup_iff.2 h.2.1, by simpa using h.2.2⟩
/-- Items without their values. -/
def bare (xs : List It) : List It := xs.map fun x => (x.1, [])
theorem Good.bare {xs : List It} (h : Good xs) : Good (bare xs) := by
  refine ⟨fun x hx => ?_, ?_, by simpa [YtoegdojeajeoaaaDoor.bare] using h.2.2⟩
  · obtain ⟨y, hy, rfl⟩ := List.mem_map.1 hx
    obtain ⟨h1, _, h3, h4, _⟩ := h.1 y hy
    exact ⟨h1, by simp [Low], h3, h4, by simp⟩
  · have e : ((YtoegdojeajeoaaaDoor.bare xs).map (·.1)) = xs.map (·.1) := by simp [YtoegdojeajeoaaaDoor.bare, Function.comp_def]
    rw [e]; exact h.2.1
theorem Good.tail {x : It} {xs : List It} (h : Good (x :: xs)) : Good xs := by
  refine ⟨fun y hy => h.1 y (List.mem_cons_of_mem _ hy), ?_, by have := h.2.2; simp at this; omega⟩
  have := h.2.1
  rw [List.map_cons, List.nodup_cons] at this
  exact this.2

theorem part_length {x : It} (h : OkIt x) : 1 ≤ (part x).length ∧ (part x).length ≤ 6 := by
  obtain ⟨_, _, h3, h4, h5⟩ := h
  unfold part
  split
  · omega
  · simp; omega
theorem rest_length (xs : List It) (h : ∀ x ∈ xs, OkIt x) : (rest xs).length ≤ 7 * xs.length := by
  induction xs with
  | nil => simp [rest]
  | cons x xs ih =>
    have h1 := (part_length (h x List.mem_cons_self)).2
    have h2 := ih fun y hy => h y (List.mem_cons_of_mem _ hy)
    rw [rest_cons]
    simp
    omega
theorem tag_length {name : Bs} {xs : List It} (hn : name.length ≤ 3) (h : Good xs) : (tagOf name xs).length ≤ 45 := by
  have := rest_length xs h.1
  have := h.2.2
  unfold tagOf
  simp
  omega
end Go.Proofs.YtoegdojeajeoaaaDoor
