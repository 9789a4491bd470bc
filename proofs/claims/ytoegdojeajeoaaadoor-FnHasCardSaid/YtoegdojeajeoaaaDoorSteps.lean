/- The reader's methods and setTagOption, said of what is known of the reader in memory. -/
import Derived.Test.YtoegdojeajeoaaaDoorSet
import Derived.Laws.BytesArg
namespace Go.Proofs.YtoegdojeajeoaaaDoor
open Go.RowKit Go.Maps Go.WideMaps

section
variable {w0 w : World} {B T Pb Bb cap : Nat} {l : Bs} {i : Nat} {nm : Bs} {m : Option Nat} {has : Bool} {key : Bs} {os : List It}

theorem grownBy_drewN (w : World) (q : Nat) : w.grownBy (w.drewN q) none := ⟨rfl, rfl, rfl, Nat.le_refl _, fun _ _ _ => rfl⟩

theorem valid_t (h : PS w0 w B T Pb Bb cap l i nm m has key os) (hi : i < l.length) :
    Calls Tryd.prog 38 #[.pointer (some ⟨Pb, 0, none⟩)] w fun e w' => e = .returned (.bool true) ∧ PS w0 w' B T Pb Bb cap l i nm m has key os ∧ w.grownBy w' none :=
  (valid_yes Pb Bb l.length cap i w h.p0 h.p1 hi).mono fun e w' ⟨he, q, hw⟩ => by subst hw; exact ⟨he, h.drewN q, grownBy_drewN w q⟩
theorem valid_f (h : PS w0 w B T Pb Bb cap l i nm m has key os) (hi : i = l.length) :
    Calls Tryd.prog 38 #[.pointer (some ⟨Pb, 0, none⟩)] w fun e w' => e = .returned (.bool false) ∧ PS w0 w' B T Pb Bb cap l i nm m has key os ∧ w.grownBy w' none :=
  (valid_no Pb Bb l.length cap w h.p0 (by rw [← hi]; exact h.p1)).mono fun e w' ⟨he, q, hw⟩ => by subst hw; exact ⟨he, h.drewN q, grownBy_drewN w q⟩
theorem peek_ps (h : PS w0 w B T Pb Bb cap l i nm m has key os) (hi : i < l.length) (c : UInt8) (hc : l.getD i 0 = c) :
    Calls Tryd.prog 58 #[.pointer (some ⟨Pb, 0, none⟩)] w fun e w' => e = .returned (byt c) ∧ PS w0 w' B T Pb Bb cap l i nm m has key os ∧ w.grownBy w' none :=
  (peek_byte Pb Bb l.length cap i c w h.p0 h.p1 hi (by rw [← hc]; exact h.bb i hi)).mono fun e w' ⟨he, q, hw⟩ => by subst hw; exact ⟨he, h.drewN q, grownBy_drewN w q⟩
theorem skip_ps (h : PS w0 w B T Pb Bb cap l i nm m has key os) (hi : i < l.length) (c : UInt8) (k : Int) (hc : l.getD i 0 = c) (hne : ((c.toNat : Int) == k) = false) :
    Calls Tryd.prog 40 #[.pointer (some ⟨Pb, 0, none⟩), .int .u8 k] w fun e w' => e = .returned (.bool false) ∧ PS w0 w' B T Pb Bb cap l i nm m has key os ∧ w.grownBy w' none :=
  (skip_no Pb Bb l.length cap i c k w h.p0 h.p1 hi (by rw [← hc]; exact h.bb i hi) hne).mono fun e w' ⟨he, q, hw⟩ => by subst hw; exact ⟨he, h.drewN q, grownBy_drewN w q⟩
theorem read_ps (h : PS w0 w B T Pb Bb cap l i nm m has key os) (hi : i < l.length) (hl : l.length ≤ 100) (c : UInt8) (hc : l.getD i 0 = c) :
    Calls Tryd.prog 39 #[.pointer (some ⟨Pb, 0, none⟩)] w fun e w' => e = .returned (byt c) ∧ PS w0 w' B T Pb Bb cap l (i + 1) nm m has key os ∧ w.grownBy w' (some Pb) :=
  (read_byte Pb Bb l.length cap i c w h.p0 h.p1 (h.fp 1) hi (by omega) (by rw [← hc]; exact h.bb i hi)).mono fun e w' ⟨he, q, hw⟩ => by
    subst hw
    have hg := grownBy_setCell w ⟨Pb, 1, none⟩ (.int .i64 ((i : Int) + 1))
    exact ⟨he, (h.next (i' := i + 1) (by omega)).drewN q, ⟨hg.os, hg.tape, hg.output, hg.size, hg.block⟩⟩

/-- AN ITEM WITHOUT A VALUE is set. -/
theorem set_bare (h : PS w0 w B T Pb Bb cap l i nm m has key os) (ht : Tab w0) (hB : 4 ≤ B) (v : Bs) (hv : Low v) (hl : v.length ≤ 100) (ho : os.length ≤ 100) :
    Calls Tryd.prog 41 #[.pointer (some ⟨T, 0, none⟩), str [], str v] w (Kept w0 B T Pb Bb cap l i ((⟨has, nm, os⟩ : St).step (v, [])).name key ((⟨has, nm, os⟩ : St).step (v, [])).os) := by
  cases has with
  | false =>
    rw [St.step_name _ _ rfl rfl]
    have : m = m := rfl
    exact set_name h ht hB v hv hl
  | true =>
    rw [St.step_has _ _ rfl]
    cases m with
    | none => exact set_bare_none h ht hB v hv hl ho
    | some mb => exact set_bare_some h ht hB v hv hl ho
/-- AN ITEM WITH A VALUE is set. -/
theorem set_val (h : PS w0 w B T Pb Bb cap l i nm m has key os) (ht : Tab w0) (hB : 4 ≤ B) (k v : Bs) (hkl : Low k) (hk1 : 1 ≤ k.length) (hk2 : k.length ≤ 100) (hv : Low v) (hv0 : v ≠ []) (hl : v.length ≤ 100) (ho : os.length ≤ 100) :
    Calls Tryd.prog 41 #[.pointer (some ⟨T, 0, none⟩), str k, str v] w (Kept w0 B T Pb Bb cap l i ((⟨has, nm, os⟩ : St).step (k, v)).name key ((⟨has, nm, os⟩ : St).step (k, v)).os) := by
  rw [St.step_val _ _ hv0]
  cases m with
  | none => exact set_val_none h ht hB k v hkl hk1 hk2 hv hl ho
  | some mb => exact set_val_some h ht hB k v hkl hk1 hk2 hv hl ho

theorem strOf_bytes (ks : Bs) : strOfNums (ks.map fun c => (c.toNat : Int)) = ⟨ks.toArray⟩ := by
  have e : (ks.map fun c => (c.toNat : Int)).map (fun n => UInt8.ofNat n.toNat) = ks := by
    rw [List.map_map]
    conv => rhs; rw [← List.map_id ks]
    exact List.map_congr_left fun c _ => by simp
  unfold strOfNums
  rw [e]

/-- 'string(b)', b a slice of the call's own. -/
theorem conv_own {base n : Nat} {v : Value} {ks : Bs} (h : w.ownsRow base 5 1 v n (ks.map byt)) : (convert 22 9 v).run Tryd.prog w = .ok (str ks) w := by
  obtain ⟨hl, h2⟩ := h
  rcases h2 with ⟨rfl, hn⟩ | ⟨g, cp, cur, rfl, _, hb, h1, h3, h4, h5⟩
  · have : ks = [] := by
      have : ks.length = 0 := by simpa [hn] using hl
      exact List.length_eq_zero_iff.1 this
    subst this
    exact run_convert_bytes_nil w 22 5 Tryd.underlying22 Tryd.underlying5 0 0 9 Tryd.underlying9
  · have hlen : ks.length = n := by simpa using hl
    have := run_convert_bytes_arg w 22 5 Tryd.underlying22 Tryd.underlying5 g 0 n cp (ks.map fun c => (c.toNat : Int)) (by simpa using hlen) (fun j hj => by
      have e : (cur.toList.take (n * 1))[j]? = (ks.map byt)[j]? := by rw [h5]
      rw [List.getElem?_take, if_pos (by omega)] at e
      have hk : ks[j]? = some (ks[j]'(by omega)) := List.getElem?_eq_getElem (by omega)
      rw [List.getElem?_map, hk] at e
      rw [Nat.zero_add]
      rw [cell_in hb (v := byt (ks[j]'(by omega))) (by rw [← Array.getElem?_toList]; exact e)]
      simp [List.getD, hk]) 9 Tryd.underlying9
    rw [this, strOf_bytes]
end
end Go.Proofs.YtoegdojeajeoaaaDoor
