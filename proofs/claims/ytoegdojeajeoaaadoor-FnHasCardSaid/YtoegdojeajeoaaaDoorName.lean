/- spec.Name, walked: three small letters. -/
import Derived.Test.YtoegdojeajeoaaaDoorSteps
namespace Go.Proofs.YtoegdojeajeoaaaDoor
open Go.RowKit Go.Maps Go.WideMaps

/-- 'string(b)', b a new block of bytes. -/
theorem conv_new (w : World) (a b c : Int) : (convert 22 9 (.slice (some ⟨w.heap.size, 0, none⟩) 3 3)).run Tryd.prog (w.alloc (.cells #[.int .u8 a, .int .u8 b, .int .u8 c] 5)) = .ok (.string (strOfNums [a, b, c])) (w.alloc (.cells #[.int .u8 a, .int .u8 b, .int .u8 c] 5)) :=
  run_convert_bytes_arg _ 22 5 Tryd.underlying22 Tryd.underlying5 w.heap.size 0 3 3 [a, b, c] rfl (fun i hi => by
    have hb := (MapKept.heap_alloc w (.cells #[.int .u8 a, .int .u8 b, .int .u8 c] 5)).1
    rw [Nat.zero_add]
    refine cell_in hb ?_
    match i, hi with
    | 0, _ => rfl
    | 1, _ => rfl
    | 2, _ => rfl) 9 Tryd.underlying9

theorem low_nil : Low [] := fun _ h => by cases h
theorem low_cons {c : UInt8} {l : Bs} (hc : 97 ≤ c.toNat ∧ c.toNat ≤ 122) (h : Low l) : Low (c :: l) := fun d hd => by
  rcases List.mem_cons.1 hd with rfl | hd
  · exact hc
  · exact h d hd
theorem low_ofInt (z : Int) (h1 : 97 ≤ z) (h2 : z ≤ 122) : 97 ≤ (UInt8.ofNat z.toNat).toNat ∧ (UInt8.ofNat z.toNat).toNat ≤ 122 := by
  have : (UInt8.ofNat z.toNat).toNat = z.toNat := by
    rw [UInt8.toNat_ofNat']
    omega
  omega

set_option maxRecDepth 100000 in
set_option maxHeartbeats 400000 in
theorem name_any (n : Int) (w : World) (h0 : 0 ≤ n) (h1 : n ≤ 255) :
    Calls Tryd.prog 10 #[.int .u8 n] w fun e w' => ∃ s : Bs, e = .returned (str s) ∧ Low s ∧ s.length = 3 ∧ Below w.heap.size w w' := by
  have hcv := fun a b => conv_new w 110 a b
  go_enter Tryd.func10, Tryd.ntmps10
  go_wp2
  go_ret
  exact ⟨[110, UInt8.ofNat (97 + n % 7).toNat, UInt8.ofNat (97 + n / 7 % 7).toNat], rfl, low_cons ⟨by decide, by decide⟩ (low_cons (low_ofInt _ (by omega) (by omega)) (low_cons (low_ofInt _ (by omega) (by omega)) low_nil)), rfl, (Below.refl _ _).alloc (Nat.le_refl _) _⟩
end Go.Proofs.YtoegdojeajeoaaaDoor
