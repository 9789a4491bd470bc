/- The reader's small methods (Valid, Peek, Read, Advance, Skip), each by its contract: what it returns, and that the place alone turns. -/
import Derived.Test.YtoegdojeajeoaaaDoorChecked
import Derived.WalkKit
import Derived.WalkSpells
import Derived.WalkLawsBesides
import Derived.BigQuiet
import Derived.Lib.Hide
namespace Go.Proofs.YtoegdojeajeoaaaDoor
open Go.RowKit

theorem two_drew (w : World) (a b : Nat) : ∃ q, (w.drewN a).drewN b = w.drewN q := ⟨a + b, by simp⟩

set_option maxHeartbeats 400000 in
theorem valid_yes (Pb Bb n cap i : Nat) (w : World) (p0 : w.cell? ⟨Pb, 0, none⟩ = some (.slice (some ⟨Bb, 0, none⟩) n cap)) (p1 : w.cell? ⟨Pb, 1, none⟩ = some (.int .i64 i)) (hi : i < n) :
    Calls Tryd.prog 38 #[.pointer (some ⟨Pb, 0, none⟩)] w fun e w' => e = .returned (.bool true) ∧ ∃ q, w' = w.drewN q := by
  have hlt : decide ((i : Int) < (n : Int)) = true := by simp; omega
  go_enter Tryd.func38, Tryd.ntmps38
  go_wp2
  go_quiet (fail)
  go_wp2
  go_ret
  exact ⟨rfl, _, rfl⟩

set_option maxHeartbeats 400000 in
theorem valid_no (Pb Bb n cap : Nat) (w : World) (p0 : w.cell? ⟨Pb, 0, none⟩ = some (.slice (some ⟨Bb, 0, none⟩) n cap)) (p1 : w.cell? ⟨Pb, 1, none⟩ = some (.int .i64 n)) :
    Calls Tryd.prog 38 #[.pointer (some ⟨Pb, 0, none⟩)] w fun e w' => e = .returned (.bool false) ∧ ∃ q, w' = w.drewN q := by
  go_enter Tryd.func38, Tryd.ntmps38
  go_wp2
  go_quiet (fail)
  go_wp2
  go_ret
  exact ⟨by simp, _, rfl⟩

set_option maxHeartbeats 400000 in
theorem peek_byte (Pb Bb n cap i : Nat) (c : UInt8) (w : World) (p0 : w.cell? ⟨Pb, 0, none⟩ = some (.slice (some ⟨Bb, 0, none⟩) n cap)) (p1 : w.cell? ⟨Pb, 1, none⟩ = some (.int .i64 i)) (hi : i < n)
    (hb : w.cell? ⟨Bb, i, none⟩ = some (.int .u8 c.toNat)) :
    Calls Tryd.prog 58 #[.pointer (some ⟨Pb, 0, none⟩)] w fun e w' => e = .returned (.int .u8 c.toNat) ∧ ∃ q, w' = w.drewN q := by
  go_enter Tryd.func58, Tryd.ntmps58
  go_wp2_with (go_at_call 38; refine (valid_yes Pb Bb n cap i _ p0 p1 hi).mono ?_; rintro e w' ⟨rfl, q, rfl⟩)
  go_quiet (fail)
  go_wp2
  go_ret
  exact ⟨rfl, two_drew _ _ _⟩

set_option maxHeartbeats 400000 in
theorem peek_end (Pb Bb n cap : Nat) (w : World) (p0 : w.cell? ⟨Pb, 0, none⟩ = some (.slice (some ⟨Bb, 0, none⟩) n cap)) (p1 : w.cell? ⟨Pb, 1, none⟩ = some (.int .i64 n)) :
    Calls Tryd.prog 58 #[.pointer (some ⟨Pb, 0, none⟩)] w fun e w' => e = .returned (.int .u8 0) ∧ ∃ q, w' = w.drewN q := by
  go_enter Tryd.func58, Tryd.ntmps58
  go_wp2_with (go_at_call 38; refine (valid_no Pb Bb n cap _ p0 p1).mono ?_; rintro e w' ⟨rfl, q, rfl⟩)
  go_ret
  exact ⟨rfl, _, rfl⟩

set_option maxHeartbeats 400000 in
theorem advance_any (Pb i : Nat) (w : World) (p1 : w.cell? ⟨Pb, 1, none⟩ = some (.int .i64 i)) (f1 : w.frozen? ⟨Pb, 1, none⟩ = false) (hi : i < 140737488355328) :
    Calls Tryd.prog 57 #[.pointer (some ⟨Pb, 0, none⟩)] w fun e w' => e = .returned (.tuple #[]) ∧ w' = w.setCell ⟨Pb, 1, none⟩ (.int .i64 ((i : Int) + 1)) := by
  go_enter Tryd.func57, Tryd.ntmps57
  go_wp2
  go_end0
  exact ⟨rfl, rfl⟩

set_option maxHeartbeats 400000 in
theorem read_byte (Pb Bb n cap i : Nat) (c : UInt8) (w : World) (p0 : w.cell? ⟨Pb, 0, none⟩ = some (.slice (some ⟨Bb, 0, none⟩) n cap)) (p1 : w.cell? ⟨Pb, 1, none⟩ = some (.int .i64 i)) (f1 : w.frozen? ⟨Pb, 1, none⟩ = false) (hi : i < n)
    (hn : n < 140737488355328) (hb : w.cell? ⟨Bb, i, none⟩ = some (.int .u8 c.toNat)) :
    Calls Tryd.prog 39 #[.pointer (some ⟨Pb, 0, none⟩)] w fun e w' => e = .returned (.int .u8 c.toNat) ∧ ∃ q, w' = (w.setCell ⟨Pb, 1, none⟩ (.int .i64 ((i : Int) + 1))).drewN q := by
  go_enter Tryd.func39, Tryd.ntmps39
  go_wp2_with (go_at_call 38; refine (valid_yes Pb Bb n cap i _ p0 p1 hi).mono ?_; rintro e w' ⟨rfl, q, rfl⟩)
  go_quiet (fail)
  go_wp2_with (go_at_call 57; refine (advance_any Pb i _ (by exact p1) (by exact f1) (by omega)).mono ?_; rintro e w' ⟨rfl, rfl⟩)
  go_ret
  exact ⟨rfl, _, rfl⟩

set_option maxHeartbeats 400000 in
/-- Skip of a byte that does not stand next. -/
theorem skip_no (Pb Bb n cap i : Nat) (c : UInt8) (k : Int) (w : World) (p0 : w.cell? ⟨Pb, 0, none⟩ = some (.slice (some ⟨Bb, 0, none⟩) n cap)) (p1 : w.cell? ⟨Pb, 1, none⟩ = some (.int .i64 i)) (hi : i < n)
    (hb : w.cell? ⟨Bb, i, none⟩ = some (.int .u8 c.toNat)) (hne : ((c.toNat : Int) == k) = false) :
    Calls Tryd.prog 40 #[.pointer (some ⟨Pb, 0, none⟩), .int .u8 k] w fun e w' => e = .returned (.bool false) ∧ ∃ q, w' = w.drewN q := by
  go_enter Tryd.func40, Tryd.ntmps40
  go_wp2_with (go_at_call 58; refine (peek_byte Pb Bb n cap i c _ p0 p1 hi hb).mono ?_; rintro e w' ⟨rfl, q, rfl⟩)
  go_ret
  exact ⟨rfl, _, rfl⟩
end Go.Proofs.YtoegdojeajeoaaaDoor
