/-
  The walk of (raft.MessageType).String: twelve names; else 'MessageType(' and the number and ')'.
-/
import Derived.Test.Qxb6002676aDoorShelf
import Derived.WalkKit
import Derived.WalkSpells
import Derived.WalkLawsBesides
namespace Go.Proofs.Qxb6002676aDoor
open Go.RowKit

set_option maxHeartbeats 400000 in
theorem str_1 (w : World) :
    Calls Tryd.prog 6 #[.int .u8 1] w fun e w' => e = .returned (.string ⟨#[77, 115, 103, 86, 111, 116, 101]⟩) ∧ w' = w := by
  go_enter Tryd.func6, Tryd.ntmps6
  go_wp2
  go_ret
  exact ⟨rfl, rfl⟩

set_option maxHeartbeats 400000 in
theorem str_2 (w : World) :
    Calls Tryd.prog 6 #[.int .u8 2] w fun e w' => e = .returned (.string ⟨#[77, 115, 103, 86, 111, 116, 101, 82, 101, 115, 112]⟩) ∧ w' = w := by
  go_enter Tryd.func6, Tryd.ntmps6
  go_wp2
  go_ret
  exact ⟨rfl, rfl⟩

set_option maxHeartbeats 400000 in
theorem str_3 (w : World) :
    Calls Tryd.prog 6 #[.int .u8 3] w fun e w' => e = .returned (.string ⟨#[77, 115, 103, 65, 112, 112]⟩) ∧ w' = w := by
  go_enter Tryd.func6, Tryd.ntmps6
  go_wp2
  go_ret
  exact ⟨rfl, rfl⟩

set_option maxHeartbeats 400000 in
theorem str_4 (w : World) :
    Calls Tryd.prog 6 #[.int .u8 4] w fun e w' => e = .returned (.string ⟨#[77, 115, 103, 65, 112, 112, 82, 101, 115, 112]⟩) ∧ w' = w := by
  go_enter Tryd.func6, Tryd.ntmps6
  go_wp2
  go_ret
  exact ⟨rfl, rfl⟩

set_option maxHeartbeats 400000 in
theorem str_5 (w : World) :
    Calls Tryd.prog 6 #[.int .u8 5] w fun e w' => e = .returned (.string ⟨#[77, 115, 103, 72, 101, 97, 114, 116, 98, 101, 97, 116]⟩) ∧ w' = w := by
  go_enter Tryd.func6, Tryd.ntmps6
  go_wp2
  go_ret
  exact ⟨rfl, rfl⟩

set_option maxHeartbeats 400000 in
theorem str_6 (w : World) :
    Calls Tryd.prog 6 #[.int .u8 6] w fun e w' => e = .returned (.string ⟨#[77, 115, 103, 72, 101, 97, 114, 116, 98, 101, 97, 116, 82, 101, 115, 112]⟩) ∧ w' = w := by
  go_enter Tryd.func6, Tryd.ntmps6
  go_wp2
  go_ret
  exact ⟨rfl, rfl⟩

set_option maxHeartbeats 400000 in
theorem str_7 (w : World) :
    Calls Tryd.prog 6 #[.int .u8 7] w fun e w' => e = .returned (.string ⟨#[77, 115, 103, 80, 114, 101, 86, 111, 116, 101]⟩) ∧ w' = w := by
  go_enter Tryd.func6, Tryd.ntmps6
  go_wp2
  go_ret
  exact ⟨rfl, rfl⟩

set_option maxHeartbeats 400000 in
theorem str_8 (w : World) :
    Calls Tryd.prog 6 #[.int .u8 8] w fun e w' => e = .returned (.string ⟨#[77, 115, 103, 80, 114, 101, 86, 111, 116, 101, 82, 101, 115, 112]⟩) ∧ w' = w := by
  go_enter Tryd.func6, Tryd.ntmps6
  go_wp2
  go_ret
  exact ⟨rfl, rfl⟩

set_option maxHeartbeats 400000 in
theorem str_9 (w : World) :
    Calls Tryd.prog 6 #[.int .u8 9] w fun e w' => e = .returned (.string ⟨#[77, 115, 103, 83, 116, 101, 112, 68, 111, 119, 110]⟩) ∧ w' = w := by
  go_enter Tryd.func6, Tryd.ntmps6
  go_wp2
  go_ret
  exact ⟨rfl, rfl⟩

set_option maxHeartbeats 400000 in
theorem str_10 (w : World) :
    Calls Tryd.prog 6 #[.int .u8 10] w fun e w' => e = .returned (.string ⟨#[77, 115, 103, 83, 110, 97, 112]⟩) ∧ w' = w := by
  go_enter Tryd.func6, Tryd.ntmps6
  go_wp2
  go_ret
  exact ⟨rfl, rfl⟩

set_option maxHeartbeats 400000 in
theorem str_11 (w : World) :
    Calls Tryd.prog 6 #[.int .u8 11] w fun e w' => e = .returned (.string ⟨#[77, 115, 103, 82, 101, 109, 111, 118, 97, 108]⟩) ∧ w' = w := by
  go_enter Tryd.func6, Tryd.ntmps6
  go_wp2
  go_ret
  exact ⟨rfl, rfl⟩

set_option maxHeartbeats 400000 in
theorem str_12 (w : World) :
    Calls Tryd.prog 6 #[.int .u8 12] w fun e w' => e = .returned (.string ⟨#[77, 115, 103, 82, 101, 109, 111, 118, 97, 108, 82, 101, 115, 112]⟩) ∧ w' = w := by
  go_enter Tryd.func6, Tryd.ntmps6
  go_wp2
  go_ret
  exact ⟨rfl, rfl⟩

set_option maxHeartbeats 400000 in
theorem str_other (t : Int) (h0 : 0 ≤ t) (h1 : t ≤ 255) (g1 : (t == 1) = false) (g2 : (t == 2) = false) (g3 : (t == 3) = false) (g4 : (t == 4) = false) (g5 : (t == 5) = false) (g6 : (t == 6) = false) (g7 : (t == 7) = false) (g8 : (t == 8) = false) (g9 : (t == 9) = false) (g10 : (t == 10) = false) (g11 : (t == 11) = false) (g12 : (t == 12) = false) (w : World)
    (htab : Lib.TabIs Tryd.prog w tabName .u64 Lib.pow10Tab) (hl : (Lib.itoa t).length ≤ 21) :
    Calls Tryd.prog 6 #[.int .u8 t] w fun e w' => e = .returned (.string (⟨#[77, 101, 115, 115, 97, 103, 101, 84, 121, 112, 101, 40]⟩ ++ ⟨(Lib.itoa t).toArray⟩ ++ ⟨#[41]⟩)) ∧ ∃ k os, w' = Go.Sort.grow (w.drewN k) os := by
  go_enter Tryd.func6, Tryd.ntmps6
  go_wp2_with (go_at_call 8; refine (itoa_any t (by omega) (by omega) _ htab).mono ?_; rintro e w' ⟨rfl, k, os, rfl⟩)
  go_ret
  exact ⟨rfl, k, os, rfl⟩
end Go.Proofs.Qxb6002676aDoor
