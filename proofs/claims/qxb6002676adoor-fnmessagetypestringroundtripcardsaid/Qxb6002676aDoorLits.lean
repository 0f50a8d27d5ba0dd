/-
  The walk of zzb1ParseMessageType.
-/
import Derived.Test.Qxb6002676aDoorShelf
import Derived.WalkKit
import Derived.WalkSpells
import Derived.WalkLawsBesides
namespace Go.Proofs.Qxb6002676aDoor
open Go.RowKit

set_option maxHeartbeats 400000 in
theorem par_1 (w : World) :
    Calls Tryd.prog 7 #[.string ⟨#[77, 115, 103, 86, 111, 116, 101]⟩] w fun e w' => e = .returned (.tuple #[.int .u8 1, .bool true]) ∧ w' = w := by
  go_enter Tryd.func7, Tryd.ntmps7
  go_wp2
  go_ret2
  exact ⟨rfl, rfl⟩

set_option maxHeartbeats 400000 in
theorem par_2 (w : World) :
    Calls Tryd.prog 7 #[.string ⟨#[77, 115, 103, 86, 111, 116, 101, 82, 101, 115, 112]⟩] w fun e w' => e = .returned (.tuple #[.int .u8 2, .bool true]) ∧ w' = w := by
  go_enter Tryd.func7, Tryd.ntmps7
  go_wp2
  go_ret2
  exact ⟨rfl, rfl⟩

set_option maxHeartbeats 400000 in
theorem par_3 (w : World) :
    Calls Tryd.prog 7 #[.string ⟨#[77, 115, 103, 65, 112, 112]⟩] w fun e w' => e = .returned (.tuple #[.int .u8 3, .bool true]) ∧ w' = w := by
  go_enter Tryd.func7, Tryd.ntmps7
  go_wp2
  go_ret2
  exact ⟨rfl, rfl⟩

set_option maxHeartbeats 400000 in
theorem par_4 (w : World) :
    Calls Tryd.prog 7 #[.string ⟨#[77, 115, 103, 65, 112, 112, 82, 101, 115, 112]⟩] w fun e w' => e = .returned (.tuple #[.int .u8 4, .bool true]) ∧ w' = w := by
  go_enter Tryd.func7, Tryd.ntmps7
  go_wp2
  go_ret2
  exact ⟨rfl, rfl⟩

set_option maxHeartbeats 400000 in
theorem par_5 (w : World) :
    Calls Tryd.prog 7 #[.string ⟨#[77, 115, 103, 72, 101, 97, 114, 116, 98, 101, 97, 116]⟩] w fun e w' => e = .returned (.tuple #[.int .u8 5, .bool true]) ∧ w' = w := by
  go_enter Tryd.func7, Tryd.ntmps7
  go_wp2
  go_ret2
  exact ⟨rfl, rfl⟩

set_option maxHeartbeats 400000 in
theorem par_6 (w : World) :
    Calls Tryd.prog 7 #[.string ⟨#[77, 115, 103, 72, 101, 97, 114, 116, 98, 101, 97, 116, 82, 101, 115, 112]⟩] w fun e w' => e = .returned (.tuple #[.int .u8 6, .bool true]) ∧ w' = w := by
  go_enter Tryd.func7, Tryd.ntmps7
  go_wp2
  go_ret2
  exact ⟨rfl, rfl⟩

set_option maxHeartbeats 400000 in
theorem par_7 (w : World) :
    Calls Tryd.prog 7 #[.string ⟨#[77, 115, 103, 80, 114, 101, 86, 111, 116, 101]⟩] w fun e w' => e = .returned (.tuple #[.int .u8 7, .bool true]) ∧ w' = w := by
  go_enter Tryd.func7, Tryd.ntmps7
  go_wp2
  go_ret2
  exact ⟨rfl, rfl⟩

set_option maxHeartbeats 400000 in
theorem par_8 (w : World) :
    Calls Tryd.prog 7 #[.string ⟨#[77, 115, 103, 80, 114, 101, 86, 111, 116, 101, 82, 101, 115, 112]⟩] w fun e w' => e = .returned (.tuple #[.int .u8 8, .bool true]) ∧ w' = w := by
  go_enter Tryd.func7, Tryd.ntmps7
  go_wp2
  go_ret2
  exact ⟨rfl, rfl⟩

set_option maxHeartbeats 400000 in
theorem par_9 (w : World) :
    Calls Tryd.prog 7 #[.string ⟨#[77, 115, 103, 83, 116, 101, 112, 68, 111, 119, 110]⟩] w fun e w' => e = .returned (.tuple #[.int .u8 9, .bool true]) ∧ w' = w := by
  go_enter Tryd.func7, Tryd.ntmps7
  go_wp2
  go_ret2
  exact ⟨rfl, rfl⟩

set_option maxHeartbeats 400000 in
theorem par_10 (w : World) :
    Calls Tryd.prog 7 #[.string ⟨#[77, 115, 103, 83, 110, 97, 112]⟩] w fun e w' => e = .returned (.tuple #[.int .u8 10, .bool true]) ∧ w' = w := by
  go_enter Tryd.func7, Tryd.ntmps7
  go_wp2
  go_ret2
  exact ⟨rfl, rfl⟩

set_option maxHeartbeats 400000 in
theorem par_11 (w : World) :
    Calls Tryd.prog 7 #[.string ⟨#[77, 115, 103, 82, 101, 109, 111, 118, 97, 108]⟩] w fun e w' => e = .returned (.tuple #[.int .u8 11, .bool true]) ∧ w' = w := by
  go_enter Tryd.func7, Tryd.ntmps7
  go_wp2
  go_ret2
  exact ⟨rfl, rfl⟩

set_option maxHeartbeats 400000 in
theorem par_12 (w : World) :
    Calls Tryd.prog 7 #[.string ⟨#[77, 115, 103, 82, 101, 109, 111, 118, 97, 108, 82, 101, 115, 112]⟩] w fun e w' => e = .returned (.tuple #[.int .u8 12, .bool true]) ∧ w' = w := by
  go_enter Tryd.func7, Tryd.ntmps7
  go_wp2
  go_ret2
  exact ⟨rfl, rfl⟩
end Go.Proofs.Qxb6002676aDoor
