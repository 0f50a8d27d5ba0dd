/-
  The walk of zzb1ParseMessageType.
-/
import Derived.Test.Qxb6002676aDoorShelf
import Derived.WalkKit
import Derived.WalkSpells
import Derived.WalkLawsBesides
namespace Go.Proofs.Qxb6002676aDoor
open Go.RowKit

theorem ret_int2 {k : IntKind} {a b : Int} {c : Bool} (h : a = b) : Ending.returned (.tuple #[.int k a, .bool c]) = .returned (.tuple #[.int k b, .bool c]) := by rw [h]

set_option maxHeartbeats 1000000 in
theorem par_dec2 (s : ByteArray) (k : Nat) (hk : 1 < k) (hk3 : k ≤ 3) (hs : s.size = 13 + k)
    (g1 : (s.toList == [77, 115, 103, 86, 111, 116, 101]) = false) (g2 : (s.toList == [77, 115, 103, 86, 111, 116, 101, 82, 101, 115, 112]) = false) (g3 : (s.toList == [77, 115, 103, 65, 112, 112]) = false) (g4 : (s.toList == [77, 115, 103, 65, 112, 112, 82, 101, 115, 112]) = false) (g5 : (s.toList == [77, 115, 103, 72, 101, 97, 114, 116, 98, 101, 97, 116]) = false) (g6 : (s.toList == [77, 115, 103, 72, 101, 97, 114, 116, 98, 101, 97, 116, 82, 101, 115, 112]) = false) (g7 : (s.toList == [77, 115, 103, 80, 114, 101, 86, 111, 116, 101]) = false) (g8 : (s.toList == [77, 115, 103, 80, 114, 101, 86, 111, 116, 101, 82, 101, 115, 112]) = false) (g9 : (s.toList == [77, 115, 103, 83, 116, 101, 112, 68, 111, 119, 110]) = false) (g10 : (s.toList == [77, 115, 103, 83, 110, 97, 112]) = false) (g11 : (s.toList == [77, 115, 103, 82, 101, 109, 111, 118, 97, 108]) = false) (g12 : (s.toList == [77, 115, 103, 82, 101, 109, 111, 118, 97, 108, 82, 101, 115, 112]) = false)
    (gp : ((s.extract 0 12).toList == [77, 101, 115, 115, 97, 103, 101, 84, 121, 112, 101, 40]) = true) (gl : ((((s[12 + k]'(by omega)).toNat : Int)) != 41) = false)
    (hz : ((((s.extract 12 (12 + k))[0]'(by simp; omega)).toNat : Int) == 48) = false)
    (hd : ∀ (j : Nat) (h : j < k), 48 ≤ ((((s.extract 12 (12 + k))[j]'(by simp; omega)).toNat : Int)) ∧ ((((s.extract 12 (12 + k))[j]'(by simp; omega)).toNat : Int)) ≤ 57)
    (v : Nat → Int) (hv0 : Hid (v 0 = 0)) (hvs : ∀ (j : Nat) (h : j < k), Hid (v (j + 1) = v j * 10 + ((((s.extract 12 (12 + k))[j]'(by simp; omega)).toNat : Int) - 48)))
    (hvb : ∀ j, j ≤ k → 0 ≤ v j ∧ v j ≤ 999) (hv : v k ≤ 255) (w : World) :
    Calls Tryd.prog 7 #[.string s] w fun e w' => e = .returned (.tuple #[.int .u8 (v k), .bool true]) ∧ w' = w := by
  have gp' : (!((s.extract 0 12).toList == [77, 101, 115, 115, 97, 103, 101, 84, 121, 112, 101, 40])) = false := by rw [gp]; rfl
  go_enter Tryd.func7, Tryd.ntmps7
  go_wp2
  go_loop [6, 7] (fun n i => ∃ j : Nat, j ≤ k ∧ i = .int .i64 j ∧ n = .int .i64 (v j)) (fun _ i => k - (intOf i).toNat)
  case atStart => exact ⟨0, Nat.zero_le _, rfl, by rw [hv0.out]⟩
  case round =>
    obtain ⟨j, hj, rfl, rfl⟩ := hrel
    obtain ⟨hb0, hb1⟩ := hvb j hj
    by_cases hlt : j < k
    · obtain ⟨hd0, hd1⟩ := hd j hlt
      have HV := hvs j hlt
      clear hd hvs
      go_wp2
      go_round
      case rel => exact ⟨j + 1, by omega, by go_num, by rw [HV.out]⟩
      case measure => simp [intOf]; omega
    · obtain rfl : j = k := by omega
      go_wp2
      go_ret2
      exact ⟨ret_int2 (by omega), rfl⟩

set_option maxHeartbeats 1000000 in
theorem par_dec1 (s : ByteArray) (k : Nat) (hk1 : 1 ≤ k) (hk : ¬ 1 < k) (hs : s.size = 13 + k)
    (g1 : (s.toList == [77, 115, 103, 86, 111, 116, 101]) = false) (g2 : (s.toList == [77, 115, 103, 86, 111, 116, 101, 82, 101, 115, 112]) = false) (g3 : (s.toList == [77, 115, 103, 65, 112, 112]) = false) (g4 : (s.toList == [77, 115, 103, 65, 112, 112, 82, 101, 115, 112]) = false) (g5 : (s.toList == [77, 115, 103, 72, 101, 97, 114, 116, 98, 101, 97, 116]) = false) (g6 : (s.toList == [77, 115, 103, 72, 101, 97, 114, 116, 98, 101, 97, 116, 82, 101, 115, 112]) = false) (g7 : (s.toList == [77, 115, 103, 80, 114, 101, 86, 111, 116, 101]) = false) (g8 : (s.toList == [77, 115, 103, 80, 114, 101, 86, 111, 116, 101, 82, 101, 115, 112]) = false) (g9 : (s.toList == [77, 115, 103, 83, 116, 101, 112, 68, 111, 119, 110]) = false) (g10 : (s.toList == [77, 115, 103, 83, 110, 97, 112]) = false) (g11 : (s.toList == [77, 115, 103, 82, 101, 109, 111, 118, 97, 108]) = false) (g12 : (s.toList == [77, 115, 103, 82, 101, 109, 111, 118, 97, 108, 82, 101, 115, 112]) = false)
    (gp : ((s.extract 0 12).toList == [77, 101, 115, 115, 97, 103, 101, 84, 121, 112, 101, 40]) = true) (gl : ((((s[12 + k]'(by omega)).toNat : Int)) != 41) = false)
    (hd : ∀ (j : Nat) (h : j < k), 48 ≤ ((((s.extract 12 (12 + k))[j]'(by simp; omega)).toNat : Int)) ∧ ((((s.extract 12 (12 + k))[j]'(by simp; omega)).toNat : Int)) ≤ 57)
    (v : Nat → Int) (hv0 : Hid (v 0 = 0)) (hvs : ∀ (j : Nat) (h : j < k), Hid (v (j + 1) = v j * 10 + ((((s.extract 12 (12 + k))[j]'(by simp; omega)).toNat : Int) - 48)))
    (hvb : ∀ j, j ≤ k → 0 ≤ v j ∧ v j ≤ 999) (hv : v k ≤ 255) (w : World) :
    Calls Tryd.prog 7 #[.string s] w fun e w' => e = .returned (.tuple #[.int .u8 (v k), .bool true]) ∧ w' = w := by
  have gp' : (!((s.extract 0 12).toList == [77, 101, 115, 115, 97, 103, 101, 84, 121, 112, 101, 40])) = false := by rw [gp]; rfl
  go_enter Tryd.func7, Tryd.ntmps7
  go_wp2
  go_loop [6, 7] (fun n i => ∃ j : Nat, j ≤ k ∧ i = .int .i64 j ∧ n = .int .i64 (v j)) (fun _ i => k - (intOf i).toNat)
  case atStart => exact ⟨0, Nat.zero_le _, rfl, by rw [hv0.out]⟩
  case round =>
    obtain ⟨j, hj, rfl, rfl⟩ := hrel
    obtain ⟨hb0, hb1⟩ := hvb j hj
    by_cases hlt : j < k
    · obtain ⟨hd0, hd1⟩ := hd j hlt
      have HV := hvs j hlt
      clear hd hvs
      go_wp2
      go_round
      case rel => exact ⟨j + 1, by omega, by go_num, by rw [HV.out]⟩
      case measure => simp [intOf]; omega
    · obtain rfl : j = k := by omega
      go_wp2
      go_ret2
      exact ⟨ret_int2 (by omega), rfl⟩
end Go.Proofs.Qxb6002676aDoor
