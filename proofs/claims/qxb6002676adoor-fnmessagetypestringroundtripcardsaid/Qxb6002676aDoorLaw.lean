/-
  The walk of the law itself: for every t the call returns true; the world has at most grown.
-/
import Derived.Test.Qxb6002676aDoorStr
import Derived.Test.Qxb6002676aDoorLits
import Derived.Test.Qxb6002676aDoorTxt
import Derived.Lib.AppendIntMem
import Derived.Lib.ItoaLen
namespace Go.Proofs.Qxb6002676aDoor
open Go.RowKit

set_option maxHeartbeats 400000 in
theorem law_of (t : Int) (s : ByteArray) (w : World) (R : World → Prop) (h6 : Calls Tryd.prog 6 #[.int .u8 t] w fun e w' => e = .returned (.string s) ∧ R w')
    (h7 : ∀ w', Calls Tryd.prog 7 #[.string s] w' fun e w'' => e = .returned (.tuple #[.int .u8 t, .bool true]) ∧ w'' = w') :
    Calls Tryd.prog 3 #[.int .u8 t] w fun e w' => e = .returned (.bool true) ∧ R w' := by
  have H6 : Hid (Calls Tryd.prog 6 #[.int .u8 t] w fun e w' => e = .returned (.string s) ∧ R w') := h6
  have H7 : Hid (∀ w', Calls Tryd.prog 7 #[.string s] w' fun e w'' => e = .returned (.tuple #[.int .u8 t, .bool true]) ∧ w'' = w') := h7
  clear h6 h7
  go_enter Tryd.func3, Tryd.ntmps3
  go_wp2_with fail
  refine H6.out.mono ?_
  rintro e w1 ⟨rfl, hR⟩
  go_wp2_with fail
  refine (H7.out w1).mono ?_
  rintro e w2 ⟨rfl, rfl⟩
  go_wp2
  go_ret
  exact ⟨by simp, hR⟩

theorem txt_eq (l : List UInt8) : (⟨#[77, 101, 115, 115, 97, 103, 101, 84, 121, 112, 101, 40]⟩ : ByteArray) ++ ⟨l.toArray⟩ ++ ⟨#[41]⟩ = txt l := by
  apply ByteArray.ext
  apply Array.ext'
  simp [txt, pre]

theorem law_any (t : Int) (h0 : 0 ≤ t) (h1 : t ≤ 255) (w : World) (htab : Lib.TabIs Tryd.prog w tabName .u64 Lib.pow10Tab) :
    Calls Tryd.prog 3 #[.int .u8 t] w fun e w' => e = .returned (.bool true) ∧ Below w.heap.size w w' := by
  have same : ∀ s, (Calls Tryd.prog 6 #[.int .u8 t] w fun e w' => e = .returned (.string s) ∧ w' = w) → (∀ w', Calls Tryd.prog 7 #[.string s] w' fun e w'' => e = .returned (.tuple #[.int .u8 t, .bool true]) ∧ w'' = w') →
      Calls Tryd.prog 3 #[.int .u8 t] w fun e w' => e = .returned (.bool true) ∧ Below w.heap.size w w' := by
    intro s a b
    refine (law_of t s w (fun w' => w' = w) a b).mono ?_
    rintro e w' ⟨rfl, rfl⟩
    exact ⟨rfl, Below.refl _ _⟩
  by_cases c1 : t = 1
  · subst c1; exact same _ (str_1 w) par_1
  by_cases c2 : t = 2
  · subst c2; exact same _ (str_2 w) par_2
  by_cases c3 : t = 3
  · subst c3; exact same _ (str_3 w) par_3
  by_cases c4 : t = 4
  · subst c4; exact same _ (str_4 w) par_4
  by_cases c5 : t = 5
  · subst c5; exact same _ (str_5 w) par_5
  by_cases c6 : t = 6
  · subst c6; exact same _ (str_6 w) par_6
  by_cases c7 : t = 7
  · subst c7; exact same _ (str_7 w) par_7
  by_cases c8 : t = 8
  · subst c8; exact same _ (str_8 w) par_8
  by_cases c9 : t = 9
  · subst c9; exact same _ (str_9 w) par_9
  by_cases c10 : t = 10
  · subst c10; exact same _ (str_10 w) par_10
  by_cases c11 : t = 11
  · subst c11; exact same _ (str_11 w) par_11
  by_cases c12 : t = 12
  · subst c12; exact same _ (str_12 w) par_12
  obtain ⟨u, rfl⟩ := Int.eq_ofNat_of_zero_le h0
  have ei : Lib.itoa (u : Int) = digs u := by
    rw [Lib.itoa_nonneg, dec_digs u (by omega)]
  refine (law_of (u : Int) (txt (digs u)) w (fun w' => ∃ k os, w' = Go.Sort.grow (w.drewN k) os) ?_ (fun w' => par_txt u (by omega) w')).mono ?_
  · have := str_other (u : Int) h0 h1 (by simp [c1]) (by simp [c2]) (by simp [c3]) (by simp [c4]) (by simp [c5]) (by simp [c6]) (by simp [c7]) (by simp [c8]) (by simp [c9]) (by simp [c10]) (by simp [c11]) (by simp [c12]) w htab
      (Lib.itoa_length_le _ (by omega) (by omega))
    rw [ei, txt_eq] at this
    exact this
  · rintro e w' ⟨rfl, k, os, rfl⟩
    exact ⟨rfl, Lib.below_grow _ w (Nat.le_refl _) k os⟩
end Go.Proofs.Qxb6002676aDoor
