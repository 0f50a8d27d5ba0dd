/-
  The closure that the sort is handed, and the three functions on two ranges.
-/
import Derived.Test.Qxb6002608aShelf
import Derived.Test.Qxb6002608aRow
namespace Go.Proofs.Qxb6002608a
open Go.RowKit Go.Shelf Go.Lib Go.Sort

/-- a range as a tuple: the sort's element -/
abbrev T4 := ByteArray × ByteArray × Bool × Bool
def T4.kr (x : T4) : KR := ⟨x.1, x.2.1, x.2.2.1, x.2.2.2⟩
def KR.t4 (x : KR) : T4 := (x.s, x.e, x.th, x.op)
def enc4 (x : T4) : List Value := [.string x.1, .string x.2.1, .bool x.2.2.1, .bool x.2.2.2]
def cf4 (x y : T4) : Int := Lib.compareBytes x.1.data.toList y.1.data.toList

theorem compare_lt : ∀ x y : List UInt8, decide (Lib.compareBytes x y < 0) = Op.bytesLess x y
  | [], [] => rfl
  | [], _ :: _ => rfl
  | _ :: _, [] => rfl
  | a :: x, b :: y => by
    simp only [Lib.compareBytes, Op.bytesLess]
    by_cases h : a < b
    · simp [h]
    · by_cases h' : b < a
      · have : (a == b) = false := by
          simp only [beq_eq_false_iff_ne]; rintro rfl; exact h h'
        simp [h, h', this]
      · have e : a = b := by
          apply UInt8.toNat_inj.1
          rw [UInt8.lt_iff_toNat_lt] at h h'
          omega
        subst e
        simp [h, compare_lt x y]
theorem lt4 (x y : T4) : ltOf cf4 x y = lss x.1 y.1 := by
  unfold ltOf cf4 lss
  rw [compare_lt, ByteArray.toList_eq, ByteArray.toList_eq]
theorem lt_ntrans (x y z : Key) (h : Op.bytesLess x y = false) (h' : Op.bytesLess y z = false) : Op.bytesLess x z = false := by
  cases e : Op.bytesLess x z with
  | false => rfl
  | true =>
    rcases lt_tri x y with a | a | a
    · rw [h] at a; cases a
    · subst a; rw [h'] at e; cases e
    · have := lt_trans _ _ _ a e
      rw [h'] at this; cases this
theorem swo4 : SWO (ltOf cf4) where
  irrefl x := by rw [lt4]; exact lt_irrefl _
  trans x y z h1 h2 := by rw [lt4] at *; exact lt_trans _ _ _ h1 h2
  ntrans x y z h1 h2 := by rw [lt4] at *; exact lt_ntrans _ _ _ h1 h2

set_option maxHeartbeats 1000000 in
theorem closure52 (x y : T4) (W : World) : Calls Try.prog 52 #[.agg #[.string x.1, .string x.2.1, .bool x.2.2.1, .bool x.2.2.2], .agg #[.string y.1, .string y.2.1, .bool y.2.2.1, .bool y.2.2.2]] W
    fun e w' => e = .returned (.int .i64 (cf4 x y)) ∧ ∃ q os', w' = grow (W.drewN q) os' := by
  have hcon := fun W' => Any.strings_Compare Try.lays106 x.1 y.1 W'
  change ∀ W', Calls Try.prog 53 _ _ _ at hcon
  unfold cf4
  generalize Lib.compareBytes x.1.data.toList y.1.data.toList = r at hcon ⊢
  go_enter Try.func52, Try.ntmps52
  go_wp2_with (go_at_call 53; refine (hcon _).mono ?_; rintro e w' ⟨rfl, rfl⟩)
  go_ret
  exact ⟨rfl, 0, _, by rw [alloc_eq_grow, alloc_eq_grow, grow_grow]; rfl⟩
theorem cmpLays52 (blk off size : Nat) (w : World) : CmpLays Try.prog 52 #[] enc4 4 cf4 blk off size w :=
  fun _ _ _ _ x y => closure52 x y _

set_option maxHeartbeats 1000000 in
theorem startsPast_walk (rs re ss se : ByteArray) (rt ro st so : Bool) (w : World) :
    Calls Try.prog 54 #[.agg #[.string rs, .string re, .bool rt, .bool ro], .agg #[.string ss, .string se, .bool st, .bool so]] w
      fun e' w' => e' = .returned (.bool (past ⟨rs, re, rt, ro⟩ ⟨ss, se, st, so⟩)) ∧ Below w.heap.size w w' := by
  cases so with
  | true =>
    have hr : past ⟨rs, re, rt, ro⟩ ⟨ss, se, st, true⟩ = false := by simp [past]
    rw [hr]; clear hr
    go_enter Try.func54, Try.ntmps54
    go_wp2
    go_ret
    exact ⟨rfl, ((Below.refl _ _).alloc (Nat.le_refl _) _).alloc (by simp) _⟩
  | false =>
    have hr : past ⟨rs, re, rt, ro⟩ ⟨ss, se, st, false⟩ = (!Op.bytesLess rs.toList se.toList && !rs.toList == se.toList) := by simp [past, lss, eqk]
    rw [hr]; clear hr
    go_enter Try.func54, Try.ntmps54
    go_wp2
    go_ret
    exact ⟨rfl, ((Below.refl _ _).alloc (Nat.le_refl _) _).alloc (by simp) _⟩

set_option maxHeartbeats 1000000 in
theorem endsAfter_walk (rs re ss se : ByteArray) (rt ro st so : Bool) (w : World) :
    Calls Try.prog 76 #[.agg #[.string rs, .string re, .bool rt, .bool ro], .agg #[.string ss, .string se, .bool st, .bool so]] w
      fun e' w' => e' = .returned (.bool (after ⟨rs, re, rt, ro⟩ ⟨ss, se, st, so⟩)) ∧ Below w.heap.size w w' := by
  cases so with
  | true =>
    have hr : after ⟨rs, re, rt, ro⟩ ⟨ss, se, st, true⟩ = false := by simp [after]
    rw [hr]; clear hr
    go_enter Try.func76, Try.ntmps76
    go_wp2
    go_ret
    exact ⟨rfl, ((Below.refl _ _).alloc (Nat.le_refl _) _).alloc (by simp) _⟩
  | false =>
    cases ro with
    | true =>
      have hr : after ⟨rs, re, rt, true⟩ ⟨ss, se, st, false⟩ = true := by simp [after]
      rw [hr]; clear hr
      go_enter Try.func76, Try.ntmps76
      go_wp2
      go_ret
      exact ⟨rfl, ((Below.refl _ _).alloc (Nat.le_refl _) _).alloc (by simp) _⟩
    | false =>
      cases h : re.toList == se.toList with
      | true =>
        have hr : after ⟨rs, re, rt, false⟩ ⟨ss, se, st, false⟩ = (rt && !st) := by simp [after, eqk, h]
        rw [hr]; clear hr
        cases rt with
        | true =>
          go_enter Try.func76, Try.ntmps76
          go_wp2
          go_ret
          exact ⟨rfl, ((Below.refl _ _).alloc (Nat.le_refl _) _).alloc (by simp) _⟩
        | false =>
          go_enter Try.func76, Try.ntmps76
          go_wp2
          go_ret
          exact ⟨rfl, ((Below.refl _ _).alloc (Nat.le_refl _) _).alloc (by simp) _⟩
      | false =>
        have hr : after ⟨rs, re, rt, false⟩ ⟨ss, se, st, false⟩ = !(Op.bytesLess re.toList se.toList) := by simp [after, eqk, lss, h]
        rw [hr]; clear hr
        go_enter Try.func76, Try.ntmps76
        go_wp2
        go_ret
        exact ⟨rfl, ((Below.refl _ _).alloc (Nat.le_refl _) _).alloc (by simp) _⟩
end Go.Proofs.Qxb6002608a
