/-
  '==' between two addresses: the one thing that the walk asks: '==' between their handles.
-/
import Derived.Test.Qxb6003779aDoorRow
import Derived.LaidEql
namespace Go.Proofs.Qxb6003779aDoor
open Go.RowKit

/-- the blocks behind the two handles -/
def Zp (w : World) (p4 p6 : Addr) : Prop := (∃ c t, w.heap[p4.block]? = some (.cells c t (0, 0))) ∧ (∃ c t, w.heap[p6.block]? = some (.cells c t (0, 0)))
theorem Zp.old {w w' : World} {p4 p6 : Addr} (h : Zp w p4 p6) (hb : Below w.heap.size w w') : Zp w' p4 p6 := by
  obtain ⟨⟨c, t, h1⟩, ⟨c', t', h2⟩⟩ := h
  exact ⟨⟨c, t, by rw [hb.block _ (lt_of_block h1)]; exact h1⟩, ⟨c', t', by rw [hb.block _ (lt_of_block h2)]; exact h2⟩⟩

theorem size66 : Tryd.t66.size = 2 := by kernel_rfl

theorem ptr_sameD (d : Nat) (z : Option Addr) (w : World) : (Op.equalIn (d + 1) 29 (.pointer z) (.pointer z)).run Tryd.prog w = .ok true w := by
  have h := Tryd.underlying29
  cases z with
  | none => simp [Op.equalIn, run_underlying h]
  | some a => simp [Op.equalIn, run_underlying h, sizeOf, run_sameAddr_same]

theorem ptr_otherD (d : Nat) (z z' : Option Addr) (p4 p6 : Addr) (w : World) (hw : Zp w p4 p6) (hz : z = none ∨ z = some p4 ∨ z = some p6) (hz' : z' = none ∨ z' = some p4 ∨ z' = some p6) (hne : z ≠ z') :
    (Op.equalIn (d + 1) 29 (.pointer z) (.pointer z')).run Tryd.prog w = .ok false w := by
  have h := Tryd.underlying29
  obtain ⟨⟨c, t, h1⟩, ⟨c', t', h2⟩⟩ := hw
  cases z with
  | none =>
    cases z' with
    | none => exact absurd rfl hne
    | some b => simp [Op.equalIn, run_underlying h]
  | some a =>
    cases z' with
    | none => simp [Op.equalIn, run_underlying h]
    | some b =>
      have hab : a ≠ b := fun e => hne (by rw [e])
      have ha : ∃ c t, w.heap[a.block]? = some (.cells c t (0, 0)) := by
        rcases hz with hz | hz | hz
        · cases hz
        · cases hz; exact ⟨c, t, h1⟩
        · cases hz; exact ⟨c', t', h2⟩
      have hb : ∃ c t, w.heap[b.block]? = some (.cells c t (0, 0)) := by
        rcases hz' with hz' | hz' | hz'
        · cases hz'
        · cases hz'; exact ⟨c, t, h1⟩
        · cases hz'; exact ⟨c', t', h2⟩
      obtain ⟨ca, ta, ha⟩ := ha
      obtain ⟨cb, tb, hb⟩ := hb
      simp [Op.equalIn, run_underlying h, sizeOf, size66, run_sameAddr_other w hab ha hb]

theorem ptr_same (z : Option Addr) (w : World) : (Op.equalIn 9998 29 (.pointer z) (.pointer z)).run Tryd.prog w = .ok true w := ptr_sameD 9997 z w
theorem ptr_other (z z' : Option Addr) (p4 p6 : Addr) (w : World) (hw : Zp w p4 p6) (hz : z = none ∨ z = some p4 ∨ z = some p6) (hz' : z' = none ∨ z' = some p4 ∨ z' = some p6) (hne : z ≠ z') :
    (Op.equalIn 9998 29 (.pointer z) (.pointer z')).run Tryd.prog w = .ok false w := ptr_otherD 9997 z z' p4 p6 w hw hz hz' hne

theorem A3.parts (x y : A3) : x = y ∨ ¬ x.hi = y.hi ∨ (x.hi = y.hi ∧ ¬ x.lo = y.lo) ∨ (x.hi = y.hi ∧ x.lo = y.lo ∧ x.z ≠ y.z) := by
  by_cases h1 : x.hi = y.hi
  · by_cases h2 : x.lo = y.lo
    · by_cases h3 : x.z = y.z
      · left; cases x; cases y; simp_all
      · exact Or.inr (Or.inr (Or.inr ⟨h1, h2, h3⟩))
    · exact Or.inr (Or.inr (Or.inl ⟨h1, h2⟩))
  · exact Or.inr (Or.inl h1)

theorem adr_z_cases (p4 p6 : Addr) (a : PA) : (a.adr p4 p6).z = none ∨ (a.adr p4 p6).z = some p4 ∨ (a.adr p4 p6).z = some p6 := by
  unfold PA.adr
  split
  · exact Or.inr (Or.inl rfl)
  · exact Or.inr (Or.inr rfl)

theorem eql_form (x y : A3) (w : World) (b : Bool) (h : (Op.equalIn 9998 29 (.pointer x.z) (.pointer y.z)).run Tryd.prog w = .ok b w) :
    (binOp .eql 33 (.agg #[.int .u64 x.hi, .int .u64 x.lo, .pointer x.z]) (.agg #[.int .u64 y.hi, .int .u64 y.lo, .pointer y.z])).run Tryd.prog w = .ok (.bool (decide (x.hi = y.hi) && (decide (x.lo = y.lo) && b))) w ∧
    (binOp .neq 33 (.agg #[.int .u64 x.hi, .int .u64 x.lo, .pointer x.z]) (.agg #[.int .u64 y.hi, .int .u64 y.lo, .pointer y.z])).run Tryd.prog w = .ok (.bool (!(decide (x.hi = y.hi) && (decide (x.lo = y.lo) && b)))) w := by
  by_cases h1 : x.hi = y.hi <;> by_cases h2 : x.lo = y.lo <;> cases b <;> constructor <;> simp [go_sem, h, h1, h2]

/-- the handles that come up -/
def Hz (p4 p6 : Addr) (x : A3) : Prop := x.z = none ∨ x.z = some p4 ∨ x.z = some p6

theorem eq_same (x : A3) (w : World) :
    (binOp .eql 33 (.agg #[.int .u64 x.hi, .int .u64 x.lo, .pointer x.z]) (.agg #[.int .u64 x.hi, .int .u64 x.lo, .pointer x.z])).run Tryd.prog w = .ok (.bool true) w ∧
    (binOp .neq 33 (.agg #[.int .u64 x.hi, .int .u64 x.lo, .pointer x.z]) (.agg #[.int .u64 x.hi, .int .u64 x.lo, .pointer x.z])).run Tryd.prog w = .ok (.bool false) w := by
  have := eql_form x x w true (ptr_same x.z w)
  simpa using this

theorem eq_other (p4 p6 : Addr) (x y : A3) (w : World) (hw : Zp w p4 p6) (hx : Hz p4 p6 x) (hy : Hz p4 p6 y) (hne : x ≠ y) :
    (binOp .eql 33 (.agg #[.int .u64 x.hi, .int .u64 x.lo, .pointer x.z]) (.agg #[.int .u64 y.hi, .int .u64 y.lo, .pointer y.z])).run Tryd.prog w = .ok (.bool false) w := by
  by_cases hz : x.z = y.z
  · have h0 := ptr_same x.z w
    have := (eql_form x y w true (by rw [← hz]; exact h0)).1
    rw [this]
    have : (decide (x.hi = y.hi) && (decide (x.lo = y.lo) && true)) = false := by
      rw [Bool.and_true, Bool.and_eq_false_iff, decide_eq_false_iff_not, decide_eq_false_iff_not]
      by_cases h1 : x.hi = y.hi
      · right
        intro h2
        apply hne
        cases x; cases y; simp_all
      · exact Or.inl h1
    rw [this]
  · have := (eql_form x y w false (ptr_other _ _ p4 p6 w hw hx hy hz)).1
    rw [this]
    simp

theorem ptr_nilD (d : Nat) (a : Addr) (w : World) : (Op.equalIn (d + 1) 29 (.pointer (some a)) (.pointer none)).run Tryd.prog w = .ok false w := by
  have h := Tryd.underlying29
  simp [Op.equalIn, run_underlying h]

theorem eq_zero (y : A3) (hy : y.z.isSome = true) (w : World) :
    (binOp .eql 33 (.agg #[.int .u64 y.hi, .int .u64 y.lo, .pointer y.z]) (.agg #[.int .u64 0, .int .u64 0, .pointer none])).run Tryd.prog w = .ok (.bool false) w := by
  obtain ⟨a, ha⟩ := Option.isSome_iff_exists.1 hy
  have := (eql_form y A3.zero w false (by rw [ha]; exact ptr_nilD 9997 a w)).1
  simpa [A3.zero] using this

/-- two addresses that differ: their numbers do, or their handles alone -/
theorem eq_parts (x y : A3) (hne : x ≠ y) :
    (∀ w : World, (binOp .eql 33 (.agg #[.int .u64 x.hi, .int .u64 x.lo, .pointer x.z]) (.agg #[.int .u64 y.hi, .int .u64 y.lo, .pointer y.z])).run Tryd.prog w = .ok (.bool false) w) ∨
    (x.hi = y.hi ∧ x.lo = y.lo ∧ x.z ≠ y.z) := by
  rcases A3.parts x y with e | e | ⟨e, e'⟩ | e
  · exact absurd e hne
  · left; intro w; simp [go_sem, e]
  · left; intro w; simp [go_sem, e, e']
  · exact Or.inr e
end Go.Proofs.Qxb6003779aDoor
