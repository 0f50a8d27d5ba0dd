/-
  A row of addresses that the call itself has made; the slice of plain addresses that came in.
-/
import Derived.Test.Qxb6003779aDoorCarve
namespace Go.Proofs.Qxb6003779aDoor
open Go.RowKit

/-- a row of n addresses, made by the call -/
def Row3 (w : World) (g n : Nat) (f : Nat → A3) : Prop := w.ownsRow 0 33 3 (.slice (some ⟨g, 0, none⟩) n n) n (flat n f)

theorem flat_ext {n : Nat} {f : Nat → A3} {xs : List Value} (hl : xs.length = n * 3) (h : ∀ i j, i < n → j < 3 → xs[i * 3 + j]? = (f i).cells[j]?) : xs = flat n f := by
  apply List.ext_getElem?
  intro t
  by_cases ht : t < n * 3
  · have hd : t = t / 3 * 3 + t % 3 := by omega
    rw [hd, h (t / 3) (t % 3) (by omega) (by omega), flat_at f (t % 3) (by omega) n (t / 3) (by omega)]
  · rw [List.getElem?_eq_none (by omega), List.getElem?_eq_none (by rw [flat_length]; omega)]

theorem flat_congr {n : Nat} {f f' : Nat → A3} (h : ∀ i, i < n → f i = f' i) : flat n f = flat n f' :=
  flat_ext (flat_length n f) fun i j hi hj => by rw [flat_at f j hj n i hi, h i hi]

theorem Row3.congr {w : World} {g n : Nat} {f f' : Nat → A3} (h : Row3 w g n f) (e : ∀ i, i < n → f i = f' i) : Row3 w g n f' := by
  unfold Row3 at *
  rw [← flat_congr e]; exact h

theorem made_flat (n : Nat) : (madeCells #[.int .u64 0, .int .u64 0, .pointer none] (n * 3)).toList = flat n (fun _ => A3.zero) := by
  refine flat_ext (by simp [madeCells]) fun i j hi hj => ?_
  have hlt : i * 3 + j < n * 3 := by omega
  have h3 : j = 0 ∨ j = 1 ∨ j = 2 := by omega
  have hm : (i * 3 + j) % 3 = j := by omega
  simp only [madeCells, Array.toList_map, Array.toList_range, List.getElem?_map]
  rw [List.getElem?_range hlt]
  show some ((#[Value.int .u64 0, .int .u64 0, .pointer none] : Array Value)[(i * 3 + j) % 3]!) = _
  rw [hm]
  rcases h3 with rfl | rfl | rfl <;> rfl

theorem Row3.at3 {w : World} {g n : Nat} {f : Nat → A3} (h : Row3 w g n f) : At3 w g n f := At3.of_owns h
theorem Row3.frozen {w : World} {g n : Nat} {f : Nat → A3} (h : Row3 w g n f) (j : Nat) : w.frozen? ⟨g, j, none⟩ = false := h.frozenAt j
theorem Row3.lt {w : World} {g n : Nat} {f : Nat → A3} (h : Row3 w g n f) : g < w.heap.size := by
  obtain ⟨_, ⟨hx, _⟩ | ⟨g', cap, cur, hx, _, hh, _⟩⟩ := h
  · simp at hx
  · simp at hx
    obtain ⟨rfl, _⟩ := hx
    exact lt_of_block hh
theorem Row3.of_block {w w' : World} {g n : Nat} {f : Nat → A3} (h : Row3 w g n f) (e : w'.heap[g]? = w.heap[g]?) : Row3 w' g n f := by
  obtain ⟨h1, ⟨hx, _⟩ | ⟨g', cap, cur, hx, h2, hh, h3⟩⟩ := h
  · simp at hx
  · refine ⟨h1, Or.inr ⟨g', cap, cur, hx, h2, ?_, h3⟩⟩
    simp at hx
    obtain ⟨rfl, _⟩ := hx
    rw [e]; exact hh
theorem Row3.below {w w' : World} {g n B : Nat} {f : Nat → A3} (h : Row3 w g n f) (hb : Below B w w') (hg : g < B) : Row3 w' g n f := h.of_block (hb.block g hg)
theorem Row3.grown {w w' : World} {g n : Nat} {r : Option Nat} {f : Nat → A3} (h : Row3 w g n f) (hb : w.grownBy w' r) (hg : some g ≠ r) : Row3 w' g n f := h.of_block (hb.block g h.lt hg)
theorem Row3.other {w : World} {g n : Nat} {f : Nat → A3} (h : Row3 w g n f) {a : Addr} (hg : g ≠ a.block) (v : Value) : Row3 (w.setCell a v) g n f := h.of_block (Below.heap_setCell _ _ _ _ hg)

def upd (f : Nat → A3) (i : Nat) (a : A3) : Nat → A3 := fun t => if t = i then a else f t

theorem Row3.set {w : World} {g n : Nat} {f : Nat → A3} (h : Row3 w g n f) (i : Nat) (hi : i < n) (a : A3) :
    Row3 (((w.setCell ⟨g, i * 3, none⟩ (.int .u64 a.hi)).setCell ⟨g, i * 3 + 1, none⟩ (.int .u64 a.lo)).setCell ⟨g, i * 3 + 2, none⟩ (.pointer a.z)) g n (upd f i a) := by
  have h3 := ((((h.stored (i * 3) (.int .u64 a.hi)).1).stored (i * 3 + 1) (.int .u64 a.lo)).1.stored (i * 3 + 2) (.pointer a.z)).1
  unfold Row3
  rw [show flat n (upd f i a) = (((flat n f).set (i * 3) (.int .u64 a.hi)).set (i * 3 + 1) (.int .u64 a.lo)).set (i * 3 + 2) (.pointer a.z) from ?_]
  · exact h3
  · symm
    have hl := flat_length n f
    refine flat_ext (by simp [hl]) fun t j ht hj => ?_
    have hj3 : j = 0 ∨ j = 1 ∨ j = 2 := by omega
    by_cases e : t = i
    · subst e
      rw [upd, if_pos rfl]
      rcases hj3 with rfl | rfl | rfl
      · simp [List.getElem?_set, A3.cells, hl]; omega
      · simp [List.getElem?_set, A3.cells, hl]; omega
      · simp [List.getElem?_set, A3.cells, hl]; omega
    · rw [upd, if_neg e, ← flat_at f j hj n t ht]
      rw [List.getElem?_set_ne (by omega), List.getElem?_set_ne (by omega), List.getElem?_set_ne (by omega)]

/-- the plain addresses that came in -/
structure In17 (w : World) (b off n : Nat) (X : Nat → PA) : Prop where
  k : ∀ i, i < n → w.cell? ⟨b, off + i * 17, none⟩ = some (.int .u8 (X i).k)
  o : ∀ i, i < n → ∀ j, j < 16 → w.cell? ⟨b, off + i * 17 + (j + 1), none⟩ = some (.int .u8 ((X i).o j))
theorem In17.below {w w' : World} {b off n B : Nat} {X : Nat → PA} (h : In17 w b off n X) (hb : Below B w w') (hg : b < B) : In17 w' b off n X where
  k i hi := by rw [hb.cell (by exact hg)]; exact h.k i hi
  o i hi j hj := by rw [hb.cell (by exact hg)]; exact h.o i hi j hj

/-- what carvePEsFit asks -/
def Fit (p4 p6 : Addr) (n : Nat) (X : Nat → PA) : Prop := (∀ i, i < n → (X i).k = 1 ∨ (X i).k = 2) ∧ ∀ i j, j < i → i < n → (X i).adr p4 p6 ≠ (X j).adr p4 p6
end Go.Proofs.Qxb6003779aDoor
