/-
  Rows of ranges that the call itself makes (element type 90 or 34, four cells each), and the four functions that copy ranges from the one type to the other.
-/
import Derived.Test.Qxb6002608aOut
namespace Go.Proofs.Qxb6002608a
open Go.RowKit

def KR.cells (x : KR) : List Value := [.string x.s, .string x.e, .bool x.th, .bool x.op]
def KR.zero : KR := ⟨ByteArray.empty, ByteArray.empty, false, false⟩
def flat (l : List KR) : List Value := l.flatMap KR.cells
theorem flat_length (l : List KR) : (flat l).length = l.length * 4 := by
  induction l with
  | nil => rfl
  | cons a l ih => simp only [flat, List.flatMap_cons, List.length_append] at *; rw [ih]; simp [KR.cells]; omega
theorem flat_append (l l' : List KR) : flat (l ++ l') = flat l ++ flat l' := by simp [flat]
theorem flat_at : ∀ (l : List KR) (i j : Nat) (hi : i < l.length), j < 4 → (flat l)[i * 4 + j]? = l[i].cells[j]?
  | a :: l, 0, j, _, hj => by
    simp only [flat, List.flatMap_cons, Nat.zero_mul, Nat.zero_add, List.getElem_cons_zero]
    rw [List.getElem?_append_left (by simp [KR.cells]; omega)]
  | a :: l, i + 1, j, hi, hj => by
    simp only [flat, List.flatMap_cons, List.getElem_cons_succ]
    rw [List.getElem?_append_right (by simp [KR.cells]; omega)]
    have := flat_at l i j (by simpa using hi) hj
    rw [← this]
    congr 1
    simp [KR.cells]; omega
theorem flat_ext {l : List KR} {xs : List Value} (hl : xs.length = l.length * 4) (h : ∀ i j (hi : i < l.length), j < 4 → xs[i * 4 + j]? = l[i].cells[j]?) : xs = flat l := by
  apply List.ext_getElem?
  intro t
  by_cases ht : t < l.length * 4
  · have hd : t = t / 4 * 4 + t % 4 := by omega
    rw [hd, h (t / 4) (t % 4) (by omega) (by omega), flat_at l (t / 4) (t % 4) (by omega) (by omega)]
  · rw [List.getElem?_eq_none (by omega), List.getElem?_eq_none (by rw [flat_length]; omega)]
theorem flat_one (l : List KR) : ∀ u ∈ flat l, u.oneCell' = true := by
  intro u hu
  simp only [flat, List.mem_flatMap, KR.cells] at hu
  obtain ⟨x, _, hx⟩ := hu
  simp at hx
  rcases hx with rfl | rfl | rfl | rfl <;> rfl

/-- a row of ranges, made by the call: its first ones are l -/
def Row4 (w : World) (T g cap : Nat) (l : List KR) : Prop := w.ownsRow 0 T 4 (.slice (some ⟨g, 0, none⟩) l.length cap) l.length (flat l)

theorem Row4.at0 {w : World} {T g cap : Nat} {l : List KR} (h : Row4 w T g cap l) (i : Nat) (hi : i < l.length) : w.cell? ⟨g, i * 4, none⟩ = some (.string l[i].s) := by
  have e := flat_at l i 0 hi (by omega)
  rw [Nat.add_zero] at e
  rw [h.cellAt (i * 4) (by omega), e]; rfl
theorem Row4.at1 {w : World} {T g cap : Nat} {l : List KR} (h : Row4 w T g cap l) (i : Nat) (hi : i < l.length) : w.cell? ⟨g, i * 4 + 1, none⟩ = some (.string l[i].e) := by
  rw [h.cellAt (i * 4 + 1) (by omega), flat_at l i 1 hi (by omega)]; rfl
theorem Row4.at2 {w : World} {T g cap : Nat} {l : List KR} (h : Row4 w T g cap l) (i : Nat) (hi : i < l.length) : w.cell? ⟨g, i * 4 + 2, none⟩ = some (.bool l[i].th) := by
  rw [h.cellAt (i * 4 + 2) (by omega), flat_at l i 2 hi (by omega)]; rfl
theorem Row4.at3 {w : World} {T g cap : Nat} {l : List KR} (h : Row4 w T g cap l) (i : Nat) (hi : i < l.length) : w.cell? ⟨g, i * 4 + 3, none⟩ = some (.bool l[i].op) := by
  rw [h.cellAt (i * 4 + 3) (by omega), flat_at l i 3 hi (by omega)]; rfl
theorem Row4.frozen {w : World} {T g cap : Nat} {l : List KR} (h : Row4 w T g cap l) (j : Nat) : w.frozen? ⟨g, j, none⟩ = false := h.frozenAt j
theorem Row4.lt {w : World} {T g cap : Nat} {l : List KR} (h : Row4 w T g cap l) : g < w.heap.size := by
  obtain ⟨_, ⟨hx, _⟩ | ⟨g', cap, cur, hx, _, hh, _⟩⟩ := h
  · simp at hx
  · simp at hx
    obtain ⟨rfl, _⟩ := hx
    exact lt_of_block hh
theorem Row4.of_block {w w' : World} {T g cap : Nat} {l : List KR} (h : Row4 w T g cap l) (e : w'.heap[g]? = w.heap[g]?) : Row4 w' T g cap l := by
  obtain ⟨h1, ⟨hx, _⟩ | ⟨g', cap', cur, hx, h2, hh, h3⟩⟩ := h
  · simp at hx
  · refine ⟨h1, Or.inr ⟨g', cap', cur, hx, h2, ?_, h3⟩⟩
    simp at hx
    obtain ⟨rfl, _⟩ := hx
    rw [e]; exact hh
theorem Row4.below {w w' : World} {T g cap B : Nat} {l : List KR} (h : Row4 w T g cap l) (hb : Below B w w') (hg : g < B) : Row4 w' T g cap l := h.of_block (hb.block g hg)
theorem Row4.view {w : World} {T g cap : Nat} {l : List KR} (h : Row4 w T g cap l) : View w g 0 l where
  c0 i hi := by rw [Nat.zero_add]; exact h.at0 i hi
  c1 i hi := by rw [Nat.zero_add]; exact h.at1 i hi
  c2 i hi := by rw [Nat.zero_add]; exact h.at2 i hi
  c3 i hi := by rw [Nat.zero_add]; exact h.at3 i hi
theorem Row4.shows {w : World} {T g cap : Nat} {l : List KR} (h : Row4 w T g cap l) : Shows w (some ⟨g, 0, none⟩) l := Or.inr ⟨g, 0, rfl, h.lt, h.view⟩

theorem Row4.set {w : World} {T g cap : Nat} {l : List KR} (h : Row4 w T g cap l) (i : Nat) (hi : i < l.length) (x : KR) :
    Row4 ((((w.setCell ⟨g, i * 4, none⟩ (.string x.s)).setCell ⟨g, i * 4 + 1, none⟩ (.string x.e)).setCell ⟨g, i * 4 + 2, none⟩ (.bool x.th)).setCell ⟨g, i * 4 + 3, none⟩ (.bool x.op)) T g cap (l.set i x) := by
  have h4 := (((((h.stored (i * 4) (.string x.s)).1).stored (i * 4 + 1) (.string x.e)).1.stored (i * 4 + 2) (.bool x.th)).1.stored (i * 4 + 3) (.bool x.op)).1
  unfold Row4
  rw [List.length_set]
  rw [show flat (l.set i x) = ((((flat l).set (i * 4) (.string x.s)).set (i * 4 + 1) (.string x.e)).set (i * 4 + 2) (.bool x.th)).set (i * 4 + 3) (.bool x.op) from ?_]
  · exact h4
  · symm
    have hl := flat_length l
    refine flat_ext (by simp [hl]) fun t j ht hj => ?_
    have hj4 : j = 0 ∨ j = 1 ∨ j = 2 ∨ j = 3 := by omega
    have ht' : t < l.length := by simpa using ht
    by_cases e : t = i
    · subst e
      rw [List.getElem_set_self]
      rcases hj4 with rfl | rfl | rfl | rfl
      · simp [List.getElem?_set, KR.cells, hl]; omega
      · simp [List.getElem?_set, KR.cells, hl]; omega
      · simp [List.getElem?_set, KR.cells, hl]; omega
      · simp [List.getElem?_set, KR.cells, hl]; omega
    · rw [List.getElem_set_ne (by omega), ← flat_at l t j ht' hj]
      rw [List.getElem?_set_ne (by omega), List.getElem?_set_ne (by omega), List.getElem?_set_ne (by omega), List.getElem?_set_ne (by omega)]

theorem made_flat (n : Nat) : (madeCells #[.string ByteArray.empty, .string ByteArray.empty, .bool false, .bool false] (n * 4)).toList = flat (List.replicate n KR.zero) := by
  refine flat_ext (by simp [madeCells]) fun i j hi hj => ?_
  have hi' : i < n := by simpa using hi
  have hlt : i * 4 + j < n * 4 := by omega
  have h4 : j = 0 ∨ j = 1 ∨ j = 2 ∨ j = 3 := by omega
  have hm : (i * 4 + j) % 4 = j := by omega
  simp only [madeCells, Array.toList_map, Array.toList_range, List.getElem?_map]
  rw [List.getElem?_range hlt, List.getElem_replicate]
  show some ((#[Value.string ByteArray.empty, .string ByteArray.empty, .bool false, .bool false] : Array Value)[(i * 4 + j) % 4]!) = _
  rw [hm]
  rcases h4 with rfl | rfl | rfl | rfl <;> rfl
theorem info90 : (Try.prog.info? 90).map (fun i => (i.zero, i.size, i.bytes)) = some (some (.agg #[.string ByteArray.empty, .string ByteArray.empty, .bool false, .bool false]), 4, 40) := by kernel_rfl
theorem info34 : (Try.prog.info? 34).map (fun i => (i.zero, i.size, i.bytes)) = some (some (.agg #[.string ByteArray.empty, .string ByteArray.empty, .bool false, .bool false]), 4, 40) := by kernel_rfl

/-- the row, filled up to j -/
def fill (l : List KR) (j : Nat) : List KR := l.take j ++ List.replicate (l.length - j) KR.zero
theorem fill_length (l : List KR) (j : Nat) (h : j ≤ l.length) : (fill l j).length = l.length := by simp [fill]; omega
theorem fill_zero (l : List KR) : fill l 0 = List.replicate l.length KR.zero := by simp [fill]
theorem fill_all (l : List KR) : fill l l.length = l := by simp [fill]
theorem fill_succ (l : List KR) (j : Nat) (h : j < l.length) : (fill l j).set j l[j] = fill l (j + 1) := by
  unfold fill
  rw [List.set_append_right _ _ (by simp; omega), List.length_take, Nat.min_eq_left (by omega), Nat.sub_self, List.take_succ_eq_append_getElem h, List.append_assoc]
  congr 1
  rw [show l.length - j = (l.length - (j + 1)) + 1 by omega, List.replicate_succ]
  rfl
end Go.Proofs.Qxb6002608a
