/-
  Rows of ints that the call itself makes.
-/
import Derived.Test.Qxb6002619aFmtRead
namespace Go.Proofs.Qxb6002619aFmt
open Go.RowKit

def ints (xs : List Int) : List Value := xs.map fun x => .int .i64 x
theorem ints_length (xs : List Int) : (ints xs).length = xs.length := by simp [ints]
theorem ints_one (xs : List Int) : ∀ u ∈ ints xs, u.oneCell' = true := by
  intro u hu
  obtain ⟨x, _, rfl⟩ := List.mem_map.1 hu
  rfl
/-- a row of ints, made by the call: its first ones are xs -/
def RowI (w : World) (g cap : Nat) (xs : List Int) : Prop := w.ownsRow 0 3 1 (.slice (some ⟨g, 0, none⟩) xs.length cap) xs.length (ints xs)
theorem RowI.parts {w : World} {g cap : Nat} {l : List Int} (h : RowI w g cap l) : ∃ cur, w.heap[g]? = some (.cells cur 3 (0, 0)) ∧ l.length ≤ cap ∧ cap ≤ maxLen ∧ cur.size = cap * 1 ∧ cur.toList.take (l.length * 1) = ints l := by
  obtain ⟨_, ⟨hx, _⟩ | ⟨g', cap', cur, hx, _, hh, h1, h2, h3, h4⟩⟩ := h
  · simp at hx
  · simp at hx
    obtain ⟨rfl, rfl⟩ := hx
    exact ⟨cur, hh, h1, h2, h3, h4⟩
theorem RowI.of_parts {w : World} {g cap : Nat} {l : List Int} (cur : Array Value) (hh : w.heap[g]? = some (.cells cur 3 (0, 0))) (h1 : l.length ≤ cap) (h2 : cap ≤ maxLen) (h3 : cur.size = cap * 1) (h4 : cur.toList.take (l.length * 1) = ints l) : RowI w g cap l :=
  ⟨by rw [ints_length, Nat.mul_one], Or.inr ⟨g, cap, cur, rfl, Nat.zero_le _, hh, h1, h2, h3, h4⟩⟩
theorem RowI.at {w : World} {g cap : Nat} {xs : List Int} (h : RowI w g cap xs) (i : Nat) (hi : i < xs.length) : w.cell? ⟨g, i, none⟩ = some (.int .i64 (xs.getD i 0)) := by
  rw [h.cellAt i (by omega)]
  simp [ints, List.getD_eq_getElem?_getD, hi]
theorem RowI.frozen {w : World} {g cap : Nat} {xs : List Int} (h : RowI w g cap xs) (j : Nat) : w.frozen? ⟨g, j, none⟩ = false := h.frozenAt j
theorem RowI.lt {w : World} {g cap : Nat} {xs : List Int} (h : RowI w g cap xs) : g < w.heap.size := by
  obtain ⟨_, hh, _⟩ := h.parts
  exact lt_of_block hh
theorem RowI.of_block {w w' : World} {g cap : Nat} {xs : List Int} (h : RowI w g cap xs) (e : w'.heap[g]? = w.heap[g]?) : RowI w' g cap xs := by
  obtain ⟨cur, hh, h1, h2, h3, h4⟩ := h.parts
  exact RowI.of_parts cur (by rw [e]; exact hh) h1 h2 h3 h4
theorem RowI.below {w w' : World} {g cap B : Nat} {xs : List Int} (h : RowI w g cap xs) (hb : Below B w w') (hg : g < B) : RowI w' g cap xs := h.of_block (hb.block g hg)
theorem RowI.alloc {w : World} {g cap : Nat} {xs : List Int} (h : RowI w g cap xs) (o : Obj) : RowI (w.alloc o) g cap xs := h.below ((Below.refl w.heap.size w).alloc (Nat.le_refl _) o) h.lt
theorem RowI.drewN {w : World} {g cap : Nat} {xs : List Int} (h : RowI w g cap xs) (q : Nat) : RowI (w.drewN q) g cap xs := h.of_block rfl
theorem RowI.set {w : World} {g cap : Nat} {xs : List Int} (h : RowI w g cap xs) (i : Nat) (x : Int) : RowI (w.setCell ⟨g, i, none⟩ (.int .i64 x)) g cap (xs.set i x) := by
  have h1 := (h.stored i (.int .i64 x)).1
  unfold RowI
  rw [List.length_set]
  rw [show ints (xs.set i x) = (ints xs).set i (.int .i64 x) by simp [ints, List.map_set]]
  exact h1
theorem RowI.other {w : World} {g cap : Nat} {xs : List Int} (h : RowI w g cap xs) {a : Addr} (v : Value) (ha : a.block ≠ g) : RowI (w.setCell a v) g cap xs := by
  refine h.of_block ?_
  simp [World.setCell, Array.getElem?_modify, ha]
theorem RowI.take {w : World} {g cap m : Nat} {l : List Int} (h : RowI w g cap l) (hm : m ≤ l.length) : RowI w g cap (l.take m) := by
  obtain ⟨cur, hh, h1, h2, h3, h4⟩ := h.parts
  have hl : (l.take m).length = m := by rw [List.length_take]; omega
  refine RowI.of_parts cur hh (by omega) h2 h3 ?_
  rw [hl, Nat.mul_one]
  rw [Nat.mul_one] at h4
  have e : (cur.toList.take l.length).take m = (ints l).take m := by rw [h4]
  rw [List.take_take, Nat.min_eq_left hm] at e
  rw [e]
  simp [ints, List.map_take]
theorem RowI.grown {w w' : World} {g r cap : Nat} {xs : List Int} (h : RowI w g cap xs) (hg : w.grownBy w' (some r)) (hne : r ≠ g) : RowI w' g cap xs :=
  h.of_block (hg.block g h.lt (fun e => hne (Option.some.inj e).symm))
theorem info3 : (Tryf.prog.info? 3).map (fun i => (i.zero, i.size, i.bytes)) = some (some (.int .i64 0), 1, 8) := by kernel_rfl
theorem made_ints (n : Nat) : (madeCells #[Value.int .i64 0] n).toList = ints (List.replicate n 0) := by
  simp only [madeCells, ints]
  apply List.ext_getElem
  · simp
  · intro i h1 h2
    simp [Nat.mod_one]
theorem nats_getD (s : List Nat) (k : Nat) (hk : k < s.length) : (s.map fun j : Nat => (j : Int)).getD k 0 = ((s.getD k 0 : Nat) : Int) := by
  simp [List.getD_eq_getElem?_getD, hk]
end Go.Proofs.Qxb6002619aFmt
