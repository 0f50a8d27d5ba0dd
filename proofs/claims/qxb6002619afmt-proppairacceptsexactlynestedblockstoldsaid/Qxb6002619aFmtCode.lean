/-
  The parts of Pair's text, taken off the translation by name of their condition's slot.
-/
import Derived.Test.Qxb6002619aFmtState
import Derived.Test.Qxb6002619aFmtOk
namespace Go.Proofs.Qxb6002619aFmt
open Go.RowKit

/-- the part that is run where slot k holds true -/
def thenOf (k : Nat) : Code → Option Code
  | .seq a b => match thenOf k a with
    | some c => some c
    | none => thenOf k b
  | .block _ c => thenOf k c
  | .loop c => thenOf k c
  | .cond t a b => match t with
    | .tmp j => if j == k then some a else match thenOf k a with
      | some c => some c
      | none => thenOf k b
    | _ => none
  | _ => none
/-- the part that is run where slot k holds false -/
def elseOf (k : Nat) : Code → Option Code
  | .seq a b => match elseOf k a with
    | some c => some c
    | none => elseOf k b
  | .block _ c => elseOf k c
  | .loop c => elseOf k c
  | .cond t a b => match t with
    | .tmp j => if j == k then some b else match elseOf k a with
      | some c => some c
      | none => elseOf k b
    | _ => none
  | _ => none

theorem info40 : (Tryf.prog.info? 40).map (fun i => (i.zero, i.size, i.bytes)) = some (some (.agg #[.int .i64 0, .int .i64 0, .int .i64 0]), 3, 24) := by kernel_rfl

theorem new_after (w : World) (a : Addr) (v : Value) (o : Obj) : ((w.setCell a v).alloc o).heap[w.heap.size]? = some o := by
  have := alloc_new (w.setCell a v) o
  rwa [World.size_setCell] at this
theorem new_after2 (w : World) (a b : Addr) (v u : Value) (o : Obj) : ((w.setCell a v).setCell b u |>.alloc o).heap[w.heap.size]? = some o := by
  have := alloc_new ((w.setCell a v).setCell b u) o
  rwa [World.size_setCell, World.size_setCell] at this
theorem add_off (b j : Nat) : (⟨b, 0, none⟩ : Addr).add j = ⟨b, j, none⟩ := by
  unfold Addr.add
  split
  · rename_i h; rw [h]
  · simp
theorem news3 (w : World) (a b c : Value) (t : TypeId) : ∀ (j : Nat) (u : Value), [a, b, c][j]? = some u → (w.alloc (.cells #[a, b, c] t)).cell? ((⟨w.heap.size, 0, none⟩ : Addr).add j) = some u := by
  intro j u h
  rw [add_off, cell_of (alloc_new w (.cells #[a, b, c] t)) j]
  simpa using h
theorem news1 (w : World) (a : Value) (t : TypeId) : ∀ (j : Nat) (u : Value), [a][j]? = some u → (w.alloc (.cells #[a] t)).cell? ((⟨w.heap.size, 0, none⟩ : Addr).add j) = some u := by
  intro j u h
  rw [add_off, cell_of (alloc_new w (.cells #[a] t)) j]
  simpa using h
theorem cells_one (b : Blk) : ∀ u ∈ b.cells, u.oneCell' = true := by
  intro u hu
  simp only [Blk.cells, List.mem_cons, List.not_mem_nil, or_false] at hu
  rcases hu with rfl | rfl | rfl <;> rfl
theorem int_one (x : Int) : ∀ u ∈ [Value.int .i64 x], u.oneCell' = true := by
  intro u hu
  simp only [List.mem_singleton] at hu
  rw [hu]; rfl
/-- a part that ends in no other way serves whatever stands behind it -/
theorem wp_only {P : Program} {c : Code} {Q : Exit → Act → World → Prop} {a : Act} {w : World} (h : Code.wp P c (Exit.then (Q .normal) fun _ _ _ => False) a w) : Code.wp P c Q a w :=
  Code.wp_mono (fun e a w h => by
    cases e with
    | normal => exact h
    | _ => exact h.elim) h
theorem found_some (j : Nat) : found (some j) = (j : Int) := rfl
theorem NamesB.grown {w w' : World} {B r : Nat} {vo : Option Addr} {ns : List ByteArray} (h : NamesB w B vo ns) (hg : w.grownBy w' (some r)) (hB : B ≤ w.heap.size) (hr : B ≤ r) : NamesB w' B vo ns := by
  rcases h with h | ⟨b, off, h1, h2, h3⟩
  · exact Or.inl h
  · exact Or.inr ⟨b, off, h1, h2, fun i hi => by rw [World.cell?_of_block (hg.block b (by omega) (by simp; omega))]; exact h3 i hi⟩
theorem found_none : found .none = -1 := rfl
end Go.Proofs.Qxb6002619aFmt
