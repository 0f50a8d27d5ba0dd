/-
  The set of blocks in memory; openFor, varName.
-/
import Derived.Test.Qxb6002619aFmtMake
namespace Go.Proofs.Qxb6002619aFmt
open Go.RowKit

def Blk.cells (b : Blk) : List Value := [.int .i64 b.v, .int .i64 b.f, .int .i64 b.l]
def flatB (B : List Blk) : List Value := B.flatMap Blk.cells
theorem flatB_length (B : List Blk) : (flatB B).length = B.length * 3 := by
  induction B with
  | nil => rfl
  | cons a B ih => simp only [flatB, List.flatMap_cons, List.length_append] at *; rw [ih]; simp [Blk.cells]; omega
theorem flatB_append (l l' : List Blk) : flatB (l ++ l') = flatB l ++ flatB l' := by simp [flatB]
theorem flatB_at : ∀ (B : List Blk) (i j : Nat), i < B.length → j < 3 → (flatB B)[i * 3 + j]? = (B.getD i Blk.none).cells[j]?
  | a :: B, 0, j, _, hj => by
    simp only [flatB, List.flatMap_cons, Nat.zero_mul, Nat.zero_add, List.getD_cons_zero]
    rw [List.getElem?_append_left (by simp [Blk.cells]; omega)]
  | a :: B, i + 1, j, hi, hj => by
    simp only [flatB, List.flatMap_cons, List.getD_cons_succ]
    rw [List.getElem?_append_right (by simp [Blk.cells]; omega)]
    have := flatB_at B i j (by simpa using hi) hj
    rw [← this]
    congr 1
    simp [Blk.cells]; omega

theorem flatB_set : ∀ (B : List Blk) (o : Nat) (x : Int), o < B.length → flatB (B.set o ⟨vAt B o, fAt B o, x⟩) = (flatB B).set (o * 3 + 2) (.int .i64 x)
  | a :: B, 0, x, _ => by simp [flatB, Blk.cells, vAt, fAt]
  | a :: B, o + 1, x, h => by
    have := flatB_set B o x (by simpa using h)
    have e : (o + 1) * 3 + 2 = (o * 3 + 2) + 3 := by omega
    simp only [flatB, vAt, fAt, List.set_cons_succ, List.flatMap_cons, List.getD_cons_succ] at this ⊢
    rw [this, e]
    simp [Blk.cells]

/-- the blocks, behind the value vB -/
def BlkAt (w : World) (vB : Value) (B : List Blk) : Prop := w.ownsRow 0 40 3 vB B.length (flatB B)
theorem BlkAt.get {w : World} {vB : Value} {B : List Blk} (h : BlkAt w vB B) (hne : 0 < B.length) : ∃ g c cur, vB = .slice (some ⟨g, 0, none⟩) B.length c ∧ w.heap[g]? = some (.cells cur 40 (0, 0)) ∧ B.length ≤ c ∧ g < w.heap.size ∧
    (∀ o, o < B.length → w.cell? ⟨g, o * 3, none⟩ = some (.int .i64 (vAt B o)) ∧ w.cell? ⟨g, o * 3 + 1, none⟩ = some (.int .i64 (fAt B o)) ∧ w.cell? ⟨g, o * 3 + 2, none⟩ = some (.int .i64 (B.getD o Blk.none).l)) ∧ ∀ j, w.frozen? ⟨g, j, none⟩ = false := by
  have h' := h
  rcases h.2 with ⟨_, h0⟩ | ⟨g, c, cur, rfl, _, hh, hc, _⟩
  · omega
  · refine ⟨g, c, cur, rfl, hh, hc, lt_of_block hh, fun o ho => ?_, fun j => h'.frozenAt j⟩
    have e := fun j (hj : j < 3) => (h'.cellAt (o * 3 + j) (by omega)).trans (flatB_at B o j ho hj)
    refine ⟨?_, ?_, ?_⟩
    · exact e 0 (by omega)
    · exact e 1 (by omega)
    · exact e 2 (by omega)
/-- the open ones, behind the value sv -/
def OpAt (w : World) (sv : Value) (O : List Nat) : Prop := w.ownsRow 0 3 1 sv O.length (ints (O.map fun o : Nat => (o : Int)))
theorem OpAt.get {w : World} {sv : Value} {O : List Nat} (h : OpAt w sv O) (hne : 0 < O.length) : ∃ g c, sv = .slice (some ⟨g, 0, none⟩) O.length c ∧ g < w.heap.size ∧ ∀ j, j < O.length → w.cell? ⟨g, j, none⟩ = some (.int .i64 ((O.getD j 0 : Nat) : Int)) := by
  have h' := h
  rcases h.2 with ⟨_, h0⟩ | ⟨g, c, cur, rfl, _, hh, _⟩
  · omega
  · refine ⟨g, c, rfl, lt_of_block hh, fun j hj => ?_⟩
    refine (h'.cellAt j (by omega)).trans ?_
    simp [ints, List.getD_eq_getElem?_getD, hj]
theorem OpAt.len {w : World} {sv : Value} {O : List Nat} (h : OpAt w sv O) : ∃ so c, sv = .slice so O.length c := by
  rcases h.2 with ⟨rfl, h0⟩ | ⟨g, c, cur, rfl, _⟩
  · exact ⟨none, 0, by rw [h0]⟩
  · exact ⟨_, c, rfl⟩

/-- what openFor gives -/
def found (x : Option Nat) : Int := match x with
  | .none => -1
  | some j => (j : Int)

set_option maxHeartbeats 2000000 in
theorem openFor_any (qb : Nat) (vB sv : Value) (B : List Blk) (O : List Nat) (v : Int) (w : World) (hq : w.cell? ⟨qb, 1, none⟩ = some vB) (hql : qb < w.heap.size) (hB : BlkAt w vB B) (hO : OpAt w sv O) (hwf : ∀ o ∈ O, o < B.length) (hBn : B.length ≤ 4096) (hOn : O.length ≤ 4096) :
    Calls Tryf.prog 16 #[.pointer (some ⟨qb, 0, none⟩), sv, .agg #[.int .i64 v]] w fun e' w' => e' = .returned (.int .i64 (found (openIdx B O v))) ∧ Below w.heap.size w w' := by
  have HBA := hide hB
  have HOA := hide hO
  have HWF := hide hwf
  clear hB hO hwf
  obtain ⟨so, sc, rfl⟩ := HOA.out.len
  obtain ⟨n, hnl⟩ : ∃ n, n = O.length := ⟨_, rfl⟩
  have HN := hide hnl
  rw [← hnl] at hOn ⊢
  clear hnl
  have HI0 : Hid (openIdx B O v = lastIdx (fun j => decide (vAt B (O.getD j 0) = v)) n) := by
    show openIdx B O v = _
    rw [HN.out]; rfl
  go_enter Tryf.func16, Tryf.ntmps16
  go_wp2
  go_loopw [7] (fun iv wz => ∃ q : Nat, q ≤ n ∧ iv = .int .i64 ((q : Int) - 1) ∧ Hid (openIdx B O v = lastIdx (fun j => decide (vAt B (O.getD j 0) = v)) q) ∧ ∃ nq, wz = (w.alloc (.cells #[.int .i64 v] 38)).drewN nq) (fun iv _ => (intOf iv + 1).toNat)
  case atStart => exact ⟨n, Nat.le_refl _, rfl, HI0, 0, rfl⟩
  case round =>
    obtain ⟨q, hqn, rfl, HI, nq, rfl⟩ := hrel
    clear HI0
    cases q with
    | zero =>
      go_wp2
      go_ret
      exact ⟨by rw [HI.out]; rfl, Below.drewN2 ((Below.refl _ w).alloc (Nat.le_refl _) _) _⟩
    | succ q =>
      have hqO : q < O.length := by rw [← HN.out]; omega
      obtain ⟨gO, cO, hsv, hgO, hcO⟩ := HOA.out.get (by omega)
      simp only [Value.slice.injEq] at hsv
      obtain ⟨rfl, _, rfl⟩ := hsv
      obtain ⟨o, ho⟩ : ∃ o, o = O.getD q 0 := ⟨_, rfl⟩
      have s0 := hcO q hqO
      rw [← ho] at s0
      have hoB : o < B.length := by rw [ho]; exact HWF.out _ (getD_mem hqO)
      obtain ⟨gB, cB, cur, rfl, _, _, hgB, hcB, _⟩ := HBA.out.get (by omega)
      have b0 := (hcB o hoB).1
      have HOE := hide ho
      clear hcO hcB ho
      have e1 : ((q + 1 : Nat) : Int) - 1 = (q : Int) := by omega
      rw [e1]
      obtain ⟨y, hy⟩ : ∃ y, y = vAt B o := ⟨_, rfl⟩
      rw [← hy] at b0
      have HY := hide hy
      clear hy e1
      have hqn' : (q : Int) < (n : Int) := by omega
      have hob' : (o : Int) < (B.length : Int) := by omega
      by_cases hyv : y = v
      · have HF : Hid (openIdx B O v = some q) := by
          show openIdx B O v = _
          rw [HI.out]
          exact lastIdx_top _ _ (by rw [← HOE.out, ← HY.out, hyv]; simp)
        subst hyv
        go_wp2
        go_quiet (fail)
        go_wp2
        go_ret
        exact ⟨by rw [HF.out]; rfl, Below.drewN2 (Below.drewN2 ((Below.refl _ w).alloc (Nat.le_refl _) _) _) _⟩
      · have HF : Hid (openIdx B O v = lastIdx (fun j => decide (vAt B (O.getD j 0) = v)) q) := by
          show openIdx B O v = _
          rw [HI.out]
          conv => lhs; unfold lastIdx
          rw [if_neg]
          rw [← HOE.out, ← HY.out]; simpa using hyv
        go_wp2
        go_quiet (fail)
        go_wp2
        go_roundw
        case rel => exact ⟨q, by omega, rfl, HF, _, rfl⟩
        case measure => simp [intOf]
end Go.Proofs.Qxb6002619aFmt
