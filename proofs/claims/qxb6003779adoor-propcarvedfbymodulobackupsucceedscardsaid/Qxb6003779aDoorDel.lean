/-
  slices.Clone and slices.Delete at netip.Addr (three cells an element).
-/
import Derived.Test.Qxb6003779aDoorAddr
import Derived.Shelf.SlGeneric
import Derived.Shelf.SlicesE.Clone
import Derived.Deep.RegionLaw
import Derived.Lib.SliceRun
namespace Go.Proofs
open Go.Shelf
def Tryd.layClone_ren : Go.Shelf.Ren := ⟨fun | 41 => 12 | n => n, fun | 22 => 25 | 23 => 33 | 4 => 4 | n => n, fun | n => n⟩
theorem Tryd.layClone : Go.Proofs.SlLaysE0.n41 Tryd.prog Tryd.layClone_ren := {
  mixed := by kernel_rfl
  f41 := ⟨Tryd.f12.name, by decide, Tryd.func12.trans (congrArg some (by kernel_rfl))⟩
  t4 := Tryd.underlying4
  a4 := Tryd.isAgg4
  z4 := Tryd.sizeOf4
  v4 := Tryd.zeroValue4
  t22 := Tryd.underlying25
  a22 := Tryd.isAgg25
  z22 := Tryd.sizeOf25
  v22 := Tryd.zeroValue25 }
namespace Qxb6003779aDoor
open Go.RowKit

theorem info33 : (Tryd.prog.info? 33).map (fun i => (i.zero, i.size, i.bytes)) = some (some (.agg #[.int .u64 0, .int .u64 0, .pointer none]), 3, 24) := by kernel_rfl

def A3.cells (a : A3) : List Value := [.int .u64 a.hi, .int .u64 a.lo, .pointer a.z]
/-- the cells of n addresses, one behind the other -/
def flat (n : Nat) (f : Nat → A3) : List Value := (List.range n).flatMap fun i => (f i).cells
theorem flat_succ (n : Nat) (f : Nat → A3) : flat (n + 1) f = flat n f ++ (f n).cells := by simp [flat, List.range_succ]
theorem flat_length (n : Nat) (f : Nat → A3) : (flat n f).length = n * 3 := by
  induction n with
  | zero => rfl
  | succ n ih => rw [flat_succ, List.length_append, ih]; simp [A3.cells]; omega
theorem flat_at (f : Nat → A3) (j : Nat) (hj : j < 3) : ∀ (n i : Nat), i < n → (flat n f)[i * 3 + j]? = (f i).cells[j]? := by
  intro n
  induction n with
  | zero => intro i h; omega
  | succ n ih =>
    intro i h
    rw [flat_succ]
    by_cases hi : i < n
    · rw [List.getElem?_append_left (by rw [flat_length]; omega)]
      exact ih i hi
    · obtain rfl : i = n := by omega
      rw [List.getElem?_append_right (by rw [flat_length]; omega), flat_length, show i * 3 + j - i * 3 = j by omega]
theorem flat_one (n : Nat) (f : Nat → A3) : ∀ u ∈ flat n f, u.oneCell' = true := by
  intro u hu
  simp only [flat, List.mem_flatMap, A3.cells] at hu
  obtain ⟨i, _, hi⟩ := hu
  simp at hi
  rcases hi with rfl | rfl | rfl <;> rfl

/-- n addresses lie at the head of block g -/
structure At3 (w : World) (g n : Nat) (f : Nat → A3) : Prop where
  c0 : ∀ i, i < n → w.cell? ⟨g, i * 3, none⟩ = some (.int .u64 (f i).hi)
  c1 : ∀ i, i < n → w.cell? ⟨g, i * 3 + 1, none⟩ = some (.int .u64 (f i).lo)
  c2 : ∀ i, i < n → w.cell? ⟨g, i * 3 + 2, none⟩ = some (.pointer (f i).z)

theorem At3.flat {w : World} {g n : Nat} {f : Nat → A3} (h : At3 w g n f) (j : Nat) (u : Value) (hu : (flat n f)[j]? = some u) : w.cell? ⟨g, j, none⟩ = some u := by
  have hj : j < n * 3 := by have := (List.getElem?_eq_some_iff.1 hu).1; rwa [flat_length] at this
  have hd : j = j / 3 * 3 + j % 3 := by omega
  have hi : j / 3 < n := by omega
  have hm : j % 3 < 3 := by omega
  rw [hd, flat_at f (j % 3) hm n (j / 3) hi] at hu
  have h3 : j % 3 = 0 ∨ j % 3 = 1 ∨ j % 3 = 2 := by omega
  rcases h3 with e | e | e
  · rw [hd, e, Nat.add_zero, h.c0 _ hi]; rw [e] at hu; exact hu
  · rw [hd, e, h.c1 _ hi]; rw [e] at hu; exact hu
  · rw [hd, e, h.c2 _ hi]; rw [e] at hu; exact hu

theorem At3.of_owns {w : World} {B g n cap : Nat} {f : Nat → A3} (h : w.ownsRow B 33 3 (.slice (some ⟨g, 0, none⟩) n cap) n (Qxb6003779aDoor.flat n f)) : At3 w g n f where
  c0 i hi := by
    have e := flat_at f 0 (by omega) n i hi
    rw [Nat.add_zero] at e
    rw [h.cellAt (i * 3) (by omega), e]; rfl
  c1 i hi := by rw [h.cellAt (i * 3 + 1) (by omega), flat_at f 1 (by omega) n i hi]; rfl
  c2 i hi := by rw [h.cellAt (i * 3 + 2) (by omega), flat_at f 2 (by omega) n i hi]; rfl

theorem At3.below {w w' : World} {g n B : Nat} {f : Nat → A3} (h : At3 w g n f) (hb : Below B w w') (hg : g < B) : At3 w' g n f where
  c0 i hi := by rw [hb.cell (by exact hg)]; exact h.c0 i hi
  c1 i hi := by rw [hb.cell (by exact hg)]; exact h.c1 i hi
  c2 i hi := by rw [hb.cell (by exact hg)]; exact h.c2 i hi

theorem clone_any (g n c : Nat) (f : Nat → A3) (w : World) (h : At3 w g n f) (hn : n ≤ 4096) :
    Calls Tryd.prog 12 #[.slice (some ⟨g, 0, none⟩) n c] w fun e w' => ∃ b cap, e = .returned (.slice (some ⟨b, 0, none⟩) n cap) ∧ w'.ownsRow w.heap.size 33 3 (.slice (some ⟨b, 0, none⟩) n cap) n (flat n f) ∧ n ≤ cap ∧ cap ≤ maxLen ∧ Below w.heap.size w w' := by
  obtain ⟨i0, hi, hz0, hz1, hz2⟩ := info_parts info33
  refine (AnyE.slices_Clone Tryd.layClone i0 _ 3 24 hi hz0 hz1 hz2 rfl (by decide) Tryd.sizeOf33 g 0 n c (flat n f) w (flat_length n f) (by unfold maxLen; omega) (by omega) (fun j u hu => by rw [Nat.zero_add]; exact h.flat j u hu) (flat_one n f)).mono ?_
  rintro e w' ⟨v', rfl, hown, hnil, hb⟩
  have ho := hown
  obtain ⟨_, ⟨rfl, _⟩ | ⟨b, cap, cur, rfl, hg, hh, hnc, hcm, _⟩⟩ := hown
  · exact absurd rfl hnil
  · exact ⟨b, cap, rfl, ho, hnc, hcm, hb⟩
end Qxb6003779aDoor
end Go.Proofs
