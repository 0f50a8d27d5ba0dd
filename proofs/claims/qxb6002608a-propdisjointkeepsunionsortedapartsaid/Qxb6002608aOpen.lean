/-
  From the form's readings to what the walks ask: the slice of ranges.
-/
import Derived.Test.Qxb6002608aLaw
import Derived.ProofKit
import Derived.OpenShut
import Derived.Deep.Slices
import Derived.Lib.SmallJoins
namespace Go.Proofs.Qxb6002608a
open Go.ChangeShapes Go.WideShapes Go.ChangeAt Go.WideMaps Go.WideElems Go.RowKit Go.Deep

theorem cells34 : Try.prog.cellsOf 34 = 4 := by kernel_rfl
theorem cells9 : Try.prog.cellsOf 9 = 1 := by kernel_rfl
theorem cells4 : Try.prog.cellsOf 4 = 1 := by kernel_rfl

/-- k cells that can be read lie in a plain row -/
theorem plain_row {w : World} {base k : Nat} {a : Addr} {cs : List Value} (h : w.cells? base a k = some cs) (hk : 0 < k) :
    ∃ b off, a = ⟨b, off, none⟩ ∧ cs.length = k ∧ ∀ j, j < k → w.cell? ⟨b, off + j, none⟩ = cs[j]? := by
  have hs := World.cells?_some h
  obtain ⟨hb, hl, hc⟩ := hs
  obtain ⟨b, off, spot⟩ := a
  have h0 : 0 < cs.length := by omega
  have hspot : spot = none := by
    have := hc 0 hk
    rw [List.getElem?_eq_getElem h0] at this
    simpa [Addr.add] using World.cell?_spot this
  subst hspot
  exact ⟨b, off, rfl, hl, fun j hj => by rw [← Go.WideShapes.add_plain]; exact hc j hj⟩

variable {H : Type} {enc : TypeId × Value → H}

theorem one_at {l : List Value} {i : Nat} {v : Value} (h : (l.drop i).take 1 = [v]) : l[i]? = some v := by
  have := congrArg (fun l => l[0]?) h
  simpa using this

/-- one range -/
theorem open_one {w : World} {base fuel : Nat} {spare : Nat → Bool} {held : Bool} {cs : List Value} {x : DataW H × List MemPlace} (h : DataW.trod enc Try.prog w base spare held fuel 34 cs = some x) :
    ∃ r : KR, cs[0]? = some (.string r.s) ∧ cs[1]? = some (.string r.e) ∧ cs[2]? = some (.bool r.th) ∧ cs[3]? = some (.bool r.op) := by
  obtain ⟨y0, y1, y2, y3, n, rfl, hl, h0, h1, h2, h3⟩ := Go.Joins.trod_struct4 Try.underlying34 h
  simp only [cells9, cells4] at h0 h1 h2 h3
  obtain ⟨s, e0, _, _⟩ := DataW.trod_string Try.underlying9 h0
  obtain ⟨e, e1, _, _⟩ := DataW.trod_string Try.underlying9 h1
  obtain ⟨th, e2, _⟩ := DataW.trod_bool Try.underlying4 h2
  obtain ⟨op, e3, _⟩ := DataW.trod_bool Try.underlying4 h3
  exact ⟨⟨s, e, th, op⟩, one_at e0, one_at e1, one_at e2, one_at e3⟩

/-- the slice of ranges -/
theorem open_in {w : World} {base fuel : Nat} {spare : Nat → Bool} {held : Bool} {cs : List Value} {x : DataW H × List MemPlace} (h : DataW.trod enc Try.prog w base spare held fuel 22 cs = some x) :
    ∃ ao cap l, cs = [.slice ao (l : List KR).length cap] ∧ Shows w ao l ∧ (ao = none → l = [] ∧ cap = 0) := by
  rcases open_slice Try.underlying22 h with ⟨rfl, _⟩ | ⟨a, len, cap, m, n, D, Pl, rfl, _, hlc, _, hm, _, hel⟩
  · exact ⟨none, 0, [], rfl, Or.inl rfl, fun _ => ⟨rfl, rfl⟩⟩
  · by_cases hpos : 0 < len
    · rw [cells34] at hel
      have hlm : len ≤ m := by rw [hm]; split <;> omega
      obtain ⟨c0, hc0, _⟩ := hel 0 (by omega)
      rw [Nat.zero_mul] at hc0
      have hblk := World.cells?_block hc0 (by decide)
      obtain ⟨b, off, e0, _, _⟩ := plain_row hc0 (by decide)
      have ea : a = ⟨b, off, none⟩ := by simpa [Addr.add] using e0
      subst ea
      have each : ∀ i, ∃ r : KR, i < len → w.cell? ⟨b, off + i * 4, none⟩ = some (.string r.s) ∧ w.cell? ⟨b, off + i * 4 + 1, none⟩ = some (.string r.e) ∧ w.cell? ⟨b, off + i * 4 + 2, none⟩ = some (.bool r.th) ∧ w.cell? ⟨b, off + i * 4 + 3, none⟩ = some (.bool r.op) := by
        intro i
        by_cases hi : i < len
        · obtain ⟨ci, hci, hti⟩ := hel i (by omega)
          rw [Addr.add_lit] at hci
          obtain ⟨b', off', e', hl', hcell⟩ := plain_row hci (by decide)
          simp only [Addr.mk.injEq, and_true] at e'
          obtain ⟨rfl, rfl⟩ := e'
          obtain ⟨r, k0, k1, k2, k3⟩ := open_one hti
          refine ⟨r, fun _ => ⟨?_, ?_, ?_, ?_⟩⟩
          · have := hcell 0 (by decide)
            rw [Nat.add_zero] at this
            rw [this, k0]
          · rw [hcell 1 (by omega), k1]
          · rw [hcell 2 (by omega), k2]
          · rw [hcell 3 (by omega), k3]
        · exact ⟨KR.zero, fun h => absurd h hi⟩
      refine ⟨some ⟨b, off, none⟩, cap, (List.range len).map fun i => Classical.choose (each i), by simp, Or.inr ⟨b, off, rfl, hblk, ?_⟩, fun h => by cases h⟩
      have hat : ∀ i (hi : i < ((List.range len).map fun i => Classical.choose (each i)).length), i < len := fun i hi => by simpa using hi
      refine ⟨fun i hi => ?_, fun i hi => ?_, fun i hi => ?_, fun i hi => ?_⟩
      · simpa using (Classical.choose_spec (each i) (hat i hi)).1
      · simpa using (Classical.choose_spec (each i) (hat i hi)).2.1
      · simpa using (Classical.choose_spec (each i) (hat i hi)).2.2.1
      · simpa using (Classical.choose_spec (each i) (hat i hi)).2.2.2
    · obtain rfl : len = 0 := by omega
      exact ⟨some a, cap, [], rfl, Or.inl rfl, fun h => by cases h⟩
end Go.Proofs.Qxb6002608a
