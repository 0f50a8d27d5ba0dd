/-
  From the form's readings to what the walks ask: the names, the items.
-/
import Derived.Test.Qxb6002619aFmtRead
import Derived.ProofKit
import Derived.OpenShut
import Derived.Deep.Slices
import Derived.Lib.SmallJoins
namespace Go.Proofs.Qxb6002619aFmt
open Go.ChangeShapes Go.WideShapes Go.ChangeAt Go.WideMaps Go.WideElems Go.RowKit Go.Deep

theorem cells36 : Tryf.prog.cellsOf 36 = 5 := by kernel_rfl
theorem cells9 : Tryf.prog.cellsOf 9 = 1 := by kernel_rfl
theorem cells4 : Tryf.prog.cellsOf 4 = 1 := by kernel_rfl
theorem cells3 : Tryf.prog.cellsOf 3 = 1 := by kernel_rfl

/-- k cells that can be read lie in a plain row -/
theorem plain_row {w : World} {base k : Nat} {a : Addr} {cs : List Value} (h : w.cells? base a k = some cs) (hk : 0 < k) :
    ∃ b off, a = ⟨b, off, none⟩ ∧ cs.length = k ∧ ∀ j, j < k → w.cell? ⟨b, off + j, none⟩ = cs[j]? := by
  have hs := World.cells?_some h
  obtain ⟨hb, hl, hc⟩ := hs
  obtain ⟨b, off, spot⟩ := a
  have h0 : 0 < cs.length := by omega
  have hspot : spot = none := by
    have := hc 0 hk
    rw [List.getElem?_eq_getElem h0] at this
    simpa [Addr.add] using World.cell?_spot this
  subst hspot
  exact ⟨b, off, rfl, hl, fun j hj => by rw [← Go.WideShapes.add_plain]; exact hc j hj⟩

variable {H : Type} {enc : TypeId × Value → H}

theorem one_at {l : List Value} {i : Nat} {v : Value} (h : (l.drop i).take 1 = [v]) : l[i]? = some v := by
  have := congrArg (fun l => l[0]?) h
  simpa using this

theorem trod_struct5 {P : Program} {w : World} {base : Nat} {spare : Nat → Bool} {held : Bool} {t : TypeId} {f0 f1 f2 f3 f4 : Field} {fuel : Nat} {cs : List Value} {x : DataW H × List MemPlace} (ht : P.underlying t = some (.struct #[f0, f1, f2, f3, f4])) (h : DataW.trod enc P w base spare held fuel t cs = some x) :
    ∃ y0 y1 y2 y3 y4 n, DataW.trod enc P w base spare held n f0.type ((cs.drop f0.offset).take (P.cellsOf f0.type)) = some y0 ∧
      DataW.trod enc P w base spare held n f1.type ((cs.drop f1.offset).take (P.cellsOf f1.type)) = some y1 ∧ DataW.trod enc P w base spare held n f2.type ((cs.drop f2.offset).take (P.cellsOf f2.type)) = some y2 ∧
      DataW.trod enc P w base spare held n f3.type ((cs.drop f3.offset).take (P.cellsOf f3.type)) = some y3 ∧ DataW.trod enc P w base spare held n f4.type ((cs.drop f4.offset).take (P.cellsOf f4.type)) = some y4 := by
  obtain ⟨xs, n, _, rfl, hl, hlen, hf⟩ := DataW.trod_struct ht h
  match xs, hlen with
  | [y0, y1, y2, y3, y4], _ => exact ⟨y0, y1, y2, y3, y4, n, by simpa using hf 0 f0 rfl, by simpa using hf 1 f1 rfl, by simpa using hf 2 f2 rfl, by simpa using hf 3 f3 rfl, by simpa using hf 4 f4 rfl⟩

/-- one item -/
theorem open_item {w : World} {base fuel : Nat} {spare : Nat → Bool} {held : Bool} {cs : List Value} {x : DataW H × List MemPlace} (h : DataW.trod enc Tryf.prog w base spare held fuel 36 cs = some x) :
    ∃ r : It, cs[0]? = some (.int .i64 r.k) ∧ cs[1]? = some (.int .i64 r.v) ∧ cs[2]? = some (.bool r.un) ∧ cs[3]? = some (.int .i64 r.num) ∧ cs[4]? = some (.int .i64 r.fl) := by
  obtain ⟨y0, y1, y2, y3, y4, n, h0, h1, h2, h3, h4⟩ := trod_struct5 Tryf.underlying36 h
  simp only [cells3, cells4] at h0 h1 h2 h3 h4
  obtain ⟨k, e0, _⟩ := DataW.trod_int Tryf.underlying3 h0
  obtain ⟨v, e1, _⟩ := DataW.trod_int Tryf.underlying3 h1
  obtain ⟨un, e2, _⟩ := DataW.trod_bool Tryf.underlying4 h2
  obtain ⟨num, e3, _⟩ := DataW.trod_int Tryf.underlying3 h3
  obtain ⟨fl, e4, _⟩ := DataW.trod_int Tryf.underlying3 h4
  exact ⟨⟨k, v, un, num, fl⟩, one_at e0, one_at e1, one_at e2, one_at e3, one_at e4⟩

/-- the slice of items -/
theorem open_items {w : World} {base fuel : Nat} {spare : Nat → Bool} {held : Bool} {cs : List Value} {x : DataW H × List MemPlace} (h : DataW.trod enc Tryf.prog w base spare held fuel 23 cs = some x) :
    ∃ ao cap l, cs = [.slice ao (l : List It).length cap] ∧ ShowsI w ao l := by
  rcases open_slice Tryf.underlying23 h with ⟨rfl, _⟩ | ⟨a, len, cap, m, n, D, Pl, rfl, _, hlc, _, hm, _, hel⟩
  · exact ⟨none, 0, [], rfl, Or.inl rfl⟩
  · by_cases hpos : 0 < len
    · rw [cells36] at hel
      have hlm : len ≤ m := by rw [hm]; split <;> omega
      obtain ⟨c0, hc0, _⟩ := hel 0 (by omega)
      rw [Nat.zero_mul] at hc0
      have hblk := World.cells?_block hc0 (by decide)
      obtain ⟨b, off, e0, _, _⟩ := plain_row hc0 (by decide)
      have ea : a = ⟨b, off, none⟩ := by simpa [Addr.add] using e0
      subst ea
      have each : ∀ i, ∃ r : It, i < len → w.cell? ⟨b, off + i * 5, none⟩ = some (.int .i64 r.k) ∧ w.cell? ⟨b, off + i * 5 + 1, none⟩ = some (.int .i64 r.v) ∧ w.cell? ⟨b, off + i * 5 + 2, none⟩ = some (.bool r.un) ∧ w.cell? ⟨b, off + i * 5 + 3, none⟩ = some (.int .i64 r.num) ∧ w.cell? ⟨b, off + i * 5 + 4, none⟩ = some (.int .i64 r.fl) := by
        intro i
        by_cases hi : i < len
        · obtain ⟨ci, hci, hti⟩ := hel i (by omega)
          rw [Addr.add_lit] at hci
          obtain ⟨b', off', e', hl', hcell⟩ := plain_row hci (by decide)
          simp only [Addr.mk.injEq, and_true] at e'
          obtain ⟨rfl, rfl⟩ := e'
          obtain ⟨r, k0, k1, k2, k3, k4⟩ := open_item hti
          refine ⟨r, fun _ => ⟨?_, ?_, ?_, ?_, ?_⟩⟩
          · have := hcell 0 (by decide)
            rw [Nat.add_zero] at this
            rw [this, k0]
          · rw [hcell 1 (by omega), k1]
          · rw [hcell 2 (by omega), k2]
          · rw [hcell 3 (by omega), k3]
          · rw [hcell 4 (by omega), k4]
        · exact ⟨It.none, fun h => absurd h hi⟩
      have hnth : ∀ i, i < len → nth ((List.range len).map fun i => Classical.choose (each i)) i = Classical.choose (each i) := fun i hi => by simp [nth, List.getD_eq_getElem?_getD, hi]
      refine ⟨some ⟨b, off, none⟩, cap, (List.range len).map fun i => Classical.choose (each i), by simp, Or.inr ⟨b, off, rfl, hblk, ?_⟩⟩
      have hat : ∀ i (hi : i < ((List.range len).map fun i => Classical.choose (each i)).length), i < len := fun i hi => by simpa using hi
      refine ⟨fun i hi => ?_, fun i hi => ?_, fun i hi => ?_, fun i hi => ?_, fun i hi => ?_⟩
      · rw [hnth i (hat i hi)]; exact (Classical.choose_spec (each i) (hat i hi)).1
      · rw [hnth i (hat i hi)]; exact (Classical.choose_spec (each i) (hat i hi)).2.1
      · rw [hnth i (hat i hi)]; exact (Classical.choose_spec (each i) (hat i hi)).2.2.1
      · rw [hnth i (hat i hi)]; exact (Classical.choose_spec (each i) (hat i hi)).2.2.2.1
      · rw [hnth i (hat i hi)]; exact (Classical.choose_spec (each i) (hat i hi)).2.2.2.2
    · obtain rfl : len = 0 := by omega
      exact ⟨some a, cap, [], rfl, Or.inl rfl⟩

/-- the slice of names -/
theorem open_names {w : World} {base fuel : Nat} {spare : Nat → Bool} {held : Bool} {cs : List Value} {x : DataW H × List MemPlace} (h : DataW.trod enc Tryf.prog w base spare held fuel 22 cs = some x) :
    ∃ ao cap l, cs = [.slice ao (l : List ByteArray).length cap] ∧ ShowsN w ao l := by
  rcases open_slice Tryf.underlying22 h with ⟨rfl, _⟩ | ⟨a, len, cap, m, n, D, Pl, rfl, _, hlc, _, hm, _, hel⟩
  · exact ⟨none, 0, [], rfl, Or.inl rfl⟩
  · by_cases hpos : 0 < len
    · rw [cells9] at hel
      have hlm : len ≤ m := by rw [hm]; split <;> omega
      obtain ⟨c0, hc0, _⟩ := hel 0 (by omega)
      rw [Nat.zero_mul] at hc0
      have hblk := World.cells?_block hc0 (by decide)
      obtain ⟨b, off, e0, _, _⟩ := plain_row hc0 (by decide)
      have ea : a = ⟨b, off, none⟩ := by simpa [Addr.add] using e0
      subst ea
      have each : ∀ i, ∃ r : ByteArray, i < len → w.cell? ⟨b, off + i, none⟩ = some (.string r) := by
        intro i
        by_cases hi : i < len
        · obtain ⟨ci, hci, hti⟩ := hel i (by omega)
          rw [Addr.add_lit] at hci
          obtain ⟨b', off', e', hl', hcell⟩ := plain_row hci (by decide)
          simp only [Addr.mk.injEq, and_true] at e'
          obtain ⟨rfl, rfl⟩ := e'
          obtain ⟨s, e0, _, _⟩ := DataW.trod_string Tryf.underlying9 hti
          refine ⟨s, fun _ => ?_⟩
          have := hcell 0 (by decide)
          rw [Nat.add_zero, Nat.mul_one] at this
          rw [this, e0]; rfl
        · exact ⟨ByteArray.empty, fun h => absurd h hi⟩
      refine ⟨some ⟨b, off, none⟩, cap, (List.range len).map fun i => Classical.choose (each i), by simp, Or.inr ⟨b, off, rfl, hblk, fun i hi => ?_⟩⟩
      have hat : i < len := by simpa using hi
      simpa using Classical.choose_spec (each i) hat
    · obtain rfl : len = 0 := by omega
      exact ⟨some a, cap, [], rfl, Or.inl rfl⟩
end Go.Proofs.Qxb6002619aFmt
