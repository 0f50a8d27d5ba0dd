/-
  From the form's readings to what the walks ask: the slice of plain addresses; the two listed variables.
-/
import Derived.Test.Qxb6003779aDoorLaw
import Derived.ProofKit
import Derived.LaidMore
import Derived.OpenShut
import Derived.Stop.Joined
import Derived.Deep.Slices
namespace Go.Proofs.Qxb6003779aDoor
open Go.ChangeShapes Go.WideShapes Go.ChangeAt Go.WideMaps Go.WideElems Go.RowKit Go.Deep

theorem cells5 : Tryd.prog.cellsOf 5 = 1 := by kernel_rfl
theorem cells29 : Tryd.prog.cellsOf 29 = 1 := by kernel_rfl
theorem cells31 : Tryd.prog.cellsOf 31 = 1 := by kernel_rfl
theorem cells35 : Tryd.prog.cellsOf 35 = 16 := by kernel_rfl
theorem cells37 : Tryd.prog.cellsOf 37 = 17 := by kernel_rfl
theorem cells66 : Tryd.prog.cellsOf 66 = 2 := by kernel_rfl

/-- k cells that can be read lie in a plain row -/
theorem plain_row {w : World} {base k : Nat} {a : Addr} {cs : List Value} (h : w.cells? base a k = some cs) (hk : 0 < k) :
    ∃ b off, a = ⟨b, off, none⟩ ∧ cs.length = k ∧ ∀ j, j < k → w.cell? ⟨b, off + j, none⟩ = cs[j]? := by
  have hs := World.cells?_some h
  obtain ⟨hb, hl, hc⟩ := hs
  obtain ⟨b, off, spot⟩ := a
  have h0 : 0 < cs.length := by omega
  have hspot : spot = none := by
    have := hc 0 hk
    rw [List.getElem?_eq_getElem h0] at this
    simpa [Addr.add] using World.cell?_spot this
  subst hspot
  exact ⟨b, off, rfl, hl, fun j hj => by rw [← Go.WideShapes.add_plain]; exact hc j hj⟩

variable {H : Type} {enc : TypeId × Value → H}

/-- one plain address -/
theorem open_one {w : World} {base fuel : Nat} {spare : Nat → Bool} {held : Bool} {cs : List Value} {x : DataW H × List MemPlace} (h : DataW.trod enc Tryd.prog w base spare held fuel 37 cs = some x) :
    ∃ p : PA, cs[0]? = some (.int .u8 p.k) ∧ ∀ j, j < 16 → cs[j + 1]? = some (.int .u8 (p.o j)) := by
  obtain ⟨y0, y1, n, rfl, hl, h0, h1⟩ := trod_struct2 Tryd.underlying37 h
  rw [cells37] at hl
  simp only [cells5, cells35, List.drop_zero] at h0 h1
  obtain ⟨k, e0, _, _⟩ := DataW.trod_int Tryd.underlying5 h0
  obtain ⟨xs, m, _, _, hl1, hn, hel⟩ := DataW.trod_array Tryd.underlying35 h1
  have hk : cs[0]? = some (.int .u8 k) := by
    have := congrArg (fun l => l[0]?) e0
    simpa using this
  have ho : ∀ j, ∃ z : Int, j < 16 → cs[j + 1]? = some (.int .u8 z) := by
    intro j
    by_cases hj : j < 16
    · have he := hel j hj
      rw [cells5] at he
      have hx : j < xs.length := by omega
      rw [List.getElem?_eq_getElem hx] at he
      obtain ⟨z, e, _, _⟩ := DataW.trod_int Tryd.underlying5 he
      refine ⟨z, fun _ => ?_⟩
      have := congrArg (fun l => l[0]?) e
      simp [hj] at this
      rw [← this]
    · exact ⟨0, fun h => absurd h hj⟩
  exact ⟨⟨k, fun j => Classical.choose (ho j)⟩, hk, fun j hj => Classical.choose_spec (ho j) hj⟩

/-- the slice of plain addresses -/
theorem open_in {w : World} {base fuel : Nat} {spare : Nat → Bool} {held : Bool} {cs : List Value} {x : DataW H × List MemPlace} (h : DataW.trod enc Tryd.prog w base spare held fuel 22 cs = some x) :
    cs = [.slice none 0 0] ∨ ∃ a len cap, cs = [.slice (some a) len cap] ∧ (0 < len → ∃ b off X, a = ⟨b, off, none⟩ ∧ b < w.heap.size ∧ In17 w b off len X) := by
  rcases open_slice Tryd.underlying22 h with ⟨rfl, _⟩ | ⟨a, len, cap, m, n, D, Pl, rfl, _, hlc, _, hm, _, hel⟩
  · exact Or.inl rfl
  · refine Or.inr ⟨a, len, cap, rfl, fun hpos => ?_⟩
    rw [cells37] at hel
    have hlm : len ≤ m := by rw [hm]; split <;> omega
    obtain ⟨c0, hc0, _⟩ := hel 0 (by omega)
    rw [Nat.zero_mul] at hc0
    have hblk := World.cells?_block hc0 (by decide)
    obtain ⟨b, off, e0, _, _⟩ := plain_row hc0 (by decide)
    have ea : a = ⟨b, off, none⟩ := by simpa [Addr.add] using e0
    subst ea
    have each : ∀ i, ∃ p : PA, i < len → w.cell? ⟨b, off + i * 17, none⟩ = some (.int .u8 p.k) ∧ ∀ j, j < 16 → w.cell? ⟨b, off + i * 17 + (j + 1), none⟩ = some (.int .u8 (p.o j)) := by
      intro i
      by_cases hi : i < len
      · obtain ⟨ci, hci, hti⟩ := hel i (by omega)
        rw [Addr.add_lit] at hci
        obtain ⟨b', off', e', hl', hcell⟩ := plain_row hci (by decide)
        simp only [Addr.mk.injEq, and_true] at e'
        obtain ⟨rfl, rfl⟩ := e'
        obtain ⟨p, hk, ho⟩ := open_one hti
        refine ⟨p, fun _ => ⟨?_, fun j hj => ?_⟩⟩
        · have := hcell 0 (by decide)
          rw [Nat.add_zero] at this
          rw [this, hk]
        · rw [hcell (j + 1) (by omega), ho j hj]
      · exact ⟨⟨0, fun _ => 0⟩, fun h => absurd h hi⟩
    refine ⟨b, off, fun i => Classical.choose (each i), rfl, hblk, ?_, ?_⟩
    · exact fun i hi => (Classical.choose_spec (each i) hi).1
    · exact fun i hi => (Classical.choose_spec (each i) hi).2

/-- a listed handle: a pointer, and behind it a row that is not frozen -/
theorem open_handle {w : World} {base fuel : Nat} {spare : Nat → Bool} {held : Bool} {cs : List Value} {d : DataW H} {ps : List MemPlace} (h : DataW.trod enc Tryd.prog w base spare held fuel 31 cs = some (.agg [.ptr d], ps)) :
    ∃ p : Addr, cs = [.pointer (some p)] ∧ MemPlace.cell p.block p.off ∈ ps := by
  obtain ⟨y0, n, hx, hl, h0⟩ := trod_struct1 Tryd.underlying31 h
  rw [cells31] at hl
  simp only [cells29, List.drop_zero] at h0
  simp only [Prod.mk.injEq, DataW.agg.injEq, List.cons.injEq, and_true] at hx
  rw [List.take_of_length_le (by omega)] at h0
  rcases DataW.trod_pointer Tryd.underlying29 h0 with ⟨_, rfl⟩ | ⟨a, cs', y, n', _, rfl, rfl, hc, _⟩
  · simp at hx
  · rw [cells66] at hc
    obtain ⟨b, off, rfl, _, _⟩ := plain_row hc (by decide)
    refine ⟨⟨b, off, none⟩, rfl, ?_⟩
    rw [hx.2, cells66]
    simp [MemPlace.row]

/-- the row's own list -/
def laid2 : List (String × DataW Unit) := Rows.propCarveDFByModuloBackupSucceedsRow.laid
def name4 : String := Rows.propCarveDFByModuloBackupSucceedsRow.named.headD Rows.propCarveDFByModuloBackupSucceedsRow.spec
def name6 : String := Rows.propCarveDFByModuloBackupSucceedsRow.named.tail.headD Rows.propCarveDFByModuloBackupSucceedsRow.spec
theorem g4 : Tryd.prog.globalNamed name4 = some 0 := by kernel_rfl
theorem g6 : Tryd.prog.globalNamed name6 = some 1 := by kernel_rfl
theorem t4 : (Tryd.prog.globals[0]?).map (·.type) = some 31 := by kernel_rfl
theorem t6 : (Tryd.prog.globals[1]?).map (·.type) = some 31 := by kernel_rfl

theorem of_laid {W : World} (h : laidMetH Tryd.prog laid2 W) : ∃ p4 p6, Zs W p4 p6 ∧ Zp W p4 p6 := by
  rw [MakeChecks.laidMetH_plain _ _ _ (by kernel_rfl)] at h
  obtain ⟨ps, ⟨g0, ty0, cs0, f0, p0, q0, hg0, ht0, hv0, hd0, ⟨g1, ty1, cs1, f1, p1, q1, hg1, ht1, hv1, hd1, _, rfl⟩, rfl⟩, _, hrows⟩ := h
  obtain rfl := Option.some.inj (g4.symm.trans hg0)
  obtain rfl := Option.some.inj (g6.symm.trans hg1)
  obtain rfl := Option.some.inj (t4.symm.trans ht0)
  obtain rfl := Option.some.inj (t6.symm.trans ht1)
  obtain ⟨a4, e4, m4⟩ := open_handle hd0
  obtain ⟨a6, e6, m6⟩ := open_handle hd1
  have c4 : W.cell? ⟨0, 0, none⟩ = some (.pointer (some a4)) := by
    have := World.var?_cell hg0 hv0 0
    rw [Array.eq_one_of_toList e4] at this
    simpa using this
  have c6 : W.cell? ⟨1, 0, none⟩ = some (.pointer (some a6)) := by
    have := World.var?_cell hg1 hv1 0
    rw [Array.eq_one_of_toList e6] at this
    simpa using this
  have b4 := (hrows a4.block a4.off (by simp [m4])).1
  have b6 := (hrows a6.block a6.off (by simp [m6])).1
  have hs : 1 < W.heap.size := by
    have : W.cells? 0 ⟨1, 0, none⟩ 1 = some [.pointer (some a6)] := cells?_one (Nat.zero_le _) c6
    exact World.cells?_block this (by decide)
  exact ⟨a4, a6, ⟨c4, c6, hs⟩, b4, b6⟩
end Go.Proofs.Qxb6003779aDoor
