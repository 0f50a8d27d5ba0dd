/-
  The walks that only read: namesFit, inRange.
-/
import Derived.Test.Qxb6002619aFmtRows
import Derived.Test.Qxb6002619aFmtPlain
import Derived.WalkKit
import Derived.WalkSpells
import Derived.WalkLawsBesides
import Derived.Deep.QuietTactic
import Derived.BigQuiet
namespace Go.Proofs.Qxb6002619aFmt
open Go.RowKit

theorem hide {p : Prop} (h : p) : Hid p := h
theorem ret_bool {a b : Bool} (h : a = b) : Ending.returned (.bool a) = .returned (.bool b) := by rw [h]

/-- the items lie there -/
structure ItView (w : World) (b off : Nat) (l : List It) : Prop where
  c0 : ∀ i, i < l.length → w.cell? ⟨b, off + i * 5, none⟩ = some (.int .i64 (nth l i).k)
  c1 : ∀ i, i < l.length → w.cell? ⟨b, off + i * 5 + 1, none⟩ = some (.int .i64 (nth l i).v)
  c2 : ∀ i, i < l.length → w.cell? ⟨b, off + i * 5 + 2, none⟩ = some (.bool (nth l i).un)
  c3 : ∀ i, i < l.length → w.cell? ⟨b, off + i * 5 + 3, none⟩ = some (.int .i64 (nth l i).num)
  c4 : ∀ i, i < l.length → w.cell? ⟨b, off + i * 5 + 4, none⟩ = some (.int .i64 (nth l i).fl)
theorem ItView.below {w w' : World} {b off B : Nat} {l : List It} (h : ItView w b off l) (hb : Below B w w') (hg : b < B) : ItView w' b off l where
  c0 i hi := by rw [hb.cell (by exact hg)]; exact h.c0 i hi
  c1 i hi := by rw [hb.cell (by exact hg)]; exact h.c1 i hi
  c2 i hi := by rw [hb.cell (by exact hg)]; exact h.c2 i hi
  c3 i hi := by rw [hb.cell (by exact hg)]; exact h.c3 i hi
  c4 i hi := by rw [hb.cell (by exact hg)]; exact h.c4 i hi
def ShowsI (w : World) (ao : Option Addr) (l : List It) : Prop := l = [] ∨ ∃ b off, ao = some ⟨b, off, none⟩ ∧ b < w.heap.size ∧ ItView w b off l
theorem ShowsI.below {w w' : World} {ao : Option Addr} {l : List It} {B : Nat} (h : ShowsI w ao l) (hb : Below B w w') (hB : w.heap.size ≤ B) : ShowsI w' ao l := by
  rcases h with h | ⟨b, off, h1, h2, h3⟩
  · exact Or.inl h
  · exact Or.inr ⟨b, off, h1, by have := hb.size; omega, h3.below hb (by omega)⟩
theorem ShowsI.get {w : World} {ao : Option Addr} {l : List It} (h : ShowsI w ao l) {j : Nat} (hj : j < l.length) : ∃ b off, ao = some ⟨b, off, none⟩ ∧ b < w.heap.size ∧ ItView w b off l := by
  rcases h with h | h
  · rw [h] at hj; simp at hj
  · exact h

/-- the names lie there -/
def StView (w : World) (b off : Nat) (l : List ByteArray) : Prop := ∀ i (h : i < l.length), w.cell? ⟨b, off + i, none⟩ = some (.string l[i])
def ShowsN (w : World) (ao : Option Addr) (l : List ByteArray) : Prop := l = [] ∨ ∃ b off, ao = some ⟨b, off, none⟩ ∧ b < w.heap.size ∧ StView w b off l
theorem ShowsN.below {w w' : World} {ao : Option Addr} {l : List ByteArray} {B : Nat} (h : ShowsN w ao l) (hb : Below B w w') (hB : w.heap.size ≤ B) : ShowsN w' ao l := by
  rcases h with h | ⟨b, off, h1, h2, h3⟩
  · exact Or.inl h
  · exact Or.inr ⟨b, off, h1, by have := hb.size; omega, fun i hi => by rw [hb.cell (by show b < B; omega)]; exact h3 i hi⟩
theorem ShowsN.get {w : World} {ao : Option Addr} {l : List ByteArray} (h : ShowsN w ao l) {j : Nat} (hj : j < l.length) : ∃ b off, ao = some ⟨b, off, none⟩ ∧ b < w.heap.size ∧ StView w b off l := by
  rcases h with h | h
  · rw [h] at hj; simp at hj
  · exact h

set_option maxHeartbeats 1000000 in
theorem namesFit_any (ao : Option Addr) (cap : Nat) (l : List ByteArray) (w : World) (hS : ShowsN w ao l) (hn : l.length ≤ 4096) :
    Calls Tryf.prog 13 #[.slice ao l.length cap] w fun e' w' => (∃ r : Bool, e' = .returned (.bool r)) ∧ w' = w := by
  have HS := hide hS
  clear hS
  obtain ⟨n, hnl⟩ : ∃ n, n = l.length := ⟨_, rfl⟩
  have HN := hide hnl
  rw [← hnl]
  rw [← hnl] at hn
  clear hnl
  go_enter Tryf.func13, Tryf.ntmps13
  go_wp2
  go_loopw [3] (fun i wr => ∃ j : Nat, j ≤ n ∧ i = .int .i64 j ∧ wr = w) (fun i _ => n - (intOf i).toNat)
  case atStart => exact ⟨0, Nat.zero_le _, rfl, rfl⟩
  case round =>
    obtain ⟨j, hj, rfl, rfl⟩ := hrel
    by_cases hlt : j < n
    · have hlt' : j < l.length := by rw [← HN.out]; exact hlt
      obtain ⟨b, off, rfl, hb, hv⟩ := HS.out.get hlt'
      have c0 := hv j hlt'
      clear hv
      generalize l[j] = x at c0
      by_cases hsz : x.size ≤ 64
      · go_wp2
        go_roundw
        case rel => exact ⟨j + 1, by omega, by go_num, trivial⟩
        case measure => simp [intOf]; omega
      · go_wp2
        go_ret
        exact ⟨⟨false, rfl⟩, rfl⟩
    · go_wp2
      go_ret
      exact ⟨⟨true, rfl⟩, rfl⟩

/-- the variables that are looked up are there -/
def Fit (nv : Nat) (x : It) : Prop := (x.k = 1 ∨ (x.k = 2 ∧ x.un = false)) → 0 ≤ x.v ∧ x.v < nv
def FitAll (nv : Nat) (l : List It) (n : Nat) : Prop := ∀ i, i < n → Fit nv (nth l i)
def RangePost (nv : Nat) (l : List It) (w : World) (e' : Ending) (w' : World) : Prop := (∃ r : Bool, e' = .returned (.bool r) ∧ (r = true → FitAll nv l l.length)) ∧ Below w.heap.size w w'

set_option maxHeartbeats 2000000 in
theorem inRange_any (nv : Nat) (ao : Option Addr) (cap : Nat) (l : List It) (w : World) (hS : ShowsI w ao l) (hn : l.length ≤ 4096) :
    Calls Tryf.prog 7 #[.int .i64 nv, .slice ao l.length cap] w fun e' w' => RangePost nv l w e' w' := by
  have HS := hide hS
  clear hS
  obtain ⟨n, hnl⟩ : ∃ n, n = l.length := ⟨_, rfl⟩
  have HN := hide hnl
  rw [← hnl]
  rw [← hnl] at hn
  clear hnl
  go_enter Tryf.func7, Tryf.ntmps7
  go_wp2
  go_loopw [5] (fun i wr => ∃ j : Nat, j ≤ n ∧ i = .int .i64 j ∧ Hid (FitAll nv l j) ∧ Hid (Below w.heap.size w wr)) (fun i _ => n - (intOf i).toNat)
  case atStart => exact ⟨0, Nat.zero_le _, rfl, fun i hi => by omega, Below.refl _ _⟩
  case round =>
    obtain ⟨j, hj, rfl, HF, HB⟩ := hrel
    by_cases hlt : j < n
    · have hlt' : j < l.length := by rw [← HN.out]; exact hlt
      obtain ⟨b, off, rfl, hb, hv'⟩ := HS.out.get hlt'
      have hv := hv'.below HB.out hb
      have c0 := hv.c0 j hlt'
      have c1 := hv.c1 j hlt'
      have c2 := hv.c2 j hlt'
      have c3 := hv.c3 j hlt'
      have c4 := hv.c4 j hlt'
      clear hv hv'
      have HB1 : ∀ o, Hid (Below w.heap.size w (wr.alloc o)) := fun o => HB.out.alloc HB.out.size o
      have hstep : Fit nv (nth l j) → FitAll nv l (j + 1) := fun h i hi => by
        by_cases e : i = j
        · rw [e]; exact h
        · exact HF.out i (by omega)
      have HT := hide hstep
      clear hstep
      obtain ⟨x, hx⟩ : ∃ x, x = nth l j := ⟨_, rfl⟩
      rw [← hx] at c0 c1 c2 c3 c4 HT
      clear hx
      obtain ⟨k, v, un, num, fl⟩ := x
      simp only at c0 c1 c2 c3 c4
      by_cases h1 : k = 1
      · subst h1
        by_cases hr : 0 ≤ v ∧ v < nv
        · have HT1 : Hid (FitAll nv l (j + 1)) := HT.out fun _ => hr
          obtain ⟨hr1, hr2⟩ := hr
          go_wp2
          go_roundw
          case rel => exact ⟨j + 1, by omega, by go_num, HT1, HB1 _⟩
          case measure => simp [intOf]; omega
        · by_cases hr1 : v < 0
          · go_wp2
            go_ret
            exact ⟨⟨false, rfl, fun h => by cases h⟩, HB1 _⟩
          · have hr2 : (nv : Int) ≤ v := by omega
            have hr3 : 0 ≤ v := by omega
            clear hr
            go_wp2
            go_ret
            exact ⟨⟨false, rfl, fun h => by cases h⟩, HB1 _⟩
      · by_cases h2 : k = 2
        · subst h2
          cases un with
          | true =>
            have HT1 : Hid (FitAll nv l (j + 1)) := HT.out fun h => by
              rcases h with h | ⟨_, h⟩
              · cases h
              · cases h
            go_wp2
            go_roundw
            case rel => exact ⟨j + 1, by omega, by go_num, HT1, HB1 _⟩
            case measure => simp [intOf]; omega
          | false =>
            by_cases hr : 0 ≤ v ∧ v < nv
            · have HT1 : Hid (FitAll nv l (j + 1)) := HT.out fun _ => hr
              obtain ⟨hr1, hr2⟩ := hr
              go_wp2
              go_roundw
              case rel => exact ⟨j + 1, by omega, by go_num, HT1, HB1 _⟩
              case measure => simp [intOf]; omega
            · by_cases hr1 : v < 0
              · go_wp2
                go_ret
                exact ⟨⟨false, rfl, fun h => by cases h⟩, HB1 _⟩
              · have hr2 : (nv : Int) ≤ v := by omega
                have hr3 : 0 ≤ v := by omega
                clear hr
                go_wp2
                go_ret
                exact ⟨⟨false, rfl, fun h => by cases h⟩, HB1 _⟩
        · have HT1 : Hid (FitAll nv l (j + 1)) := HT.out fun h => by
            rcases h with h | ⟨h, _⟩
            · exact absurd h h1
            · exact absurd h h2
          go_wp2
          go_roundw
          case rel => exact ⟨j + 1, by omega, by go_num, HT1, HB1 _⟩
          case measure => simp [intOf]; omega
    · go_wp2
      go_ret
      obtain rfl : n = j := by omega
      exact ⟨⟨true, rfl, fun _ => by have := HF.out; rw [HN.out] at this; exact this⟩, HB.out⟩
end Go.Proofs.Qxb6002619aFmt
