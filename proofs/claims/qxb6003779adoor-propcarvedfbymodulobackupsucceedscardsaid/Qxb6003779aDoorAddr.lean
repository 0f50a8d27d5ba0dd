/-
  The walk of toAddr and what it calls.
-/
import Derived.Test.Qxb6003779aDoorRows
import Derived.WalkKit
import Derived.WalkSpells
import Derived.WalkLawsBesides
import Derived.Deep.QuietTactic
import Derived.BigQuiet
import Derived.Deep.RegionWith
namespace Go.Proofs.Qxb6003779aDoor
open Go.RowKit

def lo4 (a b c d : Int) : Int :=
  bits .or .u64 (bits .or .u64 (bits .or .u64 (bits .or .u64 281470681743360 (IntKind.u64.wrap (IntKind.u64.wrap a * 16777216))) (IntKind.u64.wrap (IntKind.u64.wrap b * 65536))) (IntKind.u64.wrap (IntKind.u64.wrap c * 256))) (IntKind.u64.wrap d)

/-- the two package-level handles lie in blocks 0 and 1, and stay there whatever is laid behind -/
def Zs (w : World) (p4 p6 : Addr) : Prop := w.cell? ⟨0, 0, none⟩ = some (.pointer (some p4)) ∧ w.cell? ⟨1, 0, none⟩ = some (.pointer (some p6)) ∧ 1 < w.heap.size

theorem Zs.old {w w' : World} {p4 p6 : Addr} (h : Zs w p4 p6) (hb : Below w.heap.size w w') : Zs w' p4 p6 :=
  ⟨by rw [hb.cell (by have := h.2.2; show 0 < w.heap.size; omega)]; exact h.1, by rw [hb.cell (by have := h.2.2; show 1 < w.heap.size; omega)]; exact h.2.1, by have := h.2.2; have := hb.size; omega⟩

set_option maxHeartbeats 400000 in
theorem from4 (a b c d : Int) (p4 p6 : Addr) (w : World) (hz : Zs w p4 p6) :
    Calls Tryd.prog 7 #[.agg #[.int .u8 a, .int .u8 b, .int .u8 c, .int .u8 d]] w fun e w' => e = .returned (.agg #[.int .u64 0, .int .u64 (lo4 a b c d), .pointer (some p4)]) ∧ Below w.heap.size w w' := by
  obtain ⟨hz4, hz6, hs⟩ := hz
  have hz' : ∀ o1 o2, ((w.alloc o1).alloc o2).cell? ⟨0, 0, none⟩ = some (.pointer (some p4)) := fun o1 o2 => by
    rw [(((Below.refl _ w).alloc (Nat.le_refl _) o1).alloc (by simp) o2).cell (by show 0 < w.heap.size; omega)]; exact hz4
  clear hz6 hz4
  go_enter Tryd.func7, Tryd.ntmps7
  go_wp2
  refine bodyPost_ret (v := .agg #[.int .u64 0, .int .u64 (lo4 a b c d), .pointer (some p4)]) (by simp [results, Tryd.results7, go_sem, lo4]) rfl ⟨rfl, ?_⟩
  exact ((Below.refl _ _).alloc (Nat.le_refl _) _).alloc (by simp) _

def be8 (x0 x1 x2 x3 x4 x5 x6 x7 : Int) : Int :=
  bits .or .u64 (bits .or .u64 (bits .or .u64 (bits .or .u64 (bits .or .u64 (bits .or .u64 (bits .or .u64 (IntKind.u64.wrap x7) (IntKind.u64.wrap (IntKind.u64.wrap x6 * 256))) (IntKind.u64.wrap (IntKind.u64.wrap x5 * 65536)))
    (IntKind.u64.wrap (IntKind.u64.wrap x4 * 16777216))) (IntKind.u64.wrap (IntKind.u64.wrap x3 * 4294967296))) (IntKind.u64.wrap (IntKind.u64.wrap x2 * 1099511627776))) (IntKind.u64.wrap (IntKind.u64.wrap x1 * 281474976710656))) (IntKind.u64.wrap (IntKind.u64.wrap x0 * 72057594037927936))

set_option maxHeartbeats 1000000 in
theorem be (x0 x1 x2 x3 x4 x5 x6 x7 : Int) (g off c : Nat) (w : World)
    (h0 : w.cell? ⟨g, off, none⟩ = some (.int .u8 x0)) (h1 : w.cell? ⟨g, off + 1, none⟩ = some (.int .u8 x1)) (h2 : w.cell? ⟨g, off + 2, none⟩ = some (.int .u8 x2)) (h3 : w.cell? ⟨g, off + 3, none⟩ = some (.int .u8 x3))
    (h4 : w.cell? ⟨g, off + 4, none⟩ = some (.int .u8 x4)) (h5 : w.cell? ⟨g, off + 5, none⟩ = some (.int .u8 x5)) (h6 : w.cell? ⟨g, off + 6, none⟩ = some (.int .u8 x6)) (h7 : w.cell? ⟨g, off + 7, none⟩ = some (.int .u8 x7)) :
    Calls Tryd.prog 10 #[.slice (some ⟨g, off, none⟩) 8 c] w fun e w' => e = .returned (.int .u64 (be8 x0 x1 x2 x3 x4 x5 x6 x7)) ∧ ∃ n, w' = w.drewN n := by
  go_enter Tryd.func10, Tryd.ntmps10
  go_wp2
  go_quiet (fail)
  go_wp2
  go_ret
  exact ⟨rfl, _, rfl⟩

set_option maxHeartbeats 1000000 in
theorem from16 (x0 x1 x2 x3 x4 x5 x6 x7 y0 y1 y2 y3 y4 y5 y6 y7 : Int) (p4 p6 : Addr) (w : World) (hz : Zs w p4 p6) :
    Calls Tryd.prog 8 #[.agg #[.int .u8 x0, .int .u8 x1, .int .u8 x2, .int .u8 x3, .int .u8 x4, .int .u8 x5, .int .u8 x6, .int .u8 x7, .int .u8 y0, .int .u8 y1, .int .u8 y2, .int .u8 y3, .int .u8 y4, .int .u8 y5, .int .u8 y6, .int .u8 y7]] w
      fun e w' => e = .returned (.agg #[.int .u64 (be8 x0 x1 x2 x3 x4 x5 x6 x7), .int .u64 (be8 y0 y1 y2 y3 y4 y5 y6 y7), .pointer (some p6)]) ∧ Below w.heap.size w w' := by
  obtain ⟨hz4, hz6, hs⟩ := hz
  have hz' : ∀ o1 o2, ((w.alloc o1).alloc o2).cell? ⟨1, 0, none⟩ = some (.pointer (some p6)) := fun o1 o2 => by
    rw [(((Below.refl _ w).alloc (Nat.le_refl _) o1).alloc (by simp) o2).cell (by show 1 < w.heap.size; omega)]; exact hz6
  clear hz6 hz4
  go_enter Tryd.func8, Tryd.ntmps8
  go_wp2
  go_region_with (first
    | (go_at_call_of 10 (Value.slice (some ⟨w.heap.size, 0, none⟩) 8 16); refine (be x0 x1 x2 x3 x4 x5 x6 x7 _ _ _ _ ?_ ?_ ?_ ?_ ?_ ?_ ?_ ?_).mono ?_; (iterate 8 go_simp); rintro e w' ⟨rfl, n, rfl⟩)
    | (go_at_call_of 10 (Value.slice (some ⟨w.heap.size, 8, none⟩) 8 8); refine (be y0 y1 y2 y3 y4 y5 y6 y7 _ _ _ _ ?_ ?_ ?_ ?_ ?_ ?_ ?_ ?_).mono ?_; (iterate 8 go_simp); rintro e w' ⟨rfl, n, rfl⟩))
  all_goals go_wp2
  all_goals (refine bodyPost_ret (v := .agg #[.int .u64 (be8 x0 x1 x2 x3 x4 x5 x6 x7), .int .u64 (be8 y0 y1 y2 y3 y4 y5 y6 y7), .pointer (some p6)]) (by simp [results, Tryd.results8, go_sem]) rfl ⟨rfl, ?_⟩)
  all_goals (repeat (first | with_reducible exact Below.refl _ _ | with_reducible refine Below.drew ?_ | with_reducible refine below_drewN ?_ _ | with_reducible refine Below.alloc ?_ (by simp) _ | with_reducible refine Below.setCell ?_ (by simp) _))

set_option maxHeartbeats 1000000 in
theorem to1 (x0 x1 x2 x3 x4 x5 x6 x7 y0 y1 y2 y3 y4 y5 y6 y7 : Int) (p4 p6 : Addr) (w : World) (hz : Zs w p4 p6) :
    Calls Tryd.prog 5 #[.agg #[.int .u8 1, .int .u8 x0, .int .u8 x1, .int .u8 x2, .int .u8 x3, .int .u8 x4, .int .u8 x5, .int .u8 x6, .int .u8 x7, .int .u8 y0, .int .u8 y1, .int .u8 y2, .int .u8 y3, .int .u8 y4, .int .u8 y5, .int .u8 y6, .int .u8 y7]] w
      fun e w' => e = .returned (.agg #[.int .u64 0, .int .u64 (lo4 x0 x1 x2 x3), .pointer (some p4)]) ∧ Below w.heap.size w w' := by
  have H : Hid (∀ o1 o2, Zs ((w.alloc o1).alloc o2) p4 p6) := fun o1 o2 => hz.old (((Below.refl _ w).alloc (Nat.le_refl _) o1).alloc (by simp) o2)
  clear hz
  go_enter Tryd.func5, Tryd.ntmps5
  go_wp2_with fail
  refine (from4 x0 x1 x2 x3 p4 p6 _ (H.out _ _)).mono ?_
  rintro e w1 ⟨rfl, hb⟩
  have hz : w.heap.size + 1 < w1.heap.size := by have := hb.size; simp at this; omega
  have hc := fun (o : Nat) => hb.cell (p := ⟨w.heap.size + 1, o, none⟩) (by simp)
  have hf := fun (o : Nat) => hb.frozen (p := ⟨w.heap.size + 1, o, none⟩) (by simp)
  go_wp2
  refine bodyPost_ret (v := .agg #[.int .u64 0, .int .u64 (lo4 x0 x1 x2 x3), .pointer (some p4)]) (by simp [results, Tryd.results5, go_sem, hc]) rfl ⟨rfl, ?_⟩
  exact ((((((Below.refl _ _).alloc (Nat.le_refl _) _).alloc (by simp) _).trans (hb.mono (by simp; omega))).setCell (by simp) _).setCell (by simp) _).setCell (by simp) _

set_option maxHeartbeats 1000000 in
theorem to2 (x0 x1 x2 x3 x4 x5 x6 x7 y0 y1 y2 y3 y4 y5 y6 y7 : Int) (p4 p6 : Addr) (w : World) (hz : Zs w p4 p6) :
    Calls Tryd.prog 5 #[.agg #[.int .u8 2, .int .u8 x0, .int .u8 x1, .int .u8 x2, .int .u8 x3, .int .u8 x4, .int .u8 x5, .int .u8 x6, .int .u8 x7, .int .u8 y0, .int .u8 y1, .int .u8 y2, .int .u8 y3, .int .u8 y4, .int .u8 y5, .int .u8 y6, .int .u8 y7]] w
      fun e w' => e = .returned (.agg #[.int .u64 (be8 x0 x1 x2 x3 x4 x5 x6 x7), .int .u64 (be8 y0 y1 y2 y3 y4 y5 y6 y7), .pointer (some p6)]) ∧ Below w.heap.size w w' := by
  have H : Hid (∀ o1 o2, Zs ((w.alloc o1).alloc o2) p4 p6) := fun o1 o2 => hz.old (((Below.refl _ w).alloc (Nat.le_refl _) o1).alloc (by simp) o2)
  clear hz
  go_enter Tryd.func5, Tryd.ntmps5
  go_wp2_with fail
  refine (from16 x0 x1 x2 x3 x4 x5 x6 x7 y0 y1 y2 y3 y4 y5 y6 y7 p4 p6 _ (H.out _ _)).mono ?_
  rintro e w1 ⟨rfl, hb⟩
  have hz : w.heap.size + 1 < w1.heap.size := by have := hb.size; simp at this; omega
  have hc := fun (o : Nat) => hb.cell (p := ⟨w.heap.size + 1, o, none⟩) (by simp)
  have hf := fun (o : Nat) => hb.frozen (p := ⟨w.heap.size + 1, o, none⟩) (by simp)
  go_wp2
  refine bodyPost_ret (v := .agg #[.int .u64 (be8 x0 x1 x2 x3 x4 x5 x6 x7), .int .u64 (be8 y0 y1 y2 y3 y4 y5 y6 y7), .pointer (some p6)]) (by simp [results, Tryd.results5, go_sem, hc]) rfl ⟨rfl, ?_⟩
  exact ((((((Below.refl _ _).alloc (Nat.le_refl _) _).alloc (by simp) _).trans (hb.mono (by simp; omega))).setCell (by simp) _).setCell (by simp) _).setCell (by simp) _

/-- an address as the law is handed it: its kind and its octets -/
structure PA where
  k : Int
  o : Nat → Int
/-- an address as netip holds it -/
structure A3 where
  hi : Int
  lo : Int
  z : Option Addr
def A3.val (a : A3) : Value := .agg #[.int .u64 a.hi, .int .u64 a.lo, .pointer a.z]
def A3.zero : A3 := ⟨0, 0, none⟩
def PA.adr (p4 p6 : Addr) (a : PA) : A3 :=
  if a.k = 1 then ⟨0, lo4 (a.o 0) (a.o 1) (a.o 2) (a.o 3), some p4⟩
  else ⟨be8 (a.o 0) (a.o 1) (a.o 2) (a.o 3) (a.o 4) (a.o 5) (a.o 6) (a.o 7), be8 (a.o 8) (a.o 9) (a.o 10) (a.o 11) (a.o 12) (a.o 13) (a.o 14) (a.o 15), some p6⟩
theorem PA.adr_z (p4 p6 : Addr) (a : PA) : (a.adr p4 p6).z.isSome = true := by
  unfold PA.adr; split <;> rfl
def PA.val (a : PA) : Value := .agg #[.int .u8 a.k, .int .u8 (a.o 0), .int .u8 (a.o 1), .int .u8 (a.o 2), .int .u8 (a.o 3), .int .u8 (a.o 4), .int .u8 (a.o 5), .int .u8 (a.o 6), .int .u8 (a.o 7),
  .int .u8 (a.o 8), .int .u8 (a.o 9), .int .u8 (a.o 10), .int .u8 (a.o 11), .int .u8 (a.o 12), .int .u8 (a.o 13), .int .u8 (a.o 14), .int .u8 (a.o 15)]

theorem toAddr_any (a : PA) (hk : a.k = 1 ∨ a.k = 2) (p4 p6 : Addr) (w : World) (hz : Zs w p4 p6) :
    Calls Tryd.prog 5 #[a.val] w fun e w' => e = .returned (a.adr p4 p6).val ∧ Below w.heap.size w w' := by
  unfold PA.val PA.adr A3.val
  rcases hk with hk | hk
  · rw [hk]; exact to1 _ _ _ _ _ _ _ _ _ _ _ _ _ _ _ _ p4 p6 w hz
  · rw [hk]; exact to2 _ _ _ _ _ _ _ _ _ _ _ _ _ _ _ _ p4 p6 w hz
end Go.Proofs.Qxb6003779aDoor
