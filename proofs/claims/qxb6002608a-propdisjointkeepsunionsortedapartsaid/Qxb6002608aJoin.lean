/-
  joined: the range that covers two.
-/
import Derived.Test.Qxb6002608aCmp
import Derived.RegionTactic
namespace Go.Proofs.Qxb6002608a
open Go.RowKit

theorem three0 (w : World) (a b c : Obj) : (((w.alloc a).alloc b).alloc c).heap[w.heap.size]? = some a := by
  show (((w.heap.push a).push b).push c)[_]? = _
  simp [Array.getElem?_push] <;> omega
theorem three1 (w : World) (a b c : Obj) : (((w.alloc a).alloc b).alloc c).heap[w.heap.size + 1]? = some b := by
  show (((w.heap.push a).push b).push c)[_]? = _
  rw [Array.getElem?_push, if_neg (by simp), Array.getElem?_push, if_pos (by simp)]
theorem three2 (w : World) (a b c : Obj) : (((w.alloc a).alloc b).alloc c).heap[w.heap.size + 1 + 1]? = some c := by
  show (((w.heap.push a).push b).push c)[_]? = _
  rw [Array.getElem?_push, if_pos (by simp)]

set_option maxHeartbeats 2000000 in
theorem joined_walk (rs re ss se : ByteArray) (rt ro st so : Bool) (w : World) :
    Calls Try.prog 55 #[.agg #[.string rs, .string re, .bool rt, .bool ro], .agg #[.string ss, .string se, .bool st, .bool so]] w
      fun e' w' => e' = .returned (joined ⟨rs, re, rt, ro⟩ ⟨ss, se, st, so⟩).val ∧ Below w.heap.size w w' := by
  cases ha : after ⟨ss, se, st, so⟩ ⟨rs, re, rt, ro⟩ with
  | false =>
    have hr : (joined ⟨rs, re, rt, ro⟩ ⟨ss, se, st, so⟩).val = .agg #[.string rs, .string re, .bool rt, .bool ro] := by simp [joined, ha, KR.val]
    rw [hr]; clear hr
    have hcon := fun W => (endsAfter_walk ss se rs re st so rt ro W)
    rw [ha] at hcon
    clear ha
    go_enter Try.func55, Try.ntmps55
    go_wp2_with fail
    go_at_call 76
    refine (hcon _).mono ?_
    rintro e1 w2 ⟨rfl, hb⟩
    clear hcon
    have b0 : w2.heap[w.heap.size]? = some (.cells #[.string rs, .string re, .bool rt, .bool ro] 90) := (hb.block _ (by simp <;> omega)).trans (three0 w _ _ _)
    have b1 : w2.heap[w.heap.size + 1]? = some (.cells #[.string ss, .string se, .bool st, .bool so] 90) := (hb.block _ (by simp <;> omega)).trans (three1 w _ _ _)
    have b2 : w2.heap[w.heap.size + 1 + 1]? = some (.cells #[.string ⟨#[]⟩, .string ⟨#[]⟩, .bool false, .bool false] 90) := (hb.block _ (by simp <;> omega)).trans (three2 w _ _ _)
    have q0 : w2.cell? ⟨w.heap.size, 0, none⟩ = some (.string rs) := by simp [World.cell?, b0]
    have q1 : w2.cell? ⟨w.heap.size, 1, none⟩ = some (.string re) := by simp [World.cell?, b0]
    have q2 : w2.cell? ⟨w.heap.size, 2, none⟩ = some (.bool rt) := by simp [World.cell?, b0]
    have q3 : w2.cell? ⟨w.heap.size, 3, none⟩ = some (.bool ro) := by simp [World.cell?, b0]
    have p0 : w2.cell? ⟨w.heap.size + 1 + 1, 0, none⟩ = some (.string ⟨#[]⟩) := by simp [World.cell?, b2]
    have p1 : w2.cell? ⟨w.heap.size + 1 + 1, 1, none⟩ = some (.string ⟨#[]⟩) := by simp [World.cell?, b2]
    have p2 : w2.cell? ⟨w.heap.size + 1 + 1, 2, none⟩ = some (.bool false) := by simp [World.cell?, b2]
    have p3 : w2.cell? ⟨w.heap.size + 1 + 1, 3, none⟩ = some (.bool false) := by simp [World.cell?, b2]
    have f2 : ∀ j, w2.frozen? ⟨w.heap.size + 1 + 1, j, none⟩ = false := fun j => by simp [World.frozen?, b2]
    clear b0 b1 b2
    have HB : Hid (Below w.heap.size w w2) := ((((Below.refl _ _).alloc (Nat.le_refl _) _).alloc (by simp) _).alloc (by simp <;> omega) _).trans (hb.mono (by simp <;> omega))
    clear hb
    go_wp2
    refine bodyPost_ret (v := .agg #[.string rs, .string re, .bool rt, .bool ro]) (by simp [results, Try.results55, go_sem, p0, p1, p2, p3]) rfl ⟨rfl, ?_⟩
    exact (((HB.out.setCell (by simp <;> omega) _).setCell (by simp <;> omega) _).setCell (by simp <;> omega) _).setCell (by simp <;> omega) _
  | true =>
    have hr : (joined ⟨rs, re, rt, ro⟩ ⟨ss, se, st, so⟩).val = .agg #[.string rs, .string se, .bool st, .bool so] := by simp [joined, ha, KR.val]
    rw [hr]; clear hr
    have hcon := fun W => (endsAfter_walk ss se rs re st so rt ro W)
    rw [ha] at hcon
    clear ha
    go_enter Try.func55, Try.ntmps55
    go_wp2_with fail
    go_at_call 76
    refine (hcon _).mono ?_
    rintro e1 w2 ⟨rfl, hb⟩
    clear hcon
    have b0 : w2.heap[w.heap.size]? = some (.cells #[.string rs, .string re, .bool rt, .bool ro] 90) := (hb.block _ (by simp <;> omega)).trans (three0 w _ _ _)
    have b1 : w2.heap[w.heap.size + 1]? = some (.cells #[.string ss, .string se, .bool st, .bool so] 90) := (hb.block _ (by simp <;> omega)).trans (three1 w _ _ _)
    have b2 : w2.heap[w.heap.size + 1 + 1]? = some (.cells #[.string ⟨#[]⟩, .string ⟨#[]⟩, .bool false, .bool false] 90) := (hb.block _ (by simp <;> omega)).trans (three2 w _ _ _)
    have q0 : w2.cell? ⟨w.heap.size, 0, none⟩ = some (.string rs) := by simp [World.cell?, b0]
    have q1 : w2.cell? ⟨w.heap.size, 1, none⟩ = some (.string re) := by simp [World.cell?, b0]
    have q2 : w2.cell? ⟨w.heap.size, 2, none⟩ = some (.bool rt) := by simp [World.cell?, b0]
    have q3 : w2.cell? ⟨w.heap.size, 3, none⟩ = some (.bool ro) := by simp [World.cell?, b0]
    have p0 : w2.cell? ⟨w.heap.size + 1 + 1, 0, none⟩ = some (.string ⟨#[]⟩) := by simp [World.cell?, b2]
    have p1 : w2.cell? ⟨w.heap.size + 1 + 1, 1, none⟩ = some (.string ⟨#[]⟩) := by simp [World.cell?, b2]
    have p2 : w2.cell? ⟨w.heap.size + 1 + 1, 2, none⟩ = some (.bool false) := by simp [World.cell?, b2]
    have p3 : w2.cell? ⟨w.heap.size + 1 + 1, 3, none⟩ = some (.bool false) := by simp [World.cell?, b2]
    have f2 : ∀ j, w2.frozen? ⟨w.heap.size + 1 + 1, j, none⟩ = false := fun j => by simp [World.frozen?, b2]
    have s0 : w2.cell? ⟨w.heap.size + 1, 0, none⟩ = some (.string ss) := by simp [World.cell?, b1]
    have s1 : w2.cell? ⟨w.heap.size + 1, 1, none⟩ = some (.string se) := by simp [World.cell?, b1]
    have s2 : w2.cell? ⟨w.heap.size + 1, 2, none⟩ = some (.bool st) := by simp [World.cell?, b1]
    have s3 : w2.cell? ⟨w.heap.size + 1, 3, none⟩ = some (.bool so) := by simp [World.cell?, b1]
    have f0 : ∀ j, w2.frozen? ⟨w.heap.size, j, none⟩ = false := fun j => by simp [World.frozen?, b0]
    clear b0 b1 b2
    have HB : Hid (Below w.heap.size w w2) := ((((Below.refl _ _).alloc (Nat.le_refl _) _).alloc (by simp) _).alloc (by simp <;> omega) _).trans (hb.mono (by simp <;> omega))
    clear hb
    go_wp2
    go_region
    go_wp2
    refine bodyPost_ret (v := .agg #[.string rs, .string se, .bool st, .bool so]) (by simp [results, Try.results55, go_sem, p0, p1, p2, p3]) rfl ⟨rfl, ?_⟩
    exact (((((((HB.out.setCell (Nat.le_refl _) _).setCell (Nat.le_refl _) _).setCell (Nat.le_refl _) _).setCell (by simp <;> omega) _).setCell (by simp <;> omega) _).setCell (by simp <;> omega) _).setCell (by simp <;> omega) _).drew
end Go.Proofs.Qxb6002608a
