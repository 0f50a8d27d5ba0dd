/-
  multihoming.carve and ZZCarve.
-/
import Derived.Test.Qxb6003779aDoorDel2
import Derived.RegionTactic
import Derived.ChangeAlike
namespace Go.Proofs.Qxb6003779aDoor
open Go.RowKit

theorem hide {p : Prop} (h : p) : Hid p := h
theorem below2 (w : World) (o1 o2 : Obj) : Below w.heap.size w ((w.alloc o1).alloc o2) := ((Below.refl _ w).alloc (Nat.le_refl _) o1).alloc (by simp) o2

set_option maxHeartbeats 1000000 in
theorem carve_two (g m c tag i k : Nat) (f : Nat → A3) (w : World) (hat : At3 w g (m + 1) f) (hg : g < w.heap.size) (h2 : 1 ≤ m) (hn : m + 1 ≤ 4096) (ht : tag ≤ 4294967295)
    (hi : Hid (i = tag % (m + 1))) (hk : Hid (k = tag % m)) :
    Calls Tryd.prog 9 #[.slice (some ⟨g, 0, none⟩) (m + 1) c, .int .u32 (tag : Int)] w fun e w' => e = .returned (.tuple #[(f i).val, (cut f i k).val]) ∧ Below w.heap.size w w' := by
  have e1 : (tag : Int) % ((m : Int) + 1) = (i : Int) := by rw [hi.out]; push_cast; rfl
  have e2 : (tag : Int) % (m : Int) = (k : Int) := by rw [hk.out]; push_cast; rfl
  have him : i < m + 1 := by rw [hi.out]; exact Nat.mod_lt _ (by omega)
  have hkm : k < m := by rw [hk.out]; exact Nat.mod_lt _ (by omega)
  have a0 : ∀ o1 o2, ((w.alloc o1).alloc o2).cell? ⟨g, i * 3, none⟩ = some (.int .u64 (f i).hi) := fun o1 o2 => by rw [(below2 w o1 o2).cell (by exact hg)]; exact hat.c0 i him
  have a1 : ∀ o1 o2, ((w.alloc o1).alloc o2).cell? ⟨g, i * 3 + 1, none⟩ = some (.int .u64 (f i).lo) := fun o1 o2 => by rw [(below2 w o1 o2).cell (by exact hg)]; exact hat.c1 i him
  have a2 : ∀ o1 o2, ((w.alloc o1).alloc o2).cell? ⟨g, i * 3 + 2, none⟩ = some (.pointer (f i).z) := fun o1 o2 => by rw [(below2 w o1 o2).cell (by exact hg)]; exact hat.c2 i him
  have H : Hid (∀ o1 o2, At3 ((w.alloc o1).alloc o2) g (m + 1) f) := fun o1 o2 => hat.below (below2 w o1 o2) hg
  clear hat
  go_enter Tryd.func9, Tryd.ntmps9
  go_wp2_with fail
  refine (clone_any g (m + 1) c f _ (H.out _ _) hn).mono ?_
  rintro e w1 ⟨b, cap, rfl, how, hnc, hcm, hb⟩
  clear a0 a1 a2
  have hbb : w.heap.size + 2 ≤ b := by
    obtain ⟨_, ⟨hx, _⟩ | ⟨b', cap', cur, hx, hg', _⟩⟩ := how
    · simp at hx
    · simp at hx hg'; omega
  have HO := hide how
  have HB := hide hb
  clear how hb
  go_wp2_with fail
  refine (del_any _ b cap i (m + 1) f w1 him hnc hcm HO.out).mono ?_
  rintro e w2 ⟨rfl, hat2, hb2⟩
  have hbel := HB.out.trans (hb2.mono (by simp; omega))
  have q0 := hat2.c0 k hkm
  have q1 := hat2.c1 k hkm
  have q2 := hat2.c2 k hkm
  have hc1 := fun (o : Nat) => hbel.cell (p := ⟨w.heap.size, o, none⟩) (by simp; omega)
  have hc2 := fun (o : Nat) => hbel.cell (p := ⟨w.heap.size + 1, o, none⟩) (by simp)
  have hf1 := fun (o : Nat) => hbel.frozen (p := ⟨w.heap.size, o, none⟩) (by simp; omega)
  have hf2 := fun (o : Nat) => hbel.frozen (p := ⟨w.heap.size + 1, o, none⟩) (by simp)
  have hz : w.heap.size + 1 < w2.heap.size := by have := hbel.size; simp at this; omega
  have HB2 := hide hbel
  clear hat2 hb2 hbel
  simp only [Nat.add_sub_cancel]
  go_wp2
  obtain ⟨w3, hw3⟩ : ∃ w3, w3 = ((w2.setCell ⟨w.heap.size + 1, 0, none⟩ (.int .u64 (cut f i k).hi)).setCell ⟨w.heap.size + 1, 1, none⟩ (.int .u64 (cut f i k).lo)).setCell ⟨w.heap.size + 1, 2, none⟩ (.pointer (cut f i k).z) := ⟨_, rfl⟩
  have d0 : w3.cell? ⟨w.heap.size, 0, none⟩ = some (.int .u64 (f i).hi) := by rw [hw3]; simp [hc1, go_sem]
  have d1 : w3.cell? ⟨w.heap.size, 1, none⟩ = some (.int .u64 (f i).lo) := by rw [hw3]; simp [hc1, go_sem]
  have d2 : w3.cell? ⟨w.heap.size, 2, none⟩ = some (.pointer (f i).z) := by rw [hw3]; simp [hc1, go_sem]
  have d3 : w3.cell? ⟨w.heap.size + 1, 0, none⟩ = some (.int .u64 (cut f i k).hi) := by rw [hw3]; simp [hc2, go_sem]
  have d4 : w3.cell? ⟨w.heap.size + 1, 1, none⟩ = some (.int .u64 (cut f i k).lo) := by rw [hw3]; simp [hc2, go_sem]
  have d5 : w3.cell? ⟨w.heap.size + 1, 2, none⟩ = some (.pointer (cut f i k).z) := by rw [hw3]; simp [hc2, go_sem]
  have k1 : ∀ o, w3.frozen? ⟨w.heap.size, o, none⟩ = false := fun o => by rw [hw3]; simp [hf1, go_sem]
  have k2 : ∀ o, w3.frozen? ⟨w.heap.size + 1, o, none⟩ = false := fun o => by rw [hw3]; simp [hf2, go_sem]
  have hb3 : Below w.heap.size w w3 := by
    rw [hw3]
    exact ((((below2 w _ _).trans (HB2.out.mono (by simp; omega))).setCell (by simp) _).setCell (by simp) _).setCell (by simp) _
  rw [← hw3]
  have HB3 := hide hb3
  clear hc1 hc2 hf1 hf2 hw3 hb3 q0 q1 q2 hz
  go_region
  all_goals go_wp2
  all_goals refine bodyPost_ret (v := .tuple #[(f i).val, (cut f i k).val]) (by simp [results, Tryd.results9, go_sem, d0, d1, d2, d3, d4, d5, A3.val]) rfl ⟨rfl, ?_⟩
  all_goals
    have hb3 := HB3.out
    repeat (first | with_reducible exact hb3 | with_reducible refine Below.drew ?_ | with_reducible refine Below.setCell ?_ (by simp) _)

set_option maxHeartbeats 1000000 in
theorem carve_one (g c tag : Nat) (f : Nat → A3) (w : World) (hat : At3 w g 1 f) (hg : g < w.heap.size) :
    Calls Tryd.prog 9 #[.slice (some ⟨g, 0, none⟩) 1 c, .int .u32 (tag : Int)] w fun e w' => e = .returned (.tuple #[(f 0).val, A3.zero.val]) ∧ Below w.heap.size w w' := by
  have a0 : ∀ o1 o2, ((w.alloc o1).alloc o2).cell? ⟨g, 0, none⟩ = some (.int .u64 (f 0).hi) := fun o1 o2 => by rw [(below2 w o1 o2).cell (by exact hg)]; exact hat.c0 0 (by omega)
  have a1 : ∀ o1 o2, ((w.alloc o1).alloc o2).cell? ⟨g, 1, none⟩ = some (.int .u64 (f 0).lo) := fun o1 o2 => by rw [(below2 w o1 o2).cell (by exact hg)]; exact hat.c1 0 (by omega)
  have a2 : ∀ o1 o2, ((w.alloc o1).alloc o2).cell? ⟨g, 2, none⟩ = some (.pointer (f 0).z) := fun o1 o2 => by rw [(below2 w o1 o2).cell (by exact hg)]; exact hat.c2 0 (by omega)
  have H : Hid (∀ o1 o2, At3 ((w.alloc o1).alloc o2) g 1 f) := fun o1 o2 => hat.below (below2 w o1 o2) hg
  clear hat
  go_enter Tryd.func9, Tryd.ntmps9
  go_wp2_with fail
  refine (clone_any g 1 c f _ (H.out _ _) (by omega)).mono ?_
  rintro e w1 ⟨b, cap, rfl, how, hnc, hcm, hb⟩
  clear a0 a1 a2
  have hbb : w.heap.size + 2 ≤ b := by
    obtain ⟨_, ⟨hx, _⟩ | ⟨b', cap', cur, hx, hg', _⟩⟩ := how
    · simp at hx
    · simp at hx hg'; omega
  have HO := hide how
  have HB := hide hb
  clear how hb
  go_wp2_with fail
  refine (del_any _ b cap 0 1 f w1 (by omega) hnc hcm HO.out).mono ?_
  rintro e w2 ⟨rfl, hat2, hb2⟩
  have hbel := HB.out.trans (hb2.mono (by simp; omega))
  have hc1 := fun (o : Nat) => hbel.cell (p := ⟨w.heap.size, o, none⟩) (by simp; omega)
  have hc2 := fun (o : Nat) => hbel.cell (p := ⟨w.heap.size + 1, o, none⟩) (by simp)
  have hf1 := fun (o : Nat) => hbel.frozen (p := ⟨w.heap.size, o, none⟩) (by simp; omega)
  have hf2 := fun (o : Nat) => hbel.frozen (p := ⟨w.heap.size + 1, o, none⟩) (by simp)
  have d0 : w2.cell? ⟨w.heap.size, 0, none⟩ = some (.int .u64 (f 0).hi) := by simp [hc1, go_sem]
  have d1 : w2.cell? ⟨w.heap.size, 1, none⟩ = some (.int .u64 (f 0).lo) := by simp [hc1, go_sem]
  have d2 : w2.cell? ⟨w.heap.size, 2, none⟩ = some (.pointer (f 0).z) := by simp [hc1, go_sem]
  have d3 : w2.cell? ⟨w.heap.size + 1, 0, none⟩ = some (.int .u64 0) := by simp [hc2, go_sem]
  have d4 : w2.cell? ⟨w.heap.size + 1, 1, none⟩ = some (.int .u64 0) := by simp [hc2, go_sem]
  have d5 : w2.cell? ⟨w.heap.size + 1, 2, none⟩ = some (.pointer none) := by simp [hc2, go_sem]
  have k1 : ∀ o, w2.frozen? ⟨w.heap.size, o, none⟩ = false := fun o => by simp [hf1, go_sem]
  have k2 : ∀ o, w2.frozen? ⟨w.heap.size + 1, o, none⟩ = false := fun o => by simp [hf2, go_sem]
  have HB3 : Hid (Below w.heap.size w w2) := (below2 w _ _).trans (hbel.mono (by simp; omega))
  clear hat2 hb2 hbel hc1 hc2 hf1 hf2
  simp only [Nat.sub_self]
  go_wp2
  go_region
  all_goals go_wp2
  all_goals refine bodyPost_ret (v := .tuple #[(f 0).val, A3.zero.val]) (by simp [results, Tryd.results9, go_sem, d0, d1, d2, d3, d4, d5, A3.val, A3.zero]) rfl ⟨rfl, ?_⟩
  all_goals
    have hb3 := HB3.out
    repeat (first | with_reducible exact hb3 | with_reducible refine Below.drew ?_ | with_reducible refine Below.setCell ?_ (by simp) _)

/-- what carve gives beside the first -/
def bdf (n : Nat) (f : Nat → A3) (tag : Nat) : A3 := if n = 1 then A3.zero else cut f (tag % n) (tag % (n - 1))

theorem carve_any (g n c tag : Nat) (f : Nat → A3) (w : World) (hat : At3 w g n f) (hg : g < w.heap.size) (h1 : 1 ≤ n) (hn : n ≤ 4096) (ht : tag ≤ 4294967295) :
    Calls Tryd.prog 9 #[.slice (some ⟨g, 0, none⟩) n c, .int .u32 (tag : Int)] w fun e w' => e = .returned (.tuple #[(f (tag % n)).val, (bdf n f tag).val]) ∧ Below w.heap.size w w' := by
  by_cases h : n = 1
  · subst h
    have := carve_one g c tag f w hat hg
    rw [Nat.mod_one]
    exact this
  · obtain ⟨m, rfl⟩ : ∃ m, n = m + 1 := ⟨n - 1, by omega⟩
    have := carve_two g m c tag (tag % (m + 1)) (tag % m) f w hat hg (by omega) hn ht rfl rfl
    rw [bdf, if_neg h]
    exact this

set_option maxHeartbeats 1000000 in
theorem zz_any (g n c tag : Nat) (f : Nat → A3) (w : World) (hat : At3 w g n f) (hg : g < w.heap.size) (h1 : 1 ≤ n) (hn : n ≤ 4096) (ht : tag ≤ 4294967295) (x y : A3) (hx : Hid (x = f (tag % n))) (hy : Hid (y = bdf n f tag)) :
    Calls Tryd.prog 6 #[.slice (some ⟨g, 0, none⟩) n c, .int .u32 (tag : Int)] w fun e w' => e = .returned (.tuple #[x.val, y.val]) ∧ Below w.heap.size w w' := by
  have H : Hid (∀ o1 o2, At3 ((w.alloc o1).alloc o2) g n f) := fun o1 o2 => hat.below (below2 w o1 o2) hg
  clear hat
  go_enter Tryd.func6, Tryd.ntmps6
  go_wp2_with fail
  refine (carve_any g n c tag f _ (H.out _ _) (by simp; omega) h1 hn ht).mono ?_
  rintro e w2 ⟨rfl, hbel⟩
  rw [← hx.out, ← hy.out]
  have hc1 := fun (o : Nat) => hbel.cell (p := ⟨w.heap.size, o, none⟩) (by simp; omega)
  have hc2 := fun (o : Nat) => hbel.cell (p := ⟨w.heap.size + 1, o, none⟩) (by simp)
  have hf1 := fun (o : Nat) => hbel.frozen (p := ⟨w.heap.size, o, none⟩) (by simp; omega)
  have hf2 := fun (o : Nat) => hbel.frozen (p := ⟨w.heap.size + 1, o, none⟩) (by simp)
  have HB3 : Hid (Below w.heap.size w w2) := (below2 w _ _).trans (hbel.mono (by simp; omega))
  clear hbel
  simp only [A3.val]
  go_wp2
  refine bodyPost_ret (v := .tuple #[x.val, y.val]) (by simp [results, Tryd.results6, go_sem, hc1, hc2, A3.val]) rfl ⟨rfl, ?_⟩
  have hb3 := HB3.out
  repeat (first | with_reducible exact hb3 | with_reducible refine Below.drew ?_ | with_reducible refine Below.setCell ?_ (by simp) _)
end Go.Proofs.Qxb6003779aDoor
