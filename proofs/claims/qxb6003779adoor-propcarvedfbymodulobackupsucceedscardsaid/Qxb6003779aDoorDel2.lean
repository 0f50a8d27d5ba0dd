/-
  slices.Delete(s, i, i+1) at netip.Addr.
-/
import Derived.Test.Qxb6003779aDoorDel
import Derived.Lib.EndianMore
import Derived.Deep.MidRow
namespace Go.Proofs.Qxb6003779aDoor
open Go.RowKit

def zcells : List Value := [.int .u64 0, .int .u64 0, .pointer none]

theorem run_clear3 (w : World) (ty : TypeId) (b o c : Nat)
    (hc : ∀ j, j < 3 → (w.cell? ⟨b, o + j, none⟩).isSome = true) (hf : ∀ j, j < 3 → w.frozen? ⟨b, o + j, none⟩ = false) :
    (Builtin.clear_ #[25] ty #[.slice (some ⟨b, o, none⟩) 1 c]).run Tryd.prog w = .ok (.tuple #[]) (w.setCells b o zcells) := by
  have hzc : (Builtin.zeroCells (Value.agg #[.int .u64 0, .int .u64 0, .pointer none]).cells 1).toList = zcells := by kernel_rfl
  have hst := run_storeCells_cells (P := Tryd.prog) b o zcells 0 w (by simpa [zcells] using hc) (by simpa [zcells] using hf) (by intro v hv; simp [zcells] at hv; rcases hv with rfl | rfl | rfl <;> rfl)
  simp only [Nat.add_zero] at hst
  have hv := Tryd.zeroValue33
  simp [Builtin.clear_, run_underlying Tryd.underlying25, hv, hzc, hst]

set_option maxHeartbeats 1000000 in
set_option maxRecDepth 1000000 in
theorem del_walk (b cap i r : Nat) (f : Nat → A3) (w : World) (hc : i + 1 + r ≤ cap) (hm : cap ≤ 9223372036854775807)
    (hat : At3 w b (i + 1 + r) f) (hfr : ∀ j, w.frozen? ⟨b, j, none⟩ = false) :
    Calls Tryd.prog 11 #[.slice (some ⟨b, 0, none⟩) (i + 1 + r) cap, .int .i64 i, .int .i64 ((i : Int) + 1)] w fun e w' => e = .returned (.slice (some ⟨b, 0, none⟩) (i + r) cap) ∧
      w' = (w.drew.setCells b (0 + i * 3) (flat r (fun t => f (i + 1 + t)))).setCells b ((i + r) * 3) zcells := by
  obtain ⟨i0, hi0, hz0, hz1, hz2⟩ := info_parts info33
  obtain ⟨news, hnews⟩ : ∃ news, news = flat r (fun t => f (i + 1 + t)) := ⟨_, rfl⟩
  have hlen : news.length = r * 3 := by rw [hnews, flat_length]
  have hcell : ∀ j, j < (i + 1 + r) * 3 → (w.cell? ⟨b, j, none⟩).isSome = true := by
    intro j hj
    rw [hat.flat j _ (List.getElem?_eq_getElem (by rw [flat_length]; exact hj))]; rfl
  obtain ⟨A, hA, hsrc⟩ : ∃ A : Addr, (if cap = i + 1 then some (⟨b, 0, none⟩ : Addr) else some ⟨b, (i + 1) * 3, none⟩) = some A ∧ Hid (∀ j u, news[j]? = some u → w.drew.cell? (A.add j) = some u) := by
    by_cases h : cap = i + 1
    · refine ⟨⟨b, 0, none⟩, by simp [h], fun j u hu => ?_⟩
      have h0 : news.length = 0 := by rw [hlen]; omega
      rw [List.length_eq_zero_iff.1 h0] at hu
      simp at hu
    · refine ⟨⟨b, (i + 1) * 3, none⟩, by simp [h], fun j u hu => ?_⟩
      have hj : j < r * 3 := by
        have := (List.getElem?_eq_some_iff.1 hu).1
        rwa [hlen] at this
      rw [Addr.add_lit]
      refine hat.flat ((i + 1) * 3 + j) u ?_
      rw [hnews] at hu
      rw [← hu]
      have hd : j = j / 3 * 3 + j % 3 := by omega
      rw [hd, flat_at _ (j % 3) (by omega) r (j / 3) (by omega), show (i + 1) * 3 + (j / 3 * 3 + j % 3) = (i + 1 + j / 3) * 3 + j % 3 by omega, flat_at f (j % 3) (by omega) _ (i + 1 + j / 3) (by omega)]
  have s2 : Hid (∀ u ∈ news, u.oneCell' = true) := by rw [hnews]; exact flat_one _ _
  have s3 : Hid (∀ j, j < news.length → (w.drew.cell? ⟨b, 0 + i * 3 + j, none⟩).isSome = true ∧ w.drew.frozen? ⟨b, 0 + i * 3 + j, none⟩ = false) := by
    intro j hj
    rw [hlen] at hj
    exact ⟨hcell (0 + i * 3 + j) (by omega), hfr _⟩
  have s1 : Hid (news.length = r * 3) := hlen
  rw [← hnews]
  obtain ⟨W1, hW1⟩ : ∃ W1, W1 = w.drew.setCells b (0 + i * 3) news := ⟨_, rfl⟩
  have hc1 : ∀ j, j < 3 → (W1.cell? ⟨b, (i + r) * 3 + j, none⟩).isSome = true := by
    intro j hj
    rw [hW1]
    exact World.isSome_setCells b news _ _ _ (hcell _ (by omega))
  have hf1 : ∀ j, j < 3 → W1.frozen? ⟨b, (i + r) * 3 + j, none⟩ = false := by
    intro j hj
    rw [hW1, World.frozen?_setCells]
    exact hfr _
  have hcl : ∀ ty c, (Builtin.clear_ #[25] ty #[.slice (some ⟨b, (i + r) * 3, none⟩) (i + 1 + r - (i + r)) c]).run Tryd.prog W1 = .ok (.tuple #[]) (W1.setCells b ((i + r) * 3) zcells) := fun ty c => by
    rw [show i + 1 + r - (i + r) = 1 by omega]; exact run_clear3 W1 ty b _ c hc1 hf1
  have hW : Hid (W1 = w.drew.setCells b (0 + i * 3) news) := hW1
  have hp0 : (0 : Int) ≤ (i : Int) + 1 := by omega
  have hp1 : (i : Int) + 1 ≤ (i : Int) + 1 + (r : Int) := by omega
  have hp2 : ((i : Int) + 1).toNat = i + 1 := by omega
  have hne : ((i : Int) == (i : Int) + 1) = false := by rw [beq_eq_false_iff_ne]; omega
  have hic : i ≤ cap := by omega
  have hic1 : i + 1 ≤ cap := by omega
  clear hc1 hf1 hW1 hcell hlen hnews hat hfr
  go_enter Tryd.func11, Tryd.ntmps11
  go_wp2_with fail
  go_region_law (refine step_append_room rfl (.tmp 22) (.tmp 25) 25 rfl 33 i0 3 Tryd.underlying25 hi0 hz1 b 0 i cap (by simp [Act.eval, Act.put]) A r (cap - (i + 1)) news (by simp [Act.eval, Act.put]) s1.out hsrc.out s2.out (by omega) s3.out ?_; rw [← hW.out])
  go_wp2
  go_ret
  exact ⟨rfl, by rw [hW.out]⟩

/-- what stands behind: f without its i-th -/
def cut (f : Nat → A3) (i : Nat) : Nat → A3 := fun t => if t < i then f t else f (t + 1)

theorem del_any (B b cap i n : Nat) (f : Nat → A3) (w : World) (hi : i < n) (hc : n ≤ cap) (hm : cap ≤ maxLen) (how : w.ownsRow B 33 3 (.slice (some ⟨b, 0, none⟩) n cap) n (flat n f)) :
    Calls Tryd.prog 11 #[.slice (some ⟨b, 0, none⟩) n cap, .int .i64 i, .int .i64 ((i : Int) + 1)] w fun e w' => e = .returned (.slice (some ⟨b, 0, none⟩) (n - 1) cap) ∧ At3 w' b (n - 1) (cut f i) ∧ Below b w w' := by
  obtain ⟨r, rfl⟩ : ∃ r, n = i + 1 + r := ⟨n - (i + 1), by omega⟩
  have hat := At3.of_owns how
  refine (del_walk b cap i r f w hc (by unfold maxLen at hm; omega) hat (how.frozenAt)).mono ?_
  rintro e w' ⟨rfl, rfl⟩
  have hlen : (flat r (fun t => f (i + 1 + t))).length = r * 3 := flat_length _ _
  have hcell : ∀ j, j < (i + 1 + r) * 3 → (w.drew.cell? ⟨b, j, none⟩).isSome = true := by
    intro j hj
    show (w.cell? _).isSome = true
    rw [hat.flat j _ (List.getElem?_eq_getElem (by rw [flat_length]; exact hj))]; rfl
  have key : ∀ t j, t < i + r → j < 3 → ((w.drew.setCells b (0 + i * 3) (flat r (fun t => f (i + 1 + t)))).setCells b ((i + r) * 3) zcells).cell? ⟨b, t * 3 + j, none⟩ = (cut f i t).cells[j]? := by
    intro t j ht hj
    rw [World.cell?_setCells_out b zcells _ _ _ (fun _ _ => Or.inl (by show t * 3 + j < (i + r) * 3; omega))]
    by_cases hti : t < i
    · rw [World.cell?_setCells_out b _ _ _ _ (fun _ _ => Or.inl (by show t * 3 + j < 0 + i * 3; omega))]
      show w.cell? _ = _
      have hl2 : t * 3 + j < (flat (i + 1 + r) f).length := by rw [flat_length]; omega
      rw [hat.flat (t * 3 + j) (flat (i + 1 + r) f)[t * 3 + j] (List.getElem?_eq_getElem hl2), ← List.getElem?_eq_getElem, flat_at f j hj _ t (by omega), cut, if_pos hti]
    · have e1 : (⟨b, t * 3 + j, none⟩ : Addr) = ⟨b, 0 + i * 3 + ((t - i) * 3 + j), none⟩ := by congr 1; omega
      have hlt : (t - i) * 3 + j < (flat r (fun t => f (i + 1 + t))).length := by rw [hlen]; omega
      rw [e1, World.cell?_setCells_in b _ _ _ (fun j' hj' => hcell _ (by rw [hlen] at hj'; omega)) _ hlt, ← List.getElem?_eq_getElem, flat_at _ j hj r (t - i) (by omega), cut, if_neg hti]
      show (f (i + 1 + (t - i))).cells[j]? = _
      rw [show i + 1 + (t - i) = t + 1 by omega]
  refine ⟨by rw [show i + 1 + r - 1 = i + r by omega], ⟨fun t ht => ?_, fun t ht => ?_, fun t ht => ?_⟩, ?_⟩
  · exact key t 0 (by omega) (by omega)
  · exact key t 1 (by omega) (by omega)
  · exact key t 2 (by omega) (by omega)
  · exact (((Below.refl b w).drew).trans (Lib.below_setCells_w (Nat.le_refl b) _ _ _)).trans (Lib.below_setCells_w (Nat.le_refl b) _ _ _)
end Go.Proofs.Qxb6003779aDoor
