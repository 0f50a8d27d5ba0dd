/-
  The row in the midst of the merge: no Go in sight.
-/
import Derived.Test.Qxb6002608aPlain
namespace Go.Proofs.Qxb6002608a

structure Mid (D : List KR) (i m : Nat) (R : List KR) : Prop where
  len : R.length = D.length
  mlen : (mer D i).length = m
  head : R.take m = mer D i
  tail : ∀ k, i ≤ k → R[k]? = D[k]?

theorem Mid.start (D : List KR) : Mid D 0 0 D := ⟨rfl, rfl, by simp [mer_zero], fun _ _ => rfl⟩
theorem Mid.le {D R : List KR} {i m : Nat} (h : Mid D i m R) (hi : i ≤ D.length) : m ≤ i := by rw [← h.mlen]; exact mer_length D i hi
theorem Mid.at {D R : List KR} {i m : Nat} (h : Mid D i m R) (hi : i < D.length) (hr : i < R.length) : R[i] = D[i] := by
  have := h.tail i (Nat.le_refl _)
  rw [List.getElem?_eq_getElem hi, List.getElem?_eq_getElem hr] at this
  exact Option.some.inj this
theorem Mid.last {D R : List KR} {i m : Nat} (h : Mid D i m R) (hm : 0 < m) (hr : m - 1 < R.length) : (mer D i).getLast? = some R[m - 1] := by
  rw [List.getLast?_eq_getElem?, h.mlen, ← h.head, List.getElem?_take_of_lt (by omega), List.getElem?_eq_getElem hr]
theorem Mid.app0 {D R : List KR} {i : Nat} (h : Mid D i 0 R) (hi : i < D.length) : Mid D (i + 1) 1 (R.set 0 D[i]) := by
  have h0 : mer D i = [] := List.length_eq_zero_iff.1 h.mlen
  have h1 : mer D (i + 1) = [D[i]] := by rw [mer_succ D i hi, h0]; rfl
  have hl := h.len
  refine ⟨by rw [List.length_set]; exact hl, by rw [h1]; rfl, ?_, fun k hk => ?_⟩
  · rw [h1]
    cases R with
    | nil => simp at hl; omega
    | cons a R => simp
  · rw [List.getElem?_set_ne (by omega)]; exact h.tail k (by omega)
theorem Mid.app {D R : List KR} {i m : Nat} (h : Mid D i m R) (hm : 0 < m) (hi : i < D.length) (hr : m - 1 < R.length) (hp : past D[i] R[m - 1] = true) : Mid D (i + 1) (m + 1) (R.set m D[i]) := by
  have h1 : mer D (i + 1) = mer D i ++ [D[i]] := by rw [mer_succ D i hi]; unfold step; rw [h.last hm hr]; simp [hp]
  have hle := h.le (by omega)
  have hl := h.len
  refine ⟨by rw [List.length_set]; exact hl, by rw [h1, List.length_append, h.mlen]; rfl, ?_, fun k hk => ?_⟩
  · have hlt : m < (R.set m D[i]).length := by rw [List.length_set]; omega
    rw [h1, List.take_succ_eq_append_getElem hlt, List.getElem_set_self, List.take_set_of_le (Nat.le_refl _), h.head]
  · rw [List.getElem?_set_ne (by omega)]; exact h.tail k (by omega)
theorem Mid.join {D R : List KR} {i m : Nat} (h : Mid D i m R) (hm : 0 < m) (hi : i < D.length) (hr : m - 1 < R.length) (hp : past D[i] R[m - 1] = false) : Mid D (i + 1) m (R.set (m - 1) (joined R[m - 1] D[i])) := by
  have h1 : mer D (i + 1) = (mer D i).dropLast ++ [joined R[m - 1] D[i]] := by rw [mer_succ D i hi]; unfold step; rw [h.last hm hr]; simp [hp]
  have hle := h.le (by omega)
  have hl := h.len
  refine ⟨by rw [List.length_set]; exact hl, by rw [h1, List.length_append, List.length_dropLast, h.mlen]; simp; omega, ?_, fun k hk => ?_⟩
  · obtain ⟨q, rfl⟩ : ∃ q, m = q + 1 := ⟨m - 1, by omega⟩
    have hq : q + 1 - 1 = q := by omega
    simp only [hq] at *
    have hlt : q < (R.set q (joined R[q] D[i])).length := by rw [List.length_set]; omega
    rw [h1, List.take_succ_eq_append_getElem hlt, List.getElem_set_self, List.take_set_of_le (Nat.le_refl _), ← h.head, List.dropLast_take (by omega)]
    simp
  · rw [List.getElem?_set_ne (by omega)]; exact h.tail k (by omega)
theorem Mid.end {D R : List KR} {m : Nat} (h : Mid D D.length m R) : R.take m = mer D D.length ∧ (mer D D.length).length = m := ⟨h.head, h.mlen⟩

theorem joined_e (r s : KR) : (joined r s).e = r.e ∨ (joined r s).e = s.e := by unfold joined; split <;> simp
/-- what holds of every start and every end holds behind the merge -/
theorem mer_keys (p : ByteArray → Prop) (D : List KR) (hD : ∀ x ∈ D, p x.s ∧ p x.e) : ∀ i, i ≤ D.length → ∀ x ∈ mer D i, p x.s ∧ p x.e
  | 0, _ => by rw [mer_zero]; intro x hx; cases hx
  | i + 1, hi => by
    have ih := mer_keys p D hD i (by omega)
    rw [mer_succ D i (by omega)]
    have hx := hD D[i] (List.getElem_mem _)
    unfold step
    cases hl : (mer D i).getLast? with
    | none => intro y hy; simp at hy; subst hy; exact hx
    | some a =>
      have ha := ih a (List.mem_of_getLast? hl)
      simp only
      split
      · intro y hy
        rcases List.mem_append.1 hy with h | h
        · exact ih y h
        · simp at h; subst h; exact hx
      · intro y hy
        rcases List.mem_append.1 hy with h | h
        · exact ih y (List.dropLast_subset _ h)
        · simp at h
          subst h
          refine ⟨by rw [joined_s]; exact ha.1, ?_⟩
          rcases joined_e a D[i] with e | e
          · rw [e]; exact ha.2
          · rw [e]; exact hx.2
end Go.Proofs.Qxb6002608a
