/-
  What stands at each statement of a list that derives: no Go in sight.
-/
import Derived.Test.Qxb6002619aFmtPlain
namespace Go.Proofs.Qxb6002619aFmt

theorem prun_len (l : List It) : ∀ i, (prun l i).B.length ≤ i ∧ (prun l i).O.length ≤ i ∧ (prun l i).S.length = l.length
  | 0 => by simp [prun]
  | i + 1 => by
    have ⟨h1, h2, h3⟩ := prun_len l i
    show (pstep l (prun l i) i).B.length ≤ _ ∧ (pstep l (prun l i) i).O.length ≤ _ ∧ (pstep l (prun l i) i).S.length = _
    unfold pstep
    split
    · refine ⟨by simp; omega, by simp; omega, h3⟩
    · split
      · split
        · exact ⟨by show (prun l i).B.length ≤ _; omega, by show (prun l i).O.length ≤ _; omega, h3⟩
        · split
          · exact ⟨by show (prun l i).B.length ≤ _; omega, by simp; omega, h3⟩
          · split
            · refine ⟨by show (prun l i).B.length ≤ _; omega, ?_, h3⟩
              show ((prun l i).O.eraseIdx _).length ≤ _
              rw [List.length_eraseIdx]; split <;> omega
            · exact ⟨by simp; omega, by simp; omega, by simpa using h3⟩
      · exact ⟨by omega, by omega, h3⟩

theorem ok_sync (l : List It) (hok : okB l = true) (i : Nat) (hi : i < l.length) : ∃ stk mt stk' mt', Sync l i (prun l i) stk mt ∧ mstep l (stk, mt) i = some (stk', mt') := by
  rcases sync_run l i (by omega) with ⟨_, h2⟩ | ⟨stk, mt, _, h2⟩
  · rw [okB_noerr l hok i (by omega)] at h2; cases h2
  · cases hm : mstep l (stk, mt) i with
    | none =>
      have := h2.step_none hm
      have h3 := okB_noerr l hok (i + 1) (by omega)
      rw [show prun l (i + 1) = pstep l (prun l i) i from rfl, this] at h3
      cases h3
    | some st => exact ⟨stk, mt, st.1, st.2, h2, hm⟩
theorem ok_for (l : List It) (hok : okB l = true) (i : Nat) (hi : i < l.length) (hk : (nth l i).k = 1) :
    openIdx (prun l i).B (prun l i).O (nth l i).v = .none ∧ prun l (i + 1) = ⟨(prun l i).B ++ [⟨(nth l i).v, i, -1⟩], (prun l i).O ++ [(prun l i).B.length], (prun l i).S, (prun l i).err⟩ := by
  obtain ⟨stk, mt, stk', mt', hs, hm⟩ := ok_sync l hok i hi
  unfold mstep at hm
  rw [if_pos hk] at hm
  split at hm
  · cases hm
  · rename_i ha
    have ho := hs.open_none (nth l i).v (by simpa using ha)
    refine ⟨ho, ?_⟩
    show pstep l (prun l i) i = _
    unfold pstep
    rw [if_pos hk, ho]; simp
theorem ok_next (l : List It) (hok : okB l = true) (i : Nat) (hi : i < l.length) (hk : (nth l i).k = 2) :
    0 < (prun l i).O.length ∧ ((nth l i).un = false → (nth l i).v = vAt (prun l i).B ((prun l i).O.getD ((prun l i).O.length - 1) 0)) ∧
    openIdx (prun l i).B (prun l i).O (vAt (prun l i).B ((prun l i).O.getD ((prun l i).O.length - 1) 0)) = some ((prun l i).O.length - 1) := by
  obtain ⟨stk, mt, stk', mt', hs, hm⟩ := ok_sync l hok i hi
  unfold mstep at hm
  rw [if_neg (by omega), if_pos hk] at hm
  split at hm
  · cases hm
  · rename_i top ht
    obtain ⟨h1, h2, h3, h4⟩ := hs.last ht
    split at hm
    · cases hm
    · rename_i hc
      refine ⟨h1, fun hu => ?_, openIdx_top _ _ _ h1 rfl⟩
      rw [← h4]
      by_cases e : (nth l top).v = (nth l i).v
      · exact e.symm
      · exact absurd ⟨hu, e⟩ hc
theorem ok_close (l : List It) (hok : okB l = true) (i : Nat) (hi : i < l.length) (hk : (nth l i).k = 2) (o f : Nat) (v : Int) (ho : o = (prun l i).O.getD ((prun l i).O.length - 1) 0) (hf : f = fAt (prun l i).B o) (hv : v = vAt (prun l i).B o) :
    prun l (i + 1) = ⟨(prun l i).B.set o ⟨v, f, (i : Int)⟩, (prun l i).O.dropLast, ((prun l i).S.set f ⟨1, ((prun l i).S.getD f Stm.none).v, (i : Int), ((prun l i).S.getD f Stm.none).un⟩).set i ⟨2, v, (f : Int), (nth l i).un⟩, (prun l i).err⟩ := by
  obtain ⟨h1, h2, _⟩ := ok_next l hok i hi hk
  show pstep l (prun l i) i = _
  have := pstep_close (items := l) (i := i) (σ := prun l i) hk h1 (by
    cases hu : (nth l i).un with
    | true => rfl
    | false => simp only [Bool.false_eq_true, if_false]; exact h2 hu)
  rw [this, ← ho, ← hf, ← hv]
theorem ok_wf (l : List It) (hok : okB l = true) (i : Nat) (hi : i < l.length) :
    (∀ o ∈ (prun l i).O, o < (prun l i).B.length) ∧ (∀ o, o < (prun l i).B.length → fAt (prun l i).B o < i ∧ ((prun l i).S.getD (fAt (prun l i).B o) Stm.none).k = 1) ∧ (prun l i).S.getD i Stm.none = (nth l i).stm := by
  obtain ⟨stk, mt, _, _, hs, _⟩ := ok_sync l hok i hi
  refine ⟨hs.wfO, fun o ho => ?_, ?_⟩
  · have hb := hs.blk o ho
    exact ⟨hb.1, by rw [stm_k hs.kinds _ (by rw [hs.slen]; exact hb.2.1)]; exact hb.2.2.1⟩
  · rw [List.getD_eq_getElem?_getD, hs.later i (Nat.le_refl _), nth_lt l i hi]; rfl

/-- what holds at every statement of every list -/
structure Wf (l : List It) (i : Nat) (σ : PS) : Prop where
  wfO : ∀ o ∈ σ.O, o < σ.B.length
  blk : ∀ o, o < σ.B.length → fAt σ.B o < i ∧ (nth l (fAt σ.B o)).k = 1 ∧ (nth l (fAt σ.B o)).v = vAt σ.B o
  slen : σ.S.length = l.length
  later : ∀ j, i ≤ j → σ.S.getD j Stm.none = (l.map It.stm).getD j Stm.none
  kinds : ∀ j, j < l.length → (σ.S.getD j Stm.none).k = (nth l j).k
theorem stm_at (l : List It) (j : Nat) (h : j < l.length) : (l.map It.stm).getD j Stm.none = (nth l j).stm := by
  simp [List.getD_eq_getElem?_getD, nth, h]
theorem wf_run (l : List It) : ∀ i, i ≤ l.length → Wf l i (prun l i)
  | 0, _ => ⟨by simp [prun], by simp [prun], by simp [prun], fun j _ => rfl, fun j hj => by show ((l.map It.stm).getD j Stm.none).k = _; rw [stm_at l j hj]; rfl⟩
  | i + 1, hi => by
    have h := wf_run l i (by omega)
    show Wf l (i + 1) (pstep l (prun l i) i)
    have later' : ∀ j, i + 1 ≤ j → (prun l i).S.getD j Stm.none = (l.map It.stm).getD j Stm.none := fun j hj => h.later j (by omega)
    have blk' : ∀ o, o < (prun l i).B.length → fAt (prun l i).B o < i + 1 ∧ (nth l (fAt (prun l i).B o)).k = 1 ∧ (nth l (fAt (prun l i).B o)).v = vAt (prun l i).B o := fun o ho => ⟨by have := (h.blk o ho).1; omega, (h.blk o ho).2⟩
    unfold pstep
    split
    · rename_i hk
      refine ⟨fun o ho => ?_, fun o ho => ?_, h.slen, later', h.kinds⟩
      · simp only [List.mem_append, List.mem_singleton, List.length_append, List.length_cons, List.length_nil] at ho ⊢
        rcases ho with ho | ho
        · have := h.wfO o ho; omega
        · omega
      · simp only [List.length_append, List.length_cons, List.length_nil] at ho
        by_cases e : o < (prun l i).B.length
        · show fAt ((prun l i).B ++ _) o < _ ∧ (nth l (fAt ((prun l i).B ++ _) o)).k = 1 ∧ (nth l (fAt ((prun l i).B ++ _) o)).v = vAt ((prun l i).B ++ _) o
          rw [fAt_app _ _ _ e, vAt_app _ _ _ e]; exact blk' o e
        · obtain rfl : o = (prun l i).B.length := by omega
          show fAt ((prun l i).B ++ _) _ < _ ∧ (nth l (fAt ((prun l i).B ++ _) _)).k = 1 ∧ (nth l (fAt ((prun l i).B ++ _) _)).v = vAt ((prun l i).B ++ _) _
          rw [fAt_new, vAt_new]; exact ⟨Nat.lt_succ_self _, hk, rfl⟩
    · split
      · rename_i hk
        split
        · exact ⟨h.wfO, blk', h.slen, later', h.kinds⟩
        · split
          · exact ⟨fun o ho => h.wfO o (List.dropLast_subset _ ho), blk', h.slen, later', h.kinds⟩
          · rename_i j hj
            split
            · exact ⟨fun o ho => h.wfO o (List.mem_of_mem_eraseIdx ho), blk', h.slen, later', h.kinds⟩
            · obtain ⟨hjl, _⟩ := lastIdx_some _ _ _ hj
              have ho := h.wfO _ (getD_mem hjl)
              obtain ⟨hf, hk1, hv1⟩ := h.blk _ ho
              generalize (prun l i).O.getD j 0 = o at ho hf hk1 hv1 ⊢
              refine ⟨fun o' ho' => ?_, fun o' ho' => ?_, by simpa using h.slen, fun j' hj' => ?_, fun j' hj' => ?_⟩
              · simpa using h.wfO o' (List.dropLast_subset _ ho')
              · show fAt ((prun l i).B.set _ _) o' < _ ∧ (nth l (fAt ((prun l i).B.set _ _) o')).k = 1 ∧ (nth l (fAt ((prun l i).B.set _ _) o')).v = vAt ((prun l i).B.set _ _) o'
                rw [fAt_set _ _ _ _ ho, vAt_set _ _ _ _ ho]
                exact blk' o' (by simpa using ho')
              · show (((prun l i).S.set _ _).set i _).getD j' Stm.none = _
                rw [getD_set_ne _ _ _ _ _ (by omega), getD_set_ne _ _ _ _ _ (by omega)]
                exact later' j' hj'
              · show ((((prun l i).S.set _ _).set i _).getD j' Stm.none).k = _
                by_cases e1 : i = j'
                · subst e1
                  rw [getD_set_eq _ _ _ _ (by simp [h.slen]; omega), hk]
                · rw [getD_set_ne _ _ _ _ _ e1]
                  by_cases e2 : fAt (prun l i).B o = j'
                  · subst e2
                    rw [getD_set_eq _ _ _ _ (by rw [h.slen]; omega), hk1]
                  · rw [getD_set_ne _ _ _ _ _ e2]; exact h.kinds j' hj'
      · exact ⟨h.wfO, blk', h.slen, later', h.kinds⟩
theorem wf_here (l : List It) (i : Nat) (hi : i < l.length) : (prun l i).S.getD i Stm.none = (nth l i).stm := by
  rw [(wf_run l i (by omega)).later i (Nat.le_refl _), stm_at l i hi]
theorem wf_blk (l : List It) (i : Nat) (hi : i ≤ l.length) (o : Nat) (ho : o < (prun l i).B.length) : fAt (prun l i).B o < i ∧ ((prun l i).S.getD (fAt (prun l i).B o) Stm.none).k = 1 := by
  have h := wf_run l i hi
  have hb := h.blk o ho
  exact ⟨hb.1, by rw [h.kinds _ (by omega)]; exact hb.2.1⟩
end Go.Proofs.Qxb6002619aFmt
