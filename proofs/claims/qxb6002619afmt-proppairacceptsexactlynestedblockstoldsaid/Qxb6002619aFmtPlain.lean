/-
  THE PLAIN LAW: FOR and NEXT, the grammar's stack and the pairing side by side: no Go in sight.
-/
namespace Go.Proofs.Qxb6002619aFmt

/-- a statement as it comes in -/
structure It where
  k : Int
  v : Int
  un : Bool
  num : Int
  fl : Int
/-- a statement as the program holds it: its kind, its variable, its partner, 'written without a variable' -/
structure Stm where
  k : Int
  v : Int
  p : Int
  un : Bool
/-- a block: its variable, its FOR, its NEXT -/
structure Blk where
  v : Int
  f : Nat
  l : Int
def It.none : It := ⟨0, 0, false, 0, 0⟩
def Blk.none : Blk := ⟨0, 0, 0⟩
def Stm.none : Stm := ⟨0, 0, 0, false⟩
def It.stm (x : It) : Stm := ⟨x.k, x.v, 0, x.un⟩
def nth (l : List It) (j : Nat) : It := l.getD j It.none
def vAt (B : List Blk) (o : Nat) : Int := (B.getD o Blk.none).v
def fAt (B : List Blk) (o : Nat) : Nat := (B.getD o Blk.none).f

/-- the greatest j below n at which p holds -/
def lastIdx (p : Nat → Bool) : Nat → Option Nat
  | 0 => .none
  | n + 1 => if p n then some n else lastIdx p n
theorem lastIdx_none (p : Nat → Bool) : ∀ n, lastIdx p n = .none ↔ ∀ j, j < n → p j = false
  | 0 => by simp [lastIdx]
  | n + 1 => by
    unfold lastIdx
    split
    · rename_i h
      simp only [reduceCtorEq, false_iff]
      intro hh
      rw [hh n (Nat.lt_succ_self n)] at h; cases h
    · rename_i h
      rw [lastIdx_none p n]
      constructor
      · intro hh j hj
        by_cases e : j = n
        · subst e; simpa using h
        · exact hh j (by omega)
      · exact fun hh j hj => hh j (by omega)
theorem lastIdx_some (p : Nat → Bool) : ∀ n j, lastIdx p n = some j → j < n ∧ p j = true
  | 0, j, h => by simp [lastIdx] at h
  | n + 1, j, h => by
    unfold lastIdx at h
    split at h
    · rename_i hp
      cases h
      exact ⟨Nat.lt_succ_self _, hp⟩
    · have := lastIdx_some p n j h
      exact ⟨by omega, this.2⟩
theorem lastIdx_top (p : Nat → Bool) (n : Nat) (h : p n = true) : lastIdx p (n + 1) = some n := by
  unfold lastIdx; rw [if_pos h]

/-! ### the model -/
def mstep (items : List It) (st : List Nat × List Int) (i : Nat) : Option (List Nat × List Int) :=
  if (nth items i).k = 1 then
    if st.1.any fun j => decide ((nth items j).v = (nth items i).v) then .none else some (st.1 ++ [i], st.2)
  else if (nth items i).k = 2 then
    match st.1.getLast? with
    | .none => .none
    | some top => if (nth items i).un = false ∧ (nth items top).v ≠ (nth items i).v then .none
      else some (st.1.dropLast, (st.2.set top (i : Int)).set i (top : Int))
  else some st
def mrun (items : List It) : Nat → Option (List Nat × List Int)
  | 0 => some ([], List.replicate items.length (-1))
  | i + 1 => (mrun items i).bind fun st => mstep items st i
def okB (items : List It) : Bool := match mrun items items.length with
  | some (stk, _) => stk.isEmpty
  | .none => false

/-! ### the pairing -/
structure PS where
  B : List Blk
  O : List Nat
  S : List Stm
  err : Bool
def openIdx (B : List Blk) (O : List Nat) (v : Int) : Option Nat := lastIdx (fun j => decide (vAt B (O.getD j 0) = v)) O.length
def pstep (items : List It) (σ : PS) (i : Nat) : PS :=
  if (nth items i).k = 1 then
    ⟨σ.B ++ [⟨(nth items i).v, i, -1⟩], σ.O ++ [σ.B.length], σ.S, σ.err || (openIdx σ.B σ.O (nth items i).v).isSome⟩
  else if (nth items i).k = 2 then
    if (nth items i).un = true ∧ σ.O = [] then ⟨σ.B, σ.O, σ.S, true⟩
    else
      match openIdx σ.B σ.O (if (nth items i).un then vAt σ.B (σ.O.getD (σ.O.length - 1) 0) else (nth items i).v) with
      | .none => ⟨σ.B, σ.O.dropLast, σ.S, true⟩
      | some j => if j + 1 < σ.O.length then ⟨σ.B, σ.O.eraseIdx j, σ.S, true⟩
        else ⟨σ.B.set (σ.O.getD j 0) ⟨vAt σ.B (σ.O.getD j 0), fAt σ.B (σ.O.getD j 0), (i : Int)⟩, σ.O.dropLast,
              (σ.S.set (fAt σ.B (σ.O.getD j 0)) ⟨1, (σ.S.getD (fAt σ.B (σ.O.getD j 0)) Stm.none).v, (i : Int), (σ.S.getD (fAt σ.B (σ.O.getD j 0)) Stm.none).un⟩).set i ⟨2, vAt σ.B (σ.O.getD j 0), (fAt σ.B (σ.O.getD j 0) : Int), (nth items i).un⟩, σ.err⟩
  else σ
def prun (items : List It) : Nat → PS
  | 0 => ⟨[], [], items.map It.stm, false⟩
  | i + 1 => pstep items (prun items i) i

theorem pstep_err (items : List It) (σ : PS) (i : Nat) (h : σ.err = true) : (pstep items σ i).err = true := by
  unfold pstep
  split
  · simp [h]
  · split
    · split
      · rfl
      · split
        · rfl
        · split
          · rfl
          · exact h
    · exact h

/-- the two side by side -/
structure Sync (items : List It) (i : Nat) (σ : PS) (stk : List Nat) (mt : List Int) : Prop where
  noerr : σ.err = false
  same : stk = σ.O.map (fAt σ.B)
  wfO : ∀ o ∈ σ.O, o < σ.B.length
  blk : ∀ o, o < σ.B.length → fAt σ.B o < i ∧ fAt σ.B o < items.length ∧ (nth items (fAt σ.B o)).k = 1 ∧ (nth items (fAt σ.B o)).v = vAt σ.B o
  slen : σ.S.length = items.length
  mlen : mt.length = items.length
  later : ∀ j, i ≤ j → σ.S[j]? = items[j]?.map It.stm
  kinds : ∀ j (h : j < σ.S.length), (σ.S[j]).k = (nth items j).k
  fors : ∀ j, j < i → (nth items j).k = 1 → j ∈ stk ∨ (σ.S.getD j Stm.none).p = mt.getD j 0
  nexts : ∀ j, j < i → (nth items j).k = 2 → ∃ m : Nat, m < items.length ∧ mt.getD j 0 = m ∧ (σ.S.getD j Stm.none).p = m ∧ (σ.S.getD j Stm.none).v = (nth items m).v

theorem fAt_app (B : List Blk) (b : Blk) (o : Nat) (h : o < B.length) : fAt (B ++ [b]) o = fAt B o := by
  simp [fAt, List.getD_eq_getElem?_getD, List.getElem?_append_left h]
theorem vAt_app (B : List Blk) (b : Blk) (o : Nat) (h : o < B.length) : vAt (B ++ [b]) o = vAt B o := by
  simp [vAt, List.getD_eq_getElem?_getD, List.getElem?_append_left h]
theorem fAt_new (B : List Blk) (b : Blk) : fAt (B ++ [b]) B.length = b.f := by simp [fAt, List.getD_eq_getElem?_getD]
theorem vAt_new (B : List Blk) (b : Blk) : vAt (B ++ [b]) B.length = b.v := by simp [vAt, List.getD_eq_getElem?_getD]
theorem fAt_set (B : List Blk) (o : Nat) (x : Int) (o' : Nat) (h : o < B.length) : fAt (B.set o ⟨vAt B o, fAt B o, x⟩) o' = fAt B o' := by
  by_cases e : o = o'
  · subst e; simp [fAt, List.getD_eq_getElem?_getD, h]
  · simp [fAt, List.getD_eq_getElem?_getD, List.getElem?_set_ne e]
theorem vAt_set (B : List Blk) (o : Nat) (x : Int) (o' : Nat) (h : o < B.length) : vAt (B.set o ⟨vAt B o, fAt B o, x⟩) o' = vAt B o' := by
  by_cases e : o = o'
  · subst e; simp [vAt, List.getD_eq_getElem?_getD, h]
  · simp [vAt, List.getD_eq_getElem?_getD, List.getElem?_set_ne e]
theorem getD_mem {O : List Nat} {j : Nat} (h : j < O.length) : O.getD j 0 ∈ O := by
  rw [List.getD_eq_getElem?_getD, List.getElem?_eq_getElem h]; exact List.getElem_mem h

theorem Sync.start (items : List It) : Sync items 0 (prun items 0) [] (List.replicate items.length (-1)) where
  noerr := rfl
  same := rfl
  wfO o h := by cases h
  blk o h := by cases h
  slen := by simp [prun]
  mlen := by simp
  later j _ := by simp [prun]
  kinds j h := by
    have hj : j < items.length := by simpa [prun] using h
    simp [prun, nth, List.getD_eq_getElem?_getD, hj, It.stm]
  fors j h := by omega
  nexts j h := by omega

theorem Sync.open_none {items : List It} {i : Nat} {σ : PS} {stk : List Nat} {mt : List Int} (h : Sync items i σ stk mt) (v : Int) (hv : (stk.any fun j => decide ((nth items j).v = v)) = false) : openIdx σ.B σ.O v = .none := by
  unfold openIdx
  rw [lastIdx_none]
  intro j hj
  have hm := getD_mem hj
  have hb := h.blk _ (h.wfO _ hm)
  rw [List.any_eq_false] at hv
  have := hv (fAt σ.B (σ.O.getD j 0)) (by rw [h.same]; exact List.mem_map_of_mem hm)
  rw [hb.2.2.2] at this
  simpa using this
theorem Sync.open_some {items : List It} {i : Nat} {σ : PS} {stk : List Nat} {mt : List Int} (h : Sync items i σ stk mt) (v : Int) (hv : (stk.any fun j => decide ((nth items j).v = v)) = true) : (openIdx σ.B σ.O v).isSome = true := by
  cases ho : openIdx σ.B σ.O v with
  | some j => rfl
  | none =>
    unfold openIdx at ho
    rw [lastIdx_none] at ho
    rw [List.any_eq_true] at hv
    obtain ⟨f, hf, hfv⟩ := hv
    rw [h.same] at hf
    obtain ⟨o, hom, rfl⟩ := List.mem_map.1 hf
    obtain ⟨j, hj, rfl⟩ := List.getElem_of_mem hom
    have := ho j hj
    rw [List.getD_eq_getElem?_getD, List.getElem?_eq_getElem hj] at this
    have hb := h.blk _ (h.wfO _ hom)
    rw [hb.2.2.2] at hfv
    simp at this hfv
    exact absurd hfv this
/-- the innermost open block -/
theorem Sync.last {items : List It} {i : Nat} {σ : PS} {stk : List Nat} {mt : List Int} (h : Sync items i σ stk mt) {top : Nat} (ht : stk.getLast? = some top) :
    0 < σ.O.length ∧ σ.O.getD (σ.O.length - 1) 0 ∈ σ.O ∧ top = fAt σ.B (σ.O.getD (σ.O.length - 1) 0) ∧ (nth items top).v = vAt σ.B (σ.O.getD (σ.O.length - 1) 0) := by
  rw [h.same, List.getLast?_map] at ht
  cases hl : σ.O.getLast? with
  | none => rw [hl] at ht; simp at ht
  | some o =>
    rw [hl] at ht
    have hne : σ.O ≠ [] := by intro e; rw [e] at hl; simp at hl
    have hpos : 0 < σ.O.length := List.length_pos_iff.2 hne
    have ho : σ.O.getD (σ.O.length - 1) 0 = o := by
      rw [List.getD_eq_getElem?_getD, ← List.getLast?_eq_getElem?, hl]; rfl
    have hm : o ∈ σ.O := List.mem_of_getLast? hl
    simp at ht
    rw [ho]
    exact ⟨hpos, hm, ht.symm, by rw [← ht]; exact (h.blk _ (h.wfO _ hm)).2.2.2⟩
theorem openIdx_top (B : List Blk) (O : List Nat) (v : Int) (hpos : 0 < O.length) (hv : vAt B (O.getD (O.length - 1) 0) = v) : openIdx B O v = some (O.length - 1) := by
  unfold openIdx
  obtain ⟨n, hn⟩ : ∃ n, O.length = n + 1 := ⟨O.length - 1, by omega⟩
  rw [hn] at hv ⊢
  exact lastIdx_top _ _ (by simpa using hv)
theorem openIdx_not_top (B : List Blk) (O : List Nat) (v : Int) (hv : vAt B (O.getD (O.length - 1) 0) ≠ v) : ∀ j, openIdx B O v = some j → j + 1 < O.length := by
  intro j hj
  have := lastIdx_some _ _ _ hj
  by_cases e : j + 1 = O.length
  · exfalso
    apply hv
    have e2 : O.length - 1 = j := by omega
    rw [e2]
    simpa using this.2
  · omega

theorem Sync.step_none {items : List It} {i : Nat} {σ : PS} {stk : List Nat} {mt : List Int} (h : Sync items i σ stk mt) (hm : mstep items (stk, mt) i = .none) : (pstep items σ i).err = true := by
  unfold mstep at hm
  unfold pstep
  split at hm
  · rename_i hk
    rw [if_pos hk]
    split at hm
    · rename_i ha
      simp only [h.open_some _ ha, Bool.or_true]
    · cases hm
  · rename_i hk
    rw [if_neg hk]
    split at hm
    · rename_i hk2
      rw [if_pos hk2]
      split at hm
      · rename_i hl
        have hO : σ.O = [] := by
          have : stk = [] := by simpa using hl
          rw [h.same] at this
          simpa using this
        split
        · rfl
        · have e : openIdx σ.B σ.O (if (nth items i).un then vAt σ.B (σ.O.getD (σ.O.length - 1) 0) else (nth items i).v) = .none := by rw [hO]; rfl
          rw [e]
      · rename_i top ht
        have hlast := h.last ht
        split at hm
        · rename_i hc
          have hu : ¬ ((nth items i).un = true ∧ σ.O = []) := by rw [hc.1]; simp
          rw [if_neg hu]
          have hcv : vAt σ.B (σ.O.getD (σ.O.length - 1) 0) ≠ (nth items i).v := by rw [← hlast.2.2.2]; exact hc.2
          simp only [hc.1, Bool.false_eq_true, if_false]
          cases ho : openIdx σ.B σ.O (nth items i).v with
          | none => rfl
          | some j =>
            simp only
            rw [if_pos (openIdx_not_top _ _ _ hcv j ho)]
        · cases hm
    · cases hm

theorem nth_lt (items : List It) (j : Nat) (h : j < items.length) : items[j]? = some (nth items j) := by
  simp [nth, List.getD_eq_getElem?_getD, h]
theorem stm_k {items : List It} {σ : PS} (hk : ∀ j (h : j < σ.S.length), (σ.S[j]).k = (nth items j).k) (j : Nat) (h : j < σ.S.length) : (σ.S.getD j Stm.none).k = (nth items j).k := by
  rw [List.getD_eq_getElem?_getD, List.getElem?_eq_getElem h]; exact hk j h
theorem getD_set_ne (S : List Stm) (i j : Nat) (x d : Stm) (h : i ≠ j) : (S.set i x).getD j d = S.getD j d := by
  simp [List.getD_eq_getElem?_getD, List.getElem?_set_ne h]
theorem getD_set_eq (S : List Stm) (i : Nat) (x d : Stm) (h : i < S.length) : (S.set i x).getD i d = x := by
  simp [List.getD_eq_getElem?_getD, h]
theorem geti_set_ne (S : List Int) (i j : Nat) (x d : Int) (h : i ≠ j) : (S.set i x).getD j d = S.getD j d := by
  simp [List.getD_eq_getElem?_getD, List.getElem?_set_ne h]
theorem geti_set_eq (S : List Int) (i : Nat) (x d : Int) (h : i < S.length) : (S.set i x).getD i d = x := by
  simp [List.getD_eq_getElem?_getD, h]
theorem mem_dropLast_or {l : List Nat} {x y : Nat} (h : x ∈ l) (hl : l.getLast? = some y) : x ∈ l.dropLast ∨ x = y := by
  have e : l = l.dropLast ++ [y] := by
    have hne : l ≠ [] := by intro e; rw [e] at h; cases h
    have := List.dropLast_concat_getLast hne
    rw [List.getLast?_eq_some_getLast hne] at hl
    rw [← Option.some.inj hl]; exact this.symm
  rw [e] at h
  rcases List.mem_append.1 h with h | h
  · exact Or.inl h
  · exact Or.inr (by simpa using h)

/-- the pairing's step where the block closes -/
theorem pstep_close {items : List It} {i : Nat} {σ : PS} (hk : (nth items i).k = 2) (hpos : 0 < σ.O.length)
    (hv : (if (nth items i).un then vAt σ.B (σ.O.getD (σ.O.length - 1) 0) else (nth items i).v) = vAt σ.B (σ.O.getD (σ.O.length - 1) 0)) :
    pstep items σ i = ⟨σ.B.set (σ.O.getD (σ.O.length - 1) 0) ⟨vAt σ.B (σ.O.getD (σ.O.length - 1) 0), fAt σ.B (σ.O.getD (σ.O.length - 1) 0), (i : Int)⟩, σ.O.dropLast,
      (σ.S.set (fAt σ.B (σ.O.getD (σ.O.length - 1) 0)) ⟨1, (σ.S.getD (fAt σ.B (σ.O.getD (σ.O.length - 1) 0)) Stm.none).v, (i : Int), (σ.S.getD (fAt σ.B (σ.O.getD (σ.O.length - 1) 0)) Stm.none).un⟩).set i ⟨2, vAt σ.B (σ.O.getD (σ.O.length - 1) 0), (fAt σ.B (σ.O.getD (σ.O.length - 1) 0) : Int), (nth items i).un⟩, σ.err⟩ := by
  unfold pstep
  have h1 : ¬ (nth items i).k = 1 := by omega
  have h2 : ¬ ((nth items i).un = true ∧ σ.O = []) := by
    rintro ⟨_, e⟩
    rw [e] at hpos; simp at hpos
  rw [if_neg h1, if_pos hk, if_neg h2, hv, openIdx_top _ _ _ hpos rfl]
  simp only
  rw [if_neg (by omega)]

theorem Sync.step_some {items : List It} {i : Nat} {σ : PS} {stk stk' : List Nat} {mt mt' : List Int} (h : Sync items i σ stk mt) (hi : i < items.length) (hm : mstep items (stk, mt) i = some (stk', mt')) : Sync items (i + 1) (pstep items σ i) stk' mt' := by
  unfold mstep at hm
  by_cases hk : (nth items i).k = 1
  · rw [if_pos hk] at hm
    split at hm
    · cases hm
    · rename_i ha
      simp only [Option.some.injEq, Prod.mk.injEq] at hm
      obtain ⟨rfl, rfl⟩ := hm
      have ho := h.open_none (nth items i).v (by simpa using ha)
      have hp : pstep items σ i = ⟨σ.B ++ [⟨(nth items i).v, i, -1⟩], σ.O ++ [σ.B.length], σ.S, σ.err⟩ := by
        unfold pstep; rw [if_pos hk, ho]; simp
      rw [hp]
      refine ⟨h.noerr, ?_, ?_, ?_, h.slen, h.mlen, fun j hj => h.later j (by omega), h.kinds, ?_, ?_⟩
      · show stk ++ [i] = (σ.O ++ [σ.B.length]).map (fAt (σ.B ++ [_]))
        rw [List.map_append, h.same]
        congr 1
        · exact List.map_congr_left fun o ho => (fAt_app _ _ _ (h.wfO o ho)).symm
        · simp [fAt_new]
      · intro o ho
        show o < (σ.B ++ [_]).length
        rcases List.mem_append.1 ho with ho | ho
        · have := h.wfO o ho; simp; omega
        · simp at ho; simp; omega
      · intro o ho
        have ho' : o < σ.B.length + 1 := by simpa using ho
        by_cases e : o = σ.B.length
        · subst e
          show fAt (σ.B ++ [_]) σ.B.length < _ ∧ _
          rw [fAt_new, vAt_new]
          exact ⟨Nat.lt_succ_self _, hi, hk, rfl⟩
        · have hb := h.blk o (by omega)
          show fAt (σ.B ++ [_]) o < _ ∧ _
          rw [fAt_app _ _ _ (by omega), vAt_app _ _ _ (by omega)]
          exact ⟨by omega, hb.2⟩
      · intro j hj hjk
        by_cases e : j = i
        · exact Or.inl (by simp [e])
        · rcases h.fors j (by omega) hjk with h1 | h1
          · exact Or.inl (List.mem_append_left _ h1)
          · exact Or.inr h1
      · intro j hj hjk
        by_cases e : j = i
        · subst e; omega
        · exact h.nexts j (by omega) hjk
  · rw [if_neg hk] at hm
    by_cases hk2 : (nth items i).k = 2
    · rw [if_pos hk2] at hm
      split at hm
      · cases hm
      · rename_i top ht
        obtain ⟨hpos, hmem, htop, htv⟩ := h.last ht
        split at hm
        · cases hm
        · rename_i hc
          simp only [Option.some.injEq, Prod.mk.injEq] at hm
          obtain ⟨rfl, rfl⟩ := hm
          have hv : (if (nth items i).un then vAt σ.B (σ.O.getD (σ.O.length - 1) 0) else (nth items i).v) = vAt σ.B (σ.O.getD (σ.O.length - 1) 0) := by
            cases hu : (nth items i).un with
            | true => rfl
            | false =>
              simp only [Bool.false_eq_true, if_false]
              rw [← htv]
              by_cases e : (nth items top).v = (nth items i).v
              · exact e.symm
              · exact absurd ⟨hu, e⟩ hc
          rw [pstep_close hk2 hpos hv, ← htop]
          obtain ⟨o, hoe⟩ : ∃ o, o = σ.O.getD (σ.O.length - 1) 0 := ⟨_, rfl⟩
          rw [← hoe] at hmem htop htv ⊢
          have hoB := h.wfO o hmem
          have hb := h.blk o hoB
          rw [← htop] at hb
          have hset := fun o' => fAt_set σ.B o (i : Int) o' hoB
          have hvset := fun o' => vAt_set σ.B o (i : Int) o' hoB
          rw [← htop] at hset hvset
          have hls := h.slen
          have hlm := h.mlen
          refine ⟨h.noerr, ?_, ?_, ?_, ?_, ?_, ?_, ?_, ?_, ?_⟩
          · show stk.dropLast = σ.O.dropLast.map (fAt (σ.B.set o _))
            rw [h.same, ← List.map_dropLast]
            exact List.map_congr_left fun o' _ => (hset o').symm
          · intro o' ho'
            show o' < (σ.B.set o _).length
            rw [List.length_set]
            exact h.wfO o' (List.dropLast_subset _ ho')
          · intro o' ho'
            have ho'' : o' < σ.B.length := by simpa using ho'
            show fAt (σ.B.set o _) o' < _ ∧ _
            rw [hset, hvset]
            have := h.blk o' ho''
            exact ⟨by omega, this.2⟩
          · simp [hls]
          · simp [hlm]
          · intro j hj
            show ((σ.S.set top _).set i _)[j]? = _
            rw [List.getElem?_set_ne (by omega), List.getElem?_set_ne (by omega)]
            exact h.later j (by omega)
          · intro j hj
            have hj' : j < σ.S.length := by simpa using hj
            show ((σ.S.set top _).set i _)[j].k = _
            by_cases e1 : i = j
            · subst e1; simp [hk2]
            · rw [List.getElem_set_ne e1]
              by_cases e2 : top = j
              · subst e2; simp [hb.2.2.1]
              · rw [List.getElem_set_ne e2]; exact h.kinds j hj'
          · intro j hj hjk
            by_cases e1 : j = i
            · subst e1; omega
            · show j ∈ stk.dropLast ∨ (((σ.S.set top _).set i _).getD j Stm.none).p = ((mt.set top (i : Int)).set i (top : Int)).getD j 0
              rw [getD_set_ne _ _ _ _ _ (by omega), geti_set_ne _ _ _ _ _ (by omega)]
              by_cases e2 : top = j
              · subst e2
                rw [getD_set_eq _ _ _ _ (by omega), geti_set_eq _ _ _ _ (by omega)]
                exact Or.inr rfl
              · rw [getD_set_ne _ _ _ _ _ e2, geti_set_ne _ _ _ _ _ e2]
                rcases h.fors j (by omega) hjk with h1 | h1
                · rcases mem_dropLast_or h1 ht with h2 | h2
                  · exact Or.inl h2
                  · exact absurd h2.symm e2
                · exact Or.inr h1
          · intro j hj hjk
            show ∃ m : Nat, _ ∧ ((mt.set top (i : Int)).set i (top : Int)).getD j 0 = m ∧ (((σ.S.set top _).set i _).getD j Stm.none).p = m ∧ (((σ.S.set top _).set i _).getD j Stm.none).v = _
            by_cases e1 : j = i
            · subst e1
              refine ⟨top, hb.2.1, ?_, ?_, ?_⟩
              · exact geti_set_eq _ _ _ _ (by simp; omega)
              · rw [getD_set_eq _ _ _ _ (by simp; omega)]
              · rw [getD_set_eq _ _ _ _ (by simp; omega)]; exact htv.symm
            · have e2 : top ≠ j := by
                intro e; subst e; omega
              rw [getD_set_ne _ _ _ _ _ (by omega), geti_set_ne _ _ _ _ _ (by omega), getD_set_ne _ _ _ _ _ e2, geti_set_ne _ _ _ _ _ e2]
              exact h.nexts j (by omega) hjk
    · rw [if_neg hk2] at hm
      simp only [Option.some.injEq, Prod.mk.injEq] at hm
      obtain ⟨rfl, rfl⟩ := hm
      have hp : pstep items σ i = σ := by unfold pstep; rw [if_neg hk, if_neg hk2]
      rw [hp]
      refine ⟨h.noerr, h.same, h.wfO, fun o ho => ⟨by have := h.blk o ho; omega, (h.blk o ho).2⟩, h.slen, h.mlen, fun j hj => h.later j (by omega), h.kinds, ?_, ?_⟩
      · intro j hj hjk
        by_cases e : j = i
        · subst e; omega
        · exact h.fors j (by omega) hjk
      · intro j hj hjk
        by_cases e : j = i
        · subst e; omega
        · exact h.nexts j (by omega) hjk

theorem sync_run (items : List It) : ∀ i, i ≤ items.length → (mrun items i = .none ∧ (prun items i).err = true) ∨ ∃ stk mt, mrun items i = some (stk, mt) ∧ Sync items i (prun items i) stk mt
  | 0, _ => Or.inr ⟨[], _, rfl, Sync.start items⟩
  | i + 1, hi => by
    rcases sync_run items i (by omega) with ⟨h1, h2⟩ | ⟨stk, mt, h1, h2⟩
    · exact Or.inl ⟨by simp [mrun, h1], pstep_err _ _ _ h2⟩
    · cases hm : mstep items (stk, mt) i with
      | none => exact Or.inl ⟨by simp [mrun, h1, hm], h2.step_none hm⟩
      | some st =>
        obtain ⟨stk', mt'⟩ := st
        exact Or.inr ⟨stk', mt', by simp [mrun, h1, hm], h2.step_some (by omega) hm⟩
/-- where an error stands, no error-free end comes -/
theorem err_later (items : List It) (i : Nat) (h : (prun items i).err = true) : ∀ d, (prun items (i + d)).err = true
  | 0 => h
  | d + 1 => pstep_err _ _ _ (err_later items i h d)
theorem okB_iff (items : List It) : okB items = true → (∃ mt, mrun items items.length = some ([], mt)) ∧ (prun items items.length).err = false ∧ (prun items items.length).O = [] := by
  intro h
  unfold okB at h
  rcases sync_run items items.length (Nat.le_refl _) with ⟨h1, h2⟩ | ⟨stk, mt, h1, h2⟩
  · rw [h1] at h; cases h
  · rw [h1] at h
    simp at h
    subst h
    refine ⟨⟨mt, h1⟩, h2.noerr, ?_⟩
    have := h2.same
    simpa using this.symm
theorem okB_not (items : List It) : okB items = false → (prun items items.length).err = true ∨ (prun items items.length).O ≠ [] := by
  intro h
  unfold okB at h
  rcases sync_run items items.length (Nat.le_refl _) with ⟨h1, h2⟩ | ⟨stk, mt, h1, h2⟩
  · exact Or.inl h2
  · rw [h1] at h
    simp at h
    refine Or.inr fun e => h ?_
    rw [h2.same, e]; rfl
/-- no error at the end: none on the way -/
theorem okB_noerr (items : List It) (h : okB items = true) (i : Nat) (hi : i ≤ items.length) : (prun items i).err = false := by
  cases e : (prun items i).err with
  | false => rfl
  | true =>
    have := err_later items i e (items.length - i)
    rw [show i + (items.length - i) = items.length by omega, (okB_iff items h).2.1] at this
    cases this

end Go.Proofs.Qxb6002619aFmt
