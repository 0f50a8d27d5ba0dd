/-
  THE PLAIN LAW: ranges of keys, merged from the left: no Go in sight (but the model's order on bytes).
-/
import GoSem.Op.String
namespace Go.Proofs.Qxb6002608a

abbrev Key := List UInt8
theorem lt_irrefl : ∀ x : Key, Op.bytesLess x x = false
  | [] => rfl
  | a :: x => by simp [Op.bytesLess, lt_irrefl x]
theorem lt_trans : ∀ x y z : Key, Op.bytesLess x y = true → Op.bytesLess y z = true → Op.bytesLess x z = true
  | _, _, [], _, h => by simp [Op.bytesLess] at h
  | [], _, _ :: _, _, _ => rfl
  | _ :: _, [], _ :: _, h, _ => by simp [Op.bytesLess] at h
  | a :: x, b :: y, c :: z, h, h' => by
    simp only [Op.bytesLess, Bool.or_eq_true, decide_eq_true_eq, Bool.and_eq_true, beq_iff_eq] at *
    rcases h with h | ⟨rfl, h⟩
    · rcases h' with h' | ⟨rfl, h'⟩
      · exact Or.inl (UInt8.lt_trans h h')
      · exact Or.inl h
    · rcases h' with h' | ⟨rfl, h'⟩
      · exact Or.inl h'
      · exact Or.inr ⟨rfl, lt_trans x y z h h'⟩
theorem lt_tri : ∀ x y : Key, Op.bytesLess x y = true ∨ x = y ∨ Op.bytesLess y x = true
  | [], [] => Or.inr (Or.inl rfl)
  | [], _ :: _ => Or.inl rfl
  | _ :: _, [] => Or.inr (Or.inr rfl)
  | a :: x, b :: y => by
    simp only [Op.bytesLess, Bool.or_eq_true, decide_eq_true_eq, Bool.and_eq_true, beq_iff_eq, List.cons.injEq]
    by_cases h1 : a < b
    · exact Or.inl (Or.inl h1)
    · by_cases h2 : b < a
      · exact Or.inr (Or.inr (Or.inl h2))
      · have e : a = b := by
          apply UInt8.toNat_inj.1
          rw [UInt8.lt_iff_toNat_lt] at h1 h2
          omega
        subst e
        rcases lt_tri x y with h | h | h
        · exact Or.inl (Or.inr ⟨rfl, h⟩)
        · exact Or.inr (Or.inl ⟨rfl, h⟩)
        · exact Or.inr (Or.inr (Or.inr ⟨rfl, h⟩))

/-- how many of L lie before x -/
def rank (L : List Key) (x : Key) : Nat := L.countP fun y => Op.bytesLess y x
theorem rank_le (L : List Key) (x y : Key) (h : Op.bytesLess y x = false) : rank L x ≤ rank L y := by
  refine List.countP_mono_left fun z _ hz => ?_
  rcases lt_tri x y with e | e | e
  · exact lt_trans _ _ _ hz e
  · rw [← e]; exact hz
  · rw [h] at e; cases e
theorem rank_lt (L : List Key) (x y : Key) (hx : x ∈ L) (h : Op.bytesLess x y = true) : rank L x < rank L y := by
  have hle : ∀ z ∈ L, Op.bytesLess z x = true → Op.bytesLess z y = true := fun z _ hz => lt_trans _ _ _ hz h
  unfold rank
  induction L with
  | nil => cases hx
  | cons a L ih =>
    have hle' : List.countP (fun z => Op.bytesLess z x) L ≤ List.countP (fun z => Op.bytesLess z y) L :=
      List.countP_mono_left fun z hz h => hle z (List.mem_cons_of_mem _ hz) h
    rcases List.mem_cons.1 hx with rfl | hx'
    · rw [List.countP_cons_of_neg (by simp [lt_irrefl]), List.countP_cons_of_pos (by exact h)]
      omega
    · have := ih hx' (fun z hz => hle z (List.mem_cons_of_mem _ hz))
      by_cases h1 : Op.bytesLess a x = true
      · rw [List.countP_cons_of_pos (by exact h1), List.countP_cons_of_pos (by exact hle a (List.mem_cons_self ..) h1)]
        omega
      · rw [List.countP_cons_of_neg (by simpa using h1)]
        by_cases h2 : Op.bytesLess a y = true
        · rw [List.countP_cons_of_pos (by exact h2)]; omega
        · rw [List.countP_cons_of_neg (by simpa using h2)]; exact this
theorem less_rank (L : List Key) (x y : Key) (hx : x ∈ L) : Op.bytesLess x y = decide (rank L x < rank L y) := by
  cases h : Op.bytesLess x y with
  | true => exact (decide_eq_true (rank_lt L x y hx h)).symm
  | false => exact (decide_eq_false (by have := rank_le L y x h; omega)).symm
theorem eq_rank (L : List Key) (x y : Key) (hx : x ∈ L) (hy : y ∈ L) : (x == y) = decide (rank L x = rank L y) := by
  by_cases e : x = y
  · subst e; simp
  · have h1 : (x == y) = false := by simpa using e
    rw [h1]
    symm
    apply decide_eq_false
    rcases lt_tri x y with h | h | h
    · have := rank_lt L x y hx h; omega
    · exact absurd h e
    · have := rank_lt L y x hy h; omega

/-- a range of keys -/
structure KR where
  s : ByteArray
  e : ByteArray
  th : Bool
  op : Bool
def lss (a b : ByteArray) : Bool := Op.bytesLess a.toList b.toList
def eqk (a b : ByteArray) : Bool := a.toList == b.toList
def inR (x : KR) (k : ByteArray) : Bool := if lss k x.s then false else if x.op then true else if x.th then (lss k x.e || eqk k x.e) else lss k x.e
def inU (l : List KR) (k : ByteArray) : Bool := l.any fun x => inR x k
/-- r starts past the end of s -/
def past (r s : KR) : Bool := !s.op && !(lss r.s s.e || eqk r.s s.e)
/-- r goes on past the end of s -/
def after (r s : KR) : Bool := if s.op then false else if r.op then true else if eqk r.e s.e then (r.th && !s.th) else !(lss r.e s.e || eqk r.e s.e)
def joined (r s : KR) : KR := if after s r then ⟨r.s, s.e, s.th, s.op⟩ else r
theorem joined_s (r s : KR) : (joined r s).s = r.s := by unfold joined; split <;> rfl

/-- the same on numbers -/
def inN (s e : Nat) (t o : Bool) (k : Nat) : Bool := if decide (k < s) then false else if o then true else if t then (decide (k < e) || decide (k = e)) else decide (k < e)
def afterN (d : Nat) (rt ro : Bool) (b : Nat) (mt mo : Bool) : Bool := if mo then false else if ro then true else if decide (d = b) then (rt && !mt) else !(decide (d < b) || decide (d = b))
theorem inN_iff (s e : Nat) (t o : Bool) (k : Nat) : inN s e t o k = true ↔ s ≤ k ∧ (o = true ∨ (t = true ∧ k ≤ e) ∨ (t = false ∧ k < e)) := by
  unfold inN
  by_cases h : k < s
  · have h' : ¬ s ≤ k := by omega
    simp [h, h']
  · have h' : s ≤ k := by omega
    cases o <;> cases t <;> simp [h, h'] <;> omega
theorem afterN_iff (d : Nat) (rt ro : Bool) (b : Nat) (mt mo : Bool) : afterN d rt ro b mt mo = true ↔ mo = false ∧ (ro = true ∨ (d = b ∧ rt = true ∧ mt = false) ∨ b < d) := by
  unfold afterN
  by_cases h : d = b
  · subst h; cases mo <;> cases ro <;> simp
  · cases mo <;> cases ro <;> simp [h]; omega
theorem joinN (a b c d x : Nat) (mt mo rt ro : Bool) (h1 : ¬ c < a) (h2 : mo = true ∨ c ≤ b) :
    (if afterN d rt ro b mt mo then inN a d rt ro x else inN a b mt mo x) = (inN a b mt mo x || inN c d rt ro x) := by
  by_cases h : afterN d rt ro b mt mo = true
  · rw [if_pos h, Bool.eq_iff_iff, Bool.or_eq_true, inN_iff, inN_iff, inN_iff]
    rw [afterN_iff] at h
    cases mo <;> cases ro <;> cases mt <;> cases rt <;> simp at h h2 ⊢ <;> omega
  · rw [if_neg h, Bool.eq_iff_iff, Bool.or_eq_true, inN_iff, inN_iff]
    rw [afterN_iff] at h
    cases mo <;> cases ro <;> cases mt <;> cases rt <;> simp at h h2 ⊢ <;> omega

/-- THE HEART: a range that starts at or after the other's start, and not past its end, is swallowed by the join. -/
theorem joined_in (m r : KR) (k : ByteArray) (hs : lss r.s m.s = false) (hp : past r m = false) : inR (joined m r) k = (inR m k || inR r k) := by
  obtain ⟨ms, me, mt, mo⟩ := m
  obtain ⟨rs, re, rt, ro⟩ := r
  have L : ∀ x y : Key, x ∈ [k.toList, ms.toList, me.toList, rs.toList, re.toList] → Op.bytesLess x y = decide (rank [k.toList, ms.toList, me.toList, rs.toList, re.toList] x < rank [k.toList, ms.toList, me.toList, rs.toList, re.toList] y) := fun x y hx => less_rank _ x y hx
  have E : ∀ x y : Key, x ∈ [k.toList, ms.toList, me.toList, rs.toList, re.toList] → y ∈ [k.toList, ms.toList, me.toList, rs.toList, re.toList] → (x == y) = decide (rank [k.toList, ms.toList, me.toList, rs.toList, re.toList] x = rank [k.toList, ms.toList, me.toList, rs.toList, re.toList] y) := fun x y hx hy => eq_rank _ x y hx hy
  have l1 := L rs.toList ms.toList (by simp)
  have l2 := L rs.toList me.toList (by simp)
  have l3 := L re.toList me.toList (by simp)
  have l4 := L k.toList ms.toList (by simp)
  have l5 := L k.toList me.toList (by simp)
  have l6 := L k.toList rs.toList (by simp)
  have l7 := L k.toList re.toList (by simp)
  have e2 := E rs.toList me.toList (by simp) (by simp)
  have e3 := E re.toList me.toList (by simp) (by simp)
  have e5 := E k.toList me.toList (by simp) (by simp)
  have e7 := E k.toList re.toList (by simp) (by simp)
  generalize rank [k.toList, ms.toList, me.toList, rs.toList, re.toList] ms.toList = a at *
  generalize rank [k.toList, ms.toList, me.toList, rs.toList, re.toList] me.toList = b at *
  generalize rank [k.toList, ms.toList, me.toList, rs.toList, re.toList] rs.toList = c at *
  generalize rank [k.toList, ms.toList, me.toList, rs.toList, re.toList] re.toList = d at *
  generalize rank [k.toList, ms.toList, me.toList, rs.toList, re.toList] k.toList = x at *
  clear L E
  have i1 : inR ⟨ms, me, mt, mo⟩ k = inN a b mt mo x := by simp only [inR, inN, lss, eqk, l4, l5, e5]
  have i2 : inR ⟨rs, re, rt, ro⟩ k = inN c d rt ro x := by simp only [inR, inN, lss, eqk, l6, l7, e7]
  have i3 : inR ⟨ms, re, rt, ro⟩ k = inN a d rt ro x := by simp only [inR, inN, lss, eqk, l4, l7, e7]
  have i4 : after ⟨rs, re, rt, ro⟩ ⟨ms, me, mt, mo⟩ = afterN d rt ro b mt mo := by simp only [after, afterN, lss, eqk, l3, e3]
  have h1 : ¬ c < a := by simpa [lss, l1] using hs
  have h2 : mo = true ∨ c ≤ b := by
    cases mo with
    | true => exact Or.inl rfl
    | false =>
      right
      simp only [past, lss, eqk, l2, e2] at hp
      simp at hp
      omega
  have key := joinN a b c d x mt mo rt ro h1 h2
  unfold joined
  rw [i4, i1, i2, ← key]
  split
  · exact i3
  · exact i1

/-- one step of the merge -/
def step (M : List KR) (r : KR) : List KR :=
  match M.getLast? with
  | none => [r]
  | some m => if past r m then M ++ [r] else M.dropLast ++ [joined m r]

theorem inU_append (l l' : List KR) (k : ByteArray) : inU (l ++ l') k = (inU l k || inU l' k) := by simp [inU]
theorem inU_one (x : KR) (k : ByteArray) : inU [x] k = inR x k := by simp [inU]
theorem inU_perm {l l' : List KR} (h : l.Perm l') (k : ByteArray) : inU l k = inU l' k := by
  rw [Bool.eq_iff_iff]
  simp only [inU, List.any_eq_true]
  constructor
  · rintro ⟨x, hx, h'⟩; exact ⟨x, h.mem_iff.1 hx, h'⟩
  · rintro ⟨x, hx, h'⟩; exact ⟨x, h.mem_iff.2 hx, h'⟩

/-- two neighbours: in order, and the second past the first -/
def Fits (a b : KR) : Prop := lss b.s a.s = false ∧ a.op = false ∧ (lss b.s a.e || eqk b.s a.e) = false
/-- the neighbours of a list -/
def Good : List KR → Prop
  | a :: b :: l => Fits a b ∧ Good (b :: l)
  | _ => True

theorem Good.snoc : ∀ {l : List KR} {m r : KR}, Good (l ++ [m]) → Fits m r → Good (l ++ [m] ++ [r])
  | [], _, _, _, h => ⟨h, trivial⟩
  | [_], _, _, h, h' => ⟨h.1, h', trivial⟩
  | _ :: b :: l, _, _, h, h' => ⟨h.1, Good.snoc (l := b :: l) h.2 h'⟩
theorem Good.last : ∀ {l : List KR} {m m' : KR}, Good (l ++ [m]) → m'.s = m.s → Good (l ++ [m'])
  | [], _, _, _, _ => trivial
  | [_], _, _, h, e => ⟨by unfold Fits at *; rw [e]; exact h.1, trivial⟩
  | _ :: b :: l, _, _, h, e => ⟨h.1, Good.last (l := b :: l) h.2 e⟩
theorem Good.at : ∀ {l : List KR}, Good l → ∀ (i : Nat) (a b : KR), l[i]? = some a → l[i + 1]? = some b → Fits a b
  | [], _, _, _, _, h, _ => by simp at h
  | [_], _, _, _, _, _, h' => by simp at h'
  | x :: y :: l, h, 0, a, b, ha, hb => by
    simp at ha hb
    subst ha hb
    exact h.1
  | x :: y :: l, h, i + 1, a, b, ha, hb => Good.at (l := y :: l) h.2 i a b (by simpa using ha) (by simpa using hb)

/-- what holds of the merge so far, the last one taken in being at or before q -/
structure Inv (D : List KR) (M : List KR) : Prop where
  same : ∀ k, inU M k = inU D k
  good : Good M
  last : ∀ m, M.getLast? = some m → ∀ q, (∀ d ∈ D, lss q d.s = false) → lss q m.s = false

theorem lss_trans {a b c : ByteArray} (h : lss b a = false) (h' : lss c b = false) : lss c a = false := by
  unfold lss at *
  cases e : Op.bytesLess c.toList a.toList with
  | false => rfl
  | true =>
    rcases lt_tri a.toList b.toList with h1 | h1 | h1
    · rw [lt_trans _ _ _ e h1] at h'; cases h'
    · rw [h1] at e; rw [e] at h'; cases h'
    · rw [h1] at h; cases h

theorem Inv.step {D M : List KR} {r : KR} (h : Inv D M) (hr : ∀ d ∈ D, lss r.s d.s = false) : Inv (D ++ [r]) (step M r) := by
  rcases List.eq_nil_or_concat M with rfl | ⟨l, m, rfl⟩
  · refine ⟨fun k => ?_, trivial, fun m hm q hq => ?_⟩
    · show inU [r] k = _
      rw [inU_append, inU_one, ← h.same k]
      simp [inU]
    · have e : m = r := by simpa [Qxb6002608a.step] using hm.symm
      subst e
      exact hq m (by simp)
  · rw [List.concat_eq_append] at h ⊢
    have hl : (l ++ [m]).getLast? = some m := by simp
    have hm := h.last m hl r.s hr
    have hst : Qxb6002608a.step (l ++ [m]) r = if past r m then l ++ [m] ++ [r] else l ++ [joined m r] := by
      simp [Qxb6002608a.step]
    rw [hst]
    by_cases hp : past r m = true
    · rw [if_pos hp]
      refine ⟨fun k => ?_, ?_, fun m' hm' q hq => ?_⟩
      · rw [inU_append, inU_append (D), h.same k]
      · refine h.good.snoc ⟨hm, ?_⟩
        simp only [past, Bool.and_eq_true, Bool.not_eq_true'] at hp
        exact hp
      · have e : m' = r := by simpa using hm'.symm
        subst e
        exact hq m' (by simp)
    · rw [if_neg hp]
      have hp' : past r m = false := by simpa using hp
      refine ⟨fun k => ?_, h.good.last (joined_s m r), fun m' hm' q hq => ?_⟩
      · rw [inU_append, inU_append, inU_one, inU_one, joined_in m r k hm hp', ← h.same k, inU_append, inU_one, Bool.or_assoc]
      · have e : m' = joined m r := by simpa using hm'.symm
        subst e
        rw [joined_s]
        exact h.last m hl q fun d hd => hq d (by simp [hd])
theorem Inv.nil : Inv [] [] := ⟨fun _ => rfl, trivial, fun m h => by simp at h⟩

/-- the merge of the first i -/
def mer (D : List KR) (i : Nat) : List KR := (D.take i).foldl step []
theorem mer_zero (D : List KR) : mer D 0 = [] := rfl
theorem mer_succ (D : List KR) (i : Nat) (h : i < D.length) : mer D (i + 1) = step (mer D i) D[i] := by
  unfold mer
  rw [List.take_succ_eq_append_getElem h, List.foldl_append]
  rfl
theorem step_length (M : List KR) (r : KR) : (step M r).length ≤ M.length + 1 ∧ 1 ≤ (step M r).length := by
  unfold step
  cases h : M.getLast? with
  | none => simp
  | some m =>
    simp only
    split
    · simp
    · simp
theorem mer_length (D : List KR) (i : Nat) (h : i ≤ D.length) : (mer D i).length ≤ i := by
  induction i with
  | zero => simp [mer_zero]
  | succ i ih =>
    rw [mer_succ D i (by omega)]
    have := (step_length (mer D i) D[i]).1
    have := ih (by omega)
    omega
/-- sorted by the start -/
def Sorted (D : List KR) : Prop := ∀ i j (hi : i < D.length) (hj : j < D.length), i < j → lss D[j].s D[i].s = false
theorem mer_inv (D : List KR) (hD : Sorted D) (i : Nat) (h : i ≤ D.length) : Inv (D.take i) (mer D i) := by
  induction i with
  | zero => exact Inv.nil
  | succ i ih =>
    rw [mer_succ D i (by omega), List.take_succ_eq_append_getElem (by omega)]
    refine (ih (by omega)).step fun d hd => ?_
    obtain ⟨j, hj, e⟩ := List.mem_iff_getElem.1 hd
    have hj' : j < i := by simp at hj; omega
    rw [List.getElem_take] at e
    rw [← e]
    exact hD j i (by omega) (by omega) hj'
theorem mer_all (D : List KR) (hD : Sorted D) : (∀ k, inU (mer D D.length) k = inU D k) ∧ Good (mer D D.length) := by
  have h := mer_inv D hD D.length (Nat.le_refl _)
  rw [List.take_length] at h
  exact ⟨h.same, h.good⟩
end Go.Proofs.Qxb6002608a
