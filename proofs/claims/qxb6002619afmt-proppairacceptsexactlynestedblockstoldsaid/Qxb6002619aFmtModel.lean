/-
  model: the grammar's stack.
-/
import Derived.Test.Qxb6002619aFmtInts
namespace Go.Proofs.Qxb6002619aFmt
open Go.RowKit

theorem mrun_inv (l : List It) : ∀ i, i ≤ l.length → ∀ stk mt, mrun l i = some (stk, mt) → (∀ j ∈ stk, j < i) ∧ stk.length ≤ i ∧ mt.length = l.length
  | 0, _, stk, mt, h => by
    simp [mrun] at h
    obtain ⟨rfl, rfl⟩ := h
    simp
  | i + 1, hi, stk, mt, h => by
    unfold mrun at h
    cases hp : mrun l i with
    | none => rw [hp] at h; simp at h
    | some st =>
      obtain ⟨s0, m0⟩ := st
      rw [hp] at h
      obtain ⟨h1, h2, h3⟩ := mrun_inv l i (by omega) s0 m0 hp
      simp only [Option.bind_some] at h
      unfold mstep at h
      split at h
      · split at h
        · cases h
        · simp at h
          obtain ⟨rfl, rfl⟩ := h
          refine ⟨fun j hj => ?_, by simp; omega, h3⟩
          rcases List.mem_append.1 hj with hj | hj
          · have := h1 j hj; omega
          · simp at hj; omega
      · split at h
        · split at h
          · cases h
          · split at h
            · cases h
            · simp at h
              obtain ⟨rfl, rfl⟩ := h
              refine ⟨fun j hj => ?_, by simp; omega, by simpa using h3⟩
              have := h1 j (List.dropLast_subset _ hj); omega
        · simp at h
          obtain ⟨rfl, rfl⟩ := h
          exact ⟨fun j hj => by have := h1 j hj; omega, by omega, h3⟩

def ModelPost (l : List It) (w : World) (e' : Ending) (w' : World) : Prop :=
  Below w.heap.size w w' ∧ ((okB l = false ∧ ∃ v, e' = .returned (.tuple #[.bool false, v])) ∨
    (okB l = true ∧ ∃ g mt, mrun l l.length = some ([], mt) ∧ w.heap.size ≤ g ∧ e' = .returned (.tuple #[.bool true, .slice (some ⟨g, 0, none⟩) l.length l.length]) ∧ RowI w' g l.length mt))

theorem mrun_none (l : List It) (i : Nat) (h : mrun l i = .none) : ∀ d, mrun l (i + d) = .none
  | 0 => h
  | d + 1 => by
    show (mrun l (i + d)).bind _ = _
    rw [mrun_none l i h d]; rfl
theorem okB_of_none (l : List It) (i : Nat) (hi : i ≤ l.length) (h : mrun l i = .none) : okB l = false := by
  have := mrun_none l i h (l.length - i)
  rw [show i + (l.length - i) = l.length by omega] at this
  unfold okB; rw [this]
theorem ModelPost.no {l : List It} {w w' : World} {v : Value} (i : Nat) (hi : i ≤ l.length) (h : mrun l i = .none) (hb : Below w.heap.size w w') : ModelPost l w (.returned (.tuple #[.bool false, v])) w' :=
  ⟨hb, Or.inl ⟨okB_of_none l i hi h, v, rfl⟩⟩

theorem Below.drewN2 {B : Nat} {a w : World} (h : Below B a w) (q : Nat) : Below B a (w.drewN q) := ⟨h.os, h.tape, h.output, h.size, h.block⟩
theorem cell_of {w : World} {b : Nat} {c : Array Value} {t : TypeId} (h : w.heap[b]? = some (.cells c t)) (j : Nat) : w.cell? ⟨b, j, none⟩ = c[j]? := by
  simp only [World.cell?, h, Option.isSome_none, Bool.false_eq_true, if_false]
theorem new1 (w : World) (o o' : Obj) (q : Nat) : (((w.alloc o).drewN q).alloc o').heap[w.heap.size + 1]? = some o' := by
  show ((w.heap.push o).push _)[_]? = _
  rw [Array.getElem?_push, if_pos (by simp)]
theorem alloc_new (w : World) (o : Obj) : (w.alloc o).heap[w.heap.size]? = some o := by
  show (w.heap.push o)[_]? = _
  rw [Array.getElem?_push, if_pos rfl]
theorem two_more (w : World) (o o' : Obj) (q : Nat) {g : Nat} (hg : g ≤ w.heap.size) : Below g w (((w.alloc o).drewN q).alloc o') := by
  have h := Below.drewN2 ((Below.refl w.heap.size w).alloc (Nat.le_refl _) o) q
  exact (h.alloc h.size o').mono hg

set_option maxRecDepth 20000 in
set_option maxHeartbeats 4000000 in
theorem model_any (ao : Option Addr) (cap : Nat) (l : List It) (w : World) (hS : ShowsI w ao l) (hn : l.length ≤ 4096) :
    Calls Tryf.prog 9 #[.slice ao l.length cap] w fun e' w' => ModelPost l w e' w' := by
  obtain ⟨i0, hi0, hz0, hz1, hz2⟩ := info_parts info3
  have HS := hide hS
  clear hS
  obtain ⟨n, hnl⟩ : ∃ n, n = l.length := ⟨_, rfl⟩
  have HN := hide hnl
  rw [← hnl]
  rw [← hnl] at hn
  clear hnl
  go_enter Tryf.func9, Tryf.ntmps9
  go_wp2_with (at_make; refine wpList_make_full _ rfl _ _ 26 rfl 0 3 i0 _ 1 Tryf.underlying26 hi0 hz0 hz1 _ _ _ _ n rfl rfl rfl rfl ?c1 ?c2 (Nat.zero_le _) ?_)
  case c1 => rw [hz2]; omega
  case c2 => unfold maxLen; omega
  intro w1 hown hgrow
  have hrow : RowI w1 w.heap.size n (List.replicate 0 (-1) ++ List.replicate n 0) := by
    unfold RowI
    rw [List.replicate_zero, List.nil_append, List.length_replicate, ← made_ints]; exact hown
  have hbel : Below w.heap.size w w1 := (Below.refl _ w).grown hgrow (Nat.le_refl _) (fun k hk => by cases hk)
  have HR := hide hrow
  have HB := hide hbel
  clear hown hgrow hrow hbel
  go_wp2
  go_loopw [5] (fun i wr => ∃ j : Nat, j ≤ n ∧ i = .int .i64 j ∧ Hid (RowI wr w.heap.size n (List.replicate j (-1) ++ List.replicate (n - j) 0)) ∧ Hid (Below w.heap.size w wr)) (fun i _ => n - (intOf i).toNat)
  case atStart => exact ⟨0, Nat.zero_le _, rfl, HR, HB⟩
  case round =>
    obtain ⟨j, hj, rfl, HRr, HBr⟩ := hrel
    clear HR HB
    by_cases hlt : j < n
    · have c0 := HRr.out.at j (by simp; omega)
      have cf := HRr.out.frozen
      have HR2 : Hid (RowI (wr.setCell ⟨w.heap.size, j, none⟩ (.int .i64 (-1))) w.heap.size n (List.replicate (j + 1) (-1) ++ List.replicate (n - (j + 1)) 0)) := by
        have := HRr.out.set j (-1)
        rw [List.set_append_right _ _ (by simp), List.length_replicate, Nat.sub_self, show n - j = (n - (j + 1)) + 1 by omega, List.replicate_succ, List.set_cons_zero] at this
        rw [List.replicate_succ', List.append_assoc]
        exact this
      go_wp2
      go_roundw
      case rel => exact ⟨j + 1, by omega, by go_num, HR2, HBr.out.setCell (Nat.le_refl _) _⟩
      case measure => simp [intOf]; omega
    · obtain rfl : n = j := by omega
      have HR2 : Hid (RowI wr w.heap.size n (List.replicate n (-1))) := by
        have := HRr.out
        rw [Nat.sub_self, List.replicate_zero, List.append_nil] at this
        exact this
      clear HRr
      go_wp2_with (at_make; refine wpList_make_own _ rfl _ _ 26 rfl 0 3 i0 _ 1 Tryf.underlying26 hi0 hz0 hz1 _ _ _ n rfl rfl rfl ?c1 ?c2 (Nat.zero_le _) ?_)
      case c1 => rw [hz2]; omega
      case c2 => unfold maxLen; omega
      intro w2 hown hgrow
      obtain ⟨gs, hgs⟩ : ∃ gs, gs = wr.heap.size := ⟨_, rfl⟩
      have hlt0 : w.heap.size < gs := by rw [hgs]; exact HR2.out.lt
      have HRs : Hid (RowI w2 gs n (([] : List Nat).map fun j : Nat => (j : Int))) := by rw [hgs]; exact hown
      have HRm : Hid (RowI w2 w.heap.size n (List.replicate n (-1))) := HR2.out.of_block (hgrow.block _ HR2.out.lt (fun e => by cases e))
      have HB2 : Hid (Below w.heap.size w w2) := HBr.out.grown hgrow HBr.out.size (fun k hk => by cases hk)
      rw [← hgs]
      have HM0 : Hid (mrun l 0 = some ([], List.replicate n (-1))) := by
        show mrun l 0 = _
        rw [HN.out]; rfl
      clear hown hgrow hgs HR2 HBr
      go_wp2
      go_loopw [6, 7] (fun sv iv wx => ∃ (i : Nat) (stk : List Nat) (mt : List Int), i ≤ n ∧ iv = .int .i64 i ∧ sv = .slice (some ⟨gs, 0, none⟩) stk.length n ∧ Hid (mrun l i = some (stk, mt)) ∧ Hid (RowI wx w.heap.size n mt) ∧ Hid (RowI wx gs n (stk.map fun j : Nat => (j : Int))) ∧ Hid (Below w.heap.size w wx)) (fun _ iv _ => n - (intOf iv).toNat)
      case atStart => exact ⟨0, [], _, Nat.zero_le _, rfl, rfl, HM0, HRm, HRs, HB2⟩
      case round =>
        obtain ⟨i, stk, mt, hi, rfl, rfl, HM, HMt, HSt, HBx⟩ := hrel
        clear HRs HRm HB2 HM0
        obtain ⟨hin, hsl, hml⟩ := mrun_inv l i (by rw [← HN.out]; exact hi) stk mt HM.out
        have HIN := hide hin
        have HML := hide hml
        clear hin hml
        by_cases hlt : i < n
        · have hlt' : i < l.length := by rw [← HN.out]; exact hlt
          obtain ⟨b, off, rfl, hb, hv'⟩ := HS.out.get hlt'
          have hv := hv'.below HBx.out hb
          have HV := hide hv
          have c0 := hv.c0 i hlt'
          have c1 := hv.c1 i hlt'
          have c2 := hv.c2 i hlt'
          have c3 := hv.c3 i hlt'
          have c4 := hv.c4 i hlt'
          clear hv hv' hlt'
          have hbx : b < wr.heap.size := by have := HBx.out.size; omega
          have hgx : gs < wr.heap.size := HSt.out.lt
          have hgm : w.heap.size < wr.heap.size := HMt.out.lt
          obtain ⟨x, hx⟩ : ∃ x, x = nth l i := ⟨_, rfl⟩
          rw [← hx] at c0 c1 c2 c3 c4
          have HX := hide hx
          clear hx
          obtain ⟨k, v, un, num, fl⟩ := x
          simp only at c0 c1 c2 c3 c4
          have hmr : ∀ st, mstep l (stk, mt) i = st → mrun l (i + 1) = st := fun st h => by
            show (mrun l i).bind _ = _
            rw [HM.out]; exact h
          have HMR := hide hmr
          clear hmr
          have hk0 : (nth l i).k = k := by rw [← HX.out]
          have hv0 : (nth l i).v = v := by rw [← HX.out]
          have hu0 : (nth l i).un = un := by rw [← HX.out]
          have HK := hide hk0
          have HVV := hide hv0
          have HU := hide hu0
          clear hk0 hv0 hu0
          by_cases h1 : k = 1
          · subst h1
            go_wp2
            go_loopw [9] (fun kv wz => ∃ q : Nat, q ≤ stk.length ∧ kv = .int .i64 q ∧ Hid (∀ j, j < q → (nth l (stk.getD j 0)).v ≠ v) ∧ ∃ nq, wz = (wr.alloc (.cells #[.int .i64 1, .int .i64 v, .bool un, .int .i64 num, .int .i64 fl] 36)).drewN nq) (fun kv _ => stk.length - (intOf kv).toNat)
            case atStart => exact ⟨0, Nat.zero_le _, rfl, fun j hj => by omega, 0, rfl⟩
            case round =>
              obtain ⟨q, hq, rfl, HQ, nq, rfl⟩ := hrel
              by_cases hql : q < stk.length
              · obtain ⟨t, ht⟩ : ∃ t, t = stk.getD q 0 := ⟨_, rfl⟩
                have htm : t ∈ stk := by rw [ht]; exact getD_mem hql
                have hti : t < i := HIN.out t htm
                have s0 := HSt.out.at q (by simpa using hql)
                rw [nats_getD stk q hql, ← ht] at s0
                have s1 := HV.out.c1 t (by rw [← HN.out]; omega)
                have htn : (t : Int) < (n : Int) := by omega
                have HT := hide ht
                clear ht htm
                obtain ⟨y, hy⟩ : ∃ y, y = (nth l t).v := ⟨_, rfl⟩
                rw [← hy] at s1
                by_cases hyv : y = v
                · have hnone : mrun l (i + 1) = .none := HMR.out _ (by
                    unfold mstep
                    rw [HK.out, if_pos rfl, if_pos]
                    rw [List.any_eq_true]
                    refine ⟨t, by rw [HT.out]; exact getD_mem hql, ?_⟩
                    rw [← hy, hyv, HVV.out]; simp)
                  have HNO := hide hnone
                  clear hnone hy
                  subst hyv
                  go_wp2
                  go_quiet (fail)
                  go_wp2
                  go_ret2
                  exact ModelPost.no (i + 1) (by rw [← HN.out]; omega) HNO.out (Below.drewN2 (Below.drewN2 (HBx.out.alloc HBx.out.size _) _) _)
                · have HQ1 : Hid (∀ j, j < q + 1 → (nth l (stk.getD j 0)).v ≠ v) := fun j hj => by
                    by_cases e : j = q
                    · rw [e, ← HT.out, ← hy]; exact hyv
                    · exact HQ.out j (by omega)
                  clear hy
                  go_wp2
                  go_quiet (fail)
                  go_wp2
                  go_roundw
                  case rel => exact ⟨q + 1, by omega, by go_num, HQ1, _, rfl⟩
                  case measure => simp [intOf]; omega
              · obtain rfl : stk.length = q := by omega
                have HM1 : Hid (mrun l (i + 1) = some (stk ++ [i], mt)) := HMR.out _ (by
                  unfold mstep
                  rw [HK.out, if_pos rfl, if_neg]
                  rw [Bool.not_eq_true, List.any_eq_false]
                  intro j hj
                  obtain ⟨p, hp, rfl⟩ := List.getElem_of_mem hj
                  have := HQ.out p hp
                  rw [List.getD_eq_getElem?_getD, List.getElem?_eq_getElem hp] at this
                  rw [HVV.out]
                  simpa using this)
                clear HQ
                go_wp2_with (at_builtin; refine wpList_append_fits _ rfl (.tmp 57) (.tmp 59) 26 rfl 0 3 i0 1 Tryf.underlying26 hi0 hz1 gs stk.length n (ints (stk.map fun j : Nat => (j : Int))) rfl ?r1 ⟨wr.heap.size + 1, 0, none⟩ 1 1 [.int .i64 i] rfl rfl ?r2 ?r3 ?r4 ?_)
                case r1 =>
                  have := ((HSt.out.alloc (.cells #[.int .i64 1, .int .i64 v, .bool un, .int .i64 num, .int .i64 fl] 36)).drewN nq).alloc (.cells #[.int .i64 i] 3)
                  unfold RowI at this
                  rw [List.length_map] at this
                  exact this
                case r2 =>
                  intro j u hu
                  have hj : j = 0 := by
                    have := (List.getElem?_eq_some_iff.1 hu).1
                    simp at this; exact this
                  subst hj
                  simp at hu
                  subst hu
                  exact cell_of (new1 wr _ _ nq) 0
                case r3 => intro u hu; simp at hu; subst hu; rfl
                case r4 => omega
                intro w3 hown hgrow
                have HR3 : Hid (RowI w3 gs n ((stk ++ [i]).map fun j : Nat => (j : Int))) := by
                  show RowI _ _ _ _
                  unfold RowI
                  rw [List.map_append, List.length_append, List.length_map]
                  simp only [List.map_cons, List.map_nil, List.length_cons, List.length_nil]
                  rw [show ints (List.map (fun j : Nat => (j : Int)) stk ++ [(i : Int)]) = ints (stk.map fun j : Nat => (j : Int)) ++ [.int .i64 i] by simp [ints]]
                  exact hown
                have HMt3 : Hid (RowI w3 w.heap.size n mt) := (((HMt.out.alloc _).drewN nq).alloc _).grown hgrow (by omega)
                have HB3 : Hid (Below w.heap.size w w3) := (HBx.out.trans (two_more wr _ _ nq (Nat.le_of_lt hgm))).grown hgrow (by
                  have := (two_more wr (.cells #[.int .i64 1, .int .i64 v, .bool un, .int .i64 num, .int .i64 fl] 36) (.cells #[.int .i64 i] 3) nq (Nat.le_of_lt hgm)).size
                  omega) (fun r hr => by cases hr; omega)
                clear hown hgrow
                go_wp2
                go_roundw
                case rel => exact ⟨i + 1, stk ++ [i], mt, by omega, by go_num, by simp, HM1, HMt3, HR3, HB3⟩
                case measure => simp [intOf]; omega
          · by_cases h2 : k = 2
            · subst h2
              rcases List.eq_nil_or_concat stk with rfl | ⟨s, top, rfl⟩
              · have HNO : Hid (mrun l (i + 1) = .none) := HMR.out _ (by
                  unfold mstep
                  rw [HK.out, if_neg (by decide), if_pos rfl]
                  rfl)
                go_wp2
                go_ret2
                exact ModelPost.no (i + 1) (by rw [← HN.out]; omega) HNO.out (HBx.out.alloc HBx.out.size _)
              · rw [List.concat_eq_append] at *
                have htop : top < i := HIN.out top (by simp)
                have hlen : (s ++ [top]).length = s.length + 1 := by simp
                rw [hlen] at hsl
                have s0 := HSt.out.at s.length (by simp)
                rw [nats_getD _ _ (by simp), show (s ++ [top]).getD s.length 0 = top by simp [List.getD_eq_getElem?_getD]] at s0
                have s1 := HV.out.c1 top (by rw [← HN.out]; omega)
                have htn : (top : Int) < (n : Int) := by omega
                obtain ⟨y, hy⟩ : ∃ y, y = (nth l top).v := ⟨_, rfl⟩
                rw [← hy] at s1
                have HY := hide hy
                clear hy
                rw [hlen]
                have m0 := HMt.out.at top (by rw [HML.out, ← HN.out]; omega)
                have m1 := HMt.out.at i (by rw [HML.out, ← HN.out]; omega)
                have mf := HMt.out.frozen
                have hgg : w.heap.size ≠ gs := by omega
                have i3 : (((s.length : Int) + 1) - 1).toNat = s.length := by omega
                have hw4 : (s.length : Int) < (s.length : Int) + 1 := by omega
                have HS1 : ∀ W : World, RowI W gs n ((s ++ [top]).map fun j : Nat => (j : Int)) → Hid (RowI W gs n (s.map fun j : Nat => (j : Int))) := fun W hW => by
                  have := hW.take (m := s.length) (by simp)
                  rw [← List.map_take, List.take_left] at this
                  exact this
                have hstep : (un = true ∨ y = v) → mrun l (i + 1) = some (s, (mt.set top (i : Int)).set i (top : Int)) := fun h => HMR.out _ (by
                  unfold mstep
                  rw [HK.out, if_neg (by decide), if_pos rfl]
                  simp only [List.getLast?_append, List.getLast?_singleton, Option.some_or, List.dropLast_concat]
                  rw [HU.out, HVV.out, ← HY.out, if_neg]
                  rintro ⟨a, b⟩
                  rcases h with h | h
                  · rw [h] at a; cases a
                  · exact b h)
                have hno : un = false → y ≠ v → mrun l (i + 1) = .none := fun a b => HMR.out _ (by
                  unfold mstep
                  rw [HK.out, if_neg (by decide), if_pos rfl]
                  simp only [List.getLast?_append, List.getLast?_singleton, Option.some_or]
                  rw [HU.out, HVV.out, ← HY.out, if_pos ⟨a, b⟩])
                cases un with
                | true =>
                  have HM1 := hide (hstep (Or.inl rfl))
                  clear hstep hno
                  go_wp2
                  go_quiet (fail)
                  go_wp2
                  go_roundw
                  case rel => exact ⟨i + 1, s, (mt.set top (i : Int)).set i (top : Int), by omega, by go_num, rfl, HM1, (((HMt.out.alloc _).drewN nq).set top _).set i _, HS1 _ ((((HSt.out.alloc _).drewN nq).other _ hgg).other _ hgg), ((Below.drewN2 (HBx.out.alloc HBx.out.size _) nq).setCell (Nat.le_refl _) _).setCell (Nat.le_refl _) _⟩
                  case measure => simp [intOf]; omega
                | false =>
                  by_cases hyv : y = v
                  · have HM1 := hide (hstep (Or.inr hyv))
                    clear hstep hno
                    subst hyv
                    go_wp2
                    go_quiet (fail)
                    go_wp2
                    go_roundw
                    case rel => exact ⟨i + 1, s, (mt.set top (i : Int)).set i (top : Int), by omega, by go_num, rfl, HM1, (((HMt.out.alloc _).drewN nq).set top _).set i _, HS1 _ ((((HSt.out.alloc _).drewN nq).other _ hgg).other _ hgg), ((Below.drewN2 (HBx.out.alloc HBx.out.size _) nq).setCell (Nat.le_refl _) _).setCell (Nat.le_refl _) _⟩
                    case measure => simp [intOf]; omega
                  · have HNO := hide (hno rfl hyv)
                    clear hstep hno
                    go_wp2
                    go_quiet (fail)
                    go_wp2
                    go_ret2
                    exact ModelPost.no (i + 1) (by rw [← HN.out]; omega) HNO.out (Below.drewN2 (HBx.out.alloc HBx.out.size _) _)
            · have HM1 : Hid (mrun l (i + 1) = some (stk, mt)) := HMR.out _ (by unfold mstep; rw [HK.out, if_neg h1, if_neg h2])
              go_wp2
              go_roundw
              case rel => exact ⟨i + 1, stk, mt, by omega, by go_num, rfl, HM1, HMt.out.alloc _, HSt.out.alloc _, HBx.out.alloc HBx.out.size _⟩
              case measure => simp [intOf]; omega
        · obtain rfl : n = i := by omega
          cases stk with
          | nil =>
            go_wp2
            go_ret2
            refine ⟨HBx.out, Or.inr ⟨?_, w.heap.size, mt, ?_, Nat.le_refl _, ?_, ?_⟩⟩
            · have := HM.out
              rw [HN.out] at this
              unfold okB; rw [this]; rfl
            · rw [← HN.out]; exact HM.out
            · rw [← HN.out]; rfl
            · rw [← HN.out]; exact HMt.out
          | cons a s =>
            have hne : ¬ ((s.length : Int) + 1 = 0) := by omega
            go_wp2
            go_ret2
            refine ⟨HBx.out, Or.inl ⟨?_, _, rfl⟩⟩
            have := HM.out
            rw [HN.out] at this
            unfold okB; rw [this]; rfl
end Go.Proofs.Qxb6002619aFmt
