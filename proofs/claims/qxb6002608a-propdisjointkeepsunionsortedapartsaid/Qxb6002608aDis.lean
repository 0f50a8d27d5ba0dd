/-
  disjoint: the sort, then the merge within the row.
-/
import Derived.Test.Qxb6002608aJoin
import Derived.Test.Qxb6002608aSort
import Derived.Test.Qxb6002608aMid
import Derived.Lib.JoinLaws
import Derived.Deep.RegionWith
import Derived.Deep.CutRange
namespace Go.Proofs.Qxb6002608a
open Go.RowKit

def DisPost (g cap : Nat) (l : List KR) (w : World) (e' : Ending) (w' : World) : Prop :=
  Below g w w' ∧ ∃ D : List KR, D.Perm l ∧ Sorted D ∧ e' = .returned (.slice (some ⟨g, 0, none⟩) (mer D D.length).length cap) ∧ Row4 w' 90 g cap (mer D D.length)

theorem Row4.take {w : World} {T g cap m : Nat} {l : List KR} (h : Row4 w T g cap l) (hm : m ≤ l.length) : Row4 w T g cap (l.take m) := by
  obtain ⟨cur, hh, h1, h2, h3, h4⟩ := h.parts
  have hl : (l.take m).length = m := by rw [List.length_take]; omega
  refine Row4.of_parts cur hh (by omega) h2 h3 ?_
  rw [hl]
  have e1 : flat l = flat (l.take m) ++ flat (l.drop m) := by rw [← flat_append, List.take_append_drop]
  rw [e1] at h4
  have e2 : (cur.toList.take (l.length * 4)).take (m * 4) = flat (l.take m) := by
    rw [h4]
    have : m * 4 = (flat (l.take m)).length := by rw [flat_length, hl]
    rw [this, List.take_left]
  rw [← e2, List.take_take, Nat.min_eq_left (by omega)]

theorem Row4.alloc {w : World} {T g cap : Nat} {l : List KR} (h : Row4 w T g cap l) (o : Obj) : Row4 (w.alloc o) T g cap l :=
  h.below ((Below.refl w.heap.size w).alloc (Nat.le_refl _) o) h.lt
theorem Row4.drewN {w : World} {T g cap : Nat} {l : List KR} (h : Row4 w T g cap l) (q : Nat) : Row4 (w.drewN q) T g cap l := h.of_block rfl

theorem Below.drewN' {B : Nat} {a w : World} (h : Below B a w) (q : Nat) : Below B a (w.drewN q) := ⟨h.os, h.tape, h.output, h.size, h.block⟩
theorem new4 (w : World) (o : Obj) (q : Nat) (x : KR) : (((w.alloc o).drewN q).alloc (.cells #[.string x.s, .string x.e, .bool x.th, .bool x.op] 90)).heap[w.heap.size + 1]? = some (.cells #[.string x.s, .string x.e, .bool x.th, .bool x.op] 90) := by
  show ((w.heap.push o).push _)[_]? = _
  rw [Array.getElem?_push, if_pos (by simp)]

theorem cell_of {w : World} {b : Nat} {c : Array Value} {t : TypeId} (h : w.heap[b]? = some (.cells c t)) (j : Nat) : w.cell? ⟨b, j, none⟩ = c[j]? := by
  simp only [World.cell?, h, Option.isSome_none, Bool.false_eq_true, if_false]
theorem two_more (w : World) (o o' : Obj) (q : Nat) {g : Nat} (hg : g ≤ w.heap.size) : Below g w (((w.alloc o).drewN q).alloc o') := by
  have h := Below.drewN' ((Below.refl w.heap.size w).alloc (Nat.le_refl _) o) q
  exact (h.alloc h.size o').mono hg

theorem undrew {B : Nat} {w w' : World} (h : Below B w.drew w') : Below B w w' := ⟨h.os, h.tape, h.output, h.size, h.block⟩

theorem alloc_new (w : World) (o : Obj) : (w.alloc o).heap[w.heap.size]? = some o := by
  show (w.heap.push o)[_]? = _
  rw [Array.getElem?_push, if_pos rfl]

theorem wpList_append4 (w : World) {ops : Array Oper} {rest : List Oper} {o : Oper} {a : Act} {Q : Exit → Act → World → Prop}
    (hg : o.guard = none) (s x : Operand) (hop : o.op = Op.call { callee := Callee.builtin Builtin.append, args := #[s, x], argTypes := #[82, 82] })
    (g m cap : Nat) (R : List KR) (hs : a.eval s = .slice (some ⟨g, 0, none⟩) m cap) (ad c : Nat) (hx : a.eval x = .slice (some ⟨ad, 0, none⟩) 1 c) (y : KR)
    (hrow : Row4 w 90 g cap R) (hm : m < R.length)
    (q0 : w.cell? ⟨ad, 0, none⟩ = some (.string y.s)) (q1 : w.cell? ⟨ad, 1, none⟩ = some (.string y.e)) (q2 : w.cell? ⟨ad, 2, none⟩ = some (.bool y.th)) (q3 : w.cell? ⟨ad, 3, none⟩ = some (.bool y.op))
    (hK : ∀ w', Row4 w' 90 g cap (R.set m y) → Below g w w' → wpList Try.prog ops Q rest (a.put o.dst (.slice (some ⟨g, 0, none⟩) (m + 1) cap)) w') :
    wpList Try.prog ops Q (o :: rest) a w := by
  obtain ⟨i0, hi0, hz0, hz1, hz2⟩ := info_parts info90
  have hcap : R.length ≤ cap := by obtain ⟨_, _, h, _⟩ := hrow.parts; exact h
  have h1 : ∀ u ∈ y.cells, u.oneCell' = true := by
    intro u hu
    simp only [KR.cells, List.mem_cons, List.not_mem_nil, or_false] at hu
    rcases hu with rfl | rfl | rfl | rfl <;> rfl
  have hsrc : Src Try.prog i0.size 82 (.slice (some ⟨ad, 0, none⟩) 1 c) 1 y.cells w := by
    refine Src.ofSlice w Try.underlying82 _ _ _ _ (by rw [hz1]; rfl) ?_ h1
    intro j u hu
    have hj : j < 4 := (List.getElem?_eq_some_iff.1 hu).1
    have h4 : j = 0 ∨ j = 1 ∨ j = 2 ∨ j = 3 := by omega
    rcases h4 with rfl | rfl | rfl | rfl
    · exact q0.trans hu
    · exact q1.trans hu
    · exact q2.trans hu
    · exact q3.trans hu
  have hcell : ∀ j, j < 4 → w.cell? ⟨g, m * 4 + j, none⟩ = R[m].cells[j]? := fun j hj => by
    rw [hrow.cellAt (m * 4 + j) (by omega), flat_at R m j hm hj]
  refine wpList_append_room_src w hg s x 82 82 hop 90 i0 Try.underlying82 hi0 g 0 m cap hs _ hx 1 y.cells hsrc (by omega) ?_ ?_ ?_
  · intro j hj
    have hj' : j < 4 := hj
    rw [hz1, Nat.zero_add, hcell j hj']
    have : j < R[m].cells.length := hj'
    rw [List.getElem?_eq_getElem this]; rfl
  · intro j _
    exact hrow.frozen _
  · rw [hz1, Nat.zero_add]
    refine hK _ ?_ ?_
    · exact hrow.set m hm y
    · exact ((((Below.refl g w).setCell (Nat.le_refl _) _).setCell (Nat.le_refl _) _).setCell (Nat.le_refl _) _).setCell (Nat.le_refl _) _

set_option maxRecDepth 20000 in
set_option maxHeartbeats 4000000 in
theorem dis_walk (g cap : Nat) (l : List KR) (w : World) (hrow : Row4 w 90 g cap l) (hn : l.length ≤ 4096) :
    Calls Try.prog 32 #[.slice (some ⟨g, 0, none⟩) l.length cap] w fun e' w' => DisPost g cap l w e' w' := by
  obtain ⟨i0, hi0, hz0, hz1, hz2⟩ := info_parts info90
  have hcap : l.length ≤ cap := by obtain ⟨_, _, h, _⟩ := hrow.parts; exact h
  have HW := hide hrow
  clear hrow
  obtain ⟨n, hnl⟩ : ∃ n, n = l.length := ⟨_, rfl⟩
  have HN := hide hnl
  have hcon := sort_any g cap l w HW.out hn
  rw [← hnl] at hn hcap hcon ⊢
  have HC := hide hcon
  clear hnl hcon
  go_enter Try.func32, Try.ntmps32
  go_wp2_with fail
  go_at_call 51
  refine HC.out.mono ?_
  rintro e1 w1 ⟨rfl, hb1, D, hperm, hsort, hrow1⟩
  have hDn : D.length = n := by rw [HN.out]; exact hperm.length_eq
  have HP := hide hperm
  have HS := hide hsort
  have HD := hide hDn
  have HR := hide hrow1
  have HB := hide hb1
  clear hperm hsort hDn hrow1 hb1 HC HW
  go_wp2
  go_loopw [3, 13] (fun mv iv wr => ∃ (i m : Nat) (R : List KR), i ≤ n ∧ m ≤ i ∧ iv = .int .i64 i ∧ mv = .slice (some ⟨g, 0, none⟩) m cap ∧ Hid (Mid D i m R) ∧ Hid (Row4 wr 90 g cap R) ∧ Hid (Below g w wr)) (fun _ iv _ => n - (intOf iv).toNat)
  case atStart => exact ⟨0, 0, D, Nat.zero_le _, Nat.le_refl _, rfl, rfl, Mid.start D, HR, HB⟩
  case round =>
    obtain ⟨i, m, R, hi, hmi, rfl, rfl, HMr, HRr, HBr⟩ := hrel
    clear HR HB
    by_cases hlt : i < n
    · have hlD : i < D.length := by rw [HD.out]; exact hlt
      have hlR : i < R.length := by rw [HMr.out.len]; exact hlD
      obtain ⟨x, hx⟩ : ∃ x, x = D[i] := ⟨_, rfl⟩
      have hat := HMr.out.at hlD hlR
      rw [← hx] at hat
      have c0 := HRr.out.at0 i hlR
      have c1 := HRr.out.at1 i hlR
      have c2 := HRr.out.at2 i hlR
      have c3 := HRr.out.at3 i hlR
      rw [hat] at c0 c1 c2 c3
      have HX := hide hx
      clear hx hat
      by_cases hm0 : m = 0
      · subst hm0
        go_wp2_with fail
        go_quiet (fail)
        go_wp2_with (at_builtin; refine wpList_append4 _ rfl (.tmp 30) (.tmp 32) rfl g 0 cap R rfl (wr.heap.size + 1) 1 rfl x ?r1 ?r2 ?r3 ?r4 ?r5 ?r6 ?_)
        case r1 => exact ((HRr.out.alloc _).drewN nq).alloc _
        case r2 => omega
        case r3 => exact cell_of (new4 wr _ nq x) 0
        case r4 => exact cell_of (new4 wr _ nq x) 1
        case r5 => exact cell_of (new4 wr _ nq x) 2
        case r6 => exact cell_of (new4 wr _ nq x) 3
        intro w3 hrow3 hb3
        have HR3 := hide hrow3
        have HB3 : Hid (Below g w w3) := HBr.out.trans ((two_more wr _ _ nq (Nat.le_of_lt HRr.out.lt)).trans hb3)
        clear hrow3 hb3
        go_wp2
        go_roundw
        case rel => exact ⟨i + 1, 1, R.set 0 x, by omega, by omega, by go_num, rfl, by rw [HX.out]; exact HMr.out.app0 hlD, HR3, HB3⟩
        case measure => simp [intOf]; omega
      · obtain ⟨q, rfl⟩ : ∃ q, m = q + 1 := ⟨m - 1, by omega⟩
        have hqR : q < R.length := by omega
        obtain ⟨y, hy⟩ : ∃ y, y = R[q] := ⟨_, rfl⟩
        have d0 := HRr.out.at0 q hqR
        have d1 := HRr.out.at1 q hqR
        have d2 := HRr.out.at2 q hqR
        have d3 := HRr.out.at3 q hqR
        rw [← hy] at d0 d1 d2 d3
        have HY := hide hy
        clear hy hm0
        have hgl : g < wr.heap.size := HRr.out.lt
        have hw1 : IntKind.i64.wrap ((q : Int) + 1 - 1) = q := by simp [IntKind.wrap, IntKind.bits, IntKind.signed]; omega
        have hw2 : IntKind.i64.wrap (((q + 1 : Nat) : Int) - 1) = q := by simp [IntKind.wrap, IntKind.bits, IntKind.signed]; omega
        have hw3 : IntKind.i64.wrap (q : Int) = q := by simp [IntKind.wrap, IntKind.bits, IntKind.signed]; omega
        have hw4 : (q : Int) < (q : Int) + 1 := by omega
        have hg1 : (((q : Int) + 1) == 0) = false := by simp; omega
        have hcon := fun W => startsPast_walk x.s x.e y.s y.e x.th x.op y.th y.op W
        cases hp : past x y with
        | true =>
          rw [show past ⟨x.s, x.e, x.th, x.op⟩ ⟨y.s, y.e, y.th, y.op⟩ = true from hp] at hcon
          have HPA := hide hp
          clear hp
          go_wp2_with fail
          go_cut [29] from 19 to 45 (fun t wc => t = .bool true ∧ Hid (Below (wr.heap.size + 1) (wr.alloc (.cells #[.string x.s, .string x.e, .bool x.th, .bool x.op] 90)) wc))
          case first =>
            go_region_with (go_at_call 54; refine (hcon _).mono ?_; rintro e2 w2 ⟨rfl, hb2⟩)
            all_goals (go_wp2_with fail; go_meet)
            all_goals exact ⟨rfl, (undrew hb2).mono (by simp)⟩
          case rest =>
            obtain ⟨rfl, HBc⟩ := hcut
            clear hcon c0 c1 c2 c3 d0 d1 d2 d3
            have bx : wc.heap[wr.heap.size]? = some (.cells #[.string x.s, .string x.e, .bool x.th, .bool x.op] 90) := (HBc.out.block _ (Nat.lt_succ_self _)).trans (alloc_new wr _)
            have x0 : wc.cell? ⟨wr.heap.size, 0, none⟩ = some (.string x.s) := cell_of bx 0
            have x1 : wc.cell? ⟨wr.heap.size, 1, none⟩ = some (.string x.e) := cell_of bx 1
            have x2 : wc.cell? ⟨wr.heap.size, 2, none⟩ = some (.bool x.th) := cell_of bx 2
            have x3 : wc.cell? ⟨wr.heap.size, 3, none⟩ = some (.bool x.op) := cell_of bx 3
            have HRc : Hid (Row4 wc 90 g cap R) := (HRr.out.alloc _).below HBc.out (Nat.lt_succ_of_lt hgl)
            have HB' : Hid (Below g w wc) := HBr.out.trans ((((Below.refl wr.heap.size wr).alloc (Nat.le_refl _) _).trans (HBc.out.mono (Nat.le_succ _))).mono (Nat.le_of_lt hgl))
            clear bx HBc
            go_wp2_with (at_builtin; refine wpList_append4 _ rfl (.tmp 30) (.tmp 32) rfl g (q + 1) cap R rfl wc.heap.size 1 rfl x ?r1 ?r2 ?r3 ?r4 ?r5 ?r6 ?_)
            case r1 => exact HRc.out.alloc _
            case r2 => omega
            case r3 => exact cell_of (alloc_new wc _) 0
            case r4 => exact cell_of (alloc_new wc _) 1
            case r5 => exact cell_of (alloc_new wc _) 2
            case r6 => exact cell_of (alloc_new wc _) 3
            intro w3 hrow3 hb3
            have HR3 := hide hrow3
            have HB3 : Hid (Below g w w3) := HB'.out.trans ((((Below.refl wc.heap.size wc).alloc (Nat.le_refl _) _).mono (Nat.le_of_lt HRc.out.lt)).trans hb3)
            clear hrow3 hb3
            go_wp2
            go_roundw
            case rel => exact ⟨i + 1, q + 1 + 1, R.set (q + 1) x, by omega, by omega, by go_num, rfl, (by
              have h := HMr.out.app (Nat.succ_pos q) hlD hqR (by rw [← HX.out]; exact (congrArg (past x) HY.out).symm.trans HPA.out)
              rw [HX.out]; exact h), HR3, HB3⟩
            case measure => simp [intOf]; omega
        | false =>
          rw [show past ⟨x.s, x.e, x.th, x.op⟩ ⟨y.s, y.e, y.th, y.op⟩ = false from hp] at hcon
          have HPA := hide hp
          clear hp
          go_wp2_with fail
          go_cut [29] from 19 to 45 (fun t wc => t = .bool false ∧ Hid (Below (wr.heap.size + 1) (wr.alloc (.cells #[.string x.s, .string x.e, .bool x.th, .bool x.op] 90)) wc))
          case first =>
            go_region_with (go_at_call 54; refine (hcon _).mono ?_; rintro e2 w2 ⟨rfl, hb2⟩)
            all_goals (go_wp2_with fail; go_meet)
            all_goals exact ⟨rfl, (undrew hb2).mono (by simp)⟩
          case rest =>
            obtain ⟨rfl, HBc⟩ := hcut
            clear hcon c0 c1 c2 c3 d0 d1 d2 d3
            have bx : wc.heap[wr.heap.size]? = some (.cells #[.string x.s, .string x.e, .bool x.th, .bool x.op] 90) := (HBc.out.block _ (Nat.lt_succ_self _)).trans (alloc_new wr _)
            have x0 : wc.cell? ⟨wr.heap.size, 0, none⟩ = some (.string x.s) := cell_of bx 0
            have x1 : wc.cell? ⟨wr.heap.size, 1, none⟩ = some (.string x.e) := cell_of bx 1
            have x2 : wc.cell? ⟨wr.heap.size, 2, none⟩ = some (.bool x.th) := cell_of bx 2
            have x3 : wc.cell? ⟨wr.heap.size, 3, none⟩ = some (.bool x.op) := cell_of bx 3
            have HRc : Hid (Row4 wc 90 g cap R) := (HRr.out.alloc _).below HBc.out (Nat.lt_succ_of_lt hgl)
            have HB' : Hid (Below g w wc) := HBr.out.trans ((((Below.refl wr.heap.size wr).alloc (Nat.le_refl _) _).trans (HBc.out.mono (Nat.le_succ _))).mono (Nat.le_of_lt hgl))
            clear bx HBc
            obtain ⟨z, hz⟩ : ∃ z, z = joined y x := ⟨_, rfl⟩
            have hj : ∀ W, Calls Try.prog 55 #[.agg #[.string y.s, .string y.e, .bool y.th, .bool y.op], .agg #[.string x.s, .string x.e, .bool x.th, .bool x.op]] W fun e' w' => e' = .returned (.agg #[.string z.s, .string z.e, .bool z.th, .bool z.op]) ∧ Below W.heap.size W w' := by
              intro W
              have := joined_walk y.s y.e x.s x.e y.th y.op x.th x.op W
              rw [hz]; exact this
            have HZ := hide hz
            clear hz
            have d0 := HRc.out.at0 q hqR
            have d1 := HRc.out.at1 q hqR
            have d2 := HRc.out.at2 q hqR
            have d3 := HRc.out.at3 q hqR
            rw [← HY.out] at d0 d1 d2 d3
            go_wp2_with fail
            go_region_with (go_at_call 55; refine (hj _).mono ?_; rintro e3 w3 ⟨rfl, hb3⟩; have hrow3 := HRc.out.of_block (hb3.block g HRc.out.lt); have t0 := hrow3.at0 q hqR; have t1 := hrow3.at1 q hqR; have t2 := hrow3.at2 q hqR; have t3 := hrow3.at3 q hqR; have tf := hrow3.frozen)
            all_goals go_wp2
            all_goals go_roundw
            all_goals first
              | (refine ⟨i + 1, q + 1, R.set q z, ?_, ?_, ?_, rfl, ?_, (hrow3.set q hqR z).of_block rfl, ((((HB'.out.trans ((undrew hb3).mono (Nat.le_of_lt HRc.out.lt))).setCell (Nat.le_refl _) _).setCell (Nat.le_refl _) _).setCell (Nat.le_refl _) _).setCell (Nat.le_refl _) _⟩
                 · omega
                 · omega
                 · go_num
                 · have h := HMr.out.join (Nat.succ_pos q) hlD hqR (by rw [← HX.out]; exact (congrArg (past x) HY.out).symm.trans HPA.out)
                   have e : z = joined R[q] D[i] := HZ.out.trans (by rw [← HY.out, ← HX.out])
                   rw [e]; exact h)
              | (simp [intOf]; omega)
    · obtain rfl : n = i := by omega
      go_wp2
      go_ret
      have hd := HD.out
      have hm := HMr.out
      rw [← hd] at hm
      obtain ⟨e1, e2⟩ := hm.end
      refine ⟨HBr.out, D, HP.out, HS.out, ?_, ?_⟩
      · rw [e2]; rfl
      · rw [← e1]; exact HRr.out.take (by rw [hm.len]; omega)
end Go.Proofs.Qxb6002608a
