/-
  The walk of the law.
-/
import Derived.Test.Qxb6003779aDoorFit
namespace Go.Proofs.Qxb6003779aDoor
open Go.RowKit

set_option maxHeartbeats 400000 in
theorem law_zero (ao : Option Addr) (cap : Nat) (tag : Int) (w : World) :
    Calls Tryd.prog 3 #[.slice ao 0 cap, .int .u32 tag] w fun e w' => e = .returned (.bool true) ∧ Below w.heap.size w w' := by
  go_enter Tryd.func3, Tryd.ntmps3
  go_wp2
  go_ret
  exact ⟨rfl, Below.refl _ _⟩

set_option maxHeartbeats 400000 in
theorem law_big (ao : Option Addr) (n cap : Nat) (tag : Int) (w : World) (h : 4096 < n) :
    Calls Tryd.prog 3 #[.slice ao n cap, .int .u32 tag] w fun e w' => e = .returned (.bool true) ∧ Below w.heap.size w w' := by
  have h0 : ((n : Int) == 0) = false := by rw [beq_eq_false_iff_ne]; omega
  go_enter Tryd.func3, Tryd.ntmps3
  go_wp2
  go_ret
  exact ⟨rfl, Below.refl _ _⟩

/-- how many of the first j stand in the rest -/
def cnt (i j : Nat) : Nat := if j ≤ i then j else j - 1
theorem cnt_zero (i : Nat) : cnt i 0 = 0 := by simp [cnt]
theorem cnt_skip (i j : Nat) (h : j = i) : cnt i (j + 1) = cnt i j := by subst h; simp [cnt]
theorem cnt_step (i j : Nat) (h : ¬ j = i) : cnt i (j + 1) = cnt i j + 1 := by
  unfold cnt
  by_cases h1 : j ≤ i
  · rw [if_pos h1, if_pos (by omega)]
  · rw [if_neg h1, if_neg (by omega)]; omega
theorem cnt_lt (i j n : Nat) (h : ¬ j = i) (hj : j < n) (hi : i < n) : cnt i j + 1 ≤ n - 1 := by
  unfold cnt; split <;> omega
theorem cnt_end (i n : Nat) (hi : i < n) : cnt i n = n - 1 := by rw [cnt, if_neg (by omega)]
theorem cut_cnt (A : Nat → A3) (i j : Nat) (h : ¬ j = i) : cut A i (cnt i j) = A j := by
  unfold cut cnt
  by_cases h1 : j ≤ i
  · rw [if_pos h1, if_pos (by omega)]
  · rw [if_neg h1, if_neg (by omega)]; congr 1; omega
theorem new_cells (a : A3) (w : World) : ∀ (k : Nat) (u : Value), a.cells[k]? = some u → (w.alloc (.cells #[.int .u64 a.hi, .int .u64 a.lo, .pointer a.z] 33)).cell? ((⟨w.heap.size, 0, none⟩ : Addr).add k) = some u := by
  intro k u hu
  have hk : k < 3 := (List.getElem?_eq_some_iff.1 hu).1
  have h3 : k = 0 ∨ k = 1 ∨ k = 2 := by omega
  rcases h3 with rfl | rfl | rfl <;> (rw [← hu]; simp [A3.cells, Addr.add_lit, go_sem])
theorem cells_one (a : A3) : ∀ u ∈ a.cells, u.oneCell' = true := by
  intro u hu
  simp [A3.cells] at hu
  rcases hu with rfl | rfl | rfl <;> rfl

/-- after the first loop: what the two rows hold; what ZZCarve says -/
def LawPost (w : World) (e : Ending) (w' : World) : Prop := e = .returned (.bool true) ∧ Below w.heap.size w w'

set_option maxHeartbeats 2000000 in
theorem law_mid (b off n cap tag : Nat) (X : Nat → PA) (p4 p6 : Addr) (w : World) (hz : Zs w p4 p6) (hzp : Zp w p4 p6) (hin : In17 w b off n X) (hb : b < w.heap.size) (h1 : 1 ≤ n) (hn : n ≤ 4096) (ht : tag ≤ 4294967295) :
    Calls Tryd.prog 3 #[.slice (some ⟨b, off, none⟩) n cap, .int .u32 (tag : Int)] w fun e w' => LawPost w e w' := by
  obtain ⟨i0, hi0, hz0, hz1, hz2⟩ := info_parts info33
  have hfit := fit_any b off n cap X p4 p6 w hz hzp hin hb h1 hn
  have hne0 : ((n : Int) == 0) = false := by rw [beq_eq_false_iff_ne]; omega
  have HF := hide hfit
  have HZ := hide hz
  have HI := hide hin
  have HP := hide hzp
  clear hz hin hzp hfit
  go_enter Tryd.func3, Tryd.ntmps3
  go_wp2_with fail
  refine HF.out.mono ?_
  rintro e w1 ⟨r, rfl, hr, hb1⟩
  cases r with
  | false =>
    go_wp2
    go_ret
    exact ⟨rfl, hb1⟩
  | true =>
  have HT : Hid (Fit p4 p6 n X) := hr rfl
  have HB1 := hide hb1
  have hs1 : w.heap.size ≤ w1.heap.size := hb1.size
  clear hr hb1 HF
  go_wp2_with (at_make; refine wpList_make_full _ rfl (.tmp 30) (.tmp 30) 25 rfl 0 33 i0 _ 3 Tryd.underlying25 hi0 hz0 hz1 _ _ _ _ n rfl rfl rfl rfl ?c1 ?c2 (Nat.zero_le _) ?_)
  case c1 => rw [hz2]; omega
  case c2 => unfold maxLen; omega
  intro w2 hown hgrow
  have HR1 : Hid (Row3 w2 w1.heap.size n (fun _ => A3.zero)) := by unfold Row3 Hid; rw [← made_flat]; exact hown
  have hs2 : w1.heap.size < w2.heap.size := HR1.out.lt
  have HB2 : Hid (Below w.heap.size w w2) := HB1.out.grown hgrow hs1 (fun k hk => by cases hk)
  clear hown hgrow HB1
  generalize w1.heap.size = g1 at *
  go_wp2_with (at_make; refine wpList_make_full _ rfl (.tmp 32) (.tmp 32) 25 rfl 0 33 i0 _ 3 Tryd.underlying25 hi0 hz0 hz1 _ _ _ _ n rfl rfl rfl rfl ?d1 ?d2 (Nat.zero_le _) ?_)
  case d1 => rw [hz2]; omega
  case d2 => unfold maxLen; omega
  intro w3 hown hgrow
  have HR2 : Hid (Row3 w3 w2.heap.size n (fun _ => A3.zero)) := by unfold Row3 Hid; rw [← made_flat]; exact hown
  have HR1' : Hid (Row3 w3 g1 n (fun _ => A3.zero)) := HR1.out.grown hgrow (by simp)
  have HB3 : Hid (Below w.heap.size w w3) := HB2.out.grown hgrow (by omega) (fun k hk => by cases hk)
  clear hown hgrow HR1 HB2
  generalize w2.heap.size = g2 at *
  clear w1 w2
  go_wp2
  go_loopw [8] (fun i wr => ∃ j : Nat, j ≤ n ∧ i = .int .i64 j ∧ Hid (Row3 wr g1 n (fill p4 p6 X j)) ∧ Hid (Row3 wr g2 n (fill p4 p6 X j)) ∧ Hid (Below w.heap.size w wr)) (fun i _ => n - (intOf i).toNat)
  case atStart => exact ⟨0, Nat.zero_le _, rfl, HR1'.out.congr (fun t _ => rfl), HR2.out.congr (fun t _ => rfl), HB3⟩
  case round =>
    obtain ⟨j, hj, rfl, HRa, HRb, HBr⟩ := hrel
    clear HR1' HR2 HB3 w3
    by_cases hlt : j < n
    · have hin := HI.out.below HBr.out hb
      have c0 := hin.k j hlt
      have c1 : wr.cell? ⟨b, off + j * 17 + 1, none⟩ = some (.int .u8 ((X j).o 0)) := hin.o j hlt 0 (by omega)
      have c2 : wr.cell? ⟨b, off + j * 17 + 2, none⟩ = some (.int .u8 ((X j).o 1)) := hin.o j hlt 1 (by omega)
      have c3 : wr.cell? ⟨b, off + j * 17 + 3, none⟩ = some (.int .u8 ((X j).o 2)) := hin.o j hlt 2 (by omega)
      have c4 : wr.cell? ⟨b, off + j * 17 + 4, none⟩ = some (.int .u8 ((X j).o 3)) := hin.o j hlt 3 (by omega)
      have c5 : wr.cell? ⟨b, off + j * 17 + 5, none⟩ = some (.int .u8 ((X j).o 4)) := hin.o j hlt 4 (by omega)
      have c6 : wr.cell? ⟨b, off + j * 17 + 6, none⟩ = some (.int .u8 ((X j).o 5)) := hin.o j hlt 5 (by omega)
      have c7 : wr.cell? ⟨b, off + j * 17 + 7, none⟩ = some (.int .u8 ((X j).o 6)) := hin.o j hlt 6 (by omega)
      have c8 : wr.cell? ⟨b, off + j * 17 + 8, none⟩ = some (.int .u8 ((X j).o 7)) := hin.o j hlt 7 (by omega)
      have c9 : wr.cell? ⟨b, off + j * 17 + 9, none⟩ = some (.int .u8 ((X j).o 8)) := hin.o j hlt 8 (by omega)
      have c10 : wr.cell? ⟨b, off + j * 17 + 10, none⟩ = some (.int .u8 ((X j).o 9)) := hin.o j hlt 9 (by omega)
      have c11 : wr.cell? ⟨b, off + j * 17 + 11, none⟩ = some (.int .u8 ((X j).o 10)) := hin.o j hlt 10 (by omega)
      have c12 : wr.cell? ⟨b, off + j * 17 + 12, none⟩ = some (.int .u8 ((X j).o 11)) := hin.o j hlt 11 (by omega)
      have c13 : wr.cell? ⟨b, off + j * 17 + 13, none⟩ = some (.int .u8 ((X j).o 12)) := hin.o j hlt 12 (by omega)
      have c14 : wr.cell? ⟨b, off + j * 17 + 14, none⟩ = some (.int .u8 ((X j).o 13)) := hin.o j hlt 13 (by omega)
      have c15 : wr.cell? ⟨b, off + j * 17 + 15, none⟩ = some (.int .u8 ((X j).o 14)) := hin.o j hlt 14 (by omega)
      have c16 : wr.cell? ⟨b, off + j * 17 + 16, none⟩ = some (.int .u8 ((X j).o 15)) := hin.o j hlt 15 (by omega)
      clear hin
      go_wp2_with fail
      have hcall := toAddr_any (X j) (HT.out.1 j hlt) p4 p6 wr (HZ.out.old HBr.out)
      unfold PA.val at hcall
      refine hcall.mono ?_
      clear hcall
      rintro e w2 ⟨rfl, hb2⟩
      clear c0 c1 c2 c3 c4 c5 c6 c7 c8 c9 c10 c11 c12 c13 c14 c15 c16
      have hra := HRa.out.below hb2 HRa.out.lt
      have hrb := HRb.out.below hb2 HRb.out.lt
      have q0 := hra.at3.c0 j hlt
      have q1 := hra.at3.c1 j hlt
      have q2 := hra.at3.c2 j hlt
      have qf := hra.frozen
      have u0 := hrb.at3.c0 j hlt
      have u1 := hrb.at3.c1 j hlt
      have u2 := hrb.at3.c2 j hlt
      have uf := hrb.frozen
      obtain ⟨a, ha⟩ : ∃ a, a = (X j).adr p4 p6 := ⟨_, rfl⟩
      obtain ⟨W, hW⟩ : ∃ W, W = ((w2.setCell ⟨g1, j * 3, none⟩ (.int .u64 a.hi)).setCell ⟨g1, j * 3 + 1, none⟩ (.int .u64 a.lo)).setCell ⟨g1, j * 3 + 2, none⟩ (.pointer a.z) := ⟨_, rfl⟩
      have hra2 : Row3 W g1 n (fill p4 p6 X (j + 1)) := by rw [hW]; exact (hra.set j hlt a).congr (fun t _ => by rw [ha]; exact fill_succ p4 p6 X j t)
      have hrb2 : Row3 W g2 n (fill p4 p6 X j) := by rw [hW]; exact ((hrb.other (by show g2 ≠ g1; omega) _).other (by show g2 ≠ g1; omega) _).other (by show g2 ≠ g1; omega) _
      have hra3 := fun v0 v1 v2 => ((hra2.other (a := ⟨g2, j * 3, none⟩) (by show g1 ≠ g2; omega) v0).other (a := ⟨g2, j * 3 + 1, none⟩) (by show g1 ≠ g2; omega) v1).other (a := ⟨g2, j * 3 + 2, none⟩) (by show g1 ≠ g2; omega) v2
      have hrb3 : Row3 (((W.setCell ⟨g2, j * 3, none⟩ (.int .u64 a.hi)).setCell ⟨g2, j * 3 + 1, none⟩ (.int .u64 a.lo)).setCell ⟨g2, j * 3 + 2, none⟩ (.pointer a.z)) g2 n (fill p4 p6 X (j + 1)) := (hrb2.set j hlt a).congr (fun t _ => by rw [ha]; exact fill_succ p4 p6 X j t)
      have hbW : Below w.heap.size w W := by
        rw [hW]
        exact (((HBr.out.trans (hb2.mono HBr.out.size)).setCell (by show w.heap.size ≤ g1; omega) _).setCell (by show w.heap.size ≤ g1; omega) _).setCell (by show w.heap.size ≤ g1; omega) _
      have HA3 := hide hra3
      have HB3 := hide hrb3
      have HBW := hide hbW
      have HW := hide hW
      rw [← ha]
      clear ha hra hrb hb2 hra2 hrb2 hra3 hrb3 hbW hW
      simp only [A3.val]
      go_wp2_with fail
      go_roundw
      case rel =>
        rw [← HW.out]
        exact ⟨j + 1, by omega, by go_num, HA3.out _ _ _, HB3, ((HBW.out.setCell (by show w.heap.size ≤ g2; omega) _).setCell (by show w.heap.size ≤ g2; omega) _).setCell (by show w.heap.size ≤ g2; omega) _⟩
      case measure => simp [intOf]; omega
    · obtain rfl : n = j := by omega
      obtain ⟨A, hA⟩ : ∃ A : Nat → A3, ∀ t, A t = (X t).adr p4 p6 := ⟨_, fun _ => rfl⟩
      have HRA : Hid (Row3 wr g1 n A) := HRa.out.congr (fun t ht => by rw [hA]; unfold fill; rw [if_pos ht])
      have HRB : Hid (Row3 wr g2 n A) := HRb.out.congr (fun t ht => by rw [hA]; unfold fill; rw [if_pos ht])
      have HDist : Hid (∀ i j, j < i → i < n → A i ≠ A j) := fun i j h h' => by rw [hA, hA]; exact HT.out.2 i j h h'
      have HHz : Hid (∀ i, Hz p4 p6 (A i) ∧ (A i).z.isSome = true) := fun i => by rw [hA]; exact ⟨adr_z_cases p4 p6 (X i), PA.adr_z p4 p6 (X i)⟩
      clear hA HRa HRb HT
      obtain ⟨x, hx⟩ : ∃ x, x = A (tag % n) := ⟨_, rfl⟩
      obtain ⟨y, hy⟩ : ∃ y, y = bdf n A tag := ⟨_, rfl⟩
      have HX := hide hx
      have HY := hide hy
      clear hx hy
      go_wp2_with fail
      refine (zz_any g1 n n tag A wr HRA.out.at3 HRA.out.lt h1 hn ht x y HX HY).mono ?_
      rintro e w4 ⟨rfl, hb4⟩
      have HRA4 : Hid (Row3 w4 g1 n A) := HRA.out.below hb4 HRA.out.lt
      have HRB4 : Hid (Row3 w4 g2 n A) := HRB.out.below hb4 HRB.out.lt
      have HB4 : Hid (Below w.heap.size w w4) := HBr.out.trans (hb4.mono HBr.out.size)
      clear hb4 HRA HRB HBr
      simp only [A3.val]
      go_wp2
      obtain ⟨W5, hW5⟩ : ∃ W5, W5 = (w4.alloc (.cells #[.int .u64 x.hi, .int .u64 x.lo, .pointer x.z] 33)).alloc (.cells #[.int .u64 y.hi, .int .u64 y.lo, .pointer y.z] 33) := ⟨_, rfl⟩
      have hb5 : Below w4.heap.size w4 W5 := by rw [hW5]; exact below2 w4 _ _
      have HRA5 : Hid (Row3 W5 g1 n A) := HRA4.out.below hb5 HRA4.out.lt
      have HRB5 : Hid (Row3 W5 g2 n A) := HRB4.out.below hb5 HRB4.out.lt
      have HB5 : Hid (Below w.heap.size w W5) := HB4.out.trans (hb5.mono HB4.out.size)
      have hs5 : W5.heap.size = w4.heap.size + 2 := by rw [hW5]; simp
      have x0 : W5.cell? ⟨w4.heap.size, 0, none⟩ = some (.int .u64 x.hi) := by rw [hW5]; simp [go_sem]
      have x1 : W5.cell? ⟨w4.heap.size, 1, none⟩ = some (.int .u64 x.lo) := by rw [hW5]; simp [go_sem]
      have x2 : W5.cell? ⟨w4.heap.size, 2, none⟩ = some (.pointer x.z) := by rw [hW5]; simp [go_sem]
      have y0 : W5.cell? ⟨w4.heap.size + 1, 0, none⟩ = some (.int .u64 y.hi) := by rw [hW5]; simp [go_sem]
      have y1 : W5.cell? ⟨w4.heap.size + 1, 1, none⟩ = some (.int .u64 y.lo) := by rw [hW5]; simp [go_sem]
      have y2 : W5.cell? ⟨w4.heap.size + 1, 2, none⟩ = some (.pointer y.z) := by rw [hW5]; simp [go_sem]
      have hds : w.heap.size ≤ w4.heap.size := HB4.out.size
      have hg4 : g2 < w4.heap.size := HRB4.out.lt
      rw [← hW5]
      clear hW5 hb5 HRA4 HRB4 HB4
      have HS5 := hide hs5
      clear hs5
      generalize w4.heap.size = d1 at *
      clear w4 wr
      go_loopw [11] (fun k wq => ∃ j : Nat, j ≤ n ∧ k = .int .i64 j ∧ ∃ m, wq = W5.drewN m) (fun k _ => n - (intOf k).toNat)
      case atStart => exact ⟨0, Nat.zero_le _, rfl, 0, rfl⟩
      case round =>
        obtain ⟨j, hj, rfl, m, rfl⟩ := hrel
        by_cases hlt : j < n
        · have r0 := HRA5.out.at3.c0 j hlt
          have r1 := HRA5.out.at3.c1 j hlt
          have r2 := HRA5.out.at3.c2 j hlt
          have t0 := HRB5.out.at3.c0 j hlt
          have t1 := HRB5.out.at3.c1 j hlt
          have t2 := HRB5.out.at3.c2 j hlt
          have hp := fun W => (eq_same (A j) W).2
          go_wp2
          go_quiet (fail)
          go_wp2
          go_roundw
          case rel => exact ⟨j + 1, by omega, by go_num, _, rfl⟩
          case measure => simp [intOf]; omega
        · obtain rfl : n = j := by omega
          obtain ⟨i, hi⟩ : ∃ i, i = tag % n := ⟨_, rfl⟩
          have him : i < n := by rw [hi]; exact Nat.mod_lt _ (by omega)
          have hxi : x = A i := by rw [hi]; exact HX.out
          have e1 : (tag : Int) % (n : Int) = (i : Int) := by rw [hi]; push_cast; rfl
          have t0 : W5.cell? ⟨g2, i * 3, none⟩ = some (.int .u64 x.hi) := by rw [hxi]; exact HRB5.out.at3.c0 i him
          have t1 : W5.cell? ⟨g2, i * 3 + 1, none⟩ = some (.int .u64 x.lo) := by rw [hxi]; exact HRB5.out.at3.c1 i him
          have t2 : W5.cell? ⟨g2, i * 3 + 2, none⟩ = some (.pointer x.z) := by rw [hxi]; exact HRB5.out.at3.c2 i him
          have hp := fun W => (eq_same x W).2
          have HIi := hide hi
          have HXi := hide hxi
          clear hi hxi
          by_cases hn1 : n = 1
          · have hb1 : ((n : Int) == 1) = true := by rw [beq_iff_eq]; omega
            have hy0 : y = A3.zero := by rw [HY.out, bdf, if_pos hn1]
            rw [hy0] at y0 y1 y2
            simp only [A3.zero] at y0 y1 y2
            have hpz := fun W => (eq_same A3.zero W).1
            simp only [A3.zero] at hpz
            clear hn1 hy0
            go_wp2
            go_quiet (fail)
            go_wp2
            go_ret
            exact ⟨rfl, below_drewN HB5.out _⟩
          · have hb1 : ((n : Int) == 1) = false := by rw [beq_eq_false_iff_ne]; omega
            have hyc : y = cut A i (tag % (n - 1)) := by rw [HY.out, bdf, if_neg hn1, HIi.out]
            have hk : tag % (n - 1) < n - 1 := Nat.mod_lt _ (by omega)
            obtain ⟨t, htn, hti, hyt⟩ : ∃ t, t < n ∧ t ≠ i ∧ y = A t := by
              rw [hyc]; unfold cut
              by_cases h : tag % (n - 1) < i
              · rw [if_pos h]; exact ⟨_, by omega, by omega, rfl⟩
              · rw [if_neg h]; exact ⟨_, by omega, by omega, rfl⟩
            have hyx : y ≠ x := by
              rw [hyt, HXi.out]
              rcases Nat.lt_or_gt_of_ne hti with h | h
              · exact fun e => HDist.out i t h him e.symm
              · exact HDist.out t i h htn
            have hyz : y ≠ A3.zero := by
              intro e
              have := (HHz.out t).2
              rw [← hyt, e] at this
              simp [A3.zero] at this
            have hHy : Hz p4 p6 y := by rw [hyt]; exact (HHz.out t).1
            have hHx : Hz p4 p6 x := by rw [HXi.out]; exact (HHz.out i).1
            have hpz := eq_zero y (by rw [hyt]; exact (HHz.out t).2)
            have hpar := eq_parts y x hyx
            have HYC := hide hyc
            have HHy := hide hHy
            have HHx := hide hHx
            clear hyc hyt hyx hyz hHy hHx hti htn t
            have hpp : (∀ w : World, (binOp .eql 33 (.agg #[.int .u64 y.hi, .int .u64 y.lo, .pointer y.z]) (.agg #[.int .u64 x.hi, .int .u64 x.lo, .pointer x.z])).run Tryd.prog w = .ok (.bool false) w) ∨
                (x.hi = y.hi ∧ x.lo = y.lo ∧ ∀ m, (Op.equalIn 9998 29 (.pointer y.z) (.pointer x.z)).run Tryd.prog (W5.drewN m) = .ok false (W5.drewN m)) := by
              rcases hpar with h | ⟨ea, eb, ec⟩
              · exact Or.inl h
              · exact Or.inr ⟨ea.symm, eb.symm, fun m => ptr_other _ _ p4 p6 _ (HP.out.old (below_drewN HB5.out m)) HHy.out HHx.out ec⟩
            clear hpar
            rcases hpp with hpx | ⟨ea, eb, hpx⟩
            rotate_left
            rw [ea] at x0 t0 hp
            rw [eb] at x1 t1 hp
            clear ea eb
            rotate_left
            all_goals
              go_wp2
              go_quiet (fail)
              simp only [World.drewN_drewN]
            all_goals
              go_wp2_with (at_make; refine wpList_make_own _ rfl _ (.tmp 99) 25 rfl 0 33 i0 _ 3 Tryd.underlying25 hi0 hz0 hz1 _ _ _ (n - 1) rfl rfl (by omega) (by rw [hz2]; omega) (by unfold maxLen; omega) (Nat.zero_le _) ?_)
            all_goals
              intro w6 hown hgrow
              have hbd : Below W5.heap.size W5 w6 := (below_drewN (Below.refl W5.heap.size W5) _).grown hgrow (Nat.le_refl _) (fun k hk => by cases hk)
              have HO6 := hide hown
              have HB6 := hide hbd
              have HS6 : Hid (d1 + 2 = W5.heap.size) := HS5.out.symm
              clear hown hgrow hbd HS5 hpx hpz hp t0 t1 t2 x0 x1 x2
              generalize hDe : W5.heap.size = D at *
              have HDe := hide hDe
              have hDd : d1 + 1 < D := by have := HS6.out; omega
              clear hDe
              clear HS6
              go_wp2
              go_loopw [13, 14] (fun rv kv wq => ∃ j : Nat, j ≤ n ∧ kv = .int .i64 j ∧ rv = .slice (some ⟨D, 0, none⟩) (cnt i j) (n - 1) ∧ Hid (wq.ownsRow 0 33 3 (.slice (some ⟨D, 0, none⟩) (cnt i j) (n - 1)) (cnt i j) (flat (cnt i j) (cut A i))) ∧ Hid (Below D W5 wq)) (fun _ kv _ => n - (intOf kv).toNat)
              case atStart => exact ⟨0, Nat.zero_le _, rfl, by rw [cnt_zero], by rw [cnt_zero]; exact HO6, HB6⟩
              case round =>
                obtain ⟨j, hj, rfl, rfl, HOq, HBq⟩ := hrel
                clear HO6 HB6
                by_cases hlt : j < n
                · have hrow := HRB5.out.below HBq.out (by omega)
                  have r0 := hrow.at3.c0 j hlt
                  have r1 := hrow.at3.c1 j hlt
                  have r2 := hrow.at3.c2 j hlt
                  clear hrow
                  by_cases hji : j = i
                  · have hne : ((j : Int) != (i : Int)) = false := by rw [hji]; simp
                    have hcs : cnt i (j + 1) = cnt i j := cnt_skip i j hji
                    have HC := hide hcs
                    clear hji hcs
                    go_wp2
                    go_roundw
                    case rel => exact ⟨j + 1, by omega, by go_num, by rw [HC.out], by rw [HC.out]; exact HOq, HBq⟩
                    case measure => simp [intOf]; omega
                  · have hne : ((j : Int) != (i : Int)) = true := by rw [bne_iff_ne]; omega
                    have hcs : cnt i (j + 1) = cnt i j + 1 := cnt_step i j hji
                    have hca : cut A i (cnt i j) = A j := cut_cnt A i j hji
                    have hcb : cnt i j + 1 ≤ n - 1 := cnt_lt i j n hji hlt him
                    have HC := hide hcs
                    have HCA := hide hca
                    clear hji hcs hca
                    go_wp2_with (at_builtin; refine wpList_append_fits _ rfl (.tmp 109) (.tmp 114) 25 rfl 0 33 i0 3 Tryd.underlying25 hi0 hz1 D (cnt i j) (n - 1) (flat (cnt i j) (cut A i)) rfl (HOq.out.alloc _) ⟨wr.heap.size, 0, none⟩ 1 1 (A j).cells rfl rfl (new_cells (A j) wr) (cells_one (A j)) hcb ?_)
                    intro w7 hown7 hgrow7
                    have HO7 : Hid (w7.ownsRow 0 33 3 (.slice (some ⟨D, 0, none⟩) (cnt i (j + 1)) (n - 1)) (cnt i (j + 1)) (flat (cnt i (j + 1)) (cut A i))) := by
                      rw [HC.out, flat_succ, HCA.out]; exact hown7
                    have hDs : D ≤ wr.heap.size := by have := HBq.out.size; rw [HDe.out] at this; exact this
                    have HB7 : Hid (Below D W5 w7) := (HBq.out.alloc hDs _).grown hgrow7 (by simp; omega) (fun k hk => by simp at hk; omega)
                    clear hown7 hgrow7
                    go_wp2
                    go_roundw
                    case rel => exact ⟨j + 1, by omega, by go_num, by rw [HC.out], HO7, HB7⟩
                    case measure => simp [intOf]; omega
                · obtain rfl : n = j := by omega
                  have hcn : cnt i n = n - 1 := cnt_end i n him
                  rw [hcn] at HOq
                  rw [hcn]
                  clear hcn
                  have hDs : D ≤ wr.heap.size := by have := HBq.out.size; rw [HDe.out] at this; exact this
                  have hDlt : D < wr.heap.size := by
                    obtain ⟨_, ⟨hx, _⟩ | ⟨g', cap', cur, hx, _, hh, _⟩⟩ := HOq.out
                    · simp at hx
                    · simp at hx
                      obtain ⟨rfl, _⟩ := hx
                      exact lt_of_block hh
                  obtain ⟨y', hy'⟩ : ∃ y', y' = bdf (n - 1) (cut A i) tag := ⟨_, rfl⟩
                  have HY' := hide hy'
                  clear hy'
                  go_wp2_with fail
                  refine (zz_any D (n - 1) (n - 1) tag (cut A i) wr (At3.of_owns HOq.out) hDlt (by omega) (by omega) ht y y' HYC HY').mono ?_
                  rintro e w8 ⟨rfl, hb8⟩
                  have hb9 : ∀ o1 o2, Below D W5 ((w8.alloc o1).alloc o2) := fun o1 o2 =>
                    (HBq.out.trans (hb8.mono hDs)).trans ((below2 w8 o1 o2).mono (Nat.le_trans hDs hb8.size))
                  have v0 : ∀ o1 o2, ((w8.alloc o1).alloc o2).cell? ⟨d1 + 1, 0, none⟩ = some (.int .u64 y.hi) := fun o1 o2 => by rw [(hb9 o1 o2).cell (by exact hDd)]; exact y0
                  have v1 : ∀ o1 o2, ((w8.alloc o1).alloc o2).cell? ⟨d1 + 1, 1, none⟩ = some (.int .u64 y.lo) := fun o1 o2 => by rw [(hb9 o1 o2).cell (by exact hDd)]; exact y1
                  have v2 : ∀ o1 o2, ((w8.alloc o1).alloc o2).cell? ⟨d1 + 1, 2, none⟩ = some (.pointer y.z) := fun o1 o2 => by rw [(hb9 o1 o2).cell (by exact hDd)]; exact y2
                  have HB9 := hide hb9
                  have hpy := fun W => (eq_same y W).1
                  clear hb8 hb9
                  simp only [A3.val]
                  go_wp2
                  go_ret
                  exact ⟨rfl, HB5.out.trans ((HB9.out _ _).mono (by omega))⟩
end Go.Proofs.Qxb6003779aDoor
