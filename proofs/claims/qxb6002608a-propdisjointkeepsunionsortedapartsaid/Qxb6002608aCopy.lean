/-
  zzToKeyRange, zzFromKeyRange, zzToKeyRanges, zzFromKeyRanges: copies.
-/
import Derived.Test.Qxb6002608aRow
import Derived.Lib.SliceRun
namespace Go.Proofs.Qxb6002608a
open Go.RowKit

/-- what a copy leaves: nil from nil; else a new row that shows the same list -/
def CopyPost (T : Nat) (ao : Option Addr) (l : List KR) (w : World) (e : Ending) (w' : World) : Prop :=
  Below w.heap.size w w' ∧ ((ao = none ∧ e = .returned (.slice none 0 0)) ∨ ∃ g, w.heap.size ≤ g ∧ e = .returned (.slice (some ⟨g, 0, none⟩) l.length l.length) ∧ Row4 w' T g l.length l)

set_option maxHeartbeats 400000 in
theorem to_one (s e : ByteArray) (th op : Bool) (w : World) :
    Calls Try.prog 38 #[.agg #[.string s, .string e, .bool th, .bool op]] w fun e' w' => e' = .returned (.agg #[.string s, .string e, .bool th, .bool op]) ∧ Below w.heap.size w w' := by
  go_enter Try.func38, Try.ntmps38
  go_wp2
  refine bodyPost_ret (v := .agg #[.string s, .string e, .bool th, .bool op]) (by simp [results, Try.results38, go_sem]) rfl ⟨rfl, ?_⟩
  exact ((Below.refl _ _).alloc (Nat.le_refl _) _).alloc (by simp) _

set_option maxHeartbeats 400000 in
theorem to_nil (w : World) : Calls Try.prog 33 #[.slice none 0 0] w fun e' w' => e' = .returned (.slice none 0 0) ∧ w' = w := by
  have hnil := fun (W : World) (a : Option Addr) (n c : Nat) => Lib.run_eql_slice_nil (P := Try.prog) W 22 34 a n c 0 0 Try.underlying22
  go_enter Try.func33, Try.ntmps33
  go_wp2
  go_ret
  exact ⟨rfl, rfl⟩

set_option maxHeartbeats 1000000 in
theorem to_zero (a : Addr) (cap : Nat) (w : World) : Calls Try.prog 33 #[.slice (some a) 0 cap] w fun e' w' => CopyPost 90 (some a) [] w e' w' := by
  obtain ⟨i0, hi0, hz0, hz1, hz2⟩ := info_parts info90
  have hnil := fun (W : World) (a : Option Addr) (n c : Nat) => Lib.run_eql_slice_nil (P := Try.prog) W 22 34 a n c 0 0 Try.underlying22
  go_enter Try.func33, Try.ntmps33
  go_wp2_with (at_make; refine wpList_make_full _ rfl _ _ 82 rfl 0 90 i0 _ 4 Try.underlying82 hi0 hz0 hz1 _ _ _ _ 0 rfl rfl rfl rfl ?c1 ?c2 (Nat.zero_le _) ?_)
  case c1 => omega
  case c2 => unfold maxLen; omega
  intro w1 hown hgrow
  have hrow : Row4 w1 90 w.heap.size 0 [] := by
    have := made_flat 0
    unfold Row4; rw [show flat [] = flat (List.replicate 0 KR.zero) from rfl, ← this]; exact hown
  have hbel : Below w.heap.size w w1 := (Below.refl _ w).grown hgrow (Nat.le_refl _) (fun k hk => by cases hk)
  have HR := hide hrow
  have HB := hide hbel
  clear hown hgrow hrow hbel
  go_wp2
  refine wp_loop_rounds 1 ?_
  rw [rounds_succ]
  go_wp2
  go_ret
  exact ⟨HB.out, Or.inr ⟨w.heap.size, Nat.le_refl _, rfl, HR.out⟩⟩

set_option maxHeartbeats 1000000 in
theorem to_walk (b off cap : Nat) (l : List KR) (w : World) (hb : b < w.heap.size) (hv : View w b off l) (hn : l.length ≤ 4096) :
    Calls Try.prog 33 #[.slice (some ⟨b, off, none⟩) l.length cap] w fun e' w' => CopyPost 90 (some ⟨b, off, none⟩) l w e' w' := by
  obtain ⟨i0, hi0, hz0, hz1, hz2⟩ := info_parts info90
  have HV := hide hv
  clear hv
  obtain ⟨n, hnl⟩ : ∃ n, n = l.length := ⟨_, rfl⟩
  have HN := hide hnl
  rw [← hnl]
  rw [← hnl] at hn
  clear hnl
  have hnil := fun (W : World) (a : Option Addr) (n c : Nat) => Lib.run_eql_slice_nil (P := Try.prog) W 22 34 a n c 0 0 Try.underlying22
  go_enter Try.func33, Try.ntmps33
  go_wp2_with (at_make; refine wpList_make_full _ rfl _ _ 82 rfl 0 90 i0 _ 4 Try.underlying82 hi0 hz0 hz1 _ _ _ _ n rfl rfl rfl rfl ?c1 ?c2 (Nat.zero_le _) ?_)
  case c1 => rw [hz2]; omega
  case c2 => unfold maxLen; omega
  intro w1 hown hgrow
  have hrow : Row4 w1 90 w.heap.size n (fill l 0) := by
    unfold Row4
    rw [fill_zero, ← HN.out, ← made_flat, List.length_replicate]; exact hown
  have hbel : Below w.heap.size w w1 := (Below.refl _ w).grown hgrow (Nat.le_refl _) (fun k hk => by cases hk)
  have HR := hide hrow
  have HB := hide hbel
  clear hown hgrow hrow hbel
  go_wp2
  go_loopw [4] (fun i wr => ∃ j : Nat, j ≤ n ∧ i = .int .i64 j ∧ Hid (Row4 wr 90 w.heap.size n (fill l j)) ∧ Hid (Below w.heap.size w wr)) (fun i _ => n - (intOf i).toNat)
  case atStart => exact ⟨0, Nat.zero_le _, rfl, HR, HB⟩
  case round =>
    obtain ⟨j, hj, rfl, HRr, HBr⟩ := hrel
    clear HR HB
    by_cases hlt : j < n
    · have hlt' : j < l.length := by rw [← HN.out]; exact hlt
      have hv := HV.out.below HBr.out hb
      have c0 := hv.c0 j hlt'
      have c1 := hv.c1 j hlt'
      have c2 := hv.c2 j hlt'
      have c3 := hv.c3 j hlt'
      clear hv
      obtain ⟨x, hx⟩ : ∃ x, x = l[j] := ⟨_, rfl⟩
      rw [← hx] at c0 c1 c2 c3
      have HX := hide hx
      clear hx
      go_wp2_with fail
      refine (to_one x.s x.e x.th x.op _).mono ?_
      rintro e' w2 ⟨rfl, hb2⟩
      clear c0 c1 c2 c3
      have hrow := HRr.out.below hb2 HRr.out.lt
      have hfl : j < (fill l j).length := by rw [fill_length l j (by omega)]; exact hlt'
      have q0 := hrow.at0 j hfl
      have q1 := hrow.at1 j hfl
      have q2 := hrow.at2 j hfl
      have q3 := hrow.at3 j hfl
      have qf := hrow.frozen
      generalize (fill l j)[j] = y at q0 q1 q2 q3
      have HR2 : Hid (Row4 ((((w2.setCell ⟨w.heap.size, j * 4, none⟩ (.string x.s)).setCell ⟨w.heap.size, j * 4 + 1, none⟩ (.string x.e)).setCell ⟨w.heap.size, j * 4 + 2, none⟩ (.bool x.th)).setCell ⟨w.heap.size, j * 4 + 3, none⟩ (.bool x.op)) 90 w.heap.size n (fill l (j + 1))) := by
        have := hrow.set j hfl x
        rw [HX.out, fill_succ l j hlt', ← HX.out] at this
        exact this
      have HB2 : Hid (Below w.heap.size w w2) := HBr.out.trans (hb2.mono HBr.out.size)
      clear hrow hb2 hfl
      go_wp2
      go_roundw
      case rel => exact ⟨j + 1, by omega, by go_num, HR2, (((HB2.out.setCell (Nat.le_refl _) _).setCell (Nat.le_refl _) _).setCell (Nat.le_refl _) _).setCell (Nat.le_refl _) _⟩
      case measure => simp [intOf]; omega
    · obtain rfl : n = j := by omega
      go_wp2
      go_ret
      refine ⟨HBr.out, Or.inr ⟨w.heap.size, Nat.le_refl _, ?_, ?_⟩⟩
      · rw [← HN.out]; rfl
      · have := HRr.out
        rw [HN.out, fill_all] at this
        exact this

theorem to_any (ao : Option Addr) (cap : Nat) (l : List KR) (w : World) (hS : Shows w ao l) (hn : l.length ≤ 4096) (hc : ao = none → l = [] ∧ cap = 0) :
    Calls Try.prog 33 #[.slice ao l.length cap] w fun e' w' => CopyPost 90 ao l w e' w' := by
  cases ao with
  | none =>
    obtain ⟨rfl, rfl⟩ := hc rfl
    refine (to_nil w).mono ?_
    rintro e' w' ⟨rfl, rfl⟩
    exact ⟨Below.refl _ _, Or.inl ⟨rfl, rfl⟩⟩
  | some a =>
    rcases hS with rfl | ⟨b, off, h, hb, hv⟩
    · exact to_zero a cap w
    · obtain rfl := Option.some.inj h
      exact to_walk b off cap l w hb hv hn

set_option maxHeartbeats 400000 in
theorem from_one (s e : ByteArray) (th op : Bool) (w : World) :
    Calls Try.prog 50 #[.agg #[.string s, .string e, .bool th, .bool op]] w fun e' w' => e' = .returned (.agg #[.string s, .string e, .bool th, .bool op]) ∧ Below w.heap.size w w' := by
  go_enter Try.func50, Try.ntmps50
  go_wp2
  refine bodyPost_ret (v := .agg #[.string s, .string e, .bool th, .bool op]) (by simp [results, Try.results50, go_sem]) rfl ⟨rfl, ?_⟩
  exact ((Below.refl _ _).alloc (Nat.le_refl _) _).alloc (by simp) _

set_option maxHeartbeats 400000 in
theorem from_nil (w : World) : Calls Try.prog 31 #[.slice none 0 0] w fun e' w' => e' = .returned (.slice none 0 0) ∧ w' = w := by
  have hnil := fun (W : World) (a : Option Addr) (n c : Nat) => Lib.run_eql_slice_nil (P := Try.prog) W 82 90 a n c 0 0 Try.underlying82
  go_enter Try.func31, Try.ntmps31
  go_wp2
  go_ret
  exact ⟨rfl, rfl⟩

set_option maxHeartbeats 1000000 in
theorem from_zero (a : Addr) (cap : Nat) (w : World) : Calls Try.prog 31 #[.slice (some a) 0 cap] w fun e' w' => CopyPost 34 (some a) [] w e' w' := by
  obtain ⟨i0, hi0, hz0, hz1, hz2⟩ := info_parts info34
  have hnil := fun (W : World) (a : Option Addr) (n c : Nat) => Lib.run_eql_slice_nil (P := Try.prog) W 82 90 a n c 0 0 Try.underlying82
  go_enter Try.func31, Try.ntmps31
  go_wp2_with (at_make; refine wpList_make_full _ rfl _ _ 22 rfl 0 34 i0 _ 4 Try.underlying22 hi0 hz0 hz1 _ _ _ _ 0 rfl rfl rfl rfl ?c1 ?c2 (Nat.zero_le _) ?_)
  case c1 => omega
  case c2 => unfold maxLen; omega
  intro w1 hown hgrow
  have hrow : Row4 w1 34 w.heap.size 0 [] := by
    have := made_flat 0
    unfold Row4; rw [show flat [] = flat (List.replicate 0 KR.zero) from rfl, ← this]; exact hown
  have hbel : Below w.heap.size w w1 := (Below.refl _ w).grown hgrow (Nat.le_refl _) (fun k hk => by cases hk)
  have HR := hide hrow
  have HB := hide hbel
  clear hown hgrow hrow hbel
  go_wp2
  refine wp_loop_rounds 1 ?_
  rw [rounds_succ]
  go_wp2
  go_ret
  exact ⟨HB.out, Or.inr ⟨w.heap.size, Nat.le_refl _, rfl, HR.out⟩⟩

set_option maxHeartbeats 1000000 in
theorem from_walk (b off cap : Nat) (l : List KR) (w : World) (hb : b < w.heap.size) (hv : View w b off l) (hn : l.length ≤ 4096) :
    Calls Try.prog 31 #[.slice (some ⟨b, off, none⟩) l.length cap] w fun e' w' => CopyPost 34 (some ⟨b, off, none⟩) l w e' w' := by
  obtain ⟨i0, hi0, hz0, hz1, hz2⟩ := info_parts info34
  have HV := hide hv
  clear hv
  obtain ⟨n, hnl⟩ : ∃ n, n = l.length := ⟨_, rfl⟩
  have HN := hide hnl
  rw [← hnl]
  rw [← hnl] at hn
  clear hnl
  have hnil := fun (W : World) (a : Option Addr) (n c : Nat) => Lib.run_eql_slice_nil (P := Try.prog) W 82 90 a n c 0 0 Try.underlying82
  go_enter Try.func31, Try.ntmps31
  go_wp2_with (at_make; refine wpList_make_full _ rfl _ _ 22 rfl 0 34 i0 _ 4 Try.underlying22 hi0 hz0 hz1 _ _ _ _ n rfl rfl rfl rfl ?c1 ?c2 (Nat.zero_le _) ?_)
  case c1 => rw [hz2]; omega
  case c2 => unfold maxLen; omega
  intro w1 hown hgrow
  have hrow : Row4 w1 34 w.heap.size n (fill l 0) := by
    unfold Row4
    rw [fill_zero, ← HN.out, ← made_flat, List.length_replicate]; exact hown
  have hbel : Below w.heap.size w w1 := (Below.refl _ w).grown hgrow (Nat.le_refl _) (fun k hk => by cases hk)
  have HR := hide hrow
  have HB := hide hbel
  clear hown hgrow hrow hbel
  go_wp2
  go_loopw [4] (fun i wr => ∃ j : Nat, j ≤ n ∧ i = .int .i64 j ∧ Hid (Row4 wr 34 w.heap.size n (fill l j)) ∧ Hid (Below w.heap.size w wr)) (fun i _ => n - (intOf i).toNat)
  case atStart => exact ⟨0, Nat.zero_le _, rfl, HR, HB⟩
  case round =>
    obtain ⟨j, hj, rfl, HRr, HBr⟩ := hrel
    clear HR HB
    by_cases hlt : j < n
    · have hlt' : j < l.length := by rw [← HN.out]; exact hlt
      have hv := HV.out.below HBr.out hb
      have c0 := hv.c0 j hlt'
      have c1 := hv.c1 j hlt'
      have c2 := hv.c2 j hlt'
      have c3 := hv.c3 j hlt'
      clear hv
      obtain ⟨x, hx⟩ : ∃ x, x = l[j] := ⟨_, rfl⟩
      rw [← hx] at c0 c1 c2 c3
      have HX := hide hx
      clear hx
      go_wp2_with fail
      refine (from_one x.s x.e x.th x.op _).mono ?_
      rintro e' w2 ⟨rfl, hb2⟩
      clear c0 c1 c2 c3
      have hrow := HRr.out.below hb2 HRr.out.lt
      have hfl : j < (fill l j).length := by rw [fill_length l j (by omega)]; exact hlt'
      have q0 := hrow.at0 j hfl
      have q1 := hrow.at1 j hfl
      have q2 := hrow.at2 j hfl
      have q3 := hrow.at3 j hfl
      have qf := hrow.frozen
      generalize (fill l j)[j] = y at q0 q1 q2 q3
      have HR2 : Hid (Row4 ((((w2.setCell ⟨w.heap.size, j * 4, none⟩ (.string x.s)).setCell ⟨w.heap.size, j * 4 + 1, none⟩ (.string x.e)).setCell ⟨w.heap.size, j * 4 + 2, none⟩ (.bool x.th)).setCell ⟨w.heap.size, j * 4 + 3, none⟩ (.bool x.op)) 34 w.heap.size n (fill l (j + 1))) := by
        have := hrow.set j hfl x
        rw [HX.out, fill_succ l j hlt', ← HX.out] at this
        exact this
      have HB2 : Hid (Below w.heap.size w w2) := HBr.out.trans (hb2.mono HBr.out.size)
      clear hrow hb2 hfl
      go_wp2
      go_roundw
      case rel => exact ⟨j + 1, by omega, by go_num, HR2, (((HB2.out.setCell (Nat.le_refl _) _).setCell (Nat.le_refl _) _).setCell (Nat.le_refl _) _).setCell (Nat.le_refl _) _⟩
      case measure => simp [intOf]; omega
    · obtain rfl : n = j := by omega
      go_wp2
      go_ret
      refine ⟨HBr.out, Or.inr ⟨w.heap.size, Nat.le_refl _, ?_, ?_⟩⟩
      · rw [← HN.out]; rfl
      · have := HRr.out
        rw [HN.out, fill_all] at this
        exact this

theorem from_any (ao : Option Addr) (cap : Nat) (l : List KR) (w : World) (hS : Shows w ao l) (hn : l.length ≤ 4096) (hc : ao = none → l = [] ∧ cap = 0) :
    Calls Try.prog 31 #[.slice ao l.length cap] w fun e' w' => CopyPost 34 ao l w e' w' := by
  cases ao with
  | none =>
    obtain ⟨rfl, rfl⟩ := hc rfl
    refine (from_nil w).mono ?_
    rintro e' w' ⟨rfl, rfl⟩
    exact ⟨Below.refl _ _, Or.inl ⟨rfl, rfl⟩⟩
  | some a =>
    rcases hS with rfl | ⟨b, off, h, hb, hv⟩
    · exact from_zero a cap w
    · obtain rfl := Option.some.inj h
      exact from_walk b off cap l w hb hv hn
end Go.Proofs.Qxb6002608a
