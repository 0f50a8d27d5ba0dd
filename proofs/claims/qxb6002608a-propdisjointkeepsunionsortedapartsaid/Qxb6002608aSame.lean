/-
  zzAgreeNear, zzAgreeOn, zzSameUnion: where two lists of ranges hold the same keys they answer true.
-/
import Derived.Test.Qxb6002608aRead
namespace Go.Proofs.Qxb6002608a
open Go.RowKit

/-- two slices that show lists which hold the same keys -/
structure Both (w : World) (ao bo : Option Addr) (la lb : List KR) : Prop where
  a : Shows w ao la
  b : Shows w bo lb
  na : la.length ≤ 4096
  nb : lb.length ≤ 4096
  same : ∀ k, inU la k = inU lb k
theorem Both.below {w w' : World} {ao bo : Option Addr} {la lb : List KR} (h : Both w ao bo la lb) (hb : Below w.heap.size w w') : Both w' ao bo la lb := ⟨h.a.below hb, h.b.below hb, h.na, h.nb, h.same⟩

set_option maxHeartbeats 400000 in
theorem agreeNear_any (ao bo : Option Addr) (ca cb : Nat) (la lb : List KR) (p : ByteArray) (w : World) (hB : Both w ao bo la lb) (hp : p.size ≤ 4096) :
    Calls Try.prog 56 #[.slice ao la.length ca, .slice bo lb.length cb, .string p] w fun e' w' => BoolPost true w e' w' := by
  have HB := hide hB
  clear hB
  go_enter Try.func56, Try.ntmps56
  go_wp2_with fail
  refine (agreeAt_any ao bo ca cb la lb p w HB.out.a HB.out.b HB.out.na HB.out.nb (HB.out.same p)).mono ?_
  rintro e' w1 ⟨rfl, hb1⟩
  have HB1 := hide hb1
  clear hb1
  go_wp2_with fail
  refine (agreeAt_any ao bo ca cb la lb _ w1 (HB.out.a.below HB1.out) (HB.out.b.below HB1.out) HB.out.na HB.out.nb (HB.out.same _)).mono ?_
  rintro e' w2 ⟨rfl, hb2⟩
  go_wp2
  go_ret
  exact ⟨rfl, HB1.out.trans (hb2.mono HB1.out.size)⟩

set_option maxHeartbeats 400000 in
theorem agreeOn_empty (ao bo po : Option Addr) (n m ca cb cp : Nat) (w : World) :
    Calls Try.prog 35 #[.slice ao n ca, .slice bo m cb, .slice po 0 cp] w fun e' w' => BoolPost true w e' w' := by
  go_enter Try.func35, Try.ntmps35
  go_wp2
  refine wp_loop_rounds 1 ?_
  rw [rounds_succ]
  go_wp2
  go_ret
  exact ⟨rfl, Below.refl _ _⟩

set_option maxHeartbeats 1000000 in
theorem agreeOn_walk (ao bo : Option Addr) (ca cb cp b off : Nat) (la lb lp : List KR) (w : World) (hB : Both w ao bo la lb) (hb : b < w.heap.size) (hv : View w b off lp) (hn : lp.length ≤ 4096) (hz : ∀ x ∈ lp, x.s.size ≤ 4096 ∧ x.e.size ≤ 4096) :
    Calls Try.prog 35 #[.slice ao la.length ca, .slice bo lb.length cb, .slice (some ⟨b, off, none⟩) lp.length cp] w fun e' w' => BoolPost true w e' w' := by
  have HB := hide hB
  have HV := hide hv
  have HZ := hide hz
  clear hB hv hz
  obtain ⟨n, hnl⟩ : ∃ n, n = lp.length := ⟨_, rfl⟩
  have HN := hide hnl
  rw [← hnl]
  rw [← hnl] at hn
  clear hnl
  go_enter Try.func35, Try.ntmps35
  go_wp2
  go_loopw [7] (fun i wr => ∃ j : Nat, j ≤ n ∧ i = .int .i64 j ∧ Hid (Below w.heap.size w wr)) (fun i _ => n - (intOf i).toNat)
  case atStart => exact ⟨0, Nat.zero_le _, rfl, Below.refl _ _⟩
  case round =>
    obtain ⟨j, hj, rfl, HBr⟩ := hrel
    by_cases hlt : j < n
    · have hlt' : j < lp.length := by rw [← HN.out]; exact hlt
      have hv := HV.out.below HBr.out hb
      have c0 := hv.c0 j hlt'
      clear hv
      have hz := HZ.out lp[j] (List.getElem_mem hlt')
      obtain ⟨x, hx⟩ : ∃ x, x = lp[j] := ⟨_, rfl⟩
      rw [← hx] at c0 hz
      have HX := hide hx
      clear hx
      obtain ⟨hz1, hz2⟩ := hz
      go_wp2_with fail
      refine (agreeNear_any ao bo ca cb la lb x.s wr (HB.out.below HBr.out) hz1).mono ?_
      rintro e' w1 ⟨rfl, hb1⟩
      have HB1 : Hid (Below w.heap.size w w1) := HBr.out.trans (hb1.mono HBr.out.size)
      clear hb1 c0
      have c1 := (HV.out.below HB1.out hb).c1 j hlt'
      rw [← HX.out] at c1
      go_wp2_with fail
      refine (agreeNear_any ao bo ca cb la lb x.e w1 (HB.out.below HB1.out) hz2).mono ?_
      rintro e' w2 ⟨rfl, hb2⟩
      have HB2 : Hid (Below w.heap.size w w2) := HB1.out.trans (hb2.mono HB1.out.size)
      clear hb2 c1
      go_wp2
      go_roundw
      case rel => exact ⟨j + 1, by omega, by go_num, HB2⟩
      case measure => simp [intOf]; omega
    · obtain rfl : n = j := by omega
      go_wp2
      go_ret
      exact ⟨rfl, HBr.out⟩

theorem agreeOn_any (ao bo po : Option Addr) (ca cb cp : Nat) (la lb lp : List KR) (w : World) (hB : Both w ao bo la lb) (hS : Shows w po lp) (hn : lp.length ≤ 4096) (hz : ∀ x ∈ lp, x.s.size ≤ 4096 ∧ x.e.size ≤ 4096) :
    Calls Try.prog 35 #[.slice ao la.length ca, .slice bo lb.length cb, .slice po lp.length cp] w fun e' w' => BoolPost true w e' w' := by
  rcases hS with rfl | ⟨b, off, rfl, hb, hv⟩
  · exact agreeOn_empty ao bo po _ _ ca cb cp w
  · exact agreeOn_walk ao bo ca cb cp b off la lb lp w hB hb hv hn hz

set_option maxHeartbeats 400000 in
theorem sameUnion_any (ao bo : Option Addr) (ca cb : Nat) (la lb : List KR) (w : World) (hB : Both w ao bo la lb) (za : ∀ x ∈ la, x.s.size ≤ 4096 ∧ x.e.size ≤ 4096) (zb : ∀ x ∈ lb, x.s.size ≤ 4096 ∧ x.e.size ≤ 4096) :
    Calls Try.prog 10 #[.slice ao la.length ca, .slice bo lb.length cb] w fun e' w' => BoolPost true w e' w' := by
  have HB := hide hB
  have HZA := hide za
  have HZB := hide zb
  clear hB za zb
  go_enter Try.func10, Try.ntmps10
  go_wp2_with fail
  refine (agreeAt_any ao bo ca cb la lb _ w HB.out.a HB.out.b HB.out.na HB.out.nb (HB.out.same _)).mono ?_
  rintro e' w1 ⟨rfl, hb1⟩
  have HB1 := hide hb1
  clear hb1
  go_wp2_with fail
  refine (agreeOn_any ao bo ao ca cb ca la lb la w1 (HB.out.below HB1.out) (HB.out.a.below HB1.out) HB.out.na HZA.out).mono ?_
  rintro e' w2 ⟨rfl, hb2⟩
  have HB2 : Hid (Below w.heap.size w w2) := HB1.out.trans (hb2.mono HB1.out.size)
  clear hb2
  go_wp2_with fail
  refine (agreeOn_any ao bo bo ca cb cb la lb lb w2 (HB.out.below HB2.out) (HB.out.b.below HB2.out) HB.out.nb HZB.out).mono ?_
  rintro e' w3 ⟨rfl, hb3⟩
  go_wp2
  go_ret
  exact ⟨rfl, HB2.out.trans (hb3.mono HB2.out.size)⟩
end Go.Proofs.Qxb6002608a
