/-
  zzSortedByStart and zzApart at a list whose neighbours fit: true. zzOut2: what it lets by.
-/
import Derived.Test.Qxb6002608aSame
namespace Go.Proofs.Qxb6002608a
open Go.RowKit

theorem fits_at {l : List KR} (h : Good l) (i : Nat) (hi : i + 1 < l.length) : Fits l[i] l[i + 1] :=
  h.at i l[i] l[i + 1] (List.getElem?_eq_getElem _) (List.getElem?_eq_getElem _)

set_option maxHeartbeats 400000 in
theorem sorted_empty (ao : Option Addr) (cap : Nat) (w : World) : Calls Try.prog 8 #[.slice ao 0 cap] w fun e' w' => BoolPost true w e' w' := by
  go_enter Try.func8, Try.ntmps8
  go_wp2
  refine wp_loop_rounds 1 ?_
  rw [rounds_succ]
  go_wp2
  go_ret
  exact ⟨rfl, Below.refl _ _⟩

set_option maxHeartbeats 1000000 in
theorem sorted_walk (b off cap : Nat) (l : List KR) (w : World) (hb : b < w.heap.size) (hv : View w b off l) (hn : l.length ≤ 4096) (hg : Good l) :
    Calls Try.prog 8 #[.slice (some ⟨b, off, none⟩) l.length cap] w fun e' w' => BoolPost true w e' w' := by
  have HV := hide hv
  have HG := hide hg
  clear hv hg
  obtain ⟨n, hnl⟩ : ∃ n, n = l.length := ⟨_, rfl⟩
  have HN := hide hnl
  rw [← hnl]
  rw [← hnl] at hn
  clear hnl
  go_enter Try.func8, Try.ntmps8
  go_wp2
  go_loopw [3] (fun i wr => ∃ j : Nat, j ≤ n ∧ i = .int .i64 ((j : Int) + 1) ∧ Hid (Below w.heap.size w wr)) (fun i _ => n + 1 - (intOf i).toNat)
  case atStart => exact ⟨0, Nat.zero_le _, rfl, Below.refl _ _⟩
  case round =>
    obtain ⟨j, hj, rfl, HB⟩ := hrel
    by_cases hlt : j + 1 < n
    · have hlt' : j + 1 < l.length := by rw [← HN.out]; exact hlt
      have hv := HV.out.below HB.out hb
      have c0 := hv.c0 j (by omega)
      have c1 := hv.c0 (j + 1) hlt'
      have hf := (fits_at HG.out j hlt').1
      clear hv
      generalize l[j] = x at *
      generalize l[j + 1] = y at *
      unfold lss at hf
      have i1 : (j : Int) + 1 < (n : Int) := by omega
      have i2 : (j : Int) < (n : Int) := by omega
      have i3 : ((j : Int) + 1).toNat = j + 1 := by omega
      go_wp2
      go_quiet (fail)
      go_wp2
      go_roundw
      case rel => exact ⟨j + 1, by omega, by go_num, below_drewN HB.out _⟩
      case measure => simp [intOf]; omega
    · go_wp2
      go_ret
      exact ⟨rfl, HB.out⟩

set_option maxHeartbeats 400000 in
theorem apart_empty (ao : Option Addr) (cap : Nat) (w : World) : Calls Try.prog 9 #[.slice ao 0 cap] w fun e' w' => BoolPost true w e' w' := by
  go_enter Try.func9, Try.ntmps9
  go_wp2
  refine wp_loop_rounds 1 ?_
  rw [rounds_succ]
  go_wp2
  go_ret
  exact ⟨rfl, Below.refl _ _⟩

set_option maxHeartbeats 1000000 in
theorem apart_walk (b off cap : Nat) (l : List KR) (w : World) (hb : b < w.heap.size) (hv : View w b off l) (hn : l.length ≤ 4096) (hg : Good l) :
    Calls Try.prog 9 #[.slice (some ⟨b, off, none⟩) l.length cap] w fun e' w' => BoolPost true w e' w' := by
  have HV := hide hv
  have HG := hide hg
  clear hv hg
  obtain ⟨n, hnl⟩ : ∃ n, n = l.length := ⟨_, rfl⟩
  have HN := hide hnl
  rw [← hnl]
  rw [← hnl] at hn
  clear hnl
  go_enter Try.func9, Try.ntmps9
  go_wp2
  go_loopw [3] (fun i wr => ∃ j : Nat, j ≤ n ∧ i = .int .i64 ((j : Int) + 1) ∧ Hid (Below w.heap.size w wr)) (fun i _ => n + 1 - (intOf i).toNat)
  case atStart => exact ⟨0, Nat.zero_le _, rfl, Below.refl _ _⟩
  case round =>
    obtain ⟨j, hj, rfl, HB⟩ := hrel
    by_cases hlt : j + 1 < n
    · have hlt' : j + 1 < l.length := by rw [← HN.out]; exact hlt
      have hv := HV.out.below HB.out hb
      have c0 := hv.c0 j (by omega)
      have c1 := hv.c1 j (by omega)
      have c2 := hv.c2 j (by omega)
      have c3 := hv.c3 j (by omega)
      have hbr : b < wr.heap.size := by have := HB.out.size; omega
      have d0 : ∀ o, (wr.alloc o).cell? ⟨b, off + (j + 1) * 4, none⟩ = some (.string l[j + 1].s) := fun o => by
        rw [((Below.refl _ wr).alloc (Nat.le_refl _) o).cell (by exact hbr)]; exact hv.c0 (j + 1) hlt'
      have hf := (fits_at HG.out j hlt').2
      clear hv
      generalize l[j] = x at *
      generalize l[j + 1] = y at *
      obtain ⟨ho, hp⟩ := hf
      rw [ho] at c3
      simp only [lss, eqk, Bool.or_eq_false_iff] at hp
      obtain ⟨hp1, hp2⟩ := hp
      clear ho
      have i1 : (j : Int) + 1 < (n : Int) := by omega
      have i2 : (j : Int) < (n : Int) := by omega
      have i3 : ((j : Int) + 1).toNat = j + 1 := by omega
      go_wp2
      go_quiet (fail)
      go_wp2
      go_roundw
      case rel => exact ⟨j + 1, by omega, by go_num, below_drewN (HB.out.alloc HB.out.size _) _⟩
      case measure => simp [intOf]; omega
    · go_wp2
      go_ret
      exact ⟨rfl, HB.out⟩

theorem sorted_any (ao : Option Addr) (cap : Nat) (l : List KR) (w : World) (hS : Shows w ao l) (hn : l.length ≤ 4096) (hg : Good l) : Calls Try.prog 8 #[.slice ao l.length cap] w fun e' w' => BoolPost true w e' w' := by
  rcases hS with rfl | ⟨b, off, rfl, hb, hv⟩
  · exact sorted_empty ao cap w
  · exact sorted_walk b off cap l w hb hv hn hg
theorem apart_any (ao : Option Addr) (cap : Nat) (l : List KR) (w : World) (hS : Shows w ao l) (hn : l.length ≤ 4096) (hg : Good l) : Calls Try.prog 9 #[.slice ao l.length cap] w fun e' w' => BoolPost true w e' w' := by
  rcases hS with rfl | ⟨b, off, rfl, hb, hv⟩
  · exact apart_empty ao cap w
  · exact apart_walk b off cap l w hb hv hn hg
end Go.Proofs.Qxb6002608a
