/-
  zzKeyOK, zzRangeOK, zzOut2: where zzOut2 answers false the list and its keys are short.
-/
import Derived.Test.Qxb6002608aOrd
namespace Go.Proofs.Qxb6002608a
open Go.RowKit

def Short (x : KR) : Prop := x.s.size ≤ 4096 ∧ x.e.size ≤ 4096

set_option maxHeartbeats 400000 in
theorem rangeOK_yes (s e : ByteArray) (th op : Bool) (w : World) (h1 : s.size ≤ 4096) (h2 : e.size ≤ 4096) :
    Calls Try.prog 30 #[.agg #[.string s, .string e, .bool th, .bool op]] w fun e' w' => BoolPost true w e' w' := by
  go_enter Try.func30, Try.ntmps30
  go_wp2
  go_ret
  exact ⟨by simp; omega, (Below.refl _ _).alloc (Nat.le_refl _) _⟩

set_option maxHeartbeats 400000 in
theorem rangeOK_no (s e : ByteArray) (th op : Bool) (w : World) (h : ¬ (s.size ≤ 4096 ∧ e.size ≤ 4096)) :
    Calls Try.prog 30 #[.agg #[.string s, .string e, .bool th, .bool op]] w fun e' w' => BoolPost false w e' w' := by
  by_cases h1 : s.size ≤ 4096
  · have h2 : ¬ e.size ≤ 4096 := fun h2 => h ⟨h1, h2⟩
    clear h
    go_enter Try.func30, Try.ntmps30
    go_wp2
    go_ret
    exact ⟨by simp; omega, (Below.refl _ _).alloc (Nat.le_refl _) _⟩
  · clear h
    go_enter Try.func30, Try.ntmps30
    go_wp2
    go_ret
    exact ⟨by simp, (Below.refl _ _).alloc (Nat.le_refl _) _⟩

def OutPost (l : List KR) (w : World) (e : Ending) (w' : World) : Prop := ∃ r : Bool, e = .returned (.bool r) ∧ (r = false → l.length ≤ 4096 ∧ ∀ x ∈ l, Short x) ∧ Below w.heap.size w w'

set_option maxHeartbeats 400000 in
theorem out2_big (ao : Option Addr) (n cap : Nat) (w : World) (h : 4096 < n) :
    Calls Try.prog 6 #[.slice ao n cap] w fun e' w' => BoolPost true w e' w' := by
  go_enter Try.func6, Try.ntmps6
  go_wp2
  go_ret
  exact ⟨rfl, Below.refl _ _⟩

set_option maxHeartbeats 400000 in
theorem out2_empty (ao : Option Addr) (cap : Nat) (w : World) :
    Calls Try.prog 6 #[.slice ao 0 cap] w fun e' w' => BoolPost false w e' w' := by
  go_enter Try.func6, Try.ntmps6
  go_wp2
  refine wp_loop_rounds 1 ?_
  rw [rounds_succ]
  go_wp2
  go_ret
  exact ⟨rfl, Below.refl _ _⟩

set_option maxHeartbeats 1000000 in
theorem out2_walk (b off cap : Nat) (l : List KR) (w : World) (hb : b < w.heap.size) (hv : View w b off l) (hn : l.length ≤ 4096) :
    Calls Try.prog 6 #[.slice (some ⟨b, off, none⟩) l.length cap] w fun e' w' => OutPost l w e' w' := by
  have HV := hide hv
  clear hv
  obtain ⟨n, hnl⟩ : ∃ n, n = l.length := ⟨_, rfl⟩
  have HN := hide hnl
  rw [← hnl]
  rw [← hnl] at hn
  clear hnl
  go_enter Try.func6, Try.ntmps6
  go_wp2
  go_loopw [3] (fun i wr => ∃ j : Nat, j ≤ n ∧ i = .int .i64 j ∧ Hid (∀ t (h : t < l.length), t < j → Short l[t]) ∧ Hid (Below w.heap.size w wr)) (fun i _ => n - (intOf i).toNat)
  case atStart => exact ⟨0, Nat.zero_le _, rfl, fun t _ h => by omega, Below.refl _ _⟩
  case round =>
    obtain ⟨j, hj, rfl, HS, HB⟩ := hrel
    by_cases hlt : j < n
    · have hlt' : j < l.length := by rw [← HN.out]; exact hlt
      have hv := HV.out.below HB.out hb
      have c0 := hv.c0 j hlt'
      have c1 := hv.c1 j hlt'
      have c2 := hv.c2 j hlt'
      have c3 := hv.c3 j hlt'
      clear hv
      obtain ⟨x, hx⟩ : ∃ x, x = l[j] := ⟨_, rfl⟩
      rw [← hx] at c0 c1 c2 c3
      have HX := hide hx
      clear hx
      by_cases hok : x.s.size ≤ 4096 ∧ x.e.size ≤ 4096
      · have HOK : Hid (Short x) := hok
        obtain ⟨ok1, ok2⟩ := hok
        go_wp2_with fail
        refine (rangeOK_yes x.s x.e x.th x.op _ ok1 ok2).mono ?_
        rintro e' w1 ⟨rfl, hb1⟩
        have HB1 : Hid (Below w.heap.size w w1) := HB.out.trans (hb1.mono HB.out.size)
        clear hb1 c0 c1 c2 c3
        go_wp2
        go_roundw
        case rel => exact ⟨j + 1, by omega, by go_num, fun t ht h => by
          by_cases e : t = j
          · subst e; rw [← HX.out]; exact HOK.out
          · exact HS.out t ht (by omega), HB1⟩
        case measure => simp [intOf]; omega
      · have HNO := hide hok
        clear hok
        go_wp2_with fail
        refine (rangeOK_no x.s x.e x.th x.op _ HNO.out).mono ?_
        rintro e' w1 ⟨rfl, hb1⟩
        have HB1 : Hid (Below w.heap.size w w1) := HB.out.trans (hb1.mono HB.out.size)
        clear hb1 c0 c1 c2 c3
        go_wp2
        go_ret
        exact ⟨true, rfl, (fun h => by cases h), HB1.out⟩
    · obtain rfl : n = j := by omega
      go_wp2
      go_ret
      refine ⟨false, rfl, fun _ => ⟨by rw [← HN.out]; exact hn, fun x hx => ?_⟩, HB.out⟩
      obtain ⟨t, ht, rfl⟩ := List.mem_iff_getElem.1 hx
      exact HS.out t ht (by rw [HN.out]; exact ht)

theorem out2_any (ao : Option Addr) (cap : Nat) (l : List KR) (w : World) (hS : Shows w ao l) :
    Calls Try.prog 6 #[.slice ao l.length cap] w fun e' w' => OutPost l w e' w' := by
  rcases hS with rfl | ⟨b, off, rfl, hb, hv⟩
  · refine (out2_empty ao cap w).mono fun e' w' h => ⟨false, h.1, fun _ => ⟨Nat.zero_le _, fun x hx => by cases hx⟩, h.2⟩
  · by_cases hn : l.length ≤ 4096
    · exact out2_walk b off cap l w hb hv hn
    · refine (out2_big _ l.length cap w (by omega)).mono fun e' w' h => ⟨true, h.1, (fun h => by cases h), h.2⟩
end Go.Proofs.Qxb6002608a
