/-
  The walks that only read: zzInRange, zzInUnion, zzAgreeAt, zzAgreeNear, zzAgreeOn, zzSameUnion.
-/
import Derived.Test.Qxb6002608aRows
import Derived.Test.Qxb6002608aPlain
import Derived.WalkKit
import Derived.WalkSpells
import Derived.WalkLawsBesides
import Derived.Deep.QuietTactic
import Derived.BigQuiet
namespace Go.Proofs.Qxb6002608a
open Go.RowKit

theorem hide {p : Prop} (h : p) : Hid p := h
theorem ret_bool {a b : Bool} (h : a = b) : Ending.returned (.bool a) = .returned (.bool b) := by rw [h]
def KR.val (x : KR) : Value := .agg #[.string x.s, .string x.e, .bool x.th, .bool x.op]

/-- a slice value that shows the ranges l -/
structure View (w : World) (b off : Nat) (l : List KR) : Prop where
  c0 : ∀ i (h : i < l.length), w.cell? ⟨b, off + i * 4, none⟩ = some (.string l[i].s)
  c1 : ∀ i (h : i < l.length), w.cell? ⟨b, off + i * 4 + 1, none⟩ = some (.string l[i].e)
  c2 : ∀ i (h : i < l.length), w.cell? ⟨b, off + i * 4 + 2, none⟩ = some (.bool l[i].th)
  c3 : ∀ i (h : i < l.length), w.cell? ⟨b, off + i * 4 + 3, none⟩ = some (.bool l[i].op)
theorem View.below {w w' : World} {b off B : Nat} {l : List KR} (h : View w b off l) (hb : Below B w w') (hg : b < B) : View w' b off l where
  c0 i hi := by rw [hb.cell (by exact hg)]; exact h.c0 i hi
  c1 i hi := by rw [hb.cell (by exact hg)]; exact h.c1 i hi
  c2 i hi := by rw [hb.cell (by exact hg)]; exact h.c2 i hi
  c3 i hi := by rw [hb.cell (by exact hg)]; exact h.c3 i hi

set_option maxHeartbeats 400000 in
theorem inRange_walk (s e k : ByteArray) (th op : Bool) (w : World) :
    Calls Try.prog 40 #[.agg #[.string s, .string e, .bool th, .bool op], .string k] w fun e' w' => e' = .returned (.bool (inR ⟨s, e, th, op⟩ k)) ∧ Below w.heap.size w w' := by
  cases h1 : Op.bytesLess k.toList s.toList with
  | true =>
    have hr : inR ⟨s, e, th, op⟩ k = false := by simp [inR, lss, h1]
    rw [hr]
    clear hr
    go_enter Try.func40, Try.ntmps40
    go_wp2
    go_ret
    exact ⟨rfl, (Below.refl _ _).alloc (Nat.le_refl _) _⟩
  | false =>
    cases op with
    | true =>
      have hr : inR ⟨s, e, th, true⟩ k = true := by simp [inR, lss, h1]
      rw [hr]
      clear hr
      go_enter Try.func40, Try.ntmps40
      go_wp2
      go_ret
      exact ⟨rfl, (Below.refl _ _).alloc (Nat.le_refl _) _⟩
    | false =>
      cases th with
      | true =>
        have hr : inR ⟨s, e, true, false⟩ k = (Op.bytesLess k.toList e.toList || k.toList == e.toList) := by simp [inR, lss, eqk, h1]
        rw [hr]
        clear hr
        go_enter Try.func40, Try.ntmps40
        go_wp2
        go_ret
        exact ⟨rfl, (Below.refl _ _).alloc (Nat.le_refl _) _⟩
      | false =>
        have hr : inR ⟨s, e, false, false⟩ k = Op.bytesLess k.toList e.toList := by simp [inR, lss, h1]
        rw [hr]
        clear hr
        go_enter Try.func40, Try.ntmps40
        go_wp2
        go_ret
        exact ⟨rfl, (Below.refl _ _).alloc (Nat.le_refl _) _⟩

def Shows (w : World) (ao : Option Addr) (l : List KR) : Prop := l = [] ∨ ∃ b off, ao = some ⟨b, off, none⟩ ∧ b < w.heap.size ∧ View w b off l
theorem Shows.below {w w' : World} {ao : Option Addr} {l : List KR} (h : Shows w ao l) (hb : Below w.heap.size w w') : Shows w' ao l := by
  rcases h with h | ⟨b, off, h1, h2, h3⟩
  · exact Or.inl h
  · exact Or.inr ⟨b, off, h1, by have := hb.size; omega, h3.below hb h2⟩

theorem inU_take_succ (l : List KR) (j : Nat) (h : j < l.length) (k : ByteArray) : inU (l.take (j + 1)) k = (inU (l.take j) k || inR l[j] k) := by
  rw [List.take_succ_eq_append_getElem h, inU_append, inU_one]
theorem inU_of_at (l : List KR) (j : Nat) (h : j < l.length) (k : ByteArray) (hr : inR l[j] k = true) : inU l k = true := by
  simp only [inU, List.any_eq_true]
  exact ⟨l[j], List.getElem_mem h, hr⟩

set_option maxHeartbeats 400000 in
theorem inUnion_empty (ao : Option Addr) (cap : Nat) (k : ByteArray) (w : World) :
    Calls Try.prog 14 #[.slice ao 0 cap, .string k] w fun e' w' => e' = .returned (.bool false) ∧ Below w.heap.size w w' := by
  go_enter Try.func14, Try.ntmps14
  go_wp2
  refine wp_loop_rounds 1 ?_
  rw [rounds_succ]
  go_wp2
  go_ret
  exact ⟨rfl, Below.refl _ _⟩

def BoolPost (v : Bool) (w : World) (e : Ending) (w' : World) : Prop := e = .returned (.bool v) ∧ Below w.heap.size w w'

set_option maxHeartbeats 1000000 in
theorem inUnion_walk (b off cap : Nat) (l : List KR) (k : ByteArray) (w : World) (hb : b < w.heap.size) (hv : View w b off l) (hn : l.length ≤ 4096) :
    Calls Try.prog 14 #[.slice (some ⟨b, off, none⟩) l.length cap, .string k] w fun e' w' => BoolPost (inU l k) w e' w' := by
  have HV := hide hv
  clear hv
  obtain ⟨n, hnl⟩ : ∃ n, n = l.length := ⟨_, rfl⟩
  have HN := hide hnl
  rw [← hnl]
  rw [← hnl] at hn
  clear hnl
  go_enter Try.func14, Try.ntmps14
  go_wp2
  go_loopw [5] (fun i wr => ∃ j : Nat, j ≤ n ∧ i = .int .i64 j ∧ Hid (inU (l.take j) k = false) ∧ Hid (Below w.heap.size w wr)) (fun i _ => n - (intOf i).toNat)
  case atStart => exact ⟨0, Nat.zero_le _, rfl, rfl, Below.refl _ _⟩
  case round =>
    obtain ⟨j, hj, rfl, HU, HB⟩ := hrel
    by_cases hlt : j < n
    · have hlt' : j < l.length := by rw [← HN.out]; exact hlt
      have hv := HV.out.below HB.out hb
      have c0 := hv.c0 j hlt'
      have c1 := hv.c1 j hlt'
      have c2 := hv.c2 j hlt'
      have c3 := hv.c3 j hlt'
      clear hv
      obtain ⟨x, hx⟩ : ∃ x, x = l[j] := ⟨_, rfl⟩
      rw [← hx] at c0 c1 c2 c3
      have HX := hide hx
      clear hx
      go_wp2_with fail
      refine (inRange_walk x.s x.e k x.th x.op _).mono ?_
      rintro e' w1 ⟨rfl, hb1⟩
      have HB1 : Hid (Below w.heap.size w w1) := HB.out.trans (hb1.mono HB.out.size)
      clear hb1 c0 c1 c2 c3
      cases hr : inR ⟨x.s, x.e, x.th, x.op⟩ k with
      | true =>
        have hfin : inU l k = true := inU_of_at l j hlt' k (by rw [← HX.out]; exact hr)
        clear hr
        go_wp2
        go_ret
        exact ⟨ret_bool hfin.symm, HB1.out⟩
      | false =>
        have HU1 : Hid (inU (l.take (j + 1)) k = false) := by
          show inU (l.take (j + 1)) k = false
          rw [inU_take_succ l j hlt', HU.out, ← HX.out]; exact hr
        clear hr
        go_wp2
        go_roundw
        case rel => exact ⟨j + 1, by omega, by go_num, HU1, HB1⟩
        case measure => simp [intOf]; omega
    · obtain rfl : n = j := by omega
      go_wp2
      go_ret
      refine ⟨ret_bool ?_, HB.out⟩
      have := HU.out
      rw [HN.out, List.take_length] at this
      exact this.symm

theorem inUnion_any (ao : Option Addr) (cap : Nat) (l : List KR) (k : ByteArray) (w : World) (hS : Shows w ao l) (hn : l.length ≤ 4096) :
    Calls Try.prog 14 #[.slice ao l.length cap, .string k] w fun e' w' => e' = .returned (.bool (inU l k)) ∧ Below w.heap.size w w' := by
  rcases hS with rfl | ⟨b, off, rfl, hb, hv⟩
  · exact inUnion_empty ao cap k w
  · exact inUnion_walk b off cap l k w hb hv hn

set_option maxHeartbeats 400000 in
theorem agreeAt_any (ao bo : Option Addr) (ca cb : Nat) (la lb : List KR) (k : ByteArray) (w : World) (hA : Shows w ao la) (hB : Shows w bo lb) (na : la.length ≤ 4096) (nb : lb.length ≤ 4096) (same : inU la k = inU lb k) :
    Calls Try.prog 34 #[.slice ao la.length ca, .slice bo lb.length cb, .string k] w fun e' w' => BoolPost true w e' w' := by
  have HA := hide hA
  have HB := hide hB
  have HS := hide same
  clear hA hB same
  go_enter Try.func34, Try.ntmps34
  go_wp2_with fail
  refine (inUnion_any ao ca la k w HA.out na).mono ?_
  rintro e' w1 ⟨rfl, hb1⟩
  have HB1 := hide hb1
  clear hb1
  go_wp2_with fail
  refine (inUnion_any bo cb lb k w1 (HB.out.below HB1.out) nb).mono ?_
  rintro e' w2 ⟨rfl, hb2⟩
  rw [HS.out]
  generalize inU lb k = v
  go_wp2
  go_ret
  exact ⟨by simp, HB1.out.trans (hb2.mono HB1.out.size)⟩
end Go.Proofs.Qxb6002608a
