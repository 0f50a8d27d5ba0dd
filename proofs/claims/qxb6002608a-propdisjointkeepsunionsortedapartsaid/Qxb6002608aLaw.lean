/-
  ZZDisjoint, and the law itself.
-/
import Derived.Test.Qxb6002608aDis
import Derived.Test.Qxb6002608aOrd
import Derived.Test.Qxb6002608aSame
import Derived.Test.Qxb6002608aCopy
namespace Go.Proofs.Qxb6002608a
open Go.RowKit

set_option maxHeartbeats 1000000 in
theorem dis_nil (w : World) : Calls Try.prog 32 #[.slice none 0 0] w fun e' w' => e' = .returned (.slice none 0 0) ∧ w' = w := by
  go_enter Try.func32, Try.ntmps32
  go_wp2_with fail
  go_at_call 51
  refine (sort_none none 0 w).mono ?_
  rintro e1 w1 ⟨rfl, rfl⟩
  go_wp2
  refine wp_loop_rounds 1 ?_
  rw [rounds_succ]
  go_wp2
  go_ret
  exact ⟨rfl, rfl⟩

def ZPost (l : List KR) (w : World) (e' : Ending) (w' : World) : Prop :=
  Below w.heap.size w w' ∧ ∃ (bo : Option Addr) (M : List KR) (cb : Nat), e' = .returned (.slice bo M.length cb) ∧ Shows w' bo M ∧ M.length ≤ 4096 ∧ Good M ∧ (∀ k, inU l k = inU M k) ∧ ∀ x ∈ M, Short x

set_option maxHeartbeats 1000000 in
theorem zz_nil (w : World) : Calls Try.prog 7 #[.slice none 0 0] w fun e' w' => ZPost [] w e' w' := by
  go_enter Try.func7, Try.ntmps7
  go_wp2_with fail
  go_at_call 33
  refine (to_nil w).mono ?_
  rintro e1 w1 ⟨rfl, rfl⟩
  go_wp2_with fail
  go_at_call 32
  refine (dis_nil _).mono ?_
  rintro e1 w1 ⟨rfl, rfl⟩
  go_wp2_with fail
  go_at_call 31
  refine (from_nil _).mono ?_
  rintro e1 w1 ⟨rfl, rfl⟩
  go_wp2
  go_ret
  exact ⟨Below.refl _ _, none, [], 0, rfl, Or.inl rfl, Nat.zero_le _, trivial, fun _ => rfl, fun x hx => by cases hx⟩

set_option maxHeartbeats 1000000 in
theorem zz_some (a : Addr) (cap : Nat) (l : List KR) (w : World) (hS : Shows w (some a) l) (hn : l.length ≤ 4096) (hsh : ∀ x ∈ l, Short x) :
    Calls Try.prog 7 #[.slice (some a) l.length cap] w fun e' w' => ZPost l w e' w' := by
  have HS := hide hS
  have HH := hide hsh
  clear hS hsh
  go_enter Try.func7, Try.ntmps7
  go_wp2_with fail
  go_at_call 33
  refine (to_any (some a) cap l w HS.out hn (fun h => by cases h)).mono ?_
  rintro e1 w1 ⟨hb1, ⟨h, _⟩ | ⟨g, hg, rfl, hrow⟩⟩
  · cases h
  have HB1 := hide hb1
  have HR1 := hide hrow
  clear hb1 hrow
  go_wp2_with fail
  go_at_call 32
  refine (dis_walk g l.length l w1 HR1.out hn).mono ?_
  rintro e1 w2 ⟨hb2, D, hperm, hsort, rfl, hrow2⟩
  have HB2 : Hid (Below w.heap.size w w2) := HB1.out.trans (hb2.mono hg)
  have HR2 := hide hrow2
  have HP := hide hperm
  have HO := hide hsort
  clear hb2 hrow2 hperm hsort
  go_wp2_with fail
  go_at_call 31
  have hl : (mer D D.length).length ≤ 4096 := by
    have h1 := mer_length D D.length (Nat.le_refl _)
    have h2 := HP.out.length_eq
    omega
  refine (from_any (some ⟨g, 0, none⟩) l.length (mer D D.length) w2 HR2.out.shows hl (fun h => by cases h)).mono ?_
  rintro e1 w3 ⟨hb3, ⟨h, _⟩ | ⟨g3, hg3, rfl, hrow3⟩⟩
  · cases h
  have HB3 : Hid (Below w.heap.size w w3) := HB2.out.trans (hb3.mono HB2.out.size)
  have HR3 := hide hrow3
  clear hb3 hrow3
  go_wp2
  go_ret
  have hall := mer_all D HO.out
  refine ⟨HB3.out, some ⟨g3, 0, none⟩, mer D D.length, _, rfl, HR3.out.shows, hl, hall.2, fun k => ?_, ?_⟩
  · rw [hall.1 k]; exact (inU_perm HP.out k).symm
  · exact mer_keys (fun b => b.size ≤ 4096) D (fun x hx => HH.out x (HP.out.mem_iff.1 hx)) D.length (Nat.le_refl _)

theorem zz_any (ao : Option Addr) (cap : Nat) (l : List KR) (w : World) (hS : Shows w ao l) (hc : ao = none → l = [] ∧ cap = 0) (hn : l.length ≤ 4096) (hsh : ∀ x ∈ l, Short x) :
    Calls Try.prog 7 #[.slice ao l.length cap] w fun e' w' => ZPost l w e' w' := by
  cases ao with
  | none =>
    obtain ⟨rfl, rfl⟩ := hc rfl
    exact zz_nil w
  | some a => exact zz_some a cap l w hS hn hsh

set_option maxHeartbeats 1000000 in
theorem law_walk (ao : Option Addr) (cap : Nat) (l : List KR) (w : World) (hS : Shows w ao l) (hc : ao = none → l = [] ∧ cap = 0) :
    Calls Try.prog 3 #[.slice ao l.length cap] w fun e' w' => BoolPost true w e' w' := by
  have HS := hide hS
  have HC := hide hc
  clear hS hc
  go_enter Try.func3, Try.ntmps3
  go_wp2_with fail
  go_at_call 6
  refine (out2_any ao cap l w HS.out).mono ?_
  rintro e1 w1 ⟨r, rfl, hr, hb1⟩
  have HB1 := hide hb1
  clear hb1
  cases r with
  | true =>
    clear hr
    go_wp2
    go_ret
    exact ⟨rfl, HB1.out⟩
  | false =>
    obtain ⟨hn, hsh⟩ := hr rfl
    have HH := hide hsh
    clear hsh hr
    have HS1 : Hid (Shows w1 ao l) := HS.out.below HB1.out
    go_wp2_with fail
    go_at_call 7
    refine (zz_any ao cap l w1 HS1.out HC.out hn HH.out).mono ?_
    rintro e1 w2 ⟨hb2, bo, M, cb, rfl, hM, hMn, hgood, hsame, hMs⟩
    have HS2 : Hid (Shows w2 ao l) := HS1.out.below hb2
    have HB2 : Hid (Below w.heap.size w w2) := HB1.out.trans (hb2.mono HB1.out.size)
    have HM := hide hM
    have HG := hide hgood
    have HE := hide hsame
    have HMS := hide hMs
    clear hb2 hM hgood hsame hMs HS1
    go_wp2_with fail
    go_at_call 8
    refine (sorted_any bo cb M w2 HM.out hMn HG.out).mono ?_
    rintro e1 w3 ⟨rfl, hb3⟩
    have HS3 : Hid (Shows w3 ao l) := HS2.out.below hb3
    have HM3 : Hid (Shows w3 bo M) := HM.out.below hb3
    have HB3 : Hid (Below w.heap.size w w3) := HB2.out.trans (hb3.mono HB2.out.size)
    clear hb3
    go_wp2_with fail
    go_at_call 9
    refine (apart_any bo cb M w3 HM3.out hMn HG.out).mono ?_
    rintro e1 w4 ⟨rfl, hb4⟩
    have HS4 : Hid (Shows w4 ao l) := HS3.out.below hb4
    have HM4 : Hid (Shows w4 bo M) := HM3.out.below hb4
    have HB4 : Hid (Below w.heap.size w w4) := HB3.out.trans (hb4.mono HB3.out.size)
    clear hb4
    go_wp2_with fail
    go_at_call 10
    refine (sameUnion_any ao bo cap cb l M w4 ⟨HS4.out, HM4.out, hn, hMn, HE.out⟩ HH.out HMS.out).mono ?_
    rintro e1 w5 ⟨rfl, hb5⟩
    have HB5 : Hid (Below w.heap.size w w5) := HB4.out.trans (hb5.mono HB4.out.size)
    clear hb5
    go_wp2
    go_ret
    exact ⟨rfl, HB5.out⟩
end Go.Proofs.Qxb6002608a
