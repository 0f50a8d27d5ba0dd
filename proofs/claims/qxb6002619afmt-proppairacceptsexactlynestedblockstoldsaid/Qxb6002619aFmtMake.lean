/-
  build: the program that the items make.
-/
import Derived.Test.Qxb6002619aFmtBuild
namespace Go.Proofs.Qxb6002619aFmt
open Go.RowKit

/-- the names lie below B -/
def NamesB (w : World) (B : Nat) (vo : Option Addr) (ns : List ByteArray) : Prop := ns = [] ∨ ∃ b off, vo = some ⟨b, off, none⟩ ∧ b < B ∧ StView w b off ns
theorem NamesB.below {w w' : World} {B B' : Nat} {vo : Option Addr} {ns : List ByteArray} (h : NamesB w B vo ns) (hb : Below B' w w') (hB : B ≤ B') : NamesB w' B vo ns := by
  rcases h with h | ⟨b, off, h1, h2, h3⟩
  · exact Or.inl h
  · exact Or.inr ⟨b, off, h1, h2, fun i hi => by rw [hb.cell (by show b < B'; omega)]; exact h3 i hi⟩
theorem ShowsN.b {w : World} {vo : Option Addr} {ns : List ByteArray} (h : ShowsN w vo ns) : NamesB w w.heap.size vo ns := h

def BuildPost (ns : List ByteArray) (l : List It) (w : World) (e' : Ending) (w' : World) : Prop :=
  Below w.heap.size w w' ∧ ∃ (pb sb : Nat) (vo : Option Addr) (c : Nat), w.heap.size ≤ pb ∧ pb < sb ∧ e' = .returned (.pointer (some ⟨pb, 0, none⟩)) ∧
    w'.heap[pb]? = some (.cells #[.slice (some ⟨sb, 0, none⟩) l.length l.length, .slice vo ns.length c, .slice none 0 0, .slice none 0 0, .int .i64 0, .slice none 0 0, .slice none 0 0] 60) ∧
    NamesB w' pb vo ns ∧ RowP w' sb l (l.map It.stm) l.length

theorem stm0 (l : List It) (j : Nat) (h : j < l.length) : (l.map It.stm).getD j Stm.none = (nth l j).stm := by
  simp [nth, List.getD_eq_getElem?_getD, h]

set_option maxRecDepth 20000 in
set_option maxHeartbeats 4000000 in
theorem build_any (na : Option Addr) (nc : Nat) (ns : List ByteArray) (ao : Option Addr) (cap : Nat) (l : List It) (w : World) (hN : ShowsN w na ns) (hns : ns.length ≤ 4096) (hS : ShowsI w ao l) (hn : l.length ≤ 4096) :
    Calls Tryf.prog 11 #[.slice na ns.length nc, .slice ao l.length cap] w fun e' w' => BuildPost ns l w e' w' := by
  obtain ⟨i0, hi0, hz0, hz1, hz2⟩ := info_parts info54
  have HS := hide hS
  have HNS := hide hN
  clear hS hN
  obtain ⟨n, hnl⟩ : ∃ n, n = l.length := ⟨_, rfl⟩
  have HN := hide hnl
  rw [← hnl]
  rw [← hnl] at hn
  clear hnl
  go_enter Tryf.func11, Tryf.ntmps11
  go_wp2_with (at_builtin; refine wpList_append_names _ rfl (.const (.slice none 0 0)) (.tmp 10) rfl rfl na nc ns rfl ?r1 hns ?_)
  case r1 => exact HNS.out
  intro vo c w1 hN1 hb1
  have HN1 := hide hN1
  have HB1 := hide hb1
  clear hN1 hb1
  go_wp2_with (at_make; refine wpList_make_full _ rfl _ _ 55 rfl 0 54 i0 _ 3 Tryf.underlying55 hi0 hz0 hz1 _ _ _ _ n rfl rfl rfl rfl ?c1 ?c2 (Nat.zero_le _) ?_)
  case c1 => rw [hz2]; omega
  case c2 => unfold maxLen; omega
  intro w2 hown hgrow
  obtain ⟨pb, hpb⟩ : ∃ pb, pb = w1.heap.size := ⟨_, rfl⟩
  have HW1 : Hid (Below w.heap.size w w2) := (HB1.out.alloc HB1.out.size _).grown hgrow (by have := HB1.out.size; simp; omega) (fun k hk => by cases hk)
  have HW2 : Hid (w2.heap[pb]? = some (.cells #[.slice none 0 0, .slice vo ns.length c, .slice none 0 0, .slice none 0 0, .int .i64 0, .slice none 0 0, .slice none 0 0] 60)) := by
    rw [hpb]
    exact (hgrow.block _ (by simp) (fun e => by cases e)).trans (alloc_new w1 _)
  have HW3 : Hid (NamesB w2 pb vo ns) := by
    rw [hpb]
    exact HN1.out.b.below ((((Below.refl w1.heap.size w1).alloc (Nat.le_refl _) _).grown hgrow (by simp) (fun k hk => by cases hk))) (Nat.le_refl _)
  have HR0 : Hid (RowP w2 (pb + 1) l (l.map It.stm) 0) := by
    rw [hpb]
    rcases hown.2 with ⟨h, _⟩ | ⟨g, cap', cur, h, _, hh, _, _, h3, _⟩
    · simp at h
    · simp at h
      obtain ⟨rfl, rfl⟩ := h
      exact ⟨cur, hh, by rw [h3, HN.out], by simp, fun j hj => by omega⟩
  have hle : w.heap.size ≤ pb := by rw [hpb]; exact HB1.out.size
  rw [← hpb]
  clear hown hgrow hpb HN1 HB1
  go_wp2
  go_loopw [7] (fun iv wr => ∃ j : Nat, j ≤ n ∧ iv = .int .i64 j ∧ Hid (RowP wr (pb + 1) l (l.map It.stm) j) ∧ Hid (Below (pb + 1) w2 wr)) (fun iv _ => n - (intOf iv).toNat)
  case atStart => exact ⟨0, Nat.zero_le _, rfl, HR0, Below.refl _ _⟩
  case round =>
    obtain ⟨j, hj, rfl, HRr, HBr⟩ := hrel
    clear HR0
    have hpx : pb + 1 < wr.heap.size := HRr.out.lt
    by_cases hlt : j < n
    · have hlt' : j < l.length := by rw [← HN.out]; exact hlt
      obtain ⟨b, off, rfl, hb, hv'⟩ := HS.out.get hlt'
      have hv := (hv'.below HW1.out hb).below HBr.out (by omega)
      have c0 := hv.c0 j hlt'
      have c1 := hv.c1 j hlt'
      have c2 := hv.c2 j hlt'
      have c3 := hv.c3 j hlt'
      have c4 := hv.c4 j hlt'
      clear hv hv'
      obtain ⟨d0, e0⟩ := HRr.out.some (j * 3) (by omega)
      obtain ⟨d1, e1⟩ := HRr.out.some (j * 3 + 1) (by omega)
      obtain ⟨d2, e2⟩ := HRr.out.some (j * 3 + 2) (by omega)
      have ef := HRr.out.frozen
      have HP : ∀ o, Hid (RowP ((((wr.setCell ⟨pb + 1, j * 3, none⟩ (.int .i64 (nth l j).num)).setCell ⟨pb + 1, j * 3 + 1, none⟩ (.int .i64 (nth l j).fl)).setCell ⟨pb + 1, j * 3 + 2, none⟩ (nth l j).stm.val).alloc o) (pb + 1) l (l.map It.stm) (j + 1)) := fun o => by
        have := (HRr.out.push hlt').alloc o
        rw [stm0 l j hlt'] at this
        exact this
      obtain ⟨x, hx⟩ : ∃ x, x = nth l j := ⟨_, rfl⟩
      rw [← hx] at c0 c1 c2 c3 c4 HP
      clear hx hlt'
      obtain ⟨k, v, un, num, fl⟩ := x
      simp only at c0 c1 c2 c3 c4
      by_cases h1 : k = 1
      · subst h1
        have HP1 := HP (.cells #[.int .i64 1, .int .i64 v, .bool un, .int .i64 num, .int .i64 fl] 36)
        rw [show (It.mk 1 v un num fl).stm.val = .iface 49 (.agg #[.int .i64 v, .nilIface, .nilIface, .nilIface, .int .i64 0]) from rfl] at HP1
        clear HP
        go_wp2
        go_roundw
        case rel => exact ⟨j + 1, by omega, by go_num, HP1, (((HBr.out.setCell (Nat.le_refl _) _).setCell (Nat.le_refl _) _).setCell (Nat.le_refl _) _).alloc (by simp; omega) _⟩
        case measure => simp [intOf]; omega
      · by_cases h2 : k = 2
        · subst h2
          have HP1 := HP (.cells #[.int .i64 2, .int .i64 v, .bool un, .int .i64 num, .int .i64 fl] 36)
          rw [show (It.mk 2 v un num fl).stm.val = .iface 62 (.agg #[.int .i64 v, .int .i64 0, .bool un]) from rfl] at HP1
          clear HP
          go_wp2
          go_roundw
          case rel => exact ⟨j + 1, by omega, by go_num, HP1, (((HBr.out.setCell (Nat.le_refl _) _).setCell (Nat.le_refl _) _).setCell (Nat.le_refl _) _).alloc (by simp; omega) _⟩
          case measure => simp [intOf]; omega
        · cases un with
          | true =>
            have HP1 := HP (.cells #[.int .i64 k, .int .i64 v, .bool true, .int .i64 num, .int .i64 fl] 36)
            rw [show (It.mk k v true num fl).stm.val = .iface 78 (.agg #[]) by simp [It.stm, Stm.val, h1, h2]] at HP1
            clear HP
            go_wp2
            go_roundw
            case rel => exact ⟨j + 1, by omega, by go_num, HP1, (((HBr.out.setCell (Nat.le_refl _) _).setCell (Nat.le_refl _) _).setCell (Nat.le_refl _) _).alloc (by simp; omega) _⟩
            case measure => simp [intOf]; omega
          | false =>
            have HP1 := HP (.cells #[.int .i64 k, .int .i64 v, .bool false, .int .i64 num, .int .i64 fl] 36)
            rw [show (It.mk k v false num fl).stm.val = .iface 79 (.agg #[]) by simp [It.stm, Stm.val, h1, h2]] at HP1
            clear HP
            go_wp2
            go_roundw
            case rel => exact ⟨j + 1, by omega, by go_num, HP1, (((HBr.out.setCell (Nat.le_refl _) _).setCell (Nat.le_refl _) _).setCell (Nat.le_refl _) _).alloc (by simp; omega) _⟩
            case measure => simp [intOf]; omega
    · obtain rfl : n = j := by omega
      have hbl := (HBr.out.block pb (Nat.lt_succ_self _)).trans HW2.out
      have p0 : wr.cell? ⟨pb, 0, none⟩ = some (.slice none 0 0) := cell_of hbl 0
      have pf : wr.frozen? ⟨pb, 0, none⟩ = false := by simp [World.frozen?, hbl]
      have HBL := hide hbl
      clear hbl
      go_wp2
      go_ret
      refine ⟨(HW1.out.trans (HBr.out.mono (by omega))).setCell hle _, pb, pb + 1, vo, c, hle, Nat.lt_succ_self _, rfl, ?_, ?_, ?_⟩
      · rw [← HN.out]; exact heap_setCell_same _ pb 0 _ 60 _ HBL.out
      · exact (HW3.out.below HBr.out (Nat.le_succ _)).below ((Below.refl pb _).setCell (Nat.le_refl _) _) (Nat.le_refl _)
      · have := HRr.out.other (a := ⟨pb, 0, none⟩) (.slice (some ⟨pb + 1, 0, none⟩) n n) (by simp)
        rw [HN.out] at this ⊢
        exact this
end Go.Proofs.Qxb6002619aFmt
