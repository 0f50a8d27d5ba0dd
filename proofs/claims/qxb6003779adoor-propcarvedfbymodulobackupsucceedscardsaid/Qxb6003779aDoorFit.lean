/-
  The walk of carvePEsFit.
-/
import Derived.Test.Qxb6003779aDoorEq
namespace Go.Proofs.Qxb6003779aDoor
open Go.RowKit

/-- the row of addresses, filled up to j -/
def fill (p4 p6 : Addr) (X : Nat → PA) (j : Nat) : Nat → A3 := fun t => if t < j then (X t).adr p4 p6 else A3.zero
theorem fill_succ (p4 p6 : Addr) (X : Nat → PA) (j t : Nat) : upd (fill p4 p6 X j) j ((X j).adr p4 p6) t = fill p4 p6 X (j + 1) t := by
  unfold upd fill
  by_cases h : t = j
  · subst h; simp
  · by_cases h2 : t < j
    · rw [if_neg h, if_pos h2, if_pos (by omega)]
    · rw [if_neg h, if_neg h2, if_neg (by omega)]

def FitPost (p4 p6 : Addr) (n : Nat) (X : Nat → PA) (w : World) (e : Ending) (w' : World) : Prop := ∃ r : Bool, e = .returned (.bool r) ∧ (r = true → Fit p4 p6 n X) ∧ Below w.heap.size w w'

set_option maxHeartbeats 1000000 in
theorem fit_any (b off n cap : Nat) (X : Nat → PA) (p4 p6 : Addr) (w : World) (hz : Zs w p4 p6) (hzp : Zp w p4 p6) (hin : In17 w b off n X) (hb : b < w.heap.size) (h1 : 1 ≤ n) (hn : n ≤ 4096) :
    Calls Tryd.prog 4 #[.slice (some ⟨b, off, none⟩) n cap] w fun e w' => FitPost p4 p6 n X w e w' := by
  obtain ⟨i0, hi0, hz0, hz1, hz2⟩ := info_parts info33
  have HZ := hide hz
  have HI := hide hin
  have HP := hide hzp
  clear hz hin hzp
  go_enter Tryd.func4, Tryd.ntmps4
  go_wp2
  go_loop [4] (fun i => ∃ j : Nat, j ≤ n ∧ i = .int .i64 j ∧ Hid (∀ t, t < j → (X t).k = 1 ∨ (X t).k = 2)) (fun i => n - (intOf i).toNat)
  case atStart => exact ⟨0, Nat.zero_le _, rfl, fun t h => absurd h (by omega)⟩
  case round =>
    obtain ⟨j, hj, rfl, hok⟩ := hrel
    by_cases hlt : j < n
    · have hk := HI.out.k j hlt
      by_cases k1 : (X j).k = 1
      · rw [k1] at hk
        go_wp2
        go_round
        case rel => exact ⟨j + 1, by omega, by go_num, fun t ht => by
          by_cases e : t = j
          · subst e; exact Or.inl k1
          · exact hok.out t (by omega)⟩
        case measure => simp [intOf]; omega
      · by_cases k2 : (X j).k = 2
        · rw [k2] at hk
          go_wp2
          go_round
          case rel => exact ⟨j + 1, by omega, by go_num, fun t ht => by
            by_cases e : t = j
            · subst e; exact Or.inr k2
            · exact hok.out t (by omega)⟩
          case measure => simp [intOf]; omega
        · have n1 : ((X j).k != 1) = true := by simpa using k1
          have n2 : ((X j).k != 2) = true := by simpa using k2
          go_wp2
          go_ret
          exact ⟨false, rfl, (fun h => by cases h), Below.refl _ _⟩
    · obtain rfl : n = j := by omega
      go_wp2_with (at_make; refine wpList_make_full _ rfl _ _ 25 rfl 0 33 i0 _ 3 Tryd.underlying25 hi0 hz0 hz1 _ _ _ _ n rfl rfl rfl rfl ?c1 ?c2 (Nat.zero_le _) ?_)
      case c1 => omega
      case c2 => unfold maxLen; omega
      intro w1 hown hgrow
      have hrow : Row3 w1 w.heap.size n (fun _ => A3.zero) := by
        unfold Row3; rw [← made_flat]; exact hown
      have hbel : Below w.heap.size w w1 := (Below.refl _ w).grown hgrow (Nat.le_refl _) (fun k hk => by cases hk)
      have HR := hide hrow
      have HB := hide hbel
      clear hown hgrow hrow hbel
      go_wp2
      go_loopw [6] (fun i wr => ∃ j : Nat, j ≤ n ∧ i = .int .i64 j ∧ Hid (Row3 wr w.heap.size n (fill p4 p6 X j)) ∧ Hid (Below w.heap.size w wr)) (fun i _ => n - (intOf i).toNat)
      case atStart => exact ⟨0, Nat.zero_le _, rfl, HR.out.congr (fun t _ => rfl), HB⟩
      case round =>
        obtain ⟨j, hj, rfl, HRr, HBr⟩ := hrel
        clear HR HB
        by_cases hlt : j < n
        · have hin := HI.out.below HBr.out hb
          have c0 := hin.k j hlt
          have c1 : wr.cell? ⟨b, off + j * 17 + 1, none⟩ = some (.int .u8 ((X j).o 0)) := hin.o j hlt 0 (by omega)
          have c2 : wr.cell? ⟨b, off + j * 17 + 2, none⟩ = some (.int .u8 ((X j).o 1)) := hin.o j hlt 1 (by omega)
          have c3 : wr.cell? ⟨b, off + j * 17 + 3, none⟩ = some (.int .u8 ((X j).o 2)) := hin.o j hlt 2 (by omega)
          have c4 : wr.cell? ⟨b, off + j * 17 + 4, none⟩ = some (.int .u8 ((X j).o 3)) := hin.o j hlt 3 (by omega)
          have c5 : wr.cell? ⟨b, off + j * 17 + 5, none⟩ = some (.int .u8 ((X j).o 4)) := hin.o j hlt 4 (by omega)
          have c6 : wr.cell? ⟨b, off + j * 17 + 6, none⟩ = some (.int .u8 ((X j).o 5)) := hin.o j hlt 5 (by omega)
          have c7 : wr.cell? ⟨b, off + j * 17 + 7, none⟩ = some (.int .u8 ((X j).o 6)) := hin.o j hlt 6 (by omega)
          have c8 : wr.cell? ⟨b, off + j * 17 + 8, none⟩ = some (.int .u8 ((X j).o 7)) := hin.o j hlt 7 (by omega)
          have c9 : wr.cell? ⟨b, off + j * 17 + 9, none⟩ = some (.int .u8 ((X j).o 8)) := hin.o j hlt 8 (by omega)
          have c10 : wr.cell? ⟨b, off + j * 17 + 10, none⟩ = some (.int .u8 ((X j).o 9)) := hin.o j hlt 9 (by omega)
          have c11 : wr.cell? ⟨b, off + j * 17 + 11, none⟩ = some (.int .u8 ((X j).o 10)) := hin.o j hlt 10 (by omega)
          have c12 : wr.cell? ⟨b, off + j * 17 + 12, none⟩ = some (.int .u8 ((X j).o 11)) := hin.o j hlt 11 (by omega)
          have c13 : wr.cell? ⟨b, off + j * 17 + 13, none⟩ = some (.int .u8 ((X j).o 12)) := hin.o j hlt 12 (by omega)
          have c14 : wr.cell? ⟨b, off + j * 17 + 14, none⟩ = some (.int .u8 ((X j).o 13)) := hin.o j hlt 13 (by omega)
          have c15 : wr.cell? ⟨b, off + j * 17 + 15, none⟩ = some (.int .u8 ((X j).o 14)) := hin.o j hlt 14 (by omega)
          have c16 : wr.cell? ⟨b, off + j * 17 + 16, none⟩ = some (.int .u8 ((X j).o 15)) := hin.o j hlt 15 (by omega)
          clear hin
          go_wp2_with fail
          have hcall := toAddr_any (X j) (hok.out j hlt) p4 p6 wr (HZ.out.old HBr.out)
          unfold PA.val at hcall
          refine hcall.mono ?_
          clear hcall
          rintro e w2 ⟨rfl, hb2⟩
          clear c0 c1 c2 c3 c4 c5 c6 c7 c8 c9 c10 c11 c12 c13 c14 c15 c16
          have hrow := HRr.out.below hb2 HRr.out.lt
          have q0 := hrow.at3.c0 j hlt
          have q1 := hrow.at3.c1 j hlt
          have q2 := hrow.at3.c2 j hlt
          have qf := hrow.frozen
          have HR2 : Hid (Row3 (((w2.setCell ⟨w.heap.size, j * 3, none⟩ (.int .u64 ((X j).adr p4 p6).hi)).setCell ⟨w.heap.size, j * 3 + 1, none⟩ (.int .u64 ((X j).adr p4 p6).lo)).setCell ⟨w.heap.size, j * 3 + 2, none⟩ (.pointer ((X j).adr p4 p6).z)) w.heap.size n (fill p4 p6 X (j + 1))) :=
            (hrow.set j hlt ((X j).adr p4 p6)).congr (fun t _ => fill_succ p4 p6 X j t)
          have HB2 : Hid (Below w.heap.size w w2) := HBr.out.trans (hb2.mono HBr.out.size)
          clear hrow hb2
          generalize (X j).adr p4 p6 = a at *
          simp only [A3.val]
          go_wp2
          go_roundw
          case rel => exact ⟨j + 1, by omega, by go_num, HR2, ((HB2.out.setCell (Nat.le_refl _) _).setCell (Nat.le_refl _) _).setCell (Nat.le_refl _) _⟩
          case measure => simp [intOf]; omega
        · obtain rfl : n = j := by omega
          obtain ⟨A, hA⟩ : ∃ A : Nat → A3, ∀ t, A t = (X t).adr p4 p6 := ⟨_, fun _ => rfl⟩
          have HA := hide hA
          have HRA : Hid (Row3 wr w.heap.size n A) := HRr.out.congr (fun t ht => by rw [hA]; unfold fill; rw [if_pos ht])
          clear hA HRr
          have HK : Hid (∀ t, t < n → (X t).k = 1 ∨ (X t).k = 2) := hok
          clear hok
          go_wp2
          go_loopw [7] (fun i wq => ∃ j : Nat, 1 ≤ j ∧ j ≤ n ∧ i = .int .i64 j ∧ Hid (Row3 wq w.heap.size n A) ∧ Hid (Below w.heap.size w wq) ∧ Hid (∀ a c, c < a → a < j → A a ≠ A c)) (fun i _ => n - (intOf i).toNat)
          case atStart => exact ⟨1, by omega, h1, rfl, HRA, HBr, fun a c h h' => by omega⟩
          case round =>
            obtain ⟨i, hi1, hi, rfl, HRq, HBq, HD⟩ := hrel
            clear HRA HBr
            by_cases hil : i < n
            · go_wp2
              obtain ⟨wo, rfl⟩ : ∃ wo : World, wo = wr := ⟨_, rfl⟩
              go_loopw [8] (fun jv wq => ∃ j : Nat, j ≤ i ∧ jv = .int .i64 j ∧ Hid (Row3 wq w.heap.size n A) ∧ Hid (Below w.heap.size w wq) ∧ Hid (∀ c, c < j → A i ≠ A c)) (fun jv _ => i - (intOf jv).toNat)
              case atStart => exact ⟨0, by omega, rfl, HRq, HBq, fun c h => by omega⟩
              case round =>
                obtain ⟨j, hj, rfl, HRs, HBs, HE⟩ := hrel
                clear HRq HBq
                by_cases hjl : j < i
                · have hjn : j < n := by omega
                  have r0 := HRs.out.at3.c0 i hil
                  have r1 := HRs.out.at3.c1 i hil
                  have r2 := HRs.out.at3.c2 i hil
                  have t0 := HRs.out.at3.c0 j hjn
                  have t1 := HRs.out.at3.c1 j hjn
                  have t2 := HRs.out.at3.c2 j hjn
                  have hfin : ∀ m, Hid (Row3 (wr.drewN m) w.heap.size n A) ∧ Hid (Below w.heap.size w (wr.drewN m)) := fun m => ⟨HRs.out, below_drewN HBs.out m⟩
                  have HF := hide hfin
                  clear hfin
                  rcases A3.parts (A i) (A j) with e | e | ⟨ea, eb⟩ | ⟨ea, eb, ec⟩
                  · rw [e] at r0 r1 r2
                    have hp := fun W => ptr_same (A j).z W
                    clear e
                    go_wp2
                    go_quiet (fail)
                    go_wp2
                    go_ret
                    exact ⟨false, rfl, (fun h => by cases h), below_drewN HBs.out _⟩
                  all_goals
                    have HN : Hid (A i ≠ A j) := fun h => by simp_all
                  · go_wp2
                    go_quiet (fail)
                    go_wp2
                    go_roundw
                    case rel => exact ⟨j + 1, by omega, by go_num, (HF.out _).1, (HF.out _).2, fun c hc => by
                      by_cases h : c = j
                      · subst h; exact HN.out
                      · exact HE.out c (by omega)⟩
                    case measure => simp [intOf]; omega
                  · rw [ea] at r0
                    clear ea
                    go_wp2
                    go_quiet (fail)
                    go_wp2
                    go_roundw
                    case rel => exact ⟨j + 1, by omega, by go_num, (HF.out _).1, (HF.out _).2, fun c hc => by
                      by_cases h : c = j
                      · subst h; exact HN.out
                      · exact HE.out c (by omega)⟩
                    case measure => simp [intOf]; omega
                  · rw [ea] at r0
                    rw [eb] at r1
                    have hz1 : (A i).z = none ∨ (A i).z = some p4 ∨ (A i).z = some p6 := by rw [HA.out]; exact adr_z_cases p4 p6 (X i)
                    have hz2 : (A j).z = none ∨ (A j).z = some p4 ∨ (A j).z = some p6 := by rw [HA.out]; exact adr_z_cases p4 p6 (X j)
                    have hp : ∀ m, (Op.equalIn 9998 29 (.pointer (A i).z) (.pointer (A j).z)).run Tryd.prog (wr.drewN m) = .ok false (wr.drewN m) := fun m => ptr_other _ _ p4 p6 _ (HP.out.old (below_drewN HBs.out m)) hz1 hz2 ec
                    have hp0 : (Op.equalIn 9998 29 (.pointer (A i).z) (.pointer (A j).z)).run Tryd.prog wr = .ok false wr := ptr_other _ _ p4 p6 _ (HP.out.old HBs.out) hz1 hz2 ec
                    clear ea eb ec hz1 hz2
                    go_wp2
                    go_quiet (fail)
                    go_wp2
                    go_roundw
                    case rel => exact ⟨j + 1, by omega, by go_num, (HF.out _).1, (HF.out _).2, fun c hc => by
                      by_cases h : c = j
                      · subst h; exact HN.out
                      · exact HE.out c (by omega)⟩
                    case measure => simp [intOf]; omega
                · obtain rfl : i = j := by omega
                  go_wp2
                  go_roundw
                  case rel => exact ⟨i + 1, by omega, by omega, by go_num, HRs, HBs, fun a c hc ha => by
                    by_cases h : a = i
                    · subst h; exact HE.out c hc
                    · exact HD.out a c hc (by omega)⟩
                  case measure => simp [intOf]; omega
            · obtain rfl : n = i := by omega
              go_wp2
              go_ret
              refine ⟨true, rfl, fun _ => ⟨HK.out, fun a c hc ha => ?_⟩, HBq.out⟩
              rw [← HA.out a, ← HA.out c]
              exact HD.out a c hc ha
end Go.Proofs.Qxb6003779aDoor
