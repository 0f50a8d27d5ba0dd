/-
  The law's function, Pair's contract given.
-/
import Derived.Test.Qxb6002619aFmtState
import Derived.Test.Qxb6002619aFmtOk
namespace Go.Proofs.Qxb6002619aFmt
open Go.RowKit

/-- how Pair ends -/
def PairOut (sb : Nat) (l : List It) (w : World) (e' : Ending) (w' : World) : Prop :=
  w.grownBy w' (some sb) ∧ ((okB l = true ∧ (∃ qb, e' = .returned (.tuple #[.pointer (some ⟨qb, 0, none⟩), .slice none 0 0])) ∧ RowP w' sb l (prun l l.length).S l.length) ∨
    (okB l = false ∧ ∃ (p : Option Addr) (d c : Nat), 0 < d ∧ d ≤ 16384 ∧ e' = .returned (.tuple #[.pointer none, .slice p d c])))
def PairDoes (tp : Tape) (ns : List ByteArray) (l : List It) : Prop :=
  ∀ (pb sb : Nat) (vo : Option Addr) (c : Nat) (w : World), w.tape = tp → w.heap[pb]? = some (.cells #[.slice (some ⟨sb, 0, none⟩) l.length l.length, .slice vo ns.length c, .slice none 0 0, .slice none 0 0, .int .i64 0, .slice none 0 0, .slice none 0 0] 60) →
    pb < sb → NamesB w pb vo ns → RowP w sb l (l.map It.stm) l.length → FitAll ns.length l l.length → ns.length ≤ 4096 → l.length ≤ 4096 → Calls Tryf.prog 10 #[.pointer (some ⟨pb, 0, none⟩)] w fun e' w' => PairOut sb l w e' w'

/-- the plain law: the matching -/
theorem match_law (l : List It) (mt : List Int) (hm : mrun l l.length = some ([], mt)) :
    mt.length = l.length ∧ ∀ j, j < l.length →
      ((nth l j).k = 1 → ((prun l l.length).S.getD j Stm.none).k = 1 ∧ ((prun l l.length).S.getD j Stm.none).p = mt.getD j 0) ∧
      ((nth l j).k = 2 → ((prun l l.length).S.getD j Stm.none).k = 2 ∧ ∃ m : Nat, m < l.length ∧ mt.getD j 0 = (m : Int) ∧ ((prun l l.length).S.getD j Stm.none).p = (m : Int) ∧ ((prun l l.length).S.getD j Stm.none).v = (nth l m).v) := by
  rcases sync_run l l.length (Nat.le_refl _) with ⟨h, _⟩ | ⟨stk, mt', h, hs⟩
  · rw [hm] at h; cases h
  · rw [hm] at h
    cases h
    refine ⟨hs.mlen, fun j hj => ⟨fun h1 => ⟨?_, ?_⟩, fun h2 => ⟨?_, hs.nexts j hj h2⟩⟩⟩
    · rw [stm_k hs.kinds j (by rw [hs.slen]; exact hj)]; exact h1
    · rcases hs.fors j hj h1 with h | h
      · cases h
      · exact h
    · rw [stm_k hs.kinds j (by rw [hs.slen]; exact hj)]; exact h2
theorem val_for {s : Stm} (h : s.k = 1) : s.val = .iface 49 (.agg #[.int .i64 s.v, .nilIface, .nilIface, .nilIface, .int .i64 s.p]) := by
  unfold Stm.val; rw [if_pos h]
theorem val_next {s : Stm} (h : s.k = 2) : s.val = .iface 62 (.agg #[.int .i64 s.v, .int .i64 s.p, .bool s.un]) := by
  unfold Stm.val; rw [if_neg (by omega), if_pos h]

def WholePost (w : World) (e' : Ending) (w' : World) : Prop := e' = .returned (.bool true) ∧ Below w.heap.size w w'

theorem grown_below {w w1 w2 : World} {r : Nat} (h : Below w.heap.size w w1) (hg : w1.grownBy w2 (some r)) (hr : w.heap.size ≤ r) : Below w.heap.size w w2 :=
  ⟨hg.os.trans h.os, hg.tape.trans h.tape, hg.output.trans h.output, Nat.le_trans h.size hg.size, fun k hk => (hg.block k (Nat.lt_of_lt_of_le hk h.size) (by simp; omega)).trans (h.block k hk)⟩

set_option maxRecDepth 20000 in
set_option maxHeartbeats 8000000 in
theorem whole_any (na : Option Addr) (nc : Nat) (ns : List ByteArray) (ao : Option Addr) (cap : Nat) (l : List It) (w : World) (hS : ShowsN w na ns) (hI : ShowsI w ao l) (hP : PairDoes w.tape ns l) :
    Calls Tryf.prog 5 #[.slice na ns.length nc, .slice ao l.length cap] w fun e' w' => WholePost w e' w' := by
  have HS := hide hS
  have HI := hide hI
  have HP := hide hP
  clear hS hI hP
  by_cases hns : ns.length ≤ 4096
  · by_cases hn : l.length ≤ 4096
    · obtain ⟨n, hnl⟩ : ∃ n, n = l.length := ⟨_, rfl⟩
      obtain ⟨p, hpl⟩ : ∃ p, p = ns.length := ⟨_, rfl⟩
      have HN := hide hnl
      have HPN := hide hpl
      rw [← hnl, ← hpl]
      rw [← hnl] at hn
      rw [← hpl] at hns
      clear hnl hpl
      have g1 : ¬ ((4096 : Int) < p) := by omega
      have g2 : ¬ ((4096 : Int) < n) := by omega
      go_enter Tryf.func5, Tryf.ntmps5
      go_wp2_with fail
      go_at_call 13
      refine Calls.mono (by rw [HPN.out]; exact namesFit_any na nc ns w HS.out (by rw [← HPN.out]; exact hns)) ?_
      rintro e1 w1 ⟨⟨r1, rfl⟩, rfl⟩
      cases r1 with
      | false =>
        go_wp2
        go_ret
        exact ⟨rfl, Below.refl _ _⟩
      | true =>
        go_wp2_with fail
        go_at_call 7
        refine Calls.mono (by rw [HN.out]; exact inRange_any p ao cap l w1 HI.out (by rw [← HN.out]; exact hn)) ?_
        rintro e2 w2 ⟨⟨r2, rfl, hfit⟩, hb2⟩
        cases r2 with
        | false =>
          go_wp2
          go_ret
          exact ⟨rfl, hb2⟩
        | true =>
          have HF : Hid (FitAll ns.length l l.length) := by rw [← HPN.out]; exact hfit rfl
          have HB2 := hide hb2
          clear hfit hb2
          go_wp2_with fail
          go_at_call 11
          refine Calls.mono (by rw [HN.out, HPN.out]; exact build_any na nc ns ao cap l w2 (HS.out.below HB2.out (Nat.le_refl _)) (by rw [← HPN.out]; exact hns) (HI.out.below HB2.out (Nat.le_refl _)) (by rw [← HN.out]; exact hn)) ?_
          rintro e3 w3 ⟨hb3, pb, sb, vo, c, hpb, hpsb, rfl, hheap, hNB, hR⟩
          have HB3 : Hid (Below w1.heap.size w1 w3) := HB2.out.trans (hb3.mono HB2.out.size)
          have HC : Hid (Calls Tryf.prog 10 #[.pointer (some ⟨pb, 0, none⟩)] w3 fun e' w' => PairOut sb l w3 e' w') := HP.out pb sb vo c w3 HB3.out.tape hheap hpsb hNB hR HF.out (by rw [← HPN.out]; exact hns) (by rw [← HN.out]; exact hn)
          have HH := hide hheap
          have HPB : Hid (w1.heap.size ≤ pb) := by have := HB2.out.size; show w1.heap.size ≤ pb; omega
          clear hb3 hheap hNB hR hpb
          go_wp2_with fail
          go_at_call 10
          refine HC.out.mono ?_
          rintro e4 w4 ⟨hg4, hcase⟩
          have HB4 : Hid (Below w1.heap.size w1 w4) := grown_below HB3.out hg4 (by have := HPB.out; omega)
          have HH4 : Hid (w4.heap[pb]? = some (.cells #[.slice (some ⟨sb, 0, none⟩) l.length l.length, .slice vo ns.length c, .slice none 0 0, .slice none 0 0, .int .i64 0, .slice none 0 0, .slice none 0 0] 60)) := (hg4.block pb (lt_of_block HH.out) (by simp; omega)).trans HH.out
          have HCASE := hide hcase
          clear hg4 hcase HC HH
          rcases HCASE.out with ⟨hok, ⟨qb, rfl⟩, hR4⟩ | ⟨hno, dp, d, dc, hd0, hd1, rfl⟩
          · have HR4 := hide hR4
            have HOK := hide hok
            clear HCASE hR4 hok
            go_wp2_with fail
            go_at_call 9
            refine Calls.mono (by rw [HN.out]; exact model_any ao cap l w4 (HI.out.below HB4.out (Nat.le_refl _)) (by rw [← HN.out]; exact hn)) ?_
            rintro e5 w5 ⟨hb5, ⟨hno, _⟩ | ⟨_, gm, mt, hmr, hgm, rfl, hmt⟩⟩
            · rw [HOK.out] at hno; cases hno
            obtain ⟨hml, hlaw⟩ := match_law l mt hmr
            have HB5 : Hid (Below w1.heap.size w1 w5) := HB4.out.trans (hb5.mono HB4.out.size)
            have HH5 : Hid (w5.heap[pb]? = some (.cells #[.slice (some ⟨sb, 0, none⟩) l.length l.length, .slice vo ns.length c, .slice none 0 0, .slice none 0 0, .int .i64 0, .slice none 0 0, .slice none 0 0] 60)) := (hb5.block pb (lt_of_block HH4.out)).trans HH4.out
            have HR5 : Hid (RowP w5 sb l (prun l l.length).S l.length) := HR4.out.below hb5 HR4.out.lt
            have HMT := hide hmt
            have HML := hide hml
            have HLAW := hide hlaw
            clear hb5 hmt hml hlaw HH4 HR4 hmr hgm
            rw [← HN.out]
            go_wp2
            go_loopw [10] (fun iv wr => ∃ i : Nat, i ≤ n ∧ iv = .int .i64 i ∧ Hid (Below w5.heap.size w5 wr)) (fun iv _ => n - (intOf iv).toNat)
            case atStart => exact ⟨0, Nat.zero_le _, rfl, Below.refl _ _⟩
            case round =>
              obtain ⟨i, hi, rfl, HB⟩ := hrel
              by_cases hlt : i < n
              · have hlt' : i < l.length := by rw [← HN.out]; exact hlt
                obtain ⟨b, off, rfl, hb, hv'⟩ := HI.out.get hlt'
                have hbl : b < wr.heap.size := by have := HB5.out.size; have := HB.out.size; omega
                have hv := (hv'.below HB5.out hb).below HB.out (by have := HB5.out.size; omega)
                have c0 := hv.c0 i hlt'
                have HV := hide hv
                clear hv hv' hb
                have HHr : Hid (wr.heap[pb]? = some (.cells #[.slice (some ⟨sb, 0, none⟩) l.length l.length, .slice vo ns.length c, .slice none 0 0, .slice none 0 0, .int .i64 0, .slice none 0 0, .slice none 0 0] 60)) := (HB.out.block pb (lt_of_block HH5.out)).trans HH5.out
                have p0 : wr.cell? ⟨pb, 0, none⟩ = some (.slice (some ⟨sb, 0, none⟩) n n) := by rw [HN.out]; exact cell_of HHr.out 0
                have hpl : pb < wr.heap.size := lt_of_block HHr.out
                have hRr := HR5.out.below HB.out HR5.out.lt
                have r2 := hRr.at2 i hlt'
                have hsl : sb < wr.heap.size := hRr.lt
                have hMr := HMT.out.below HB.out HMT.out.lt
                have m0 := hMr.at i (by rw [HML.out]; exact hlt')
                have hml : gm < wr.heap.size := hMr.lt
                clear hRr hMr HHr
                obtain ⟨hl1, hl2⟩ := HLAW.out i hlt'
                obtain ⟨st, hst⟩ : ∃ st, st = (prun l l.length).S.getD i Stm.none := ⟨_, rfl⟩
                rw [← hst] at r2 hl1 hl2
                clear hst
                by_cases h1 : (nth l i).k = 1
                · obtain ⟨hk1, hp1⟩ := hl1 h1
                  rw [val_for hk1] at r2
                  rw [hp1] at r2
                  rw [h1] at c0
                  generalize mt.getD i 0 = x at r2 m0
                  generalize st.v = v at r2
                  have t1 := for_yes2 (.agg #[.int .i64 v, .nilIface, .nilIface, .nilIface, .int .i64 x])
                  clear hl1 hl2 hk1 hp1 h1
                  have hb1 : b < wr.heap.size + 1 := by omega
                  have hm1 : gm < wr.heap.size + 1 := by omega
                  go_wp2
                  go_quiet (fail)
                  go_wp2
                  go_roundw
                  case rel => exact ⟨i + 1, by omega, by go_num, (HB.out.alloc HB.out.size _).trans (Below.drewN2 (Below.refl _ _) _)⟩
                  case measure => simp [intOf]; omega
                · by_cases h2 : (nth l i).k = 2
                  · obtain ⟨hk2, m, hmlt, hm1, hm2, hm3⟩ := hl2 h2
                    rw [val_next hk2] at r2
                    rw [hm2, hm3] at r2
                    rw [hm1] at m0
                    rw [h2] at c0
                    have c1 := HV.out.c1 m hmlt
                    generalize (nth l m).v = v at r2 c1
                    generalize st.un = un at r2
                    have t2 := next_yes2 (.agg #[.int .i64 v, .int .i64 m, .bool un])
                    have hmn : m < n := by rw [HN.out]; exact hmlt
                    have hmi : (m : Int) < n := by omega
                    have hm0 : ¬ ((m : Int) < 0) := by omega
                    clear hl1 hl2 hk2 hm1 hm2 hm3 h1 h2 hmlt
                    have hb1 : b < wr.heap.size + 1 := by omega
                    have hm1 : gm < wr.heap.size + 1 := by omega
                    go_wp2
                    go_quiet (fail)
                    go_wp2
                    go_quiet (fail)
                    go_wp2
                    go_roundw
                    case rel => exact ⟨i + 1, by omega, by go_num, (HB.out.alloc HB.out.size _).trans (Below.drewN2 (Below.refl _ _) _)⟩
                    case measure => simp [intOf]; omega
                  · clear hl1 hl2
                    have h1' : ((nth l i).k == 1) = false := by simpa using h1
                    have h2' : ((nth l i).k == 2) = false := by simpa using h2
                    go_wp2
                    go_roundw
                    case rel => exact ⟨i + 1, by omega, by go_num, HB⟩
                    case measure => simp [intOf]; omega
              · go_wp2
                go_ret
                exact ⟨rfl, HB5.out.trans (HB.out.mono HB5.out.size)⟩
          · have HNO := hide hno
            clear HCASE hno
            go_wp2_with fail
            go_at_call 9
            refine Calls.mono (by rw [HN.out]; exact model_any ao cap l w4 (HI.out.below HB4.out (Nat.le_refl _)) (by rw [← HN.out]; exact hn)) ?_
            rintro e5 w5 ⟨hb5, ⟨_, v5, rfl⟩ | ⟨hok, _⟩⟩
            · have HB5 : Hid (Below w1.heap.size w1 w5) := HB4.out.trans (hb5.mono HB4.out.size)
              clear hb5
              have gd : (0 : Int) < d := by omega
              go_wp2
              go_ret
              exact ⟨rfl, HB5⟩
            · rw [HNO.out] at hok; cases hok
    · have g1 : ¬ ((4096 : Int) < ns.length) := by omega
      have g2 : (4096 : Int) < l.length := by omega
      go_enter Tryf.func5, Tryf.ntmps5
      go_wp2
      go_ret
      exact ⟨rfl, Below.refl _ _⟩
  · have g1 : (4096 : Int) < ns.length := by omega
    go_enter Tryf.func5, Tryf.ntmps5
    go_wp2
    go_ret
    exact ⟨rfl, Below.refl _ _⟩
end Go.Proofs.Qxb6002619aFmt
