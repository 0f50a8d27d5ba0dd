/-
  The accepting half: no diagnostic is made.
-/
import Derived.Test.Qxb6002619aFmtPair
import Derived.Test.Qxb6002619aFmtWhole
namespace Go.Proofs.Qxb6002619aFmt
open Go.RowKit

theorem does_free (tp : Tape) (ns : List ByteArray) (l : List It) (hok : okB l = true) : PairDoes tp ns l := by
  intro pb sb vo c w _ hp hps hN hR hf _ hn
  refine (pair_free pb sb vo c ns l w hp hps hN hR hf hok hn).mono ?_
  rintro e' w' ⟨h1, h2, h3⟩
  exact ⟨h2, Or.inl ⟨hok, h1, h3⟩⟩

set_option maxHeartbeats 2000000 in
theorem free_any (na : Option Addr) (nc : Nat) (ns : List ByteArray) (ao : Option Addr) (cap : Nat) (l : List It) (w : World) (hS : ShowsN w na ns) (hI : ShowsI w ao l) :
    Calls Tryf.prog 4 #[.slice na ns.length nc, .slice ao l.length cap] w fun e' w' => WholePost w e' w' := by
  have HS := hide hS
  have HI := hide hI
  clear hS hI
  by_cases hns : ns.length ≤ 4096
  · by_cases hn : l.length ≤ 4096
    · obtain ⟨n, hnl⟩ : ∃ n, n = l.length := ⟨_, rfl⟩
      obtain ⟨p, hpl⟩ : ∃ p, p = ns.length := ⟨_, rfl⟩
      have HN := hide hnl
      have HPN := hide hpl
      rw [← hnl, ← hpl]
      rw [← hnl] at hn
      rw [← hpl] at hns
      clear hnl hpl
      have g1 : ¬ ((4096 : Int) < p) := by omega
      have g2 : ¬ ((4096 : Int) < n) := by omega
      go_enter Tryf.func4, Tryf.ntmps4
      go_wp2_with fail
      go_at_call 13
      refine Calls.mono (by rw [HPN.out]; exact namesFit_any na nc ns w HS.out (by rw [← HPN.out]; exact hns)) ?_
      rintro e1 w1 ⟨⟨r1, rfl⟩, rfl⟩
      cases r1 with
      | false =>
        go_wp2
        go_ret
        exact ⟨rfl, Below.refl _ _⟩
      | true =>
        go_wp2_with fail
        go_at_call 7
        refine Calls.mono (by rw [HN.out]; exact inRange_any p ao cap l w1 HI.out (by rw [← HN.out]; exact hn)) ?_
        rintro e2 w2 ⟨⟨r2, rfl, hfit⟩, hb2⟩
        have HB2 := hide hb2
        clear hfit hb2
        cases r2 with
        | false =>
          go_wp2
          go_ret
          exact ⟨rfl, HB2⟩
        | true =>
          go_wp2_with fail
          go_at_call 8
          refine Calls.mono (by rw [HN.out]; exact derives_any ao cap l w2 (HI.out.below HB2.out (Nat.le_refl _)) (by rw [← HN.out]; exact hn)) ?_
          rintro e3 w3 ⟨rfl, hb3⟩
          have HB3 : Hid (Below w1.heap.size w1 w3) := HB2.out.trans (hb3.mono HB2.out.size)
          clear hb3
          obtain ⟨ok, hok⟩ : ∃ ok, ok = okB l := ⟨_, rfl⟩
          rw [← hok]
          have HOK := hide hok
          clear hok
          cases ok with
          | false =>
            go_wp2
            go_ret
            exact ⟨rfl, HB3⟩
          | true =>
            go_wp2_with fail
            go_at_call 5
            refine Calls.mono (by rw [HN.out, HPN.out]; exact whole_any na nc ns ao cap l w3 (HS.out.below HB3.out (Nat.le_refl _)) (HI.out.below HB3.out (Nat.le_refl _)) (does_free _ ns l HOK.out.symm)) ?_
            rintro e4 w4 ⟨rfl, hb4⟩
            have HB4 : Hid (Below w1.heap.size w1 w4) := HB3.out.trans (hb4.mono HB3.out.size)
            clear hb4
            go_wp2
            go_ret
            exact ⟨rfl, HB4⟩
    · have g1 : ¬ ((4096 : Int) < ns.length) := by omega
      have g2 : (4096 : Int) < l.length := by omega
      go_enter Tryf.func4, Tryf.ntmps4
      go_wp2
      go_ret
      exact ⟨rfl, Below.refl _ _⟩
  · have g1 : (4096 : Int) < ns.length := by omega
    go_enter Tryf.func4, Tryf.ntmps4
    go_wp2
    go_ret
    exact ⟨rfl, Below.refl _ _⟩
end Go.Proofs.Qxb6002619aFmt
