/-
  THE TOLD CARD: PropPairAcceptsExactlyNestedBlocks.
-/
import Derived.Test.Qxb6002619aFmtPairAll
import Derived.Test.Qxb6002619aFmtWhole
import Derived.Test.Qxb6002619aFmtOpen
import Derived.Test.Qxb6002619aFmtCards
import Derived.ChangeSlices
import Derived.ChangeSame
import Derived.JoinedOf
import Derived.Carry
import Derived.Stop.JoinedAt
import Derived.Stop.JoinedTold
import Derived.SevenToldRow
namespace Go.Proofs.Qxb6002619aFmt
open Go.ChangeShapes Go.WideShapes Go.ChangeAt Go.WideMaps Go.WideElems Go.RowKit
open Go.Extern.Stop Go.Stop Go.Extern

theorem own : ownKnob Tryf.prog.godebug = none := by kernel_rfl
theorem laidOut : laidOutB Tryf.prog = true := by kernel_rfl
theorem stops : Tryf.pinned.checked.prog.stops = Rows.propPairAcceptsExactlyNestedBlocksRow.stops := by kernel_rfl
theorem stopKnobs : Tryf.pinned.checked.prog.stopKnobs = [] := by kernel_rfl
theorem quiet (os : Os) : Stop.quiet Tryf.pinned.checked.prog os := by
  intro k hk
  rw [stopKnobs] at hk
  cases hk

theorem does_all (F : Interp) (tp : Tape) (ns : List ByteArray) (l : List It) (hF : F.answers tp) : PairDoes tp ns l := by
  intro pb sb vo c w htp hp hps hN hR hf _ hn
  exact pair_all F pb sb vo c ns l w hp hps hN hR hf hn (by rw [htp]; exact hF)

/-- every input -/
theorem all_law (F : Interp) {H : Type} {enc : TypeId × Value → H} {W : World} {base f1 f2 : Nat} {s1 s2 : Nat → Bool} {h1 h2 : Bool} {a0 b0 : Option Addr} {n0 c0 n1 c1 : Nat} {x y : DataW H × List MemPlace}
    (hx : DataW.trod enc Tryf.prog W base s1 h1 f1 22 [.slice a0 n0 c0] = some x) (hy : DataW.trod enc Tryf.prog W base s2 h2 f2 23 [.slice b0 n1 c1] = some y) (hF : F.answers W.tape) :
    Calls Tryf.prog 5 #[.slice a0 n0 c0, .slice b0 n1 c1] W fun e w' => WholePost W e w' := by
  obtain ⟨ao, cap, ns, e, hS⟩ := open_names hx
  simp only [List.cons.injEq, Value.slice.injEq, and_true] at e
  obtain ⟨rfl, rfl, rfl⟩ := e
  obtain ⟨bo, cap', l, e, hI⟩ := open_items hy
  simp only [List.cons.injEq, Value.slice.injEq, and_true] at e
  obtain ⟨rfl, rfl, rfl⟩ := e
  exact whole_any _ _ ns _ _ l W hS hI (does_all F W.tape ns l hF)

set_option maxRecDepth 100000 in
theorem all_lifted (os : Os) (started : os.Started) (H : Type) (enc : TypeId × Value → H) :
    ReturnsInTold none {} Tryf.checked os 5 .any Input.okWide ((OpenSpec.ofChange Rows.propPairAcceptsExactlyNestedBlocksSpec).preRow enc Tryf.prog Tryf.f5 [] false []) (fun F => ((OpenSpec.ofChange Rows.propPairAcceptsExactlyNestedBlocksSpec).at F).post enc Tryf.prog Tryf.f5 false true false false) (aloneAtReturn Tryf.prog) nothingAlways := by
  refine returnsInTold_of_row (C := Tryf.checked) (s := OpenSpec.ofChange Rows.propPairAcceptsExactlyNestedBlocksSpec) (by kernel_rfl) own started (by kernel_rfl) Tryf.func5
    (OpenSpec.witness_stopped (enc := enc) (C := Tryf.checked) false ⟨#[], #[.slice none 0 0, .slice none 0 0], []⟩ 8 (by kernel_rfl) (by kernel_rfl) (by kernel_rfl) (by kernel_rfl)) ?_
  intro F W base args ds gs before _ hF hval0 hW _ _ hsz _ _
  have hval : ∀ (j : Nat) t v, Tryf.f5.params[j]? = some t → args[j]? = some v → Value.okWide Tryf.prog W .any base t v := hval0
  have hW' := hW
  obtain ⟨p, q, hA0, hV, rfl, _, _⟩ := hW
  have hA : DataW.TrodAll enc Tryf.prog W 0 (fun _ => true) true Tryf.f5.params.toList args.toList ds p := hA0
  rw [Tryf.params5] at hA hval
  obtain ⟨v0, v1, d0, d1, p0, p1, rfl, rfl, rfl, h0, h1⟩ := trodAll_two hA
  obtain ⟨rfl, rfl⟩ := trodVars_none hV
  have h0k := h0
  have h1k := h1
  obtain ⟨a0, n0, c0, rfl⟩ := okWide_slice Tryf.underlying22 (hval 0 22 v0 rfl rfl)
  obtain ⟨b0, n1, c1, rfl⟩ := okWide_slice Tryf.underlying23 (hval 1 23 v1 rfl rfl)
  obtain ⟨f1, hf1⟩ := h0
  obtain ⟨f2, hf2⟩ := h1
  clear hA0 hval0
  simp only [List.append_nil] at hW'
  have hlt : ∀ x ∈ p0 ++ p1, x.block < W.heap.size := fun x hx => by simpa using hW'.lt x hx
  refine (all_law F.told hf1 hf2 hF).mono fun e W' ⟨he, hg⟩ => ?_
  subst he
  exact ⟨_, rfl, _, _, _, [], p0 ++ p1, [], hW', trodAll_mk1 (shut_bool Tryf.underlying4 _), trodAll_mk2 (Below.trod laidOut (by kernel_rfl) (of_decide_eq_true (by kernel_rfl)) h0k hg (fun x hx => hlt x (List.mem_append_left _ hx))) (Below.trod laidOut (by kernel_rfl) (of_decide_eq_true (by kernel_rfl)) h1k hg (fun x hx => hlt x (List.mem_append_right _ hx))), rfl, hg.frame _, fun h => by cases h⟩

theorem all_card : Rows.PropPairAcceptsExactlyNestedBlocksToldSaid :=
  Claim7.holds_of_told_any 5 Tryf.f5 (Rows.propPairAcceptsExactlyNestedBlocksRow.stops.headD "") [] [] _ _ _ (by kernel_rfl) rfl rfl rfl laidOut (by kernel_rfl) rfl ⟨rfl, rfl, rfl, rfl, rfl, rfl, rfl⟩ rfl rfl (by kernel_rfl) (by kernel_rfl) Tryf.func5 (by kernel_rfl)
    (of_decide_eq_true (by kernel_rfl)) (of_decide_eq_true (by kernel_rfl)) stops.symm rfl stopKnobs.symm (by kernel_rfl)
    (by kernel_rfl) (by kernel_rfl) (by kernel_rfl) (by kernel_rfl) (by kernel_rfl) (by kernel_rfl) (by kernel_rfl) (by kernel_rfl) (by kernel_rfl) rfl (by kernel_rfl) rfl rfl
    rfl rfl
    rfl (by kernel_rfl) (by kernel_rfl) (by kernel_rfl) (by decide) (by kernel_rfl)
    (OpenClaim.moreEntering_of (by kernel_rfl) (by kernel_rfl) (by kernel_rfl) (by kernel_rfl) (by kernel_rfl) (by kernel_rfl) (by kernel_rfl) (by kernel_rfl) (by kernel_rfl) (by kernel_rfl))
    ⟨_, WideRow.started_initial, quiet _⟩
    (fun os started _ H enc _ => all_lifted os started H enc)
end Go.Proofs.Qxb6002619aFmt
