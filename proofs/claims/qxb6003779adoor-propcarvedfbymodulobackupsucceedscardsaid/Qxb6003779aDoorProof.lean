/-
  THE ROW AND THE TIED CARD: PropCarveDFByModuloBackupSucceeds.
-/
import Derived.Test.Qxb6003779aDoorOpen
import Derived.Test.Qxb6003779aDoorTie
import Derived.Test.Qxb6003779aDoorCards
import Derived.SevenTiedAt
namespace Go.Proofs.Qxb6003779aDoor
open Go.ChangeShapes Go.WideShapes Go.ChangeAt Go.WideMaps Go.WideElems Go.RowKit

theorem own : ownKnob Tryd.prog.godebug = none := by kernel_rfl
theorem laidOut : laidOutB Tryd.prog = true := by kernel_rfl

/-- every slice, every tag -/
theorem law_any {H : Type} {enc : TypeId × Value → H} {W : World} {base fuel : Nat} {sp : Nat → Bool} {held : Bool} {a0 : Option Addr} {len cap : Nat} {x : DataW H × List MemPlace} (h : DataW.trod enc Tryd.prog W base sp held fuel 22 [.slice a0 len cap] = some x)
    (hL : laidMetH Tryd.prog laid2 W) (tag : Int) (t0 : 0 ≤ tag) (t1 : tag ≤ 4294967295) :
    Calls Tryd.prog 3 #[.slice a0 len cap, .int .u32 tag] W fun e w' => e = .returned (.bool true) ∧ Below W.heap.size W w' := by
  obtain ⟨p4, p6, hz, hzp⟩ := of_laid hL
  obtain ⟨n, rfl⟩ := Int.eq_ofNat_of_zero_le t0
  rcases open_in h with e | ⟨a, len', cap', e, hX⟩
  · simp only [List.cons.injEq, Value.slice.injEq, and_true] at e
    obtain ⟨rfl, rfl, rfl⟩ := e
    exact law_zero _ _ _ W
  · simp only [List.cons.injEq, Value.slice.injEq, and_true] at e
    obtain ⟨rfl, rfl, rfl⟩ := e
    by_cases h0 : len = 0
    · subst h0; exact law_zero _ _ _ W
    · by_cases hbig : 4096 < len
      · exact law_big _ _ _ _ W hbig
      · obtain ⟨b, off, X, rfl, hb, hin⟩ := hX (by omega)
        exact law_mid b off len cap n X p4 p6 W hz hzp hin hb (by omega) (by omega) (by omega)

set_option maxRecDepth 100000 in
theorem lifted (os : Os) (started : os.Started) (H : Type) (enc : TypeId × Value → H) :
    ReturnsInHanded {} Tryd.checked os 3 .any (fun w args => (Rows.propCarveDFByModuloBackupSucceedsSpec.pre enc Tryd.prog Tryd.f3 [] false w args ∧ laidMetH Tryd.prog laid2 w) ∧ sizedMet enc Tryd.prog Tryd.f3 (OpenSpec.ofChange Rows.propCarveDFByModuloBackupSucceedsSpec) false w args)
      (Rows.propCarveDFByModuloBackupSucceedsSpec.post enc Tryd.prog Tryd.f3 false true false false) := by
  refine returnsInHanded_of_change_and (C := Tryd.checked) (X := fun w _ => laidMetH Tryd.prog laid2 w) (fun _ _ _ hh h => h.of_heap hh) own started (by kernel_rfl) Tryd.func3
    (ChangeSpec.witness_shaped (enc := enc) (C := Tryd.checked) (os := os) (X := fun w _ => laidMetH Tryd.prog laid2 w) false
      { World.holding Tryd.prog os ⟨#[.cells #[.bool false, .string ByteArray.empty] 66, .cells #[.bool true, .string ByteArray.empty] 66], #[], []⟩ with
        heap := ((World.holding Tryd.prog os ⟨#[.cells #[.bool false, .string ByteArray.empty] 66, .cells #[.bool true, .string ByteArray.empty] 66], #[], []⟩).heap.modify 0 fun
          | .cells _ t frozen => .cells #[.pointer (some ⟨(World.holding Tryd.prog default ⟨#[], #[], []⟩).heap.size, 0, none⟩)] t frozen
          | o => o).modify 1 fun
          | .cells _ t frozen => .cells #[.pointer (some ⟨(World.holding Tryd.prog default ⟨#[], #[], []⟩).heap.size + 1, 0, none⟩)] t frozen
          | o => o }
      #[.slice none 0 0, .int .u32 0] 8 rfl (World.shaped_of_RefB (by kernel_rfl) (by kernel_rfl)) (by kernel_rfl) (by kernel_rfl) (by kernel_rfl)
      (laidMetH_of_parts3 (fuel := 8) (laidMet_of_run' 8 (by kernel_rfl) (by kernel_rfl)) (by kernel_rfl) (by kernel_rfl))) ?_
  intro W base args ds gs before hval0 hW _ _ hL _
  have hval : ∀ (j : Nat) t v, Tryd.f3.params[j]? = some t → args[j]? = some v → Value.okWide Tryd.prog W .any base t v := hval0
  have hW' := hW
  obtain ⟨p, q, hA0, hV, rfl, hfz, hnd⟩ := hW
  have hA : DataW.TrodAll enc Tryd.prog W 0 (fun _ => true) true Tryd.f3.params.toList args.toList ds p := hA0
  rw [Tryd.params3] at hA hval
  obtain ⟨v0, v1, d0, d1, p0, p1, rfl, rfl, rfl, h0, h1⟩ := trodAll_two hA
  obtain ⟨rfl, rfl⟩ := trodVars_none hV
  have h0k := h0
  obtain ⟨a0, len, cap, rfl⟩ := okWide_slice Tryd.underlying22 (hval 0 22 v0 rfl rfl)
  obtain ⟨tag, rfl, rfl, rfl, wt⟩ := open_int Tryd.underlying23 (hval 1 23 v1 rfl rfl) h1
  obtain ⟨fuel, hf⟩ := h0
  have hb := bounds_u32 wt
  clear hA0 hval0
  simp only [List.append_nil] at hW'
  have hlt : ∀ x ∈ p0, x.block < W.heap.size := fun x hx => by simpa using hW'.lt x hx
  refine (law_any hf hL tag hb.1 hb.2).mono fun e W' ⟨he, hg⟩ => ?_
  subst he
  exact ⟨_, rfl, _, _, _, [], p0 ++ [], [], hW', trodAll_mk1 (shut_bool Tryd.underlying4 _), trodAll_mk2 (Below.trod laidOut (by kernel_rfl) (of_decide_eq_true (by kernel_rfl)) h0k hg hlt) (shut_int Tryd.underlying23 wt), rfl, hg.frame _, fun h => by cases h⟩

theorem row_holds : Rows.PropCarveDFByModuloBackupSucceedsSaid :=
  OpenClaim.holds_of_wide 3 Tryd.f3 rfl rfl rfl rfl rfl rfl rfl ⟨rfl, rfl, rfl, rfl, rfl⟩ rfl rfl rfl rfl rfl (by kernel_rfl) Tryd.func3 (by kernel_rfl)
    (of_decide_eq_true (by kernel_rfl)) (by unfold Func.isWrapper; first | (rw [if_pos (by decide +kernel)]; kernel_rfl) | (rw [if_neg (by decide +kernel)]; exact ⟨rfl, rfl⟩))
    (fun os started H enc _ => lifted os started H enc)

theorem carve_card : Rows.PropCarveDFByModuloBackupSucceedsCardSaid :=
  Claim7.holds_tied_plain_at .later [] [.called, .called] true Rows.propCarveDFByModuloBackupSucceedsCard.stood.harness false
    row_holds (fun _ h => by cases h) (by kernel_rfl) (fun _ h => by cases h) propCarveDFByModuloBackupSucceeds_row_tie rfl ⟨rfl, rfl⟩ (by kernel_rfl) rfl
    (fun f fn hf hfn => by
      obtain rfl : f = 3 := Option.some.inj ((show Tryd.prog.funcNamed Rows.propCarveDFByModuloBackupSucceedsRow.func = some 3 by kernel_rfl).symm.trans hf) |>.symm
      obtain rfl : fn = Tryd.f3 := (Option.some.inj (Tryd.func3.symm.trans hfn)).symm
      exact ⟨by kernel_rfl, fun j t ht => by
        rw [Tryd.params3] at ht
        have hm : t ∈ [22, 23] := by simpa using Array.mem_of_getElem? ht
        have hall : ([22, 23].all fun u => !Tryd.prog.wantsStandIn u) = true := by kernel_rfl
        exact (show Tryd.prog.wantsStandIn t = false by simpa using List.all_eq_true.1 hall t hm)⟩)
    (by kernel_rfl)
end Go.Proofs.Qxb6003779aDoor
