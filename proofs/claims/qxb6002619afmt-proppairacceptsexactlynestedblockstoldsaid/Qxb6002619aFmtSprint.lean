/-
  fmt.Sprintf at strings and integers: it gives a text, whatever the format; which text does not matter here.
-/
import Derived.Test.Qxb6002619aFmtState
import Derived.Stop.AnyFormat
import Derived.Stop.MarkNoMeaning
namespace Go.Proofs.Qxb6002619aFmt
open Go.RowKit Go.Extern.Stop Go.Stop Go.Extern

theorem call22 (args : Array Value) (w : World) : (callFunc 22 args).run Tryf.prog w = (FmtCalls.sprintf #[9, 69] #[9] args).run Tryf.prog w :=
  run_callFunc_next Tryf.func22 (by kernel_rfl) (by kernel_rfl) (by kernel_rfl) args w
theorem guard22 (name : String) (w : World) : (FmtStop.guard name).run Tryf.prog w = .ok () w := by kernel_rfl

/-- an operand: a string or an integer -/
def PlainOp (v : Value) : Prop := (∃ s, v = .iface 9 (.string s)) ∨ (∃ z, v = .iface 3 (.int .i64 z))

theorem info9s : ∃ i, Tryf.prog.info? 9 = some i ∧ i.str ≠ "" ∧ i.methods = #[] ∧ (∀ e, i.desc ≠ .pointer e) := by
  refine ⟨Tryf.t9, by kernel_rfl, by decide, rfl, fun e h => by cases h⟩
theorem info3s : ∃ i, Tryf.prog.info? 3 = some i ∧ i.str ≠ "" ∧ i.methods = #[] ∧ (∀ e, i.desc ≠ .pointer e) := by
  refine ⟨Tryf.t3, by kernel_rfl, by decide, rfl, fun e h => by cases h⟩

theorem plain_operand {v : Value} (h : PlainOp v) (name : String) (wrap : Bool) (verb : UInt8) (sharp : Bool) (w : World) : ∃ r, (FmtStop.operand name wrap verb sharp v).run Tryf.prog w = .ok r w := by
  rcases h with ⟨s, rfl⟩ | ⟨z, rfl⟩
  · obtain ⟨info, hi, hs, hm, hd⟩ := info9s
    by_cases h84 : (verb == 84) = true
    · exact ⟨(21 :: FmtStop.pack info.str.toUTF8.data.toList, []), by simp [FmtStop.operand, typeStr, typeInfo, hi, hs, h84]⟩
    · refine ⟨(12 :: FmtStop.pack info.str.toUTF8.data.toList, FmtStop.pack s.data.toList), ?_⟩
      simp [FmtStop.operand, typeStr, typeInfo, hi, hs, h84, underlying, Tryf.underlying9, FmtStop.shape, FmtStop.depth, FmtStop.bare, hm, FmtStop.value, Value.cells]
  · obtain ⟨info, hi, hs, hm, hd⟩ := info3s
    exact FmtStop.operand_any_int z hi hs hm Tryf.underlying3 name wrap verb sharp
theorem plain_strict {v : Value} (h : PlainOp v) (name : String) (w : World) : ∃ r, (FmtStop.strict name v).run Tryf.prog w = .ok r w := by
  rcases h with ⟨s, rfl⟩ | ⟨z, rfl⟩
  · obtain ⟨info, hi, hs, hm, hd⟩ := info9s
    refine ⟨(12 :: FmtStop.pack info.str.toUTF8.data.toList, FmtStop.pack s.data.toList), ?_⟩
    simp [FmtStop.strict, typeStr, typeInfo, hi, hs, underlying, Tryf.underlying9, FmtStop.shape, FmtStop.depth, FmtStop.bare, hm, FmtStop.value, Value.cells]
  · obtain ⟨info, hi, hs, hm, hd⟩ := info3s
    exact FmtStop.strict_any_int z hi hs hm Tryf.underlying3 name
theorem plain_act {v : Value} (h : PlainOp v) (name : String) (wrap : Bool) (verb : UInt8) (sharp : Bool) (w : World) : (FmtCalls.act name wrap verb sharp v).run Tryf.prog w = .ok (.closed wrap) w := by
  rcases h with ⟨s, rfl⟩ | ⟨z, rfl⟩
  · obtain ⟨info, hi, hs, hm, hd⟩ := info9s
    simp [FmtCalls.act, typeInfo, hi, hm]
  · obtain ⟨info, hi, hs, hm, hd⟩ := info3s
    simp [FmtCalls.act, typeInfo, hi, hm]

/-- the call of Sprintf: a text comes back -/
def Prints (args : Array Value) (w : World) : Prop :=
  (∃ s, (callFunc 22 args).run Tryf.prog w = .ok (.value (.string s)) w.drew) ∨
  (∃ row sv, (callFunc 22 args).run Tryf.prog w = .ok (.row row sv) w ∧ ∀ R : Value → World → Prop, (∀ s, R (.string s) w.drew) → Rows Tryf.prog row sv w R)
theorem prints_of {args : Array Value} {w : World} (s : ByteArray) (h : FmtCalls.ComesTo Tryf.prog (FmtCalls.sprintf #[9, 69] #[9] args) w (.string s) w.drew) : Prints args w := by
  unfold Prints
  rw [call22]
  rcases h with h | ⟨row, sv, h, hr⟩
  · exact Or.inl ⟨s, h⟩
  · refine Or.inr ⟨row, sv, h, fun R hR => ?_⟩
    intro c cs
    obtain ⟨v, w', ⟨rfl, rfl⟩, hs⟩ := hr c cs
    exact ⟨_, _, hR _, hs⟩

theorem loads {w : World} {b : Nat} {vs : List Value} (hc : ∀ j v, vs[j]? = some v → w.cell? ⟨b, j, none⟩ = some v) : ∀ j v, vs[j]? = some v → w.cell? ((⟨b, 0, none⟩ : Addr).add j) = some v := by
  intro j v h
  have e : (⟨b, 0, none⟩ : Addr).add j = ⟨b, j, none⟩ := by
    unfold Addr.add
    split
    · rename_i h; rw [h]
    · simp
  rw [e]; exact hc j v h

theorem prints_any (F : Interp) (w : World) (hF : F.answers w.tape) (f : ByteArray) (b n cap : Nat) (vs : List Value) (hn : vs.length = n) (hc : ∀ j v, vs[j]? = some v → w.cell? ⟨b, j, none⟩ = some v) (hp : ∀ v ∈ vs, PlainOp v) :
    Prints #[.string f, .slice (some ⟨b, 0, none⟩) n cap] w := by
  have hcells : (FmtStop.cells (.slice (some ⟨b, 0, none⟩) n cap)).run Tryf.prog w = .ok vs w := by
    have := run_loadCells_list (P := Tryf.prog) w ⟨b, 0, none⟩ vs (loads hc)
    rw [hn] at this
    simp [FmtStop.cells, this]
  have hany := FmtStop.sprintf_any_format (P := Tryf.prog) F hF #[9, 69] #[9] f (.slice (some ⟨b, 0, none⟩) n cap) vs (guard22 _ w) hcells (fun v hv verb sharp => plain_operand (hp v hv) _ _ _ _ w) (fun v hv => plain_strict (hp v hv) _ w)
  obtain ⟨ops, hany⟩ := hany
  exact prints_of _ (FmtCalls.sprintf_alike #[9, 69] #[9] #[9, 69] #[9] f ⟨b, 0, none⟩ n cap _ _ hany)
theorem prints_nil (F : Interp) (w : World) (hF : F.answers w.tape) (f : ByteArray) : Prints #[.string f, .slice none 0 0] w := by
  have hany := FmtStop.sprintf_any_format (P := Tryf.prog) F hF #[9, 69] #[9] f (.slice none 0 0) [] (guard22 _ w) (by simp [FmtStop.cells]) (fun v hv => by cases hv) (fun v hv => by cases hv)
  obtain ⟨ops, hany⟩ := hany
  exact prints_of _ (FmtCalls.sprintf_alike_nil #[9, 69] #[9] #[9, 69] #[9] f 0 _ _ hany)
end Go.Proofs.Qxb6002619aFmt
