/-
  Pair's own errorf: one diagnostic more.
-/
import Derived.Test.Qxb6002619aFmtTell
namespace Go.Proofs.Qxb6002619aFmt
open Go.RowKit Go.Extern.Stop Go.Stop Go.Extern

/-- what a diagnostic leaves alone -/
def Kept (Q : Nat) (w w' : World) : Prop := w.heap.size ≤ w'.heap.size ∧ ∀ k cur t z, w.heap[k]? = some (.cells cur t z) → t ≠ 65 → k ≠ Q + 1 → w'.heap[k]? = w.heap[k]?
theorem Kept.below {Q : Nat} {w w1 w' : World} (hb : Below w.heap.size w w1) (h : Kept Q w1 w') : Kept Q w w' :=
  ⟨Nat.le_trans hb.size h.1, fun k cur t z hk ht hq => (h.2 k cur t z ((hb.block k (lt_of_block hk)).trans hk) ht hq).trans (hb.block k (lt_of_block hk))⟩

theorem info65 : (Tryf.prog.info? 65).map (fun i => (i.zero, i.size, i.bytes)) = some (some (.agg #[.int .i64 0, .int .i64 0, .string ⟨#[]⟩, .bool false]), 4, 40) := by kernel_rfl

section
variable {w0 : World} {rb Q pb sb D : Nat} {l : List It} {σ : PS} {bo so : Option Addr} {cB sc : Nat} {w : World}
theorem St.told (h : St w0 rb Q pb sb l σ D bo so cB sc w) (h0 : w0.heap.size ≤ rb) (hr : rb < Q) (hs : sb < rb) {p : Option Addr} {d c : Nat} {ds news : List Value} (hd1 : w.heap[Q + 1]? = some (.cells #[.slice p d c] 30)) (hd2 : w.ownsRow (Q + 2) 65 4 (.slice p d c) d ds) (hd4 : d ≤ D)
    {w1 w' : World} {v' : Value} (hb : Below w.heap.size w w1) (ho : w'.ownsRow (Q + 2) 65 4 v' (d + 1) (ds ++ news)) (hg : w1.grownBy w' (Value.slice p d c).ownBlock) :
    ∃ g cap, v' = .slice (some ⟨g, 0, none⟩) (d + 1) cap ∧ Q + 1 < w'.heap.size ∧ w'.heap[Q + 1]? = w.heap[Q + 1]? ∧
      St w0 rb Q pb sb l ⟨σ.B, σ.O, σ.S, true⟩ (D + 1) bo so cB sc (w'.setCell ⟨Q + 1, 0, none⟩ (.slice (some ⟨g, 0, none⟩) (d + 1) cap)) ∧ Kept Q w (w'.setCell ⟨Q + 1, 0, none⟩ (.slice (some ⟨g, 0, none⟩) (d + 1) cap)) := by
  obtain ⟨g, cap, hv⟩ : ∃ g cap, v' = .slice (some ⟨g, 0, none⟩) (d + 1) cap := by
    rcases ho.2 with ⟨_, h0⟩ | ⟨g, cap, cur, hv, _⟩
    · omega
    · exact ⟨g, cap, hv⟩
  subst hv
  have hql := h.qlt
  have keep : ∀ k, k < w.heap.size → (k < Q + 2 ∨ ∃ cur e' z, e' ≠ 65 ∧ w.heap[k]? = some (.cells cur e' z)) → w'.heap[k]? = w.heap[k]? := fun k hk hc => own_keeps hd2 hb hg hk hc
  have keep2 : ∀ k, k ≠ Q + 1 → k < w.heap.size → (k < Q + 2 ∨ ∃ cur e' z, e' ≠ 65 ∧ w.heap[k]? = some (.cells cur e' z)) → (w'.setCell ⟨Q + 1, 0, none⟩ (.slice (some ⟨g, 0, none⟩) (d + 1) cap)).heap[k]? = w.heap[k]? := fun k hne hk hc => (heap_setCell_other w' ⟨Q + 1, 0, none⟩ k _ hne).trans (keep k hk hc)
  have hw' : w.heap.size ≤ w'.heap.size := Nat.le_trans hb.size hg.size
  refine ⟨g, cap, rfl, by omega, keep (Q + 1) hql (Or.inl (by omega)), ?_, by simpa using hw', fun k cur t z hk ht hq => keep2 k hq (lt_of_block hk) (Or.inr ⟨cur, t, z, ht, hk⟩)⟩
  refine ⟨⟨hg.os.trans (hb.os.trans h.grown.os), hg.tape.trans (hb.tape.trans h.grown.tape), hg.output.trans (hb.output.trans h.grown.output), by simpa using Nat.le_trans h.grown.size hw', fun k hk hne => (keep2 k (by omega) (Nat.lt_of_lt_of_le hk h.grown.size) (Or.inl (by omega))).trans (h.grown.block k hk hne)⟩, (keep2 Q (by omega) (by omega) (Or.inl (by omega))).trans h.set, ?_, ?_, ?_, ?_, ?_⟩
  · refine ⟨some ⟨g, 0, none⟩, d + 1, cap, ds ++ news, ?_, ?_, ⟨fun h => by omega, fun h => by cases h⟩, by omega⟩
    · have := heap_setCell_same w' (Q + 1) 0 _ 30 (.slice (some ⟨g, 0, none⟩) (d + 1) cap) ((keep (Q + 1) hql (Or.inl (by omega))).trans hd1)
      simpa using this
    · exact owns_tag ho fun k c hk _ => heap_setCell_other w' ⟨Q + 1, 0, none⟩ k _ (by show k ≠ Q + 1; omega)
  · obtain ⟨xs, h1, h2⟩ := h.inner
    exact ⟨xs, h1, h2.of_block (keep2 rb (by omega) h2.lt (Or.inl (by omega)))⟩
  · exact owns_tag h.blocks fun k c hk hh => keep2 k (by omega) (lt_of_block hh) (Or.inr ⟨c, 40, _, by decide, hh⟩)
  · exact owns_tag h.opens fun k c hk hh => keep2 k (by omega) (lt_of_block hh) (Or.inr ⟨c, 3, _, by decide, hh⟩)
  · exact h.rows.of_block (keep2 sb (by omega) h.rows.lt (Or.inl (by omega)))
end

/-- a call of a Go function, as one step of a region that draws -/
theorem step_call {P : Program} {ops : Array Oper} {o : Oper} {a : Act} {w : World} {K : Act → World → Prop} {Q : Exit → Act → World → Prop} {E : Prop}
    (hg : o.guard = none) (f : FuncId) (args : Array Value) (hrun : (execOp a.eval o).run P w = .ok (.enter f args) w) (R : Value → World → Prop)
    (hc : Calls P f args w fun e w' => ∃ v, e = .returned v ∧ R v w') (hK : ∀ v w', R v w' → K (a.put o.dst v) w') :
    if Region.wanted o (yielded ops a.tmps) = true then Oper.wp P o a w K Q else E := by
  have hw : Region.wanted o (yielded ops a.tmps) = true := by simp [Region.wanted, hg]
  rw [if_pos hw]
  unfold Oper.wp
  rw [hrun, Oper.upon_enter]
  refine hc.mono ?_
  rintro e w' ⟨v, rfl, hv⟩
  exact hK v w' hv

theorem news4 (w : World) (a b c d : Value) (t : TypeId) : ∀ (j : Nat) (u : Value), [a, b, c, d][j]? = some u → (w.alloc (.cells #[a, b, c, d] t)).cell? ((⟨w.heap.size, 0, none⟩ : Addr).add j) = some u := by
  refine loads (vs := [a, b, c, d]) fun j v h => ?_
  rw [cell_of (alloc_new w (.cells #[a, b, c, d] t)) j]
  simpa using h
theorem diag_one (a b : Int) (s : ByteArray) (c : Bool) : ∀ u ∈ [Value.int .i64 a, .int .i64 b, .string s, .bool c], u.oneCell' = true := by
  intro u hu
  simp only [List.mem_cons, List.not_mem_nil, or_false] at hu
  rcases hu with rfl | rfl | rfl | rfl <;> rfl

def TellPost (w0 : World) (rb Q pb sb : Nat) (l : List It) (σ : PS) (D : Nat) (bo so : Option Addr) (cB sc : Nat) (w : World) (e' : Ending) (w' : World) : Prop :=
  e' = .returned (.tuple #[]) ∧ St w0 rb Q pb sb l ⟨σ.B, σ.O, σ.S, true⟩ (D + 1) bo so cB sc w' ∧ Kept Q w w'

set_option maxHeartbeats 4000000 in
theorem tell_any {w0 : World} {rb Q pb sb D : Nat} {l : List It} {σ : PS} {bo so : Option Addr} {cB sc : Nat} {w : World} (num fl : Int) (T : TypeId) (X : Value) (f : ByteArray) (a : Value)
    (hT : St w0 rb Q pb sb l σ D bo so cB sc w) (h0 : w0.heap.size ≤ rb) (hr : rb < Q) (hs : sb < rb) (hD : D ≤ 16000) (hp : ∀ W, Below w.heap.size w W → Prints #[.string f, a] W) :
    Calls Tryf.prog 14 #[.agg #[.int .i64 num, .int .i64 fl, .iface T X], .string f, a, .pointer (some ⟨Q + 1, 0, none⟩)] w fun e' w' => TellPost w0 rb Q pb sb l σ D bo so cB sc w e' w' := by
  obtain ⟨i4, hi4, hy0, hy1, hy2⟩ := info_parts info65
  obtain ⟨p, d, c, ds, hd1, hd2, hd3, hd4⟩ := hT.dg
  have HT := hide hT
  have H0 := hide h0
  have HR := hide hr
  have HS := hide hs
  have HP := hide hp
  have HD1 := hide hd1
  have HD2 := hide hd2
  have hql : Q + 1 < w.heap.size := hT.qlt
  have hql1 : Q + 1 < w.heap.size + 1 := by omega
  have q0 : w.cell? ⟨Q + 1, 0, none⟩ = some (.slice p d c) := cell_of hd1 0
  clear hT h0 hr hs hp hd1 hd2
  go_enter Tryf.func14, Tryf.ntmps14
  go_wp2_with fail
  have HB1 : Hid (Below w.heap.size w (w.alloc (.cells #[.int .i64 num, .int .i64 fl, .iface T X] 54)).drew) := ((Below.refl _ _).alloc (Nat.le_refl _) _).drew
  have HC : Hid (Calls Tryf.prog 15 #[.int .i64 num, .int .i64 fl, .string f, a] (w.alloc (.cells #[.int .i64 num, .int .i64 fl, .iface T X] 54)).drew fun e' w' => ∃ v, e' = .returned v ∧ ((∃ s, v = .agg #[.int .i64 num, .int .i64 fl, .string s, .bool false]) ∧ Below w.heap.size w w')) :=
    (errorf_any num fl f a _ (fun o => HP.out _ (HB1.out.alloc (Nat.le_of_lt (by simp)) o))).mono (fun e w' ⟨⟨s, he⟩, hb⟩ => ⟨_, he, ⟨s, rfl⟩, HB1.out.trans (hb.mono HB1.out.size)⟩)
  have HOW : Hid (∀ W, Below w.heap.size w W → ∀ o, (W.alloc o).ownsRow (Q + 2) 65 4 (.slice p d c) d ds) := fun W hW o => owns_frame HD2.out fun k _ hk => (hW.alloc hW.size o).block k hk
  have HQL := hide hql
  go_region_law (first
    | (refine step_append_own rfl (.tmp 7) (.tmp 15) 30 rfl (Q + 2) 65 i4 _ 4 40 Tryf.underlying30 hi4 hy0 hy1 hy2 rfl (by decide) (.slice p d c) d ds (by simp [Act.eval]) (HOW.out w2 HB2.out _) ⟨w2.heap.size, 0, none⟩ 1 1 [.int .i64 num, .int .i64 fl, .string s2, .bool false] (by simp [Act.eval]) rfl (news4 w2 _ _ _ _ 65) (diag_one _ _ _ _) (by unfold maxLen; omega) (by omega) (by have := HQL.out; have := HB2.out.size; simp; omega) ?_; intro v' w' ho' hg' _; obtain ⟨gn, cap, rfl, hqw, hqb, hst, hkp⟩ := HT.out.told H0.out HR.out HS.out HD1.out HD2.out hd4 (HB2.out.alloc HB2.out.size _) ho' hg'; have HST := hide hst; have HKP := hide hkp; have q1w : w'.cell? ⟨Q + 1, 0, none⟩ = some (.slice p d c) := (World.cell?_of_block hqb).trans (cell_of HD1.out 0); have qfw : w'.frozen? ⟨Q + 1, 0, none⟩ = false := (World.frozen?_of_block hqb).trans (by simp [World.frozen?, HD1.out]); clear hst hkp ho' hg' hqb)
    | (refine step_call rfl 15 #[.int .i64 num, .int .i64 fl, .string f, a] (by go_simp) _ HC.out ?_; rintro v2 w2 ⟨⟨s2, rfl⟩, hb2⟩; have HB2 := hide hb2; have q2 : w2.cell? ⟨Q + 1, 0, none⟩ = some (.slice p d c) := (World.cell?_of_block (hb2.block _ HQL.out)).trans (cell_of HD1.out 0); have hql2 : Q + 1 < w2.heap.size := Nat.lt_of_lt_of_le HQL.out hb2.size; clear hb2))
  all_goals go_wp2
  all_goals go_end0
  all_goals exact ⟨rfl, HST, HKP⟩
end Go.Proofs.Qxb6002619aFmt
