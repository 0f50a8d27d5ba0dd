/-
  What the arms with a diagnostic share.
-/
import Derived.Test.Qxb6002619aFmtAt
import Derived.Test.Qxb6002619aFmtCode
namespace Go.Proofs.Qxb6002619aFmt
open Go.RowKit Go.Extern.Stop Go.Stop Go.Extern

/-- the region of number k -/
def regionOf (k : Nat) : Code → Option Code
  | .region i o d => if i == k then some (.region i o d) else none
  | .seq a b => match regionOf k a with
    | some c => some c
    | none => regionOf k b
  | .block _ c => regionOf k c
  | .loop c => regionOf k c
  | .cond _ a b => match regionOf k a with
    | some c => some c
    | none => regionOf k b
  | _ => none
/-- the block of number k -/
def blockOf (k : Nat) : Code → Option Code
  | .seq a b => match blockOf k a with
    | some c => some c
    | none => blockOf k b
  | .block i c => if i == k then some (.block i c) else blockOf k c
  | .loop c => blockOf k c
  | .cond _ a b => match blockOf k a with
    | some c => some c
    | none => blockOf k b
  | _ => none

theorem Kept.of_below {Q : Nat} {w w' : World} (hb : Below w.heap.size w w') : Kept Q w w' := ⟨hb.size, fun k _ _ _ hk _ _ => hb.block k (lt_of_block hk)⟩
theorem Kept.trans {Q : Nat} {w w1 w2 : World} (h : Kept Q w w1) (h' : Kept Q w1 w2) : Kept Q w w2 :=
  ⟨Nat.le_trans h.1 h'.1, fun k cur t z hk ht hq => (h'.2 k cur t z ((h.2 k cur t z hk ht hq).trans hk) ht hq).trans (h.2 k cur t z hk ht hq)⟩
theorem Kept.cell {Q : Nat} {w w' : World} (h : Kept Q w w') {k : Nat} {cur : Array Value} {t : TypeId} {z : Nat × Nat} (hk : w.heap[k]? = some (.cells cur t z)) (ht : t ≠ 65) (hq : k ≠ Q + 1) {j : Nat} {v : Value} (hc : w.cell? ⟨k, j, none⟩ = some v) : w'.cell? ⟨k, j, none⟩ = some v :=
  (World.cell?_of_block (h.2 k cur t z hk ht hq)).trans hc

section
variable {w0 : World} {rb Q pb sb D : Nat} {l : List It} {σ : PS} {bo so : Option Addr} {cB sc : Nat} {w : World}
/-- an open block -/
theorem St.openAt (h : St w0 rb Q pb sb l σ D bo so cB sc w) {j o : Nat} (hj : σ.O[j]? = some o) : ∃ gO cur, so = some ⟨gO, 0, none⟩ ∧ w.heap[gO]? = some (.cells cur 3 (0, 0)) ∧ Q + 2 ≤ gO ∧ σ.O.length ≤ sc ∧ w.cell? ⟨gO, j, none⟩ = some (.int .i64 (o : Int)) := by
  have hjl : j < σ.O.length := (List.getElem?_eq_some_iff.1 hj).1
  have ho := h.opens
  rcases ho.2 with ⟨_, h0⟩ | ⟨g, c, cur, hv, h2, hh, h3, _⟩
  · omega
  · cases hv
    refine ⟨g, cur, rfl, hh, h2, h3, ?_⟩
    refine (ho.cellAt j (by omega)).trans ?_
    simp [ints, hj]
theorem St.blkAt (h : St w0 rb Q pb sb l σ D bo so cB sc w) {o : Nat} (ho : o < σ.B.length) : ∃ gB cur, bo = some ⟨gB, 0, none⟩ ∧ w.heap[gB]? = some (.cells cur 40 (0, 0)) ∧ Q + 2 ≤ gB ∧
    w.cell? ⟨gB, o * 3, none⟩ = some (.int .i64 (vAt σ.B o)) ∧ w.cell? ⟨gB, o * 3 + 1, none⟩ = some (.int .i64 (fAt σ.B o)) ∧ w.cell? ⟨gB, o * 3 + 2, none⟩ = some (.int .i64 (σ.B.getD o Blk.none).l) := by
  rcases h.blocks.2 with ⟨hv, h0⟩ | ⟨g, c, cur, hv, h2, hh, _⟩
  · omega
  · cases hv
    obtain ⟨g', c', cur', hvB, hhB, _, _, hcells, _⟩ := BlkAt.get (owns_low h.blocks) (by omega)
    cases hvB
    obtain ⟨b0, b1, b2⟩ := hcells o ho
    exact ⟨g, cur, rfl, hh, h2, b0, b1, b2⟩
end

/-- what stands in memory of the program that is checked -/
structure Prg (w : World) (pb sb : Nat) (vo : Option Addr) (c : Nat) (ns : List ByteArray) (l : List It) : Prop where
  p0 : w.cell? ⟨pb, 0, none⟩ = some (.slice (some ⟨sb, 0, none⟩) l.length l.length)
  p1 : w.cell? ⟨pb, 1, none⟩ = some (.slice vo ns.length c)
  nm : NamesB w pb vo ns
  lt : pb < sb
  sl : sb < w.heap.size
theorem Prg.grown {w w' : World} {pb sb : Nat} {vo : Option Addr} {c : Nat} {ns : List ByteArray} {l : List It} (h : Prg w pb sb vo c ns l) (hg : w.grownBy w' (some sb)) : Prg w' pb sb vo c ns l := by
  have hlt := h.lt
  have hsl := h.sl
  have hne : some pb ≠ some sb := by simp; omega
  exact ⟨(World.cell?_of_block (hg.block pb (by show pb < w.heap.size; omega) hne)).trans h.p0, (World.cell?_of_block (hg.block pb (by show pb < w.heap.size; omega) hne)).trans h.p1, NamesB.grown h.nm hg (by omega) (by omega), hlt, Nat.lt_of_lt_of_le hsl hg.size⟩

section
variable {w0 : World} {rb Q pb sb D : Nat} {l : List It} {σ : PS} {bo so : Option Addr} {cB sc : Nat} {w : World} {vo : Option Addr} {c : Nat} {ns : List ByteArray}
/-- varName, in Pair -/
theorem St.name (h : St w0 rb Q pb sb l σ D bo so cB sc w) (hP : Prg w0 pb sb vo c ns l) (v : Int) (h0 : 0 ≤ v) (h1 : v < ns.length) :
    Calls Tryf.prog 17 #[.pointer (some ⟨Q, 0, none⟩), .agg #[.int .i64 v]] w fun e' w' => ∃ x, e' = .returned x ∧ ((∃ s, x = .string s) ∧ Below w.heap.size w w') := by
  have hp := hP.grown h.grown
  have := hp.lt
  have := hp.sl
  refine (varName_any Q pb vo c pb ns v w (cell_of h.set 0) hp.p1 (by have := h.qlt; omega) (by omega) hp.nm (by omega) h0 h1).mono ?_
  rintro e' w' ⟨⟨s, rfl⟩, hb⟩
  exact ⟨_, rfl, ⟨s, rfl⟩, hb⟩
/-- ForAt, in Pair -/
theorem St.at (h : St w0 rb Q pb sb l σ D bo so cB sc w) (hP : Prg w0 pb sb vo c ns l) (F : Interp) (hF : F.answers w0.tape) (v z : Int) (f : Nat) (h0 : 0 ≤ v) (h1 : v < ns.length) (hf : f < l.length) :
    Calls Tryf.prog 18 #[.pointer (some ⟨Q, 0, none⟩), .agg #[.int .i64 v, .int .i64 f, .int .i64 z]] w fun e' w' => ∃ x, e' = .returned x ∧ ((∃ s, x = .string s) ∧ Below w.heap.size w w') := by
  have hp := hP.grown h.grown
  have := hp.lt
  have := hp.sl
  refine (forAt_any F Q pb sb vo c pb ns l σ.S v z f w (by rw [h.grown.tape]; exact hF) (cell_of h.set 0) hp.p0 hp.p1 (by have := h.qlt; omega) (by omega) hp.nm (by omega) h0 h1 h.rows hf).mono ?_
  rintro e' w' ⟨⟨s, rfl⟩, hb⟩
  exact ⟨_, rfl, ⟨s, rfl⟩, hb⟩
/-- errorf, in Pair -/
theorem St.tell (h : St w0 rb Q pb sb l σ D bo so cB sc w) (h0 : w0.heap.size ≤ rb) (hr : rb < Q) (hs : sb < rb) (hD : D ≤ 16000) (F : Interp) (hF : F.answers w0.tape) (num fl : Int) (T : TypeId) (X : Value) (f : ByteArray) (b n cap : Nat) (vs : List Value) (hn : vs.length = n)
    (hc : ∀ j v, vs[j]? = some v → w.cell? ⟨b, j, none⟩ = some v) (hb : b < w.heap.size) (hp : ∀ v ∈ vs, PlainOp v) :
    Calls Tryf.prog 14 #[.agg #[.int .i64 num, .int .i64 fl, .iface T X], .string f, .slice (some ⟨b, 0, none⟩) n cap, .pointer (some ⟨Q + 1, 0, none⟩)] w fun e' w' => ∃ x, e' = .returned x ∧ (x = .tuple #[] ∧ St w0 rb Q pb sb l ⟨σ.B, σ.O, σ.S, true⟩ (D + 1) bo so cB sc w' ∧ Kept Q w w') := by
  refine (tell_any num fl T X f (.slice (some ⟨b, 0, none⟩) n cap) h h0 hr hs hD (fun W hW => prints_any F W (by rw [hW.tape, h.grown.tape]; exact hF) f b n cap vs hn (fun j v hj => (hW.cell (by exact hb)).trans (hc j v hj)) hp)).mono ?_
  rintro e' w' ⟨rfl, h1, h2⟩
  exact ⟨_, rfl, rfl, h1, h2⟩
theorem St.tell0 (h : St w0 rb Q pb sb l σ D bo so cB sc w) (h0 : w0.heap.size ≤ rb) (hr : rb < Q) (hs : sb < rb) (hD : D ≤ 16000) (F : Interp) (hF : F.answers w0.tape) (num fl : Int) (T : TypeId) (X : Value) (f : ByteArray) :
    Calls Tryf.prog 14 #[.agg #[.int .i64 num, .int .i64 fl, .iface T X], .string f, .slice none 0 0, .pointer (some ⟨Q + 1, 0, none⟩)] w fun e' w' => ∃ x, e' = .returned x ∧ (x = .tuple #[] ∧ St w0 rb Q pb sb l ⟨σ.B, σ.O, σ.S, true⟩ (D + 1) bo so cB sc w' ∧ Kept Q w w') := by
  refine (tell_any num fl T X f (.slice none 0 0) h h0 hr hs hD (fun W hW => prints_nil F W (by rw [hW.tape, h.grown.tape]; exact hF) f)).mono ?_
  rintro e' w' ⟨rfl, h1, h2⟩
  exact ⟨_, rfl, rfl, h1, h2⟩
end
theorem wsame (m : Nat) (h : m ≤ 4096) : IntKind.i64.wrap (m : Int) = m := by simp [IntKind.wrap, IntKind.bits, IntKind.signed]; omega
theorem wback (m : Nat) (h : m ≤ 4096) : IntKind.i64.wrap ((m : Int) + 1 - 1) = m := by simp [IntKind.wrap, IntKind.bits, IntKind.signed]; omega
theorem wnext (m : Nat) (h : m ≤ 4096) : IntKind.i64.wrap ((m : Int) + 1) = (m : Int) + 1 := by simp [IntKind.wrap, IntKind.bits, IntKind.signed]; omega
theorem plain1 (s : ByteArray) : ∀ v ∈ [Value.iface 9 (.string s)], PlainOp v := by
  intro v hv
  simp only [List.mem_singleton] at hv
  exact Or.inl ⟨_, hv⟩
theorem plain2 (s t : ByteArray) : ∀ v ∈ [Value.iface 9 (.string s), .iface 9 (.string t)], PlainOp v := by
  intro v hv
  simp only [List.mem_cons, List.not_mem_nil, or_false] at hv
  rcases hv with rfl | rfl
  · exact Or.inl ⟨_, rfl⟩
  · exact Or.inl ⟨_, rfl⟩
theorem plain3 (s t u : ByteArray) : ∀ v ∈ [Value.iface 9 (.string s), .iface 9 (.string t), .iface 9 (.string u)], PlainOp v := by
  intro v hv
  simp only [List.mem_cons, List.not_mem_nil, or_false] at hv
  rcases hv with rfl | rfl | rfl
  · exact Or.inl ⟨_, rfl⟩
  · exact Or.inl ⟨_, rfl⟩
  · exact Or.inl ⟨_, rfl⟩
theorem three_cells {w : World} {a b c : Value} {t : TypeId} : ∀ (j : Nat) (v : Value), [a, b, c][j]? = some v → (w.alloc (.cells #[a, b, c] t)).cell? ⟨w.heap.size, j, none⟩ = some v := by
  intro j v h
  rw [cell_of (alloc_new w (.cells #[a, b, c] t)) j]
  simpa using h
end Go.Proofs.Qxb6002619aFmt
