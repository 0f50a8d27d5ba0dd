/-
  The memory of Pair at one statement.
-/
import Derived.Test.Qxb6002619aFmtJoin
import Derived.Deep.RegionLaw
import Derived.Deep.RegionWith
import Derived.Deep.CutRange
namespace Go.Proofs.Qxb6002619aFmt
open Go.RowKit

/-- append to a row of the call's own, as one step of a region that draws -/
theorem step_append_own {P : Program} {ops : Array Oper} {o : Oper} {a : Act} {w : World} {K : Act → World → Prop} {Q : Exit → Act → World → Prop} {E : Prop}
    (hg : o.guard = none) (s x : Operand) (t : TypeId) (hop : o.op = Op.call { callee := Callee.builtin Builtin.append, args := #[s, x], argTypes := #[t, t] })
    (base : Nat) (e : TypeId) (i : TypeInfo) (z : Value) (size bytes : Nat) (h1 : P.underlying t = some (.slice e)) (h2 : P.info? e = some i) (h3 : i.zero = some z) (h4 : i.size = size) (h5 : i.bytes = bytes) (h6 : z.cells.size = size) (h7 : 0 < size)
    (v : Value) (n : Nat) (xs : List Value) (hs : a.eval s = v) (hown : w.ownsRow base e size v n xs)
    (ad : Addr) (m c : Nat) (news : List Value) (hx : a.eval x = .slice (some ad) m c) (hn : news.length = m * size) (hc : ∀ j u, news[j]? = some u → w.cell? (ad.add j) = some u) (h1c : ∀ u ∈ news, u.oneCell' = true)
    (b1 : n + m ≤ maxLen) (b2 : (n + m) * bytes ≤ 140737488355328) (b3 : base ≤ w.heap.size)
    (hK : ∀ v' w', w'.ownsRow base e size v' (n + m) (xs ++ news) → w.grownBy w' v.ownBlock → (v' = .slice none 0 0 ↔ v = .slice none 0 0 ∧ m = 0) → K (a.put o.dst v') w') :
    if Region.wanted o (yielded ops a.tmps) = true then Oper.wp P o a w K Q else E := by
  have hw : Region.wanted o (yielded ops a.tmps) = true := by simp [Region.wanted, hg]
  rw [if_pos hw]
  exact wp_append_own w s x t hop base e i z size bytes h1 h2 h3 h4 h5 h6 h7 v n xs hs hown ad m c news hx hn hc h1c b1 b2 b3 hK

/-- the diagnostics: none while no rule is broken -/
def Dg (Q D : Nat) (er : Bool) (w : World) : Prop :=
  ∃ (p : Option Addr) (d c : Nat) (ds : List Value), w.heap[Q + 1]? = some (.cells #[.slice p d c] 30) ∧ w.ownsRow (Q + 2) 65 4 (.slice p d c) d ds ∧ (d = 0 ↔ er = false) ∧ d ≤ D

/-- what Pair holds at statement i -/
structure St (w0 : World) (rb Q pb sb : Nat) (l : List It) (σ : PS) (D : Nat) (bo so : Option Addr) (cB sc : Nat) (w : World) : Prop where
  grown : w0.grownBy w (some sb)
  set : w.heap[Q]? = some (.cells #[.pointer (some ⟨pb, 0, none⟩), .slice bo σ.B.length cB, .slice (some ⟨rb, 0, none⟩) l.length l.length] 68)
  dg : Dg Q D σ.err w
  inner : ∃ xs : List Int, xs.length = l.length ∧ RowI w rb l.length xs
  blocks : w.ownsRow (Q + 2) 40 3 (.slice bo σ.B.length cB) σ.B.length (flatB σ.B)
  opens : w.ownsRow (Q + 2) 3 1 (.slice so σ.O.length sc) σ.O.length (ints (σ.O.map fun o : Nat => (o : Int)))
  rows : RowP w sb l σ.S l.length

theorem owns_tag {w w' : World} {base size n : Nat} {e : TypeId} {v : Value} {xs : List Value} (h : w.ownsRow base e size v n xs) (hb : ∀ k cur, base ≤ k → w.heap[k]? = some (.cells cur e (0, 0)) → w'.heap[k]? = w.heap[k]?) : w'.ownsRow base e size v n xs := by
  obtain ⟨h1, ⟨hx, h0⟩ | ⟨g, cap, cur, hx, h2, hh, h3⟩⟩ := h
  · exact ⟨h1, Or.inl ⟨hx, h0⟩⟩
  · exact ⟨h1, Or.inr ⟨g, cap, cur, hx, h2, by rw [hb g cur h2 hh]; exact hh, h3⟩⟩
theorem owns_frame {w w' : World} {base size n : Nat} {e : TypeId} {v : Value} {xs : List Value} (h : w.ownsRow base e size v n xs) (hb : ∀ k, base ≤ k → k < w.heap.size → w'.heap[k]? = w.heap[k]?) : w'.ownsRow base e size v n xs :=
  owns_tag h fun k _ h1 h2 => hb k h1 (lt_of_block h2)
theorem owns_low {w : World} {base size n : Nat} {e : TypeId} {v : Value} {xs : List Value} (h : w.ownsRow base e size v n xs) : w.ownsRow 0 e size v n xs := by
  obtain ⟨h1, ⟨hx, h0⟩ | ⟨g, cap, cur, hx, h2, hh, h3⟩⟩ := h
  · exact ⟨h1, Or.inl ⟨hx, h0⟩⟩
  · exact ⟨h1, Or.inr ⟨g, cap, cur, hx, Nat.zero_le _, hh, h3⟩⟩
theorem Dg.tag {Q D : Nat} {er : Bool} {w w' : World} (h : Dg Q D er w) (h1 : w'.heap[Q + 1]? = w.heap[Q + 1]?) (hb : ∀ k cur, Q + 2 ≤ k → w.heap[k]? = some (.cells cur 65 (0, 0)) → w'.heap[k]? = w.heap[k]?) : Dg Q D er w' := by
  obtain ⟨p, d, c, ds, a, b, e, f⟩ := h
  exact ⟨p, d, c, ds, h1.trans a, owns_tag b hb, e, f⟩
theorem Dg.more {Q D D' : Nat} {er : Bool} {w : World} (h : Dg Q D er w) (hd : D ≤ D') : Dg Q D' er w := by
  obtain ⟨p, d, c, ds, a, b, e, f⟩ := h
  exact ⟨p, d, c, ds, a, b, e, by omega⟩
/-- two blocks of two kinds are two -/
theorem tag_ne {w : World} {g g' : Nat} {c c' : Array Value} {e e' : TypeId} {z z' : Nat × Nat} (h : w.heap[g]? = some (.cells c e z)) (h' : w.heap[g']? = some (.cells c' e' z')) (hne : e ≠ e') : g ≠ g' := by
  rintro rfl
  rw [h] at h'
  cases h'
  exact hne rfl

section
variable {w0 : World} {rb Q pb sb D : Nat} {l : List It} {σ : PS} {bo so : Option Addr} {cB sc : Nat} {w : World}
theorem St.qlt (h : St w0 rb Q pb sb l σ D bo so cB sc w) : Q + 1 < w.heap.size := by
  obtain ⟨p, d, c, ds, a, _⟩ := h.dg
  exact lt_of_block a
theorem St.more (h : St w0 rb Q pb sb l σ D bo so cB sc w) {D' : Nat} (hd : D ≤ D') : St w0 rb Q pb sb l σ D' bo so cB sc w := ⟨h.grown, h.set, h.dg.more hd, h.inner, h.blocks, h.opens, h.rows⟩
theorem St.frame (h : St w0 rb Q pb sb l σ D bo so cB sc w) {w' : World} (hg : w0.grownBy w' (some sb)) (hb : ∀ k, k < w.heap.size → (Q ≤ k ∨ k = sb) → w'.heap[k]? = w.heap[k]?) (hin : ∃ xs : List Int, xs.length = l.length ∧ RowI w' rb l.length xs) : St w0 rb Q pb sb l σ D bo so cB sc w' where
  grown := hg
  set := by rw [hb Q (by have := h.qlt; omega) (Or.inl (Nat.le_refl _))]; exact h.set
  dg := h.dg.tag (hb (Q + 1) h.qlt (Or.inl (Nat.le_succ _))) fun k _ h1 h2 => hb k (lt_of_block h2) (Or.inl (by omega))
  inner := hin
  blocks := owns_frame h.blocks fun k h1 h2 => hb k h2 (Or.inl (by omega))
  opens := owns_frame h.opens fun k h1 h2 => hb k h2 (Or.inl (by omega))
  rows := h.rows.of_block (hb sb h.rows.lt (Or.inr rfl))
theorem St.below (h : St w0 rb Q pb sb l σ D bo so cB sc w) {w' : World} (hb : Below w.heap.size w w') : St w0 rb Q pb sb l σ D bo so cB sc w' := by
  refine h.frame ⟨hb.os.trans h.grown.os, hb.tape.trans h.grown.tape, hb.output.trans h.grown.output, Nat.le_trans h.grown.size hb.size, fun k hk hne => (hb.block k (Nat.lt_of_lt_of_le hk h.grown.size)).trans (h.grown.block k hk hne)⟩ (fun k hk _ => hb.block k hk) ?_
  obtain ⟨xs, h1, h2⟩ := h.inner
  exact ⟨xs, h1, h2.below hb h2.lt⟩
theorem St.alloc (h : St w0 rb Q pb sb l σ D bo so cB sc w) (o : Obj) : St w0 rb Q pb sb l σ D bo so cB sc (w.alloc o) := h.below ((Below.refl _ _).alloc (Nat.le_refl _) o)
theorem St.drewN (h : St w0 rb Q pb sb l σ D bo so cB sc w) (q : Nat) : St w0 rb Q pb sb l σ D bo so cB sc (w.drewN q) := h.below (Below.drewN2 (Below.refl _ _) q)
theorem St.inset (h : St w0 rb Q pb sb l σ D bo so cB sc w) (h0 : w0.heap.size ≤ rb) (hr : rb < Q) (hs : sb < rb) (j : Nat) (x : Int) : St w0 rb Q pb sb l σ D bo so cB sc (w.setCell ⟨rb, j, none⟩ (.int .i64 x)) := by
  refine h.frame ⟨h.grown.os, h.grown.tape, h.grown.output, by simpa using h.grown.size, fun k hk hne => (heap_setCell_other w ⟨rb, j, none⟩ k _ (by show k ≠ rb; omega)).trans (h.grown.block k hk hne)⟩ (fun k hk hc => heap_setCell_other w ⟨rb, j, none⟩ k _ (by show k ≠ rb; omega)) ?_
  obtain ⟨xs, h1, h2⟩ := h.inner
  exact ⟨xs.set j x, by simpa using h1, h2.set j x⟩
/-- a block of another kind is written -/
theorem St.setOther (h : St w0 rb Q pb sb l σ D bo so cB sc w) (h0 : w0.heap.size ≤ rb) (hr : rb < Q) (hs : sb < rb) {k : Nat} (hk : Q + 2 ≤ k) {cur : Array Value} {t : TypeId} {z : Nat × Nat} (ht : w.heap[k]? = some (.cells cur t z)) (n1 : t ≠ 40) (n2 : t ≠ 3) (n3 : t ≠ 65) (j : Nat) (v : Value) : St w0 rb Q pb sb l σ D bo so cB sc (w.setCell ⟨k, j, none⟩ v) := by
  have ho : ∀ k', k' ≠ k → (w.setCell ⟨k, j, none⟩ v).heap[k']? = w.heap[k']? := fun k' hne => heap_setCell_other w ⟨k, j, none⟩ k' v hne
  refine ⟨⟨h.grown.os, h.grown.tape, h.grown.output, by simpa using h.grown.size, fun k' hk' hne => (ho k' (by omega)).trans (h.grown.block k' hk' hne)⟩, (ho Q (by omega)).trans h.set, h.dg.tag (ho _ (by omega)) fun k' c _ hh => ho k' (tag_ne hh ht n3.symm), ?_, owns_tag h.blocks fun k' c _ hh => ho k' (tag_ne hh ht n1.symm), owns_tag h.opens fun k' c _ hh => ho k' (tag_ne hh ht n2.symm), h.rows.of_block (ho sb (by omega))⟩
  obtain ⟨xs, h1, h2⟩ := h.inner
  exact ⟨xs, h1, h2.of_block (ho rb (by omega))⟩
/-- a row of the call's own has grown: what else stands -/
theorem own_keeps {base size n : Nat} {e : TypeId} {v : Value} {xs : List Value} {w1 w' : World} (hv : w.ownsRow base e size v n xs) (hb : Below w.heap.size w w1) (hg : w1.grownBy w' v.ownBlock) {k : Nat} (hk : k < w.heap.size) (hc : k < base ∨ ∃ cur e' z, e' ≠ e ∧ w.heap[k]? = some (.cells cur e' z)) : w'.heap[k]? = w.heap[k]? := by
  refine (hg.block k (Nat.lt_of_lt_of_le hk hb.size) ?_).trans (hb.block k hk)
  rcases hv.2 with ⟨rfl, _⟩ | ⟨g, cap, cur, rfl, h2, hh, _⟩
  · rintro ⟨⟩
  · show some k ≠ some g
    rintro ⟨⟩
    rcases hc with h | ⟨cur', e', z, hne, h⟩
    · omega
    · exact tag_ne h hh hne rfl
theorem St.appended (h : St w0 rb Q pb sb l σ D bo so cB sc w) (h0 : w0.heap.size ≤ rb) (hr : rb < Q) (hs : sb < rb) (b : Blk) {w1 w' : World} {v' : Value} (hb : Below w.heap.size w w1)
    (ho : w'.ownsRow (Q + 2) 40 3 v' (σ.B.length + 1) (flatB σ.B ++ b.cells)) (hg : w1.grownBy w' (Value.slice bo σ.B.length cB).ownBlock) :
    ∃ g cap, v' = .slice (some ⟨g, 0, none⟩) (σ.B.length + 1) cap ∧ Q < w'.heap.size ∧ w'.heap[Q]? = w.heap[Q]? ∧
      St w0 rb Q pb sb l ⟨σ.B ++ [b], σ.O, σ.S, σ.err⟩ D (some ⟨g, 0, none⟩) so cap sc (w'.setCell ⟨Q, 1, none⟩ (.slice (some ⟨g, 0, none⟩) (σ.B.length + 1) cap)) := by
  obtain ⟨g, cap, cur, hv, hgQ, hh, hrest⟩ : ∃ g cap cur, v' = .slice (some ⟨g, 0, none⟩) (σ.B.length + 1) cap ∧ Q + 2 ≤ g ∧ w'.heap[g]? = some (.cells cur 40 (0, 0)) ∧ True := by
    rcases ho.2 with ⟨_, h0⟩ | ⟨g, cap, cur, hv, h2, hh, _⟩
    · omega
    · exact ⟨g, cap, cur, hv, h2, hh, trivial⟩
  subst hv
  have hql := h.qlt
  have keep : ∀ k, k < w.heap.size → (k < Q + 2 ∨ ∃ cur e' z, e' ≠ 40 ∧ w.heap[k]? = some (.cells cur e' z)) → w'.heap[k]? = w.heap[k]? := fun k hk hc => own_keeps h.blocks hb hg hk hc
  have keep2 : ∀ k, k ≠ Q → k < w.heap.size → (k < Q + 2 ∨ ∃ cur e' z, e' ≠ 40 ∧ w.heap[k]? = some (.cells cur e' z)) → (w'.setCell ⟨Q, 1, none⟩ (.slice (some ⟨g, 0, none⟩) (σ.B.length + 1) cap)).heap[k]? = w.heap[k]? := fun k hne hk hc => (heap_setCell_other w' ⟨Q, 1, none⟩ k _ hne).trans (keep k hk hc)
  have hw' : w.heap.size ≤ w'.heap.size := Nat.le_trans hb.size hg.size
  refine ⟨g, cap, rfl, by omega, keep Q (by omega) (Or.inl (by omega)), ?_⟩
  refine ⟨⟨hg.os.trans (hb.os.trans h.grown.os), hg.tape.trans (hb.tape.trans h.grown.tape), hg.output.trans (hb.output.trans h.grown.output), by simpa using Nat.le_trans h.grown.size hw', fun k hk hne => (keep2 k (by omega) (Nat.lt_of_lt_of_le hk h.grown.size) (Or.inl (by omega))).trans (h.grown.block k hk hne)⟩, ?_, ?_, ?_, ?_, ?_, ?_⟩
  · have := heap_setCell_same w' Q 1 _ 68 (.slice (some ⟨g, 0, none⟩) (σ.B.length + 1) cap) ((keep Q (by omega) (Or.inl (by omega))).trans h.set)
    simpa using this
  · exact h.dg.tag (keep2 _ (by omega) hql (Or.inl (by omega))) fun k c hk hh => keep2 k (by omega) (lt_of_block hh) (Or.inr ⟨c, 65, _, by decide, hh⟩)
  · obtain ⟨xs, h1, h2⟩ := h.inner
    exact ⟨xs, h1, h2.of_block (keep2 rb (by omega) h2.lt (Or.inl (by omega)))⟩
  · have : (σ.B ++ [b]).length = σ.B.length + 1 := by simp
    rw [this, flatB_append, show flatB [b] = b.cells by simp [flatB]]
    exact owns_tag ho fun k c hk _ => heap_setCell_other w' ⟨Q, 1, none⟩ k _ (by show k ≠ Q; omega)
  · exact owns_tag h.opens fun k c hk hh => keep2 k (by omega) (lt_of_block hh) (Or.inr ⟨c, 3, _, by decide, hh⟩)
  · exact h.rows.of_block (keep2 sb (by omega) h.rows.lt (Or.inl (by omega)))
theorem St.opened (h : St w0 rb Q pb sb l σ D bo so cB sc w) (h0 : w0.heap.size ≤ rb) (hr : rb < Q) (hs : sb < rb) (x : Nat) {w1 w' : World} {v' : Value} (hb : Below w.heap.size w w1)
    (ho : w'.ownsRow (Q + 2) 3 1 v' (σ.O.length + 1) (ints (σ.O.map fun o : Nat => (o : Int)) ++ [.int .i64 x])) (hg : w1.grownBy w' (Value.slice so σ.O.length sc).ownBlock) :
    ∃ g cap, v' = .slice (some ⟨g, 0, none⟩) (σ.O.length + 1) cap ∧ St w0 rb Q pb sb l ⟨σ.B, σ.O ++ [x], σ.S, σ.err⟩ D bo (some ⟨g, 0, none⟩) cB cap w' := by
  obtain ⟨g, cap, hv⟩ : ∃ g cap, v' = .slice (some ⟨g, 0, none⟩) (σ.O.length + 1) cap := by
    rcases ho.2 with ⟨_, h0⟩ | ⟨g, cap, cur, hv, _⟩
    · omega
    · exact ⟨g, cap, hv⟩
  subst hv
  have hql := h.qlt
  have keep : ∀ k, k < w.heap.size → (k < Q + 2 ∨ ∃ cur e' z, e' ≠ 3 ∧ w.heap[k]? = some (.cells cur e' z)) → w'.heap[k]? = w.heap[k]? := fun k hk hc => own_keeps h.opens hb hg hk hc
  refine ⟨g, cap, rfl, ?_⟩
  refine ⟨⟨hg.os.trans (hb.os.trans h.grown.os), hg.tape.trans (hb.tape.trans h.grown.tape), hg.output.trans (hb.output.trans h.grown.output), Nat.le_trans h.grown.size (Nat.le_trans hb.size hg.size), fun k hk hne => (keep k (Nat.lt_of_lt_of_le hk h.grown.size) (Or.inl (by omega))).trans (h.grown.block k hk hne)⟩, (keep Q (by omega) (Or.inl (by omega))).trans h.set, ?_, ?_, ?_, ?_, ?_⟩
  · exact h.dg.tag (keep _ hql (Or.inl (by omega))) fun k c hk hh => keep k (lt_of_block hh) (Or.inr ⟨c, 65, _, by decide, hh⟩)
  · obtain ⟨xs, h1, h2⟩ := h.inner
    exact ⟨xs, h1, h2.of_block (keep rb h2.lt (Or.inl (by omega)))⟩
  · exact owns_tag h.blocks fun k c hk hh => keep k (lt_of_block hh) (Or.inr ⟨c, 40, _, by decide, hh⟩)
  · have e1 : (σ.O ++ [x]).length = σ.O.length + 1 := by simp
    have e2 : ints ((σ.O ++ [x]).map fun o : Nat => (o : Int)) = ints (σ.O.map fun o : Nat => (o : Int)) ++ [.int .i64 x] := by simp [ints]
    show w'.ownsRow (Q + 2) 3 1 (.slice (some ⟨g, 0, none⟩) (σ.O ++ [x]).length cap) (σ.O ++ [x]).length (ints ((σ.O ++ [x]).map fun o : Nat => (o : Int)))
    rw [e1, e2]; exact ho
  · exact h.rows.of_block (keep sb h.rows.lt (Or.inl (by omega)))
/-- the block's end is written -/
theorem St.ended (h : St w0 rb Q pb sb l σ D bo so cB sc w) (h0 : w0.heap.size ≤ rb) (hr : rb < Q) (hs : sb < rb) (o : Nat) (hoB : o < σ.B.length) (x : Int) {gB : Nat} (hbo : bo = some ⟨gB, 0, none⟩) :
    St w0 rb Q pb sb l ⟨σ.B.set o ⟨vAt σ.B o, fAt σ.B o, x⟩, σ.O, σ.S, σ.err⟩ D bo so cB sc (w.setCell ⟨gB, o * 3 + 2, none⟩ (.int .i64 x)) := by
  subst hbo
  rcases h.blocks.2 with ⟨_, h0⟩ | ⟨g, cap, cur, hv, hgQ, hh, c1, c2, c3, c4⟩
  · omega
  simp only [Value.slice.injEq, Option.some.injEq, Addr.mk.injEq, true_and, and_true] at hv
  obtain ⟨rfl, rfl⟩ := hv
  have ho : ∀ k', k' ≠ gB → (w.setCell ⟨gB, o * 3 + 2, none⟩ (.int .i64 x)).heap[k']? = w.heap[k']? := fun k' hne => heap_setCell_other w ⟨gB, o * 3 + 2, none⟩ k' _ hne
  refine ⟨⟨h.grown.os, h.grown.tape, h.grown.output, by simpa using h.grown.size, fun k' hk' hne => (ho k' (by omega)).trans (h.grown.block k' hk' hne)⟩, ?_, h.dg.tag (ho _ (by omega)) fun k' c _ hh' => ho k' (tag_ne hh' hh (by decide)), ?_, ?_, owns_tag h.opens fun k' c _ hh' => ho k' (tag_ne hh' hh (by decide)), h.rows.of_block (ho sb (by omega))⟩
  · rw [ho Q (by omega), h.set]; simp
  · obtain ⟨xs, h1, h2⟩ := h.inner
    exact ⟨xs, h1, h2.of_block (ho rb (by omega))⟩
  · have e1 : (σ.B.set o ⟨vAt σ.B o, fAt σ.B o, x⟩).length = σ.B.length := by simp
    show World.ownsRow _ (Q + 2) 40 3 (.slice (some ⟨gB, 0, none⟩) (σ.B.set o ⟨vAt σ.B o, fAt σ.B o, x⟩).length cB) (σ.B.set o ⟨vAt σ.B o, fAt σ.B o, x⟩).length (flatB (σ.B.set o ⟨vAt σ.B o, fAt σ.B o, x⟩))
    rw [e1]
    refine ⟨by rw [flatB_length, e1], Or.inr ⟨gB, cB, _, rfl, hgQ, heap_setCell_same w gB _ cur 40 _ hh, c1, c2, by simpa using c3, ?_⟩⟩
    rw [flatB_set σ.B o x hoB, ← c4]
    simp only [Array.toList_setIfInBounds, List.take_set]
/-- FOR and NEXT are joined -/
theorem St.paired (h : St w0 rb Q pb sb l σ D bo so cB sc w) (hr : rb < Q) (hs : sb < rb) {w' : World} {S' : List Stm} (hg : w.grownBy w' (some sb)) (hR : RowP w' sb l S' l.length) : St w0 rb Q pb sb l ⟨σ.B, σ.O, S', σ.err⟩ D bo so cB sc w' := by
  have keep : ∀ k, k < w.heap.size → k ≠ sb → w'.heap[k]? = w.heap[k]? := fun k hk hne => hg.block k hk (by simpa using hne)
  have hql := h.qlt
  refine ⟨⟨hg.os.trans h.grown.os, hg.tape.trans h.grown.tape, hg.output.trans h.grown.output, Nat.le_trans h.grown.size hg.size, fun k hk hne => (keep k (Nat.lt_of_lt_of_le hk h.grown.size) (fun e => hne (by rw [e]))).trans (h.grown.block k hk hne)⟩, (keep Q (by omega) (by omega)).trans h.set, h.dg.tag (keep _ hql (by omega)) fun k c hk hh => keep k (lt_of_block hh) (by omega), ?_, owns_tag h.blocks fun k c hk hh => keep k (lt_of_block hh) (by omega), owns_tag h.opens fun k c hk hh => keep k (lt_of_block hh) (by omega), hR⟩
  obtain ⟨xs, h1, h2⟩ := h.inner
  exact ⟨xs, h1, h2.of_block (keep rb h2.lt (by omega))⟩
/-- the last of the open ones is closed -/
theorem St.popped (h : St w0 rb Q pb sb l σ D bo so cB sc w) {m : Nat} (hm : m + 1 = σ.O.length) {g : Nat} (hso : so = some ⟨g, 0, none⟩) : St w0 rb Q pb sb l ⟨σ.B, σ.O.dropLast, σ.S, σ.err⟩ D bo so cB sc w := by
  subst hso
  refine ⟨h.grown, h.set, h.dg, h.inner, h.blocks, ?_, h.rows⟩
  have e1 : σ.O.dropLast.length = m := by simp; omega
  show w.ownsRow (Q + 2) 3 1 (.slice (some ⟨g, 0, none⟩) σ.O.dropLast.length sc) σ.O.dropLast.length (ints (σ.O.dropLast.map fun o : Nat => (o : Int)))
  rcases h.opens.2 with ⟨hv, _⟩ | ⟨g', cap, cur, hv, hgQ, hh, c1, c2, c3, c4⟩
  · cases hv
  simp only [Value.slice.injEq, Option.some.injEq, Addr.mk.injEq, true_and, and_true] at hv
  obtain ⟨rfl, rfl⟩ := hv
  refine ⟨by simp [ints], Or.inr ⟨g, sc, cur, rfl, hgQ, hh, by omega, c2, c3, ?_⟩⟩
  have e2 : σ.O.dropLast = σ.O.take m := by rw [List.dropLast_eq_take]; congr 1; omega
  rw [e1, e2, List.map_take]
  unfold ints at c4 ⊢
  rw [List.map_take, ← c4, List.take_take]
  congr 1; omega
end
end Go.Proofs.Qxb6002619aFmt
