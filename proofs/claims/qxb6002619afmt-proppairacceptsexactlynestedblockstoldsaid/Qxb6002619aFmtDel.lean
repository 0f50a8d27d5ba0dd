/-
  One of the open blocks is taken out.
-/
import Derived.Test.Qxb6002619aFmtShelf
import Derived.Test.Qxb6002619aFmtState
import Derived.Deep.Upon
namespace Go.Proofs.Qxb6002619aFmt
open Go.RowKit

theorem below_cells {B : Nat} {a : World} (b : Nat) (hb : B ≤ b) : ∀ (vs : List Value) (o : Nat) {w : World}, Below B a w → Below B a (w.setCells b o vs)
  | [], _, _, h => h
  | v :: r, o, _, h => below_cells b hb r (o + 1) (h.setCell hb v)
theorem put_row (g : Nat) : ∀ (vs : List Value) (o : Nat) (w : World) (cur : Array Value) (e : TypeId), w.heap[g]? = some (.cells cur e (0, 0)) → o + vs.length ≤ cur.size →
    ∃ cur', (w.setCells g o vs).heap[g]? = some (.cells cur' e (0, 0)) ∧ cur'.toList = cur.toList.take o ++ vs ++ cur.toList.drop (o + vs.length)
  | [], o, w, cur, e, h, ho => ⟨cur, h, by simp⟩
  | v :: r, o, w, cur, e, h, ho => by
    simp only [List.length_cons] at ho
    obtain ⟨cur', h1, h2⟩ := put_row g r (o + 1) (w.setCell ⟨g, o, none⟩ v) _ e (heap_setCell_same w g o cur e v h) (by simp; omega)
    refine ⟨cur', h1, ?_⟩
    rw [h2, Array.toList_setIfInBounds, List.set_eq_take_append_cons_drop, if_pos (by simp; omega)]
    have hl : (cur.toList.take o).length = o := by simp; omega
    have e1 : (cur.toList.take o ++ v :: cur.toList.drop (o + 1)).take (o + 1) = cur.toList.take o ++ [v] := by
      rw [List.take_append, hl, show o + 1 - o = 1 by omega]
      simp [List.take_take]
    have e2 : (cur.toList.take o ++ v :: cur.toList.drop (o + 1)).drop (o + 1 + r.length) = cur.toList.drop (o + (v :: r).length) := by
      rw [List.drop_append, hl, show o + 1 + r.length - o = r.length + 1 by omega, List.drop_succ_cons, List.drop_drop]
      simp only [List.length_cons]
      rw [List.drop_eq_nil_of_le (by rw [hl]; omega), List.nil_append]
      congr 1; omega
    rw [e1, e2]
    simp

section
variable {w0 : World} {rb Q pb sb D : Nat} {l : List It} {σ : PS} {bo : Option Addr} {cB sc gO : Nat} {w : World}
theorem St.erased (h : St w0 rb Q pb sb l σ D bo (some ⟨gO, 0, none⟩) cB sc w) (h0 : w0.heap.size ≤ rb) (hr : rb < Q) (hs : sb < rb) (j m q : Nat) (hm : σ.O.length = m + 1) (hj : j < m + 1) {vs : List Value}
    (hvs : vs = (((σ.O.map fun o : Nat => (o : Int)).take j ++ (σ.O.map fun o : Nat => (o : Int)).drop (j + 1)) ++ List.replicate 1 0).map (Value.int .i64)) :
    St w0 rb Q pb sb l ⟨σ.B, σ.O.eraseIdx j, σ.S, σ.err⟩ D bo (some ⟨gO, 0, none⟩) cB sc ((w.drewN q).setCells gO 0 vs) := by
  have hdr := h.drewN q
  rcases hdr.opens.2 with ⟨hv, _⟩ | ⟨g', cap, cur, hv, hgQ, hh, c1, c2, c3, c4⟩
  · cases hv
  simp only [Value.slice.injEq, Option.some.injEq, Addr.mk.injEq, true_and, and_true] at hv
  obtain ⟨rfl, rfl⟩ := hv
  have hvl : vs.length = m + 1 := by rw [hvs]; simp; omega
  have hb : Below gO (w.drewN q) ((w.drewN q).setCells gO 0 vs) := below_cells gO (Nat.le_refl _) vs 0 (Below.refl _ _)
  have ho : ∀ k, k < (w.drewN q).heap.size → k ≠ gO → ((w.drewN q).setCells gO 0 vs).heap[k]? = (w.drewN q).heap[k]? := fun k hk hne => World.heap_setCells_other _ gO 0 vs hk hne
  have hql := hdr.qlt
  refine ⟨⟨hb.os.trans hdr.grown.os, hb.tape.trans hdr.grown.tape, hb.output.trans hdr.grown.output, Nat.le_trans hdr.grown.size hb.size, fun k hk hne => (hb.block k (by omega)).trans (hdr.grown.block k hk hne)⟩, (ho Q (by omega) (by omega)).trans hdr.set, hdr.dg.tag (ho _ hql (by omega)) fun k c _ hk => ho k (lt_of_block hk) (tag_ne hk hh (by decide)), ?_, owns_tag hdr.blocks fun k c _ hk => ho k (lt_of_block hk) (tag_ne hk hh (by decide)), ?_, hdr.rows.of_block (ho sb hdr.rows.lt (by omega))⟩
  · obtain ⟨xs, h1, h2⟩ := hdr.inner
    exact ⟨xs, h1, h2.of_block (ho rb h2.lt (by omega))⟩
  · obtain ⟨cur', k1, k2⟩ := put_row gO vs 0 (w.drewN q) cur 3 hh (by omega)
    have e1 : (σ.O.eraseIdx j).length = m := by rw [List.length_eraseIdx, if_pos (by omega)]; omega
    show World.ownsRow _ (Q + 2) 3 1 (.slice (some ⟨gO, 0, none⟩) (σ.O.eraseIdx j).length sc) (σ.O.eraseIdx j).length (ints ((σ.O.eraseIdx j).map fun o : Nat => (o : Int)))
    rw [e1]
    refine ⟨by simp [ints, e1], Or.inr ⟨gO, sc, cur', rfl, hgQ, k1, by omega, c2, ?_, ?_⟩⟩
    · have := congrArg List.length k2
      simp [hvl] at this
      omega
    · rw [k2, hvs]
      have e2 : σ.O.eraseIdx j = σ.O.take j ++ σ.O.drop (j + 1) := by rw [List.eraseIdx_eq_take_drop_succ]
      rw [e2]
      simp only [List.take_zero, List.nil_append, List.map_append, List.map_take, List.map_drop, ints]
      rw [List.append_assoc, List.take_append_of_le_length (by simp; omega)]
      rw [List.take_of_length_le (by simp; omega)]
end
end Go.Proofs.Qxb6002619aFmt
