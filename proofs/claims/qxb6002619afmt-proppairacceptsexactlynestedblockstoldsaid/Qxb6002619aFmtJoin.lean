/-
  varName, pair.
-/
import Derived.Test.Qxb6002619aFmtFind
import Derived.RegionTactic
namespace Go.Proofs.Qxb6002619aFmt
open Go.RowKit

set_option maxHeartbeats 1000000 in
theorem varName_any (qb pb : Nat) (vo : Option Addr) (c B : Nat) (ns : List ByteArray) (v : Int) (w : World) (hq : w.cell? ⟨qb, 0, none⟩ = some (.pointer (some ⟨pb, 0, none⟩))) (hp : w.cell? ⟨pb, 1, none⟩ = some (.slice vo ns.length c)) (hql : qb < w.heap.size) (hpl : pb < w.heap.size)
    (hN : NamesB w B vo ns) (hB : B ≤ w.heap.size) (h0 : 0 ≤ v) (h1 : v < ns.length) :
    Calls Tryf.prog 17 #[.pointer (some ⟨qb, 0, none⟩), .agg #[.int .i64 v]] w fun e' w' => (∃ s, e' = .returned (.string s)) ∧ Below w.heap.size w w' := by
  obtain ⟨k, rfl⟩ := Int.eq_ofNat_of_zero_le h0
  have hk : k < ns.length := by omega
  rcases hN with rfl | ⟨b, off, rfl, hb, hv⟩
  · simp at hk
  · have s0 := hv k hk
    have hbl : b < w.heap.size := by omega
    clear hv
    generalize ns[k] = x at s0
    generalize ns.length = n at *
    go_enter Tryf.func17, Tryf.ntmps17
    go_wp2
    go_quiet (fail)
    go_wp2
    go_ret
    exact ⟨⟨x, rfl⟩, Below.drewN2 ((Below.refl _ w).alloc (Nat.le_refl _) _) _⟩

theorem RowP.set {w : World} {g m : Nat} {l : List It} {S : List Stm} (h : RowP w g l S m) (j : Nat) (hj : j < m) (hm : m ≤ l.length) (x : Stm) : RowP (w.setCell ⟨g, j * 3 + 2, none⟩ x.val) g l (S.set j x) m := by
  obtain ⟨cur, h1, h2, h3, h4⟩ := h
  refine ⟨_, heap_setCell_same w g _ cur 54 _ h1, by simp [h2], by simpa using h3, fun i hi => ?_⟩
  have hi' := h4 i hi
  have n1 : ¬ j * 3 + 2 = i * 3 := by omega
  have n2 : ¬ j * 3 + 2 = i * 3 + 1 := by omega
  simp only [Array.getElem?_setIfInBounds, n1, n2, if_false]
  refine ⟨hi'.1, hi'.2.1, ?_⟩
  by_cases e : j = i
  · subst e
    have a2 : j * 3 + 2 < cur.size := by omega
    rw [getD_set_eq _ _ _ _ (by omega)]
    simp [a2]
  · have n3 : ¬ j * 3 + 2 = i * 3 + 2 := by omega
    rw [getD_set_ne _ _ _ _ _ e, if_neg n3]
    exact hi'.2.2
theorem RowP.at2 {w : World} {g m : Nat} {l : List It} {S : List Stm} (h : RowP w g l S m) (j : Nat) (hj : j < m) : w.cell? ⟨g, j * 3 + 2, none⟩ = Option.some (S.getD j Stm.none).val := by
  obtain ⟨cur, h1, _, _, h4⟩ := h
  rw [cell_of h1]; exact (h4 j hj).2.2
theorem RowP.at0 {w : World} {g m : Nat} {l : List It} {S : List Stm} (h : RowP w g l S m) (j : Nat) (hj : j < m) : w.cell? ⟨g, j * 3, none⟩ = Option.some (.int .i64 (nth l j).num) := by
  obtain ⟨cur, h1, _, _, h4⟩ := h
  rw [cell_of h1]; exact (h4 j hj).1
theorem RowP.at1 {w : World} {g m : Nat} {l : List It} {S : List Stm} (h : RowP w g l S m) (j : Nat) (hj : j < m) : w.cell? ⟨g, j * 3 + 1, none⟩ = Option.some (.int .i64 (nth l j).fl) := by
  obtain ⟨cur, h1, _, _, h4⟩ := h
  rw [cell_of h1]; exact (h4 j hj).2.1

theorem for_yes (x : Value) (w : World) : (Instr.typeAssert (.iface 49 x) 52 49 false).run Tryf.prog w = .ok x w := by
  simp [Instr.typeAssert, run_underlying Tryf.underlying49]
theorem for_yes2 (x : Value) (w : World) : (Instr.typeAssert (.iface 49 x) 52 49 true).run Tryf.prog w = .ok (.tuple #[x, .bool true]) w := by
  simp [Instr.typeAssert, run_underlying Tryf.underlying49]
theorem for_no2 (t : TypeId) (ht : t ≠ 49) (x : Value) (w : World) : (Instr.typeAssert (.iface t x) 52 49 true).run Tryf.prog w = .ok (.tuple #[.agg #[.int .i64 0, .nilIface, .nilIface, .nilIface, .int .i64 0], .bool false]) w := by
  simp [Instr.typeAssert, run_underlying Tryf.underlying49, ht, Tryf.zeroValue49]
theorem next_yes (x : Value) (w : World) : (Instr.typeAssert (.iface 62 x) 52 62 false).run Tryf.prog w = .ok x w := by
  simp [Instr.typeAssert, run_underlying Tryf.underlying62]
theorem next_yes2 (x : Value) (w : World) : (Instr.typeAssert (.iface 62 x) 52 62 true).run Tryf.prog w = .ok (.tuple #[x, .bool true]) w := by
  simp [Instr.typeAssert, run_underlying Tryf.underlying62]
theorem next_no2 (t : TypeId) (ht : t ≠ 62) (x : Value) (w : World) : (Instr.typeAssert (.iface t x) 52 62 true).run Tryf.prog w = .ok (.tuple #[.agg #[.int .i64 0, .int .i64 0, .bool false], .bool false]) w := by
  simp [Instr.typeAssert, run_underlying Tryf.underlying62, ht, Tryf.zeroValue62]

theorem grow_put {w w' : World} {r : Nat} (h : w.grownBy w' (some r)) (j : Nat) (v : Value) : w.grownBy (w'.setCell ⟨r, j, none⟩ v) (some r) :=
  ⟨h.os, h.tape, h.output, by simpa using h.size, fun k hk hne => (heap_setCell_other w' ⟨r, j, none⟩ k v (fun e => hne (by simp [e]))).trans (h.block k hk hne)⟩
theorem grow_more {w w' : World} {r : Option Nat} (h : w.grownBy w' r) (o : Obj) : w.grownBy (w'.alloc o) r :=
  ⟨h.os, h.tape, h.output, by have := h.size; simp; omega, fun k hk hne => (((Below.refl w'.heap.size w').alloc (Nat.le_refl _) o).block k (Nat.lt_of_lt_of_le hk h.size)).trans (h.block k hk hne)⟩

def PairPost (sb : Nat) (l : List It) (S : List Stm) (v : Int) (f i : Nat) (un : Bool) (w : World) (e' : Ending) (w' : World) : Prop :=
  e' = .returned (.tuple #[]) ∧ w.grownBy w' (some sb) ∧ RowP w' sb l ((S.set f ⟨1, (S.getD f Stm.none).v, (i : Int), (S.getD f Stm.none).un⟩).set i ⟨2, v, (f : Int), un⟩) l.length

set_option maxRecDepth 20000 in
set_option maxHeartbeats 2000000 in
theorem pair_any (qb pb sb : Nat) (l : List It) (S : List Stm) (v : Int) (f i : Nat) (w : World) (hq : w.cell? ⟨qb, 0, none⟩ = some (.pointer (some ⟨pb, 0, none⟩))) (hp : w.cell? ⟨pb, 0, none⟩ = some (.slice (some ⟨sb, 0, none⟩) l.length l.length)) (hql : qb < w.heap.size) (hpl : pb < w.heap.size)
    (hR : RowP w sb l S l.length) (hf : f < l.length) (hi : i < l.length) (hfi : f ≠ i) (hkf : (S.getD f Stm.none).k = 1) (hki : (S.getD i Stm.none).k = 2) :
    Calls Tryf.prog 20 #[.pointer (some ⟨qb, 0, none⟩), .agg #[.int .i64 v, .int .i64 f, .int .i64 i]] w fun e' w' => PairPost sb l S v f i (S.getD i Stm.none).un w e' w' := by
  obtain ⟨sf, hsf⟩ : ∃ sf, sf = S.getD f Stm.none := ⟨_, rfl⟩
  obtain ⟨si, hsi⟩ : ∃ si, si = S.getD i Stm.none := ⟨_, rfl⟩
  have hsl : sb < w.heap.size := hR.lt
  have c0 := hR.at2 f hf
  have c1 := hR.at2 i hi
  have cf := hR.frozen
  rw [← hsf] at hkf c0
  rw [← hsi] at hki c1 ⊢
  have e0 : sf.val = .iface 49 (.agg #[.int .i64 sf.v, .nilIface, .nilIface, .nilIface, .int .i64 sf.p]) := by unfold Stm.val; rw [if_pos hkf]
  have e1 : si.val = .iface 62 (.agg #[.int .i64 si.v, .int .i64 si.p, .bool si.un]) := by unfold Stm.val; rw [if_neg (by omega), if_pos hki]
  rw [e0] at c0
  rw [e1] at c1
  have HS : ∀ a b c, Hid (RowP ((((w.setCell ⟨sb, f * 3 + 2, none⟩ (.iface 49 (.agg #[.int .i64 sf.v, .nilIface, .nilIface, .nilIface, .int .i64 i]))).setCell ⟨sb, i * 3 + 2, none⟩ (.iface 62 (.agg #[.int .i64 v, .int .i64 f, .bool si.un]))).alloc a |>.alloc b).alloc c) sb l ((S.set f ⟨1, sf.v, (i : Int), sf.un⟩).set i ⟨2, v, (f : Int), si.un⟩) l.length) := fun a b c =>
    ((((hR.set f hf (Nat.le_refl _) ⟨1, sf.v, (i : Int), sf.un⟩).set i hi (Nat.le_refl _) ⟨2, v, (f : Int), si.un⟩).alloc a).alloc b).alloc c
  have HSF := hide hsf
  have hne : ¬ f * 3 + 2 = i * 3 + 2 := by omega
  have hne' : ¬ i * 3 + 2 = f * 3 + 2 := by omega
  clear hR hsf hsi e0 e1 hkf hki
  unfold PairPost
  rw [← HSF.out]
  generalize l.length = n at *
  have l1 : sb < w.heap.size + 1 := by omega
  have l2 : sb < w.heap.size + 1 + 1 := by omega
  have t1 := for_yes
  have t2 := next_yes
  go_enter Tryf.func20, Tryf.ntmps20
  go_wp2
  go_end0
  exact ⟨rfl, grow_more (grow_more (grow_more (grow_put (grow_put (World.grownBy.refl w _) _ _) _ _) _) _) _, HS _ _ _⟩
end Go.Proofs.Qxb6002619aFmt
