/-
  derives, build.
-/
import Derived.Test.Qxb6002619aFmtModel
namespace Go.Proofs.Qxb6002619aFmt
open Go.RowKit

set_option maxHeartbeats 1000000 in
theorem derives_any (ao : Option Addr) (cap : Nat) (l : List It) (w : World) (hS : ShowsI w ao l) (hn : l.length ≤ 4096) :
    Calls Tryf.prog 8 #[.slice ao l.length cap] w fun e' w' => e' = .returned (.bool (okB l)) ∧ Below w.heap.size w w' := by
  have HC := hide (model_any ao cap l w hS hn)
  clear hS
  obtain ⟨n, hnl⟩ : ∃ n, n = l.length := ⟨_, rfl⟩
  rw [← hnl] at HC ⊢
  clear hnl
  go_enter Tryf.func8, Tryf.ntmps8
  go_wp2_with fail
  go_at_call 9
  refine HC.out.mono ?_
  rintro e1 w1 ⟨hb, ⟨ho, v, rfl⟩ | ⟨ho, g, mt, _, _, rfl, _⟩⟩
  · have HB := hide hb
    have HO := hide ho
    clear hb ho
    go_wp2
    go_ret
    exact ⟨ret_bool HO.out.symm, HB.out⟩
  · have HB := hide hb
    have HO := hide ho
    clear hb ho
    go_wp2
    go_ret
    exact ⟨ret_bool HO.out.symm, HB.out⟩

theorem info54 : (Tryf.prog.info? 54).map (fun i => (i.zero, i.size, i.bytes)) = some (some (.agg #[.int .i64 0, .int .i64 0, .nilIface]), 3, 32) := by kernel_rfl
theorem info9 : (Tryf.prog.info? 9).map (fun i => (i.zero, i.size, i.bytes)) = some (some (.string ByteArray.empty), 1, 16) := by kernel_rfl

/-- nothing appended to nil: nil -/
theorem append_none (ty : TypeId) (na : Option Addr) (nc : Nat) (w : World) : (Builtin.append_ #[22, 22] ty #[.slice none 0 0, .slice na 0 nc]).run Tryf.prog w = .ok (.slice none 0 0) w := by
  obtain ⟨i0, hi0, hz0, hz1, hz2⟩ := info_parts info9
  cases na with
  | none => simp [Builtin.append_, run_underlying Tryf.underlying22, sizeOf, typeInfo, hi0, Builtin.lenOf, Builtin.firstCells]
  | some a => simp [Builtin.append_, run_underlying Tryf.underlying22, sizeOf, typeInfo, hi0, Builtin.lenOf, Builtin.firstCells, loadCells, loadCellsFrom]

theorem wpList_append_names (w : World) {ops : Array Oper} {rest : List Oper} {o : Oper} {a : Act} {Q : Exit → Act → World → Prop}
    (hg : o.guard = none) (s x : Operand) (hop : o.op = Op.call { callee := Callee.builtin Builtin.append, args := #[s, x], argTypes := #[22, 22] })
    (hs : a.eval s = .slice none 0 0) (na : Option Addr) (nc : Nat) (ns : List ByteArray) (hx : a.eval x = .slice na ns.length nc) (hS : ShowsN w na ns) (hn : ns.length ≤ 4096)
    (hK : ∀ vo c w', ShowsN w' vo ns → Below w.heap.size w w' → wpList Tryf.prog ops Q rest (a.put o.dst (.slice vo ns.length c)) w') :
    wpList Tryf.prog ops Q (o :: rest) a w := by
  rcases hS with rfl | ⟨b, off, rfl, hb, hv⟩
  · refine wpList_plain hg fun K hK' => ?_
    have hr := append_none o.type na nc w
    unfold Oper.wp
    simp [execOp, hop, resolve, invoke, builtin, hs, hx, hr, Result.andThen]
    exact hK' _ _ (hK none 0 w (Or.inl rfl) (Below.refl _ _))
  · obtain ⟨i0, hi0, hz0, hz1, hz2⟩ := info_parts info9
    refine wpList_append_own w hg s x 22 hop 0 9 i0 _ 1 16 Tryf.underlying22 hi0 hz0 hz1 hz2 rfl (by decide) (.slice none 0 0) 0 [] hs ⟨rfl, Or.inl ⟨rfl, rfl⟩⟩ ⟨b, off, none⟩ ns.length nc (ns.map fun x => .string x) hx (by simp) ?_ ?_ (by unfold maxLen; omega) (by omega) (Nat.zero_le _) ?_
    · intro j u hu
      have hj : j < ns.length := by simpa using (List.getElem?_eq_some_iff.1 hu).1
      rw [Go.WideShapes.add_plain, hv j hj]
      rw [List.getElem?_map, List.getElem?_eq_getElem hj] at hu
      exact hu
    · intro u hu
      obtain ⟨y, _, rfl⟩ := List.mem_map.1 hu
      rfl
    · intro v' w' hown hgrow hnil
      rw [Nat.zero_add] at hown
      have hbel : Below w.heap.size w w' := (Below.refl _ w).grown hgrow (Nat.le_refl _) (fun k hk => by cases hk)
      rcases hown.2 with ⟨hv0, hm0⟩ | ⟨g, c, cur, rfl, _, hh, _⟩
      · have hns : ns = [] := List.length_eq_zero_iff.1 hm0
        subst hv0 hns
        exact hK none 0 w' (Or.inl rfl) hbel
      · refine hK (some ⟨g, 0, none⟩) c w' (Or.inr ⟨g, 0, rfl, lt_of_block hh, fun i hi => ?_⟩) hbel
        rw [Nat.zero_add, hown.cellAt i (by omega)]
        simp [hi]

/-- a statement's value -/
def Stm.val (x : Stm) : Value :=
  if x.k = 1 then .iface 49 (.agg #[.int .i64 x.v, .nilIface, .nilIface, .nilIface, .int .i64 x.p])
  else if x.k = 2 then .iface 62 (.agg #[.int .i64 x.v, .int .i64 x.p, .bool x.un])
  else if x.un then .iface 78 (.agg #[]) else .iface 79 (.agg #[])

/-- the program's statements: the first m of them lie there -/
def RowP (w : World) (g : Nat) (l : List It) (S : List Stm) (m : Nat) : Prop :=
  ∃ cur, w.heap[g]? = some (.cells cur 54 (0, 0)) ∧ cur.size = l.length * 3 ∧ S.length = l.length ∧ ∀ j, j < m → cur[j * 3]? = some (.int .i64 (nth l j).num) ∧ cur[j * 3 + 1]? = some (.int .i64 (nth l j).fl) ∧ cur[j * 3 + 2]? = some (S.getD j Stm.none).val
theorem RowP.of_block {w w' : World} {g m : Nat} {l : List It} {S : List Stm} (h : RowP w g l S m) (e : w'.heap[g]? = w.heap[g]?) : RowP w' g l S m := by
  obtain ⟨cur, h1, h2⟩ := h
  exact ⟨cur, by rw [e]; exact h1, h2⟩
theorem RowP.lt {w : World} {g m : Nat} {l : List It} {S : List Stm} (h : RowP w g l S m) : g < w.heap.size := by
  obtain ⟨cur, h1, _⟩ := h
  exact lt_of_block h1
theorem RowP.below {w w' : World} {g m B : Nat} {l : List It} {S : List Stm} (h : RowP w g l S m) (hb : Below B w w') (hg : g < B) : RowP w' g l S m := h.of_block (hb.block g hg)
theorem RowP.alloc {w : World} {g m : Nat} {l : List It} {S : List Stm} (h : RowP w g l S m) (o : Obj) : RowP (w.alloc o) g l S m := h.below ((Below.refl w.heap.size w).alloc (Nat.le_refl _) o) h.lt
theorem RowP.frozen {w : World} {g m : Nat} {l : List It} {S : List Stm} (h : RowP w g l S m) (j : Nat) : w.frozen? ⟨g, j, none⟩ = false := by
  obtain ⟨cur, h1, _⟩ := h
  simp [World.frozen?, h1]
theorem RowP.some {w : World} {g m : Nat} {l : List It} {S : List Stm} (h : RowP w g l S m) (j : Nat) (hj : j < l.length * 3) : ∃ v, w.cell? ⟨g, j, none⟩ = some v := by
  obtain ⟨cur, h1, h2, _⟩ := h
  have : j < cur.size := by omega
  exact ⟨cur[j], by rw [cell_of h1 j]; exact Array.getElem?_eq_getElem this⟩
theorem RowP.other {w : World} {g m : Nat} {l : List It} {S : List Stm} (h : RowP w g l S m) {a : Addr} (v : Value) (ha : a.block ≠ g) : RowP (w.setCell a v) g l S m := by
  refine h.of_block ?_
  simp [World.setCell, Array.getElem?_modify, ha]
/-- one more statement -/
theorem RowP.push {w : World} {g m : Nat} {l : List It} {S : List Stm} (h : RowP w g l S m) (hm : m < l.length) :
    RowP (((w.setCell ⟨g, m * 3, none⟩ (.int .i64 (nth l m).num)).setCell ⟨g, m * 3 + 1, none⟩ (.int .i64 (nth l m).fl)).setCell ⟨g, m * 3 + 2, none⟩ (S.getD m Stm.none).val) g l S (m + 1) := by
  obtain ⟨cur, h1, h2, h3, h4⟩ := h
  refine ⟨_, heap_setCell_same _ g _ _ 54 _ (heap_setCell_same _ g _ _ 54 _ (heap_setCell_same w g _ cur 54 _ h1)), by simp [h2], h3, fun j hj => ?_⟩
  by_cases e : j = m
  · subst e
    have a0 : j * 3 < cur.size := by omega
    have a1 : j * 3 + 1 < cur.size := by omega
    have a2 : j * 3 + 2 < cur.size := by omega
    simp [a0, a1, a2]
  · have := h4 j (by omega)
    have n1 : ¬ m * 3 = j * 3 := by omega
    have n2 : ¬ m * 3 + 1 = j * 3 := by omega
    have n3 : ¬ m * 3 + 2 = j * 3 := by omega
    have n4 : ¬ m * 3 = j * 3 + 1 := by omega
    have n5 : ¬ m * 3 + 1 = j * 3 + 1 := by omega
    have n6 : ¬ m * 3 + 2 = j * 3 + 1 := by omega
    have n7 : ¬ m * 3 = j * 3 + 2 := by omega
    have n8 : ¬ m * 3 + 1 = j * 3 + 2 := by omega
    have n9 : ¬ m * 3 + 2 = j * 3 + 2 := by omega
    simp only [Array.getElem?_setIfInBounds, n1, n2, n3, n4, n5, n6, n7, n8, n9, if_false]
    exact this
end Go.Proofs.Qxb6002619aFmt
