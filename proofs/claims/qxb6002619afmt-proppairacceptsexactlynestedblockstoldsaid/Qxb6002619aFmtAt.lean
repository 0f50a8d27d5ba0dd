/-
  ForAt: a block named for a message.
-/
import Derived.Test.Qxb6002619aFmtNote
import Derived.Deep.RegionHeldLaw
namespace Go.Proofs.Qxb6002619aFmt
open Go.RowKit Go.Extern.Stop Go.Stop Go.Extern

/-- Sprintf, as one step of a region that draws -/
theorem step_print {ops : Array Oper} {o : Oper} {a : Act} {w : World} {K : Act → World → Prop} {Q : Exit → Act → World → Prop} {E : Prop}
    (hg : o.guard = none) (dst : Option Tmp) (hd : o.dst = dst) (args : Array Value) (hrun : (execOp a.eval o).run Tryf.prog w = (callFunc 22 args).run Tryf.prog w) (hp : Prints args w) (hK : ∀ s, K (a.put dst (.string s)) w.drew) :
    if Region.wanted o (yielded ops a.tmps) = true then Oper.wp Tryf.prog o a w K Q else E := by
  have hw : Region.wanted o (yielded ops a.tmps) = true := by simp [Region.wanted, hg]
  rw [if_pos hw]
  subst hd
  unfold Oper.wp
  rw [hrun]
  rcases hp with ⟨s, h⟩ | ⟨row, sv, h, hr⟩
  · rw [h, Oper.upon_value]; exact hK s
  · rw [h, Oper.upon_row]; exact hr _ hK

theorem two_cells {w : World} {a b : Value} {t : TypeId} : ∀ (j : Nat) (v : Value), [a, b][j]? = some v → (w.alloc (.cells #[a, b] t)).cell? ⟨w.heap.size, j, none⟩ = some v := by
  intro j v h
  rw [cell_of (alloc_new w (.cells #[a, b] t)) j]
  simpa using h

set_option maxHeartbeats 4000000 in
theorem forAt_any (F : Interp) (Q pb sb : Nat) (vo : Option Addr) (c B : Nat) (ns : List ByteArray) (l : List It) (S : List Stm) (v z : Int) (f : Nat) (w : World) (hF : F.answers w.tape)
    (hq0 : w.cell? ⟨Q, 0, none⟩ = some (.pointer (some ⟨pb, 0, none⟩))) (hp0 : w.cell? ⟨pb, 0, none⟩ = some (.slice (some ⟨sb, 0, none⟩) l.length l.length)) (hp1 : w.cell? ⟨pb, 1, none⟩ = some (.slice vo ns.length c)) (hql : Q < w.heap.size) (hpl : pb < w.heap.size)
    (hN : NamesB w B vo ns) (hB : B ≤ w.heap.size) (hv0 : 0 ≤ v) (hv1 : v < ns.length) (hR : RowP w sb l S l.length) (hf : f < l.length) :
    Calls Tryf.prog 18 #[.pointer (some ⟨Q, 0, none⟩), .agg #[.int .i64 v, .int .i64 f, .int .i64 z]] w fun e' w' => TextPost w e' w' := by
  have c0 := hR.at0 f hf
  have c1 := hR.at1 f hf
  have c2 := hR.at2 f hf
  have hsl : sb < w.heap.size := hR.lt
  have HN := hide hN
  have HF := hide hF
  have HQ0 := hide hq0
  have HP1 := hide hp1
  obtain ⟨T, X, hTX⟩ : ∃ T X, (S.getD f Stm.none).val = .iface T X := by
    unfold Stm.val
    split
    · exact ⟨_, _, rfl⟩
    · split
      · exact ⟨_, _, rfl⟩
      · split
        · exact ⟨_, _, rfl⟩
        · exact ⟨_, _, rfl⟩
  rw [hTX] at c2
  generalize (nth l f).num = num at c0
  generalize (nth l f).fl = fl at c1
  obtain ⟨n, hnl⟩ : ∃ n, n = l.length := ⟨_, rfl⟩
  rw [← hnl] at hp0 hf
  have hfi : (f : Int) < n := by omega
  have hql1 : Q < w.heap.size + 1 := by omega
  have hpl1 : pb < w.heap.size + 1 := by omega
  have hsl1 : sb < w.heap.size + 1 := by omega
  clear hTX hN hF hR hnl hp1
  go_enter Tryf.func18, Tryf.ntmps18
  go_wp2_with fail
  go_region_held (fun w' => w'.cell? ⟨Q, 0, none⟩ = some (.pointer (some ⟨pb, 0, none⟩)) ∧ w'.cell? ⟨pb, 0, none⟩ = some (.slice (some ⟨sb, 0, none⟩) n n) ∧ w'.cell? ⟨w.heap.size, 1, none⟩ = some (.int .i64 f) ∧ w'.cell? ⟨sb, f * 3, none⟩ = some (.int .i64 num) ∧ w'.cell? ⟨sb, f * 3 + 1, none⟩ = some (.int .i64 fl) ∧ w'.cell? ⟨sb, f * 3 + 2, none⟩ = some (.iface T X)) (go_keep) (fail)
  go_wp2_with fail
  obtain ⟨W, hW⟩ : ∃ W, W = ((w.alloc (.cells #[.int .i64 v, .int .i64 f, .int .i64 z] 40)).alloc (.cells #[.int .i64 num, .int .i64 fl, .iface T X] 54)).drew := ⟨_, rfl⟩
  have HBW : Hid (Below w.heap.size w W) := by rw [hW]; exact (((Below.refl _ _).alloc (Nat.le_refl _) _).alloc (by simp) _).drew
  have e0 : W.cell? ⟨w.heap.size, 0, none⟩ = some (.int .i64 v) := by rw [hW]; go_simp
  have e1 : W.cell? ⟨w.heap.size + 1, 0, none⟩ = some (.int .i64 num) := by rw [hW]; go_simp
  have e2 : W.cell? ⟨w.heap.size + 1, 1, none⟩ = some (.int .i64 fl) := by rw [hW]; go_simp
  have hwl : w.heap.size + 1 < W.heap.size := by rw [hW]; simp
  rw [← hW]
  clear hW
  have HWL := hide hwl
  have HE : Hid (∀ W', Below W.heap.size W W' → W'.cell? ⟨w.heap.size, 0, none⟩ = some (.int .i64 v) ∧ W'.cell? ⟨w.heap.size + 1, 0, none⟩ = some (.int .i64 num) ∧ W'.cell? ⟨w.heap.size + 1, 1, none⟩ = some (.int .i64 fl)) := fun W' h => ⟨(h.cell (by show w.heap.size < W.heap.size; omega)).trans e0, (h.cell (by show w.heap.size + 1 < W.heap.size; omega)).trans e1, (h.cell (by show w.heap.size + 1 < W.heap.size; omega)).trans e2⟩
  have HC1 : Hid (Calls Tryf.prog 17 #[.pointer (some ⟨Q, 0, none⟩), .agg #[.int .i64 v]] W.drew fun e' w' => ∃ x, e' = .returned x ∧ ((∃ s, x = .string s) ∧ Below W.heap.size W w')) := by
    have hb : Below w.heap.size w W.drew := HBW.out.drew
    refine (varName_any Q pb vo c B ns v W.drew ((hb.cell hql).trans HQ0.out) ((hb.cell hpl).trans HP1.out) (Nat.lt_of_lt_of_le hql hb.size) (Nat.lt_of_lt_of_le hpl hb.size) (HN.out.below hb hB) (Nat.le_trans hB hb.size) hv0 hv1).mono ?_
    rintro e' w' ⟨⟨s, rfl⟩, hb'⟩
    exact ⟨_, rfl, ⟨s, rfl⟩, (Below.refl _ _).drew.trans hb'⟩
  have HC2 : Hid (∀ W', Below W.heap.size W W' → Calls Tryf.prog 23 #[.int .i64 num, .int .i64 fl] W' fun e' w' => ∃ x, e' = .returned x ∧ ((∃ s, x = .string s) ∧ Below W.heap.size W w')) := by
    intro W' hb
    refine (place_any F num fl W' (by rw [hb.tape, HBW.out.tape]; exact HF.out)).mono ?_
    rintro e' w' ⟨⟨s, rfl⟩, hb'⟩
    exact ⟨_, rfl, ⟨s, rfl⟩, hb.trans (hb'.mono hb.size)⟩
  have HPR : Hid (∀ W', Below W.heap.size W W' → ∀ s1 s2, Prints #[.string ⟨#[70, 79, 82, 32, 37, 115, 32, 97, 116, 32, 37, 115]⟩, .slice (some ⟨W'.heap.size, 0, none⟩) 2 2] (W'.alloc (.cells #[.iface 9 (.string s1), .iface 9 (.string s2)] 20))) := by
    intro W' hb s1 s2
    refine prints_any F _ (by show F.answers W'.tape; rw [hb.tape, HBW.out.tape]; exact HF.out) _ _ 2 2 [.iface 9 (.string s1), .iface 9 (.string s2)] rfl two_cells (fun x hx => ?_)
    simp only [List.mem_cons, List.not_mem_nil, or_false] at hx
    rcases hx with rfl | rfl
    · exact Or.inl ⟨_, rfl⟩
    · exact Or.inl ⟨_, rfl⟩
  clear c0 c1 c2 hq0 hp0 HQ0 HP1
  go_region_held_law (fun w' => w'.cell? ⟨w.heap.size, 0, none⟩ = some (.int .i64 v) ∧ w'.cell? ⟨w.heap.size + 1, 0, none⟩ = some (.int .i64 num) ∧ w'.cell? ⟨w.heap.size + 1, 1, none⟩ = some (.int .i64 fl)) (go_keep)
    (first
      | (refine step_call rfl 17 #[.pointer (some ⟨Q, 0, none⟩), .agg #[.int .i64 v]] (by go_simp) _ HC1.out ?_; rintro v2 w2 ⟨⟨s2, rfl⟩, hb2⟩; have HB2 := hide hb2; obtain ⟨k0, k1, k2⟩ := HE.out w2 hb2; clear hb2)
      | (refine step_call rfl 23 #[.int .i64 num, .int .i64 fl] (by go_simp) _ (HC2.out w2 HB2.out) ?_; rintro v3 w3 ⟨⟨s3, rfl⟩, hb3⟩; have HB3 := hide hb3; obtain ⟨k3, k4, k5⟩ := HE.out w3 hb3; have hwl3 : w.heap.size + 1 < w3.heap.size := Nat.lt_of_lt_of_le HWL.out hb3.size; clear hb3)
      | (refine step_print rfl (some 29) rfl #[.string ⟨#[70, 79, 82, 32, 37, 115, 32, 97, 116, 32, 37, 115]⟩, .slice (some ⟨w3.heap.size, 0, none⟩) 2 2] (by go_simp) (HPR.out w3 HB3.out s2 s3) ?_; intro s4))
  go_wp2
  go_ret
  exact ⟨⟨s4, rfl⟩, HBW.out.trans ((HB3.out.alloc HB3.out.size _).drew.mono HBW.out.size)⟩
end Go.Proofs.Qxb6002619aFmt
