/-
  NEXT, where it ends the innermost open block.
-/
import Derived.Test.Qxb6002619aFmtCode
namespace Go.Proofs.Qxb6002619aFmt
open Go.RowKit

set_option maxRecDepth 20000 in
set_option maxHeartbeats 8000000 in
theorem close_ok {c0 c1 c2 c3 c5 c6 c9 c10 c11 c12 c13 c15 c16 c17 c18 c19 c20 c21 c22 c23 c24 c25 c26 c27 c28 c29 c30 c31 c32 c33 c34 c35 c36 c37 c38 c39 c40 c41 c42 c43 c44 c45 c46 c47 c48 c49 c50 c51 c52 c53 c54 c55 c56 c57 c58 c59 c60 c61 c62 c63 c64 c65 c66 c67 c68 c69 c70 c71 c72 c73 c74 c75 c76 c77 c78 c79 c80 c81 c82 c83 c84 c85 c86 c87 c88 c89 c90 c91 c92 c93 c94 c95 c96 c97 c98 c99 c100 c101 c102 c103 c104 c105 c106 c107 c108 c109 c110 c111 c112 c113 c114 c115 c116 c117 c118 c119 c120 c121 c122 c123 c124 c125 c126 c127 c128 c129 c130 c131 c132 c133 c134 c135 c136 c137 c138 c139 c140 c141 c142 c143 c144 c145 c146 c147 c148 c149 c150 c151 c152 c153 c154 c155 c156 c157 c158 c159 c160 c161 c162 c163 c164 c165 c166 c167 c168 c169 c170 c171 c172 c173 c174 c175 c176 c177 c178 c179 c180 c181 c182 c183 c184 c185 c186 c187 c188 c189 c190 c191 c192 c193 c194 c195 c196 c197 c198 c199 c200 c201 c202 c203 c204 c205 c206 c207 c208 c209 c210 c211 c212 c213 c214 c215 c216 c217 c218 c219 c220 c221 c222 c223 c224 c225 c226 c227 c228 c229 c230 c231 c232 c233 c234 c235 c236 c237 c238 c239 c240 c241 c242 c243 c244 c245 c246 c247 c248 c249 c250 c251 c252 c253 c254 c255 c256 c257 c258 c259 c260 c261 c262 c263 c264 c265 c266 c267 c268 c269 c270 c271 c272 c273 c274 c275 c276 c277 c278 c279 c280 c281 c282 c283 c284 c285 c286 c287 c288 c289 c290 c291 c292 c293 c294 c295 c296 c297 c298 c299 c300 c301 c302 c303 : Value}
    {w wc : World} {rb Q pb sb i q : Nat} {l : List It} {bo so : Option Addr} {cB sc : Nat} {N : Act → World → Prop}
    (h0 : w.heap.size ≤ rb) (hrQ : rb < Q) (hsr : sb < rb) (hps : pb < sb) (hsw : sb < w.heap.size) (hi : i < l.length) (hq : (prun l i).O.length = q + 1) (hk : (nth l i).k = 2)
    (HP : Hid (w.cell? ⟨pb, 0, none⟩ = some (.slice (some ⟨sb, 0, none⟩) l.length l.length)))
    (HT : Hid (St w rb Q pb sb l (prun l i) i bo so cB sc wc))
    (HPR : Hid (prun l (i + 1) = ⟨(prun l i).B.set ((prun l i).O.getD q 0) ⟨vAt (prun l i).B ((prun l i).O.getD q 0), fAt (prun l i).B ((prun l i).O.getD q 0), (i : Int)⟩, (prun l i).O.dropLast, ((prun l i).S.set (fAt (prun l i).B ((prun l i).O.getD q 0)) ⟨1, ((prun l i).S.getD (fAt (prun l i).B ((prun l i).O.getD q 0)) Stm.none).v, (i : Int), ((prun l i).S.getD (fAt (prun l i).B ((prun l i).O.getD q 0)) Stm.none).un⟩).set i ⟨2, vAt (prun l i).B ((prun l i).O.getD q 0), (fAt (prun l i).B ((prun l i).O.getD q 0) : Int), (nth l i).un⟩, (prun l i).err⟩))
    (hexit : Hid (∀ (d14 d149 d150 d151 d152 d153 d154 d155 d156 d157 d158 d159 d160 d161 d162 d163 d164 d165 d166 d167 d168 d169 d170 d171 d172 d173 d174 : Value) (w' : World) (bo' so' : Option Addr) (cB' sc' : Nat), Hid (St w rb Q pb sb l (prun l (i + 1)) (i + 1) bo' so' cB' sc' w') → N ⟨#[c0, c1, c2, c3, .pointer (some ⟨Q, 0, none⟩), c5, c6, .slice so' (prun l (i + 1)).O.length sc', .int .i64 i, c9, c10, c11, c12, c13, d14, c15, c16, c17, c18, c19, c20, c21, c22, c23, c24, c25, c26, c27, c28, c29, c30, c31, c32, c33, c34, c35, c36, c37, c38, c39, c40, c41, c42, c43, c44, c45, c46, c47, c48, c49, c50, c51, c52, c53, c54, c55, c56, c57, c58, c59, c60, c61, c62, c63, c64, c65, c66, c67, c68, c69, c70, c71, c72, c73, c74, c75, c76, c77, c78, c79, c80, c81, c82, c83, c84, c85, c86, c87, c88, c89, c90, c91, c92, c93, c94, c95, c96, c97, c98, c99, c100, c101, c102, c103, c104, c105, c106, c107, c108, c109, c110, c111, c112, c113, c114, c115, c116, c117, c118, c119, c120, c121, c122, c123, c124, c125, c126, c127, c128, c129, c130, c131, c132, c133, c134, c135, c136, c137, c138, c139, c140, c141, c142, c143, c144, c145, c146, c147, c148, d149, d150, d151, d152, d153, d154, d155, d156, d157, d158, d159, d160, d161, d162, d163, d164, d165, d166, d167, d168, d169, d170, d171, d172, d173, d174, c175, c176, c177, c178, c179, c180, c181, c182, c183, c184, c185, c186, c187, c188, c189, c190, c191, c192, c193, c194, c195, c196, c197, c198, c199, c200, c201, c202, c203, c204, c205, c206, c207, c208, c209, c210, c211, c212, c213, c214, c215, c216, c217, c218, c219, c220, c221, c222, c223, c224, c225, c226, c227, c228, c229, c230, c231, c232, c233, c234, c235, c236, c237, c238, c239, c240, c241, c242, c243, c244, c245, c246, c247, c248, c249, c250, c251, c252, c253, c254, c255, c256, c257, c258, c259, c260, c261, c262, c263, c264, c265, c266, c267, c268, c269, c270, c271, c272, c273, c274, c275, c276, c277, c278, c279, c280, c281, c282, c283, c284, c285, c286, c287, c288, c289, c290, c291, c292, c293, c294, c295, c296, c297, c298, c299, c300, c301, c302, c303], []⟩ w')) :
    Code.wp Tryf.prog ((elseOf 218 (Tryf.f10.body.getD .skip)).getD .skip) (Exit.then N fun _ _ _ => False) ⟨#[c0, c1, c2, c3, .pointer (some ⟨Q, 0, none⟩), c5, c6, .slice so (prun l i).O.length sc, .int .i64 i, c9, c10, c11, c12, c13, .int .i64 (q : Int), c15, c16, c17, c18, c19, c20, c21, c22, c23, c24, c25, c26, c27, c28, c29, c30, c31, c32, c33, c34, c35, c36, c37, c38, c39, c40, c41, c42, c43, c44, c45, c46, c47, c48, c49, c50, c51, c52, c53, c54, c55, c56, c57, c58, c59, c60, c61, c62, c63, c64, c65, c66, c67, c68, c69, c70, c71, c72, c73, c74, c75, c76, c77, c78, c79, c80, c81, c82, c83, c84, c85, c86, c87, c88, c89, c90, c91, c92, c93, c94, c95, c96, c97, c98, c99, c100, c101, c102, c103, c104, c105, c106, c107, c108, c109, c110, c111, c112, c113, c114, c115, c116, c117, c118, c119, c120, c121, c122, c123, c124, c125, c126, c127, c128, c129, c130, c131, c132, c133, c134, c135, c136, c137, c138, c139, c140, c141, c142, c143, c144, c145, c146, c147, c148, c149, c150, c151, c152, c153, c154, c155, c156, c157, c158, c159, c160, c161, c162, c163, c164, c165, c166, c167, c168, c169, c170, c171, c172, c173, c174, c175, c176, c177, c178, c179, c180, c181, c182, c183, c184, c185, c186, c187, c188, c189, c190, c191, c192, c193, c194, c195, c196, c197, c198, c199, c200, c201, c202, c203, c204, c205, c206, c207, c208, c209, c210, c211, c212, c213, c214, c215, c216, c217, c218, c219, c220, c221, c222, c223, c224, c225, c226, c227, c228, c229, c230, c231, c232, c233, c234, c235, c236, c237, c238, c239, c240, c241, c242, c243, c244, c245, c246, c247, c248, c249, c250, c251, c252, c253, c254, c255, c256, c257, c258, c259, c260, c261, c262, c263, c264, c265, c266, c267, c268, c269, c270, c271, c272, c273, c274, c275, c276, c277, c278, c279, c280, c281, c282, c283, c284, c285, c286, c287, c288, c289, c290, c291, c292, c293, c294, c295, c296, c297, c298, c299, c300, c301, c302, c303], []⟩ wc := by
  conv => arg 2; whnf
  obtain ⟨hBl, hOl, _⟩ := prun_len l i
  have HB0 := hide h0
  have hWF := wf_run l i (by omega)
  obtain ⟨σ, hσ⟩ : ∃ σ, σ = prun l i := ⟨_, rfl⟩
  have hsi : σ.S.getD i Stm.none = (nth l i).stm := by rw [hσ]; exact wf_here l i hi
  have hkb : ∀ o, o < σ.B.length → fAt σ.B o < i ∧ (σ.S.getD (fAt σ.B o) Stm.none).k = 1 := by rw [hσ]; exact wf_blk l i (by omega)
  rw [← hσ] at hBl hOl hWF hq HT HPR ⊢
  clear hσ
  have hoB : σ.O.getD q 0 < σ.B.length := hWF.wfO _ (getD_mem (by omega))
  have hqo : σ.O[q]? = some (σ.O.getD q 0) := by rw [List.getD_eq_getElem?_getD, List.getElem?_eq_getElem (by omega)]; rfl
  obtain ⟨o, ho⟩ : ∃ o, o = σ.O.getD q 0 := ⟨_, rfl⟩
  rw [← ho] at hoB HPR hqo
  obtain ⟨gO, hso, hgO, hgQ, hcap⟩ : ∃ gO, so = some ⟨gO, 0, none⟩ ∧ gO < wc.heap.size ∧ Q + 2 ≤ gO ∧ q + 1 ≤ sc := by
    rcases HT.out.opens.2 with ⟨_, h0⟩ | ⟨g, c, cur, hv, h2, hh, h3, _⟩
    · omega
    · cases hv
      exact ⟨g, rfl, lt_of_block hh, h2, by omega⟩
  obtain ⟨gB, cc, cur, hvB, hhB, hcB, hgB, hcells, hfz⟩ := BlkAt.get (owns_low HT.out.blocks) (by omega)
  simp only [Value.slice.injEq, true_and] at hvB
  obtain ⟨hbo, rfl⟩ := hvB
  subst hso
  have hbs := HT.out
  rw [hbo] at HT
  subst hbo
  have hgBQ : Q + 2 ≤ gB := by
    rcases HT.out.blocks.2 with ⟨h, _⟩ | ⟨g, c, cur, hv, h2, hh, h3, _⟩
    · cases h
    · cases hv; exact h2
  obtain ⟨b0, b1, b2⟩ := hcells o hoB
  have bf := hfz (o * 3 + 2)
  have s0 : wc.cell? ⟨gO, q, none⟩ = some (.int .i64 (o : Int)) := by
    refine (HT.out.opens.cellAt q (by omega)).trans ?_
    simp [ints, hqo]
  have q1 : wc.cell? ⟨Q, 1, none⟩ = some (.slice (some ⟨gB, 0, none⟩) σ.B.length cB) := cell_of HT.out.set 1
  have hql : Q < wc.heap.size := by have := HT.out.qlt; omega
  have hb1 : (o : Int) < σ.B.length := by omega
  have HE : Hid (σ.B.length ≤ i) := hBl
  have HOO := hide hqo
  clear hcells hfz hbs hhB hqo
  have hw4 : (q : Int) < (q : Int) + 1 := by omega
  rw [hq]
  have HQL := hide hq
  have hov : vAt σ.B o = vAt σ.B o := rfl
  clear ho hov hq b0 b1
  go_wp2_with fail
  go_cut [] from 149 to 159 (fun wd => Hid (St w rb Q pb sb l ⟨σ.B.set o ⟨vAt σ.B o, fAt σ.B o, (i : Int)⟩, σ.O, σ.S, σ.err⟩ i (some ⟨gB, 0, none⟩) (some ⟨gO, 0, none⟩) cB sc wd))
  case first =>
    go_region
    all_goals (go_wp2_with fail; go_meet)
    all_goals exact (HT.out.below (Below.refl _ _).drew).ended HB0.out hrQ hsr o hoB i rfl
  case rest =>
    clear b2 bf s0 q1 HT cur
    have HB' := BlkAt.get (owns_low hcut.out.blocks) (by simp; omega)
    obtain ⟨g', cc', cur', hvB, hhB, _, _, hcells, _⟩ := HB'
    simp only [Value.slice.injEq, Option.some.injEq, Addr.mk.injEq, true_and, and_true] at hvB
    obtain ⟨rfl, rfl⟩ := hvB
    obtain ⟨b0, b1, b2⟩ := hcells o (by simpa using hoB)
    simp only [vAt_set σ.B o i o hoB, fAt_set σ.B o i o hoB] at b0 b1
    rw [show ((σ.B.set o ⟨vAt σ.B o, fAt σ.B o, (i : Int)⟩).getD o Blk.none).l = (i : Int) by simp [List.getD_eq_getElem?_getD, hoB]] at b2
    have s0 : wc.cell? ⟨gO, q, none⟩ = some (.int .i64 (o : Int)) := by
      refine (hcut.out.opens.cellAt q (by have := HQL.out; show q < σ.O.length * 1; omega)).trans ?_
      simp [ints, HOO.out]
    have q1 : wc.cell? ⟨Q, 1, none⟩ = some (.slice (some ⟨gB, 0, none⟩) σ.B.length cB) := by
      have := cell_of hcut.out.set 1
      simpa using this
    have hqld : Q < wc.heap.size := by have := hcut.out.qlt; omega
    have hgOd : gO < wc.heap.size := by
      rcases hcut.out.opens.2 with ⟨h, _⟩ | ⟨g, c, cur, hv, h2, hh, h3, _⟩
      · cases h
      · cases hv; exact lt_of_block hh
    have hgBd : gB < wc.heap.size := lt_of_block hhB
    obtain ⟨f, hf⟩ : ∃ f, f = fAt σ.B o := ⟨_, rfl⟩
    obtain ⟨v, hv⟩ : ∃ v, v = vAt σ.B o := ⟨_, rfl⟩
    have hfi := (hkb o hoB).1
    have hfk := (hkb o hoB).2
    rw [← hf, ← hv] at HPR hcut
    rw [← hf] at b1 hfi hfk
    rw [← hv] at b0
    have HCON : Hid (∀ W, Below wc.heap.size wc W → Calls Tryf.prog 20 #[.pointer (some ⟨Q, 0, none⟩), .agg #[.int .i64 v, .int .i64 f, .int .i64 i]] W fun e' w' => PairPost sb l σ.S v f i (nth l i).un W e' w') := by
      intro W hW
      have hSW := hcut.out.below hW
      have hpw : W.cell? ⟨pb, 0, none⟩ = some (.slice (some ⟨sb, 0, none⟩) l.length l.length) := (World.cell?_of_block (hSW.grown.block pb (by show pb < w.heap.size; omega) (by simp; omega))).trans HP.out
      have := pair_any Q pb sb l σ.S v f i W (cell_of hSW.set 0) hpw (by have := hSW.qlt; omega) (by have := hSW.qlt; omega) hSW.rows (by omega) hi (by omega) hfk (by rw [hsi]; exact hk)
      rw [hsi] at this
      exact this
    have HCU := hide hcut
    clear hf hv hcut hcells hhB hkb hfk hWF hsi
    go_wp2_with fail
    go_cut [] from 160 to 171 (fun wd => Hid (St w rb Q pb sb l ⟨σ.B.set o ⟨v, f, (i : Int)⟩, σ.O, (σ.S.set f ⟨1, (σ.S.getD f Stm.none).v, (i : Int), (σ.S.getD f Stm.none).un⟩).set i ⟨2, v, (f : Int), (nth l i).un⟩, σ.err⟩ i (some ⟨gB, 0, none⟩) (some ⟨gO, 0, none⟩) cB sc wd))
    case first =>
      go_region_with (go_at_call 20; refine (HCON.out _ (Below.refl _ _).drew).mono ?_; rintro e5 w5 ⟨rfl, hg5, hR5⟩)
      all_goals (go_wp2_with fail; go_meet)
      all_goals exact (HCU.out.out.below (Below.refl _ _).drew).paired hrQ hsr hg5 hR5
    case rest =>
      clear b0 b1 b2 s0 q1
      have hc1 : ¬ ((q : Int) < 0) := by omega
      have hc2 : (q : Int) ≤ (sc : Int) := by omega
      go_wp2_with fail
      have HE' : q = (prun l (i + 1)).O.length := by rw [HPR.out]; simp [HQL.out]
      have HS := hcut.out.popped (m := q) (HQL.out.symm) rfl
      rw [HE']
      apply hexit.out
      case a => rw [HPR.out]; exact HS.more (Nat.le_succ i)
end Go.Proofs.Qxb6002619aFmt
