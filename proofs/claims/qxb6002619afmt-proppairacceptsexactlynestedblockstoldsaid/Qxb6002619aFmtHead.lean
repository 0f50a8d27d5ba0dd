/-
  NEXT, up to the choice.
-/
import Derived.Test.Qxb6002619aFmtErr
import Derived.Deep.CutBlock
namespace Go.Proofs.Qxb6002619aFmt
open Go.RowKit Go.Extern.Stop Go.Stop Go.Extern

set_option maxRecDepth 20000 in
set_option maxHeartbeats 8000000 in
theorem next_head {c0 c1 c2 c3 c5 c6 c8 c9 c10 c11 c12 c13 c14 c15 c16 c17 c18 c19 c20 c21 c22 c23 c24 c25 c26 c27 c28 c29 c30 c31 c32 c33 c34 c35 c36 c37 c38 c39 c40 c41 c42 c43 c44 c45 c46 c47 c48 c49 c50 c51 c52 c53 c54 c55 c56 c57 c58 c59 c60 c61 c62 c63 c64 c65 c66 c67 c68 c69 c70 c71 c72 c73 c74 c75 c76 c77 c78 c79 c80 c81 c82 c83 c84 c85 c86 c87 c88 c89 c90 c91 c92 c93 c94 c95 c96 c97 c98 c99 c100 c101 c102 c103 c104 c105 c106 c107 c108 c109 c110 c111 c112 c113 c114 c115 c116 c118 c119 c120 c121 c122 c123 c124 c125 c126 c127 c128 c129 c130 c131 c132 c133 c134 c135 c136 c137 c138 c139 c140 c141 c142 c143 c144 c145 c146 c147 c148 c149 c150 c151 c152 c153 c154 c155 c156 c157 c158 c159 c160 c161 c162 c163 c164 c165 c166 c167 c168 c169 c170 c171 c172 c173 c174 c175 c176 c177 c178 c179 c180 c181 c182 c183 c184 c185 c186 c187 c188 c189 c190 c191 c192 c193 c194 c195 c196 c197 c198 c199 c200 c201 c202 c203 c204 c205 c206 c207 c208 c209 c210 c211 c212 c213 c214 c215 c216 c217 c218 c219 c220 c221 c222 c223 c224 c225 c226 c227 c228 c229 c230 c231 c232 c233 c234 c235 c236 c237 c238 c239 c240 c241 c242 c243 c244 c245 c246 c247 c248 c249 c250 c251 c252 c253 c254 c255 c256 c257 c258 c259 c260 c261 c262 c263 c264 c265 c266 c267 c268 c269 c270 c271 c272 c273 c274 c275 c276 c277 c278 c279 c280 c281 c282 c283 c284 c285 c286 c287 c288 c289 c290 c291 c292 c293 c294 c295 c296 c297 c298 c299 c300 c301 c302 c303 : Value}
    {w wc : World} {rb Q pb sb i : Nat} {l : List It} {bo so : Option Addr} {cB sc : Nat} {vo : Option Addr} {c : Nat} {ns : List ByteArray} {vv : Int} {N : Act → World → Prop}
    (hi : i < l.length) (hn : l.length ≤ 4096) (HP : Hid (Prg w pb sb vo c ns l)) (hv0 : 0 ≤ vv) (hv1 : vv < ns.length)
    (hvu : (nth l i).un = true → 0 < (prun l i).O.length ∧ vv = vAt (prun l i).B ((prun l i).O.getD ((prun l i).O.length - 1) 0)) (hvn : (nth l i).un = false → vv = (nth l i).v)
    (HT : Hid (St w rb Q pb sb l (prun l i) i bo so cB sc wc))
    (hblk : Hid (∀ (d12 d117 d118 d119 d120 d121 d122 d123 d124 d125 d126 d127 d128 d129 d130 d131 d132 d133 d134 d135 d136 d137 d138 d139 d140 d141 d142 d143 d144 d145 d146 d147 d148 : Value) (nm : ByteArray) (w6 : World), Hid (St w rb Q pb sb l (prun l i) i bo so cB sc w6) → Hid (Below wc.heap.size wc w6) → Code.wp Tryf.prog ((blockOf 3 (Tryf.f10.body.getD .skip)).getD .skip) (Exit.then N fun _ _ _ => False) ⟨#[c0, c1, c2, c3, .pointer (some ⟨Q, 0, none⟩), c5, c6, .slice so (prun l i).O.length sc, c8, c9, c10, c11, d12, .string nm, .int .i64 (found (openIdx (prun l i).B (prun l i).O vv)), c15, c16, c17, c18, c19, c20, c21, c22, c23, c24, c25, c26, c27, c28, c29, c30, c31, c32, c33, c34, c35, c36, c37, c38, c39, c40, c41, c42, c43, c44, c45, c46, c47, c48, c49, c50, c51, c52, c53, c54, c55, c56, c57, c58, c59, c60, c61, c62, c63, c64, c65, c66, c67, c68, c69, c70, c71, c72, c73, c74, c75, c76, c77, c78, c79, c80, c81, c82, c83, c84, c85, c86, c87, c88, c89, c90, c91, c92, c93, c94, c95, c96, c97, c98, c99, c100, c101, c102, c103, c104, c105, c106, c107, c108, c109, c110, c111, c112, c113, c114, c115, c116, d117, d118, d119, d120, d121, d122, d123, d124, d125, d126, d127, d128, d129, d130, d131, d132, d133, d134, d135, d136, d137, d138, d139, d140, d141, d142, d143, d144, d145, d146, d147, d148, c149, c150, c151, c152, c153, c154, c155, c156, c157, c158, c159, c160, c161, c162, c163, c164, c165, c166, c167, c168, c169, c170, c171, c172, c173, c174, c175, c176, c177, c178, c179, c180, c181, c182, c183, c184, c185, c186, c187, c188, c189, c190, c191, c192, c193, c194, c195, c196, c197, c198, c199, c200, c201, c202, c203, c204, c205, c206, c207, c208, c209, c210, c211, c212, c213, c214, c215, c216, c217, c218, c219, c220, c221, c222, c223, c224, c225, c226, c227, c228, c229, c230, c231, c232, c233, c234, c235, c236, c237, c238, c239, c240, c241, c242, c243, c244, c245, c246, c247, c248, c249, c250, c251, c252, c253, c254, c255, c256, c257, c258, c259, c260, c261, c262, c263, c264, c265, c266, c267, c268, c269, c270, c271, c272, c273, c274, c275, c276, c277, c278, c279, c280, c281, c282, c283, c284, c285, c286, c287, c288, c289, c290, c291, c292, c293, c294, c295, c296, c297, c298, c299, c300, c301, c302, c303], []⟩ w6)) :
    Code.wp Tryf.prog ((thenOf 116 (Tryf.f10.body.getD .skip)).getD .skip) (Exit.then N fun _ _ _ => False) ⟨#[c0, c1, c2, c3, .pointer (some ⟨Q, 0, none⟩), c5, c6, .slice so (prun l i).O.length sc, c8, c9, c10, c11, c12, c13, c14, c15, c16, c17, c18, c19, c20, c21, c22, c23, c24, c25, c26, c27, c28, c29, c30, c31, c32, c33, c34, c35, c36, c37, c38, c39, c40, c41, c42, c43, c44, c45, c46, c47, c48, c49, c50, c51, c52, c53, c54, c55, c56, c57, c58, c59, c60, c61, c62, c63, c64, c65, c66, c67, c68, c69, c70, c71, c72, c73, c74, c75, c76, c77, c78, c79, c80, c81, c82, c83, c84, c85, c86, c87, c88, c89, c90, c91, c92, c93, c94, c95, c96, c97, c98, c99, c100, c101, c102, c103, c104, c105, c106, c107, c108, c109, c110, c111, c112, c113, c114, c115, c116, .agg #[.int .i64 (nth l i).v, .int .i64 0, .bool (nth l i).un], c118, c119, c120, c121, c122, c123, c124, c125, c126, c127, c128, c129, c130, c131, c132, c133, c134, c135, c136, c137, c138, c139, c140, c141, c142, c143, c144, c145, c146, c147, c148, c149, c150, c151, c152, c153, c154, c155, c156, c157, c158, c159, c160, c161, c162, c163, c164, c165, c166, c167, c168, c169, c170, c171, c172, c173, c174, c175, c176, c177, c178, c179, c180, c181, c182, c183, c184, c185, c186, c187, c188, c189, c190, c191, c192, c193, c194, c195, c196, c197, c198, c199, c200, c201, c202, c203, c204, c205, c206, c207, c208, c209, c210, c211, c212, c213, c214, c215, c216, c217, c218, c219, c220, c221, c222, c223, c224, c225, c226, c227, c228, c229, c230, c231, c232, c233, c234, c235, c236, c237, c238, c239, c240, c241, c242, c243, c244, c245, c246, c247, c248, c249, c250, c251, c252, c253, c254, c255, c256, c257, c258, c259, c260, c261, c262, c263, c264, c265, c266, c267, c268, c269, c270, c271, c272, c273, c274, c275, c276, c277, c278, c279, c280, c281, c282, c283, c284, c285, c286, c287, c288, c289, c290, c291, c292, c293, c294, c295, c296, c297, c298, c299, c300, c301, c302, c303], []⟩ wc := by
  conv => arg 2; whnf
  obtain ⟨hBl, hOl, _⟩ := prun_len l i
  have hWF := wf_run l i (by omega)
  have HWF := hide hWF.wfO
  obtain ⟨un, hun⟩ : ∃ un, un = (nth l i).un := ⟨_, rfl⟩
  obtain ⟨v, hv⟩ : ∃ v, v = (nth l i).v := ⟨_, rfl⟩
  obtain ⟨m, hm⟩ : ∃ m, m = (prun l i).O.length := ⟨_, rfl⟩
  rw [← hun, ← hv, ← hm]
  rw [← hun] at hvu hvn
  rw [← hv] at hvn
  rw [← hm] at hvu hOl
  have HM := hide hm
  have HVU := hide hvu
  have HVN := hide hvn
  clear hun hv hm hvu hvn hWF
  go_upto_if 119 with fail
  go_cut [] from 120 to 139 (fun wd => Hid (St w rb Q pb sb l (prun l i) i bo so cB sc wd) ∧ Hid (Below wc.heap.size wc wd) ∧ Hid (wd.heap[wc.heap.size]? = some (.cells #[.int .i64 vv, .int .i64 0, .bool un] 62)))
  case first =>
    cases un with
    | false =>
      have HVV := hide (HVN.out rfl)
      go_wp2_with fail
      go_meet
      rw [HVV.out]
      exact ⟨HT.out.alloc _, (Below.refl _ _).alloc (Nat.le_refl _) _, alloc_new wc _⟩
    | true =>
      obtain ⟨hpos, hVV⟩ := HVU.out rfl
      obtain ⟨q, rfl⟩ : ∃ q, m = q + 1 := ⟨m - 1, by omega⟩
      have hq1 : q + 1 - 1 = q := by omega
      rw [hq1] at hVV
      have hqO : q < (prun l i).O.length := by rw [← HM.out]; omega
      have hqo : (prun l i).O[q]? = some ((prun l i).O.getD q 0) := by rw [List.getD_eq_getElem?_getD, List.getElem?_eq_getElem hqO]; rfl
      have hoB : (prun l i).O.getD q 0 < (prun l i).B.length := HWF.out _ (getD_mem hqO)
      obtain ⟨gO, cuO, hso, hhO, hgQ, _, s0⟩ := HT.out.openAt hqo
      subst hso
      obtain ⟨gB, cuB, hbo, hhB, hgBQ, b0, _, _⟩ := HT.out.blkAt hoB
      subst hbo
      obtain ⟨o, ho⟩ : ∃ o, o = (prun l i).O.getD q 0 := ⟨_, rfl⟩
      rw [← hVV] at b0
      rw [← ho] at b0 s0 hoB
      have q1 : wc.cell? ⟨Q, 1, none⟩ = some (.slice (some ⟨gB, 0, none⟩) (prun l i).B.length cB) := cell_of HT.out.set 1
      have hql : Q < wc.heap.size := by have := HT.out.qlt; omega
      have hb1 : (o : Int) < (prun l i).B.length := by omega
      have hw1 : IntKind.i64.wrap ((q : Int) + 1 - 1) = q := wback q (by omega)
      have hw4 : (q : Int) < (q : Int) + 1 := by omega
      have hz : ((q : Int) + 1 == 0) = false := by simp; omega
      have hgO : gO < wc.heap.size := lt_of_block hhO
      have hgB : gB < wc.heap.size := lt_of_block hhB
      have hgO1 : gO < wc.heap.size + 1 := by omega
      have hgB1 : gB < wc.heap.size + 1 := by omega
      have hql1 : Q < wc.heap.size + 1 := by omega
      clear hVV hqo ho hhO hhB hpos hq1 hqO
      go_wp2_with fail
      go_region
      all_goals (go_wp2_with fail; go_meet)
      all_goals exact ⟨(HT.out.alloc _).below (Below.refl _ _).drew, ((Below.refl _ _).alloc (Nat.le_refl _) _).drew, alloc_new wc _⟩
  case rest =>
    rename_i W0 _ _ _ _
    obtain ⟨HTd, HBd, HXd⟩ := hcut
    have d0 : wc.cell? ⟨W0.heap.size, 0, none⟩ = some (.int .i64 vv) := cell_of HXd.out 0
    have hdl : W0.heap.size < wc.heap.size := lt_of_block HXd.out
    go_wp2_with fail
    go_at_call 17
    refine (HTd.out.name HP.out vv hv0 hv1).mono ?_
    rintro e5 w5 ⟨x5, rfl, ⟨nm, rfl⟩, hb5⟩
    have HT5 : Hid (St w rb Q pb sb l (prun l i) i bo so cB sc w5) := HTd.out.below hb5
    have HB5 : Hid (Below W0.heap.size W0 w5) := HBd.out.trans (hb5.mono (Nat.le_of_lt hdl))
    have d5 : w5.cell? ⟨W0.heap.size, 0, none⟩ = some (.int .i64 vv) := (hb5.cell (by exact hdl)).trans d0
    have hdl5 : W0.heap.size < w5.heap.size := Nat.lt_of_lt_of_le hdl hb5.size
    clear hb5 d0
    go_wp2_with fail
    go_at_call 16
    refine (openFor_any Q (.slice bo (prun l i).B.length cB) (.slice so m sc) (prun l i).B (prun l i).O vv w5 (cell_of HT5.out.set 1) (by have := HT5.out.qlt; omega) (owns_low HT5.out.blocks) ?_ HWF.out (by omega) (by rw [← HM.out]; omega)).mono ?_
    · rw [HM.out]; exact owns_low HT5.out.opens
    rintro e6 w6 ⟨rfl, hb6⟩
    have HT6 : Hid (St w rb Q pb sb l (prun l i) i bo so cB sc w6) := HT5.out.below hb6
    have HB6 : Hid (Below W0.heap.size W0 w6) := HB5.out.trans (hb6.mono (Nat.le_of_lt hdl5))
    clear hb6 d5
    go_upto_block 3 with fail
    rw [HM.out]
    apply hblk.out
    · exact HT6
    · exact HB6
end Go.Proofs.Qxb6002619aFmt
