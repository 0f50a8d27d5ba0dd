/-
  FOR inside a block of the same variable.
-/
import Derived.Test.Qxb6002619aFmtErr
import Derived.Test.Qxb6002619aFmtTell16
import Derived.Test.Qxb6002619aFmtReg17
import Derived.Test.Qxb6002619aFmtReg18
namespace Go.Proofs.Qxb6002619aFmt
open Go.RowKit Go.Extern.Stop Go.Stop Go.Extern

set_option maxRecDepth 20000 in
set_option maxHeartbeats 8000000 in
theorem for_bad {c0 c1 c2 c3 c5 c10 c11 c12 c13 c14 c15 c16 c17 c18 c19 c20 c21 c22 c23 c24 c25 c26 c27 c28 c29 c30 c31 c32 c33 c34 c35 c36 c37 c38 c39 c40 c41 c42 c43 c44 c45 c46 c47 c48 c49 c50 c51 c52 c53 c54 c55 c56 c57 c58 c59 c60 c61 c62 c64 c65 c66 c67 c68 c69 c70 c71 c72 c73 c74 c75 c76 c77 c78 c79 c80 c81 c82 c83 c84 c85 c86 c87 c88 c89 c90 c91 c92 c93 c94 c95 c96 c97 c98 c99 c100 c101 c102 c103 c104 c105 c106 c107 c108 c109 c110 c111 c112 c113 c114 c115 c116 c117 c118 c119 c120 c121 c122 c123 c124 c125 c126 c127 c128 c129 c130 c131 c132 c133 c134 c135 c136 c137 c138 c139 c140 c141 c142 c143 c144 c145 c146 c147 c148 c149 c150 c151 c152 c153 c154 c155 c156 c157 c158 c159 c160 c161 c162 c163 c164 c165 c166 c167 c168 c169 c170 c171 c172 c173 c174 c175 c176 c177 c178 c179 c180 c181 c182 c183 c184 c185 c186 c187 c188 c189 c190 c191 c192 c193 c194 c195 c196 c197 c198 c199 c200 c201 c202 c203 c204 c205 c206 c207 c208 c209 c210 c211 c212 c213 c214 c215 c216 c217 c218 c219 c220 c221 c222 c223 c224 c225 c226 c227 c228 c229 c230 c231 c232 c233 c234 c235 c236 c237 c238 c239 c240 c241 c242 c243 c244 c245 c246 c247 c248 c249 c250 c251 c252 c253 c254 c255 c256 c257 c258 c259 c260 c261 c262 c263 c264 c265 c266 c267 c268 c269 c270 c271 c272 c273 c274 c275 c276 c277 c278 c279 c280 c281 c282 c283 c284 c285 c286 c287 c288 c289 c290 c291 c292 c293 c294 c295 c296 c297 c298 c299 c300 c301 c302 c303 : Value}
    {w wc : World} {rb Q pb sb i j X9 : Nat} {l : List It} {v num fl : Int} {T : TypeId} {X : Value} {bo so : Option Addr} {cB sc : Nat} {vo : Option Addr} {c : Nat} {ns : List ByteArray} {N : Act → World → Prop} (F : Interp) (HF : Hid (F.answers w.tape))
    (h0 : w.heap.size ≤ rb) (hrQ : rb < Q) (hsr : sb < rb) (hi : i < l.length) (hn : l.length ≤ 4096) (hk : (nth l i).k = 1) (hv : v = (nth l i).v) (HP : Hid (Prg w pb sb vo c ns l)) (HFT : Hid (FitAll ns.length l l.length))
    (HT : Hid (St w rb Q pb sb l (prun l i) i bo so cB sc wc)) (HX9 : Hid (wc.heap[X9]? = some (.cells #[.int .i64 num, .int .i64 fl, .iface T X] 54))) (HO : Hid (openIdx (prun l i).B (prun l i).O v = some j))
    (hexit : Hid (∀ (d10 d11 d64 d65 d66 d67 d68 d69 d70 d71 d72 d73 d74 d75 d76 d77 d78 d79 d80 d81 d82 d83 d84 d85 d86 d87 d88 d89 d90 d91 d92 d93 d94 d95 d96 d97 d98 d99 d100 d101 d102 d103 d104 d105 d106 d107 d108 d109 d110 d111 d112 d113 d114 : Value) (w' : World) (bo' so' : Option Addr) (cB' sc' : Nat), Hid (St w rb Q pb sb l (prun l (i + 1)) (i + 1) bo' so' cB' sc' w') → N ⟨#[c0, c1, c2, c3, .pointer (some ⟨Q, 0, none⟩), c5, .func (Fn.func 14) #[] #[.pointer (some ⟨Q + 1, 0, none⟩)], .slice so' (prun l (i + 1)).O.length sc', .int .i64 i, .pointer (some ⟨X9, 0, none⟩), d10, d11, c12, c13, c14, c15, c16, c17, c18, c19, c20, c21, c22, c23, c24, c25, c26, c27, c28, c29, c30, c31, c32, c33, c34, c35, c36, c37, c38, c39, c40, c41, c42, c43, c44, c45, c46, c47, c48, c49, c50, c51, c52, c53, c54, c55, c56, c57, c58, c59, c60, c61, c62, .agg #[.int .i64 v, .nilIface, .nilIface, .nilIface, .int .i64 0], d64, d65, d66, d67, d68, d69, d70, d71, d72, d73, d74, d75, d76, d77, d78, d79, d80, d81, d82, d83, d84, d85, d86, d87, d88, d89, d90, d91, d92, d93, d94, d95, d96, d97, d98, d99, d100, d101, d102, d103, d104, d105, d106, d107, d108, d109, d110, d111, d112, d113, d114, c115, c116, c117, c118, c119, c120, c121, c122, c123, c124, c125, c126, c127, c128, c129, c130, c131, c132, c133, c134, c135, c136, c137, c138, c139, c140, c141, c142, c143, c144, c145, c146, c147, c148, c149, c150, c151, c152, c153, c154, c155, c156, c157, c158, c159, c160, c161, c162, c163, c164, c165, c166, c167, c168, c169, c170, c171, c172, c173, c174, c175, c176, c177, c178, c179, c180, c181, c182, c183, c184, c185, c186, c187, c188, c189, c190, c191, c192, c193, c194, c195, c196, c197, c198, c199, c200, c201, c202, c203, c204, c205, c206, c207, c208, c209, c210, c211, c212, c213, c214, c215, c216, c217, c218, c219, c220, c221, c222, c223, c224, c225, c226, c227, c228, c229, c230, c231, c232, c233, c234, c235, c236, c237, c238, c239, c240, c241, c242, c243, c244, c245, c246, c247, c248, c249, c250, c251, c252, c253, c254, c255, c256, c257, c258, c259, c260, c261, c262, c263, c264, c265, c266, c267, c268, c269, c270, c271, c272, c273, c274, c275, c276, c277, c278, c279, c280, c281, c282, c283, c284, c285, c286, c287, c288, c289, c290, c291, c292, c293, c294, c295, c296, c297, c298, c299, c300, c301, c302, c303], []⟩ w')) :
    Code.wp Tryf.prog ((thenOf 62 (Tryf.f10.body.getD .skip)).getD .skip) (Exit.then N fun _ _ _ => False) ⟨#[c0, c1, c2, c3, .pointer (some ⟨Q, 0, none⟩), c5, .func (Fn.func 14) #[] #[.pointer (some ⟨Q + 1, 0, none⟩)], .slice so (prun l i).O.length sc, .int .i64 i, .pointer (some ⟨X9, 0, none⟩), c10, c11, c12, c13, c14, c15, c16, c17, c18, c19, c20, c21, c22, c23, c24, c25, c26, c27, c28, c29, c30, c31, c32, c33, c34, c35, c36, c37, c38, c39, c40, c41, c42, c43, c44, c45, c46, c47, c48, c49, c50, c51, c52, c53, c54, c55, c56, c57, c58, c59, c60, c61, c62, .agg #[.int .i64 v, .nilIface, .nilIface, .nilIface, .int .i64 0], c64, c65, c66, c67, c68, c69, c70, c71, c72, c73, c74, c75, c76, c77, c78, c79, c80, c81, c82, c83, c84, c85, c86, c87, c88, c89, c90, c91, c92, c93, c94, c95, c96, c97, c98, c99, c100, c101, c102, c103, c104, c105, c106, c107, c108, c109, c110, c111, c112, c113, c114, c115, c116, c117, c118, c119, c120, c121, c122, c123, c124, c125, c126, c127, c128, c129, c130, c131, c132, c133, c134, c135, c136, c137, c138, c139, c140, c141, c142, c143, c144, c145, c146, c147, c148, c149, c150, c151, c152, c153, c154, c155, c156, c157, c158, c159, c160, c161, c162, c163, c164, c165, c166, c167, c168, c169, c170, c171, c172, c173, c174, c175, c176, c177, c178, c179, c180, c181, c182, c183, c184, c185, c186, c187, c188, c189, c190, c191, c192, c193, c194, c195, c196, c197, c198, c199, c200, c201, c202, c203, c204, c205, c206, c207, c208, c209, c210, c211, c212, c213, c214, c215, c216, c217, c218, c219, c220, c221, c222, c223, c224, c225, c226, c227, c228, c229, c230, c231, c232, c233, c234, c235, c236, c237, c238, c239, c240, c241, c242, c243, c244, c245, c246, c247, c248, c249, c250, c251, c252, c253, c254, c255, c256, c257, c258, c259, c260, c261, c262, c263, c264, c265, c266, c267, c268, c269, c270, c271, c272, c273, c274, c275, c276, c277, c278, c279, c280, c281, c282, c283, c284, c285, c286, c287, c288, c289, c290, c291, c292, c293, c294, c295, c296, c297, c298, c299, c300, c301, c302, c303], []⟩ wc := by
  conv => arg 2; whnf
  obtain ⟨hBl, hOl, _⟩ := prun_len l i
  have HB0 := hide h0
  have HPR : Hid (prun l (i + 1) = ⟨(prun l i).B ++ [⟨v, i, -1⟩], (prun l i).O ++ [(prun l i).B.length], (prun l i).S, true⟩) := by
    show pstep l (prun l i) i = _
    unfold pstep
    rw [if_pos hk, ← hv, HO.out]; simp
  have hWF := wf_run l i (by omega)
  have HWF := hide hWF.wfO
  have hjl : j < (prun l i).O.length := (lastIdx_some _ _ _ HO.out).1
  have hjo : (prun l i).O[j]? = some ((prun l i).O.getD j 0) := by rw [List.getD_eq_getElem?_getD, List.getElem?_eq_getElem hjl]; rfl
  have hoB : (prun l i).O.getD j 0 < (prun l i).B.length := hWF.wfO _ (getD_mem hjl)
  have hbk := hWF.blk _ hoB
  have hft := HFT.out (fAt (prun l i).B ((prun l i).O.getD j 0)) (by omega) (Or.inl hbk.2.1)
  rw [hbk.2.2] at hft
  have hvf : 0 ≤ v ∧ v < ns.length := by rw [hv]; exact HFT.out i hi (Or.inl hk)
  have HJO := hide hjo
  have HOB := hide hoB
  have HBK := hide hbk
  have HFV := hide hft
  have HVF := hide hvf
  obtain ⟨m, hm⟩ : ∃ m, m = (prun l i).O.length := ⟨_, rfl⟩
  rw [← hm] at hOl ⊢
  have HM := hide hm
  clear hm hk hv h0 hjo hoB hbk hft hvf hjl hWF
  go_wp2_with fail
  go_at_call 16
  obtain ⟨W3, hW3⟩ : ∃ W3, W3 = wc.alloc (.cells #[.int .i64 v, .nilIface, .nilIface, .nilIface, .int .i64 0] 49) := ⟨_, rfl⟩
  have HT3 : Hid (St w rb Q pb sb l (prun l i) i bo so cB sc W3) := by rw [hW3]; exact HT.out.alloc _
  have HF3 : Hid (W3.heap[wc.heap.size]? = some (.cells #[.int .i64 v, .nilIface, .nilIface, .nilIface, .int .i64 0] 49)) := by rw [hW3]; exact alloc_new wc _
  have HX3 : Hid (W3.heap[X9]? = some (.cells #[.int .i64 num, .int .i64 fl, .iface T X] 54)) := by rw [hW3]; exact (((Below.refl _ _).alloc (Nat.le_refl _) _).block X9 (lt_of_block HX9.out)).trans HX9.out
  rw [← hW3]
  clear hW3
  refine (openFor_any Q (.slice bo (prun l i).B.length cB) (.slice so m sc) (prun l i).B (prun l i).O v W3 (cell_of HT3.out.set 1) (by have := HT3.out.qlt; omega) (owns_low HT3.out.blocks) ?_ HWF.out (by omega) (by rw [← HM.out]; omega)).mono ?_
  · rw [HM.out]; exact owns_low HT3.out.opens
  rintro e1 w4 ⟨rfl, hb4⟩
  rw [HO.out, found_some]
  have HT4 : Hid (St w rb Q pb sb l (prun l i) i bo so cB sc w4) := HT3.out.below hb4
  have HF4 : Hid (w4.heap[wc.heap.size]? = some (.cells #[.int .i64 v, .nilIface, .nilIface, .nilIface, .int .i64 0] 49)) := (hb4.block _ (lt_of_block HF3.out)).trans HF3.out
  have HX4 : Hid (w4.heap[X9]? = some (.cells #[.int .i64 num, .int .i64 fl, .iface T X] 54)) := (hb4.block _ (lt_of_block HX3.out)).trans HX3.out
  have HQN : Hid (wc.heap.size ≠ Q + 1) := by have := HT.out.qlt; show wc.heap.size ≠ Q + 1; omega
  clear hb4 HT3 HF3 HX3 HT HX9
  go_upto_if 70 with fail
  refine wp_cond_split rfl (fun h => ?_) (fun h => ?_)
  · refine wp_only ?_
    rw [HM.out]
    refine tell16 F HF HB0.out hrQ hsr (by omega) HP HT4 HX4 HF4 (cell_of HF4.out 0) HVF.out.1 HVF.out.2 HJO.out HOB.out HFV.out.1 HFV.out.2 (by have := HBK.out.1; omega) ?_
    refine hide ?_
    intro d71 d72 d73 d74 d75 d76 d77 d78 d79 d80 d81 d82 d83 d84 d85 d86 d87 d88 d89 d90 d91 d92 w5 HS5 HK5
    dsimp only
    have HF5 : Hid (w5.heap[wc.heap.size]? = some (.cells #[.int .i64 v, .nilIface, .nilIface, .nilIface, .int .i64 0] 49)) := (HK5.out.2 _ _ _ _ HF4.out (by decide) HQN.out).trans HF4.out
    go_upto_region 17 with fail
    refine wp_only ?_
    refine reg17 (σ := ⟨(prun l i).B, (prun l i).O, (prun l i).S, true⟩) HB0.out hrQ hsr (by show (prun l i).B.length ≤ 4096; omega) HS5 (cell_of HF5.out 0) ?_
    refine hide ?_
    intro d93 d94 d95 d96 d97 d98 d99 d100 d101 d102 d103 d104 d105 w6 g6 cap6 HS6
    dsimp only
    go_upto_region 18 with fail
    refine wp_only ?_
    refine reg18 (k := (prun l i).B.length) (σ := ⟨(prun l i).B ++ [⟨v, i, -1⟩], (prun l i).O, (prun l i).S, true⟩) HB0.out hrQ hsr (by simp) (by omega) (by show (prun l i).O.length ≤ 4096; rw [← HM.out]; omega) HS6 ?_
    refine hide ?_
    intro d106 d107 d108 d109 d110 d111 d112 d113 d114 w7 g7 cap7 HS7
    dsimp only
    have HE : (prun l i).O.length + 1 = (prun l (i + 1)).O.length := by rw [HPR.out]; simp
    show N _ w7
    rw [HE]
    apply hexit.out
    rw [HPR.out]; exact HS7
  · simp at h
end Go.Proofs.Qxb6002619aFmt
