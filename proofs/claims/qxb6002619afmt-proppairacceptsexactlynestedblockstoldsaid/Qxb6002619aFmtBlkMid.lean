/-
  NEXT of a block around an open one.
-/
import Derived.Test.Qxb6002619aFmtErr
import Derived.Test.Qxb6002619aFmtTell36
import Derived.Test.Qxb6002619aFmtDel
namespace Go.Proofs.Qxb6002619aFmt
open Go.RowKit Go.Extern.Stop Go.Stop Go.Extern

set_option maxRecDepth 20000 in
set_option maxHeartbeats 8000000 in
theorem blk_mid {c0 c1 c2 c3 c5 c10 c11 c12 c15 c16 c17 c18 c19 c20 c21 c22 c23 c24 c25 c26 c27 c28 c29 c30 c31 c32 c33 c34 c35 c36 c37 c38 c39 c40 c41 c42 c43 c44 c45 c46 c47 c48 c49 c50 c51 c52 c53 c54 c55 c56 c57 c58 c59 c60 c61 c62 c63 c64 c65 c66 c67 c68 c69 c70 c71 c72 c73 c74 c75 c76 c77 c78 c79 c80 c81 c82 c83 c84 c85 c86 c87 c88 c89 c90 c91 c92 c93 c94 c95 c96 c97 c98 c99 c100 c101 c102 c103 c104 c105 c106 c107 c108 c109 c110 c111 c112 c113 c114 c115 c116 c117 c118 c119 c120 c121 c122 c123 c124 c125 c126 c127 c128 c129 c130 c131 c132 c133 c134 c135 c136 c137 c138 c139 c140 c141 c142 c143 c144 c145 c146 c147 c148 c149 c150 c151 c152 c153 c154 c155 c156 c157 c158 c159 c160 c161 c162 c163 c164 c165 c166 c167 c168 c169 c170 c171 c172 c173 c174 c175 c176 c177 c178 c179 c180 c181 c182 c183 c184 c185 c186 c187 c188 c189 c190 c191 c192 c193 c194 c195 c196 c197 c198 c199 c200 c201 c202 c203 c204 c205 c206 c207 c208 c209 c210 c211 c212 c213 c214 c215 c216 c217 c218 c219 c220 c221 c222 c223 c224 c225 c226 c227 c228 c229 c230 c231 c232 c233 c234 c235 c236 c237 c238 c239 c240 c241 c242 c243 c244 c245 c246 c247 c248 c249 c250 c251 c252 c253 c254 c255 c256 c257 c258 c259 c260 c261 c262 c263 c264 c265 c266 c267 c268 c269 c270 c271 c272 c273 c274 c275 c276 c277 c278 c279 c280 c281 c282 c283 c284 c285 c286 c287 c288 c289 c290 c291 c292 c293 c294 c295 c296 c297 c298 c299 c300 c301 c302 c303 : Value}
    {w wc : World} {rb Q pb sb i j m X9 : Nat} {l : List It} {num fl : Int} {T : TypeId} {X : Value} {nm : ByteArray} {bo so : Option Addr} {cB sc : Nat} {vo : Option Addr} {c : Nat} {ns : List ByteArray} {N : Act → World → Prop} (F : Interp) (HF : Hid (F.answers w.tape))
    (h0 : w.heap.size ≤ rb) (hrQ : rb < Q) (hsr : sb < rb) (hi : i < l.length) (hn : l.length ≤ 4096)
    (HT : Hid (St w rb Q pb sb l (prun l i) i bo so cB sc wc)) (HX9 : Hid (wc.heap[X9]? = some (.cells #[.int .i64 num, .int .i64 fl, .iface T X] 54))) (hk : (nth l i).k = 2) (hm : (prun l i).O.length = m + 1) (hjm : j + 1 < m + 1) (HP : Hid (Prg w pb sb vo c ns l)) (HFT : Hid (FitAll ns.length l l.length)) (hso : openIdx (prun l i).B (prun l i).O (if (nth l i).un then vAt (prun l i).B ((prun l i).O.getD ((prun l i).O.length - 1) 0) else (nth l i).v) = some j)
    (hexit : Hid (∀ (d13 d14 d149 d150 d151 d152 d153 d154 d155 d156 d157 d158 d159 d160 d161 d162 d163 d164 d165 d166 d167 d168 d169 d170 d171 d172 d173 d174 d175 d176 d177 d178 d179 d180 d181 d182 d183 d184 d185 d186 d187 d188 d189 d190 d191 d192 d193 d194 d195 d196 d197 d198 d199 d200 d201 d202 d203 d204 d205 d206 d207 d208 d209 d210 d211 d212 d213 d214 d215 d216 d217 d218 d219 d220 d221 d222 d223 d224 d225 d226 d227 d228 d229 d230 d231 d232 d233 d234 d235 d236 d237 d238 d239 d240 d241 d242 d243 d244 d245 d246 d247 d248 d249 d250 d251 d252 d253 d254 d255 d256 d257 d258 d259 d260 d261 : Value) (w' : World) (bo' so' : Option Addr) (cB' sc' : Nat), Hid (St w rb Q pb sb l (prun l (i + 1)) (i + 1) bo' so' cB' sc' w') → N ⟨#[c0, c1, c2, c3, .pointer (some ⟨Q, 0, none⟩), c5, .func (Fn.func 14) #[] #[.pointer (some ⟨Q + 1, 0, none⟩)], .slice so' (prun l (i + 1)).O.length sc', .int .i64 i, .pointer (some ⟨X9, 0, none⟩), c10, c11, c12, d13, d14, c15, c16, c17, c18, c19, c20, c21, c22, c23, c24, c25, c26, c27, c28, c29, c30, c31, c32, c33, c34, c35, c36, c37, c38, c39, c40, c41, c42, c43, c44, c45, c46, c47, c48, c49, c50, c51, c52, c53, c54, c55, c56, c57, c58, c59, c60, c61, c62, c63, c64, c65, c66, c67, c68, c69, c70, c71, c72, c73, c74, c75, c76, c77, c78, c79, c80, c81, c82, c83, c84, c85, c86, c87, c88, c89, c90, c91, c92, c93, c94, c95, c96, c97, c98, c99, c100, c101, c102, c103, c104, c105, c106, c107, c108, c109, c110, c111, c112, c113, c114, c115, c116, c117, c118, c119, c120, c121, c122, c123, c124, c125, c126, c127, c128, c129, c130, c131, c132, c133, c134, c135, c136, c137, c138, c139, c140, c141, c142, c143, c144, c145, c146, c147, c148, d149, d150, d151, d152, d153, d154, d155, d156, d157, d158, d159, d160, d161, d162, d163, d164, d165, d166, d167, d168, d169, d170, d171, d172, d173, d174, d175, d176, d177, d178, d179, d180, d181, d182, d183, d184, d185, d186, d187, d188, d189, d190, d191, d192, d193, d194, d195, d196, d197, d198, d199, d200, d201, d202, d203, d204, d205, d206, d207, d208, d209, d210, d211, d212, d213, d214, d215, d216, d217, d218, d219, d220, d221, d222, d223, d224, d225, d226, d227, d228, d229, d230, d231, d232, d233, d234, d235, d236, d237, d238, d239, d240, d241, d242, d243, d244, d245, d246, d247, d248, d249, d250, d251, d252, d253, d254, d255, d256, d257, d258, d259, d260, d261, c262, c263, c264, c265, c266, c267, c268, c269, c270, c271, c272, c273, c274, c275, c276, c277, c278, c279, c280, c281, c282, c283, c284, c285, c286, c287, c288, c289, c290, c291, c292, c293, c294, c295, c296, c297, c298, c299, c300, c301, c302, c303], []⟩ w')) :
    Code.wp Tryf.prog ((blockOf 3 (Tryf.f10.body.getD .skip)).getD .skip) (Exit.then N fun _ _ _ => False) ⟨#[c0, c1, c2, c3, .pointer (some ⟨Q, 0, none⟩), c5, .func (Fn.func 14) #[] #[.pointer (some ⟨Q + 1, 0, none⟩)], .slice so (prun l i).O.length sc, .int .i64 i, .pointer (some ⟨X9, 0, none⟩), c10, c11, c12, .string nm, .int .i64 (j : Int), c15, c16, c17, c18, c19, c20, c21, c22, c23, c24, c25, c26, c27, c28, c29, c30, c31, c32, c33, c34, c35, c36, c37, c38, c39, c40, c41, c42, c43, c44, c45, c46, c47, c48, c49, c50, c51, c52, c53, c54, c55, c56, c57, c58, c59, c60, c61, c62, c63, c64, c65, c66, c67, c68, c69, c70, c71, c72, c73, c74, c75, c76, c77, c78, c79, c80, c81, c82, c83, c84, c85, c86, c87, c88, c89, c90, c91, c92, c93, c94, c95, c96, c97, c98, c99, c100, c101, c102, c103, c104, c105, c106, c107, c108, c109, c110, c111, c112, c113, c114, c115, c116, c117, c118, c119, c120, c121, c122, c123, c124, c125, c126, c127, c128, c129, c130, c131, c132, c133, c134, c135, c136, c137, c138, c139, c140, c141, c142, c143, c144, c145, c146, c147, c148, c149, c150, c151, c152, c153, c154, c155, c156, c157, c158, c159, c160, c161, c162, c163, c164, c165, c166, c167, c168, c169, c170, c171, c172, c173, c174, c175, c176, c177, c178, c179, c180, c181, c182, c183, c184, c185, c186, c187, c188, c189, c190, c191, c192, c193, c194, c195, c196, c197, c198, c199, c200, c201, c202, c203, c204, c205, c206, c207, c208, c209, c210, c211, c212, c213, c214, c215, c216, c217, c218, c219, c220, c221, c222, c223, c224, c225, c226, c227, c228, c229, c230, c231, c232, c233, c234, c235, c236, c237, c238, c239, c240, c241, c242, c243, c244, c245, c246, c247, c248, c249, c250, c251, c252, c253, c254, c255, c256, c257, c258, c259, c260, c261, c262, c263, c264, c265, c266, c267, c268, c269, c270, c271, c272, c273, c274, c275, c276, c277, c278, c279, c280, c281, c282, c283, c284, c285, c286, c287, c288, c289, c290, c291, c292, c293, c294, c295, c296, c297, c298, c299, c300, c301, c302, c303], []⟩ wc := by
  conv => arg 2; whnf
  have HPR : Hid (prun l (i + 1) = ⟨(prun l i).B, (prun l i).O.eraseIdx j, (prun l i).S, true⟩) := by
    show pstep l (prun l i) i = _
    unfold pstep
    rw [if_neg (by omega), if_pos hk, if_neg (by intro h; rw [h.2] at hm; cases hm), hso]
    show (if j + 1 < (prun l i).O.length then _ else _) = _
    rw [if_pos (by omega)]
  have hWF := wf_run l i (by omega)
  obtain ⟨hBl, hOl, _⟩ := prun_len l i
  have hjo : (prun l i).O[j]? = some ((prun l i).O.getD (j) 0) := by rw [List.getD_eq_getElem?_getD, List.getElem?_eq_getElem (by omega)]; rfl
  have hoB : (prun l i).O.getD (j) 0 < (prun l i).B.length := hWF.wfO _ (getD_mem (by omega))
  have hbk := hWF.blk _ hoB
  have hft := HFT.out (fAt (prun l i).B ((prun l i).O.getD (j) 0)) (by omega) (Or.inl hbk.2.1)
  rw [hbk.2.2] at hft
  have HJO := hide hjo
  have HOB := hide hoB
  have HBK := hide hbk
  have HFV := hide hft
  clear hjo hoB hbk hft
  have hjo2 : (prun l i).O[j + 1]? = some ((prun l i).O.getD (j + 1) 0) := by rw [List.getD_eq_getElem?_getD, List.getElem?_eq_getElem (by omega)]; rfl
  have hoB2 : (prun l i).O.getD (j + 1) 0 < (prun l i).B.length := hWF.wfO _ (getD_mem (by omega))
  have hbk2 := hWF.blk _ hoB2
  have hft2 := HFT.out (fAt (prun l i).B ((prun l i).O.getD (j + 1) 0)) (by omega) (Or.inl hbk2.2.1)
  rw [hbk2.2.2] at hft2
  have HJO2 := hide hjo2
  have HOB2 := hide hoB2
  have HBK2 := hide hbk2
  have HFV2 := hide hft2
  clear hjo2 hoB2 hbk2 hft2
  have HML := hide hm
  have HB0 := hide h0
  rw [hm]
  have hmi : m + 1 ≤ i := by omega
  have hj0 : ¬ ((j : Int) < 0) := by omega
  have hw1 : IntKind.i64.wrap ((m : Int) + 1 - 1) = m := wback m (by omega)
  have hjm' : (j : Int) < (m : Int) := by omega
  clear hm h0 hk hso hWF
  go_upto_region 36 with fail
  refine wp_only ?_
  rw [← HML.out]
  refine tell36 (σ := prun l i) F HF HB0.out hrQ hsr (by omega) HT HX9 HP HJO.out HOB.out HFV.out.1 HFV.out.2 (by have := HBK.out.1; omega) HJO2.out HOB2.out HFV2.out.1 HFV2.out.2 (by have := HBK2.out.1; omega) (by omega) ?_
  refine hide ?_
  intro d224 d225 d226 d227 d228 d229 d230 d231 d232 d233 d234 d235 d236 d237 d238 d239 d240 d241 d242 d243 d244 d245 d246 d247 d248 d249 d250 d251 d252 d253 d254 d255 d256 w7 HS7 _
  dsimp only
  obtain ⟨gO, cuO, hso, hhO, hgQ, hsc, _⟩ := HS7.out.openAt (show (⟨(prun l i).B, (prun l i).O, (prun l i).S, true⟩ : PS).O[j]? = some _ from HJO.out)
  subst hso
  have hop := HS7.out.opens
  have hcap : m + 1 ≤ sc := by rw [← HML.out]; exact hsc
  have hmx : sc ≤ 9223372036854775807 := by
    rcases hop.2 with ⟨h, _⟩ | ⟨g, c', cur, hv, _, _, _, h4, _⟩
    · cases h
    · cases hv; exact h4
  have hcl : ∀ t, t < ((prun l i).O.map fun o : Nat => (o : Int)).length → w7.cell? ⟨gO, 0 + t, none⟩ = some (.int .i64 (((prun l i).O.map fun o : Nat => (o : Int)).getD t 0)) := by
    intro t ht
    rw [Nat.zero_add]
    simp only [List.length_map] at ht
    refine (hop.cellAt t (by show t < (prun l i).O.length * 1; omega)).trans ?_
    simp [ints, List.getD_eq_getElem?_getD, ht]
  have hfz : ∀ t, t < m + 1 → w7.frozen? ⟨gO, 0 + t, none⟩ = false := fun t _ => hop.frozenAt (0 + t)
  have HDEL := hide (Tryf.slices_Delete_int_cells gO 0 (m + 1) sc j (j + 1) ((prun l i).O.map fun o : Nat => (o : Int)) w7 (by simp [HML.out]) hcap hmx (by omega) (by omega) hcl hfz)
  have hw2 : IntKind.i64.wrap ((j : Int) + 1) = (j : Int) + 1 := wnext j (by omega)
  clear hhO hsc hop hcl hfz hmx hcap
  rw [HML.out]
  go_wp2_with fail
  go_at_call 19
  refine Calls.mono HDEL.out ?_
  rintro e8 w8 ⟨rfl, q8, hw8⟩
  have HE0 : m + 1 - (j + 1 - j) = (prun l (i + 1)).O.length := by rw [HPR.out]; show _ = ((prun l i).O.eraseIdx j).length; rw [List.length_eraseIdx, if_pos (by rw [HML.out]; omega), HML.out]; omega
  have HS8 : Hid (St w rb Q pb sb l ⟨(prun l i).B, (prun l i).O.eraseIdx j, (prun l i).S, true⟩ (i + 1) bo (some ⟨gO, 0, none⟩) cB sc w8) := by
    rw [hw8]
    exact HS7.out.erased HB0.out hrQ hsr j m q8 HML.out (by omega) (vs := ((List.take j (List.take (m + 1) ((prun l i).O.map fun o : Nat => (o : Int))) ++ List.drop (j + 1) (List.take (m + 1) ((prun l i).O.map fun o : Nat => (o : Int)))) ++ List.replicate (j + 1 - j) 0).map (Value.int .i64)) (by rw [List.take_of_length_le (l := (prun l i).O.map fun o : Nat => (o : Int)) (by simp [HML.out]), show j + 1 - j = 1 by omega])
  clear hw8
  rw [HE0]
  go_wp2_with fail
  apply hexit.out
  rw [HPR.out]; exact HS8
end Go.Proofs.Qxb6002619aFmt
