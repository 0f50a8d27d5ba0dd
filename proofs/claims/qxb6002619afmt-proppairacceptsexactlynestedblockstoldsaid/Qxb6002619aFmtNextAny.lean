/-
  NEXT.
-/
import Derived.Test.Qxb6002619aFmtErr
import Derived.Test.Qxb6002619aFmtHead
import Derived.Test.Qxb6002619aFmtBlkClose
import Derived.Test.Qxb6002619aFmtBlkNone
import Derived.Test.Qxb6002619aFmtBlkLow
import Derived.Test.Qxb6002619aFmtBlkMid
namespace Go.Proofs.Qxb6002619aFmt
open Go.RowKit Go.Extern.Stop Go.Stop Go.Extern

set_option maxRecDepth 20000 in
set_option maxHeartbeats 8000000 in
theorem next_any {c0 c1 c2 c3 c5 c10 c11 c12 c13 c14 c15 c16 c17 c18 c19 c20 c21 c22 c23 c24 c25 c26 c27 c28 c29 c30 c31 c32 c33 c34 c35 c36 c37 c38 c39 c40 c41 c42 c43 c44 c45 c46 c47 c48 c49 c50 c51 c52 c53 c54 c55 c56 c57 c58 c59 c60 c61 c62 c63 c64 c65 c66 c67 c68 c69 c70 c71 c72 c73 c74 c75 c76 c77 c78 c79 c80 c81 c82 c83 c84 c85 c86 c87 c88 c89 c90 c91 c92 c93 c94 c95 c96 c97 c98 c99 c100 c101 c102 c103 c104 c105 c106 c107 c108 c109 c110 c111 c112 c113 c114 c115 c116 c118 c119 c120 c121 c122 c123 c124 c125 c126 c127 c128 c129 c130 c131 c132 c133 c134 c135 c136 c137 c138 c139 c140 c141 c142 c143 c144 c145 c146 c147 c148 c149 c150 c151 c152 c153 c154 c155 c156 c157 c158 c159 c160 c161 c162 c163 c164 c165 c166 c167 c168 c169 c170 c171 c172 c173 c174 c175 c176 c177 c178 c179 c180 c181 c182 c183 c184 c185 c186 c187 c188 c189 c190 c191 c192 c193 c194 c195 c196 c197 c198 c199 c200 c201 c202 c203 c204 c205 c206 c207 c208 c209 c210 c211 c212 c213 c214 c215 c216 c217 c218 c219 c220 c221 c222 c223 c224 c225 c226 c227 c228 c229 c230 c231 c232 c233 c234 c235 c236 c237 c238 c239 c240 c241 c242 c243 c244 c245 c246 c247 c248 c249 c250 c251 c252 c253 c254 c255 c256 c257 c258 c259 c260 c261 c262 c263 c264 c265 c266 c267 c268 c269 c270 c271 c272 c273 c274 c275 c276 c277 c278 c279 c280 c281 c282 c283 c284 c285 c286 c287 c288 c289 c290 c291 c292 c293 c294 c295 c296 c297 c298 c299 c300 c301 c302 c303 : Value}
    {w wc : World} {rb Q pb sb i X9 : Nat} {l : List It} {num fl : Int} {T : TypeId} {X : Value} {bo so : Option Addr} {cB sc : Nat} {vo : Option Addr} {c : Nat} {ns : List ByteArray} {N : Act → World → Prop} (F : Interp) (HF : Hid (F.answers w.tape))
    (h0 : w.heap.size ≤ rb) (hrQ : rb < Q) (hsr : sb < rb) (hi : i < l.length) (hn : l.length ≤ 4096) (hk : (nth l i).k = 2) (HP : Hid (Prg w pb sb vo c ns l)) (HFT : Hid (FitAll ns.length l l.length)) (hne : (nth l i).un = true → (prun l i).O ≠ [])
    (HT : Hid (St w rb Q pb sb l (prun l i) i bo so cB sc wc)) (HX9 : Hid (wc.heap[X9]? = some (.cells #[.int .i64 num, .int .i64 fl, .iface T X] 54)))
    (hexit : Hid (∀ (d12 d13 d14 d117 d118 d119 d120 d121 d122 d123 d124 d125 d126 d127 d128 d129 d130 d131 d132 d133 d134 d135 d136 d137 d138 d139 d140 d141 d142 d143 d144 d145 d146 d147 d148 d149 d150 d151 d152 d153 d154 d155 d156 d157 d158 d159 d160 d161 d162 d163 d164 d165 d166 d167 d168 d169 d170 d171 d172 d173 d174 d175 d176 d177 d178 d179 d180 d181 d182 d183 d184 d185 d186 d187 d188 d189 d190 d191 d192 d193 d194 d195 d196 d197 d198 d199 d200 d201 d202 d203 d204 d205 d206 d207 d208 d209 d210 d211 d212 d213 d214 d215 d216 d217 d218 d219 d220 d221 d222 d223 d224 d225 d226 d227 d228 d229 d230 d231 d232 d233 d234 d235 d236 d237 d238 d239 d240 d241 d242 d243 d244 d245 d246 d247 d248 d249 d250 d251 d252 d253 d254 d255 d256 d257 d258 d259 d260 d261 : Value) (w' : World) (bo' so' : Option Addr) (cB' sc' : Nat), Hid (St w rb Q pb sb l (prun l (i + 1)) (i + 1) bo' so' cB' sc' w') → N ⟨#[c0, c1, c2, c3, .pointer (some ⟨Q, 0, none⟩), c5, .func (Fn.func 14) #[] #[.pointer (some ⟨Q + 1, 0, none⟩)], .slice so' (prun l (i + 1)).O.length sc', .int .i64 i, .pointer (some ⟨X9, 0, none⟩), c10, c11, d12, d13, d14, c15, c16, c17, c18, c19, c20, c21, c22, c23, c24, c25, c26, c27, c28, c29, c30, c31, c32, c33, c34, c35, c36, c37, c38, c39, c40, c41, c42, c43, c44, c45, c46, c47, c48, c49, c50, c51, c52, c53, c54, c55, c56, c57, c58, c59, c60, c61, c62, c63, c64, c65, c66, c67, c68, c69, c70, c71, c72, c73, c74, c75, c76, c77, c78, c79, c80, c81, c82, c83, c84, c85, c86, c87, c88, c89, c90, c91, c92, c93, c94, c95, c96, c97, c98, c99, c100, c101, c102, c103, c104, c105, c106, c107, c108, c109, c110, c111, c112, c113, c114, c115, c116, d117, d118, d119, d120, d121, d122, d123, d124, d125, d126, d127, d128, d129, d130, d131, d132, d133, d134, d135, d136, d137, d138, d139, d140, d141, d142, d143, d144, d145, d146, d147, d148, d149, d150, d151, d152, d153, d154, d155, d156, d157, d158, d159, d160, d161, d162, d163, d164, d165, d166, d167, d168, d169, d170, d171, d172, d173, d174, d175, d176, d177, d178, d179, d180, d181, d182, d183, d184, d185, d186, d187, d188, d189, d190, d191, d192, d193, d194, d195, d196, d197, d198, d199, d200, d201, d202, d203, d204, d205, d206, d207, d208, d209, d210, d211, d212, d213, d214, d215, d216, d217, d218, d219, d220, d221, d222, d223, d224, d225, d226, d227, d228, d229, d230, d231, d232, d233, d234, d235, d236, d237, d238, d239, d240, d241, d242, d243, d244, d245, d246, d247, d248, d249, d250, d251, d252, d253, d254, d255, d256, d257, d258, d259, d260, d261, c262, c263, c264, c265, c266, c267, c268, c269, c270, c271, c272, c273, c274, c275, c276, c277, c278, c279, c280, c281, c282, c283, c284, c285, c286, c287, c288, c289, c290, c291, c292, c293, c294, c295, c296, c297, c298, c299, c300, c301, c302, c303], []⟩ w')) :
    Code.wp Tryf.prog ((thenOf 116 (Tryf.f10.body.getD .skip)).getD .skip) (Exit.then N fun _ _ _ => False) ⟨#[c0, c1, c2, c3, .pointer (some ⟨Q, 0, none⟩), c5, .func (Fn.func 14) #[] #[.pointer (some ⟨Q + 1, 0, none⟩)], .slice so (prun l i).O.length sc, .int .i64 i, .pointer (some ⟨X9, 0, none⟩), c10, c11, c12, c13, c14, c15, c16, c17, c18, c19, c20, c21, c22, c23, c24, c25, c26, c27, c28, c29, c30, c31, c32, c33, c34, c35, c36, c37, c38, c39, c40, c41, c42, c43, c44, c45, c46, c47, c48, c49, c50, c51, c52, c53, c54, c55, c56, c57, c58, c59, c60, c61, c62, c63, c64, c65, c66, c67, c68, c69, c70, c71, c72, c73, c74, c75, c76, c77, c78, c79, c80, c81, c82, c83, c84, c85, c86, c87, c88, c89, c90, c91, c92, c93, c94, c95, c96, c97, c98, c99, c100, c101, c102, c103, c104, c105, c106, c107, c108, c109, c110, c111, c112, c113, c114, c115, c116, .agg #[.int .i64 (nth l i).v, .int .i64 0, .bool (nth l i).un], c118, c119, c120, c121, c122, c123, c124, c125, c126, c127, c128, c129, c130, c131, c132, c133, c134, c135, c136, c137, c138, c139, c140, c141, c142, c143, c144, c145, c146, c147, c148, c149, c150, c151, c152, c153, c154, c155, c156, c157, c158, c159, c160, c161, c162, c163, c164, c165, c166, c167, c168, c169, c170, c171, c172, c173, c174, c175, c176, c177, c178, c179, c180, c181, c182, c183, c184, c185, c186, c187, c188, c189, c190, c191, c192, c193, c194, c195, c196, c197, c198, c199, c200, c201, c202, c203, c204, c205, c206, c207, c208, c209, c210, c211, c212, c213, c214, c215, c216, c217, c218, c219, c220, c221, c222, c223, c224, c225, c226, c227, c228, c229, c230, c231, c232, c233, c234, c235, c236, c237, c238, c239, c240, c241, c242, c243, c244, c245, c246, c247, c248, c249, c250, c251, c252, c253, c254, c255, c256, c257, c258, c259, c260, c261, c262, c263, c264, c265, c266, c267, c268, c269, c270, c271, c272, c273, c274, c275, c276, c277, c278, c279, c280, c281, c282, c283, c284, c285, c286, c287, c288, c289, c290, c291, c292, c293, c294, c295, c296, c297, c298, c299, c300, c301, c302, c303], []⟩ wc := by
  obtain ⟨hBl, hOl, _⟩ := prun_len l i
  have hWF := wf_run l i (by omega)
  obtain ⟨vv, hvv⟩ : ∃ vv, vv = if (nth l i).un then vAt (prun l i).B ((prun l i).O.getD ((prun l i).O.length - 1) 0) else (nth l i).v := ⟨_, rfl⟩
  have hpos : (nth l i).un = true → 0 < (prun l i).O.length := fun h => List.length_pos_iff.2 (hne h)
  have hvu : (nth l i).un = true → 0 < (prun l i).O.length ∧ vv = vAt (prun l i).B ((prun l i).O.getD ((prun l i).O.length - 1) 0) := fun h => ⟨hpos h, by rw [hvv, if_pos h]⟩
  have hvn : (nth l i).un = false → vv = (nth l i).v := fun h => by rw [hvv, h]; rfl
  have hvr : 0 ≤ vv ∧ vv < ns.length := by
    cases hu : (nth l i).un with
    | true =>
      have hoB := hWF.wfO _ (getD_mem (show (prun l i).O.length - 1 < (prun l i).O.length by have := hpos hu; omega))
      have hbk := hWF.blk _ hoB
      have hft := HFT.out _ (by omega) (Or.inl hbk.2.1)
      rw [hbk.2.2] at hft
      rw [(hvu hu).2]; exact hft
    | false => rw [hvn hu]; exact HFT.out i hi (Or.inr ⟨hk, hu⟩)
  cases ho : openIdx (prun l i).B (prun l i).O vv with
  | none =>
    by_cases hO : (prun l i).O = []
    · have hun : (nth l i).un = false := by
        cases hu : (nth l i).un with
        | true => exact absurd hO (hne hu)
        | false => rfl
      refine next_head hi hn HP hvr.1 hvr.2 hvu hvn HT ?_
      refine hide ?_
      intro d12 d117 d118 d119 d120 d121 d122 d123 d124 d125 d126 d127 d128 d129 d130 d131 d132 d133 d134 d135 d136 d137 d138 d139 d140 d141 d142 d143 d144 d145 d146 d147 d148 nm w6 HT6 HB6
      have HX6 : Hid (w6.heap[X9]? = some (.cells #[.int .i64 num, .int .i64 fl, .iface T X] 54)) := (HB6.out.block X9 (lt_of_block HX9.out)).trans HX9.out
      dsimp only
      rw [ho, found_none]
      refine blk_none F HF h0 hrQ hsr hi hn HT6 HX6 hk hun hO ?_
      refine hide ?_
      intro d13 d14 d149 d150 d151 d152 d153 d154 d155 d156 d157 d158 d159 d160 d161 d162 d163 d164 d165 d166 d167 d168 d169 d170 d171 d172 d173 d174 d175 d176 d177 d178 d179 d180 d181 d182 d183 d184 d185 d186 d187 d188 d189 d190 d191 d192 d193 d194 d195 d196 d197 d198 d199 d200 d201 d202 d203 d204 d205 d206 d207 d208 d209 d210 d211 d212 d213 d214 d215 d216 d217 d218 d219 d220 d221 d222 d223 d224 d225 d226 d227 d228 d229 d230 d231 d232 d233 d234 d235 d236 d237 d238 d239 d240 d241 d242 d243 d244 d245 d246 d247 d248 d249 d250 d251 d252 d253 d254 d255 d256 d257 d258 d259 d260 d261 w7 bo7 so7 cB7 sc7 HS7
      apply hexit.out
      exact HS7
    · obtain ⟨m, hm⟩ : ∃ m, (prun l i).O.length = m + 1 := ⟨(prun l i).O.length - 1, by have := List.length_pos_iff.2 hO; omega⟩
      refine next_head hi hn HP hvr.1 hvr.2 hvu hvn HT ?_
      refine hide ?_
      intro d12 d117 d118 d119 d120 d121 d122 d123 d124 d125 d126 d127 d128 d129 d130 d131 d132 d133 d134 d135 d136 d137 d138 d139 d140 d141 d142 d143 d144 d145 d146 d147 d148 nm w6 HT6 HB6
      have HX6 : Hid (w6.heap[X9]? = some (.cells #[.int .i64 num, .int .i64 fl, .iface T X] 54)) := (HB6.out.block X9 (lt_of_block HX9.out)).trans HX9.out
      dsimp only
      rw [ho, found_none]
      refine blk_low F HF h0 hrQ hsr hi hn HT6 HX6 hk hm HP HFT (by rw [← hvv]; exact ho) ?_
      refine hide ?_
      intro d13 d14 d149 d150 d151 d152 d153 d154 d155 d156 d157 d158 d159 d160 d161 d162 d163 d164 d165 d166 d167 d168 d169 d170 d171 d172 d173 d174 d175 d176 d177 d178 d179 d180 d181 d182 d183 d184 d185 d186 d187 d188 d189 d190 d191 d192 d193 d194 d195 d196 d197 d198 d199 d200 d201 d202 d203 d204 d205 d206 d207 d208 d209 d210 d211 d212 d213 d214 d215 d216 d217 d218 d219 d220 d221 d222 d223 d224 d225 d226 d227 d228 d229 d230 d231 d232 d233 d234 d235 d236 d237 d238 d239 d240 d241 d242 d243 d244 d245 d246 d247 d248 d249 d250 d251 d252 d253 d254 d255 d256 d257 d258 d259 d260 d261 w7 bo7 so7 cB7 sc7 HS7
      apply hexit.out
      exact HS7
  | some j =>
    obtain ⟨hjl, hjp⟩ := lastIdx_some _ _ _ ho
    obtain ⟨m, hm⟩ : ∃ m, (prun l i).O.length = m + 1 := ⟨(prun l i).O.length - 1, by omega⟩
    by_cases hjm : j + 1 < m + 1
    · refine next_head hi hn HP hvr.1 hvr.2 hvu hvn HT ?_
      refine hide ?_
      intro d12 d117 d118 d119 d120 d121 d122 d123 d124 d125 d126 d127 d128 d129 d130 d131 d132 d133 d134 d135 d136 d137 d138 d139 d140 d141 d142 d143 d144 d145 d146 d147 d148 nm w6 HT6 HB6
      have HX6 : Hid (w6.heap[X9]? = some (.cells #[.int .i64 num, .int .i64 fl, .iface T X] 54)) := (HB6.out.block X9 (lt_of_block HX9.out)).trans HX9.out
      dsimp only
      rw [ho, found_some]
      refine blk_mid F HF h0 hrQ hsr hi hn HT6 HX6 hk hm hjm HP HFT (by rw [← hvv]; exact ho) ?_
      refine hide ?_
      intro d13 d14 d149 d150 d151 d152 d153 d154 d155 d156 d157 d158 d159 d160 d161 d162 d163 d164 d165 d166 d167 d168 d169 d170 d171 d172 d173 d174 d175 d176 d177 d178 d179 d180 d181 d182 d183 d184 d185 d186 d187 d188 d189 d190 d191 d192 d193 d194 d195 d196 d197 d198 d199 d200 d201 d202 d203 d204 d205 d206 d207 d208 d209 d210 d211 d212 d213 d214 d215 d216 d217 d218 d219 d220 d221 d222 d223 d224 d225 d226 d227 d228 d229 d230 d231 d232 d233 d234 d235 d236 d237 d238 d239 d240 d241 d242 d243 d244 d245 d246 d247 d248 d249 d250 d251 d252 d253 d254 d255 d256 d257 d258 d259 d260 d261 w7 bo7 so7 cB7 sc7 HS7
      apply hexit.out
      exact HS7
    · obtain rfl : j = m := by omega
      have hq1 : (prun l i).O.length - 1 = j := by omega
      have hjv : vAt (prun l i).B ((prun l i).O.getD j 0) = vv := by simpa using hjp
      have hPR := pstep_close (items := l) (i := i) (σ := prun l i) hk (by omega) (by rw [← hvv, hq1]; exact hjv.symm)
      rw [hq1] at hPR
      refine next_head hi hn HP hvr.1 hvr.2 hvu hvn HT ?_
      refine hide ?_
      intro d12 d117 d118 d119 d120 d121 d122 d123 d124 d125 d126 d127 d128 d129 d130 d131 d132 d133 d134 d135 d136 d137 d138 d139 d140 d141 d142 d143 d144 d145 d146 d147 d148 nm w6 HT6 HB6
      have HX6 : Hid (w6.heap[X9]? = some (.cells #[.int .i64 num, .int .i64 fl, .iface T X] 54)) := (HB6.out.block X9 (lt_of_block HX9.out)).trans HX9.out
      dsimp only
      rw [ho, found_some]
      refine blk_close h0 hrQ hsr hi hn hm hk HP HT6 (hide hPR) ?_
      refine hide ?_
      intro d14 d149 d150 d151 d152 d153 d154 d155 d156 d157 d158 d159 d160 d161 d162 d163 d164 d165 d166 d167 d168 d169 d170 d171 d172 d173 d174 d175 d176 d177 d178 d179 d180 d181 d182 d183 d184 d185 d186 d187 d188 d189 d190 d191 d192 d193 d194 d195 d196 d197 d198 d199 d200 d201 d202 d203 d204 d205 d206 d207 d208 d209 d210 d211 d212 d213 d214 d215 d216 d217 d218 d219 d220 d221 d222 d223 d224 d225 d226 d227 d228 d229 d230 d231 d232 d233 d234 d235 d236 d237 d238 d239 d240 d241 d242 d243 d244 d245 d246 d247 d248 d249 d250 d251 d252 d253 d254 d255 d256 d257 d258 d259 d260 d261 w7 bo7 so7 cB7 sc7 HS7
      apply hexit.out
      exact HS7

end Go.Proofs.Qxb6002619aFmt
