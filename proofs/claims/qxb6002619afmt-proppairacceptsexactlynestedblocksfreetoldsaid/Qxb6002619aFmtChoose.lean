/-
  One statement, where the statements derive.
-/
import Derived.Test.Qxb6002619aFmtCode
import Derived.Test.Qxb6002619aFmtForOk
import Derived.Test.Qxb6002619aFmtNextOk
import Derived.Test.Qxb6002619aFmtInner
namespace Go.Proofs.Qxb6002619aFmt
open Go.RowKit

set_option maxRecDepth 20000 in
set_option maxHeartbeats 8000000 in
theorem switch_ok {c0 c1 c2 c3 c5 c6 c9 c10 c11 c12 c13 c14 c15 c16 c17 c18 c19 c20 c21 c22 c23 c24 c25 c26 c27 c28 c29 c30 c31 c32 c33 c34 c35 c36 c37 c38 c39 c40 c41 c42 c43 c44 c45 c46 c47 c48 c49 c50 c51 c52 c53 c54 c55 c56 c57 c58 c59 c61 c62 c63 c64 c65 c66 c67 c68 c69 c70 c71 c72 c73 c74 c75 c76 c77 c78 c79 c80 c81 c82 c83 c84 c85 c86 c87 c88 c89 c90 c91 c92 c93 c94 c95 c96 c97 c98 c99 c100 c101 c102 c103 c104 c105 c106 c107 c108 c109 c110 c111 c112 c113 c114 c115 c116 c117 c118 c119 c120 c121 c122 c123 c124 c125 c126 c127 c128 c129 c130 c131 c132 c133 c134 c135 c136 c137 c138 c139 c140 c141 c142 c143 c144 c145 c146 c147 c148 c149 c150 c151 c152 c153 c154 c155 c156 c157 c158 c159 c160 c161 c162 c163 c164 c165 c166 c167 c168 c169 c170 c171 c172 c173 c174 c175 c176 c177 c178 c179 c180 c181 c182 c183 c184 c185 c186 c187 c188 c189 c190 c191 c192 c193 c194 c195 c196 c197 c198 c199 c200 c201 c202 c203 c204 c205 c206 c207 c208 c209 c210 c211 c212 c213 c214 c215 c216 c217 c218 c219 c220 c221 c222 c223 c224 c225 c226 c227 c228 c229 c230 c231 c232 c233 c234 c235 c236 c237 c238 c239 c240 c241 c242 c243 c244 c245 c246 c247 c248 c249 c250 c251 c252 c253 c254 c255 c256 c257 c258 c259 c260 c261 c262 c263 c264 c265 c266 c267 c268 c269 c270 c271 c272 c273 c274 c275 c276 c277 c278 c279 c280 c281 c282 c283 c284 c285 c286 c287 c288 c289 c290 c291 c292 c293 c294 c295 c296 c297 c298 c299 c300 c301 c302 c303 : Value}
    {w wc : World} {rb Q pb sb i : Nat} {l : List It} {T : TypeId} {X : Value} {bo so : Option Addr} {cB sc : Nat} {vo : Option Addr} {c : Nat} {ns : List ByteArray} {N : Act → World → Prop}
    (h0 : w.heap.size ≤ rb) (hrQ : rb < Q) (hsr : sb < rb) (hps : pb < sb) (hsw : sb < w.heap.size) (hi : i < l.length) (hn : l.length ≤ 4096) (HOK : Hid (okB l = true)) (HTX : Hid ((nth l i).stm.val = .iface T X))
    (HP0 : Hid (w.cell? ⟨pb, 0, none⟩ = some (.slice (some ⟨sb, 0, none⟩) l.length l.length))) (HPC : Hid (w.cell? ⟨pb, 1, none⟩ = some (.slice vo ns.length c))) (HNM : Hid (NamesB w pb vo ns)) (HFT : Hid (FitAll ns.length l l.length))
    (HT : Hid (St w rb Q pb sb l (prun l i) i bo so cB sc wc))
    (hexit : Hid (∀ (d10 d11 d12 d13 d14 d61 d62 d63 d64 d65 d66 d67 d68 d69 d70 d71 d72 d73 d74 d75 d76 d77 d78 d79 d80 d81 d82 d83 d84 d85 d86 d87 d88 d89 d90 d91 d92 d93 d94 d95 d96 d97 d98 d99 d100 d101 d102 d103 d104 d105 d106 d107 d108 d109 d110 d111 d112 d113 d114 d115 d116 d117 d118 d119 d120 d121 d122 d123 d124 d125 d126 d127 d128 d129 d130 d131 d132 d133 d134 d135 d136 d137 d138 d139 d140 d141 d142 d143 d144 d145 d146 d147 d148 d149 d150 d151 d152 d153 d154 d155 d156 d157 d158 d159 d160 d161 d162 d163 d164 d165 d166 d167 d168 d169 d170 d171 d172 d173 d174 d175 d176 d177 d178 d179 d180 d181 d182 d183 d184 d185 d186 d187 d188 d189 d190 d191 d192 d193 d194 d195 d196 d197 d198 d199 d200 d201 d202 d203 d204 d205 d206 d207 d208 d209 d210 d211 d212 d213 d214 d215 d216 d217 d218 d219 d220 d221 d222 d223 d224 d225 d226 d227 d228 d229 d230 d231 d232 d233 d234 d235 d236 d237 d238 d239 d240 d241 d242 d243 d244 d245 d246 d247 d248 d249 d250 d251 d252 d253 d254 d255 d256 d257 d258 d259 d260 d261 : Value) (w' : World) (bo' so' : Option Addr) (cB' sc' : Nat), Hid (St w rb Q pb sb l (prun l (i + 1)) (i + 1) bo' so' cB' sc' w') → N ⟨#[c0, c1, c2, c3, .pointer (some ⟨Q, 0, none⟩), c5, c6, .slice so' (prun l (i + 1)).O.length sc', .int .i64 i, c9, d10, d11, d12, d13, d14, c15, c16, c17, c18, c19, c20, c21, c22, c23, c24, c25, c26, c27, c28, c29, c30, c31, c32, c33, c34, c35, c36, c37, c38, c39, c40, c41, c42, c43, c44, c45, c46, c47, c48, c49, c50, c51, c52, c53, c54, c55, c56, c57, c58, c59, .iface T X, d61, d62, d63, d64, d65, d66, d67, d68, d69, d70, d71, d72, d73, d74, d75, d76, d77, d78, d79, d80, d81, d82, d83, d84, d85, d86, d87, d88, d89, d90, d91, d92, d93, d94, d95, d96, d97, d98, d99, d100, d101, d102, d103, d104, d105, d106, d107, d108, d109, d110, d111, d112, d113, d114, d115, d116, d117, d118, d119, d120, d121, d122, d123, d124, d125, d126, d127, d128, d129, d130, d131, d132, d133, d134, d135, d136, d137, d138, d139, d140, d141, d142, d143, d144, d145, d146, d147, d148, d149, d150, d151, d152, d153, d154, d155, d156, d157, d158, d159, d160, d161, d162, d163, d164, d165, d166, d167, d168, d169, d170, d171, d172, d173, d174, d175, d176, d177, d178, d179, d180, d181, d182, d183, d184, d185, d186, d187, d188, d189, d190, d191, d192, d193, d194, d195, d196, d197, d198, d199, d200, d201, d202, d203, d204, d205, d206, d207, d208, d209, d210, d211, d212, d213, d214, d215, d216, d217, d218, d219, d220, d221, d222, d223, d224, d225, d226, d227, d228, d229, d230, d231, d232, d233, d234, d235, d236, d237, d238, d239, d240, d241, d242, d243, d244, d245, d246, d247, d248, d249, d250, d251, d252, d253, d254, d255, d256, d257, d258, d259, d260, d261, c262, c263, c264, c265, c266, c267, c268, c269, c270, c271, c272, c273, c274, c275, c276, c277, c278, c279, c280, c281, c282, c283, c284, c285, c286, c287, c288, c289, c290, c291, c292, c293, c294, c295, c296, c297, c298, c299, c300, c301, c302, c303], []⟩ w')) :
    Code.wp Tryf.prog ((blkOf 2 (Tryf.f10.body.getD .skip)).getD .skip) (Exit.then N fun _ _ _ => False) ⟨#[c0, c1, c2, c3, .pointer (some ⟨Q, 0, none⟩), c5, c6, .slice so (prun l i).O.length sc, .int .i64 i, c9, c10, c11, c12, c13, c14, c15, c16, c17, c18, c19, c20, c21, c22, c23, c24, c25, c26, c27, c28, c29, c30, c31, c32, c33, c34, c35, c36, c37, c38, c39, c40, c41, c42, c43, c44, c45, c46, c47, c48, c49, c50, c51, c52, c53, c54, c55, c56, c57, c58, c59, .iface T X, c61, c62, c63, c64, c65, c66, c67, c68, c69, c70, c71, c72, c73, c74, c75, c76, c77, c78, c79, c80, c81, c82, c83, c84, c85, c86, c87, c88, c89, c90, c91, c92, c93, c94, c95, c96, c97, c98, c99, c100, c101, c102, c103, c104, c105, c106, c107, c108, c109, c110, c111, c112, c113, c114, c115, c116, c117, c118, c119, c120, c121, c122, c123, c124, c125, c126, c127, c128, c129, c130, c131, c132, c133, c134, c135, c136, c137, c138, c139, c140, c141, c142, c143, c144, c145, c146, c147, c148, c149, c150, c151, c152, c153, c154, c155, c156, c157, c158, c159, c160, c161, c162, c163, c164, c165, c166, c167, c168, c169, c170, c171, c172, c173, c174, c175, c176, c177, c178, c179, c180, c181, c182, c183, c184, c185, c186, c187, c188, c189, c190, c191, c192, c193, c194, c195, c196, c197, c198, c199, c200, c201, c202, c203, c204, c205, c206, c207, c208, c209, c210, c211, c212, c213, c214, c215, c216, c217, c218, c219, c220, c221, c222, c223, c224, c225, c226, c227, c228, c229, c230, c231, c232, c233, c234, c235, c236, c237, c238, c239, c240, c241, c242, c243, c244, c245, c246, c247, c248, c249, c250, c251, c252, c253, c254, c255, c256, c257, c258, c259, c260, c261, c262, c263, c264, c265, c266, c267, c268, c269, c270, c271, c272, c273, c274, c275, c276, c277, c278, c279, c280, c281, c282, c283, c284, c285, c286, c287, c288, c289, c290, c291, c292, c293, c294, c295, c296, c297, c298, c299, c300, c301, c302, c303], []⟩ wc := by
  conv => arg 2; whnf
  have HB0 := hide h0
  clear h0
  by_cases h1 : (nth l i).k = 1
  · have hTX : T = 49 ∧ X = .agg #[.int .i64 (nth l i).v, .nilIface, .nilIface, .nilIface, .int .i64 0] := by
      have := HTX.out
      unfold Stm.val It.stm at this
      simp only [h1, if_true, Value.iface.injEq] at this
      exact ⟨this.1.symm, this.2.symm⟩
    obtain ⟨rfl, rfl⟩ := hTX
    have HO := hide (ok_for l HOK.out i hi h1).1
    have t1 := for_yes2 (.agg #[.int .i64 (nth l i).v, .nilIface, .nilIface, .nilIface, .int .i64 0])
    go_upto_if 62 with fail
    refine wp_cond_split rfl (fun h => ?_) (fun h => ?_)
    · refine wp_only ?_
      refine for_ok HB0.out hrQ hsr hi hn h1 rfl HT HO ?_
      refine hide ?_
      intro d10 d11 d64 d65 d66 d67 d68 d69 d70 d71 d72 d73 d74 d75 d76 d77 d78 d79 d80 d81 d82 d83 d84 d85 d86 d87 d88 d89 d90 d91 d92 d93 d94 d95 d96 d97 d98 d99 d100 d101 d102 d103 d104 d105 d106 d107 d108 d109 d110 d111 d112 d113 d114 w7 bo7 so7 cB7 sc7 HS7
      show N _ w7
      apply hexit.out
      exact HS7
    · simp at h
  · by_cases h2 : (nth l i).k = 2
    · obtain ⟨hO0, hOu, hOi⟩ := ok_next l HOK.out i hi h2
      obtain ⟨q, hq⟩ : ∃ q, (prun l i).O.length = q + 1 := ⟨(prun l i).O.length - 1, by omega⟩
      have hq1 : (prun l i).O.length - 1 = q := by omega
      rw [hq1] at hOu hOi
      have HPR := hide (ok_close l HOK.out i hi h2 ((prun l i).O.getD q 0) _ _ (by rw [hq1]) rfl rfl)
      have hwf := wf_run l i (by omega)
      have hoB : (prun l i).O.getD q 0 < (prun l i).B.length := hwf.wfO _ (getD_mem (by omega))
      have hbk := hwf.blk _ hoB
      have hft := HFT.out (fAt (prun l i).B ((prun l i).O.getD q 0)) (by omega) (Or.inl hbk.2.1)
      rw [hbk.2.2] at hft
      have hvv : vAt (prun l i).B ((prun l i).O.getD q 0) = if (nth l i).un then vAt (prun l i).B ((prun l i).O.getD q 0) else (nth l i).v := by
        cases hu : (nth l i).un with
        | true => rfl
        | false => exact (hOu hu).symm
      have HVV := hide hvv
      have HQQ := hide hq
      have HFF := hide hft
      have HOI := hide hOi
      clear hvv hq hft hOu hOi hO0 hq1 hwf hbk hoB
      have hTX : T = 62 ∧ X = .agg #[.int .i64 (nth l i).v, .int .i64 0, .bool (nth l i).un] := by
        have := HTX.out
        unfold Stm.val It.stm at this
        rw [if_neg h1, if_pos h2] at this
        simp only [Value.iface.injEq] at this
        exact ⟨this.1.symm, this.2.symm⟩
      obtain ⟨rfl, rfl⟩ := hTX
      have t1 := for_no2 62 (by decide) (.agg #[.int .i64 (nth l i).v, .int .i64 0, .bool (nth l i).un])
      have t2 := next_yes2 (.agg #[.int .i64 (nth l i).v, .int .i64 0, .bool (nth l i).un])
      go_upto_if 116 with fail
      refine wp_cond_split rfl (fun h => ?_) (fun h => ?_)
      · refine wp_only ?_
        refine next_ok HB0.out hrQ hsr hps hsw hi hn HQQ.out h2 HP0 HPC HNM HFF.out.1 HFF.out.2 HVV.out HT HOI HPR ?_
        refine hide ?_
        intro d12 d13 d14 d117 d118 d119 d120 d121 d122 d123 d124 d125 d126 d127 d128 d129 d130 d131 d132 d133 d134 d135 d136 d137 d138 d139 d140 d141 d142 d143 d144 d145 d146 d147 d148 d149 d150 d151 d152 d153 d154 d155 d156 d157 d158 d159 d160 d161 d162 d163 d164 d165 d166 d167 d168 d169 d170 d171 d172 d173 d174 d175 d176 d177 d178 d179 d180 d181 d182 d183 d184 d185 d186 d187 d188 d189 d190 d191 d192 d193 d194 d195 d196 d197 d198 d199 d200 d201 d202 d203 d204 d205 d206 d207 d208 d209 d210 d211 d212 d213 d214 d215 d216 d217 d218 d219 d220 d221 d222 d223 d224 d225 d226 d227 d228 d229 d230 d231 d232 d233 d234 d235 d236 d237 d238 d239 d240 d241 d242 d243 d244 d245 d246 d247 d248 d249 d250 d251 d252 d253 d254 d255 d256 d257 d258 d259 d260 d261 w7 bo7 so7 cB7 sc7 HS7
        show N _ w7
        apply hexit.out
        exact HS7
      · simp at h
    · have HP1 : Hid (prun l (i + 1) = prun l i) := by
        show pstep l (prun l i) i = _
        unfold pstep; rw [if_neg h1, if_neg h2]
      have hT : T ≠ 49 ∧ T ≠ 62 := by
        have := HTX.out
        unfold Stm.val It.stm at this
        simp only [h1, h2, if_false] at this
        split at this
        · cases this; decide
        · cases this; decide
      have t1 := for_no2 T hT.1 X
      have t2 := next_no2 T hT.2 X
      clear hT
      go_wp2_with fail
      show N _ wc
      rw [← HP1.out]
      apply hexit.out
      rw [HP1.out]; exact HT.out.more (Nat.le_succ i)
end Go.Proofs.Qxb6002619aFmt
