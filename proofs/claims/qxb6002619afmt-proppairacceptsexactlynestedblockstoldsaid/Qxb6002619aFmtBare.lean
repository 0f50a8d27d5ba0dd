/-
  NEXT without a variable where no block is open.
-/
import Derived.Test.Qxb6002619aFmtErr
import Derived.Test.Qxb6002619aFmtTell23
namespace Go.Proofs.Qxb6002619aFmt
open Go.RowKit Go.Extern.Stop Go.Stop Go.Extern

/-- the way out of the switch -/
def OutOf (n : Nat) (N : Act → World → Prop) : Exit → Act → World → Prop
  | .exit k, a, w => k = n ∧ N a w
  | _, _, _ => False

set_option maxRecDepth 20000 in
set_option maxHeartbeats 8000000 in
theorem next_bare {c0 c1 c2 c3 c5 c8 c10 c11 c12 c13 c14 c15 c16 c17 c18 c19 c20 c21 c22 c23 c24 c25 c26 c27 c28 c29 c30 c31 c32 c33 c34 c35 c36 c37 c38 c39 c40 c41 c42 c43 c44 c45 c46 c47 c48 c49 c50 c51 c52 c53 c54 c55 c56 c57 c58 c59 c60 c61 c62 c63 c64 c65 c66 c67 c68 c69 c70 c71 c72 c73 c74 c75 c76 c77 c78 c79 c80 c81 c82 c83 c84 c85 c86 c87 c88 c89 c90 c91 c92 c93 c94 c95 c96 c97 c98 c99 c100 c101 c102 c103 c104 c105 c106 c107 c108 c109 c110 c111 c112 c113 c114 c115 c116 c118 c119 c120 c121 c122 c123 c124 c125 c126 c127 c128 c129 c130 c131 c132 c133 c134 c135 c136 c137 c138 c139 c140 c141 c142 c143 c144 c145 c146 c147 c148 c149 c150 c151 c152 c153 c154 c155 c156 c157 c158 c159 c160 c161 c162 c163 c164 c165 c166 c167 c168 c169 c170 c171 c172 c173 c174 c175 c176 c177 c178 c179 c180 c181 c182 c183 c184 c185 c186 c187 c188 c189 c190 c191 c192 c193 c194 c195 c196 c197 c198 c199 c200 c201 c202 c203 c204 c205 c206 c207 c208 c209 c210 c211 c212 c213 c214 c215 c216 c217 c218 c219 c220 c221 c222 c223 c224 c225 c226 c227 c228 c229 c230 c231 c232 c233 c234 c235 c236 c237 c238 c239 c240 c241 c242 c243 c244 c245 c246 c247 c248 c249 c250 c251 c252 c253 c254 c255 c256 c257 c258 c259 c260 c261 c262 c263 c264 c265 c266 c267 c268 c269 c270 c271 c272 c273 c274 c275 c276 c277 c278 c279 c280 c281 c282 c283 c284 c285 c286 c287 c288 c289 c290 c291 c292 c293 c294 c295 c296 c297 c298 c299 c300 c301 c302 c303 : Value}
    {w wc : World} {rb Q pb sb i X9 : Nat} {l : List It} {num fl : Int} {T : TypeId} {X : Value} {bo so : Option Addr} {cB sc : Nat} {N : Act → World → Prop} (F : Interp) (HF : Hid (F.answers w.tape))
    (h0 : w.heap.size ≤ rb) (hrQ : rb < Q) (hsr : sb < rb) (hi : i < l.length) (hn : l.length ≤ 4096) (hk : (nth l i).k = 2) (hun : (nth l i).un = true) (hO : (prun l i).O = [])
    (HT : Hid (St w rb Q pb sb l (prun l i) i bo so cB sc wc)) (HX9 : Hid (wc.heap[X9]? = some (.cells #[.int .i64 num, .int .i64 fl, .iface T X] 54)))
    (hexit : Hid (∀ (d12 d117 d118 d119 d120 d121 d122 d123 d124 d125 : Value) (w' : World), prun l (i + 1) = ⟨(prun l i).B, (prun l i).O, (prun l i).S, true⟩ → Hid (St w rb Q pb sb l (prun l (i + 1)) (i + 1) bo so cB sc w') → N ⟨#[c0, c1, c2, c3, .pointer (some ⟨Q, 0, none⟩), c5, .func (Fn.func 14) #[] #[.pointer (some ⟨Q + 1, 0, none⟩)], .slice so (prun l i).O.length sc, c8, .pointer (some ⟨X9, 0, none⟩), c10, c11, d12, c13, c14, c15, c16, c17, c18, c19, c20, c21, c22, c23, c24, c25, c26, c27, c28, c29, c30, c31, c32, c33, c34, c35, c36, c37, c38, c39, c40, c41, c42, c43, c44, c45, c46, c47, c48, c49, c50, c51, c52, c53, c54, c55, c56, c57, c58, c59, c60, c61, c62, c63, c64, c65, c66, c67, c68, c69, c70, c71, c72, c73, c74, c75, c76, c77, c78, c79, c80, c81, c82, c83, c84, c85, c86, c87, c88, c89, c90, c91, c92, c93, c94, c95, c96, c97, c98, c99, c100, c101, c102, c103, c104, c105, c106, c107, c108, c109, c110, c111, c112, c113, c114, c115, c116, d117, d118, d119, d120, d121, d122, d123, d124, d125, c126, c127, c128, c129, c130, c131, c132, c133, c134, c135, c136, c137, c138, c139, c140, c141, c142, c143, c144, c145, c146, c147, c148, c149, c150, c151, c152, c153, c154, c155, c156, c157, c158, c159, c160, c161, c162, c163, c164, c165, c166, c167, c168, c169, c170, c171, c172, c173, c174, c175, c176, c177, c178, c179, c180, c181, c182, c183, c184, c185, c186, c187, c188, c189, c190, c191, c192, c193, c194, c195, c196, c197, c198, c199, c200, c201, c202, c203, c204, c205, c206, c207, c208, c209, c210, c211, c212, c213, c214, c215, c216, c217, c218, c219, c220, c221, c222, c223, c224, c225, c226, c227, c228, c229, c230, c231, c232, c233, c234, c235, c236, c237, c238, c239, c240, c241, c242, c243, c244, c245, c246, c247, c248, c249, c250, c251, c252, c253, c254, c255, c256, c257, c258, c259, c260, c261, c262, c263, c264, c265, c266, c267, c268, c269, c270, c271, c272, c273, c274, c275, c276, c277, c278, c279, c280, c281, c282, c283, c284, c285, c286, c287, c288, c289, c290, c291, c292, c293, c294, c295, c296, c297, c298, c299, c300, c301, c302, c303], []⟩ w')) :
    Code.wp Tryf.prog ((thenOf 116 (Tryf.f10.body.getD .skip)).getD .skip) (OutOf 2 N) ⟨#[c0, c1, c2, c3, .pointer (some ⟨Q, 0, none⟩), c5, .func (Fn.func 14) #[] #[.pointer (some ⟨Q + 1, 0, none⟩)], .slice so (prun l i).O.length sc, c8, .pointer (some ⟨X9, 0, none⟩), c10, c11, c12, c13, c14, c15, c16, c17, c18, c19, c20, c21, c22, c23, c24, c25, c26, c27, c28, c29, c30, c31, c32, c33, c34, c35, c36, c37, c38, c39, c40, c41, c42, c43, c44, c45, c46, c47, c48, c49, c50, c51, c52, c53, c54, c55, c56, c57, c58, c59, c60, c61, c62, c63, c64, c65, c66, c67, c68, c69, c70, c71, c72, c73, c74, c75, c76, c77, c78, c79, c80, c81, c82, c83, c84, c85, c86, c87, c88, c89, c90, c91, c92, c93, c94, c95, c96, c97, c98, c99, c100, c101, c102, c103, c104, c105, c106, c107, c108, c109, c110, c111, c112, c113, c114, c115, c116, .agg #[.int .i64 (nth l i).v, .int .i64 0, .bool (nth l i).un], c118, c119, c120, c121, c122, c123, c124, c125, c126, c127, c128, c129, c130, c131, c132, c133, c134, c135, c136, c137, c138, c139, c140, c141, c142, c143, c144, c145, c146, c147, c148, c149, c150, c151, c152, c153, c154, c155, c156, c157, c158, c159, c160, c161, c162, c163, c164, c165, c166, c167, c168, c169, c170, c171, c172, c173, c174, c175, c176, c177, c178, c179, c180, c181, c182, c183, c184, c185, c186, c187, c188, c189, c190, c191, c192, c193, c194, c195, c196, c197, c198, c199, c200, c201, c202, c203, c204, c205, c206, c207, c208, c209, c210, c211, c212, c213, c214, c215, c216, c217, c218, c219, c220, c221, c222, c223, c224, c225, c226, c227, c228, c229, c230, c231, c232, c233, c234, c235, c236, c237, c238, c239, c240, c241, c242, c243, c244, c245, c246, c247, c248, c249, c250, c251, c252, c253, c254, c255, c256, c257, c258, c259, c260, c261, c262, c263, c264, c265, c266, c267, c268, c269, c270, c271, c272, c273, c274, c275, c276, c277, c278, c279, c280, c281, c282, c283, c284, c285, c286, c287, c288, c289, c290, c291, c292, c293, c294, c295, c296, c297, c298, c299, c300, c301, c302, c303], []⟩ wc := by
  conv => arg 2; whnf
  have HPR : Hid (prun l (i + 1) = ⟨(prun l i).B, (prun l i).O, (prun l i).S, true⟩) := by
    show pstep l (prun l i) i = _
    unfold pstep
    rw [if_neg (by omega), if_pos hk, if_pos ⟨hun, hO⟩]
  have hl0 : (prun l i).O.length = 0 := by rw [hO]; rfl
  have HL0 := hide hl0
  have HB0 := hide h0
  rw [hl0, hun]
  have HT1 : Hid (St w rb Q pb sb l (prun l i) i bo so cB sc (wc.alloc (.cells #[.int .i64 (nth l i).v, .int .i64 0, .bool true] 62))) := HT.out.alloc _
  have HX1 : Hid ((wc.alloc (.cells #[.int .i64 (nth l i).v, .int .i64 0, .bool true] 62)).heap[X9]? = some (.cells #[.int .i64 num, .int .i64 fl, .iface T X] 54)) := (((Below.refl _ _).alloc (Nat.le_refl _) _).block X9 (lt_of_block HX9.out)).trans HX9.out
  clear hO hl0 h0 hk hun
  go_upto_region 23 with fail
  refine wp_only ?_
  refine tell23 F HF HB0.out hrQ hsr (by omega) HT1 HX1 ?_
  refine hide ?_
  intro d123 d124 d125 w7 HS7 _
  dsimp only
  go_wp2_with fail
  refine ⟨rfl, ?_⟩
  rw [show (Value.slice so 0 sc) = Value.slice so (prun l i).O.length sc by rw [HL0.out]]
  apply hexit.out
  · exact HPR.out
  · rw [HPR.out]; exact HS7
end Go.Proofs.Qxb6002619aFmt
