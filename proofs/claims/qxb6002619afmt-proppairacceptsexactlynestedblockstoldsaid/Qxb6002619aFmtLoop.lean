/-
  Each block that is still open is told.
-/
import Derived.Test.Qxb6002619aFmtErr
import Derived.Test.Qxb6002619aFmtReg42
import Derived.Test.Qxb6002619aFmtTell43
namespace Go.Proofs.Qxb6002619aFmt
open Go.RowKit Go.Extern.Stop Go.Stop Go.Extern

set_option maxRecDepth 20000 in
set_option maxHeartbeats 8000000 in
theorem loop2 {c1 c2 c3 c5 c7 c8 c9 c10 c11 c12 c13 c14 c15 c16 c17 c18 c19 c20 c21 c22 c23 c24 c25 c26 c27 c28 c29 c30 c31 c32 c33 c34 c35 c36 c37 c38 c39 c40 c41 c42 c43 c44 c45 c46 c47 c48 c49 c50 c51 c52 c53 c54 c55 c56 c57 c58 c59 c60 c61 c62 c63 c64 c65 c66 c67 c68 c69 c70 c71 c72 c73 c74 c75 c76 c77 c78 c79 c80 c81 c82 c83 c84 c85 c86 c87 c88 c89 c90 c91 c92 c93 c94 c95 c96 c97 c98 c99 c100 c101 c102 c103 c104 c105 c106 c107 c108 c109 c110 c111 c112 c113 c114 c115 c116 c117 c118 c119 c120 c121 c122 c123 c124 c125 c126 c127 c128 c129 c130 c131 c132 c133 c134 c135 c136 c137 c138 c139 c140 c141 c142 c143 c144 c145 c146 c147 c148 c149 c150 c151 c152 c153 c154 c155 c156 c157 c158 c159 c160 c161 c162 c163 c164 c165 c166 c167 c168 c169 c170 c171 c172 c173 c174 c175 c176 c177 c178 c179 c180 c181 c182 c183 c184 c185 c186 c187 c188 c189 c190 c191 c192 c193 c194 c195 c196 c197 c198 c199 c200 c201 c202 c203 c204 c205 c206 c207 c208 c209 c210 c211 c212 c213 c214 c215 c216 c217 c218 c219 c220 c221 c222 c223 c224 c225 c226 c227 c228 c229 c230 c231 c232 c233 c234 c235 c236 c237 c238 c239 c240 c241 c242 c243 c244 c245 c246 c247 c248 c249 c250 c251 c252 c253 c254 c255 c256 c257 c258 c259 c260 c261 c262 c266 c267 c268 c269 c270 c271 c272 c273 c274 c275 c276 c277 c278 c279 c280 c281 c282 c283 c284 c285 c286 c287 c288 c289 c290 c291 c292 c293 c294 c295 c296 c297 c298 c299 c300 c301 c302 c303 : Value}
    {w wc : World} {rb Q pb sb D m : Nat} {l : List It} {σ : PS} {bo so : Option Addr} {cB sc : Nat} {vo : Option Addr} {c : Nat} {ns : List ByteArray} {N : Act → World → Prop} (F : Interp) (HF : Hid (F.answers w.tape))
    (h0 : w.heap.size ≤ rb) (hrQ : rb < Q) (hsr : sb < rb) (hD : D + m ≤ 16000) (HP : Hid (Prg w pb sb vo c ns l)) (HM : Hid (m = σ.O.length))
    (HT : Hid (St w rb Q pb sb l σ D bo so cB sc wc)) (HB : Hid (∀ o ∈ σ.O, o < σ.B.length ∧ fAt σ.B o < l.length ∧ 0 ≤ vAt σ.B o ∧ vAt σ.B o < ns.length))
    (hexit : Hid (∀ (d16 d17 d265 d266 d267 d268 d269 d270 d271 d272 d273 d274 d275 d276 d277 d278 d279 d280 d281 d282 d283 d284 d285 d286 d287 d288 d289 d290 d291 d292 d293 d294 d295 d296 d297 d298 : Value) (w' : World) (er : Bool), (er = (σ.err || decide (0 < m))) → Hid (St w rb Q pb sb l ⟨σ.B, σ.O, σ.S, er⟩ (D + m) bo so cB sc w') → N ⟨#[.pointer (some ⟨pb, 0, none⟩), c1, c2, c3, .pointer (some ⟨Q, 0, none⟩), c5, .func (Fn.func 14) #[] #[.pointer (some ⟨Q + 1, 0, none⟩)], c7, c8, c9, c10, c11, c12, c13, c14, c15, d16, d17, c18, c19, c20, c21, c22, c23, c24, c25, c26, c27, c28, c29, c30, c31, c32, c33, c34, c35, c36, c37, c38, c39, c40, c41, c42, c43, c44, c45, c46, c47, c48, c49, c50, c51, c52, c53, c54, c55, c56, c57, c58, c59, c60, c61, c62, c63, c64, c65, c66, c67, c68, c69, c70, c71, c72, c73, c74, c75, c76, c77, c78, c79, c80, c81, c82, c83, c84, c85, c86, c87, c88, c89, c90, c91, c92, c93, c94, c95, c96, c97, c98, c99, c100, c101, c102, c103, c104, c105, c106, c107, c108, c109, c110, c111, c112, c113, c114, c115, c116, c117, c118, c119, c120, c121, c122, c123, c124, c125, c126, c127, c128, c129, c130, c131, c132, c133, c134, c135, c136, c137, c138, c139, c140, c141, c142, c143, c144, c145, c146, c147, c148, c149, c150, c151, c152, c153, c154, c155, c156, c157, c158, c159, c160, c161, c162, c163, c164, c165, c166, c167, c168, c169, c170, c171, c172, c173, c174, c175, c176, c177, c178, c179, c180, c181, c182, c183, c184, c185, c186, c187, c188, c189, c190, c191, c192, c193, c194, c195, c196, c197, c198, c199, c200, c201, c202, c203, c204, c205, c206, c207, c208, c209, c210, c211, c212, c213, c214, c215, c216, c217, c218, c219, c220, c221, c222, c223, c224, c225, c226, c227, c228, c229, c230, c231, c232, c233, c234, c235, c236, c237, c238, c239, c240, c241, c242, c243, c244, c245, c246, c247, c248, c249, c250, c251, c252, c253, c254, c255, c256, c257, c258, c259, c260, c261, c262, .slice so m sc, .int .i64 (m : Int), d265, d266, d267, d268, d269, d270, d271, d272, d273, d274, d275, d276, d277, d278, d279, d280, d281, d282, d283, d284, d285, d286, d287, d288, d289, d290, d291, d292, d293, d294, d295, d296, d297, d298, c299, c300, c301, c302, c303], []⟩ w')) :
    Code.wp Tryf.prog ((blockOf 4 (Tryf.f10.body.getD .skip)).getD .skip) (Exit.then N fun _ _ _ => False) ⟨#[.pointer (some ⟨pb, 0, none⟩), c1, c2, c3, .pointer (some ⟨Q, 0, none⟩), c5, .func (Fn.func 14) #[] #[.pointer (some ⟨Q + 1, 0, none⟩)], c7, c8, c9, c10, c11, c12, c13, c14, c15, c16, c17, c18, c19, c20, c21, c22, c23, c24, c25, c26, c27, c28, c29, c30, c31, c32, c33, c34, c35, c36, c37, c38, c39, c40, c41, c42, c43, c44, c45, c46, c47, c48, c49, c50, c51, c52, c53, c54, c55, c56, c57, c58, c59, c60, c61, c62, c63, c64, c65, c66, c67, c68, c69, c70, c71, c72, c73, c74, c75, c76, c77, c78, c79, c80, c81, c82, c83, c84, c85, c86, c87, c88, c89, c90, c91, c92, c93, c94, c95, c96, c97, c98, c99, c100, c101, c102, c103, c104, c105, c106, c107, c108, c109, c110, c111, c112, c113, c114, c115, c116, c117, c118, c119, c120, c121, c122, c123, c124, c125, c126, c127, c128, c129, c130, c131, c132, c133, c134, c135, c136, c137, c138, c139, c140, c141, c142, c143, c144, c145, c146, c147, c148, c149, c150, c151, c152, c153, c154, c155, c156, c157, c158, c159, c160, c161, c162, c163, c164, c165, c166, c167, c168, c169, c170, c171, c172, c173, c174, c175, c176, c177, c178, c179, c180, c181, c182, c183, c184, c185, c186, c187, c188, c189, c190, c191, c192, c193, c194, c195, c196, c197, c198, c199, c200, c201, c202, c203, c204, c205, c206, c207, c208, c209, c210, c211, c212, c213, c214, c215, c216, c217, c218, c219, c220, c221, c222, c223, c224, c225, c226, c227, c228, c229, c230, c231, c232, c233, c234, c235, c236, c237, c238, c239, c240, c241, c242, c243, c244, c245, c246, c247, c248, c249, c250, c251, c252, c253, c254, c255, c256, c257, c258, c259, c260, c261, c262, .slice so m sc, .int .i64 (m : Int), .int .i64 0, c266, c267, c268, c269, c270, c271, c272, c273, c274, c275, c276, c277, c278, c279, c280, c281, c282, c283, c284, c285, c286, c287, c288, c289, c290, c291, c292, c293, c294, c295, c296, c297, c298, c299, c300, c301, c302, c303], []⟩ wc := by
  conv => arg 2; whnf
  have HB0 := hide h0
  clear h0
  go_wp2
  go_loopw [265] (fun iv wr => ∃ (k : Nat) (er : Bool), k ≤ m ∧ iv = .int .i64 k ∧ (er = (σ.err || decide (0 < k))) ∧ Hid (St w rb Q pb sb l ⟨σ.B, σ.O, σ.S, er⟩ (D + k) bo so cB sc wr)) (fun iv _ => m - (intOf iv).toNat)
  case atStart => exact ⟨0, σ.err, Nat.zero_le _, rfl, by simp, HT⟩
  case round =>
    obtain ⟨k, er, hk, rfl, her, HTk⟩ := hrel
    have HER := hide her
    clear her
    by_cases hlt : k < m
    · have hkO : k < σ.O.length := by rw [← HM.out]; exact hlt
      have hko : σ.O[k]? = some (σ.O.getD k 0) := by rw [List.getD_eq_getElem?_getD, List.getElem?_eq_getElem hkO]; rfl
      have hbo := HB.out _ (getD_mem hkO)
      obtain ⟨o, ho⟩ : ∃ o, o = σ.O.getD k 0 := ⟨_, rfl⟩
      rw [← ho] at hko hbo
      have HBO := hide hbo
      obtain ⟨gO, cuO, hso, hhO, hgQ, _, s0⟩ := HTk.out.openAt (show (⟨σ.B, σ.O, σ.S, er⟩ : PS).O[k]? = some o from hko)
      subst hso
      have hgO : gO < wr.heap.size := lt_of_block hhO
      have hki : (k : Int) < (m : Int) := by omega
      clear ho hko hbo hhO
      go_upto_region 42 with fail
      refine wp_only ?_
      refine reg42 (σ := ⟨σ.B, σ.O, σ.S, er⟩) HP HTk HBO.out.1 HBO.out.2.1 ?_
      refine hide ?_
      intro d269 d270 d271 d272 d273 d274 d275 d276 d277 d278 d279 d280 d281 d282 w5 X17 num fl T X HT5 HX5
      dsimp only
      go_upto_region 43 with fail
      refine wp_only ?_
      refine tell43 (σ := ⟨σ.B, σ.O, σ.S, er⟩) F HF HB0.out hrQ hsr (by omega) HP HT5 HX5 HBO.out.1 HBO.out.2.2.1 HBO.out.2.2.2 ?_
      refine hide ?_
      intro d283 d284 d285 d286 d287 d288 d289 d290 d291 d292 d293 d294 d295 d296 d297 w6 HT6
      dsimp only
      clear s0
      go_wp2
      go_roundw
      case rel => exact ⟨k + 1, true, by omega, by go_num, by simp, HT6⟩
      case measure => simp [intOf]; omega
    · obtain rfl : m = k := by omega
      go_wp2
      apply hexit.out
      · exact HER.out
      · exact HTk
end Go.Proofs.Qxb6002619aFmt
