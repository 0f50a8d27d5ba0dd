/-
  The statement of a block that is still open.
-/
import Derived.Test.Qxb6002619aFmtErr
namespace Go.Proofs.Qxb6002619aFmt
open Go.RowKit Go.Extern.Stop Go.Stop Go.Extern

set_option maxRecDepth 20000 in
set_option maxHeartbeats 8000000 in
theorem reg42 {c1 c2 c3 c5 c6 c7 c8 c9 c10 c11 c12 c13 c14 c15 c17 c18 c19 c20 c21 c22 c23 c24 c25 c26 c27 c28 c29 c30 c31 c32 c33 c34 c35 c36 c37 c38 c39 c40 c41 c42 c43 c44 c45 c46 c47 c48 c49 c50 c51 c52 c53 c54 c55 c56 c57 c58 c59 c60 c61 c62 c63 c64 c65 c66 c67 c68 c69 c70 c71 c72 c73 c74 c75 c76 c77 c78 c79 c80 c81 c82 c83 c84 c85 c86 c87 c88 c89 c90 c91 c92 c93 c94 c95 c96 c97 c98 c99 c100 c101 c102 c103 c104 c105 c106 c107 c108 c109 c110 c111 c112 c113 c114 c115 c116 c117 c118 c119 c120 c121 c122 c123 c124 c125 c126 c127 c128 c129 c130 c131 c132 c133 c134 c135 c136 c137 c138 c139 c140 c141 c142 c143 c144 c145 c146 c147 c148 c149 c150 c151 c152 c153 c154 c155 c156 c157 c158 c159 c160 c161 c162 c163 c164 c165 c166 c167 c168 c169 c170 c171 c172 c173 c174 c175 c176 c177 c178 c179 c180 c181 c182 c183 c184 c185 c186 c187 c188 c189 c190 c191 c192 c193 c194 c195 c196 c197 c198 c199 c200 c201 c202 c203 c204 c205 c206 c207 c208 c209 c210 c211 c212 c213 c214 c215 c216 c217 c218 c219 c220 c221 c222 c223 c224 c225 c226 c227 c228 c229 c230 c231 c232 c233 c234 c235 c236 c237 c238 c239 c240 c241 c242 c243 c244 c245 c246 c247 c248 c249 c250 c251 c252 c253 c254 c255 c256 c257 c258 c259 c260 c261 c262 c263 c264 c265 c266 c267 c268 c269 c270 c271 c272 c273 c274 c275 c276 c277 c278 c279 c280 c281 c282 c283 c284 c285 c286 c287 c288 c289 c290 c291 c292 c293 c294 c295 c296 c297 c298 c299 c300 c301 c302 c303 : Value}
    {w wc : World} {rb Q pb sb D o : Nat} {l : List It} {σ : PS} {bo so : Option Addr} {cB sc : Nat} {vo : Option Addr} {c : Nat} {ns : List ByteArray} {N : Act → World → Prop}
    (HP : Hid (Prg w pb sb vo c ns l)) (HT : Hid (St w rb Q pb sb l σ D bo so cB sc wc)) (ho : o < σ.B.length) (hbf : fAt σ.B o < l.length)
    (hexit : Hid (∀ (d269 d270 d271 d272 d273 d274 d275 d276 d277 d278 d279 d280 d281 d282 : Value) (w' : World) (X17 : Nat) (num fl : Int) (T : TypeId) (X : Value), Hid (St w rb Q pb sb l σ D bo so cB sc w') → Hid (w'.heap[X17]? = some (.cells #[.int .i64 num, .int .i64 fl, .iface T X] 54)) → N ⟨#[.pointer (some ⟨pb, 0, none⟩), c1, c2, c3, .pointer (some ⟨Q, 0, none⟩), c5, c6, c7, c8, c9, c10, c11, c12, c13, c14, c15, .int .i64 (o : Int), .pointer (some ⟨X17, 0, none⟩), c18, c19, c20, c21, c22, c23, c24, c25, c26, c27, c28, c29, c30, c31, c32, c33, c34, c35, c36, c37, c38, c39, c40, c41, c42, c43, c44, c45, c46, c47, c48, c49, c50, c51, c52, c53, c54, c55, c56, c57, c58, c59, c60, c61, c62, c63, c64, c65, c66, c67, c68, c69, c70, c71, c72, c73, c74, c75, c76, c77, c78, c79, c80, c81, c82, c83, c84, c85, c86, c87, c88, c89, c90, c91, c92, c93, c94, c95, c96, c97, c98, c99, c100, c101, c102, c103, c104, c105, c106, c107, c108, c109, c110, c111, c112, c113, c114, c115, c116, c117, c118, c119, c120, c121, c122, c123, c124, c125, c126, c127, c128, c129, c130, c131, c132, c133, c134, c135, c136, c137, c138, c139, c140, c141, c142, c143, c144, c145, c146, c147, c148, c149, c150, c151, c152, c153, c154, c155, c156, c157, c158, c159, c160, c161, c162, c163, c164, c165, c166, c167, c168, c169, c170, c171, c172, c173, c174, c175, c176, c177, c178, c179, c180, c181, c182, c183, c184, c185, c186, c187, c188, c189, c190, c191, c192, c193, c194, c195, c196, c197, c198, c199, c200, c201, c202, c203, c204, c205, c206, c207, c208, c209, c210, c211, c212, c213, c214, c215, c216, c217, c218, c219, c220, c221, c222, c223, c224, c225, c226, c227, c228, c229, c230, c231, c232, c233, c234, c235, c236, c237, c238, c239, c240, c241, c242, c243, c244, c245, c246, c247, c248, c249, c250, c251, c252, c253, c254, c255, c256, c257, c258, c259, c260, c261, c262, c263, c264, c265, c266, c267, c268, d269, d270, d271, d272, d273, d274, d275, d276, d277, d278, d279, d280, d281, d282, c283, c284, c285, c286, c287, c288, c289, c290, c291, c292, c293, c294, c295, c296, c297, c298, c299, c300, c301, c302, c303], []⟩ w')) :
    Code.wp Tryf.prog ((regionOf 42 (Tryf.f10.body.getD .skip)).getD .skip) (Exit.then N fun _ _ _ => False) ⟨#[.pointer (some ⟨pb, 0, none⟩), c1, c2, c3, .pointer (some ⟨Q, 0, none⟩), c5, c6, c7, c8, c9, c10, c11, c12, c13, c14, c15, .int .i64 (o : Int), c17, c18, c19, c20, c21, c22, c23, c24, c25, c26, c27, c28, c29, c30, c31, c32, c33, c34, c35, c36, c37, c38, c39, c40, c41, c42, c43, c44, c45, c46, c47, c48, c49, c50, c51, c52, c53, c54, c55, c56, c57, c58, c59, c60, c61, c62, c63, c64, c65, c66, c67, c68, c69, c70, c71, c72, c73, c74, c75, c76, c77, c78, c79, c80, c81, c82, c83, c84, c85, c86, c87, c88, c89, c90, c91, c92, c93, c94, c95, c96, c97, c98, c99, c100, c101, c102, c103, c104, c105, c106, c107, c108, c109, c110, c111, c112, c113, c114, c115, c116, c117, c118, c119, c120, c121, c122, c123, c124, c125, c126, c127, c128, c129, c130, c131, c132, c133, c134, c135, c136, c137, c138, c139, c140, c141, c142, c143, c144, c145, c146, c147, c148, c149, c150, c151, c152, c153, c154, c155, c156, c157, c158, c159, c160, c161, c162, c163, c164, c165, c166, c167, c168, c169, c170, c171, c172, c173, c174, c175, c176, c177, c178, c179, c180, c181, c182, c183, c184, c185, c186, c187, c188, c189, c190, c191, c192, c193, c194, c195, c196, c197, c198, c199, c200, c201, c202, c203, c204, c205, c206, c207, c208, c209, c210, c211, c212, c213, c214, c215, c216, c217, c218, c219, c220, c221, c222, c223, c224, c225, c226, c227, c228, c229, c230, c231, c232, c233, c234, c235, c236, c237, c238, c239, c240, c241, c242, c243, c244, c245, c246, c247, c248, c249, c250, c251, c252, c253, c254, c255, c256, c257, c258, c259, c260, c261, c262, c263, c264, c265, c266, c267, c268, c269, c270, c271, c272, c273, c274, c275, c276, c277, c278, c279, c280, c281, c282, c283, c284, c285, c286, c287, c288, c289, c290, c291, c292, c293, c294, c295, c296, c297, c298, c299, c300, c301, c302, c303], []⟩ wc := by
  conv => arg 2; whnf
  have hP := HP.out.grown HT.out.grown
  have p0 := hP.p0
  have hpl : pb < wc.heap.size := by have := hP.lt; have := hP.sl; omega
  have hsl : sb < wc.heap.size := hP.sl
  obtain ⟨gB, cuB, rfl, hhB, hgBQ, _, b1, _⟩ := HT.out.blkAt ho
  have q1 : wc.cell? ⟨Q, 1, none⟩ = some (.slice (some ⟨gB, 0, none⟩) σ.B.length cB) := cell_of HT.out.set 1
  have hql : Q < wc.heap.size := by have := HT.out.qlt; omega
  have hgB : gB < wc.heap.size := lt_of_block hhB
  have c0 := HT.out.rows.at0 (fAt σ.B o) hbf
  have c1 := HT.out.rows.at1 (fAt σ.B o) hbf
  have c2 := HT.out.rows.at2 (fAt σ.B o) hbf
  obtain ⟨T, X, hTX⟩ : ∃ T X, (σ.S.getD (fAt σ.B o) Stm.none).val = .iface T X := by
    unfold Stm.val
    split
    · exact ⟨_, _, rfl⟩
    · split
      · exact ⟨_, _, rfl⟩
      · split
        · exact ⟨_, _, rfl⟩
        · exact ⟨_, _, rfl⟩
  rw [hTX] at c2
  clear hTX hP hhB
  have ho1 : (o : Int) < (σ.B.length : Int) := by omega
  generalize hFA : fAt σ.B o = bf at *
  generalize (nth l bf).num = num at *
  generalize (nth l bf).fl = fl at *
  obtain ⟨n, hnl⟩ : ∃ n, n = l.length := ⟨_, rfl⟩
  rw [← hnl] at p0 hbf
  have hbi : (bf : Int) < (n : Int) := by omega
  generalize hNB : σ.B.length = nB at *
  clear hFA hnl hNB
  go_wp2_with fail
  go_region_held (fun w' => w'.cell? ⟨pb, 0, none⟩ = some (.slice (some ⟨sb, 0, none⟩) n n) ∧ w'.cell? ⟨Q, 1, none⟩ = some (.slice (some ⟨gB, 0, none⟩) nB cB) ∧ w'.cell? ⟨gB, o * 3 + 1, none⟩ = some (.int .i64 (bf : Int)) ∧ w'.cell? ⟨sb, bf * 3, none⟩ = some (.int .i64 num) ∧ w'.cell? ⟨sb, bf * 3 + 1, none⟩ = some (.int .i64 fl) ∧ w'.cell? ⟨sb, bf * 3 + 2, none⟩ = some (.iface T X)) (go_keep) (fail)
  all_goals go_wp2_with fail
  all_goals apply hexit.out
  all_goals first
    | exact (HT.out.alloc _).below (Below.refl _ _).drew
    | exact alloc_new wc _
end Go.Proofs.Qxb6002619aFmt
