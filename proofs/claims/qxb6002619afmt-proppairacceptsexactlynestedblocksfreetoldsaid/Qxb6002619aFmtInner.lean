/-
  The innermost open block is noted.
-/
import Derived.Test.Qxb6002619aFmtCode
namespace Go.Proofs.Qxb6002619aFmt
open Go.RowKit

/-- the region of number k -/
def regOf (k : Nat) : Code → Option Code
  | .region i o d => if i == k then some (.region i o d) else none
  | .seq a b => match regOf k a with
    | some c => some c
    | none => regOf k b
  | .block _ c => regOf k c
  | .loop c => regOf k c
  | .cond _ a b => match regOf k a with
    | some c => some c
    | none => regOf k b
  | _ => none
/-- the block of number k -/
def blkOf (k : Nat) : Code → Option Code
  | .seq a b => match blkOf k a with
    | some c => some c
    | none => blkOf k b
  | .block i c => if i == k then some (.block i c) else blkOf k c
  | .loop c => blkOf k c
  | .cond _ a b => match blkOf k a with
    | some c => some c
    | none => blkOf k b
  | _ => none

set_option maxRecDepth 20000 in
set_option maxHeartbeats 8000000 in
theorem inner_ok {c0 c1 c2 c3 c5 c6 c9 c10 c11 c12 c13 c14 c15 c16 c17 c18 c19 c20 c21 c22 c23 c24 c25 c26 c27 c28 c29 c30 c31 c32 c33 c34 c35 c36 c37 c38 c39 c40 c41 c42 c43 c44 c45 c46 c47 c48 c49 c50 c51 c52 c53 c54 c55 c56 c57 c58 c59 c60 c61 c62 c63 c64 c65 c66 c67 c68 c69 c70 c71 c72 c73 c74 c75 c76 c77 c78 c79 c80 c81 c82 c83 c84 c85 c86 c87 c88 c89 c90 c91 c92 c93 c94 c95 c96 c97 c98 c99 c100 c101 c102 c103 c104 c105 c106 c107 c108 c109 c110 c111 c112 c113 c114 c115 c116 c117 c118 c119 c120 c121 c122 c123 c124 c125 c126 c127 c128 c129 c130 c131 c132 c133 c134 c135 c136 c137 c138 c139 c140 c141 c142 c143 c144 c145 c146 c147 c148 c149 c150 c151 c152 c153 c154 c155 c156 c157 c158 c159 c160 c161 c162 c163 c164 c165 c166 c167 c168 c169 c170 c171 c172 c173 c174 c175 c176 c177 c178 c179 c180 c181 c182 c183 c184 c185 c186 c187 c188 c189 c190 c191 c192 c193 c194 c195 c196 c197 c198 c199 c200 c201 c202 c203 c204 c205 c206 c207 c208 c209 c210 c211 c212 c213 c214 c215 c216 c217 c218 c219 c220 c221 c222 c223 c224 c225 c226 c227 c228 c229 c230 c231 c232 c233 c234 c235 c236 c237 c238 c239 c240 c241 c242 c243 c244 c245 c246 c247 c248 c249 c250 c251 c252 c253 c254 c255 c256 c257 c258 c259 c260 c261 c262 c263 c264 c265 c266 c267 c268 c269 c270 c271 c272 c273 c274 c275 c276 c277 c278 c279 c280 c281 c282 c283 c284 c285 c286 c287 c288 c289 c290 c291 c292 c293 c294 c295 c296 c297 c298 c299 c300 c301 c302 c303 : Value}
    {w wc : World} {rb Q pb sb D i q : Nat} {l : List It} {σ : PS} {bo so : Option Addr} {cB sc : Nat} {N : Act → World → Prop}
    (h0 : w.heap.size ≤ rb) (hrQ : rb < Q) (hsr : sb < rb) (hi : i < l.length) (hq : q ≤ 4096) (HM : Hid (q + 1 = σ.O.length))
    (HT : Hid (St w rb Q pb sb l σ D bo so cB sc wc))
    (hexit : Hid (∀ (d47 d48 d49 d50 d51 d52 d53 d54 d55 d56 d57 d58 : Value) (w' : World), Hid (St w rb Q pb sb l σ D bo so cB sc w') → Hid (∀ k, k ≠ rb → w'.heap[k]? = wc.heap[k]?) → N ⟨#[c0, c1, c2, c3, .pointer (some ⟨Q, 0, none⟩), c5, c6, .slice so (q + 1) sc, .int .i64 i, c9, c10, c11, c12, c13, c14, c15, c16, c17, c18, c19, c20, c21, c22, c23, c24, c25, c26, c27, c28, c29, c30, c31, c32, c33, c34, c35, c36, c37, c38, c39, c40, c41, c42, c43, c44, c45, c46, d47, d48, d49, d50, d51, d52, d53, d54, d55, d56, d57, d58, c59, c60, c61, c62, c63, c64, c65, c66, c67, c68, c69, c70, c71, c72, c73, c74, c75, c76, c77, c78, c79, c80, c81, c82, c83, c84, c85, c86, c87, c88, c89, c90, c91, c92, c93, c94, c95, c96, c97, c98, c99, c100, c101, c102, c103, c104, c105, c106, c107, c108, c109, c110, c111, c112, c113, c114, c115, c116, c117, c118, c119, c120, c121, c122, c123, c124, c125, c126, c127, c128, c129, c130, c131, c132, c133, c134, c135, c136, c137, c138, c139, c140, c141, c142, c143, c144, c145, c146, c147, c148, c149, c150, c151, c152, c153, c154, c155, c156, c157, c158, c159, c160, c161, c162, c163, c164, c165, c166, c167, c168, c169, c170, c171, c172, c173, c174, c175, c176, c177, c178, c179, c180, c181, c182, c183, c184, c185, c186, c187, c188, c189, c190, c191, c192, c193, c194, c195, c196, c197, c198, c199, c200, c201, c202, c203, c204, c205, c206, c207, c208, c209, c210, c211, c212, c213, c214, c215, c216, c217, c218, c219, c220, c221, c222, c223, c224, c225, c226, c227, c228, c229, c230, c231, c232, c233, c234, c235, c236, c237, c238, c239, c240, c241, c242, c243, c244, c245, c246, c247, c248, c249, c250, c251, c252, c253, c254, c255, c256, c257, c258, c259, c260, c261, c262, c263, c264, c265, c266, c267, c268, c269, c270, c271, c272, c273, c274, c275, c276, c277, c278, c279, c280, c281, c282, c283, c284, c285, c286, c287, c288, c289, c290, c291, c292, c293, c294, c295, c296, c297, c298, c299, c300, c301, c302, c303], []⟩ w')) :
    Code.wp Tryf.prog ((regOf 10 (Tryf.f10.body.getD .skip)).getD .skip) (Exit.then N fun _ _ _ => False) ⟨#[c0, c1, c2, c3, .pointer (some ⟨Q, 0, none⟩), c5, c6, .slice so (q + 1) sc, .int .i64 i, c9, c10, c11, c12, c13, c14, c15, c16, c17, c18, c19, c20, c21, c22, c23, c24, c25, c26, c27, c28, c29, c30, c31, c32, c33, c34, c35, c36, c37, c38, c39, c40, c41, c42, c43, c44, c45, c46, c47, c48, c49, c50, c51, c52, c53, c54, c55, c56, c57, c58, c59, c60, c61, c62, c63, c64, c65, c66, c67, c68, c69, c70, c71, c72, c73, c74, c75, c76, c77, c78, c79, c80, c81, c82, c83, c84, c85, c86, c87, c88, c89, c90, c91, c92, c93, c94, c95, c96, c97, c98, c99, c100, c101, c102, c103, c104, c105, c106, c107, c108, c109, c110, c111, c112, c113, c114, c115, c116, c117, c118, c119, c120, c121, c122, c123, c124, c125, c126, c127, c128, c129, c130, c131, c132, c133, c134, c135, c136, c137, c138, c139, c140, c141, c142, c143, c144, c145, c146, c147, c148, c149, c150, c151, c152, c153, c154, c155, c156, c157, c158, c159, c160, c161, c162, c163, c164, c165, c166, c167, c168, c169, c170, c171, c172, c173, c174, c175, c176, c177, c178, c179, c180, c181, c182, c183, c184, c185, c186, c187, c188, c189, c190, c191, c192, c193, c194, c195, c196, c197, c198, c199, c200, c201, c202, c203, c204, c205, c206, c207, c208, c209, c210, c211, c212, c213, c214, c215, c216, c217, c218, c219, c220, c221, c222, c223, c224, c225, c226, c227, c228, c229, c230, c231, c232, c233, c234, c235, c236, c237, c238, c239, c240, c241, c242, c243, c244, c245, c246, c247, c248, c249, c250, c251, c252, c253, c254, c255, c256, c257, c258, c259, c260, c261, c262, c263, c264, c265, c266, c267, c268, c269, c270, c271, c272, c273, c274, c275, c276, c277, c278, c279, c280, c281, c282, c283, c284, c285, c286, c287, c288, c289, c290, c291, c292, c293, c294, c295, c296, c297, c298, c299, c300, c301, c302, c303], []⟩ wc := by
  conv => arg 2; whnf
  have HB0 := hide h0
  have hqO : q < σ.O.length := by have := HM.out; omega
  obtain ⟨gO, hso, hhO, hgQ⟩ : ∃ gO, so = some ⟨gO, 0, none⟩ ∧ gO < wc.heap.size ∧ Q + 2 ≤ gO := by
    rcases HT.out.opens.2 with ⟨_, h0⟩ | ⟨g, c, cur, hv, h2, hh, h3, _⟩
    · omega
    · cases hv
      exact ⟨g, rfl, lt_of_block hh, h2⟩
  subst hso
  have s0 : wc.cell? ⟨gO, q, none⟩ = some (.int .i64 ((σ.O.getD q 0 : Nat) : Int)) := by
    refine (HT.out.opens.cellAt q (by omega)).trans ?_
    simp [ints, List.getD_eq_getElem?_getD, hqO]
  obtain ⟨xs, hxl, hxr⟩ := HT.out.inner
  have r0 := hxr.at i (by omega)
  have rf := hxr.frozen
  have hrl : rb < wc.heap.size := hxr.lt
  have q2 : wc.cell? ⟨Q, 2, none⟩ = some (.slice (some ⟨rb, 0, none⟩) l.length l.length) := cell_of HT.out.set 2
  have hql : Q < wc.heap.size := by have := HT.out.qlt; omega
  generalize ((σ.O.getD q 0 : Nat) : Int) = z at s0
  have HT2 : Hid (St w rb Q pb sb l σ D bo (some ⟨gO, 0, none⟩) cB sc (wc.drew.setCell ⟨rb, i, none⟩ (.int .i64 z))) := (HT.out.below (Below.refl _ _).drew).inset HB0.out hrQ hsr i z
  have HK : Hid (∀ k, k ≠ rb → (wc.drew.setCell ⟨rb, i, none⟩ (.int .i64 z)).heap[k]? = wc.heap[k]?) := fun k hk => heap_setCell_other wc.drew ⟨rb, i, none⟩ k _ hk
  have hw1 : IntKind.i64.wrap ((q : Int) + 1 - 1) = q := by simp [IntKind.wrap, IntKind.bits, IntKind.signed]; omega
  have hw4 : (q : Int) < (q : Int) + 1 := by omega
  have hge : rb ≠ gO := by omega
  have hge' : gO ≠ rb := by omega
  generalize l.length = n at *
  clear hxr hxl hqO
  go_wp2_with fail
  go_region
  all_goals go_wp2_with fail
  all_goals apply hexit.out
  all_goals first
    | exact HT2
    | exact HK
end Go.Proofs.Qxb6002619aFmt
