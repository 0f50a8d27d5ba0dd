/-
  The diagnostic at a NEXT of another variable than the open blocks have.
-/
import Derived.Test.Qxb6002619aFmtErr
namespace Go.Proofs.Qxb6002619aFmt
open Go.RowKit Go.Extern.Stop Go.Stop Go.Extern

set_option maxRecDepth 20000 in
set_option maxHeartbeats 8000000 in
theorem tell33 {c0 c1 c2 c3 c5 c8 c10 c11 c12 c14 c15 c16 c17 c18 c19 c20 c21 c22 c23 c24 c25 c26 c27 c28 c29 c30 c31 c32 c33 c34 c35 c36 c37 c38 c39 c40 c41 c42 c43 c44 c45 c46 c47 c48 c49 c50 c51 c52 c53 c54 c55 c56 c57 c58 c59 c60 c61 c62 c63 c64 c65 c66 c67 c68 c69 c70 c71 c72 c73 c74 c75 c76 c77 c78 c79 c80 c81 c82 c83 c84 c85 c86 c87 c88 c89 c90 c91 c92 c93 c94 c95 c96 c97 c98 c99 c100 c101 c102 c103 c104 c105 c106 c107 c108 c109 c110 c111 c112 c113 c114 c115 c116 c117 c118 c119 c120 c121 c122 c123 c124 c125 c126 c127 c128 c129 c130 c131 c132 c133 c134 c135 c136 c137 c138 c139 c140 c141 c142 c143 c144 c145 c146 c147 c148 c149 c150 c151 c152 c153 c154 c155 c156 c157 c158 c159 c160 c161 c162 c163 c164 c165 c166 c167 c168 c169 c170 c171 c172 c173 c174 c175 c176 c177 c178 c179 c180 c181 c182 c183 c184 c185 c186 c187 c188 c189 c190 c191 c192 c193 c194 c195 c196 c197 c198 c199 c200 c201 c202 c203 c204 c205 c206 c207 c208 c209 c210 c211 c212 c213 c214 c215 c216 c217 c218 c219 c220 c221 c222 c223 c224 c225 c226 c227 c228 c229 c230 c231 c232 c233 c234 c235 c236 c237 c238 c239 c240 c241 c242 c243 c244 c245 c246 c247 c248 c249 c250 c251 c252 c253 c254 c255 c256 c257 c258 c259 c260 c261 c262 c263 c264 c265 c266 c267 c268 c269 c270 c271 c272 c273 c274 c275 c276 c277 c278 c279 c280 c281 c282 c283 c284 c285 c286 c287 c288 c289 c290 c291 c292 c293 c294 c295 c296 c297 c298 c299 c300 c301 c302 c303 : Value}
    {w wc : World} {rb Q pb sb D X9 m o : Nat} {l : List It} {σ : PS} {num fl : Int} {T : TypeId} {X : Value} {nm : ByteArray} {vo : Option Addr} {c : Nat} {ns : List ByteArray} {bo so : Option Addr} {cB sc : Nat} {N : Act → World → Prop} (F : Interp) (HF : Hid (F.answers w.tape))
    (h0 : w.heap.size ≤ rb) (hrQ : rb < Q) (hsr : sb < rb) (hD : D ≤ 16000)
    (HT : Hid (St w rb Q pb sb l σ D bo so cB sc wc)) (HX9 : Hid (wc.heap[X9]? = some (.cells #[.int .i64 num, .int .i64 fl, .iface T X] 54)))
    (HP : Hid (Prg w pb sb vo c ns l)) (hm : σ.O[m]? = some o) (ho : o < σ.B.length) (hb0o : 0 ≤ vAt σ.B o) (hb1o : vAt σ.B o < ns.length) (hbfo : fAt σ.B o < l.length) (hmO : σ.O.length = m + 1) (hmn : m ≤ 4096)
    (hexit : Hid (∀ (d192 d193 d194 d195 d196 d197 d198 d199 d200 d201 d202 d203 d204 d205 d206 d207 d208 d209 d210 d211 d212 : Value) (w' : World), Hid (St w rb Q pb sb l ⟨σ.B, σ.O, σ.S, true⟩ (D + 1) bo so cB sc w') → Hid (Kept Q wc w') → N ⟨#[c0, c1, c2, c3, .pointer (some ⟨Q, 0, none⟩), c5, .func (Fn.func 14) #[] #[.pointer (some ⟨Q + 1, 0, none⟩)], .slice so σ.O.length sc, c8, .pointer (some ⟨X9, 0, none⟩), c10, c11, c12, .string nm, c14, c15, c16, c17, c18, c19, c20, c21, c22, c23, c24, c25, c26, c27, c28, c29, c30, c31, c32, c33, c34, c35, c36, c37, c38, c39, c40, c41, c42, c43, c44, c45, c46, c47, c48, c49, c50, c51, c52, c53, c54, c55, c56, c57, c58, c59, c60, c61, c62, c63, c64, c65, c66, c67, c68, c69, c70, c71, c72, c73, c74, c75, c76, c77, c78, c79, c80, c81, c82, c83, c84, c85, c86, c87, c88, c89, c90, c91, c92, c93, c94, c95, c96, c97, c98, c99, c100, c101, c102, c103, c104, c105, c106, c107, c108, c109, c110, c111, c112, c113, c114, c115, c116, c117, c118, c119, c120, c121, c122, c123, c124, c125, c126, c127, c128, c129, c130, c131, c132, c133, c134, c135, c136, c137, c138, c139, c140, c141, c142, c143, c144, c145, c146, c147, c148, c149, c150, c151, c152, c153, c154, c155, c156, c157, c158, c159, c160, c161, c162, c163, c164, c165, c166, c167, c168, c169, c170, c171, c172, c173, c174, c175, c176, c177, c178, c179, c180, c181, c182, c183, c184, c185, c186, c187, c188, c189, c190, c191, d192, d193, d194, d195, d196, d197, d198, d199, d200, d201, d202, d203, d204, d205, d206, d207, d208, d209, d210, d211, d212, c213, c214, c215, c216, c217, c218, c219, c220, c221, c222, c223, c224, c225, c226, c227, c228, c229, c230, c231, c232, c233, c234, c235, c236, c237, c238, c239, c240, c241, c242, c243, c244, c245, c246, c247, c248, c249, c250, c251, c252, c253, c254, c255, c256, c257, c258, c259, c260, c261, c262, c263, c264, c265, c266, c267, c268, c269, c270, c271, c272, c273, c274, c275, c276, c277, c278, c279, c280, c281, c282, c283, c284, c285, c286, c287, c288, c289, c290, c291, c292, c293, c294, c295, c296, c297, c298, c299, c300, c301, c302, c303], []⟩ w')) :
    Code.wp Tryf.prog ((regionOf 33 (Tryf.f10.body.getD .skip)).getD .skip) (Exit.then N fun _ _ _ => False) ⟨#[c0, c1, c2, c3, .pointer (some ⟨Q, 0, none⟩), c5, .func (Fn.func 14) #[] #[.pointer (some ⟨Q + 1, 0, none⟩)], .slice so σ.O.length sc, c8, .pointer (some ⟨X9, 0, none⟩), c10, c11, c12, .string nm, c14, c15, c16, c17, c18, c19, c20, c21, c22, c23, c24, c25, c26, c27, c28, c29, c30, c31, c32, c33, c34, c35, c36, c37, c38, c39, c40, c41, c42, c43, c44, c45, c46, c47, c48, c49, c50, c51, c52, c53, c54, c55, c56, c57, c58, c59, c60, c61, c62, c63, c64, c65, c66, c67, c68, c69, c70, c71, c72, c73, c74, c75, c76, c77, c78, c79, c80, c81, c82, c83, c84, c85, c86, c87, c88, c89, c90, c91, c92, c93, c94, c95, c96, c97, c98, c99, c100, c101, c102, c103, c104, c105, c106, c107, c108, c109, c110, c111, c112, c113, c114, c115, c116, c117, c118, c119, c120, c121, c122, c123, c124, c125, c126, c127, c128, c129, c130, c131, c132, c133, c134, c135, c136, c137, c138, c139, c140, c141, c142, c143, c144, c145, c146, c147, c148, c149, c150, c151, c152, c153, c154, c155, c156, c157, c158, c159, c160, c161, c162, c163, c164, c165, c166, c167, c168, c169, c170, c171, c172, c173, c174, c175, c176, c177, c178, c179, c180, c181, c182, c183, c184, c185, c186, c187, c188, c189, c190, c191, c192, c193, c194, c195, c196, c197, c198, c199, c200, c201, c202, c203, c204, c205, c206, c207, c208, c209, c210, c211, c212, c213, c214, c215, c216, c217, c218, c219, c220, c221, c222, c223, c224, c225, c226, c227, c228, c229, c230, c231, c232, c233, c234, c235, c236, c237, c238, c239, c240, c241, c242, c243, c244, c245, c246, c247, c248, c249, c250, c251, c252, c253, c254, c255, c256, c257, c258, c259, c260, c261, c262, c263, c264, c265, c266, c267, c268, c269, c270, c271, c272, c273, c274, c275, c276, c277, c278, c279, c280, c281, c282, c283, c284, c285, c286, c287, c288, c289, c290, c291, c292, c293, c294, c295, c296, c297, c298, c299, c300, c301, c302, c303], []⟩ wc := by
  conv => arg 2; whnf
  have H0 := hide h0
  have x0 : wc.cell? ⟨X9, 0, none⟩ = some (.int .i64 num) := cell_of HX9.out 0
  have x1 : wc.cell? ⟨X9, 1, none⟩ = some (.int .i64 fl) := cell_of HX9.out 1
  have x2 : wc.cell? ⟨X9, 2, none⟩ = some (.iface T X) := cell_of HX9.out 2
  have hqq : Q + 1 < wc.heap.size := HT.out.qlt
  have l9 : X9 < wc.heap.size := lt_of_block HX9.out
  have hml : m < σ.O.length := (List.getElem?_eq_some_iff.1 hm).1
  obtain ⟨gO, cuO, rfl, hhO, hgQ, hsc, s0⟩ := HT.out.openAt hm
  obtain ⟨gB, cuB, rfl, hhB, hgBQ, b0, b1, b2⟩ := HT.out.blkAt ho
  have q1 : wc.cell? ⟨Q, 1, none⟩ = some (.slice (some ⟨gB, 0, none⟩) σ.B.length cB) := cell_of HT.out.set 1
  have hX9 : X9 ≠ Q + 1 := by
    intro e
    obtain ⟨p, d, c', ds, a, _⟩ := HT.out.dg
    rw [← e] at a
    rw [a] at HX9; cases HX9.out
  have HE : Hid (∀ W', Kept Q wc W' → W'.cell? ⟨X9, 0, none⟩ = some (.int .i64 num) ∧ W'.cell? ⟨X9, 1, none⟩ = some (.int .i64 fl) ∧ W'.cell? ⟨X9, 2, none⟩ = some (.iface T X) ∧ W'.cell? ⟨Q, 1, none⟩ = some (.slice (some ⟨gB, 0, none⟩) σ.B.length cB) ∧ W'.cell? ⟨gO, m, none⟩ = some (.int .i64 (o : Int)) ∧ W'.cell? ⟨gB, o * 3, none⟩ = some (.int .i64 (vAt σ.B o)) ∧ W'.cell? ⟨gB, o * 3 + 1, none⟩ = some (.int .i64 (fAt σ.B o)) ∧ W'.cell? ⟨gB, o * 3 + 2, none⟩ = some (.int .i64 (σ.B.getD o Blk.none).l)) :=
    fun W' h => ⟨h.cell HX9.out (by decide) hX9 x0, h.cell HX9.out (by decide) hX9 x1, h.cell HX9.out (by decide) hX9 x2, h.cell HT.out.set (by decide) (by omega) q1, h.cell hhO (by decide) (by omega) s0, h.cell hhB (by decide) (by omega) b0, h.cell hhB (by decide) (by omega) b1, h.cell hhB (by decide) (by omega) b2⟩
  have lQ : Q < wc.heap.size := by omega
  have lO : gO < wc.heap.size := lt_of_block hhO
  have lB : gB < wc.heap.size := lt_of_block hhB
  have HLT := hide (And.intro l9 (And.intro lQ (And.intro lO lB)))
  have HC2 : Hid (∀ W', Below wc.heap.size wc W' → Calls Tryf.prog 18 #[.pointer (some ⟨Q, 0, none⟩), .agg #[.int .i64 (vAt σ.B o), .int .i64 (fAt σ.B o), .int .i64 (σ.B.getD o Blk.none).l]] W' fun e' w' => ∃ x, e' = .returned x ∧ ((∃ s, x = .string s) ∧ Below wc.heap.size wc w')) :=
    fun W' hb => ((HT.out.below hb).at HP.out F HF.out (vAt σ.B o) (σ.B.getD o Blk.none).l (fAt σ.B o) hb0o hb1o hbfo).mono fun e' w' ⟨x, he, hs, hb'⟩ => ⟨x, he, hs, hb.trans (hb'.mono hb.size)⟩
  have HC3 : Hid (∀ W', Below wc.heap.size wc W' → ∀ s1 s2, Calls Tryf.prog 14 #[.agg #[.int .i64 num, .int .i64 fl, .iface T X], .string ⟨#[78, 69, 88, 84, 32, 37, 115, 32, 104, 97, 115, 32, 110, 111, 32, 70, 79, 82, 32, 37, 91, 49, 93, 115, 32, 119, 104, 111, 115, 101, 32, 98, 108, 111, 99, 107, 32, 105, 116, 32, 101, 110, 100, 115, 59, 32, 116, 104, 101, 32, 105, 110, 110, 101, 114, 109, 111, 115, 116, 32, 111, 112, 101, 110, 32, 98, 108, 111, 99, 107, 32, 105, 115, 32, 116, 104, 97, 116, 32, 111, 102, 32, 37, 115]⟩, .slice (some ⟨W'.heap.size, 0, none⟩) 2 2, .pointer (some ⟨Q + 1, 0, none⟩)] (W'.alloc (.cells #[.iface 9 (.string s1), .iface 9 (.string s2)] 20)) fun e' w' => ∃ x, e' = .returned x ∧ (x = .tuple #[] ∧ St w rb Q pb sb l ⟨σ.B, σ.O, σ.S, true⟩ (D + 1) (some ⟨gB, 0, none⟩) (some ⟨gO, 0, none⟩) cB sc w' ∧ Kept Q wc w')) :=
    fun W' hb s1 s2 => (((HT.out.below hb).alloc _).tell H0.out hrQ hsr hD F HF.out num fl T X _ _ 2 2 [.iface 9 (.string s1), .iface 9 (.string s2)] rfl two_cells (by simp) (plain2 s1 s2)).mono fun e' w' ⟨x, he, hx, h1, h2⟩ => ⟨x, he, hx, h1, Kept.below (hb.alloc hb.size _) h2⟩
  have hw4 : (m : Int) < (m : Int) + 1 := by omega
  have ho1 : (o : Int) < (σ.B.length : Int) := by omega
  have HMO := hide hmO
  rw [hmO]
  generalize hVA : vAt σ.B o = bv at *
  generalize hFA : fAt σ.B o = bf at *
  generalize hLA : (σ.B.getD o Blk.none).l = bl at *
  generalize σ.B.length = nB at *
  clear hVA hFA hLA hb0o hb1o hbfo hm hhO hhB HX9 hX9 hml hsc hmO
  have hw1 := wback m hmn
  have hw6 : IntKind.i64.wrap (m : Int) = m := wsame m hmn
  go_wp2_with fail
  go_region_held_law (fun w' => w'.cell? ⟨X9, 0, none⟩ = some (.int .i64 num) ∧ w'.cell? ⟨X9, 1, none⟩ = some (.int .i64 fl) ∧ w'.cell? ⟨X9, 2, none⟩ = some (.iface T X) ∧ w'.cell? ⟨Q, 1, none⟩ = some (.slice (some ⟨gB, 0, none⟩) nB cB) ∧ w'.cell? ⟨gO, m, none⟩ = some (.int .i64 (o : Int)) ∧ w'.cell? ⟨gB, o * 3, none⟩ = some (.int .i64 (bv)) ∧ w'.cell? ⟨gB, o * 3 + 1, none⟩ = some (.int .i64 (bf)) ∧ w'.cell? ⟨gB, o * 3 + 2, none⟩ = some (.int .i64 bl)) (go_keep)
    (first
      | (refine step_call rfl 18 #[.pointer (some ⟨Q, 0, none⟩), .agg #[.int .i64 bv, .int .i64 bf, .int .i64 bl]] (by go_simp) _ (HC2.out wc.drew (Below.refl _ _).drew) ?_; rintro v3 w3 ⟨⟨s3, rfl⟩, hb3⟩; have HB3 := hide hb3; obtain ⟨n0, n1, n2, n3, n4, n5, n6, n7⟩ := HE.out w3 (Kept.of_below hb3); have m9 := Nat.lt_of_lt_of_le HLT.out.1 hb3.size; have mQ := Nat.lt_of_lt_of_le HLT.out.2.1 hb3.size; have mO := Nat.lt_of_lt_of_le HLT.out.2.2.1 hb3.size; have mB := Nat.lt_of_lt_of_le HLT.out.2.2.2 hb3.size; clear hb3)
      | (refine step_call rfl 14 #[.agg #[.int .i64 num, .int .i64 fl, .iface T X], .string ⟨#[78, 69, 88, 84, 32, 37, 115, 32, 104, 97, 115, 32, 110, 111, 32, 70, 79, 82, 32, 37, 91, 49, 93, 115, 32, 119, 104, 111, 115, 101, 32, 98, 108, 111, 99, 107, 32, 105, 116, 32, 101, 110, 100, 115, 59, 32, 116, 104, 101, 32, 105, 110, 110, 101, 114, 109, 111, 115, 116, 32, 111, 112, 101, 110, 32, 98, 108, 111, 99, 107, 32, 105, 115, 32, 116, 104, 97, 116, 32, 111, 102, 32, 37, 115]⟩, .slice (some ⟨w3.heap.size, 0, none⟩) 2 2, .pointer (some ⟨Q + 1, 0, none⟩)] (by go_simp) _ (HC3.out w3 HB3.out nm s3) ?_; rintro v4 w4 ⟨rfl, hs4, hk4⟩; have HS4 := hide hs4; have HK4 := hide hk4; obtain ⟨o0, o1, o2, o3, o4, o5, o6, o7⟩ := HE.out w4 hk4; clear hs4 hk4))
  go_wp2_with fail
  rw [← HMO.out]
  apply hexit.out
  · exact HS4
  · exact HK4
end Go.Proofs.Qxb6002619aFmt
