/-
  NEXT, up to the block that it ends.
-/
import Derived.Test.Qxb6002619aFmtCode
import Derived.Test.Qxb6002619aFmtClose
namespace Go.Proofs.Qxb6002619aFmt
open Go.RowKit

set_option maxRecDepth 20000 in
set_option maxHeartbeats 8000000 in
theorem next_ok {c0 c1 c2 c3 c5 c6 c9 c10 c11 c12 c13 c14 c15 c16 c17 c18 c19 c20 c21 c22 c23 c24 c25 c26 c27 c28 c29 c30 c31 c32 c33 c34 c35 c36 c37 c38 c39 c40 c41 c42 c43 c44 c45 c46 c47 c48 c49 c50 c51 c52 c53 c54 c55 c56 c57 c58 c59 c60 c61 c62 c63 c64 c65 c66 c67 c68 c69 c70 c71 c72 c73 c74 c75 c76 c77 c78 c79 c80 c81 c82 c83 c84 c85 c86 c87 c88 c89 c90 c91 c92 c93 c94 c95 c96 c97 c98 c99 c100 c101 c102 c103 c104 c105 c106 c107 c108 c109 c110 c111 c112 c113 c114 c115 c116 c118 c119 c120 c121 c122 c123 c124 c125 c126 c127 c128 c129 c130 c131 c132 c133 c134 c135 c136 c137 c138 c139 c140 c141 c142 c143 c144 c145 c146 c147 c148 c149 c150 c151 c152 c153 c154 c155 c156 c157 c158 c159 c160 c161 c162 c163 c164 c165 c166 c167 c168 c169 c170 c171 c172 c173 c174 c175 c176 c177 c178 c179 c180 c181 c182 c183 c184 c185 c186 c187 c188 c189 c190 c191 c192 c193 c194 c195 c196 c197 c198 c199 c200 c201 c202 c203 c204 c205 c206 c207 c208 c209 c210 c211 c212 c213 c214 c215 c216 c217 c218 c219 c220 c221 c222 c223 c224 c225 c226 c227 c228 c229 c230 c231 c232 c233 c234 c235 c236 c237 c238 c239 c240 c241 c242 c243 c244 c245 c246 c247 c248 c249 c250 c251 c252 c253 c254 c255 c256 c257 c258 c259 c260 c261 c262 c263 c264 c265 c266 c267 c268 c269 c270 c271 c272 c273 c274 c275 c276 c277 c278 c279 c280 c281 c282 c283 c284 c285 c286 c287 c288 c289 c290 c291 c292 c293 c294 c295 c296 c297 c298 c299 c300 c301 c302 c303 : Value}
    {w wc : World} {rb Q pb sb i q : Nat} {l : List It} {bo so : Option Addr} {cB sc : Nat} {vo : Option Addr} {c : Nat} {ns : List ByteArray} {vv : Int} {N : Act → World → Prop}
    (h0 : w.heap.size ≤ rb) (hrQ : rb < Q) (hsr : sb < rb) (hps : pb < sb) (hsw : sb < w.heap.size) (hi : i < l.length) (hn : l.length ≤ 4096) (hq : (prun l i).O.length = q + 1) (hk : (nth l i).k = 2)
    (HP : Hid (w.cell? ⟨pb, 0, none⟩ = some (.slice (some ⟨sb, 0, none⟩) l.length l.length))) (HP1 : Hid (w.cell? ⟨pb, 1, none⟩ = some (.slice vo ns.length c))) (HN : Hid (NamesB w pb vo ns)) (hv0 : 0 ≤ vv) (hv1 : vv < ns.length)
    (hvv : vv = if (nth l i).un then vAt (prun l i).B ((prun l i).O.getD q 0) else (nth l i).v)
    (HT : Hid (St w rb Q pb sb l (prun l i) i bo so cB sc wc)) (HO : Hid (openIdx (prun l i).B (prun l i).O vv = some q))
    (HPR : Hid (prun l (i + 1) = ⟨(prun l i).B.set ((prun l i).O.getD q 0) ⟨vAt (prun l i).B ((prun l i).O.getD q 0), fAt (prun l i).B ((prun l i).O.getD q 0), (i : Int)⟩, (prun l i).O.dropLast, ((prun l i).S.set (fAt (prun l i).B ((prun l i).O.getD q 0)) ⟨1, ((prun l i).S.getD (fAt (prun l i).B ((prun l i).O.getD q 0)) Stm.none).v, (i : Int), ((prun l i).S.getD (fAt (prun l i).B ((prun l i).O.getD q 0)) Stm.none).un⟩).set i ⟨2, vAt (prun l i).B ((prun l i).O.getD q 0), (fAt (prun l i).B ((prun l i).O.getD q 0) : Int), (nth l i).un⟩, (prun l i).err⟩))
    (hexit : Hid (∀ (d12 d13 d14 d117 d118 d119 d120 d121 d122 d123 d124 d125 d126 d127 d128 d129 d130 d131 d132 d133 d134 d135 d136 d137 d138 d139 d140 d141 d142 d143 d144 d145 d146 d147 d148 d149 d150 d151 d152 d153 d154 d155 d156 d157 d158 d159 d160 d161 d162 d163 d164 d165 d166 d167 d168 d169 d170 d171 d172 d173 d174 d175 d176 d177 d178 d179 d180 d181 d182 d183 d184 d185 d186 d187 d188 d189 d190 d191 d192 d193 d194 d195 d196 d197 d198 d199 d200 d201 d202 d203 d204 d205 d206 d207 d208 d209 d210 d211 d212 d213 d214 d215 d216 d217 d218 d219 d220 d221 d222 d223 d224 d225 d226 d227 d228 d229 d230 d231 d232 d233 d234 d235 d236 d237 d238 d239 d240 d241 d242 d243 d244 d245 d246 d247 d248 d249 d250 d251 d252 d253 d254 d255 d256 d257 d258 d259 d260 d261 : Value) (w' : World) (bo' so' : Option Addr) (cB' sc' : Nat), Hid (St w rb Q pb sb l (prun l (i + 1)) (i + 1) bo' so' cB' sc' w') → N ⟨#[c0, c1, c2, c3, .pointer (some ⟨Q, 0, none⟩), c5, c6, .slice so' (prun l (i + 1)).O.length sc', .int .i64 i, c9, c10, c11, d12, d13, d14, c15, c16, c17, c18, c19, c20, c21, c22, c23, c24, c25, c26, c27, c28, c29, c30, c31, c32, c33, c34, c35, c36, c37, c38, c39, c40, c41, c42, c43, c44, c45, c46, c47, c48, c49, c50, c51, c52, c53, c54, c55, c56, c57, c58, c59, c60, c61, c62, c63, c64, c65, c66, c67, c68, c69, c70, c71, c72, c73, c74, c75, c76, c77, c78, c79, c80, c81, c82, c83, c84, c85, c86, c87, c88, c89, c90, c91, c92, c93, c94, c95, c96, c97, c98, c99, c100, c101, c102, c103, c104, c105, c106, c107, c108, c109, c110, c111, c112, c113, c114, c115, c116, d117, d118, d119, d120, d121, d122, d123, d124, d125, d126, d127, d128, d129, d130, d131, d132, d133, d134, d135, d136, d137, d138, d139, d140, d141, d142, d143, d144, d145, d146, d147, d148, d149, d150, d151, d152, d153, d154, d155, d156, d157, d158, d159, d160, d161, d162, d163, d164, d165, d166, d167, d168, d169, d170, d171, d172, d173, d174, d175, d176, d177, d178, d179, d180, d181, d182, d183, d184, d185, d186, d187, d188, d189, d190, d191, d192, d193, d194, d195, d196, d197, d198, d199, d200, d201, d202, d203, d204, d205, d206, d207, d208, d209, d210, d211, d212, d213, d214, d215, d216, d217, d218, d219, d220, d221, d222, d223, d224, d225, d226, d227, d228, d229, d230, d231, d232, d233, d234, d235, d236, d237, d238, d239, d240, d241, d242, d243, d244, d245, d246, d247, d248, d249, d250, d251, d252, d253, d254, d255, d256, d257, d258, d259, d260, d261, c262, c263, c264, c265, c266, c267, c268, c269, c270, c271, c272, c273, c274, c275, c276, c277, c278, c279, c280, c281, c282, c283, c284, c285, c286, c287, c288, c289, c290, c291, c292, c293, c294, c295, c296, c297, c298, c299, c300, c301, c302, c303], []⟩ w')) :
    Code.wp Tryf.prog ((thenOf 116 (Tryf.f10.body.getD .skip)).getD .skip) (Exit.then N fun _ _ _ => False) ⟨#[c0, c1, c2, c3, .pointer (some ⟨Q, 0, none⟩), c5, c6, .slice so (prun l i).O.length sc, .int .i64 i, c9, c10, c11, c12, c13, c14, c15, c16, c17, c18, c19, c20, c21, c22, c23, c24, c25, c26, c27, c28, c29, c30, c31, c32, c33, c34, c35, c36, c37, c38, c39, c40, c41, c42, c43, c44, c45, c46, c47, c48, c49, c50, c51, c52, c53, c54, c55, c56, c57, c58, c59, c60, c61, c62, c63, c64, c65, c66, c67, c68, c69, c70, c71, c72, c73, c74, c75, c76, c77, c78, c79, c80, c81, c82, c83, c84, c85, c86, c87, c88, c89, c90, c91, c92, c93, c94, c95, c96, c97, c98, c99, c100, c101, c102, c103, c104, c105, c106, c107, c108, c109, c110, c111, c112, c113, c114, c115, c116, .agg #[.int .i64 (nth l i).v, .int .i64 0, .bool (nth l i).un], c118, c119, c120, c121, c122, c123, c124, c125, c126, c127, c128, c129, c130, c131, c132, c133, c134, c135, c136, c137, c138, c139, c140, c141, c142, c143, c144, c145, c146, c147, c148, c149, c150, c151, c152, c153, c154, c155, c156, c157, c158, c159, c160, c161, c162, c163, c164, c165, c166, c167, c168, c169, c170, c171, c172, c173, c174, c175, c176, c177, c178, c179, c180, c181, c182, c183, c184, c185, c186, c187, c188, c189, c190, c191, c192, c193, c194, c195, c196, c197, c198, c199, c200, c201, c202, c203, c204, c205, c206, c207, c208, c209, c210, c211, c212, c213, c214, c215, c216, c217, c218, c219, c220, c221, c222, c223, c224, c225, c226, c227, c228, c229, c230, c231, c232, c233, c234, c235, c236, c237, c238, c239, c240, c241, c242, c243, c244, c245, c246, c247, c248, c249, c250, c251, c252, c253, c254, c255, c256, c257, c258, c259, c260, c261, c262, c263, c264, c265, c266, c267, c268, c269, c270, c271, c272, c273, c274, c275, c276, c277, c278, c279, c280, c281, c282, c283, c284, c285, c286, c287, c288, c289, c290, c291, c292, c293, c294, c295, c296, c297, c298, c299, c300, c301, c302, c303], []⟩ wc := by
  conv => arg 2; whnf
  obtain ⟨hBl, hOl, _⟩ := prun_len l i
  have HB0 := hide h0
  have hqi : q + 1 ≤ i := by omega
  have hWF := wf_run l i (by omega)
  have hoB : (prun l i).O.getD q 0 < (prun l i).B.length := hWF.wfO _ (getD_mem (by omega))
  have hqo : (prun l i).O[q]? = some ((prun l i).O.getD q 0) := by rw [List.getD_eq_getElem?_getD, List.getElem?_eq_getElem (by omega)]; rfl
  have HWF := hide hWF.wfO
  have HQL := hide hq
  have HVV := hide hvv
  have HK := hide hk
  obtain ⟨un, hun⟩ : ∃ un, un = (nth l i).un := ⟨_, rfl⟩
  obtain ⟨v, hv⟩ : ∃ v, v = (nth l i).v := ⟨_, rfl⟩
  rw [← hun, ← hv] at HVV ⊢
  have HUN := hide hun
  have HVH := hide hv
  obtain ⟨o, ho⟩ : ∃ o, o = (prun l i).O.getD q 0 := ⟨_, rfl⟩
  rw [← ho] at hoB hqo
  have HOG := hide ho
  have HOO := hide hqo
  rw [hq]
  clear hvv hun hv ho hWF hqo hq hk
  go_upto_if 119 with fail
  go_cut [] from 120 to 139 (fun wd => Hid (St w rb Q pb sb l (prun l i) i bo so cB sc wd) ∧ Hid (wd.heap[wc.heap.size]? = some (.cells #[.int .i64 vv, .int .i64 0, .bool un] 62)))
  case first =>
    cases un with
    | false =>
      go_wp2_with fail
      go_meet
      have : vv = v := by have := HVV.out; simpa using this
      rw [this]
      exact ⟨HT.out.alloc _, alloc_new wc _⟩
    | true =>
      obtain ⟨gO, hso, hgO, hgQ⟩ : ∃ gO, so = some ⟨gO, 0, none⟩ ∧ gO < wc.heap.size ∧ Q + 2 ≤ gO := by
        rcases HT.out.opens.2 with ⟨_, h0⟩ | ⟨g, c, cur, hv, h2, hh, h3, _⟩
        · have := HQL.out; omega
        · cases hv
          exact ⟨g, rfl, lt_of_block hh, h2⟩
      subst hso
      obtain ⟨gB, cc, cur, hvB, hhB, hcB, hgB, hcells, hfz⟩ := BlkAt.get (owns_low HT.out.blocks) (by omega)
      simp only [Value.slice.injEq, true_and] at hvB
      obtain ⟨hbo, rfl⟩ := hvB
      subst hbo
      obtain ⟨b0, _, _⟩ := hcells o hoB
      have s0 : wc.cell? ⟨gO, q, none⟩ = some (.int .i64 (o : Int)) := by
        refine (HT.out.opens.cellAt q (by have := HQL.out; omega)).trans ?_
        simp [ints, HOO.out]
      have q1 : wc.cell? ⟨Q, 1, none⟩ = some (.slice (some ⟨gB, 0, none⟩) (prun l i).B.length cB) := cell_of HT.out.set 1
      have hql : Q < wc.heap.size := by have := HT.out.qlt; omega
      have hb1 : (o : Int) < (prun l i).B.length := by omega
      have hw1 : IntKind.i64.wrap ((q : Int) + 1 - 1) = q := by simp [IntKind.wrap, IntKind.bits, IntKind.signed]; have := HQL.out; omega
      have hw4 : (q : Int) < (q : Int) + 1 := by omega
      have hz : ((q : Int) + 1 == 0) = false := by simp; omega
      have hgO1 : gO < wc.heap.size + 1 := by omega
      have hgB1 : gB < wc.heap.size + 1 := by omega
      have hql1 : Q < wc.heap.size + 1 := by omega
      have hVV : vv = vAt (prun l i).B o := by have := HVV.out; simpa [HOG.out] using this
      rw [← hVV] at b0
      clear hcells hfz hhB hVV cur
      go_wp2_with fail
      go_region
      all_goals (go_wp2_with fail; go_meet)
      all_goals exact ⟨(HT.out.alloc _).below (Below.refl _ _).drew, alloc_new wc _⟩
  case rest =>
    rename_i W0 _ _ _ _
    obtain ⟨HTd, HBd⟩ := hcut
    have d0 : wc.cell? ⟨W0.heap.size, 0, none⟩ = some (.int .i64 vv) := cell_of HBd.out 0
    have hdl : W0.heap.size < wc.heap.size := lt_of_block HBd.out
    go_wp2_with fail
    go_at_call 17
    have hpw : ∀ W, St w rb Q pb sb l (prun l i) i bo so cB sc W → W.cell? ⟨pb, 1, none⟩ = some (.slice vo ns.length c) ∧ NamesB W pb vo ns ∧ pb < W.heap.size := fun W h => ⟨(World.cell?_of_block (h.grown.block pb (by show pb < w.heap.size; omega) (by simp; omega))).trans HP1.out, NamesB.grown HN.out h.grown (by omega) (by omega), by have := h.qlt; omega⟩
    have HPW := hide hpw
    clear hpw
    obtain ⟨hp1, hp2, hp3⟩ := HPW.out wc HTd.out
    refine (varName_any Q pb vo c pb ns vv wc (cell_of HTd.out.set 0) hp1 (by have := HTd.out.qlt; omega) hp3 hp2 (by omega) hv0 hv1).mono ?_
    rintro e5 w5 ⟨⟨nm, rfl⟩, hb5⟩
    have HT5 : Hid (St w rb Q pb sb l (prun l i) i bo so cB sc w5) := HTd.out.below hb5
    have HB5 : Hid (w5.heap[W0.heap.size]? = some (.cells #[.int .i64 vv, .int .i64 0, .bool un] 62)) := (hb5.block _ hdl).trans HBd.out
    have d5 : w5.cell? ⟨W0.heap.size, 0, none⟩ = some (.int .i64 vv) := cell_of HB5.out 0
    have hdl5 : W0.heap.size < w5.heap.size := lt_of_block HB5.out
    clear hb5 hp1 hp2 hp3 d0
    go_wp2_with fail
    go_at_call 16
    refine (openFor_any Q (.slice bo (prun l i).B.length cB) (.slice so (q + 1) sc) (prun l i).B (prun l i).O vv w5 (cell_of HT5.out.set 1) (by have := HT5.out.qlt; omega) (owns_low HT5.out.blocks) ?_ HWF.out (by omega) (by omega)).mono ?_
    · rw [← HQL.out]; exact owns_low HT5.out.opens
    rintro e6 w6 ⟨rfl, hb6⟩
    rw [HO.out, found_some]
    have HT6 : Hid (St w rb Q pb sb l (prun l i) i bo so cB sc w6) := HT5.out.below hb6
    clear hb6 d5 HB5 hdl5
    have hg1 : ¬ ((q : Int) < 0) := by omega
    have hw1 : IntKind.i64.wrap ((q : Int) + 1 - 1) = q := by simp [IntKind.wrap, IntKind.bits, IntKind.signed]; have := HQL.out; omega
    have hg2 : ¬ ((q : Int) < (q : Int)) := by omega
    go_upto_if 218 with fail
    refine wp_cond_split rfl (fun h => ?_) (fun h => ?_)
    · simp at h
    · refine wp_only ?_
      rw [← HQL.out]
      refine close_ok h0 hrQ hsr hps hsw hi HQL.out HK.out HP HT6 HPR ?_
      refine hide ?_
      intro d14 d149 d150 d151 d152 d153 d154 d155 d156 d157 d158 d159 d160 d161 d162 d163 d164 d165 d166 d167 d168 d169 d170 d171 d172 d173 d174 w7 bo7 so7 cB7 sc7 HS7
      show N _ w7
      apply hexit.out
      exact HS7
end Go.Proofs.Qxb6002619aFmt
