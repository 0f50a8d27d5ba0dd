/-
  FOR, where no open block has its variable.
-/
import Derived.Test.Qxb6002619aFmtCode
namespace Go.Proofs.Qxb6002619aFmt
open Go.RowKit

set_option maxRecDepth 20000 in
set_option maxHeartbeats 8000000 in
theorem for_ok {c0 c1 c2 c3 c5 c6 c9 c10 c11 c12 c13 c14 c15 c16 c17 c18 c19 c20 c21 c22 c23 c24 c25 c26 c27 c28 c29 c30 c31 c32 c33 c34 c35 c36 c37 c38 c39 c40 c41 c42 c43 c44 c45 c46 c47 c48 c49 c50 c51 c52 c53 c54 c55 c56 c57 c58 c59 c60 c61 c62 c64 c65 c66 c67 c68 c69 c70 c71 c72 c73 c74 c75 c76 c77 c78 c79 c80 c81 c82 c83 c84 c85 c86 c87 c88 c89 c90 c91 c92 c93 c94 c95 c96 c97 c98 c99 c100 c101 c102 c103 c104 c105 c106 c107 c108 c109 c110 c111 c112 c113 c114 c115 c116 c117 c118 c119 c120 c121 c122 c123 c124 c125 c126 c127 c128 c129 c130 c131 c132 c133 c134 c135 c136 c137 c138 c139 c140 c141 c142 c143 c144 c145 c146 c147 c148 c149 c150 c151 c152 c153 c154 c155 c156 c157 c158 c159 c160 c161 c162 c163 c164 c165 c166 c167 c168 c169 c170 c171 c172 c173 c174 c175 c176 c177 c178 c179 c180 c181 c182 c183 c184 c185 c186 c187 c188 c189 c190 c191 c192 c193 c194 c195 c196 c197 c198 c199 c200 c201 c202 c203 c204 c205 c206 c207 c208 c209 c210 c211 c212 c213 c214 c215 c216 c217 c218 c219 c220 c221 c222 c223 c224 c225 c226 c227 c228 c229 c230 c231 c232 c233 c234 c235 c236 c237 c238 c239 c240 c241 c242 c243 c244 c245 c246 c247 c248 c249 c250 c251 c252 c253 c254 c255 c256 c257 c258 c259 c260 c261 c262 c263 c264 c265 c266 c267 c268 c269 c270 c271 c272 c273 c274 c275 c276 c277 c278 c279 c280 c281 c282 c283 c284 c285 c286 c287 c288 c289 c290 c291 c292 c293 c294 c295 c296 c297 c298 c299 c300 c301 c302 c303 : Value}
    {w wc : World} {rb Q pb sb i : Nat} {l : List It} {v : Int} {bo so : Option Addr} {cB sc : Nat} {N : Act → World → Prop}
    (h0 : w.heap.size ≤ rb) (hrQ : rb < Q) (hsr : sb < rb) (hi : i < l.length) (hn : l.length ≤ 4096) (hk : (nth l i).k = 1) (hv : v = (nth l i).v)
    (HT : Hid (St w rb Q pb sb l (prun l i) i bo so cB sc wc)) (HO : Hid (openIdx (prun l i).B (prun l i).O v = .none))
    (hexit : Hid (∀ (d10 d11 d64 d65 d66 d67 d68 d69 d70 d71 d72 d73 d74 d75 d76 d77 d78 d79 d80 d81 d82 d83 d84 d85 d86 d87 d88 d89 d90 d91 d92 d93 d94 d95 d96 d97 d98 d99 d100 d101 d102 d103 d104 d105 d106 d107 d108 d109 d110 d111 d112 d113 d114 : Value) (w' : World) (bo' so' : Option Addr) (cB' sc' : Nat), Hid (St w rb Q pb sb l (prun l (i + 1)) (i + 1) bo' so' cB' sc' w') → N ⟨#[c0, c1, c2, c3, .pointer (some ⟨Q, 0, none⟩), c5, c6, .slice so' (prun l (i + 1)).O.length sc', .int .i64 i, c9, d10, d11, c12, c13, c14, c15, c16, c17, c18, c19, c20, c21, c22, c23, c24, c25, c26, c27, c28, c29, c30, c31, c32, c33, c34, c35, c36, c37, c38, c39, c40, c41, c42, c43, c44, c45, c46, c47, c48, c49, c50, c51, c52, c53, c54, c55, c56, c57, c58, c59, c60, c61, c62, .agg #[.int .i64 v, .nilIface, .nilIface, .nilIface, .int .i64 0], d64, d65, d66, d67, d68, d69, d70, d71, d72, d73, d74, d75, d76, d77, d78, d79, d80, d81, d82, d83, d84, d85, d86, d87, d88, d89, d90, d91, d92, d93, d94, d95, d96, d97, d98, d99, d100, d101, d102, d103, d104, d105, d106, d107, d108, d109, d110, d111, d112, d113, d114, c115, c116, c117, c118, c119, c120, c121, c122, c123, c124, c125, c126, c127, c128, c129, c130, c131, c132, c133, c134, c135, c136, c137, c138, c139, c140, c141, c142, c143, c144, c145, c146, c147, c148, c149, c150, c151, c152, c153, c154, c155, c156, c157, c158, c159, c160, c161, c162, c163, c164, c165, c166, c167, c168, c169, c170, c171, c172, c173, c174, c175, c176, c177, c178, c179, c180, c181, c182, c183, c184, c185, c186, c187, c188, c189, c190, c191, c192, c193, c194, c195, c196, c197, c198, c199, c200, c201, c202, c203, c204, c205, c206, c207, c208, c209, c210, c211, c212, c213, c214, c215, c216, c217, c218, c219, c220, c221, c222, c223, c224, c225, c226, c227, c228, c229, c230, c231, c232, c233, c234, c235, c236, c237, c238, c239, c240, c241, c242, c243, c244, c245, c246, c247, c248, c249, c250, c251, c252, c253, c254, c255, c256, c257, c258, c259, c260, c261, c262, c263, c264, c265, c266, c267, c268, c269, c270, c271, c272, c273, c274, c275, c276, c277, c278, c279, c280, c281, c282, c283, c284, c285, c286, c287, c288, c289, c290, c291, c292, c293, c294, c295, c296, c297, c298, c299, c300, c301, c302, c303], []⟩ w')) :
    Code.wp Tryf.prog ((thenOf 62 (Tryf.f10.body.getD .skip)).getD .skip) (Exit.then N fun _ _ _ => False) ⟨#[c0, c1, c2, c3, .pointer (some ⟨Q, 0, none⟩), c5, c6, .slice so (prun l i).O.length sc, .int .i64 i, c9, c10, c11, c12, c13, c14, c15, c16, c17, c18, c19, c20, c21, c22, c23, c24, c25, c26, c27, c28, c29, c30, c31, c32, c33, c34, c35, c36, c37, c38, c39, c40, c41, c42, c43, c44, c45, c46, c47, c48, c49, c50, c51, c52, c53, c54, c55, c56, c57, c58, c59, c60, c61, c62, .agg #[.int .i64 v, .nilIface, .nilIface, .nilIface, .int .i64 0], c64, c65, c66, c67, c68, c69, c70, c71, c72, c73, c74, c75, c76, c77, c78, c79, c80, c81, c82, c83, c84, c85, c86, c87, c88, c89, c90, c91, c92, c93, c94, c95, c96, c97, c98, c99, c100, c101, c102, c103, c104, c105, c106, c107, c108, c109, c110, c111, c112, c113, c114, c115, c116, c117, c118, c119, c120, c121, c122, c123, c124, c125, c126, c127, c128, c129, c130, c131, c132, c133, c134, c135, c136, c137, c138, c139, c140, c141, c142, c143, c144, c145, c146, c147, c148, c149, c150, c151, c152, c153, c154, c155, c156, c157, c158, c159, c160, c161, c162, c163, c164, c165, c166, c167, c168, c169, c170, c171, c172, c173, c174, c175, c176, c177, c178, c179, c180, c181, c182, c183, c184, c185, c186, c187, c188, c189, c190, c191, c192, c193, c194, c195, c196, c197, c198, c199, c200, c201, c202, c203, c204, c205, c206, c207, c208, c209, c210, c211, c212, c213, c214, c215, c216, c217, c218, c219, c220, c221, c222, c223, c224, c225, c226, c227, c228, c229, c230, c231, c232, c233, c234, c235, c236, c237, c238, c239, c240, c241, c242, c243, c244, c245, c246, c247, c248, c249, c250, c251, c252, c253, c254, c255, c256, c257, c258, c259, c260, c261, c262, c263, c264, c265, c266, c267, c268, c269, c270, c271, c272, c273, c274, c275, c276, c277, c278, c279, c280, c281, c282, c283, c284, c285, c286, c287, c288, c289, c290, c291, c292, c293, c294, c295, c296, c297, c298, c299, c300, c301, c302, c303], []⟩ wc := by
  conv => arg 2; whnf
  obtain ⟨i4, hi4, hy0, hy1, hy2⟩ := info_parts info40
  obtain ⟨i0, hi0, hz0, hz1, hz2⟩ := info_parts info3
  obtain ⟨hBl, hOl, _⟩ := prun_len l i
  have HB0 := hide h0
  have HPR : Hid (prun l (i + 1) = ⟨(prun l i).B ++ [⟨v, i, -1⟩], (prun l i).O ++ [(prun l i).B.length], (prun l i).S, (prun l i).err⟩) := by
    show pstep l (prun l i) i = _
    unfold pstep
    rw [if_pos hk, ← hv, HO.out]; simp
  have HWF := hide (wf_run l i (by omega)).wfO
  obtain ⟨m, hm⟩ : ∃ m, m = (prun l i).O.length := ⟨_, rfl⟩
  rw [← hm] at hOl ⊢
  have HM := hide hm
  clear hm hk hv h0
  go_wp2_with fail
  go_at_call 16
  obtain ⟨W3, hW3⟩ : ∃ W3, W3 = wc.alloc (.cells #[.int .i64 v, .nilIface, .nilIface, .nilIface, .int .i64 0] 49) := ⟨_, rfl⟩
  have HT3 : Hid (St w rb Q pb sb l (prun l i) i bo so cB sc W3) := by rw [hW3]; exact HT.out.alloc _
  have HF3 : Hid (W3.heap[wc.heap.size]? = some (.cells #[.int .i64 v, .nilIface, .nilIface, .nilIface, .int .i64 0] 49)) := by rw [hW3]; exact alloc_new wc _
  rw [← hW3]
  clear hW3
  refine (openFor_any Q (.slice bo (prun l i).B.length cB) (.slice so m sc) (prun l i).B (prun l i).O v W3 (cell_of HT3.out.set 1) (by have := HT3.out.qlt; omega) (owns_low HT3.out.blocks) ?_ HWF.out (by omega) (by rw [← HM.out]; omega)).mono ?_
  · rw [HM.out]; exact owns_low HT3.out.opens
  rintro e1 w4 ⟨rfl, hb4⟩
  rw [HO.out, found_none]
  have HT4 : Hid (St w rb Q pb sb l (prun l i) i bo so cB sc w4) := HT3.out.below hb4
  have HF4 : Hid (w4.heap[wc.heap.size]? = some (.cells #[.int .i64 v, .nilIface, .nilIface, .nilIface, .int .i64 0] 49)) := (hb4.block _ (lt_of_block HF3.out)).trans HF3.out
  have f0 : w4.cell? ⟨wc.heap.size, 0, none⟩ = some (.int .i64 v) := cell_of HF4.out 0
  have q1 : w4.cell? ⟨Q, 1, none⟩ = some (.slice bo (prun l i).B.length cB) := cell_of HT4.out.set 1
  have qf : w4.frozen? ⟨Q, 1, none⟩ = false := by simp [World.frozen?, HT4.out.set]
  have hql4 : Q < w4.heap.size := by have := HT4.out.qlt; omega
  have hfl4 : wc.heap.size < w4.heap.size := lt_of_block HF4.out
  clear hb4 HT3 HF3 HT
  have HOW : Hid (∀ o, (w4.drew.alloc o).ownsRow (Q + 2) 40 3 (.slice bo (prun l i).B.length cB) (prun l i).B.length (flatB (prun l i).B)) := fun o => ((HT4.out.below (Below.refl _ _).drew).alloc o).blocks
  have HQ4 := hide HT4.out.qlt
  have HMX := hide hBl
  go_wp2_with fail
  go_cut [] from 64 to 114 (fun wd => ∃ (g cap : Nat), Hid (St w rb Q pb sb l ⟨(prun l i).B ++ [⟨v, i, -1⟩], (prun l i).O, (prun l i).S, (prun l i).err⟩ i (some ⟨g, 0, none⟩) so cap sc wd))
  case first =>
    go_region_law (refine step_append_own rfl (.tmp 97) (.tmp 102) 66 rfl (Q + 2) 40 i4 _ 3 24 Tryf.underlying66 hi4 hy0 hy1 hy2 rfl (by decide) (.slice bo (prun l i).B.length cB) (prun l i).B.length (flatB (prun l i).B) (by simp [Act.eval]) (HOW.out _) ⟨w4.heap.size, 0, none⟩ 1 1 (Blk.cells ⟨v, i, -1⟩) (by simp [Act.eval]) rfl (news3 w4.drew _ _ _ 40) (cells_one _) (by have := HMX.out; unfold maxLen; omega) (by have := HMX.out; omega) (by have := HQ4.out; simp; omega) ?_; intro v' w' ho' hg' _; obtain ⟨gn, cap, rfl, hqw, hqb, HS⟩ := HT4.out.appended HB0.out hrQ hsr ⟨v, i, -1⟩ (((Below.refl _ _).drew).alloc (Nat.le_refl _) _) ho' hg'; have HS' := hide HS; have q1w : w'.cell? ⟨Q, 1, none⟩ = some (.slice bo (prun l i).B.length cB) := (World.cell?_of_block hqb).trans (cell_of HT4.out.set 1); have qfw : w'.frozen? ⟨Q, 1, none⟩ = false := (World.frozen?_of_block hqb).trans (by simp [World.frozen?, HT4.out.set]); clear HS ho' hg' hqb)
    all_goals (go_wp2_with fail; go_meet)
    all_goals exact ⟨_, _, HS'⟩
  case rest =>
    obtain ⟨gn, cap, HS⟩ := hcut
    rename_i wd _
    clear f0 q1 qf HT4 HF4 HOW HQ4
    have q1 : wc.cell? ⟨Q, 1, none⟩ = some (.slice (some ⟨gn, 0, none⟩) ((prun l i).B.length + 1) cap) := by
      have := cell_of HS.out.set 1
      simpa using this
    have hqlc : Q < wc.heap.size := by have := HS.out.qlt; omega
    have hwr : IntKind.i64.wrap (((((prun l i).B.length + 1 : Nat) : Int)) - 1) = ((prun l i).B.length : Int) := by simp [IntKind.wrap, IntKind.bits, IntKind.signed]; omega
    have hwr2 : IntKind.i64.wrap (((prun l i).B.length : Int) + 1 - 1) = ((prun l i).B.length : Int) := by simp [IntKind.wrap, IntKind.bits, IntKind.signed]; omega
    have HOP : Hid (∀ o, (wc.alloc o).ownsRow (Q + 2) 3 1 (.slice so m sc) m (ints ((prun l i).O.map fun o : Nat => (o : Int)))) := fun o => by rw [HM.out]; exact (HS.out.alloc o).opens
    have HQC := hide HS.out.qlt
    go_wp2_with (at_builtin; refine wpList_append_own _ rfl _ _ 26 rfl (Q + 2) 3 i0 _ 1 8 Tryf.underlying26 hi0 hz0 hz1 hz2 rfl (by decide) (.slice so m sc) m (ints ((prun l i).O.map fun o : Nat => (o : Int))) rfl (HOP.out _) ⟨wc.heap.size, 0, none⟩ 1 1 [.int .i64 ((prun l i).B.length : Int)] rfl rfl (news1 wc _ 3) (int_one _) (by unfold maxLen; omega) (by omega) (by have := HQC.out; simp; omega) ?_)
    intro v' w' ho' hg' _
    obtain ⟨g2, cap2, rfl, HS2⟩ := HS.out.opened HB0.out hrQ hsr (prun l i).B.length ((Below.refl _ _).alloc (Nat.le_refl _) _) (by rw [← HM.out]; exact ho') (by rw [← HM.out]; exact hg')
    have HS2' := hide HS2
    clear ho' hg' HS2
    go_wp2_with fail
    have HE : (prun l i).O.length + 1 = (prun l (i + 1)).O.length := by rw [HPR.out]; simp
    rw [HE]
    apply hexit.out
    case a => rw [HPR.out]; exact HS2'.out.more (Nat.le_succ i)
end Go.Proofs.Qxb6002619aFmt
