/-
  Pair, where the statements derive from the grammar: no diagnostic is made.
-/
import Derived.Test.Qxb6002619aFmtChoose
import Derived.Deep.CutBlock
namespace Go.Proofs.Qxb6002619aFmt
open Go.RowKit

def FreePost (sb : Nat) (l : List It) (w : World) (e' : Ending) (w' : World) : Prop :=
  (∃ qb, e' = .returned (.tuple #[.pointer (some ⟨qb, 0, none⟩), .slice none 0 0])) ∧ w.grownBy w' (some sb) ∧ RowP w' sb l (prun l l.length).S l.length

set_option maxRecDepth 20000 in
set_option maxHeartbeats 8000000 in
theorem pair_free (pb sb : Nat) (vo : Option Addr) (c : Nat) (ns : List ByteArray) (l : List It) (w : World)
    (hp : w.heap[pb]? = some (.cells #[.slice (some ⟨sb, 0, none⟩) l.length l.length, .slice vo ns.length c, .slice none 0 0, .slice none 0 0, .int .i64 0, .slice none 0 0, .slice none 0 0] 60))
    (hps : pb < sb) (hN : NamesB w pb vo ns) (hR : RowP w sb l (l.map It.stm) l.length) (hfit : FitAll ns.length l l.length) (hok : okB l = true) (hn : l.length ≤ 4096) :
    Calls Tryf.prog 10 #[.pointer (some ⟨pb, 0, none⟩)] w fun e' w' => FreePost sb l w e' w' := by
  obtain ⟨i0, hi0, hz0, hz1, hz2⟩ := info_parts info3
  obtain ⟨i4, hi4, hy0, hy1, hy2⟩ := info_parts info40
  have hsl : sb < w.heap.size := hR.lt
  have p0 : w.cell? ⟨pb, 0, none⟩ = some (.slice (some ⟨sb, 0, none⟩) l.length l.length) := cell_of hp 0
  have HPB := hide hp
  have HNM := hide hN
  have HRR := hide hR
  have HFT := hide hfit
  have HOK := hide hok
  clear hp hN hR hfit hok
  obtain ⟨n, hnl⟩ : ∃ n, n = l.length := ⟨_, rfl⟩
  have HN := hide hnl
  rw [← hnl] at p0 hn
  clear hnl
  go_enter Tryf.func10, Tryf.ntmps10
  go_wp2_with (at_make; refine wpList_make_full _ rfl _ _ 26 rfl 0 3 i0 _ 1 Tryf.underlying26 hi0 hz0 hz1 _ _ _ _ n rfl rfl rfl rfl ?c1 ?c2 (Nat.zero_le _) ?_)
  case c1 => rw [hz2]; omega
  case c2 => unfold maxLen; omega
  intro w1 hown hgrow
  obtain ⟨rb, hrb⟩ : ∃ rb, rb = w.heap.size := ⟨_, rfl⟩
  obtain ⟨Q, hQ⟩ : ∃ Q, Q = w1.heap.size := ⟨_, rfl⟩
  have hrow : RowI w1 rb n (List.replicate n 0) := by
    rw [hrb]
    unfold RowI
    rw [List.length_replicate, ← made_ints]; exact hown
  have hrQ : rb < Q := by rw [hQ]; exact hrow.lt
  have hsr : sb < rb := by rw [hrb]; exact hsl
  have hg1 : w.grownBy w1 (some sb) := ⟨hgrow.os, hgrow.tape, hgrow.output, hgrow.size, fun k hk _ => hgrow.block k hk (fun e => by cases e)⟩
  have HST : Hid (St w rb Q pb sb l (prun l 0) 0 none none 0 0 ((w1.alloc (.cells #[.pointer (some ⟨pb, 0, none⟩), .slice none 0 0, .slice (some ⟨rb, 0, none⟩) n n] 68)).alloc (.cells #[.slice none 0 0] 30))) := by
    refine ⟨grow_more (grow_more hg1 _) _, ?_, ?_, ?_, ?_, ?_, ?_⟩
    · rw [hQ, ← HN.out]
      exact (((Below.refl _ _).alloc (Nat.le_refl _) _).block _ (by simp)).trans (alloc_new w1 _)
    · refine ⟨none, 0, 0, [], ?_, ⟨rfl, Or.inl ⟨rfl, rfl⟩⟩, ⟨fun _ => rfl, fun _ => rfl⟩, Nat.le_refl _⟩
      rw [hQ]
      have := alloc_new (w1.alloc (.cells #[.pointer (some ⟨pb, 0, none⟩), .slice none 0 0, .slice (some ⟨rb, 0, none⟩) n n] 68)) (.cells #[.slice none 0 0] 30)
      simpa using this
    · exact ⟨List.replicate n 0, by rw [List.length_replicate]; exact HN.out, by rw [← HN.out]; exact (hrow.alloc _).alloc _⟩
    · exact ⟨rfl, Or.inl ⟨rfl, rfl⟩⟩
    · exact ⟨rfl, Or.inl ⟨rfl, rfl⟩⟩
    · have h1 : RowP w1 sb l (l.map It.stm) l.length := HRR.out.of_block (hgrow.block sb hsl (fun e => by cases e))
      exact (h1.alloc _).alloc _
  have p1 : w1.cell? ⟨pb, 0, none⟩ = some (.slice (some ⟨sb, 0, none⟩) n n) := by
    rw [World.cell?_of_block (hgrow.block pb (by show pb < w.heap.size; omega) (fun e => by cases e))]; exact p0
  have hpQ : pb < w1.heap.size := by rw [← hQ]; omega
  have hpQ1 : pb < w1.heap.size + 1 := by omega
  rw [← hrb]
  have HQ := hide hQ
  have HRB := hide hrb
  have HSL := hide hsl
  clear hown hgrow hrow hg1 p0 hQ hrb hsl
  go_wp2
  obtain ⟨w2, hw2⟩ : ∃ w2, w2 = (w1.alloc (.cells #[.pointer (some ⟨pb, 0, none⟩), .slice none 0 0, .slice (some ⟨rb, 0, none⟩) n n] 68)).alloc (.cells #[.slice none 0 0] 30) := ⟨_, rfl⟩
  rw [← hw2] at HST ⊢
  rw [← HQ.out]
  clear hw2 p1 hpQ hpQ1 HQ
  go_loopw [7, 33] (fun sv iv wr => ∃ (i : Nat) (bo so : Option Addr) (cB sc : Nat), i ≤ n ∧ iv = .int .i64 i ∧ sv = .slice so (prun l i).O.length sc ∧ Hid (St w rb Q pb sb l (prun l i) i bo so cB sc wr)) (fun _ iv _ => n - (intOf iv).toNat)
  case atStart => exact ⟨0, none, none, 0, 0, Nat.zero_le _, rfl, rfl, HST⟩
  case round =>
    obtain ⟨i, bo, so, cB, sc, hi, rfl, rfl, HT⟩ := hrel
    clear HST
    by_cases hlt : i < n
    · have hlt' : i < l.length := by rw [← HN.out]; exact hlt
      obtain ⟨hBl, hOl, _⟩ := prun_len l i
      have c0 := HT.out.rows.at0 i hlt'
      have c1 := HT.out.rows.at1 i hlt'
      have c2 := HT.out.rows.at2 i hlt'
      rw [(ok_wf l HOK.out i hlt').2.2] at c2
      have q0 : wr.cell? ⟨Q, 0, none⟩ = some (.pointer (some ⟨pb, 0, none⟩)) := cell_of HT.out.set 0
      have q1 : wr.cell? ⟨Q, 1, none⟩ = some (.slice bo (prun l i).B.length cB) := cell_of HT.out.set 1
      have q2 : wr.cell? ⟨Q, 2, none⟩ = some (.slice (some ⟨rb, 0, none⟩) n n) := by rw [HN.out]; exact cell_of HT.out.set 2
      obtain ⟨xs, hxl, hxr⟩ := HT.out.inner
      have r0 := hxr.at i (by omega)
      have rf := hxr.frozen
      have hrl : rb < wr.heap.size := hxr.lt
      have hql : Q < wr.heap.size := by have := HT.out.qlt; omega
      have hsl2 : sb < wr.heap.size := HT.out.rows.lt
      obtain ⟨m, hm⟩ : ∃ m, m = (prun l i).O.length := ⟨_, rfl⟩
      rw [← hm] at hOl ⊢
      have HM := hide hm
      clear hm hxr hxl
      obtain ⟨T, X, hTX⟩ : ∃ T X, (nth l i).stm.val = .iface T X := by
        unfold Stm.val
        split
        · exact ⟨_, _, rfl⟩
        · split
          · exact ⟨_, _, rfl⟩
          · split
            · exact ⟨_, _, rfl⟩
            · exact ⟨_, _, rfl⟩
      rw [hTX] at c2
      have HTX := hide hTX
      clear hTX
      generalize (nth l i).num = num at c0
      generalize (nth l i).fl = fl at c1
      have HT1 : Hid (St w rb Q pb sb l (prun l i) i bo so cB sc ((wr.setCell ⟨rb, i, none⟩ (.int .i64 (-1))).alloc (.cells #[.int .i64 num, .int .i64 fl, .iface T X] 54))) := (HT.out.inset (by rw [HRB.out]; exact Nat.le_refl _) hrQ hsr i (-1)).alloc _
      go_upto_if 46 with fail
      go_cut [] from 44 to 262 (fun wc => Hid (St w rb Q pb sb l (prun l i) i bo so cB sc wc) ∧ Hid (wc.heap[wr.heap.size]? = some (.cells #[.int .i64 num, .int .i64 fl, .iface T X] 54)))
      case first =>
        by_cases hm0 : m = 0
        · subst hm0
          go_wp2_with fail
          go_meet
          exact ⟨HT1, new_after wr _ _ _⟩
        · obtain ⟨q, rfl⟩ : ∃ q, m = q + 1 := ⟨m - 1, by omega⟩
          have HB1 : Hid (w.heap.size ≤ rb) := by rw [HRB.out]; exact Nat.le_refl _
          go_upto_region 10 with fail
          refine wp_only ?_
          refine inner_ok (σ := prun l i) HB1.out hrQ hsr hlt' (by omega) HM HT1 ?_
          refine hide ?_
          intro d47 d48 d49 d50 d51 d52 d53 d54 d55 d56 d57 d58 w5 HS5 HK5
          dsimp only
          go_wp2_with fail
          go_meet
          exact ⟨HS5, (HK5.out _ (by omega)).trans (new_after wr _ _ _)⟩
      case rest =>
        obtain ⟨HTc, HBX⟩ := hcut
        clear c0 c1 c2 q0 q1 q2 r0 rf HT HT1 xs
        have x2 : wc.cell? ⟨wr.heap.size, 2, none⟩ = some (.iface T X) := cell_of HBX.out 2
        have HB0 : Hid (w.heap.size ≤ rb) := by rw [HRB.out]; exact Nat.le_refl _
        have HP0 : Hid (w.cell? ⟨pb, 0, none⟩ = some (.slice (some ⟨sb, 0, none⟩) l.length l.length)) := cell_of HPB.out 0
        have HPC : Hid (w.cell? ⟨pb, 1, none⟩ = some (.slice vo ns.length c)) := cell_of HPB.out 1
        have hn' : l.length ≤ 4096 := by rw [← HN.out]; exact hn
        go_upto_block 2 with fail
        refine wp_only ?_
        rw [HM.out]
        refine switch_ok HB0.out hrQ hsr hps HSL.out hlt' hn' HOK HTX HP0 HPC HNM HFT HTc ?_
        refine hide ?_
        intro d10 d11 d12 d13 d14 d61 d62 d63 d64 d65 d66 d67 d68 d69 d70 d71 d72 d73 d74 d75 d76 d77 d78 d79 d80 d81 d82 d83 d84 d85 d86 d87 d88 d89 d90 d91 d92 d93 d94 d95 d96 d97 d98 d99 d100 d101 d102 d103 d104 d105 d106 d107 d108 d109 d110 d111 d112 d113 d114 d115 d116 d117 d118 d119 d120 d121 d122 d123 d124 d125 d126 d127 d128 d129 d130 d131 d132 d133 d134 d135 d136 d137 d138 d139 d140 d141 d142 d143 d144 d145 d146 d147 d148 d149 d150 d151 d152 d153 d154 d155 d156 d157 d158 d159 d160 d161 d162 d163 d164 d165 d166 d167 d168 d169 d170 d171 d172 d173 d174 d175 d176 d177 d178 d179 d180 d181 d182 d183 d184 d185 d186 d187 d188 d189 d190 d191 d192 d193 d194 d195 d196 d197 d198 d199 d200 d201 d202 d203 d204 d205 d206 d207 d208 d209 d210 d211 d212 d213 d214 d215 d216 d217 d218 d219 d220 d221 d222 d223 d224 d225 d226 d227 d228 d229 d230 d231 d232 d233 d234 d235 d236 d237 d238 d239 d240 d241 d242 d243 d244 d245 d246 d247 d248 d249 d250 d251 d252 d253 d254 d255 d256 d257 d258 d259 d260 d261 w7 bo7 so7 cB7 sc7 HS7
        dsimp only
        clear x2
        go_wp2
        go_roundw
        case rel => exact ⟨i + 1, bo7, so7, cB7, sc7, by omega, by go_num, rfl, HS7⟩
        case measure => simp [intOf]; omega
    · obtain rfl : n = i := by omega
      have hO : (prun l n).O = [] := by rw [HN.out]; exact (okB_iff l HOK.out).2.2
      rw [hO]
      obtain ⟨dp, d, dc, ds, hd1, hd2, hd3, hd4⟩ := HT.out.dg
      have hd : d = 0 := hd3.mpr (okB_noerr l HOK.out n (by rw [HN.out]; exact Nat.le_refl _))
      subst hd
      have d0 : wr.cell? ⟨Q + 1, 0, none⟩ = some (.slice dp 0 dc) := cell_of hd1 0
      clear hd1 hd2 hd3 hd4
      clear hO
      go_wp2
      refine wp_loop_rounds 1 ?_
      rw [rounds_succ]
      go_wp2
      go_ret2
      refine ⟨⟨Q, rfl⟩, HT.out.grown, ?_⟩
      have := HT.out.rows
      rw [HN.out] at this
      exact this
end Go.Proofs.Qxb6002619aFmt
