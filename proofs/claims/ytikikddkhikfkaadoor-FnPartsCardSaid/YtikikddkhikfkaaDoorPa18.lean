/-
  The loop over the blocks of the reference's SHA-256. By the session.
-/
import Derived.Test.YtikikddkhikfkaaDoorPa15
import Derived.Test.YtikikddkhikfkaaDoorPa16
import Derived.Test.YtikikddkhikfkaaDoorPa17
import Derived.RegionTactic
import Derived.BigRegion
import Derived.Deep.Cut
set_option linter.all false
namespace Go.Proofs.YtikikddkhikfkaaDoor
open Go.RowKit

set_option maxRecDepth 100000 in
set_option maxHeartbeats 4000000 in
theorem sumL3 {c0 c1 c2 c5 c7 c10 c11 c12 c13 c14 c15 c16 c17 c18 c19 c20 c21 c22 c23 c24 c25 c26 c27 c28 c29 c30 c31 c32 c33 c34 c35 c36 c37 c38 c39 c40 c41 c42 c43 c44 c45 c46 c47 c48 c49 c50 c51 c52 c53 c54 c55 c56 c57 c58 c59 c60 c61 c62 c63 c64 c65 c66 c67 c68 c69 c70 c71 c72 c73 c74 c75 c76 c77 c78 c79 c80 c81 c82 c83 c84 c85 c86 c87 c88 c89 c90 c91 c92 c93 c94 c95 c96 c97 c98 c99 c100 c101 c102 c103 c104 c105 c106 c107 c108 c109 c110 c111 c112 c113 c114 c115 c116 c117 c118 c119 c120 c121 c122 c123 c124 c125 c126 c127 c128 c129 c130 c131 c132 c133 c134 c135 c136 c137 c138 c139 c140 c141 c142 c143 c144 c145 c146 c147 c148 c149 c150 c151 c152 c153 c154 c155 c156 c157 c158 c159 c160 c161 c162 c163 c164 c165 c166 c167 c168 c169 c170 c171 c172 c173 c174 c175 c176 c177 c178 c179 c180 c181 c182 c183 c184 c185 c186 c187 c188 c189 c190 c191 c192 c193 c194 c195 c196 c197 c198 c199 c200 c201 c202 c203 c204 c205 c206 c207 c208 c209 c210 c211 c212 c213 c214 c215 c216 c217 c218 c219 c220 c221 c222 c223 c224 c225 c226 c227 c228 c229 c230 c231 c232 c233 c234 c235 c236 c237 c238 c239 c240 c241 c242 c243 c244 c245 c246 c247 c248 c249 c250 c251 c252 c253 c254 c255 c256 c257 c258 c259 c260 c261 c262 c263 c264 c265 c266 c267 c268 c269 c270 c271 c272 c273 c274 c275 c276 c277 c278 c279 c280 c281 c282 c283 c284 c285 c286 c287 c288 c289 c290 c291 c292 c293 c294 c295 c296 c297 c298 c299 : Value} {v8 : Value} (gh gk gm cm B3 nb : Nat) (msg : List UInt8) (s0 : St) (W0 : World) {w : World} {Q0 : Exit → Act → World → Prop} (h8 : v8 = .func (.func 91) #[] #[]) (hnb : 64 * nb ≤ 40000002000) (hgh : W0.heap.size ≤ gh) (hgk : gh < gk) (hgk3 : gk < B3) (hg0 : B3 ≤ gm) (hml : msg.length = 64 * nb) (hH : Blk w gh 173 (hC s0.list)) (hK : Blk w gk 175 kCells) (hO : Own8 w B3 (some ⟨gm, 0, none⟩) (64 * nb) cm msg) (hB : Below W0.heap.size W0 w)
    (hexit : ∀ (w' : World) , Hid (Blk w' gh 173 (hC (blocksN msg s0 nb).list)) ∧ Hid (Below W0.heap.size W0 w') → ∀ (u9 u10 u11 u12 u13 u14 u15 u16 u17 u18 u19 u20 u21 u22 u23 u56 u57 u58 u59 u60 u61 u62 u63 u64 u65 u66 u67 u68 u69 u70 u71 u72 u73 u74 u75 u76 u77 u78 u79 u80 u81 u82 u83 u84 u85 u86 u87 u88 u89 u90 u91 u92 u93 u94 u95 u96 u97 u98 u99 u100 u101 u102 u103 u104 u105 u106 u107 u108 u109 u110 u111 u112 u113 u114 u115 u116 u117 u118 u119 u120 u121 u122 u123 u124 u125 u126 u127 u128 u129 u130 u131 u132 u133 u134 u135 u136 u137 u138 u139 u140 u141 u142 u143 u144 u145 u146 u147 u148 u149 u150 u151 u152 u153 u154 u155 u156 u157 u158 u159 u160 u161 u162 u163 u164 u165 u166 u167 u168 u169 u170 u171 u172 u173 u174 u175 u176 u177 u178 u179 u180 u181 u182 u183 u184 u185 u186 u187 u188 u189 u190 u191 u192 u193 u194 u195 u196 u197 u198 u199 u200 u201 u202 u203 u204 u205 u206 u207 u208 u209 u210 u211 u212 u213 u214 u215 u216 u217 u218 u219 u220 u221 u222 u223 u224 u225 u226 u227 u228 u229 u230 u231 u232 u233 u234 u235 u236 u237 u238 u239 u240 u241 u242 u243 u244 u245 u246 u247 u248 u249 u250 u251 u252 u253 u254 u255 u256 u257 u258 u259 u260 u261 u262 u263 u264 u265 u266 u267 u268 u269 u270 u271 u272 u273 u274 u275 u276 u277 u278 u279 : Value), Q0 (.exit 4) ⟨#[c0, c1, c2, .pointer (some ⟨gh, 0, none⟩), .pointer (some ⟨gk, 0, none⟩), c5, .slice (some ⟨gm, 0, none⟩) (64 * nb) cm, c7, v8, u9, u10, u11, u12, u13, u14, u15, u16, u17, u18, u19, u20, u21, u22, u23, c24, c25, c26, c27, c28, c29, c30, c31, c32, c33, c34, c35, c36, c37, c38, c39, c40, c41, c42, c43, c44, c45, c46, c47, c48, c49, c50, c51, c52, c53, c54, c55, u56, u57, u58, u59, u60, u61, u62, u63, u64, u65, u66, u67, u68, u69, u70, u71, u72, u73, u74, u75, u76, u77, u78, u79, u80, u81, u82, u83, u84, u85, u86, u87, u88, u89, u90, u91, u92, u93, u94, u95, u96, u97, u98, u99, u100, u101, u102, u103, u104, u105, u106, u107, u108, u109, u110, u111, u112, u113, u114, u115, u116, u117, u118, u119, u120, u121, u122, u123, u124, u125, u126, u127, u128, u129, u130, u131, u132, u133, u134, u135, u136, u137, u138, u139, u140, u141, u142, u143, u144, u145, u146, u147, u148, u149, u150, u151, u152, u153, u154, u155, u156, u157, u158, u159, u160, u161, u162, u163, u164, u165, u166, u167, u168, u169, u170, u171, u172, u173, u174, u175, u176, u177, u178, u179, u180, u181, u182, u183, u184, u185, u186, u187, u188, u189, u190, u191, u192, u193, u194, u195, u196, u197, u198, u199, u200, u201, u202, u203, u204, u205, u206, u207, u208, u209, u210, u211, u212, u213, u214, u215, u216, u217, u218, u219, u220, u221, u222, u223, u224, u225, u226, u227, u228, u229, u230, u231, u232, u233, u234, u235, u236, u237, u238, u239, u240, u241, u242, u243, u244, u245, u246, u247, u248, u249, u250, u251, u252, u253, u254, u255, u256, u257, u258, u259, u260, u261, u262, u263, u264, u265, u266, u267, u268, u269, u270, u271, u272, u273, u274, u275, u276, u277, u278, u279, c280, c281, c282, c283, c284, c285, c286, c287, c288, c289, c290, c291, c292, c293, c294, c295, c296, c297, c298, c299], []⟩ w') :
    Code.wp Tryd.prog (sumLoop 2) Q0 ⟨#[c0, c1, c2, .pointer (some ⟨gh, 0, none⟩), .pointer (some ⟨gk, 0, none⟩), c5, .slice (some ⟨gm, 0, none⟩) (64 * nb) cm, c7, v8, .int .i64 0, c10, c11, c12, c13, c14, c15, c16, c17, c18, c19, c20, c21, c22, c23, c24, c25, c26, c27, c28, c29, c30, c31, c32, c33, c34, c35, c36, c37, c38, c39, c40, c41, c42, c43, c44, c45, c46, c47, c48, c49, c50, c51, c52, c53, c54, c55, c56, c57, c58, c59, c60, c61, c62, c63, c64, c65, c66, c67, c68, c69, c70, c71, c72, c73, c74, c75, c76, c77, c78, c79, c80, c81, c82, c83, c84, c85, c86, c87, c88, c89, c90, c91, c92, c93, c94, c95, c96, c97, c98, c99, c100, c101, c102, c103, c104, c105, c106, c107, c108, c109, c110, c111, c112, c113, c114, c115, c116, c117, c118, c119, c120, c121, c122, c123, c124, c125, c126, c127, c128, c129, c130, c131, c132, c133, c134, c135, c136, c137, c138, c139, c140, c141, c142, c143, c144, c145, c146, c147, c148, c149, c150, c151, c152, c153, c154, c155, c156, c157, c158, c159, c160, c161, c162, c163, c164, c165, c166, c167, c168, c169, c170, c171, c172, c173, c174, c175, c176, c177, c178, c179, c180, c181, c182, c183, c184, c185, c186, c187, c188, c189, c190, c191, c192, c193, c194, c195, c196, c197, c198, c199, c200, c201, c202, c203, c204, c205, c206, c207, c208, c209, c210, c211, c212, c213, c214, c215, c216, c217, c218, c219, c220, c221, c222, c223, c224, c225, c226, c227, c228, c229, c230, c231, c232, c233, c234, c235, c236, c237, c238, c239, c240, c241, c242, c243, c244, c245, c246, c247, c248, c249, c250, c251, c252, c253, c254, c255, c256, c257, c258, c259, c260, c261, c262, c263, c264, c265, c266, c267, c268, c269, c270, c271, c272, c273, c274, c275, c276, c277, c278, c279, c280, c281, c282, c283, c284, c285, c286, c287, c288, c289, c290, c291, c292, c293, c294, c295, c296, c297, c298, c299], []⟩ w := by
  have HEX := PLift.up hexit; clear hexit
  dsimp only
  conv => arg 2; whnf
  subst h8
  have KB8 := Lib.hid hH; have KK8 := Lib.hid hK; have HO8 := Lib.hid hO; have HB8 := Lib.hid hB; have hmlen := Lib.hid hml
  clear hH hK hO hB hml
  go_loopw [9] (fun a wr => ∃ j : Nat, j ≤ nb ∧ a = .int .i64 (64 * (j : Int)) ∧ Hid (Blk wr gh 173 (hC (blocksN msg s0 j).list)) ∧ Hid (Blk wr gk 175 kCells) ∧ Hid (Own8 wr B3 (some ⟨gm, 0, none⟩) (64 * nb) cm msg) ∧ Hid (Below W0.heap.size W0 wr)) (fun a _ => 64 * nb - (intOf a).toNat)
  case atStart => exact ⟨0, Nat.zero_le _, rfl, KB8.out, KK8.out, HO8.out, HB8.out⟩
  case round =>
    obtain ⟨j, hj, rfl, HH, HK, HO, HB⟩ := hrel
    have hwz := HB.out.size
    by_cases hlt : j < nb
    · have hgkz : gk < wr.heap.size := HK.out.lt
      have hgmz : gm < wr.heap.size := (HO.out.at_ gm rfl).2
      have KH := Lib.hid (HH.out.alloc (.cells (wCells []) 175))
      have KK := Lib.hid (HK.out.alloc (.cells (wCells []) 175))
      have KO := Lib.hid (World.ownsRow.alloc HO.out (.cells (wCells []) 175))
      have KW := Lib.hid (Blk.new wr 175 (wCells []))
      have KBe := Lib.hid (HB.out.alloc hwz (.cells (wCells []) 175))
      clear HH HK HO HB
      go_wp2
      rw [zLit]
      generalize wr.heap.size = gw at *
      generalize wr.alloc (.cells (wCells []) 175) = wz at *
      obtain ⟨p, hp⟩ : ∃ p, p = msg.drop (64 * j) := ⟨_, rfl⟩
      have hgmz' : gm < gw := hgmz
      refine sumL4 gm gw cm (64 * nb) B3 j p msg (by omega) (by omega) hp hgmz hmlen.out KO.out KW.out ?_
      rintro w9 ⟨HW4, HB4⟩
      intros
      dsimp only
      as_aux_lemma =>
        go_wp2
        refine sumL6 gw p rfl HW4.out ?_
        rintro w10 ⟨HW6, HB6⟩
        intros
        dsimp only
        as_aux_lemma =>
          have hbl : Hid (blocksN msg s0 (j + 1) = (blocksN msg s0 j).add (roundsN p (blocksN msg s0 j) 64)) := by show _ = _; rw [hp]; rfl
          have HP := Lib.hid hp; clear hp
          generalize hsj : blocksN msg s0 j = sj at hbl KH
          clear hsj
          have hB10 : Below gw wz w10 := HB4.out.trans HB6.out
          have HB10 := Lib.hid hB10
          have hghk : gh < gw := by omega
          have hgw10 : gw < w10.heap.size := HW6.out.lt
          have kh := KH.out.below hB10 hghk
          have hrd : Rd w10 (gh + 1) 1 (some ⟨gh, 0, none⟩) 8 (sj.list.map uv) := by
            have := Rd.of_blk kh
            simpa [hC, St.list] using this
          have HRD := Lib.hid hrd; have KH10 := Lib.hid kh; have KK10 := Lib.hid (KK.out.below hB10 hgkz)
          have KO10 := Lib.hid (own_belowK KO.out hB10 (fun k hk => by cases hk; exact hgmz))
          have KB10 := Lib.hid (KBe.out.trans (hB10.mono hwz))
          clear kh hrd hB10 HB4 HB6 HB10 KO KBe KW KH KK HW4
          obtain ⟨i0, hi0, hz0, hz1, hz2⟩ := info_parts infoU32
          have HI := Lib.hid hi0; have HZ0 := Lib.hid hz0; have HZ1 := Lib.hid hz1; have HZ2 := Lib.hid hz2
          clear hi0 hz0 hz1 hz2
          as_aux_lemma =>
            go_wp2_with (at_builtin; refine wpList_app w10 rfl (.const (.slice none 0 0)) (.tmp 144) 178 rfl w10.heap.size 90 i0 _ 1 4 Tryd.underlying178 HI.out HZ0.out HZ1.out HZ2.out rfl (by decide) (.slice none 0 0) 0 [] rfl (World.ownsRow_nil w10 w10.heap.size _ _) (gh + 1) (some ⟨gh, 0, none⟩) 8 8 (sj.list.map uv) rfl HRD.out (uv_one _) (by decide) (by decide) (Nat.le_refl _) ?_; intro A11 c11 w11 ho11 hg11 _; simp only [Nat.zero_add, List.nil_append] at ho11 hg11 ⊢; have HO11 := Lib.hid ho11; have HB11 := Lib.hid ((Below.refl w10.heap.size w10).grown hg11 (Nat.le_refl _) (by simp [Value.ownBlock])); clear ho11 hg11)
            refine sumL7 gk gw c11 w10.heap.size A11 p sj rfl HB11.out.size (Nat.lt_trans hgkz hgw10) hgw10 (KK10.out.belowS HB11.out) (HW6.out.belowS HB11.out) HO11.out ?_
            rintro w12 A12 c12 ⟨HO12, HB12'⟩
            intros
            dsimp only
            as_aux_lemma =>
              have HB12 := Lib.hid (HB11.out.trans HB12'.out)
              generalize roundsN p sj 64 = st at hbl HO12
              obtain ⟨gv, cap12, hv, hgv0, hgv1⟩ := HO12.out.form (by decide)
              have e1 : A12 = some ⟨gv, 0, none⟩ := by injection hv
              subst e1
              clear hv
              have hz10 : W0.heap.size ≤ w10.heap.size := KB10.out.size
              have Q1 := Lib.hid (KH10.out.belowS HB12.out); have Q2 := Lib.hid (KK10.out.belowS HB12.out)
              have Q3 := Lib.hid (own_belowK KO10.out HB12.out (fun k hk => by cases hk; exact Nat.lt_trans hgmz hgw10))
              have Q4 := Lib.hid (KB10.out.trans (HB12.out.mono hz10))
              clear HB12' HO11 HB11 HRD KH10 KO10 KB10 KK10 HB12
              go_wp2
              refine sumL8 gh gv c12 w10.heap.size sj.list st.list ⟨rfl, rfl⟩ (by omega) Q1.out HO12.out ?_
              rintro w13 ⟨G1, G4, G5⟩
              intros
              dsimp only
              as_aux_lemma =>
                have hfu : zipTo sj.list st.list 8 = (sj.add st).list := by rw [St.add_list]; exact zipTo_full (xs := sj.list) rfl
                rw [hfu] at G1
                clear hfu
                have G2 := Lib.hid (G5.out.blk Q2.out (by omega))
                have G3 := Lib.hid (G5.out.own Q3.out (fun h => by have e : gh = gm := Option.some.inj h; omega))
                have G6 := Lib.hid (Q4.out.trans (G5.out.1.mono hgh))
                clear Q1 Q2 Q3 Q4 G4 G5
                go_wp2
                go_roundw
                case measure => simp [intOf]; omega
                case rel =>
                  refine ⟨j + 1, by omega, by go_num, ?_, G2.out, G3.out, G6.out⟩
                  rw [hbl.out]; exact G1.out
    · obtain rfl : j = nb := by omega
      go_wp2
      exact HEX.down wr ⟨HH, HB⟩ _ _ _ _ _ _ _ _ _ _ _ _ _ _ _ _ _ _ _ _ _ _ _ _ _ _ _ _ _ _ _ _ _ _ _ _ _ _ _ _ _ _ _ _ _ _ _ _ _ _ _ _ _ _ _ _ _ _ _ _ _ _ _ _ _ _ _ _ _ _ _ _ _ _ _ _ _ _ _ _ _ _ _ _ _ _ _ _ _ _ _ _ _ _ _ _ _ _ _ _ _ _ _ _ _ _ _ _ _ _ _ _ _ _ _ _ _ _ _ _ _ _ _ _ _ _ _ _ _ _ _ _ _ _ _ _ _ _ _ _ _ _ _ _ _ _ _ _ _ _ _ _ _ _ _ _ _ _ _ _ _ _ _ _ _ _ _ _ _ _ _ _ _ _ _ _ _ _ _ _ _ _ _ _ _ _ _ _ _ _ _ _ _ _ _ _ _ _ _ _ _ _ _ _ _ _ _ _ _ _ _ _ _ _ _ _ _ _ _ _ _ _ _ _ _ _ _ _ _ _ _ _ _ _ _ _ _ _ _
end Go.Proofs.YtikikddkhikfkaaDoor
