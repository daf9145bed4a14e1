/-
  The rounds of a block of the reference's SHA-256. By the session.
-/
import Derived.Test.YtikikddkhikfkaaDoorPa4
import Derived.RegionTactic
import Derived.BigRegion
import Derived.Deep.Cut
set_option linter.all false
namespace Go.Proofs.YtikikddkhikfkaaDoor
open Go.RowKit

set_option maxRecDepth 100000 in
set_option maxHeartbeats 4000000 in
theorem sumL7 {c0 c1 c2 c3 c5 c6 c7 c9 c11 c12 c13 c14 c15 c17 c18 c19 c20 c21 c22 c23 c24 c25 c26 c27 c28 c29 c30 c31 c32 c33 c34 c35 c36 c37 c38 c39 c40 c41 c42 c43 c44 c45 c46 c47 c48 c49 c50 c51 c52 c53 c54 c55 c56 c57 c58 c59 c60 c61 c62 c63 c64 c65 c66 c67 c68 c69 c70 c71 c72 c73 c74 c75 c76 c77 c78 c79 c80 c81 c82 c83 c84 c85 c86 c87 c88 c89 c90 c91 c92 c93 c94 c95 c96 c97 c98 c99 c100 c101 c102 c103 c104 c105 c106 c107 c108 c109 c110 c111 c112 c113 c114 c115 c116 c117 c118 c119 c120 c121 c122 c123 c124 c125 c126 c127 c128 c129 c130 c131 c132 c133 c134 c135 c136 c137 c138 c139 c140 c141 c142 c143 c144 c145 c147 c148 c149 c150 c151 c152 c153 c154 c155 c156 c157 c158 c159 c160 c161 c162 c163 c164 c165 c166 c167 c168 c169 c170 c171 c172 c173 c174 c175 c176 c177 c178 c179 c180 c181 c182 c183 c184 c185 c186 c187 c188 c189 c190 c191 c192 c193 c194 c195 c196 c197 c198 c199 c200 c201 c202 c203 c204 c205 c206 c207 c208 c209 c210 c211 c212 c213 c214 c215 c216 c217 c218 c219 c220 c221 c222 c223 c224 c225 c226 c227 c228 c229 c230 c231 c232 c233 c234 c235 c236 c237 c238 c239 c240 c241 c242 c243 c244 c245 c246 c247 c248 c249 c250 c251 c252 c253 c254 c255 c256 c257 c258 c259 c260 c261 c262 c263 c264 c265 c266 c267 c268 c269 c270 c271 c272 c273 c274 c275 c276 c277 c278 c279 c280 c281 c282 c283 c284 c285 c286 c287 c288 c289 c290 c291 c292 c293 c294 c295 c296 c297 c298 c299 : Value} {v8 : Value} (gk gw cv0 B : Nat) (A0 : Option Addr) (p : List UInt8) (sj : St) {w : World} {Q0 : Exit → Act → World → Prop} (h8 : v8 = .func (.func 91) #[] #[]) (hB : B ≤ w.heap.size) (hgk : gk < B) (hgw : gw < B) (hk : Blk w gk 175 kCells) (hw : Blk w gw 175 (wCells (wordsN p 64))) (hv : w.ownsRow B 90 1 (.slice A0 8 cv0) 8 (sj.list.map uv))
    (hexit : ∀ (w' : World) (A : Option Addr) (c : Nat), Hid (w'.ownsRow B 90 1 (.slice A 8 c) 8 ((roundsN p sj 64).list.map uv)) ∧ Hid (Below B w w') → ∀ (u17 u18 u19 u20 u21 u22 u146 u147 u148 u149 u150 u151 u152 u153 u154 u155 u156 u157 u158 u159 u160 u161 u162 u163 u164 u165 u166 u167 u168 u169 u170 u171 u172 u173 u174 u175 u176 u177 u178 u179 u180 u181 u182 u183 u184 u185 u186 u187 u188 u189 u190 u191 u192 u193 u194 u195 u196 u197 u198 u199 u200 u201 u202 u203 u204 u205 u206 u207 u208 u209 u210 u211 u212 u213 u214 u215 u216 u217 u218 u219 u220 u221 u222 u223 u224 u225 u226 u227 u228 u229 u230 u231 u232 u233 u234 u235 u236 u237 u238 u239 u240 u241 u242 u243 u244 u245 u246 u247 u248 u249 u250 u251 u252 u253 u254 u255 u256 u257 u258 u259 u260 u261 u262 u263 u264 u265 u266 : Value), Q0 (.exit 12) ⟨#[c0, c1, c2, c3, .pointer (some ⟨gk, 0, none⟩), c5, c6, c7, v8, c9, .pointer (some ⟨gw, 0, none⟩), c11, c12, c13, c14, c15, .slice A 8 c, u17, u18, u19, u20, u21, u22, c23, c24, c25, c26, c27, c28, c29, c30, c31, c32, c33, c34, c35, c36, c37, c38, c39, c40, c41, c42, c43, c44, c45, c46, c47, c48, c49, c50, c51, c52, c53, c54, c55, c56, c57, c58, c59, c60, c61, c62, c63, c64, c65, c66, c67, c68, c69, c70, c71, c72, c73, c74, c75, c76, c77, c78, c79, c80, c81, c82, c83, c84, c85, c86, c87, c88, c89, c90, c91, c92, c93, c94, c95, c96, c97, c98, c99, c100, c101, c102, c103, c104, c105, c106, c107, c108, c109, c110, c111, c112, c113, c114, c115, c116, c117, c118, c119, c120, c121, c122, c123, c124, c125, c126, c127, c128, c129, c130, c131, c132, c133, c134, c135, c136, c137, c138, c139, c140, c141, c142, c143, c144, c145, u146, u147, u148, u149, u150, u151, u152, u153, u154, u155, u156, u157, u158, u159, u160, u161, u162, u163, u164, u165, u166, u167, u168, u169, u170, u171, u172, u173, u174, u175, u176, u177, u178, u179, u180, u181, u182, u183, u184, u185, u186, u187, u188, u189, u190, u191, u192, u193, u194, u195, u196, u197, u198, u199, u200, u201, u202, u203, u204, u205, u206, u207, u208, u209, u210, u211, u212, u213, u214, u215, u216, u217, u218, u219, u220, u221, u222, u223, u224, u225, u226, u227, u228, u229, u230, u231, u232, u233, u234, u235, u236, u237, u238, u239, u240, u241, u242, u243, u244, u245, u246, u247, u248, u249, u250, u251, u252, u253, u254, u255, u256, u257, u258, u259, u260, u261, u262, u263, u264, u265, u266, c267, c268, c269, c270, c271, c272, c273, c274, c275, c276, c277, c278, c279, c280, c281, c282, c283, c284, c285, c286, c287, c288, c289, c290, c291, c292, c293, c294, c295, c296, c297, c298, c299], []⟩ w') :
    Code.wp Tryd.prog (sumLoop 6) Q0 ⟨#[c0, c1, c2, c3, .pointer (some ⟨gk, 0, none⟩), c5, c6, c7, v8, c9, .pointer (some ⟨gw, 0, none⟩), c11, c12, c13, c14, c15, .slice A0 8 cv0, c17, c18, c19, c20, c21, c22, c23, c24, c25, c26, c27, c28, c29, c30, c31, c32, c33, c34, c35, c36, c37, c38, c39, c40, c41, c42, c43, c44, c45, c46, c47, c48, c49, c50, c51, c52, c53, c54, c55, c56, c57, c58, c59, c60, c61, c62, c63, c64, c65, c66, c67, c68, c69, c70, c71, c72, c73, c74, c75, c76, c77, c78, c79, c80, c81, c82, c83, c84, c85, c86, c87, c88, c89, c90, c91, c92, c93, c94, c95, c96, c97, c98, c99, c100, c101, c102, c103, c104, c105, c106, c107, c108, c109, c110, c111, c112, c113, c114, c115, c116, c117, c118, c119, c120, c121, c122, c123, c124, c125, c126, c127, c128, c129, c130, c131, c132, c133, c134, c135, c136, c137, c138, c139, c140, c141, c142, c143, c144, c145, .int .i64 0, c147, c148, c149, c150, c151, c152, c153, c154, c155, c156, c157, c158, c159, c160, c161, c162, c163, c164, c165, c166, c167, c168, c169, c170, c171, c172, c173, c174, c175, c176, c177, c178, c179, c180, c181, c182, c183, c184, c185, c186, c187, c188, c189, c190, c191, c192, c193, c194, c195, c196, c197, c198, c199, c200, c201, c202, c203, c204, c205, c206, c207, c208, c209, c210, c211, c212, c213, c214, c215, c216, c217, c218, c219, c220, c221, c222, c223, c224, c225, c226, c227, c228, c229, c230, c231, c232, c233, c234, c235, c236, c237, c238, c239, c240, c241, c242, c243, c244, c245, c246, c247, c248, c249, c250, c251, c252, c253, c254, c255, c256, c257, c258, c259, c260, c261, c262, c263, c264, c265, c266, c267, c268, c269, c270, c271, c272, c273, c274, c275, c276, c277, c278, c279, c280, c281, c282, c283, c284, c285, c286, c287, c288, c289, c290, c291, c292, c293, c294, c295, c296, c297, c298, c299], []⟩ w := by
  have HEX := PLift.up hexit; clear hexit
  dsimp only
  conv => arg 2; whnf
  subst h8
  have HKB := Lib.hid hk; have HWB := Lib.hid hw; have HV := Lib.hid hv; have HBW := Lib.hid hB
  clear hk hw hv
  go_loopw [16, 146] (fun v i wr => ∃ (i' : Nat) (A : Option Addr) (c : Nat), i' ≤ 64 ∧ i = .int .i64 i' ∧ v = .slice A 8 c ∧ Hid (wr.ownsRow B 90 1 (.slice A 8 c) 8 ((roundsN p sj i').list.map uv)) ∧ Hid (Below B w wr)) (fun _ i _ => 64 - (intOf i).toNat)
  case atStart => exact ⟨0, A0, cv0, Nat.zero_le _, rfl, rfl, HV.out, Below.refl _ _⟩
  case round =>
    obtain ⟨i, A12, c12, hi, rfl, rfl, HO12, HB12⟩ := hrel
    by_cases hi64 : i < 64
    · obtain ⟨gv, cap12, hv, hgv0, hgv1⟩ := HO12.out.form (by decide)
      have e1 : A12 = some ⟨gv, 0, none⟩ := by injection hv
      subst e1
      clear hv
      have ck : wr.cell? ⟨gk, i, none⟩ = some (uv (shaK.getD i 0)) := by
        rw [HB12.out.cell (p := ⟨gk, i, none⟩) hgk, HKB.out.cell i, kCells_get i hi64]
      have cw : wr.cell? ⟨gw, i, none⟩ = some (uv ((wordsN p 64).getD i 0)) := by
        obtain ⟨x, hx⟩ : ∃ x, (wordsN p 64)[i]? = some x := ⟨_, List.getElem?_eq_getElem (by rw [wordsN_length]; exact hi64)⟩
        rw [HB12.out.cell (p := ⟨gw, i, none⟩) hgw, HWB.out.cell i, wCells_get _ _ _ hx, List.getD_eq_getElem?_getD, hx]; rfl
      have hnx : roundsN p sj (i + 1) = (roundsN p sj i).turn (shaK.getD i 0) ((wordsN p 64).getD i 0) := rfl
      have HNX := Lib.hid hnx; clear hnx
      have hc : ∀ q u, ((roundsN p sj i).list.map uv)[q]? = some u → wr.cell? ⟨gv, q, none⟩ = some u := fun q u hu => by
        have := HO12.out.cells (g := gv) rfl q u hu
        rwa [add_flat, Nat.zero_add] at this
      generalize shaK.getD i 0 = k at *
      generalize (wordsN p 64).getD i 0 = x at *
      generalize roundsN p sj i = s at *
      obtain ⟨a, b', c', d, e, f, g, hh⟩ := s
      have c0 := hc 0 (uv a) rfl
      have c1 := hc 1 (uv b') rfl
      have c2 := hc 2 (uv c') rfl
      have c3 := hc 3 (uv d) rfl
      have c4 := hc 4 (uv e) rfl
      have c5 := hc 5 (uv f) rfl
      have c6 := hc 6 (uv g) rfl
      have c7 := hc 7 (uv hh) rfl
      unfold uv at c0 c1 c2 c3 c4 c5 c6 c7 ck cw
      clear hc
      go_wp2_with fail
      have hT : St.turn ⟨a, b', c', d, e, f, g, hh⟩ k x = ⟨hh + (rotr e 6 ^^^ rotr e 11 ^^^ rotr e 25) + ((e &&& f) ^^^ (~~~e &&& g)) + k + x + (rotr a 2 ^^^ rotr a 13 ^^^ rotr a 22) + ((a &&& b') ^^^ (a &&& c') ^^^ (b' &&& c')), a, b', c', d + (hh + (rotr e 6 ^^^ rotr e 11 ^^^ rotr e 25) + ((e &&& f) ^^^ (~~~e &&& g)) + k + x), e, f, g⟩ := rfl
      rw [hT] at HNX
      clear hT
      go_quiet ((exact quietLN (turn_int _ _ _ (by decide))))
      rw [S1_eq]
      generalize rotr e 6 ^^^ rotr e 11 ^^^ rotr e 25 = s1 at HNX ⊢
      go_wp2_with fail
      go_quiet (fail)
      go_wp2_with fail
      rw [ch_eq]
      generalize (e &&& f) ^^^ (~~~e &&& g) = ch at HNX ⊢
      go_quiet (fail)
      rw [add4 hh s1 ch k, add2 (hh + s1 + ch + k) x]
      generalize hh + s1 + ch + k + x = t1 at HNX ⊢
      go_wp2_with fail
      go_quiet ((exact quietAN (turn_int _ _ _ (by decide))))
      rw [S0_eq]
      generalize rotr a 2 ^^^ rotr a 13 ^^^ rotr a 22 = sg0 at HNX ⊢
      go_wp2_with fail
      go_quiet (fail)
      rw [maj_eq]
      generalize (a &&& b') ^^^ (a &&& c') ^^^ (b' &&& c') = mj at HNX ⊢
      go_wp2_with fail
      refine still_tail 28 (by kernel_rfl) (by kernel_rfl) ?_
      simp only [List.take_succ_cons, List.take_zero, List.drop_succ_cons, List.drop_zero]
      iterate 28 still_step
      refine wpStill_nil ?_
      go_wp2
      rw [add3 t1 sg0 mj, add2 d t1]
      go_roundw
      case measure => simp [intOf]; omega
      case rel =>
        refine ⟨i + 1, some ⟨wr.heap.size, 0, none⟩, 8, by omega, by go_num, rfl, ?_, ?_⟩
        · rw [HNX.out]
          exact World.ownsRow_lit (wr.drewN _) #[.int .u32 ((t1 + sg0 + mj).toNat : Int), .int .u32 (a.toNat : Int), .int .u32 (b'.toNat : Int), .int .u32 (c'.toNat : Int), .int .u32 ((d + t1).toNat : Int), .int .u32 (e.toNat : Int), .int .u32 (f.toNat : Int), .int .u32 (g.toNat : Int)] 8 (Nat.le_trans HBW.out HB12.out.size) (by decide) rfl
        · exact (below_drewN HB12.out _).alloc (Nat.le_trans HBW.out HB12.out.size) _
    · obtain rfl : i = 64 := by omega
      go_wp2
      exact HEX.down wr A12 c12 ⟨HO12, HB12⟩ _ _ _ _ _ _ _ _ _ _ _ _ _ _ _ _ _ _ _ _ _ _ _ _ _ _ _ _ _ _ _ _ _ _ _ _ _ _ _ _ _ _ _ _ _ _ _ _ _ _ _ _ _ _ _ _ _ _ _ _ _ _ _ _ _ _ _ _ _ _ _ _ _ _ _ _ _ _ _ _ _ _ _ _ _ _ _ _ _ _ _ _ _ _ _ _ _ _ _ _ _ _ _ _ _ _ _ _ _ _ _ _ _ _ _ _ _ _ _ _ _ _ _ _ _ _ _
end Go.Proofs.YtikikddkhikfkaaDoor
