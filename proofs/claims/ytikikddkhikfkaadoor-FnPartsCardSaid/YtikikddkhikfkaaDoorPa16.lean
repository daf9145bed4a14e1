/-
  The words of a block of the reference's SHA-256 behind the first sixteen. By the session.
-/
import Derived.Test.YtikikddkhikfkaaDoorPa4
import Derived.RegionTactic
import Derived.BigRegion
import Derived.Deep.Cut
set_option linter.all false
namespace Go.Proofs.YtikikddkhikfkaaDoor
open Go.RowKit

set_option maxRecDepth 100000 in
set_option maxHeartbeats 4000000 in
theorem sumL6 {c0 c1 c2 c3 c4 c5 c6 c7 c9 c11 c12 c14 c15 c16 c17 c18 c19 c20 c21 c22 c23 c24 c25 c26 c27 c28 c29 c30 c31 c32 c33 c34 c35 c36 c37 c38 c39 c40 c41 c42 c43 c44 c45 c46 c47 c48 c49 c50 c51 c52 c53 c54 c55 c56 c57 c58 c59 c60 c61 c62 c63 c64 c65 c66 c67 c68 c69 c70 c71 c72 c73 c74 c75 c76 c77 c78 c79 c80 c81 c82 c83 c84 c85 c86 c87 c88 c89 c90 c91 c92 c93 c94 c95 c96 c97 c98 c99 c100 c101 c102 c103 c104 c105 c106 c107 c108 c109 c110 c111 c112 c113 c114 c115 c116 c117 c118 c119 c120 c121 c122 c123 c124 c125 c126 c127 c128 c129 c130 c131 c132 c133 c134 c135 c136 c137 c138 c139 c140 c141 c142 c143 c144 c145 c146 c147 c148 c149 c150 c151 c152 c153 c154 c155 c156 c157 c158 c159 c160 c161 c162 c163 c164 c165 c166 c167 c168 c169 c170 c171 c172 c173 c174 c175 c176 c177 c178 c179 c180 c181 c182 c183 c184 c185 c186 c187 c188 c189 c190 c191 c192 c193 c194 c195 c196 c197 c198 c199 c200 c201 c202 c203 c204 c205 c206 c207 c208 c209 c210 c211 c212 c213 c214 c215 c216 c217 c218 c219 c220 c221 c222 c223 c224 c225 c226 c227 c228 c229 c230 c231 c232 c233 c234 c235 c236 c237 c238 c239 c240 c241 c242 c243 c244 c245 c246 c247 c248 c249 c250 c251 c252 c253 c254 c255 c256 c257 c258 c259 c260 c261 c262 c263 c264 c265 c266 c267 c268 c269 c270 c271 c272 c273 c274 c275 c276 c277 c278 c279 c280 c281 c282 c283 c284 c285 c286 c287 c288 c289 c290 c291 c292 c293 c294 c295 c296 c297 c298 c299 : Value} {v8 : Value} (gw : Nat) (p : List UInt8) {w : World} {Q0 : Exit → Act → World → Prop} (h8 : v8 = .func (.func 91) #[] #[]) (hw : Blk w gw 175 (wCells (wordsN p 16)))
    (hexit : ∀ (w' : World) , Hid (Blk w' gw 175 (wCells (wordsN p 64))) ∧ Hid (Below gw w w') → ∀ (u13 u14 u15 u87 u88 u89 u90 u91 u92 u93 u94 u95 u96 u97 u98 u99 u100 u101 u102 u103 u104 u105 u106 u107 u108 u109 u110 u111 u112 u113 u114 u115 u116 u117 u118 u119 u120 u121 u122 u123 u124 u125 u126 u127 u128 u129 u130 u131 u132 u133 u134 u135 u136 u137 u138 u139 u140 u141 u142 u143 : Value), Q0 (.exit 10) ⟨#[c0, c1, c2, c3, c4, c5, c6, c7, v8, c9, .pointer (some ⟨gw, 0, none⟩), c11, c12, u13, u14, u15, c16, c17, c18, c19, c20, c21, c22, c23, c24, c25, c26, c27, c28, c29, c30, c31, c32, c33, c34, c35, c36, c37, c38, c39, c40, c41, c42, c43, c44, c45, c46, c47, c48, c49, c50, c51, c52, c53, c54, c55, c56, c57, c58, c59, c60, c61, c62, c63, c64, c65, c66, c67, c68, c69, c70, c71, c72, c73, c74, c75, c76, c77, c78, c79, c80, c81, c82, c83, c84, c85, c86, u87, u88, u89, u90, u91, u92, u93, u94, u95, u96, u97, u98, u99, u100, u101, u102, u103, u104, u105, u106, u107, u108, u109, u110, u111, u112, u113, u114, u115, u116, u117, u118, u119, u120, u121, u122, u123, u124, u125, u126, u127, u128, u129, u130, u131, u132, u133, u134, u135, u136, u137, u138, u139, u140, u141, u142, u143, c144, c145, c146, c147, c148, c149, c150, c151, c152, c153, c154, c155, c156, c157, c158, c159, c160, c161, c162, c163, c164, c165, c166, c167, c168, c169, c170, c171, c172, c173, c174, c175, c176, c177, c178, c179, c180, c181, c182, c183, c184, c185, c186, c187, c188, c189, c190, c191, c192, c193, c194, c195, c196, c197, c198, c199, c200, c201, c202, c203, c204, c205, c206, c207, c208, c209, c210, c211, c212, c213, c214, c215, c216, c217, c218, c219, c220, c221, c222, c223, c224, c225, c226, c227, c228, c229, c230, c231, c232, c233, c234, c235, c236, c237, c238, c239, c240, c241, c242, c243, c244, c245, c246, c247, c248, c249, c250, c251, c252, c253, c254, c255, c256, c257, c258, c259, c260, c261, c262, c263, c264, c265, c266, c267, c268, c269, c270, c271, c272, c273, c274, c275, c276, c277, c278, c279, c280, c281, c282, c283, c284, c285, c286, c287, c288, c289, c290, c291, c292, c293, c294, c295, c296, c297, c298, c299], []⟩ w') :
    Code.wp Tryd.prog (sumLoop 5) Q0 ⟨#[c0, c1, c2, c3, c4, c5, c6, c7, v8, c9, .pointer (some ⟨gw, 0, none⟩), c11, c12, .int .i64 16, c14, c15, c16, c17, c18, c19, c20, c21, c22, c23, c24, c25, c26, c27, c28, c29, c30, c31, c32, c33, c34, c35, c36, c37, c38, c39, c40, c41, c42, c43, c44, c45, c46, c47, c48, c49, c50, c51, c52, c53, c54, c55, c56, c57, c58, c59, c60, c61, c62, c63, c64, c65, c66, c67, c68, c69, c70, c71, c72, c73, c74, c75, c76, c77, c78, c79, c80, c81, c82, c83, c84, c85, c86, c87, c88, c89, c90, c91, c92, c93, c94, c95, c96, c97, c98, c99, c100, c101, c102, c103, c104, c105, c106, c107, c108, c109, c110, c111, c112, c113, c114, c115, c116, c117, c118, c119, c120, c121, c122, c123, c124, c125, c126, c127, c128, c129, c130, c131, c132, c133, c134, c135, c136, c137, c138, c139, c140, c141, c142, c143, c144, c145, c146, c147, c148, c149, c150, c151, c152, c153, c154, c155, c156, c157, c158, c159, c160, c161, c162, c163, c164, c165, c166, c167, c168, c169, c170, c171, c172, c173, c174, c175, c176, c177, c178, c179, c180, c181, c182, c183, c184, c185, c186, c187, c188, c189, c190, c191, c192, c193, c194, c195, c196, c197, c198, c199, c200, c201, c202, c203, c204, c205, c206, c207, c208, c209, c210, c211, c212, c213, c214, c215, c216, c217, c218, c219, c220, c221, c222, c223, c224, c225, c226, c227, c228, c229, c230, c231, c232, c233, c234, c235, c236, c237, c238, c239, c240, c241, c242, c243, c244, c245, c246, c247, c248, c249, c250, c251, c252, c253, c254, c255, c256, c257, c258, c259, c260, c261, c262, c263, c264, c265, c266, c267, c268, c269, c270, c271, c272, c273, c274, c275, c276, c277, c278, c279, c280, c281, c282, c283, c284, c285, c286, c287, c288, c289, c290, c291, c292, c293, c294, c295, c296, c297, c298, c299], []⟩ w := by
  have HEX := PLift.up hexit; clear hexit
  dsimp only
  conv => arg 2; whnf
  subst h8
  have HWB := Lib.hid hw; clear hw
  go_loopw [13] (fun i wr => ∃ i' : Nat, (16 ≤ i' ∧ i' ≤ 64) ∧ i = .int .i64 i' ∧ Hid (Blk wr gw 175 (wCells (wordsN p i'))) ∧ Hid (Below gw w wr)) (fun i _ => 64 - (intOf i).toNat)
  case atStart => exact ⟨16, ⟨by omega, by omega⟩, rfl, HWB.out, Below.refl _ _⟩
  case round =>
    obtain ⟨i, ⟨hi16, hi⟩, rfl, HW6, HB6⟩ := hrel
    by_cases hi64 : i < 64
    · skip
      have hcell : ∀ d, d < i → wr.cell? ⟨gw, d, none⟩ = some (uv ((wordsN p i).getD d 0)) := fun d hd => by
        obtain ⟨x, hx⟩ : ∃ x, (wordsN p i)[d]? = some x := ⟨_, List.getElem?_eq_getElem (by rw [wordsN_length]; omega)⟩
        rw [HW6.out.cell d, wCells_get _ _ _ hx, List.getD_eq_getElem?_getD, hx]; rfl
      have c1 := hcell (i - 15) (by omega)
      have c2 := hcell (i - 2) (by omega)
      have c3 := hcell (i - 16) (by omega)
      have c4 := hcell (i - 7) (by omega)
      have hwi : wr.cell? ⟨gw, i, none⟩ = some (uv 0) := by
        rw [HW6.out.cell i, ← wCells_zero _ (by rw [wordsN_length]; omega)]
        exact wCells_get _ _ _ (by rw [List.getElem?_append_right (by rw [wordsN_length]; exact Nat.le_refl _)]; simp [wordsN_length])
      have hf : wr.frozen? ⟨gw, i, none⟩ = false := HW6.out.free i
      have hnx : wordsN p (i + 1) = wordsN p i ++ [(wordsN p i).getD (i - 16) 0 + (rotr ((wordsN p i).getD (i - 15) 0) 7 ^^^ rotr ((wordsN p i).getD (i - 15) 0) 18 ^^^ (wordsN p i).getD (i - 15) 0 >>> 3) + (wordsN p i).getD (i - 7) 0 + (rotr ((wordsN p i).getD (i - 2) 0) 17 ^^^ rotr ((wordsN p i).getD (i - 2) 0) 19 ^^^ (wordsN p i).getD (i - 2) 0 >>> 10)] := by
        show wordsN p i ++ [if i < 16 then wordAt p i else nextW (wordsN p i)] = _
        rw [if_neg (by omega)]
        unfold nextW
        rw [wordsN_length]
      have hput : ∀ (W : World), Blk W gw 175 (wCells (wordsN p i)) → ∀ y, Blk (W.setCell ⟨gw, i, none⟩ (uv y)) gw 175 (wCells (wordsN p i ++ [y])) := fun W h1 y => by
        rw [← wCells_zero _ (by rw [wordsN_length]; omega)] at h1
        have h2 := h1.put i (uv y)
        have h3 := wCells_set (wordsN p i) 0 y (by rw [wordsN_length]; omega)
        rw [wordsN_length] at h3
        rw [h3] at h2
        exact h2
      have HPUT := Lib.hid hput; have HNX := Lib.hid hnx
      clear hput hnx hcell
      generalize (wordsN p i).getD (i - 15) 0 = x15 at *
      generalize (wordsN p i).getD (i - 2) 0 = x2 at *
      generalize (wordsN p i).getD (i - 16) 0 = x16 at *
      generalize (wordsN p i).getD (i - 7) 0 = x7 at *
      obtain ⟨d15, hd15⟩ : ∃ d, d = i - 15 := ⟨_, rfl⟩
      obtain ⟨d2, hd2⟩ : ∃ d, d = i - 2 := ⟨_, rfl⟩
      obtain ⟨d16, hd16⟩ : ∃ d, d = i - 16 := ⟨_, rfl⟩
      obtain ⟨d7, hd7⟩ : ∃ d, d = i - 7 := ⟨_, rfl⟩
      rw [← hd15] at c1; rw [← hd2] at c2; rw [← hd16] at c3; rw [← hd7] at c4
      have v15 : IntKind.i64.wrap ((i : Int) - 15) = (d15 : Int) := by rw [IntKind.wrap_i64]; omega
      have v2 : IntKind.i64.wrap ((i : Int) - 2) = (d2 : Int) := by rw [IntKind.wrap_i64]; omega
      have u15 : (d15 : Int) < 64 := by omega
      have u2 : (d2 : Int) < 64 := by omega
      have v16 : (i : Int) - 16 = (d16 : Int) := by omega
      have v7 : (i : Int) - 7 = (d7 : Int) := by omega
      have u16 : (d16 : Int) < 64 := by omega
      have u7 : (d7 : Int) < 64 := by omega
      have z16 : IntKind.i64.wrap (d16 : Int) = (d16 : Int) := by rw [IntKind.wrap_i64]; omega
      have z7 : IntKind.i64.wrap (d7 : Int) = (d7 : Int) := by rw [IntKind.wrap_i64]; omega
      have HV := Lib.hid (And.intro v16 v7)
      clear hd15 hd2 hd16 hd7 v16 v7
      unfold uv at c1 c2 c3 c4 hwi
      go_wp2_with fail
      go_quiet ((exact quietLN (turn_int _ _ _ (by decide))))
      go_wp2_with fail
      go_quiet ((exact quietAN (turn_int _ _ _ (by decide))))
      rw [s0_eq, s1_eq]
      obtain ⟨v16, v7⟩ := HV.out
      generalize rotr x15 7 ^^^ rotr x15 18 ^^^ x15 >>> 3 = y15 at HNX ⊢
      generalize rotr x2 17 ^^^ rotr x2 19 ^^^ x2 >>> 10 = y2 at HNX ⊢
      go_wp2_with fail
      refine still_tail 15 (by kernel_rfl) (by kernel_rfl) ?_
      simp only [List.take_succ_cons, List.take_zero, List.drop_succ_cons, List.drop_zero]
      iterate 15 still_step
      refine wpStill_nil ?_
      go_wp2
      rw [add4]
      go_roundw
      case measure => simp [intOf]; omega
      case rel =>
        refine ⟨i + 1, ⟨by omega, by omega⟩, by go_num, ?_, ?_⟩
        · rw [HNX.out]; exact HPUT.out (wr.drewN _) (HW6.out.drewN _) (x16 + y15 + x7 + y2)
        · exact (below_drewN HB6.out _).setCell (p := ⟨gw, i, none⟩) (Nat.le_refl _) _
    · obtain rfl : i = 64 := by omega
      go_wp2
      exact HEX.down wr ⟨HW6, HB6⟩ _ _ _ _ _ _ _ _ _ _ _ _ _ _ _ _ _ _ _ _ _ _ _ _ _ _ _ _ _ _ _ _ _ _ _ _ _ _ _ _ _ _ _ _ _ _ _ _ _ _ _ _ _ _ _ _ _ _ _ _
end Go.Proofs.YtikikddkhikfkaaDoor
