/-
  The first sixteen words of a block of the reference's SHA-256. By the session.
-/
import Derived.Test.YtikikddkhikfkaaSumB
import Derived.RegionTactic
import Derived.BigRegion
import Derived.Deep.Cut
set_option linter.all false
namespace Go.Proofs.Ytikikddkhikfkaa
open Go.RowKit

set_option maxRecDepth 100000 in
set_option maxHeartbeats 4000000 in
theorem sumL4 {c0 c1 c2 c3 c4 c5 c7 c8 c11 c12 c13 c14 c15 c16 c17 c18 c19 c20 c21 c22 c23 c24 c25 c26 c27 c28 c29 c30 c31 c32 c33 c34 c35 c36 c37 c38 c39 c40 c41 c42 c43 c44 c45 c46 c47 c48 c49 c50 c51 c52 c53 c54 c55 c56 c57 c58 c59 c60 c61 c63 c64 c65 c66 c67 c68 c69 c70 c71 c72 c73 c74 c75 c76 c77 c78 c79 c80 c81 c82 c83 c84 c85 c86 c87 c88 c89 c90 c91 c92 c93 c94 c95 c96 c97 c98 c99 c100 c101 c102 c103 c104 c105 c106 c107 c108 c109 c110 c111 c112 c113 c114 c115 c116 c117 c118 c119 c120 c121 c122 c123 c124 c125 c126 c127 c128 c129 c130 c131 c132 c133 c134 c135 c136 c137 c138 c139 c140 c141 c142 c143 c144 c145 c146 c147 c148 c149 c150 c151 c152 c153 c154 c155 c156 c157 c158 c159 c160 c161 c162 c163 c164 c165 c166 c167 c168 c169 c170 c171 c172 c173 c174 c175 c176 c177 c178 c179 c180 c181 c182 c183 c184 c185 c186 c187 c188 c189 c190 c191 c192 c193 c194 c195 c196 c197 c198 c199 c200 c201 c202 c203 c204 c205 c206 c207 c208 c209 c210 c211 c212 c213 c214 c215 c216 c217 c218 c219 c220 c221 c222 c223 c224 c225 c226 c227 c228 c229 c230 c231 c232 c233 c234 c235 c236 c237 c238 c239 c240 c241 c242 c243 c244 c245 c246 c247 c248 c249 c250 c251 c252 c253 c254 c255 c256 c257 c258 c259 c260 c261 c262 c263 c264 c265 c266 c267 c268 c269 c270 c271 c272 c273 c274 c275 c276 c277 c278 c279 c280 c281 c282 c283 c284 c285 c286 c287 c288 c289 c290 c291 c292 c293 c294 c295 c296 c297 c298 c299 : Value} (gm gw cm M B j : Nat) (p msg : List UInt8) {w : World} {Q0 : Exit → Act → World → Prop} (hM : M ≤ 5000000000) (hj : 64 * j + 64 ≤ M) (hp : p = msg.drop (64 * j)) (hgm : gm < gw) (hml : msg.length = M) (hm : Own8 w B (some ⟨gm, 0, none⟩) M cm msg) (hw : Blk w gw 99 (wCells (wordsN p 0)))
    (hexit : ∀ (w' : World) , Hid (Blk w' gw 99 (wCells (wordsN p 16))) ∧ Hid (Below gw w w') → ∀ (u11 u12 u62 u63 u64 u65 u66 u67 u68 u69 u70 u71 u72 u73 u74 u75 u76 u77 u78 u79 u80 u81 u82 u83 u84 u85 u86 : Value), Q0 (.exit 6) ⟨#[c0, c1, c2, c3, c4, c5, .slice (some ⟨gm, 0, none⟩) M cm, c7, c8, .int .i64 (64 * (j : Int)), .pointer (some ⟨gw, 0, none⟩), u11, u12, c13, c14, c15, c16, c17, c18, c19, c20, c21, c22, c23, c24, c25, c26, c27, c28, c29, c30, c31, c32, c33, c34, c35, c36, c37, c38, c39, c40, c41, c42, c43, c44, c45, c46, c47, c48, c49, c50, c51, c52, c53, c54, c55, c56, c57, c58, c59, c60, c61, u62, u63, u64, u65, u66, u67, u68, u69, u70, u71, u72, u73, u74, u75, u76, u77, u78, u79, u80, u81, u82, u83, u84, u85, u86, c87, c88, c89, c90, c91, c92, c93, c94, c95, c96, c97, c98, c99, c100, c101, c102, c103, c104, c105, c106, c107, c108, c109, c110, c111, c112, c113, c114, c115, c116, c117, c118, c119, c120, c121, c122, c123, c124, c125, c126, c127, c128, c129, c130, c131, c132, c133, c134, c135, c136, c137, c138, c139, c140, c141, c142, c143, c144, c145, c146, c147, c148, c149, c150, c151, c152, c153, c154, c155, c156, c157, c158, c159, c160, c161, c162, c163, c164, c165, c166, c167, c168, c169, c170, c171, c172, c173, c174, c175, c176, c177, c178, c179, c180, c181, c182, c183, c184, c185, c186, c187, c188, c189, c190, c191, c192, c193, c194, c195, c196, c197, c198, c199, c200, c201, c202, c203, c204, c205, c206, c207, c208, c209, c210, c211, c212, c213, c214, c215, c216, c217, c218, c219, c220, c221, c222, c223, c224, c225, c226, c227, c228, c229, c230, c231, c232, c233, c234, c235, c236, c237, c238, c239, c240, c241, c242, c243, c244, c245, c246, c247, c248, c249, c250, c251, c252, c253, c254, c255, c256, c257, c258, c259, c260, c261, c262, c263, c264, c265, c266, c267, c268, c269, c270, c271, c272, c273, c274, c275, c276, c277, c278, c279, c280, c281, c282, c283, c284, c285, c286, c287, c288, c289, c290, c291, c292, c293, c294, c295, c296, c297, c298, c299], []⟩ w') :
    Code.wp Try.prog (sumLoop 3) Q0 ⟨#[c0, c1, c2, c3, c4, c5, .slice (some ⟨gm, 0, none⟩) M cm, c7, c8, .int .i64 (64 * (j : Int)), .pointer (some ⟨gw, 0, none⟩), c11, c12, c13, c14, c15, c16, c17, c18, c19, c20, c21, c22, c23, c24, c25, c26, c27, c28, c29, c30, c31, c32, c33, c34, c35, c36, c37, c38, c39, c40, c41, c42, c43, c44, c45, c46, c47, c48, c49, c50, c51, c52, c53, c54, c55, c56, c57, c58, c59, c60, c61, .int .i64 0, c63, c64, c65, c66, c67, c68, c69, c70, c71, c72, c73, c74, c75, c76, c77, c78, c79, c80, c81, c82, c83, c84, c85, c86, c87, c88, c89, c90, c91, c92, c93, c94, c95, c96, c97, c98, c99, c100, c101, c102, c103, c104, c105, c106, c107, c108, c109, c110, c111, c112, c113, c114, c115, c116, c117, c118, c119, c120, c121, c122, c123, c124, c125, c126, c127, c128, c129, c130, c131, c132, c133, c134, c135, c136, c137, c138, c139, c140, c141, c142, c143, c144, c145, c146, c147, c148, c149, c150, c151, c152, c153, c154, c155, c156, c157, c158, c159, c160, c161, c162, c163, c164, c165, c166, c167, c168, c169, c170, c171, c172, c173, c174, c175, c176, c177, c178, c179, c180, c181, c182, c183, c184, c185, c186, c187, c188, c189, c190, c191, c192, c193, c194, c195, c196, c197, c198, c199, c200, c201, c202, c203, c204, c205, c206, c207, c208, c209, c210, c211, c212, c213, c214, c215, c216, c217, c218, c219, c220, c221, c222, c223, c224, c225, c226, c227, c228, c229, c230, c231, c232, c233, c234, c235, c236, c237, c238, c239, c240, c241, c242, c243, c244, c245, c246, c247, c248, c249, c250, c251, c252, c253, c254, c255, c256, c257, c258, c259, c260, c261, c262, c263, c264, c265, c266, c267, c268, c269, c270, c271, c272, c273, c274, c275, c276, c277, c278, c279, c280, c281, c282, c283, c284, c285, c286, c287, c288, c289, c290, c291, c292, c293, c294, c295, c296, c297, c298, c299], []⟩ w := by
  have HEX := PLift.up hexit; clear hexit
  dsimp only
  conv => arg 2; whnf
  have KW := Lib.hid hw; have KO := Lib.hid hm; have HP := Lib.hid hp; have HML := Lib.hid hml
  clear hw hm hp hml
  obtain ⟨wz, rfl⟩ : ∃ x : World, x = w := ⟨_, rfl⟩
  go_loopw [62] (fun i wr => ∃ i' : Nat, i' ≤ 16 ∧ i = .int .i64 i' ∧ Hid (Blk wr gw 99 (wCells (wordsN p i'))) ∧ Hid (Below gw wz wr)) (fun i _ => 16 - (intOf i).toNat)
  case atStart => exact ⟨0, Nat.zero_le _, rfl, KW.out, Below.refl _ _⟩
  case round =>
    obtain ⟨i, hi, rfl, HW4, HB4⟩ := hrel
    by_cases hi16 : i < 16
    · have hwz0 : Hid (wCells (wordsN p i ++ [partW p i 0]) = wCells (wordsN p i)) := wCells_zero _ (by rw [wordsN_length]; omega)
      obtain ⟨w9, rfl⟩ : ∃ x : World, x = wr := ⟨_, rfl⟩
      have hd16 : decide ((i : Int) < 16) = true := by simp; omega
      go_wp2
      go_loopw [65] (fun q wr => ∃ q' : Nat, q' ≤ 4 ∧ q = .int .i64 q' ∧ Hid (Blk wr gw 99 (wCells (wordsN p i ++ [partW p i q']))) ∧ Hid (Below gw wz wr)) (fun q _ => 4 - (intOf q).toNat)
      case atStart => exact ⟨0, Nat.zero_le _, rfl, by show Blk _ _ _ _; rw [hwz0.out]; exact HW4.out, HB4.out⟩
      case round =>
        obtain ⟨q, hq, rfl, HW5, HB5⟩ := hrel
        by_cases hq4 : q < 4
        · skip
          have hbyte : wr.cell? ⟨gm, 64 * j + 4 * i + q, none⟩ = some (.int .u8 ((p.getD (4 * i + q) 0).toNat : Int)) := by
            rw [HB5.out.cell (p := ⟨gm, _, none⟩) (by exact hgm), own8_byte KO.out _ (by have := HML.out; omega), HP.out, drop_getD, Nat.add_assoc]
          have hcell : wr.cell? ⟨gw, i, none⟩ = some (uv (partW p i q)) := by
            have := HW5.out.cell i
            rw [this]
            exact wCells_get _ _ _ (by rw [List.getElem?_append_right (by rw [wordsN_length]; exact Nat.le_refl _)]; simp [wordsN_length])
          have hf : wr.frozen? ⟨gw, i, none⟩ = false := HW5.out.free i
          have hnx : partW p i (q + 1) = partW p i q <<< 8 ||| (p.getD (4 * i + q) 0).toUInt32 := rfl
          have HNX := Lib.hid hnx; clear hnx
          have hput := fun y => HW5.out.put i (uv y)
          have hps : ∀ y, (wCells (wordsN p i ++ [partW p i q])).setIfInBounds i (uv y) = wCells (wordsN p i ++ [y]) := fun y => by
            have := wCells_set (wordsN p i) (partW p i q) y (by rw [wordsN_length]; omega)
            rw [wordsN_length] at this
            exact this
          simp only [hps] at hput
          have HPUT := Lib.hid hput; clear hput hps
          generalize partW p i q = x at *
          generalize p.getD (4 * i + q) 0 = y at *
          unfold uv at hcell
          obtain ⟨Q, hQ⟩ : ∃ Q : Nat, Q = 64 * j + 4 * i + q := ⟨_, rfl⟩
          rw [← hQ] at hbyte
          have z1 : IntKind.i64.wrap (4 * (i : Int)) = 4 * (i : Int) := by rw [IntKind.wrap_i64]; omega
          have z2 : IntKind.i64.wrap (64 * (j : Int) + 4 * (i : Int)) = 64 * (j : Int) + 4 * (i : Int) := by rw [IntKind.wrap_i64]; omega
          have z3 : IntKind.i64.wrap (64 * (j : Int) + 4 * (i : Int) + (q : Int)) = (Q : Int) := by rw [IntKind.wrap_i64]; omega
          have zQ : (Q : Int) < (M : Int) := by omega
          have zi : (i : Int) < 64 := by omega
          clear hQ
          go_wp2_with fail
          refine still_tail 17 (by kernel_rfl) (by kernel_rfl) ?_
          simp only [List.take_succ_cons, List.take_zero, List.drop_succ_cons, List.drop_zero]
          iterate 17 still_step
          refine wpStill_nil ?_
          go_wp2
          rw [word_next]
          go_roundw
          case rel => exact ⟨q + 1, by omega, by go_num, by rw [HNX.out]; exact (HPUT.out _).drew, (HB5.out.setCell (p := ⟨gw, i, none⟩) (Nat.le_refl _) _).drew⟩
          case measure => simp [intOf]; omega
        · obtain rfl : q = 4 := by omega
          have hw1 : wordsN p i ++ [partW p i 4] = wordsN p (i + 1) := by
            show _ = wordsN p i ++ [if i < 16 then wordAt p i else nextW (wordsN p i)]
            rw [if_pos hi16]; rfl
          rw [hw1] at HW5
          clear hw1
          go_wp2
          go_roundw
          case rel => exact ⟨i + 1, by omega, by go_num, HW5.out, HB5.out⟩
          case measure => simp [intOf]; omega
    · obtain rfl : i = 16 := by omega
      go_wp2
      exact HEX.down wr ⟨HW4, HB4⟩ _ _ _ _ _ _ _ _ _ _ _ _ _ _ _ _ _ _ _ _ _ _ _ _ _ _ _
end Go.Proofs.Ytikikddkhikfkaa
