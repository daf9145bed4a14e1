/-
  The last loop of the reference's SHA-256: the bytes of the state's words. By the session.
-/
import Derived.Test.YtikikddkhikfkaaSumB
import Derived.RegionTactic
import Derived.BigRegion
import Derived.Deep.Cut
set_option linter.all false
namespace Go.Proofs.Ytikikddkhikfkaa
open Go.RowKit

theorem idx_hC {l : List UInt32} {q : Nat} {x : UInt32} (hx : l[q]? = some x) (h8 : l.length = 8) (W : World) : (Instr.index 97 (.agg (hC l)) (.int .i64 q)).run Try.prog W = .ok (.int .u32 (x.toNat : Int)) W := by
  have hg := hC_get l q x hx
  have hq := (List.getElem?_eq_some_iff.1 hx).1
  have hn : (0 : Int) ≤ q ∧ (q : Int) < 8 := by omega
  simp [Instr.index, run_underlying Try.underlying97, asIntOf, hn, hg, uv, go_sem]
  intro h; omega
theorem byte_shr (x : UInt32) (k : Nat) : (x.toNat : Int) / 2 ^ k % 256 = ((UInt8.ofNat (x.toNat / 2 ^ k)).toNat : Int) := by
  rw [← byte_of]; simp
theorem rd_out4 (W : World) (x : UInt32) (t : TypeId) : Rd (W.alloc (.cells #[.int .u8 ((x.toNat : Int) / (16777216 : Int) % (256 : Int)), .int .u8 ((x.toNat : Int) / (65536 : Int) % (256 : Int)), .int .u8 ((x.toNat : Int) / (256 : Int) % (256 : Int)), .int .u8 ((x.toNat : Int) % (256 : Int))] t)) (W.heap.size + 1) 1 (some ⟨W.heap.size, 0, none⟩) 4 (bc (out4 x)) := by
  have h := Rd.new W #[.int .u8 ((x.toNat : Int) / (16777216 : Int) % (256 : Int)), .int .u8 ((x.toNat : Int) / (65536 : Int) % (256 : Int)), .int .u8 ((x.toNat : Int) / (256 : Int) % (256 : Int)), .int .u8 ((x.toNat : Int) % (256 : Int))] t 1 4 W.heap.size rfl rfl
  have e0 : (x.toNat : Int) / (16777216 : Int) % (256 : Int) = _ := byte_shr x 24
  have e1 : (x.toNat : Int) / (65536 : Int) % (256 : Int) = _ := byte_shr x 16
  have e2 : (x.toNat : Int) / (256 : Int) % (256 : Int) = _ := byte_shr x 8
  have e3 : (x.toNat : Int) % (256 : Int) = _ := byte_of x.toNat
  have e : (#[Value.int .u8 ((x.toNat : Int) / (16777216 : Int) % (256 : Int)), .int .u8 ((x.toNat : Int) / (65536 : Int) % (256 : Int)), .int .u8 ((x.toNat : Int) / (256 : Int) % (256 : Int)), .int .u8 ((x.toNat : Int) % (256 : Int))]).toList = bc (out4 x) := by
    rw [e0, e1, e2, e3]; rfl
  rw [e] at h
  exact h
theorem out4_take {l : List UInt32} {q : Nat} {x : UInt32} (hx : l[q]? = some x) : (l.take (q + 1)).flatMap out4 = (l.take q).flatMap out4 ++ out4 x := by
  have hq := List.getElem?_eq_some_iff.1 hx
  rw [List.take_succ_eq_append_getElem hq.1, hq.2]
  simp
set_option maxRecDepth 100000 in
set_option maxHeartbeats 4000000 in
theorem sumL9 {c0 c1 c2 c3 c4 c5 c6 c7 c8 c9 c10 c11 c12 c13 c14 c15 c16 c17 c18 c19 c20 c21 c22 c23 c25 c26 c27 c28 c29 c30 c31 c32 c33 c34 c35 c36 c37 c38 c39 c40 c41 c42 c43 c44 c45 c46 c47 c48 c49 c50 c51 c52 c53 c54 c55 c56 c57 c58 c59 c60 c61 c62 c63 c64 c65 c66 c67 c68 c69 c70 c71 c72 c73 c74 c75 c76 c77 c78 c79 c80 c81 c82 c83 c84 c85 c86 c87 c88 c89 c90 c91 c92 c93 c94 c95 c96 c97 c98 c99 c100 c101 c102 c103 c104 c105 c106 c107 c108 c109 c110 c111 c112 c113 c114 c115 c116 c117 c118 c119 c120 c121 c122 c123 c124 c125 c126 c127 c128 c129 c130 c131 c132 c133 c134 c135 c136 c137 c138 c139 c140 c141 c142 c143 c144 c145 c146 c147 c148 c149 c150 c151 c152 c153 c154 c155 c156 c157 c158 c159 c160 c161 c162 c163 c164 c165 c166 c167 c168 c169 c170 c171 c172 c173 c174 c175 c176 c177 c178 c179 c180 c181 c182 c183 c184 c185 c186 c187 c188 c189 c190 c191 c192 c193 c194 c195 c196 c197 c198 c199 c200 c201 c202 c203 c204 c205 c206 c207 c208 c209 c210 c211 c212 c213 c214 c215 c216 c217 c218 c219 c220 c221 c222 c223 c224 c225 c226 c227 c228 c229 c230 c231 c232 c233 c234 c235 c236 c237 c238 c239 c240 c241 c242 c243 c244 c245 c246 c247 c248 c249 c250 c251 c252 c253 c254 c255 c256 c257 c258 c259 c260 c261 c262 c263 c264 c265 c266 c267 c268 c269 c270 c271 c272 c273 c274 c275 c276 c277 c278 c279 c282 c283 c284 c285 c286 c287 c288 c289 c290 c291 c292 c293 c294 c295 c296 c297 c298 c299 : Value} (l : List UInt32) {w : World} {Q0 : Exit → Act → World → Prop} (h8 : l.length = 8)
    (hexit : ∀ (w' : World) (A : Option Addr) (c : Nat), Hid (Own8 w' w.heap.size A 32 c (l.flatMap out4)) ∧ Hid (Below w.heap.size w w') → ∀ (u26 u281 u282 u283 u284 u285 u286 u287 u288 u289 u290 u291 u292 u293 u294 u295 u296 u297 u298 : Value), Q0 (.exit 16) ⟨#[c0, c1, c2, c3, c4, c5, c6, c7, c8, c9, c10, c11, c12, c13, c14, c15, c16, c17, c18, c19, c20, c21, c22, c23, .slice A 32 c, c25, u26, c27, c28, c29, c30, c31, c32, c33, c34, c35, c36, c37, c38, c39, c40, c41, c42, c43, c44, c45, c46, c47, c48, c49, c50, c51, c52, c53, c54, c55, c56, c57, c58, c59, c60, c61, c62, c63, c64, c65, c66, c67, c68, c69, c70, c71, c72, c73, c74, c75, c76, c77, c78, c79, c80, c81, c82, c83, c84, c85, c86, c87, c88, c89, c90, c91, c92, c93, c94, c95, c96, c97, c98, c99, c100, c101, c102, c103, c104, c105, c106, c107, c108, c109, c110, c111, c112, c113, c114, c115, c116, c117, c118, c119, c120, c121, c122, c123, c124, c125, c126, c127, c128, c129, c130, c131, c132, c133, c134, c135, c136, c137, c138, c139, c140, c141, c142, c143, c144, c145, c146, c147, c148, c149, c150, c151, c152, c153, c154, c155, c156, c157, c158, c159, c160, c161, c162, c163, c164, c165, c166, c167, c168, c169, c170, c171, c172, c173, c174, c175, c176, c177, c178, c179, c180, c181, c182, c183, c184, c185, c186, c187, c188, c189, c190, c191, c192, c193, c194, c195, c196, c197, c198, c199, c200, c201, c202, c203, c204, c205, c206, c207, c208, c209, c210, c211, c212, c213, c214, c215, c216, c217, c218, c219, c220, c221, c222, c223, c224, c225, c226, c227, c228, c229, c230, c231, c232, c233, c234, c235, c236, c237, c238, c239, c240, c241, c242, c243, c244, c245, c246, c247, c248, c249, c250, c251, c252, c253, c254, c255, c256, c257, c258, c259, c260, c261, c262, c263, c264, c265, c266, c267, c268, c269, c270, c271, c272, c273, c274, c275, c276, c277, c278, c279, .agg (hC l), u281, u282, u283, u284, u285, u286, u287, u288, u289, u290, u291, u292, u293, u294, u295, u296, u297, u298, c299], []⟩ w') :
    Code.wp Try.prog (sumLoop 8) Q0 ⟨#[c0, c1, c2, c3, c4, c5, c6, c7, c8, c9, c10, c11, c12, c13, c14, c15, c16, c17, c18, c19, c20, c21, c22, c23, .slice none 0 0, c25, c26, c27, c28, c29, c30, c31, c32, c33, c34, c35, c36, c37, c38, c39, c40, c41, c42, c43, c44, c45, c46, c47, c48, c49, c50, c51, c52, c53, c54, c55, c56, c57, c58, c59, c60, c61, c62, c63, c64, c65, c66, c67, c68, c69, c70, c71, c72, c73, c74, c75, c76, c77, c78, c79, c80, c81, c82, c83, c84, c85, c86, c87, c88, c89, c90, c91, c92, c93, c94, c95, c96, c97, c98, c99, c100, c101, c102, c103, c104, c105, c106, c107, c108, c109, c110, c111, c112, c113, c114, c115, c116, c117, c118, c119, c120, c121, c122, c123, c124, c125, c126, c127, c128, c129, c130, c131, c132, c133, c134, c135, c136, c137, c138, c139, c140, c141, c142, c143, c144, c145, c146, c147, c148, c149, c150, c151, c152, c153, c154, c155, c156, c157, c158, c159, c160, c161, c162, c163, c164, c165, c166, c167, c168, c169, c170, c171, c172, c173, c174, c175, c176, c177, c178, c179, c180, c181, c182, c183, c184, c185, c186, c187, c188, c189, c190, c191, c192, c193, c194, c195, c196, c197, c198, c199, c200, c201, c202, c203, c204, c205, c206, c207, c208, c209, c210, c211, c212, c213, c214, c215, c216, c217, c218, c219, c220, c221, c222, c223, c224, c225, c226, c227, c228, c229, c230, c231, c232, c233, c234, c235, c236, c237, c238, c239, c240, c241, c242, c243, c244, c245, c246, c247, c248, c249, c250, c251, c252, c253, c254, c255, c256, c257, c258, c259, c260, c261, c262, c263, c264, c265, c266, c267, c268, c269, c270, c271, c272, c273, c274, c275, c276, c277, c278, c279, .agg (hC l), .int .i64 0, c282, c283, c284, c285, c286, c287, c288, c289, c290, c291, c292, c293, c294, c295, c296, c297, c298, c299], []⟩ w := by
  have HEX := PLift.up hexit; clear hexit
  dsimp only
  conv => arg 2; whnf
  go_loopw [24, 281] (fun v i wr => ∃ (q : Nat) (A : Option Addr) (c : Nat), q ≤ 8 ∧ i = .int .i64 q ∧ v = .slice A (4 * q) c ∧ Hid (Own8 wr w.heap.size A (4 * q) c ((l.take q).flatMap out4)) ∧ Hid (Below w.heap.size w wr)) (fun _ i _ => 8 - (intOf i).toNat)
  case atStart => exact ⟨0, none, 0, Nat.zero_le _, rfl, rfl, Own8.nil _ _, Below.refl _ _⟩
  case round =>
    obtain ⟨q, A, c, hq, rfl, rfl, HO, HB⟩ := hrel
    have hz := HB.out.size
    by_cases hlt : q < 8
    · obtain ⟨x, hx⟩ : ∃ x, l[q]? = some x := ⟨_, List.getElem?_eq_getElem (by omega)⟩
      have hix := fun W => idx_hC hx h8 W
      have HT := Lib.hid (out4_take hx)
      have HH8 := Lib.hid h8; have HHX := Lib.hid hx
      clear h8 hx
      go_wp2_with (at_builtin; refine app8w _ rfl (.tmp 284) (.tmp 296) rfl w.heap.size (4 * q) c A _ rfl (World.ownsRow.alloc HO.out _) (wr.heap.size + 1) 4 4 (some ⟨wr.heap.size, 0, none⟩) (out4 x) rfl (rd_out4 wr x _) (by omega) (by simp; omega) ?_; intro A7 c7 w7 ho7 hg7)
      go_roundw
      case rel => exact ⟨q + 1, A7, c7, by omega, by go_num, rfl, by rw [HT.out]; exact ho7, (HB.out.alloc hz _).grown hg7.1 (by simp; omega) (fun k hk => (HO.out.at_ k hk).1)⟩
      case measure => simp [intOf]; omega
    · obtain rfl : q = 8 := by omega
      go_wp2
      have ho := HO.out
      rw [List.take_of_length_le (by omega)] at ho
      exact HEX.down wr A c ⟨ho, HB.out⟩ _ _ _ _ _ _ _ _ _ _ _ _ _ _ _ _ _ _ _
end Go.Proofs.Ytikikddkhikfkaa
