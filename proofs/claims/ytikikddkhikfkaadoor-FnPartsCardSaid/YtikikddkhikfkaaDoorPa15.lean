/-
  The first sixteen words of a block of the reference's SHA-256. By the session. The last loop of a block of the reference's SHA-256: the state's words are summed. By the session. The last loop of the reference's SHA-256: the bytes of the state's words. By the session.
-/
import Derived.Test.YtikikddkhikfkaaDoorPa4
import Derived.RegionTactic
import Derived.BigRegion
import Derived.Deep.Cut
set_option linter.all false
namespace Go.Proofs.YtikikddkhikfkaaDoor
open Go.RowKit

set_option maxRecDepth 100000 in
set_option maxHeartbeats 4000000 in
theorem sumL4 {c0 c1 c2 c3 c4 c5 c7 c8 c11 c12 c13 c14 c15 c16 c17 c18 c19 c20 c21 c22 c23 c24 c25 c26 c27 c28 c29 c30 c31 c32 c33 c34 c35 c36 c37 c38 c39 c40 c41 c42 c43 c44 c45 c46 c47 c48 c49 c50 c51 c52 c53 c54 c55 c56 c57 c58 c59 c60 c61 c63 c64 c65 c66 c67 c68 c69 c70 c71 c72 c73 c74 c75 c76 c77 c78 c79 c80 c81 c82 c83 c84 c85 c86 c87 c88 c89 c90 c91 c92 c93 c94 c95 c96 c97 c98 c99 c100 c101 c102 c103 c104 c105 c106 c107 c108 c109 c110 c111 c112 c113 c114 c115 c116 c117 c118 c119 c120 c121 c122 c123 c124 c125 c126 c127 c128 c129 c130 c131 c132 c133 c134 c135 c136 c137 c138 c139 c140 c141 c142 c143 c144 c145 c146 c147 c148 c149 c150 c151 c152 c153 c154 c155 c156 c157 c158 c159 c160 c161 c162 c163 c164 c165 c166 c167 c168 c169 c170 c171 c172 c173 c174 c175 c176 c177 c178 c179 c180 c181 c182 c183 c184 c185 c186 c187 c188 c189 c190 c191 c192 c193 c194 c195 c196 c197 c198 c199 c200 c201 c202 c203 c204 c205 c206 c207 c208 c209 c210 c211 c212 c213 c214 c215 c216 c217 c218 c219 c220 c221 c222 c223 c224 c225 c226 c227 c228 c229 c230 c231 c232 c233 c234 c235 c236 c237 c238 c239 c240 c241 c242 c243 c244 c245 c246 c247 c248 c249 c250 c251 c252 c253 c254 c255 c256 c257 c258 c259 c260 c261 c262 c263 c264 c265 c266 c267 c268 c269 c270 c271 c272 c273 c274 c275 c276 c277 c278 c279 c280 c281 c282 c283 c284 c285 c286 c287 c288 c289 c290 c291 c292 c293 c294 c295 c296 c297 c298 c299 : Value} (gm gw cm M B j : Nat) (p msg : List UInt8) {w : World} {Q0 : Exit → Act → World → Prop} (hM : M ≤ 50000000000) (hj : 64 * j + 64 ≤ M) (hp : p = msg.drop (64 * j)) (hgm : gm < gw) (hml : msg.length = M) (hm : Own8 w B (some ⟨gm, 0, none⟩) M cm msg) (hw : Blk w gw 175 (wCells (wordsN p 0)))
    (hexit : ∀ (w' : World) , Hid (Blk w' gw 175 (wCells (wordsN p 16))) ∧ Hid (Below gw w w') → ∀ (u11 u12 u62 u63 u64 u65 u66 u67 u68 u69 u70 u71 u72 u73 u74 u75 u76 u77 u78 u79 u80 u81 u82 u83 u84 u85 u86 : Value), Q0 (.exit 6) ⟨#[c0, c1, c2, c3, c4, c5, .slice (some ⟨gm, 0, none⟩) M cm, c7, c8, .int .i64 (64 * (j : Int)), .pointer (some ⟨gw, 0, none⟩), u11, u12, c13, c14, c15, c16, c17, c18, c19, c20, c21, c22, c23, c24, c25, c26, c27, c28, c29, c30, c31, c32, c33, c34, c35, c36, c37, c38, c39, c40, c41, c42, c43, c44, c45, c46, c47, c48, c49, c50, c51, c52, c53, c54, c55, c56, c57, c58, c59, c60, c61, u62, u63, u64, u65, u66, u67, u68, u69, u70, u71, u72, u73, u74, u75, u76, u77, u78, u79, u80, u81, u82, u83, u84, u85, u86, c87, c88, c89, c90, c91, c92, c93, c94, c95, c96, c97, c98, c99, c100, c101, c102, c103, c104, c105, c106, c107, c108, c109, c110, c111, c112, c113, c114, c115, c116, c117, c118, c119, c120, c121, c122, c123, c124, c125, c126, c127, c128, c129, c130, c131, c132, c133, c134, c135, c136, c137, c138, c139, c140, c141, c142, c143, c144, c145, c146, c147, c148, c149, c150, c151, c152, c153, c154, c155, c156, c157, c158, c159, c160, c161, c162, c163, c164, c165, c166, c167, c168, c169, c170, c171, c172, c173, c174, c175, c176, c177, c178, c179, c180, c181, c182, c183, c184, c185, c186, c187, c188, c189, c190, c191, c192, c193, c194, c195, c196, c197, c198, c199, c200, c201, c202, c203, c204, c205, c206, c207, c208, c209, c210, c211, c212, c213, c214, c215, c216, c217, c218, c219, c220, c221, c222, c223, c224, c225, c226, c227, c228, c229, c230, c231, c232, c233, c234, c235, c236, c237, c238, c239, c240, c241, c242, c243, c244, c245, c246, c247, c248, c249, c250, c251, c252, c253, c254, c255, c256, c257, c258, c259, c260, c261, c262, c263, c264, c265, c266, c267, c268, c269, c270, c271, c272, c273, c274, c275, c276, c277, c278, c279, c280, c281, c282, c283, c284, c285, c286, c287, c288, c289, c290, c291, c292, c293, c294, c295, c296, c297, c298, c299], []⟩ w') :
    Code.wp Tryd.prog (sumLoop 3) Q0 ⟨#[c0, c1, c2, c3, c4, c5, .slice (some ⟨gm, 0, none⟩) M cm, c7, c8, .int .i64 (64 * (j : Int)), .pointer (some ⟨gw, 0, none⟩), c11, c12, c13, c14, c15, c16, c17, c18, c19, c20, c21, c22, c23, c24, c25, c26, c27, c28, c29, c30, c31, c32, c33, c34, c35, c36, c37, c38, c39, c40, c41, c42, c43, c44, c45, c46, c47, c48, c49, c50, c51, c52, c53, c54, c55, c56, c57, c58, c59, c60, c61, .int .i64 0, c63, c64, c65, c66, c67, c68, c69, c70, c71, c72, c73, c74, c75, c76, c77, c78, c79, c80, c81, c82, c83, c84, c85, c86, c87, c88, c89, c90, c91, c92, c93, c94, c95, c96, c97, c98, c99, c100, c101, c102, c103, c104, c105, c106, c107, c108, c109, c110, c111, c112, c113, c114, c115, c116, c117, c118, c119, c120, c121, c122, c123, c124, c125, c126, c127, c128, c129, c130, c131, c132, c133, c134, c135, c136, c137, c138, c139, c140, c141, c142, c143, c144, c145, c146, c147, c148, c149, c150, c151, c152, c153, c154, c155, c156, c157, c158, c159, c160, c161, c162, c163, c164, c165, c166, c167, c168, c169, c170, c171, c172, c173, c174, c175, c176, c177, c178, c179, c180, c181, c182, c183, c184, c185, c186, c187, c188, c189, c190, c191, c192, c193, c194, c195, c196, c197, c198, c199, c200, c201, c202, c203, c204, c205, c206, c207, c208, c209, c210, c211, c212, c213, c214, c215, c216, c217, c218, c219, c220, c221, c222, c223, c224, c225, c226, c227, c228, c229, c230, c231, c232, c233, c234, c235, c236, c237, c238, c239, c240, c241, c242, c243, c244, c245, c246, c247, c248, c249, c250, c251, c252, c253, c254, c255, c256, c257, c258, c259, c260, c261, c262, c263, c264, c265, c266, c267, c268, c269, c270, c271, c272, c273, c274, c275, c276, c277, c278, c279, c280, c281, c282, c283, c284, c285, c286, c287, c288, c289, c290, c291, c292, c293, c294, c295, c296, c297, c298, c299], []⟩ w := by
  have HEX := PLift.up hexit; clear hexit
  dsimp only
  conv => arg 2; whnf
  have KW := Lib.hid hw; have KO := Lib.hid hm; have HP := Lib.hid hp; have HML := Lib.hid hml
  clear hw hm hp hml
  obtain ⟨wz, rfl⟩ : ∃ x : World, x = w := ⟨_, rfl⟩
  go_loopw [62] (fun i wr => ∃ i' : Nat, i' ≤ 16 ∧ i = .int .i64 i' ∧ Hid (Blk wr gw 175 (wCells (wordsN p i'))) ∧ Hid (Below gw wz wr)) (fun i _ => 16 - (intOf i).toNat)
  case atStart => exact ⟨0, Nat.zero_le _, rfl, KW.out, Below.refl _ _⟩
  case round =>
    obtain ⟨i, hi, rfl, HW4, HB4⟩ := hrel
    by_cases hi16 : i < 16
    · have hwz0 : Hid (wCells (wordsN p i ++ [partW p i 0]) = wCells (wordsN p i)) := wCells_zero _ (by rw [wordsN_length]; omega)
      obtain ⟨w9, rfl⟩ : ∃ x : World, x = wr := ⟨_, rfl⟩
      have hd16 : decide ((i : Int) < 16) = true := by simp; omega
      go_wp2
      go_loopw [65] (fun q wr => ∃ q' : Nat, q' ≤ 4 ∧ q = .int .i64 q' ∧ Hid (Blk wr gw 175 (wCells (wordsN p i ++ [partW p i q']))) ∧ Hid (Below gw wz wr)) (fun q _ => 4 - (intOf q).toNat)
      case atStart => exact ⟨0, Nat.zero_le _, rfl, by show Blk _ _ _ _; rw [hwz0.out]; exact HW4.out, HB4.out⟩
      case round =>
        obtain ⟨q, hq, rfl, HW5, HB5⟩ := hrel
        by_cases hq4 : q < 4
        · skip
          have hbyte : wr.cell? ⟨gm, 64 * j + 4 * i + q, none⟩ = some (.int .u8 ((p.getD (4 * i + q) 0).toNat : Int)) := by
            rw [HB5.out.cell (p := ⟨gm, _, none⟩) (by exact hgm), own8_byte KO.out _ (by have := HML.out; omega), HP.out, drop_getD, Nat.add_assoc]
          have hcell : wr.cell? ⟨gw, i, none⟩ = some (uv (partW p i q)) := by
            have := HW5.out.cell i
            rw [this]
            exact wCells_get _ _ _ (by rw [List.getElem?_append_right (by rw [wordsN_length]; exact Nat.le_refl _)]; simp [wordsN_length])
          have hf : wr.frozen? ⟨gw, i, none⟩ = false := HW5.out.free i
          have hnx : partW p i (q + 1) = partW p i q <<< 8 ||| (p.getD (4 * i + q) 0).toUInt32 := rfl
          have HNX := Lib.hid hnx; clear hnx
          have hput := fun y => HW5.out.put i (uv y)
          have hps : ∀ y, (wCells (wordsN p i ++ [partW p i q])).setIfInBounds i (uv y) = wCells (wordsN p i ++ [y]) := fun y => by
            have := wCells_set (wordsN p i) (partW p i q) y (by rw [wordsN_length]; omega)
            rw [wordsN_length] at this
            exact this
          simp only [hps] at hput
          have HPUT := Lib.hid hput; clear hput hps
          generalize partW p i q = x at *
          generalize p.getD (4 * i + q) 0 = y at *
          unfold uv at hcell
          obtain ⟨Q, hQ⟩ : ∃ Q : Nat, Q = 64 * j + 4 * i + q := ⟨_, rfl⟩
          rw [← hQ] at hbyte
          have z1 : IntKind.i64.wrap (4 * (i : Int)) = 4 * (i : Int) := by rw [IntKind.wrap_i64]; omega
          have z2 : IntKind.i64.wrap (64 * (j : Int) + 4 * (i : Int)) = 64 * (j : Int) + 4 * (i : Int) := by rw [IntKind.wrap_i64]; omega
          have z3 : IntKind.i64.wrap (64 * (j : Int) + 4 * (i : Int) + (q : Int)) = (Q : Int) := by rw [IntKind.wrap_i64]; omega
          have zQ : (Q : Int) < (M : Int) := by omega
          have zi : (i : Int) < 64 := by omega
          clear hQ
          go_wp2_with fail
          refine still_tail 17 (by kernel_rfl) (by kernel_rfl) ?_
          simp only [List.take_succ_cons, List.take_zero, List.drop_succ_cons, List.drop_zero]
          iterate 17 still_step
          refine wpStill_nil ?_
          go_wp2
          rw [word_next]
          go_roundw
          case rel => exact ⟨q + 1, by omega, by go_num, by rw [HNX.out]; exact (HPUT.out _).drew, (HB5.out.setCell (p := ⟨gw, i, none⟩) (Nat.le_refl _) _).drew⟩
          case measure => simp [intOf]; omega
        · obtain rfl : q = 4 := by omega
          have hw1 : wordsN p i ++ [partW p i 4] = wordsN p (i + 1) := by
            show _ = wordsN p i ++ [if i < 16 then wordAt p i else nextW (wordsN p i)]
            rw [if_pos hi16]; rfl
          rw [hw1] at HW5
          clear hw1
          go_wp2
          go_roundw
          case rel => exact ⟨i + 1, by omega, by go_num, HW5.out, HB5.out⟩
          case measure => simp [intOf]; omega
    · obtain rfl : i = 16 := by omega
      go_wp2
      exact HEX.down wr ⟨HW4, HB4⟩ _ _ _ _ _ _ _ _ _ _ _ _ _ _ _ _ _ _ _ _ _ _ _ _ _ _ _
end Go.Proofs.YtikikddkhikfkaaDoor

set_option linter.all false
namespace Go.Proofs.YtikikddkhikfkaaDoor
open Go.RowKit

/-- only block g may have changed -/
def OnlyB (g : Nat) (w w' : World) : Prop := Below g w w' ∧ ∀ k, k ≠ g → w'.heap[k]? = w.heap[k]?
theorem OnlyB.refl (g : Nat) (w : World) : OnlyB g w w := ⟨Below.refl _ _, fun _ _ => rfl⟩
theorem OnlyB.drew {g : Nat} {w w' : World} (h : OnlyB g w w') : OnlyB g w w'.drew := ⟨h.1.drew, h.2⟩
theorem OnlyB.setCell {g : Nat} {w w' : World} (h : OnlyB g w w') (o : Nat) (u : Value) : OnlyB g w (w'.setCell ⟨g, o, none⟩ u) :=
  ⟨h.1.setCell (p := ⟨g, o, none⟩) (Nat.le_refl _) _, fun k hk => (Below.heap_setCell w' ⟨g, o, none⟩ u k hk).trans (h.2 k hk)⟩
theorem OnlyB.blk {g k : Nat} {w w' : World} {t : TypeId} {cs : Array Value} (h : OnlyB g w w') (hb : Blk w k t cs) (hk : k ≠ g) : Blk w' k t cs := (h.2 k hk).trans hb
theorem OnlyB.own {g : Nat} {w w' : World} (h : OnlyB g w w') {base e size : Nat} {v : Value} {n : Nat} {xs : List Value} (ho : w.ownsRow base e size v n xs) (hv : some g ≠ v.ownBlock) : w'.ownsRow base e size v n xs := by
  refine ⟨ho.1, ?_⟩
  rcases ho.2 with h2 | ⟨g', cap, cur, rfl, hg, hh, r⟩
  · exact Or.inl h2
  · exact Or.inr ⟨g', cap, cur, rfl, hg, (h.2 g' (fun e => hv (by rw [e]; rfl))).trans hh, r⟩
set_option maxRecDepth 100000 in
set_option maxHeartbeats 4000000 in
theorem sumL8 {c0 c1 c2 c4 c5 c6 c7 c8 c9 c10 c11 c12 c13 c14 c15 c17 c18 c19 c20 c21 c22 c23 c24 c25 c26 c27 c28 c29 c30 c31 c32 c33 c34 c35 c36 c37 c38 c39 c40 c41 c42 c43 c44 c45 c46 c47 c48 c49 c50 c51 c52 c53 c54 c55 c56 c57 c58 c59 c60 c61 c62 c63 c64 c65 c66 c67 c68 c69 c70 c71 c72 c73 c74 c75 c76 c77 c78 c79 c80 c81 c82 c83 c84 c85 c86 c87 c88 c89 c90 c91 c92 c93 c94 c95 c96 c97 c98 c99 c100 c101 c102 c103 c104 c105 c106 c107 c108 c109 c110 c111 c112 c113 c114 c115 c116 c117 c118 c119 c120 c121 c122 c123 c124 c125 c126 c127 c128 c129 c130 c131 c132 c133 c134 c135 c136 c137 c138 c139 c140 c141 c142 c143 c144 c145 c146 c147 c148 c149 c150 c151 c152 c153 c154 c155 c156 c157 c158 c159 c160 c161 c162 c163 c164 c165 c166 c167 c168 c169 c170 c171 c172 c173 c174 c175 c176 c177 c178 c179 c180 c181 c182 c183 c184 c185 c186 c187 c188 c189 c190 c191 c192 c193 c194 c195 c196 c197 c198 c199 c200 c201 c202 c203 c204 c205 c206 c207 c208 c209 c210 c211 c212 c213 c214 c215 c216 c217 c218 c219 c220 c221 c222 c223 c224 c225 c226 c227 c228 c229 c230 c231 c232 c233 c234 c235 c236 c237 c238 c239 c240 c241 c242 c243 c244 c245 c246 c247 c248 c249 c250 c251 c252 c253 c254 c255 c256 c257 c258 c259 c260 c261 c262 c263 c264 c265 c266 c268 c269 c270 c271 c272 c273 c274 c275 c276 c277 c278 c279 c280 c281 c282 c283 c284 c285 c286 c287 c288 c289 c290 c291 c292 c293 c294 c295 c296 c297 c298 c299 : Value} (gh gv cv B : Nat) (xs ys : List UInt32) {w : World} {Q0 : Exit → Act → World → Prop} (hl : xs.length = 8 ∧ ys.length = 8) (hgv : gv ≠ gh) (hh : Blk w gh 173 (hC (zipTo xs ys 0))) (hv : w.ownsRow B 90 1 (.slice (some ⟨gv, 0, none⟩) 8 cv) 8 (ys.map uv))
    (hexit : ∀ (w' : World) , Hid (Blk w' gh 173 (hC (zipTo xs ys 8))) ∧ Hid (w'.ownsRow B 90 1 (.slice (some ⟨gv, 0, none⟩) 8 cv) 8 (ys.map uv)) ∧ Hid (OnlyB gh w w') → ∀ (u23 u267 u268 u269 u270 u271 u272 u273 u274 u275 u276 u277 u278 u279 : Value), Q0 (.exit 14) ⟨#[c0, c1, c2, .pointer (some ⟨gh, 0, none⟩), c4, c5, c6, c7, c8, c9, c10, c11, c12, c13, c14, c15, .slice (some ⟨gv, 0, none⟩) 8 cv, c17, c18, c19, c20, c21, c22, u23, c24, c25, c26, c27, c28, c29, c30, c31, c32, c33, c34, c35, c36, c37, c38, c39, c40, c41, c42, c43, c44, c45, c46, c47, c48, c49, c50, c51, c52, c53, c54, c55, c56, c57, c58, c59, c60, c61, c62, c63, c64, c65, c66, c67, c68, c69, c70, c71, c72, c73, c74, c75, c76, c77, c78, c79, c80, c81, c82, c83, c84, c85, c86, c87, c88, c89, c90, c91, c92, c93, c94, c95, c96, c97, c98, c99, c100, c101, c102, c103, c104, c105, c106, c107, c108, c109, c110, c111, c112, c113, c114, c115, c116, c117, c118, c119, c120, c121, c122, c123, c124, c125, c126, c127, c128, c129, c130, c131, c132, c133, c134, c135, c136, c137, c138, c139, c140, c141, c142, c143, c144, c145, c146, c147, c148, c149, c150, c151, c152, c153, c154, c155, c156, c157, c158, c159, c160, c161, c162, c163, c164, c165, c166, c167, c168, c169, c170, c171, c172, c173, c174, c175, c176, c177, c178, c179, c180, c181, c182, c183, c184, c185, c186, c187, c188, c189, c190, c191, c192, c193, c194, c195, c196, c197, c198, c199, c200, c201, c202, c203, c204, c205, c206, c207, c208, c209, c210, c211, c212, c213, c214, c215, c216, c217, c218, c219, c220, c221, c222, c223, c224, c225, c226, c227, c228, c229, c230, c231, c232, c233, c234, c235, c236, c237, c238, c239, c240, c241, c242, c243, c244, c245, c246, c247, c248, c249, c250, c251, c252, c253, c254, c255, c256, c257, c258, c259, c260, c261, c262, c263, c264, c265, c266, u267, u268, u269, u270, u271, u272, u273, u274, u275, u276, u277, u278, u279, c280, c281, c282, c283, c284, c285, c286, c287, c288, c289, c290, c291, c292, c293, c294, c295, c296, c297, c298, c299], []⟩ w') :
    Code.wp Tryd.prog (sumLoop 7) Q0 ⟨#[c0, c1, c2, .pointer (some ⟨gh, 0, none⟩), c4, c5, c6, c7, c8, c9, c10, c11, c12, c13, c14, c15, .slice (some ⟨gv, 0, none⟩) 8 cv, c17, c18, c19, c20, c21, c22, c23, c24, c25, c26, c27, c28, c29, c30, c31, c32, c33, c34, c35, c36, c37, c38, c39, c40, c41, c42, c43, c44, c45, c46, c47, c48, c49, c50, c51, c52, c53, c54, c55, c56, c57, c58, c59, c60, c61, c62, c63, c64, c65, c66, c67, c68, c69, c70, c71, c72, c73, c74, c75, c76, c77, c78, c79, c80, c81, c82, c83, c84, c85, c86, c87, c88, c89, c90, c91, c92, c93, c94, c95, c96, c97, c98, c99, c100, c101, c102, c103, c104, c105, c106, c107, c108, c109, c110, c111, c112, c113, c114, c115, c116, c117, c118, c119, c120, c121, c122, c123, c124, c125, c126, c127, c128, c129, c130, c131, c132, c133, c134, c135, c136, c137, c138, c139, c140, c141, c142, c143, c144, c145, c146, c147, c148, c149, c150, c151, c152, c153, c154, c155, c156, c157, c158, c159, c160, c161, c162, c163, c164, c165, c166, c167, c168, c169, c170, c171, c172, c173, c174, c175, c176, c177, c178, c179, c180, c181, c182, c183, c184, c185, c186, c187, c188, c189, c190, c191, c192, c193, c194, c195, c196, c197, c198, c199, c200, c201, c202, c203, c204, c205, c206, c207, c208, c209, c210, c211, c212, c213, c214, c215, c216, c217, c218, c219, c220, c221, c222, c223, c224, c225, c226, c227, c228, c229, c230, c231, c232, c233, c234, c235, c236, c237, c238, c239, c240, c241, c242, c243, c244, c245, c246, c247, c248, c249, c250, c251, c252, c253, c254, c255, c256, c257, c258, c259, c260, c261, c262, c263, c264, c265, c266, .int .i64 0, c268, c269, c270, c271, c272, c273, c274, c275, c276, c277, c278, c279, c280, c281, c282, c283, c284, c285, c286, c287, c288, c289, c290, c291, c292, c293, c294, c295, c296, c297, c298, c299], []⟩ w := by
  have HEX := PLift.up hexit; clear hexit
  dsimp only
  conv => arg 2; whnf
  go_loopw [267] (fun i wr => ∃ q : Nat, q ≤ 8 ∧ i = .int .i64 q ∧ Hid (Blk wr gh 173 (hC (zipTo xs ys q))) ∧ Hid (wr.ownsRow B 90 1 (.slice (some ⟨gv, 0, none⟩) 8 cv) 8 (ys.map uv)) ∧ Hid (OnlyB gh w wr)) (fun i _ => 8 - (intOf i).toNat)
  case atStart => exact ⟨0, Nat.zero_le _, rfl, hh, hv, OnlyB.refl _ _⟩
  case round =>
    obtain ⟨q, hq, rfl, G1, G4, G5⟩ := hrel
    by_cases hq8 : q < 8
    · obtain ⟨x, hx⟩ : ∃ x, xs[q]? = some x := ⟨_, List.getElem?_eq_getElem (by omega)⟩
      obtain ⟨y, hy⟩ : ∃ y, ys[q]? = some y := ⟨_, List.getElem?_eq_getElem (by omega)⟩
      have cx : wr.cell? ⟨gh, q, none⟩ = some (.int .u32 (x.toNat : Int)) := by rw [G1.out.cell q]; exact hC_get _ _ _ (zipTo_get hx (by omega))
      have cy : wr.cell? ⟨gv, q, none⟩ = some (.int .u32 (y.toNat : Int)) := by
        have := G4.out.cells (g := gv) rfl q (uv y) (by rw [List.getElem?_map, hy]; rfl)
        rwa [add_flat, Nat.zero_add] at this
      have hf : wr.frozen? ⟨gh, q, none⟩ = false := G1.out.free q
      have hsu := zipTo_succ hx hy
      have hput := G1.out.put q (uv (x + y))
      rw [hC_set, hsu] at hput
      have HPUT := Lib.hid hput
      have HGV := Lib.hid hgv
      have HL := Lib.hid hl
      clear hput hsu hx hy hl hh hv hgv
      go_wp2_with fail
      go_region
      go_wp2
      rw [add2 x y]
      go_roundw
      case rel => exact ⟨q + 1, by omega, by go_num, HPUT.out.drew, own_far G4.out (p := ⟨gh, q, none⟩) (fun h => by cases h; exact HGV.out rfl) _, (G5.out.setCell q _).drew⟩
      case measure => simp [intOf]; omega
    · obtain rfl : q = 8 := by omega
      clear hh hv
      go_wp2
      exact HEX.down wr ⟨G1, G4, G5⟩ _ _ _ _ _ _ _ _ _ _ _ _ _ _
end Go.Proofs.YtikikddkhikfkaaDoor

set_option linter.all false
namespace Go.Proofs.YtikikddkhikfkaaDoor
open Go.RowKit

theorem idx_hC {l : List UInt32} {q : Nat} {x : UInt32} (hx : l[q]? = some x) (h8 : l.length = 8) (W : World) : (Instr.index 173 (.agg (hC l)) (.int .i64 q)).run Tryd.prog W = .ok (.int .u32 (x.toNat : Int)) W := by
  have hg := hC_get l q x hx
  have hq := (List.getElem?_eq_some_iff.1 hx).1
  have hn : (0 : Int) ≤ q ∧ (q : Int) < 8 := by omega
  simp [Instr.index, run_underlying Tryd.underlying173, asIntOf, hn, hg, uv, go_sem]
  intro h; omega
theorem byte_shr (x : UInt32) (k : Nat) : (x.toNat : Int) / 2 ^ k % 256 = ((UInt8.ofNat (x.toNat / 2 ^ k)).toNat : Int) := by
  rw [← byte_of]; simp
theorem rd_out4 (W : World) (x : UInt32) (t : TypeId) : Rd (W.alloc (.cells #[.int .u8 ((x.toNat : Int) / (16777216 : Int) % (256 : Int)), .int .u8 ((x.toNat : Int) / (65536 : Int) % (256 : Int)), .int .u8 ((x.toNat : Int) / (256 : Int) % (256 : Int)), .int .u8 ((x.toNat : Int) % (256 : Int))] t)) (W.heap.size + 1) 1 (some ⟨W.heap.size, 0, none⟩) 4 (bc (out4 x)) := by
  have h := Rd.new W #[.int .u8 ((x.toNat : Int) / (16777216 : Int) % (256 : Int)), .int .u8 ((x.toNat : Int) / (65536 : Int) % (256 : Int)), .int .u8 ((x.toNat : Int) / (256 : Int) % (256 : Int)), .int .u8 ((x.toNat : Int) % (256 : Int))] t 1 4 W.heap.size rfl rfl
  have e0 : (x.toNat : Int) / (16777216 : Int) % (256 : Int) = _ := byte_shr x 24
  have e1 : (x.toNat : Int) / (65536 : Int) % (256 : Int) = _ := byte_shr x 16
  have e2 : (x.toNat : Int) / (256 : Int) % (256 : Int) = _ := byte_shr x 8
  have e3 : (x.toNat : Int) % (256 : Int) = _ := byte_of x.toNat
  have e : (#[Value.int .u8 ((x.toNat : Int) / (16777216 : Int) % (256 : Int)), .int .u8 ((x.toNat : Int) / (65536 : Int) % (256 : Int)), .int .u8 ((x.toNat : Int) / (256 : Int) % (256 : Int)), .int .u8 ((x.toNat : Int) % (256 : Int))]).toList = bc (out4 x) := by
    rw [e0, e1, e2, e3]; rfl
  rw [e] at h
  exact h
theorem out4_take {l : List UInt32} {q : Nat} {x : UInt32} (hx : l[q]? = some x) : (l.take (q + 1)).flatMap out4 = (l.take q).flatMap out4 ++ out4 x := by
  have hq := List.getElem?_eq_some_iff.1 hx
  rw [List.take_succ_eq_append_getElem hq.1, hq.2]
  simp
set_option maxRecDepth 100000 in
set_option maxHeartbeats 4000000 in
theorem sumL9 {c0 c1 c2 c3 c4 c5 c6 c7 c8 c9 c10 c11 c12 c13 c14 c15 c16 c17 c18 c19 c20 c21 c22 c23 c25 c26 c27 c28 c29 c30 c31 c32 c33 c34 c35 c36 c37 c38 c39 c40 c41 c42 c43 c44 c45 c46 c47 c48 c49 c50 c51 c52 c53 c54 c55 c56 c57 c58 c59 c60 c61 c62 c63 c64 c65 c66 c67 c68 c69 c70 c71 c72 c73 c74 c75 c76 c77 c78 c79 c80 c81 c82 c83 c84 c85 c86 c87 c88 c89 c90 c91 c92 c93 c94 c95 c96 c97 c98 c99 c100 c101 c102 c103 c104 c105 c106 c107 c108 c109 c110 c111 c112 c113 c114 c115 c116 c117 c118 c119 c120 c121 c122 c123 c124 c125 c126 c127 c128 c129 c130 c131 c132 c133 c134 c135 c136 c137 c138 c139 c140 c141 c142 c143 c144 c145 c146 c147 c148 c149 c150 c151 c152 c153 c154 c155 c156 c157 c158 c159 c160 c161 c162 c163 c164 c165 c166 c167 c168 c169 c170 c171 c172 c173 c174 c175 c176 c177 c178 c179 c180 c181 c182 c183 c184 c185 c186 c187 c188 c189 c190 c191 c192 c193 c194 c195 c196 c197 c198 c199 c200 c201 c202 c203 c204 c205 c206 c207 c208 c209 c210 c211 c212 c213 c214 c215 c216 c217 c218 c219 c220 c221 c222 c223 c224 c225 c226 c227 c228 c229 c230 c231 c232 c233 c234 c235 c236 c237 c238 c239 c240 c241 c242 c243 c244 c245 c246 c247 c248 c249 c250 c251 c252 c253 c254 c255 c256 c257 c258 c259 c260 c261 c262 c263 c264 c265 c266 c267 c268 c269 c270 c271 c272 c273 c274 c275 c276 c277 c278 c279 c282 c283 c284 c285 c286 c287 c288 c289 c290 c291 c292 c293 c294 c295 c296 c297 c298 c299 : Value} (l : List UInt32) {w : World} {Q0 : Exit → Act → World → Prop} (h8 : l.length = 8)
    (hexit : ∀ (w' : World) (A : Option Addr) (c : Nat), Hid (Own8 w' w.heap.size A 32 c (l.flatMap out4)) ∧ Hid (Below w.heap.size w w') → ∀ (u26 u281 u282 u283 u284 u285 u286 u287 u288 u289 u290 u291 u292 u293 u294 u295 u296 u297 u298 : Value), Q0 (.exit 16) ⟨#[c0, c1, c2, c3, c4, c5, c6, c7, c8, c9, c10, c11, c12, c13, c14, c15, c16, c17, c18, c19, c20, c21, c22, c23, .slice A 32 c, c25, u26, c27, c28, c29, c30, c31, c32, c33, c34, c35, c36, c37, c38, c39, c40, c41, c42, c43, c44, c45, c46, c47, c48, c49, c50, c51, c52, c53, c54, c55, c56, c57, c58, c59, c60, c61, c62, c63, c64, c65, c66, c67, c68, c69, c70, c71, c72, c73, c74, c75, c76, c77, c78, c79, c80, c81, c82, c83, c84, c85, c86, c87, c88, c89, c90, c91, c92, c93, c94, c95, c96, c97, c98, c99, c100, c101, c102, c103, c104, c105, c106, c107, c108, c109, c110, c111, c112, c113, c114, c115, c116, c117, c118, c119, c120, c121, c122, c123, c124, c125, c126, c127, c128, c129, c130, c131, c132, c133, c134, c135, c136, c137, c138, c139, c140, c141, c142, c143, c144, c145, c146, c147, c148, c149, c150, c151, c152, c153, c154, c155, c156, c157, c158, c159, c160, c161, c162, c163, c164, c165, c166, c167, c168, c169, c170, c171, c172, c173, c174, c175, c176, c177, c178, c179, c180, c181, c182, c183, c184, c185, c186, c187, c188, c189, c190, c191, c192, c193, c194, c195, c196, c197, c198, c199, c200, c201, c202, c203, c204, c205, c206, c207, c208, c209, c210, c211, c212, c213, c214, c215, c216, c217, c218, c219, c220, c221, c222, c223, c224, c225, c226, c227, c228, c229, c230, c231, c232, c233, c234, c235, c236, c237, c238, c239, c240, c241, c242, c243, c244, c245, c246, c247, c248, c249, c250, c251, c252, c253, c254, c255, c256, c257, c258, c259, c260, c261, c262, c263, c264, c265, c266, c267, c268, c269, c270, c271, c272, c273, c274, c275, c276, c277, c278, c279, .agg (hC l), u281, u282, u283, u284, u285, u286, u287, u288, u289, u290, u291, u292, u293, u294, u295, u296, u297, u298, c299], []⟩ w') :
    Code.wp Tryd.prog (sumLoop 8) Q0 ⟨#[c0, c1, c2, c3, c4, c5, c6, c7, c8, c9, c10, c11, c12, c13, c14, c15, c16, c17, c18, c19, c20, c21, c22, c23, .slice none 0 0, c25, c26, c27, c28, c29, c30, c31, c32, c33, c34, c35, c36, c37, c38, c39, c40, c41, c42, c43, c44, c45, c46, c47, c48, c49, c50, c51, c52, c53, c54, c55, c56, c57, c58, c59, c60, c61, c62, c63, c64, c65, c66, c67, c68, c69, c70, c71, c72, c73, c74, c75, c76, c77, c78, c79, c80, c81, c82, c83, c84, c85, c86, c87, c88, c89, c90, c91, c92, c93, c94, c95, c96, c97, c98, c99, c100, c101, c102, c103, c104, c105, c106, c107, c108, c109, c110, c111, c112, c113, c114, c115, c116, c117, c118, c119, c120, c121, c122, c123, c124, c125, c126, c127, c128, c129, c130, c131, c132, c133, c134, c135, c136, c137, c138, c139, c140, c141, c142, c143, c144, c145, c146, c147, c148, c149, c150, c151, c152, c153, c154, c155, c156, c157, c158, c159, c160, c161, c162, c163, c164, c165, c166, c167, c168, c169, c170, c171, c172, c173, c174, c175, c176, c177, c178, c179, c180, c181, c182, c183, c184, c185, c186, c187, c188, c189, c190, c191, c192, c193, c194, c195, c196, c197, c198, c199, c200, c201, c202, c203, c204, c205, c206, c207, c208, c209, c210, c211, c212, c213, c214, c215, c216, c217, c218, c219, c220, c221, c222, c223, c224, c225, c226, c227, c228, c229, c230, c231, c232, c233, c234, c235, c236, c237, c238, c239, c240, c241, c242, c243, c244, c245, c246, c247, c248, c249, c250, c251, c252, c253, c254, c255, c256, c257, c258, c259, c260, c261, c262, c263, c264, c265, c266, c267, c268, c269, c270, c271, c272, c273, c274, c275, c276, c277, c278, c279, .agg (hC l), .int .i64 0, c282, c283, c284, c285, c286, c287, c288, c289, c290, c291, c292, c293, c294, c295, c296, c297, c298, c299], []⟩ w := by
  have HEX := PLift.up hexit; clear hexit
  dsimp only
  conv => arg 2; whnf
  go_loopw [24, 281] (fun v i wr => ∃ (q : Nat) (A : Option Addr) (c : Nat), q ≤ 8 ∧ i = .int .i64 q ∧ v = .slice A (4 * q) c ∧ Hid (Own8 wr w.heap.size A (4 * q) c ((l.take q).flatMap out4)) ∧ Hid (Below w.heap.size w wr)) (fun _ i _ => 8 - (intOf i).toNat)
  case atStart => exact ⟨0, none, 0, Nat.zero_le _, rfl, rfl, Own8.nil _ _, Below.refl _ _⟩
  case round =>
    obtain ⟨q, A, c, hq, rfl, rfl, HO, HB⟩ := hrel
    have hz := HB.out.size
    by_cases hlt : q < 8
    · obtain ⟨x, hx⟩ : ∃ x, l[q]? = some x := ⟨_, List.getElem?_eq_getElem (by omega)⟩
      have hix := fun W => idx_hC hx h8 W
      have HT := Lib.hid (out4_take hx)
      have HH8 := Lib.hid h8; have HHX := Lib.hid hx
      clear h8 hx
      go_wp2_with (at_builtin; refine app8w _ rfl (.tmp 284) (.tmp 296) rfl w.heap.size (4 * q) c A _ rfl (World.ownsRow.alloc HO.out _) (wr.heap.size + 1) 4 4 (some ⟨wr.heap.size, 0, none⟩) (out4 x) rfl (rd_out4 wr x _) (by omega) (by simp; omega) ?_; intro A7 c7 w7 ho7 hg7)
      go_roundw
      case rel => exact ⟨q + 1, A7, c7, by omega, by go_num, rfl, by rw [HT.out]; exact ho7, (HB.out.alloc hz _).grown hg7.1 (by simp; omega) (fun k hk => (HO.out.at_ k hk).1)⟩
      case measure => simp [intOf]; omega
    · obtain rfl : q = 8 := by omega
      go_wp2
      have ho := HO.out
      rw [List.take_of_length_le (by omega)] at ho
      exact HEX.down wr A c ⟨ho, HB.out⟩ _ _ _ _ _ _ _ _ _ _ _ _ _ _ _ _ _ _ _
end Go.Proofs.YtikikddkhikfkaaDoor
