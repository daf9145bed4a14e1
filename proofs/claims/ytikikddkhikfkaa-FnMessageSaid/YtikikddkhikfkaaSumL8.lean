/-
  The last loop of a block of the reference's SHA-256: the state's words are summed. By the session.
-/
import Derived.Test.YtikikddkhikfkaaSumB
import Derived.RegionTactic
import Derived.BigRegion
import Derived.Deep.Cut
set_option linter.all false
namespace Go.Proofs.Ytikikddkhikfkaa
open Go.RowKit

/-- only block g may have changed -/
def OnlyB (g : Nat) (w w' : World) : Prop := Below g w w' ∧ ∀ k, k ≠ g → w'.heap[k]? = w.heap[k]?
theorem OnlyB.refl (g : Nat) (w : World) : OnlyB g w w := ⟨Below.refl _ _, fun _ _ => rfl⟩
theorem OnlyB.drew {g : Nat} {w w' : World} (h : OnlyB g w w') : OnlyB g w w'.drew := ⟨h.1.drew, h.2⟩
theorem OnlyB.setCell {g : Nat} {w w' : World} (h : OnlyB g w w') (o : Nat) (u : Value) : OnlyB g w (w'.setCell ⟨g, o, none⟩ u) :=
  ⟨h.1.setCell (p := ⟨g, o, none⟩) (Nat.le_refl _) _, fun k hk => (Below.heap_setCell w' ⟨g, o, none⟩ u k hk).trans (h.2 k hk)⟩
theorem OnlyB.blk {g k : Nat} {w w' : World} {t : TypeId} {cs : Array Value} (h : OnlyB g w w') (hb : Blk w k t cs) (hk : k ≠ g) : Blk w' k t cs := (h.2 k hk).trans hb
theorem OnlyB.own {g : Nat} {w w' : World} (h : OnlyB g w w') {base e size : Nat} {v : Value} {n : Nat} {xs : List Value} (ho : w.ownsRow base e size v n xs) (hv : some g ≠ v.ownBlock) : w'.ownsRow base e size v n xs := by
  refine ⟨ho.1, ?_⟩
  rcases ho.2 with h2 | ⟨g', cap, cur, rfl, hg, hh, r⟩
  · exact Or.inl h2
  · exact Or.inr ⟨g', cap, cur, rfl, hg, (h.2 g' (fun e => hv (by rw [e]; rfl))).trans hh, r⟩
set_option maxRecDepth 100000 in
set_option maxHeartbeats 4000000 in
theorem sumL8 {c0 c1 c2 c4 c5 c6 c7 c8 c9 c10 c11 c12 c13 c14 c15 c17 c18 c19 c20 c21 c22 c23 c24 c25 c26 c27 c28 c29 c30 c31 c32 c33 c34 c35 c36 c37 c38 c39 c40 c41 c42 c43 c44 c45 c46 c47 c48 c49 c50 c51 c52 c53 c54 c55 c56 c57 c58 c59 c60 c61 c62 c63 c64 c65 c66 c67 c68 c69 c70 c71 c72 c73 c74 c75 c76 c77 c78 c79 c80 c81 c82 c83 c84 c85 c86 c87 c88 c89 c90 c91 c92 c93 c94 c95 c96 c97 c98 c99 c100 c101 c102 c103 c104 c105 c106 c107 c108 c109 c110 c111 c112 c113 c114 c115 c116 c117 c118 c119 c120 c121 c122 c123 c124 c125 c126 c127 c128 c129 c130 c131 c132 c133 c134 c135 c136 c137 c138 c139 c140 c141 c142 c143 c144 c145 c146 c147 c148 c149 c150 c151 c152 c153 c154 c155 c156 c157 c158 c159 c160 c161 c162 c163 c164 c165 c166 c167 c168 c169 c170 c171 c172 c173 c174 c175 c176 c177 c178 c179 c180 c181 c182 c183 c184 c185 c186 c187 c188 c189 c190 c191 c192 c193 c194 c195 c196 c197 c198 c199 c200 c201 c202 c203 c204 c205 c206 c207 c208 c209 c210 c211 c212 c213 c214 c215 c216 c217 c218 c219 c220 c221 c222 c223 c224 c225 c226 c227 c228 c229 c230 c231 c232 c233 c234 c235 c236 c237 c238 c239 c240 c241 c242 c243 c244 c245 c246 c247 c248 c249 c250 c251 c252 c253 c254 c255 c256 c257 c258 c259 c260 c261 c262 c263 c264 c265 c266 c268 c269 c270 c271 c272 c273 c274 c275 c276 c277 c278 c279 c280 c281 c282 c283 c284 c285 c286 c287 c288 c289 c290 c291 c292 c293 c294 c295 c296 c297 c298 c299 : Value} (gh gv cv B : Nat) (xs ys : List UInt32) {w : World} {Q0 : Exit → Act → World → Prop} (hl : xs.length = 8 ∧ ys.length = 8) (hgv : gv ≠ gh) (hh : Blk w gh 97 (hC (zipTo xs ys 0))) (hv : w.ownsRow B 96 1 (.slice (some ⟨gv, 0, none⟩) 8 cv) 8 (ys.map uv))
    (hexit : ∀ (w' : World) , Hid (Blk w' gh 97 (hC (zipTo xs ys 8))) ∧ Hid (w'.ownsRow B 96 1 (.slice (some ⟨gv, 0, none⟩) 8 cv) 8 (ys.map uv)) ∧ Hid (OnlyB gh w w') → ∀ (u23 u267 u268 u269 u270 u271 u272 u273 u274 u275 u276 u277 u278 u279 : Value), Q0 (.exit 14) ⟨#[c0, c1, c2, .pointer (some ⟨gh, 0, none⟩), c4, c5, c6, c7, c8, c9, c10, c11, c12, c13, c14, c15, .slice (some ⟨gv, 0, none⟩) 8 cv, c17, c18, c19, c20, c21, c22, u23, c24, c25, c26, c27, c28, c29, c30, c31, c32, c33, c34, c35, c36, c37, c38, c39, c40, c41, c42, c43, c44, c45, c46, c47, c48, c49, c50, c51, c52, c53, c54, c55, c56, c57, c58, c59, c60, c61, c62, c63, c64, c65, c66, c67, c68, c69, c70, c71, c72, c73, c74, c75, c76, c77, c78, c79, c80, c81, c82, c83, c84, c85, c86, c87, c88, c89, c90, c91, c92, c93, c94, c95, c96, c97, c98, c99, c100, c101, c102, c103, c104, c105, c106, c107, c108, c109, c110, c111, c112, c113, c114, c115, c116, c117, c118, c119, c120, c121, c122, c123, c124, c125, c126, c127, c128, c129, c130, c131, c132, c133, c134, c135, c136, c137, c138, c139, c140, c141, c142, c143, c144, c145, c146, c147, c148, c149, c150, c151, c152, c153, c154, c155, c156, c157, c158, c159, c160, c161, c162, c163, c164, c165, c166, c167, c168, c169, c170, c171, c172, c173, c174, c175, c176, c177, c178, c179, c180, c181, c182, c183, c184, c185, c186, c187, c188, c189, c190, c191, c192, c193, c194, c195, c196, c197, c198, c199, c200, c201, c202, c203, c204, c205, c206, c207, c208, c209, c210, c211, c212, c213, c214, c215, c216, c217, c218, c219, c220, c221, c222, c223, c224, c225, c226, c227, c228, c229, c230, c231, c232, c233, c234, c235, c236, c237, c238, c239, c240, c241, c242, c243, c244, c245, c246, c247, c248, c249, c250, c251, c252, c253, c254, c255, c256, c257, c258, c259, c260, c261, c262, c263, c264, c265, c266, u267, u268, u269, u270, u271, u272, u273, u274, u275, u276, u277, u278, u279, c280, c281, c282, c283, c284, c285, c286, c287, c288, c289, c290, c291, c292, c293, c294, c295, c296, c297, c298, c299], []⟩ w') :
    Code.wp Try.prog (sumLoop 7) Q0 ⟨#[c0, c1, c2, .pointer (some ⟨gh, 0, none⟩), c4, c5, c6, c7, c8, c9, c10, c11, c12, c13, c14, c15, .slice (some ⟨gv, 0, none⟩) 8 cv, c17, c18, c19, c20, c21, c22, c23, c24, c25, c26, c27, c28, c29, c30, c31, c32, c33, c34, c35, c36, c37, c38, c39, c40, c41, c42, c43, c44, c45, c46, c47, c48, c49, c50, c51, c52, c53, c54, c55, c56, c57, c58, c59, c60, c61, c62, c63, c64, c65, c66, c67, c68, c69, c70, c71, c72, c73, c74, c75, c76, c77, c78, c79, c80, c81, c82, c83, c84, c85, c86, c87, c88, c89, c90, c91, c92, c93, c94, c95, c96, c97, c98, c99, c100, c101, c102, c103, c104, c105, c106, c107, c108, c109, c110, c111, c112, c113, c114, c115, c116, c117, c118, c119, c120, c121, c122, c123, c124, c125, c126, c127, c128, c129, c130, c131, c132, c133, c134, c135, c136, c137, c138, c139, c140, c141, c142, c143, c144, c145, c146, c147, c148, c149, c150, c151, c152, c153, c154, c155, c156, c157, c158, c159, c160, c161, c162, c163, c164, c165, c166, c167, c168, c169, c170, c171, c172, c173, c174, c175, c176, c177, c178, c179, c180, c181, c182, c183, c184, c185, c186, c187, c188, c189, c190, c191, c192, c193, c194, c195, c196, c197, c198, c199, c200, c201, c202, c203, c204, c205, c206, c207, c208, c209, c210, c211, c212, c213, c214, c215, c216, c217, c218, c219, c220, c221, c222, c223, c224, c225, c226, c227, c228, c229, c230, c231, c232, c233, c234, c235, c236, c237, c238, c239, c240, c241, c242, c243, c244, c245, c246, c247, c248, c249, c250, c251, c252, c253, c254, c255, c256, c257, c258, c259, c260, c261, c262, c263, c264, c265, c266, .int .i64 0, c268, c269, c270, c271, c272, c273, c274, c275, c276, c277, c278, c279, c280, c281, c282, c283, c284, c285, c286, c287, c288, c289, c290, c291, c292, c293, c294, c295, c296, c297, c298, c299], []⟩ w := by
  have HEX := PLift.up hexit; clear hexit
  dsimp only
  conv => arg 2; whnf
  go_loopw [267] (fun i wr => ∃ q : Nat, q ≤ 8 ∧ i = .int .i64 q ∧ Hid (Blk wr gh 97 (hC (zipTo xs ys q))) ∧ Hid (wr.ownsRow B 96 1 (.slice (some ⟨gv, 0, none⟩) 8 cv) 8 (ys.map uv)) ∧ Hid (OnlyB gh w wr)) (fun i _ => 8 - (intOf i).toNat)
  case atStart => exact ⟨0, Nat.zero_le _, rfl, hh, hv, OnlyB.refl _ _⟩
  case round =>
    obtain ⟨q, hq, rfl, G1, G4, G5⟩ := hrel
    by_cases hq8 : q < 8
    · obtain ⟨x, hx⟩ : ∃ x, xs[q]? = some x := ⟨_, List.getElem?_eq_getElem (by omega)⟩
      obtain ⟨y, hy⟩ : ∃ y, ys[q]? = some y := ⟨_, List.getElem?_eq_getElem (by omega)⟩
      have cx : wr.cell? ⟨gh, q, none⟩ = some (.int .u32 (x.toNat : Int)) := by rw [G1.out.cell q]; exact hC_get _ _ _ (zipTo_get hx (by omega))
      have cy : wr.cell? ⟨gv, q, none⟩ = some (.int .u32 (y.toNat : Int)) := by
        have := G4.out.cells (g := gv) rfl q (uv y) (by rw [List.getElem?_map, hy]; rfl)
        rwa [add_flat, Nat.zero_add] at this
      have hf : wr.frozen? ⟨gh, q, none⟩ = false := G1.out.free q
      have hsu := zipTo_succ hx hy
      have hput := G1.out.put q (uv (x + y))
      rw [hC_set, hsu] at hput
      have HPUT := Lib.hid hput
      have HGV := Lib.hid hgv
      have HL := Lib.hid hl
      clear hput hsu hx hy hl hh hv hgv
      go_wp2_with fail
      go_region
      go_wp2
      rw [add2 x y]
      go_roundw
      case rel => exact ⟨q + 1, by omega, by go_num, HPUT.out.drew, own_far G4.out (p := ⟨gh, q, none⟩) (fun h => by cases h; exact HGV.out rfl) _, (G5.out.setCell q _).drew⟩
      case measure => simp [intOf]; omega
    · obtain rfl : q = 8 := by omega
      clear hh hv
      go_wp2
      exact HEX.down wr ⟨G1, G4, G5⟩ _ _ _ _ _ _ _ _ _ _ _ _ _ _
end Go.Proofs.Ytikikddkhikfkaa
