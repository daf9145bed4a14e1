/-
  The row's proof lifted into the frame. For every two slices of bytes, every slice of whole numbers and every two whole numbers, while the package's table of round constants and its two sentinels read as their initialisers lay them: FnParts answers true, and all reads behind the call as it did before: data in parts of a size, their root, each part taken once, a part of another sum not taken.
-/
import Derived.Test.YtikikddkhikfkaaDoorPa41
import Derived.Test.YtikikddkhikfkaaDoorPa20
import Derived.Test.YtikikddkhikfkaaDoorTie
import Derived.Test.YtikikddkhikfkaaDoorCards
import Derived.LaidMore
import Derived.LaidLaws
import Derived.Lib.LaidTab
import Derived.OpenShut
import Derived.Stop.Joined
import Derived.SevenTiedAt
set_option linter.all false
namespace Go.Proofs.YtikikddkhikfkaaDoor
open Go.ChangeShapes Go.WideShapes Go.ChangeAt Go.WideMaps Go.WideElems Go.RowKit

theorem gKp : Tryd.prog.globalNamed "validatorsandcommits/pub/sha256._K" = some 3 := by kernel_rfl
theorem tKp : (Tryd.prog.globals[3]?).map (·.type) = some 175 := by kernel_rfl
theorem laidKp_eq : (Rows.laid_validatorsandcommits_pub_sha256_K : DataW Unit) = Lib.tabData .u32 (shaK.map fun x => (x.toNat : Int)) := by kernel_rfl
theorem gInv : Tryd.prog.globalNamed "validatorsandcommits/pub/comettypes.ErrPartSetInvalidProof" = some 1 := by kernel_rfl
theorem tInv : (Tryd.prog.globals[1]?).map (·.type) = some 120 := by kernel_rfl

set_option maxRecDepth 100000 in
theorem door_parts (os : Os) (args : Array Value) : laidMetH Tryd.prog Rows.fnPartsRow.laid ((World.doorLaid Tryd.prog 400 os).forCall (fun _ _ => 0) ⟨#[], args, []⟩).memory :=
  laidMetH_of_parts3 (fuel := 8) (laidMet_of_run' 8 (by kernel_rfl) (by kernel_rfl)) (by kernel_rfl) (by kernel_rfl)
set_option maxRecDepth 100000 in
theorem of_parts {W : World} (h : laidMetH Tryd.prog Rows.fnPartsRow.laid W) : Kw W ∧ ∃ v, W.cell? ⟨1, 0, none⟩ = some v := by
  rw [MakeChecks.laidMetH_plain _ _ _ (by kernel_rfl)] at h
  have h' := h
  refine ⟨?_, ?_⟩
  · have h2 : laidMet Tryd.prog (("validatorsandcommits/pub/sha256._K", Rows.laid_validatorsandcommits_pub_sha256_K) :: [("validatorsandcommits/pub/comettypes.ErrPartSetUnexpectedIndex", Rows.laid_validatorsandcommits_pub_comettypes_ErrPartSetUnexpectedIndex), ("validatorsandcommits/pub/comettypes.ErrPartSetInvalidProof", Rows.laid_validatorsandcommits_pub_comettypes_ErrPartSetInvalidProof)]) W := h'
    rw [laidKp_eq] at h2
    have hT := Lib.tabIs_of_head gKp tKp Tryd.underlying175 Tryd.underlying90 (by kernel_rfl) (by kernel_rfl) h2
    have hc : ∀ i, i < 64 → W.cell? ⟨3, i, none⟩ = some (uv (shaK.getD i 0)) := fun i hi => by
      have h1 := hT.cell gKp i (by rw [List.length_map]; exact hi)
      rw [h1, List.getD_eq_getElem?_getD, List.getElem?_map, List.getD_eq_getElem?_getD, List.getElem?_eq_getElem (show i < shaK.length from hi)]
      rfl
    exact ⟨hc, World.block_lt_of_cell? W _ (hc 0 (by decide))⟩
  · obtain ⟨ps, hps, _, _⟩ := h
    obtain ⟨_, _, _, _, _, _, _, _, _, _, h1, _⟩ := hps
    obtain ⟨_, _, _, _, _, _, _, _, _, _, h2, _⟩ := h1
    obtain ⟨g0, t0, cs0, f0, p0, q0, hg0, ht0, hv0, hd0, _⟩ := h2
    obtain rfl := Option.some.inj (gInv.symm.trans hg0)
    obtain rfl := Option.some.inj (tInv.symm.trans ht0)
    obtain ⟨f', u, v, hcs, _, _⟩ := iface_of_trod Tryd.underlying120 hd0
    have := World.var?_cell hg0 hv0 0
    rw [Array.eq_one_of_toList hcs] at this
    exact ⟨.iface u v, by simpa using this⟩

set_option maxRecDepth 100000 in
theorem slice_block {W : World} {b0 : Nat} {t e : TypeId} {a : Addr} {n c : Nat} (ht : Tryd.prog.underlying t = some (.slice e)) (h : Value.okWide Tryd.prog W .any b0 t (.slice (some a) n c)) : a.block < W.heap.size := by
  unfold Value.okWide at h
  rw [ht] at h
  simp only [Cell.okWide, ht, Cell.ok] at h
  obtain ⟨_, _, row, cells, hs, _⟩ := h.2.2
  unfold World.shape? at hs
  split at hs
  · rename_i hh; exact lt_of_heap hh
  · cases hs
section
variable {H : Type} {enc : TypeId × Value → H}
set_option maxRecDepth 100000 in
theorem open_bytes {W : World} {b0 : Nat} {v : Value} {d : DataW H} {p : List MemPlace} (hv : Value.okWide Tryd.prog W .any b0 22 v) (h : DataW.Trod enc Tryd.prog W 0 (fun _ => true) true 22 v d p) :
    ∃ (A : Option Addr) (c : Nat) (l : List UInt8), v = .slice A l.length c ∧ l.length ≤ c ∧ c ≤ maxLen ∧ Rd W W.heap.size 1 A l.length (bc l) ∧ ∀ ad, A = some ad → ad.block < W.heap.size := by
  obtain ⟨A, n, c, rfl⟩ := okWide_slice Tryd.underlying22 hv
  obtain ⟨fuel, h⟩ := h
  obtain ⟨A', c', l, hcs, hl, hc, hr⟩ := bytes_read Tryd.underlying22 Tryd.underlying5 (by kernel_rfl) h
  cases hcs
  exact ⟨A, c, l, rfl, hl, hc, hr, fun ad e => by subst e; exact slice_block Tryd.underlying22 hv⟩
set_option maxRecDepth 100000 in
theorem open_numbers {W : World} {b0 : Nat} {v : Value} {d : DataW H} {p : List MemPlace} (hv : Value.okWide Tryd.prog W .any b0 60 v) (h : DataW.Trod enc Tryd.prog W 0 (fun _ => true) true 60 v d p) :
    ∃ (A : Option Addr) (c : Nat) (l : List Int), v = .slice A l.length c ∧ l.length ≤ c ∧ Rd W W.heap.size 1 A l.length (ic l) ∧ ∀ x ∈ l, -9223372036854775808 ≤ x ∧ x ≤ 9223372036854775807 := by
  obtain ⟨A, n, c, rfl⟩ := okWide_slice Tryd.underlying60 hv
  obtain ⟨fuel, h⟩ := h
  rcases open_ints Tryd.underlying60 Tryd.underlying3 (by kernel_rfl) h with ⟨h0, _⟩ | ⟨a, len, cap, zs, h0, _, hl, hm, hz, _, hcell, hwf⟩
  · cases h0
    exact ⟨none, 0, [], rfl, Nat.le_refl _, Rd.nil _ _ _ _, by simp⟩
  · cases h0
    have hlen : n ≤ zs.length := by rw [hz]; split <;> omega
    have hcs : (zs.take n).length = n := by rw [List.length_take]; omega
    refine ⟨some a, c, zs.take n, by rw [hcs], by rw [hcs]; exact hl, ⟨by unfold ic; rw [List.length_map]; omega, ?_⟩, fun x hx => wf64 (hwf x (List.mem_of_mem_take hx))⟩
    intro j u hu
    unfold ic at hu
    rw [List.getElem?_map] at hu
    have hj : j < n := by
      rcases Nat.lt_or_ge j n with h' | h'
      · exact h'
      · rw [List.getElem?_eq_none (by rw [hcs]; exact h')] at hu; cases hu
    have h3 := hcell j (by omega)
    refine ⟨a, rfl, (block_add a j) ▸ (World.block_lt_of_cell? W (a.add j) h3), ?_⟩
    rw [h3]
    rw [List.getElem?_take, if_pos hj, List.getElem?_eq_getElem (by omega)] at hu
    rw [List.getD_eq_getElem?_getD, List.getElem?_eq_getElem (by omega)]
    simpa using hu
end

set_option maxRecDepth 100000 in
theorem fnParts_lifted (os : Os) (started : os.Started) (H : Type) (enc : TypeId × Value → H) :
    ReturnsInHanded {} Tryd.checked os 5 .any (fun w args => (Rows.fnPartsSpec.pre enc Tryd.prog Tryd.f5 [] false w args ∧ laidMetH Tryd.prog Rows.fnPartsRow.laid w) ∧ sizedMet enc Tryd.prog Tryd.f5 (OpenSpec.ofChange Rows.fnPartsSpec) false w args)
      (Rows.fnPartsSpec.post enc Tryd.prog Tryd.f5 false true false false) := by
  refine returnsInHanded_of_change_and (C := Tryd.checked) (X := fun w _ => laidMetH Tryd.prog Rows.fnPartsRow.laid w) (fun _ _ _ hh h => h.of_heap hh) Tryd.own started (by kernel_rfl) Tryd.func5
    (ChangeSpec.witness_shaped (enc := enc) (C := Tryd.checked) (os := os) (X := fun w _ => laidMetH Tryd.prog Rows.fnPartsRow.laid w) false (World.doorLaid Tryd.prog 400 os) #[.slice none 0 0, .int .i64 0, .slice none 0 0, .int .i64 0, .slice none 0 0] 8 rfl (World.shaped_of_RefB (by kernel_rfl) (by kernel_rfl)) (by kernel_rfl) (by kernel_rfl) (by kernel_rfl) (door_parts os _)) ?_
  intro W base args ds gs before hval0 hW _ _ hL _
  have hval : ∀ (j : Nat) t v, Tryd.f5.params[j]? = some t → args[j]? = some v → Value.okWide Tryd.prog W .any base t v := hval0
  have hW' := hW
  obtain ⟨p, q, hA0, hV, rfl, hfz, hnd⟩ := hW
  have hA : DataW.TrodAll enc Tryd.prog W 0 (fun _ => true) true Tryd.f5.params.toList args.toList ds p := hA0
  have hA1 := hA
  rw [Tryd.params5] at hA hval
  obtain ⟨v0, r0, d0, s0, p0, q0, ha0, rfl, rfl, h0, hA⟩ := trodAll_cons hA
  obtain ⟨v1, r1, d1, s1, p1, q1, rfl, rfl, rfl, h1, hA⟩ := trodAll_cons hA
  obtain ⟨v2, r2, d2, s2, p2, q2, rfl, rfl, rfl, h2, hA⟩ := trodAll_cons hA
  obtain ⟨v3, r3, d3, s3, p3, q3, rfl, rfl, rfl, h3, hA⟩ := trodAll_cons hA
  obtain ⟨v4, r4, d4, s4, p4, q4, rfl, rfl, rfl, h4, hA⟩ := trodAll_cons hA
  obtain ⟨rfl, rfl, rfl⟩ := trodAll_nil hA
  obtain rfl : args = #[v0, v1, v2, v3, v4] := by cases args; simp_all
  obtain ⟨rfl, rfl⟩ := trodVars_none hV
  obtain ⟨DA, dc, dl, rfl, g0, _, hr0, hb0⟩ := open_bytes (hval 0 22 v0 rfl rfl) h0
  obtain ⟨sz, rfl, rfl, rfl, wb1⟩ := open_int Tryd.underlying3 (hval 1 3 v1 rfl rfl) h1
  obtain ⟨OA, oc, ol, rfl, g2, hr2, hb2⟩ := open_numbers (hval 2 60 v2 rfl rfl) h2
  obtain ⟨pl, rfl, rfl, rfl, wb3⟩ := open_int Tryd.underlying3 (hval 3 3 v3 rfl rfl) h3
  obtain ⟨TA, tc, tl, rfl, g4, _, hr4, hb4⟩ := open_bytes (hval 4 22 v4 rfl rfl) h4
  obtain ⟨hK, hE⟩ := of_parts hL
  clear hA0 hval0 hA
  simp only [List.append_nil] at hW' hA1
  refine (fnParts_any DA OA TA dc oc tc dl tl ol sz pl W hr0 g0 hb0 hr2 g2 hb2 hr4 g4 hb4 (wf64 wb1) (wf64 wb3) hK hE).mono fun e W' ⟨he, hw⟩ => ?_
  subst he
  exact ⟨_, rfl, post_true (tb := 4) Tryd.laidOut rfl Tryd.underlying4 rfl rfl (by kernel_rfl) hW' hA1 hw⟩
end Go.Proofs.YtikikddkhikfkaaDoor
