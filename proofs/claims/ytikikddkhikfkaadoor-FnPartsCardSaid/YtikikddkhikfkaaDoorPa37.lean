/-
  A set of parts: AddPart: the walk. Printed by gen_addpart.py. By the session.
-/
import Derived.Test.YtikikddkhikfkaaDoorPa36
import Derived.Test.YtikikddkhikfkaaDoorPa35
set_option linter.all false
namespace Go.Proofs.YtikikddkhikfkaaDoor
open Go.RowKit

/-- all blocks but those of a set, its parts and its bits are as they were -/
def KeepP (w w' : World) : Prop := ∀ q t cs, t ≠ 169 → t ≠ 117 → t ≠ 84 → Blk w q t cs → Blk w' q t cs
theorem own_keepT {w w' : World} {base e size n : Nat} {v : Value} {xs : List Value} (h : w.ownsRow base e size v n xs) (hk : ∀ k cs, Blk w k e cs → Blk w' k e cs) : w'.ownsRow base e size v n xs := by
  rcases h.2 with h1 | ⟨g, cap, cur, hv, hb, hh, hr⟩
  · exact ⟨h.1, .inl h1⟩
  · exact ⟨h.1, .inr ⟨g, cap, cur, hv, hb, hk g cur hh, hr⟩⟩
theorem BitsOk.keepX {w w' : World} {lo gb n : Nat} {x : TypeId} (h : BitsOk w lo gb n) (k : KeepX x w w') (h1 : 199 ≠ x) (h2 : 84 ≠ x) : BitsOk w' lo gb n := by
  obtain ⟨q, e, xs, g1, g2, g3, g4, g5⟩ := h
  exact ⟨q, e, xs, g1, g2, k _ _ _ h1 g3, own_keepX g4 k h2, g5⟩
theorem lt_of_own {w : World} {base e size P n c : Nat} {xs : List Value} (h : w.ownsRow base e size (.slice (some ⟨P, 0, none⟩) n c) n xs) : P < w.heap.size := (h.lt P rfl).2
theorem cell_lt {w : World} {a : Addr} {v : Value} (h : w.cell? a = some v) : a.block < w.heap.size := by
  rcases Nat.lt_or_ge a.block w.heap.size with h1 | h1
  · exact h1
  · exfalso
    unfold World.cell? at h
    rw [Array.getElem?_eq_none h1] at h
    simp at h
set_option maxRecDepth 100000 in
set_option maxHeartbeats 12800000 in
theorem addPart_any (lo g n i p rc cnt : Nat) (RA : Addr) (ls : List (List UInt8)) (data : List UInt8) (ps : List (Option Nat)) (w : World) (hG : Got w lo g n RA rc ps cnt) (hP : PartAt w ls i data p) (hn : ls.length = n) (hi : i < n) (hn6 : n ≤ 1000000) (hcnt : cnt ≤ 1000000) (hdl : data.length ≤ 1000000)
    (hroot : Rd w w.heap.size 1 (some RA) 32 (bc (rootL ls))) (herr : ∃ v, w.cell? ⟨1, 0, none⟩ = some v) (hK : Kw w) :
    Calls Tryd.prog 56 #[.pointer (some ⟨g, 0, none⟩), .pointer (some ⟨p, 0, none⟩)] w fun e w' => (ps[i]? = some none ∧ leafL (ls.getD i []) = leafL data → ∃ v, e = .returned (.tuple #[.bool true, v]) ∧ Got w' lo g n RA rc (ps.set i (some p)) (cnt + 1)) ∧ (¬ (ps[i]? = some none ∧ leafL (ls.getD i []) = leafL data) → ∃ v, e = .returned (.tuple #[.bool false, v]) ∧ Got w' lo g n RA rc ps cnt) ∧ Below lo w w' ∧ KeepP w w' := by
  have HG := Lib.hid hG; have HPT := Lib.hid hP
  obtain ⟨PA, pc, gb, sz, hlg, hgb, hown, hbits⟩ := hG
  obtain ⟨BA, LA, AA, bcp, lc, ac, au, hpb, hau, hauc, hla, hlc, hlb, hba, hbc, hbb, haus⟩ := hP
  have hpl : ps.length = n := by have := hown.1; rw [List.length_map] at this; omega
  have hgl := hgb.lt
  obtain ⟨P, hPA, hlP⟩ : ∃ P, PA = some ⟨P, 0, none⟩ ∧ lo ≤ P := by
    rcases hown.2 with ⟨_, h2⟩ | ⟨gg, cap, cur, hv, hlo, _⟩
    · omega
    · injection hv with h1 _ _; exact ⟨gg, h1, hlo⟩
  subst hPA
  obtain ⟨x, hx⟩ : ∃ x, ps[i]? = some x := ⟨_, List.getElem?_eq_getElem (by omega)⟩
  have hc0 : w.cell? ⟨P, i, none⟩ = some (ptrO x) := by rw [hown.cellAt i (by omega), List.getElem?_map, hx]; rfl
  have HOWN := Lib.hid hown; have HBITS := Lib.hid hbits; have HLO := Lib.hid (And.intro hlg (And.intro hgl hlP))
  have hng : ¬ (n : Int) ≤ (i : Int) := by omega
  have rg : ∀ j, w.cell? ⟨g, j, none⟩ = (#[.int .u32 (n : Int), .slice (some RA) 32 rc, .slice (some ⟨P, 0, none⟩) n pc, .pointer (some ⟨gb, 0, none⟩), .int .u32 (cnt : Int), .int .i64 sz] : Array Value)[j]? := fun j => hgb.cell j
  have rp : ∀ j, w.cell? ⟨p, j, none⟩ = (#[.int .u32 (i : Int), .slice BA data.length bcp, .int .i64 (n : Int), .int .i64 (i : Int), .slice LA 32 lc, .slice AA au.length ac] : Array Value)[j]? := fun j => by rw [← hn]; exact hpb.cell j
  have HGB := Lib.hid hgb
  have HPB := Lib.hid hpb
  cases x with
  | some q =>
    have hc : w.cell? ⟨P, i, none⟩ = some (.pointer (some ⟨q, 0, none⟩)) := hc0
    clear hc0 hgb hpb hown hbits
    go_enter Tryd.func56, Tryd.ntmps56
    go_wp2_with fail
    go_quiet (fail)
    go_wp2_with fail
    go_quiet (fail)
    go_wp2_with fail
    go_ret2
    refine ⟨fun h => ?_, fun _ => ⟨_, rfl, HG.out.below (below_drewN (below_drewN (Below.refl _ _) _) _)⟩, below_drewN (below_drewN (Below.refl _ _) _) _, fun q t cs _ _ _ hb => (hb.drewN _).drewN _⟩
    rw [hx] at h; cases h.1
  | none =>
    have hc : w.cell? ⟨P, i, none⟩ = some (.pointer none) := hc0
    clear hc0
    have KV := Lib.hid (fun (W : World) (hW : Below w.heap.size w W) => verify_any p ls i (by omega) (by omega) au haus i BA AA LA BA RA data.length bcp au.length ac lc data.length bcp rc data W (hpb.belowS hW) ((hau.below hW).sized hW.size) hauc ((hla.below hW).more hW.size) hlc (fun ad e => Nat.lt_of_lt_of_le (hlb ad e) hW.size) ((hroot.below hW).more hW.size) ((hba.below hW).more hW.size) hbc (by omega) (fun ad e => Nat.lt_of_lt_of_le (hbb ad e) hW.size) (hK.belowS hW))
    clear hau hauc hla hlc hlb hba hbc hbb haus hroot hK hown hbits hgb hpb
    have hS0 : Hid (w.cell? ⟨p, 1, none⟩ = some (.slice BA data.length bcp) ∧ Blk w g 169 (psC n (some RA) 32 rc (some ⟨P, 0, none⟩) n pc (ptrTo gb) cnt sz)) := Lib.hid ⟨rp 1, HGB.out⟩
    go_enter Tryd.func56, Tryd.ntmps56
    go_wp2_with fail
    go_quiet (fail)
    go_wp2_with fail
    go_quiet (fail)
    go_wp2_with fail
    go_quiet (fail)
    go_wp2_with fail
    have hBW : ∀ N, Below w.heap.size w (w.drewN N) := fun N => below_drewN (Below.refl _ _) N
    rename_i KK hKK
    refine wp_region_L (fun w' : World => w'.cell? ⟨p, 1, none⟩ = some (.slice BA data.length bcp) ∧ Blk w' g 169 (psC n (some RA) 32 rc (some ⟨P, 0, none⟩) n pc (ptrTo gb) cnt sz)) 10 (by kernel_rfl) ?_
    refine wpAnyL_take 0 (v := .pointer (some ⟨p, 0, none⟩)) rfl (by kernel_rfl) (fun _ _ _ h => h) (yields_on (by kernel_rfl) (fun w' hw' => by go_simp)) hS0.out ?_
    simp only [Act.put, List.setIfInBounds_toArray, List.set_cons_zero, List.set_cons_succ]
    refine wpAnyL_take 1 (v := .pointer (some ⟨p, 0, none⟩)) rfl (by kernel_rfl) (fun _ _ _ h => h) (yields_on (by kernel_rfl) (fun w' hw' => by go_simp)) hS0.out ?_
    simp only [Act.put, List.setIfInBounds_toArray, List.set_cons_zero, List.set_cons_succ]
    refine wpAnyL_take 2 (v := .pointer (some ⟨p, 2, none⟩)) rfl (by kernel_rfl) (fun _ _ _ h => h) (yields_on (by kernel_rfl) (fun w' hw' => by go_simp)) hS0.out ?_
    simp only [Act.put, List.setIfInBounds_toArray, List.set_cons_zero, List.set_cons_succ]
    refine wpAnyL_take 3 (v := .pointer (some ⟨g, 0, none⟩)) rfl (by kernel_rfl) (fun _ _ _ h => h) (yields_on (by kernel_rfl) (fun w' hw' => by go_simp)) hS0.out ?_
    simp only [Act.put, List.setIfInBounds_toArray, List.set_cons_zero, List.set_cons_succ]
    refine wpAnyL_take 5 (v := .pointer (some ⟨p, 0, none⟩)) rfl (by kernel_rfl) (fun _ _ _ h => h) (yields_on (by kernel_rfl) (fun w' hw' => by go_simp)) hS0.out ?_
    simp only [Act.put, List.setIfInBounds_toArray, List.set_cons_zero, List.set_cons_succ]
    refine wpAnyL_take 6 (v := .pointer (some ⟨p, 0, none⟩)) rfl (by kernel_rfl) (fun _ _ _ h => h) (yields_on (by kernel_rfl) (fun w' hw' => by go_simp)) hS0.out ?_
    simp only [Act.put, List.setIfInBounds_toArray, List.set_cons_zero, List.set_cons_succ]
    refine wpAnyL_take 7 (v := .pointer (some ⟨p, 1, none⟩)) rfl (by kernel_rfl) (fun _ _ _ h => h) (yields_on (by kernel_rfl) (fun w' hw' => by go_simp)) hS0.out ?_
    simp only [Act.put, List.setIfInBounds_toArray, List.set_cons_zero, List.set_cons_succ]
    refine wpAnyL_take 8 (v := .slice BA data.length bcp) rfl (by kernel_rfl) (fun _ _ _ h => h) (yields_on (by kernel_rfl) (fun w' hw' => by have r := hw'.1; go_simp)) hS0.out ?_
    simp only [Act.put, List.setIfInBounds_toArray, List.set_cons_zero, List.set_cons_succ]
    refine wpAnyL_one 4 rfl (by kernel_rfl) rfl ?_
    go_simp
    refine (pshash_any g n (some RA) 32 rc (some ⟨P, 0, none⟩) n pc (ptrTo gb) cnt sz _ (HGB.out.drewN _)).mono ?_
    rintro e w1 ⟨rfl, rfl⟩
    refine ⟨hS0.out, ?_⟩
    refine wpAnyL_one 9 rfl (by kernel_rfl) rfl ?_
    go_simp
    refine (KV.out _ (hBW _)).mono ?_
    rintro e w1 ⟨hv1, hv2, hb1⟩
    have hb1 : Below w.heap.size w w1 := (hBW _).trans hb1
    have hS1 : Hid (w1.cell? ⟨p, 1, none⟩ = some (.slice BA data.length bcp) ∧ Blk w1 g 169 (psC n (some RA) 32 rc (some ⟨P, 0, none⟩) n pc (ptrTo gb) cnt sz)) := Lib.hid ⟨(hb1.cell (p := ⟨p, 1, none⟩) HPB.out.lt).trans hS0.out.1, HGB.out.belowS hb1⟩
    have HB1 := Lib.hid hb1
    have rg1 : ∀ j, w1.cell? ⟨g, j, none⟩ = (#[.int .u32 (n : Int), .slice (some RA) 32 rc, .slice (some ⟨P, 0, none⟩) n pc, .pointer (some ⟨gb, 0, none⟩), .int .u32 (cnt : Int), .int .i64 sz] : Array Value)[j]? := fun j => hS1.out.2.cell j
    have rp1 : ∀ j, w1.cell? ⟨p, j, none⟩ = (#[.int .u32 (i : Int), .slice BA data.length bcp, .int .i64 (n : Int), .int .i64 (i : Int), .slice LA 32 lc, .slice AA au.length ac] : Array Value)[j]? := fun j => by rw [← hn]; exact (HPB.out.belowS hb1).cell j
    have hc1 : w1.cell? ⟨P, i, none⟩ = some (.pointer none) := (hb1.cell (p := ⟨P, i, none⟩) (lt_of_own HOWN.out)).trans hc
    have hf1 : ∀ j, w1.frozen? ⟨P, j, none⟩ = false := fun j => (own_below HOWN.out hb1 (Nat.le_refl _)).frozenAt j
    have hgP : ¬ g = P := fun e => (own_ne_blk HOWN.out HGB.out (by decide)) (by rw [e]; rfl)
    have hPg : ¬ P = g := fun e => hgP e.symm
    have hpP : ¬ p = P := fun e => (own_ne_blk HOWN.out HPB.out (by decide)) (by rw [e]; rfl)
    have hPp : ¬ P = p := fun e => hpP e.symm
    clear rg rp hc hb1
    by_cases heq : leafL (ls.getD i []) = leafL data
    · obtain rfl := hv1 heq
      clear hv1 hv2
      refine ⟨hS1.out, ?_⟩
      refine wpAnyL_one 10 rfl (by kernel_rfl) rfl ?_
      go_simp
      refine wpAnyL_done (by kernel_rfl) ?_ _
      refine hKK _ _ ?_
      clear hKK
      go_wp2_with fail
      go_region
      obtain ⟨W2, hW2⟩ : ∃ W2, W2 = w1.setCell ⟨P, i, none⟩ (.pointer (some ⟨p, 0, none⟩)) := ⟨_, rfl⟩
      rw [← hW2]
      have hox := own_below HOWN.out HB1.out (Nat.le_refl _)
      have kx := KeepX.row hox i (.pointer (some ⟨p, 0, none⟩))
      rw [← hW2] at kx
      have HG2 := Lib.hid (kx _ _ _ (by decide) hS1.out.2)
      have HP2 := Lib.hid (kx _ _ _ (by decide) (HPB.out.belowS HB1.out))
      have HO2 : Hid (W2.ownsRow lo 117 1 (.slice (some ⟨P, 0, none⟩) n pc) n ((ps.set i (some p)).map ptrO)) := Lib.hid (by
        have h1 := (hox.stored i (.pointer (some ⟨p, 0, none⟩))).1
        rw [List.map_set, hW2]; exact h1)
      have HBT2 := Lib.hid ((HBITS.out.below HB1.out).keepX (x := 117) kx (by decide) (by decide))
      have HB2 : Hid (Below lo w W2) := Lib.hid (by rw [hW2]; exact (HB1.out.mono (by have := HLO.out; omega)).setCell (p := ⟨P, i, none⟩) HLO.out.2.2 _)
      have HKK : Hid (∀ q t cs, t ≠ 117 → Blk w q t cs → Blk W2 q t cs) := Lib.hid fun q t cs ht hb => kx q t cs ht (hb.belowS HB1.out)
      have hS2 : Hid (W2.cell? ⟨g, 3, none⟩ = some (.pointer (some ⟨gb, 0, none⟩)) ∧ W2.cell? ⟨p, 0, none⟩ = some (.int .u32 (i : Int))) := Lib.hid ⟨HG2.out.cell 3, HP2.out.cell 0⟩
      have hwr : IntKind.i64.wrap (i : Int) = (i : Int) := by rw [IntKind.wrap_i64]; omega
      clear hox kx hW2 rg1 rp1 hc1 hf1 hS1 hgP hPg hpP hPp hS0
      go_wp2_with fail
      rename_i KK hKK
      refine wp_region_L (fun w' : World => w'.cell? ⟨g, 3, none⟩ = some (.pointer (some ⟨gb, 0, none⟩)) ∧ w'.cell? ⟨p, 0, none⟩ = some (.int .u32 (i : Int))) 9 (by kernel_rfl) ?_
      refine wpAnyL_take 0 (v := .pointer (some ⟨g, 0, none⟩)) rfl (by kernel_rfl) (fun _ _ _ h => h) (yields_on (by kernel_rfl) (fun w' hw' => by go_simp)) hS2.out ?_
      simp only [Act.put, List.setIfInBounds_toArray, List.set_cons_zero, List.set_cons_succ]
      refine wpAnyL_take 1 (v := .pointer (some ⟨g, 0, none⟩)) rfl (by kernel_rfl) (fun _ _ _ h => h) (yields_on (by kernel_rfl) (fun w' hw' => by go_simp)) hS2.out ?_
      simp only [Act.put, List.setIfInBounds_toArray, List.set_cons_zero, List.set_cons_succ]
      refine wpAnyL_take 2 (v := .pointer (some ⟨g, 3, none⟩)) rfl (by kernel_rfl) (fun _ _ _ h => h) (yields_on (by kernel_rfl) (fun w' hw' => by go_simp)) hS2.out ?_
      simp only [Act.put, List.setIfInBounds_toArray, List.set_cons_zero, List.set_cons_succ]
      refine wpAnyL_take 3 (v := .pointer (some ⟨gb, 0, none⟩)) rfl (by kernel_rfl) (fun _ _ _ h => h) (yields_on (by kernel_rfl) (fun w' hw' => by have r := hw'.1; go_simp)) hS2.out ?_
      simp only [Act.put, List.setIfInBounds_toArray, List.set_cons_zero, List.set_cons_succ]
      refine wpAnyL_take 4 (v := .pointer (some ⟨p, 0, none⟩)) rfl (by kernel_rfl) (fun _ _ _ h => h) (yields_on (by kernel_rfl) (fun w' hw' => by go_simp)) hS2.out ?_
      simp only [Act.put, List.setIfInBounds_toArray, List.set_cons_zero, List.set_cons_succ]
      refine wpAnyL_take 5 (v := .pointer (some ⟨p, 0, none⟩)) rfl (by kernel_rfl) (fun _ _ _ h => h) (yields_on (by kernel_rfl) (fun w' hw' => by go_simp)) hS2.out ?_
      simp only [Act.put, List.setIfInBounds_toArray, List.set_cons_zero, List.set_cons_succ]
      refine wpAnyL_take 6 (v := .pointer (some ⟨p, 0, none⟩)) rfl (by kernel_rfl) (fun _ _ _ h => h) (yields_on (by kernel_rfl) (fun w' hw' => by go_simp)) hS2.out ?_
      simp only [Act.put, List.setIfInBounds_toArray, List.set_cons_zero, List.set_cons_succ]
      refine wpAnyL_take 7 (v := .int .u32 (i : Int)) rfl (by kernel_rfl) (fun _ _ _ h => h) (yields_on (by kernel_rfl) (fun w' hw' => by have r := hw'.2; go_simp)) hS2.out ?_
      simp only [Act.put, List.setIfInBounds_toArray, List.set_cons_zero, List.set_cons_succ]
      refine wpAnyL_take 8 (v := .int .i64 (i : Int)) rfl (by kernel_rfl) (fun _ _ _ h => h) (yields_on (by kernel_rfl) (fun w' hw' => by go_simp)) hS2.out ?_
      simp only [Act.put, List.setIfInBounds_toArray, List.set_cons_zero, List.set_cons_succ]
      refine wpAnyL_one 9 rfl (by kernel_rfl) rfl ?_
      go_simp
      refine (SetIndex_any lo gb n i hi hn6 _ (HBT2.out.below (Below.refl _ _).drew.drew)).mono ?_
      rintro e w3 ⟨rfl, hbt3, hbl3, hk3⟩
      have HB3 : Hid (Below lo w w3) := Lib.hid (HB2.out.trans (((Below.refl _ _).drew.drew).trans hbl3))
      have k23 : KeepX 84 W2 w3 := fun k t cs ht hb => hk3 k t cs ht hb
      have HK3 : Hid (∀ q t cs, t ≠ 117 → t ≠ 84 → Blk w q t cs → Blk w3 q t cs) := Lib.hid fun q t cs h1 h2 hb => k23 q t cs h2 (HKK.out q t cs h1 hb)
      have HG3 := Lib.hid (k23 _ _ _ (by decide) HG2.out)
      have HP3 := Lib.hid (k23 _ _ _ (by decide) HP2.out)
      have HO3 := Lib.hid (own_keepX HO2.out k23 (by decide))
      have HBT3 := Lib.hid hbt3
      have rg3 : ∀ j, w3.cell? ⟨g, j, none⟩ = (#[.int .u32 (n : Int), .slice (some RA) 32 rc, .slice (some ⟨P, 0, none⟩) n pc, .pointer (some ⟨gb, 0, none⟩), .int .u32 (cnt : Int), .int .i64 sz] : Array Value)[j]? := fun j => HG3.out.cell j
      have rp3 : ∀ j, w3.cell? ⟨p, j, none⟩ = (#[.int .u32 (i : Int), .slice BA data.length bcp, .int .i64 (n : Int), .int .i64 (i : Int), .slice LA 32 lc, .slice AA au.length ac] : Array Value)[j]? := fun j => by rw [← hn]; exact HP3.out.cell j
      have hf3 : ∀ j, w3.frozen? ⟨g, j, none⟩ = false := fun j => HG3.out.free j
      have hgp : ¬ g = p := Blk.ne HG3.out HP3.out (by decide)
      have hpg : ¬ p = g := fun e => hgp e.symm
      clear hbt3 hbl3 hk3 k23
      refine wpAnyL_done (by kernel_rfl) ?_ _
      refine hKK _ _ ?_
      clear hKK
      go_wp2_with fail
      go_region
      have f1 : Blk ((w3.setCell ⟨g, 4, none⟩ (.int .u32 ((cnt : Int) + 1))).setCell ⟨g, 5, none⟩ (.int .i64 (wrap64 (sz + data.length)))) g 169 (psC n (some RA) 32 rc (some ⟨P, 0, none⟩) n pc (ptrTo gb) (cnt + 1) (wrap64 (sz + data.length))) := (HG3.out.put 4 (.int .u32 ((cnt : Int) + 1))).put 5 _
      have kx1 := KeepX.put HG3.out 4 (.int .u32 ((cnt : Int) + 1))
      have kx2 := kx1.trans (KeepX.put (HG3.out.put 4 (.int .u32 ((cnt : Int) + 1))) 5 (.int .i64 (wrap64 (sz + data.length))))
      have f2 := own_keepX HO3.out kx2 (by decide)
      have f3 := HBT3.out.keepX kx2 (by decide) (by decide)
      have f4 : Below lo w ((w3.setCell ⟨g, 4, none⟩ (.int .u32 ((cnt : Int) + 1))).setCell ⟨g, 5, none⟩ (.int .i64 (wrap64 (sz + data.length)))) := (HB3.out.setCell (p := ⟨g, 4, none⟩) HLO.out.1 _).setCell (p := ⟨g, 5, none⟩) HLO.out.1 _
      have FG : Hid (Got ((w3.setCell ⟨g, 4, none⟩ (.int .u32 ((cnt : Int) + 1))).setCell ⟨g, 5, none⟩ (.int .i64 (wrap64 (sz + data.length)))) lo g n RA rc (ps.set i (some p)) (cnt + 1)) := Lib.hid ⟨some ⟨P, 0, none⟩, pc, gb, _, HLO.out.1, f1, f2, f3⟩
      have FB := Lib.hid f4
      have FK : Hid (KeepP w ((w3.setCell ⟨g, 4, none⟩ (.int .u32 ((cnt : Int) + 1))).setCell ⟨g, 5, none⟩ (.int .i64 (wrap64 (sz + data.length))))) := Lib.hid fun q t cs h1 h2 h3 hb => kx2 q t cs h1 (HK3.out q t cs h2 h3 hb)
      clear f1 f2 f3 f4 kx1 kx2 rg3 rp3 hf3
      go_wp2_with fail
      go_ret2
      exact ⟨fun _ => ⟨_, rfl, FG.out.below (Below.refl _ _).drew⟩, fun h => absurd ⟨hx, heq⟩ h, FB.out.drew, FK.out⟩
    · obtain ⟨t, v, rfl⟩ := hv2 heq
      clear hv1 hv2
      obtain ⟨ev, hev⟩ := herr
      refine ⟨hS1.out, ?_⟩
      refine wpAnyL_one 10 rfl (by kernel_rfl) rfl ?_
      go_simp
      refine wpAnyL_done (by kernel_rfl) ?_ _
      refine hKK _ _ ?_
      clear hKK
      have hev1 : w1.cell? ⟨1, 0, none⟩ = some ev := (HB1.out.cell (p := ⟨1, 0, none⟩) (cell_lt hev)).trans hev
      go_wp2_with fail
      go_quiet (fail)
      go_wp2_with fail
      go_ret2
      exact ⟨fun h => absurd h.2 heq, fun _ => ⟨_, rfl, (HG.out.below HB1.out).below (below_drewN (Below.refl _ _) _)⟩, below_drewN (HB1.out.mono (by have := HLO.out; omega)) _, fun q t cs _ _ _ hb => (hb.belowS HB1.out).drewN _⟩
end Go.Proofs.YtikikddkhikfkaaDoor
