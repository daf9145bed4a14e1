/-
  A part with other bytes: impl.PartTaken: the walk. By the session. slices.Clone on ints: the walk. By the session.
-/
import Derived.Test.YtikikddkhikfkaaDoorPa38
set_option linter.all false
namespace Go.Proofs.YtikikddkhikfkaaDoor
open Go.RowKit

set_option maxRecDepth 100000 in
set_option maxHeartbeats 12800000 in
theorem partTaken_any (a : Addr) (dc S oc j : Nat) (OA : Option Addr) (d oth : List UInt8) (w : World) (hr : Rd w w.heap.size 1 (some a) d.length (bc d)) (hdc : d.length ≤ dc) (hab : a.block < w.heap.size) (hd1 : 1 ≤ d.length) (hd : d.length ≤ 5000) (hS1 : 16 ≤ S) (hS : S ≤ 1015) (hK : Kw w) (herr : ∃ v, w.cell? ⟨1, 0, none⟩ = some v)
    (hro : Rd w w.heap.size 1 OA oth.length (bc oth)) (hoc : oth.length ≤ oc) (hob : ∀ ad, OA = some ad → ad.block < w.heap.size) (hol : oth.length ≤ 5000) (hj : j < chunkN S d.length) :
    Calls Tryd.prog 24 #[.slice (some a) d.length dc, .int .i64 (S : Int), .int .i64 (j : Int), .slice OA oth.length oc] w fun e w' => e = .returned (.bool (decide (leafL (chunkS S d j) = leafL oth))) ∧ Below w.heap.size w w' := by
  obtain ⟨L, hL⟩ : ∃ L, L = d.length := ⟨_, rfl⟩
  obtain ⟨n, hn⟩ : ∃ n, n = chunkN S L := ⟨_, rfl⟩
  have hnL : n ≤ L := by rw [hn]; exact chunkN_le (by omega)
  have hn1 : 1 ≤ n := by rw [hn]; exact chunkN_pos (by omega) (by omega)
  have KN := Lib.hid (newSet_any a dc S d w hr hdc hab hd1 hd hS1 hS hK)
  have hcl := chunksL_len S d
  rw [← hL] at KN hd1 hd hj hcl ⊢
  rw [← hn] at KN hj hcl
  have HK := Lib.hid hK; have HE := Lib.hid herr; have HRO := Lib.hid (And.intro hro (And.intro hoc (And.intro hob hol))); have HN := Lib.hid (And.intro hn hL)
  clear hr hdc hab hK herr hro hob hn hL hoc hol
  go_enter Tryd.func24, Tryd.ntmps24
  go_wp2_with fail
  refine KN.out.mono ?_
  rintro e w1 ⟨g, PA, pc, bs, RA, rc, bits, sz, rfl, hgs, hbs, hrt, hrb, hrc, hpt, hb1⟩
  have hbl : bs.length = n := by have := hbs.1; rw [List.length_map] at this; omega
  have HGS := Lib.hid hgs; have HBS := Lib.hid hbs; have HRT := Lib.hid hrt; have HPT := Lib.hid hpt; have HB1 := Lib.hid hb1; have HBL := Lib.hid hbl; have HRC := Lib.hid (And.intro hrb hrc)
  clear hgs hbs hrt hpt hb1 hbl hrb hrc
  go_wp2_with fail
  refine (psheader_any g n (some RA) 32 rc PA n pc bits n sz w1 HGS.out).mono ?_
  rintro e w2 ⟨rfl, hb2⟩
  have HB2 := Lib.hid hb2
  clear hb2
  go_wp2_with fail
  refine (fromHd_any n rc RA w2 hn1 (by omega)).mono ?_
  rintro e w3 ⟨g2, rfl, hgot, hb3⟩
  have HGT := Lib.hid hgot; have HB3 := Lib.hid (HB2.out.trans (hb3.mono HB2.out.size))
  have HS2 := Lib.hid HB2.out.size; have HS3 := Lib.hid hb3.size
  clear hgot hb3
  obtain ⟨p, hp⟩ : ∃ p, bs[j]? = some p := ⟨_, List.getElem?_eq_getElem (by have := HBL.out; omega)⟩
  obtain ⟨pa, hPA, hpab, hpc0⟩ := HBS.out.2 j (ptrTo p) (by rw [List.getElem?_map, hp]; rfl)
  have hpc : w3.cell? (pa.add j) = some (.pointer (some ⟨p, 0, none⟩)) := (HB3.out.cell (by rw [add_block]; exact hpab)).trans hpc0
  have hgd : (chunksL S d).getD j [] = chunkS S d j := chunksL_getD (by rw [← HN.out.2, ← HN.out.1]; exact hj)
  have KG := Lib.hid (getPart_any g n (some RA) 32 rc PA n pc bits n sz w3 (HGS.out.belowS HB3.out) j hj pa hPA (.pointer (some ⟨p, 0, none⟩)) hpc)
  obtain ⟨BA, LA, AA, bcp, lc, ac, au, hpb, hau, hauc, hla, hlc, hlb, hba, hbc, hbb, haus⟩ := (HPT.out j p hp).below HB3.out
  have rp : ∀ t, w3.cell? ⟨p, t, none⟩ = (#[.int .u32 (j : Int), .slice BA (chunkS S d j).length bcp, .int .i64 (n : Int), .int .i64 (j : Int), .slice LA 32 lc, .slice AA au.length ac] : Array Value)[t]? := fun t => by rw [← hcl]; exact hpb.cell t
  have HGD := Lib.hid hgd; have HAU := Lib.hid (And.intro hau (And.intro hauc (And.intro hla (And.intro hlc (And.intro hlb haus)))))
  clear hpc0 hpab hpc hgd hp hPA hpb hau hauc hla hlc hlb hba hbc hbb haus
  go_wp2_with fail
  refine KG.out.mono ?_
  rintro e w9 ⟨rfl, rfl⟩
  go_wp2_with fail
  obtain ⟨W, hW⟩ : ∃ W, W = w3.alloc (.cells #[.int .u32 (j : Int), .slice OA oth.length oc, .int .i64 (n : Int), .int .i64 (j : Int), .slice LA 32 lc, .slice AA au.length ac] 131) := ⟨_, rfl⟩
  have hbW : Below w3.heap.size w3 W := by rw [hW]; exact (Below.refl _ _).alloc (Nat.le_refl _) _
  have hnew : Blk W w3.heap.size 131 (partC j OA oth.length oc (chunksL S d).length j LA lc AA au.length ac) := by rw [hW, hcl]; exact Blk.new _ _ _
  rw [← hW]
  clear hW rp
  have hb01 := HB1.out
  have hb03 : Below w.heap.size w w3 := HB1.out.trans (HB3.out.mono HB1.out.size)
  have hb0W : Below w.heap.size w W := hb03.trans (hbW.mono hb03.size)
  have hb1W : Below w1.heap.size w1 W := HB3.out.trans (hbW.mono HB3.out.size)
  obtain ⟨hau, hauc, hla, hlc, hlb, haus⟩ := HAU.out
  obtain ⟨hro, hoc, hob, hol⟩ := HRO.out
  have hpart : PartAt W (chunksL S d) j oth w3.heap.size := ⟨OA, LA, AA, oc, lc, ac, au, hnew, (hau.below hbW).sized hbW.size, hauc, (hla.below hbW).more hbW.size, hlc, fun ad e => Nat.lt_of_lt_of_le (hlb ad e) hbW.size, (hro.below hb0W).more hb0W.size, hoc, fun ad e => Nat.lt_of_lt_of_le (hob ad e) hb0W.size, haus⟩
  refine (addPart_any w2.heap.size g2 n j w3.heap.size rc 0 RA (chunksL S d) oth (List.replicate n none) W (HGT.out.below hbW) hpart hcl hj (by omega) (by omega) (by omega) ((HRT.out.below hb1W).more hb1W.size) (by obtain ⟨v, hv⟩ := HE.out; exact ⟨v, (hb0W.cell (p := ⟨1, 0, none⟩) (cell_lt hv)).trans hv⟩) (HK.out.belowS hb0W)).mono ?_
  rintro e w5 ⟨ha1, ha2, hb5, hkp⟩
  have hns : (List.replicate n (none : Option Nat))[j]? = some none := by rw [List.getElem?_replicate, if_pos hj]
  have hex : ∃ v, e = .returned (.tuple #[.bool (decide (leafL (chunkS S d j) = leafL oth)), v]) := by
    by_cases hq : leafL (chunkS S d j) = leafL oth
    · obtain ⟨v, he, _⟩ := ha1 ⟨hns, by rw [HGD.out]; exact hq⟩
      exact ⟨v, by rw [he, decide_eq_true hq]⟩
    · obtain ⟨v, he, _⟩ := ha2 (fun h => hq (by rw [← HGD.out]; exact h.2))
      exact ⟨v, by rw [he, decide_eq_false hq]⟩
  obtain ⟨v, rfl⟩ := hex
  have HBE := Lib.hid (hb0W.trans (hb5.mono (Nat.le_trans HB1.out.size HS2.out)))
  clear ha1 ha2 hb5 hkp hb01 hb03 hb0W hb1W hau hauc hla hlc hlb haus hro hoc hob hol hpart hbW hnew
  go_wp2_with fail
  go_ret
  exact ⟨rfl, HBE.out⟩
end Go.Proofs.YtikikddkhikfkaaDoor

set_option linter.all false
namespace Go.Proofs.YtikikddkhikfkaaDoor
open Go.RowKit

theorem infoI1 : (Tryd.prog.info? 3).map (fun i => (i.zero, i.size, i.bytes)) = some (some (.int .i64 0), 1, 8) := by kernel_rfl
theorem ic_one (l : List Int) : ∀ u ∈ ic l, u.oneCell' = true := by
  intro u hu
  obtain ⟨x, _, rfl⟩ := List.mem_map.1 hu
  rfl
set_option maxRecDepth 100000 in
set_option maxHeartbeats 800000 in
theorem iclone_any (l : List Int) (A : Option Addr) (n c : Nat) (w : World) (hr : Rd w w.heap.size 1 A n (ic l)) (hn : n ≤ 1000000) :
    Calls Tryd.prog 20 #[.slice A n c] w fun e w' => ∃ A' c', e = .returned (.slice A' n c') ∧ w'.ownsRow w.heap.size 3 1 (.slice A' n c') n (ic l) ∧ Below w.heap.size w w' := by
  obtain ⟨i0, hi0, hz0, hz1, hz2⟩ := info_parts infoI1
  have HI := Lib.hid hi0; have HZ0 := Lib.hid hz0; have HZ1 := Lib.hid hz1; have HZ2 := Lib.hid hz2
  clear hi0 hz0 hz1 hz2
  have HR := Lib.hid hr
  have hnil := fun W A => Lib.run_eql_slice_nil (P := Tryd.prog) W 60 3 A n c 0 0 Tryd.underlying60
  cases A with
  | none =>
    have hn0 : n = 0 := by
      rcases Nat.eq_zero_or_pos n with h | h
      · exact h
      · have hl : 0 < (ic l).length := by rw [hr.1]; omega
        obtain ⟨ad, h, _⟩ := hr.2 0 _ (List.getElem?_eq_getElem hl)
        cases h
    subst hn0
    have hnil := hnil
    have hl0 : ic l = [] := List.eq_nil_of_length_eq_zero (by simpa using hr.1)
    have HL0 := Lib.hid hl0
    clear hr hl0
    go_enter Tryd.func20, Tryd.ntmps20
    go_wp2
    go_ret
    exact ⟨none, 0, rfl, by rw [HL0.out]; exact World.ownsRow_nil _ _ _ _, Below.refl _ _⟩
  | some ad =>
    clear hr
    go_enter Tryd.func20, Tryd.ntmps20
    go_wp2_with (at_builtin; refine wpList_app _ rfl (.tmp 5) (.tmp 6) 60 rfl w.heap.size 3 i0 _ 1 8 Tryd.underlying60 HI.out HZ0.out HZ1.out HZ2.out rfl (by decide) (.slice (some ⟨w.heap.size, 0, none⟩) 0 0) 0 [] rfl ?ho w.heap.size (some ad) n c (ic l) rfl ?hr (ic_one l) ?q1 ?q2 ?hb ?_; (case q1 => simp only [maxLen]; omega); (case q2 => omega); (case hr => exact Rd.below HR.out ((Below.refl _ _).alloc (Nat.le_refl _) _)); (case ho => exact World.ownsRow_made w #[] 0 (Nat.le_refl _) (by decide) rfl); (case hb => simp); intro A2 c2 w2 hown2 hg2 _; simp only [Nat.zero_add, List.nil_append] at hown2 hg2 ⊢)
    go_ret
    exact ⟨A2, c2, rfl, hown2, ((Below.refl _ _).alloc (Nat.le_refl _) _).grown hg2 (by simp) (fun k hk => by simp [Value.ownBlock] at hk; omega)⟩
end Go.Proofs.YtikikddkhikfkaaDoor
