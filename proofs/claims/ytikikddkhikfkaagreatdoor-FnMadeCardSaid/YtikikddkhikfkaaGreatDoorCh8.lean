/-
  types.SetOf: the walk. By the session. RescalePriorities and what it calls: walks. By the session. The set's power and its mean priority: updateTotalVotingPower, TotalVotingPower, computeAvgProposerPriority: walks. By the session. computeAvgProposerPriority, shiftByAvgProposerPriority: walks. By the session. shiftByAvgProposerPriority, getValWithMostPriority: walks. By the session. incrementProposerPriority: the walk. By the session.
-/
import Derived.Test.YtikikddkhikfkaaGreatDoorRows
import Derived.Test.YtikikddkhikfkaaGreatDoorCh1
import Derived.Test.YtikikddkhikfkaaGreatDoorCh6
import Derived.Test.YtikikddkhikfkaaGreatDoorCh7
import Derived.Test.YtikikddkhikfkaaGreatDoorCh3
set_option linter.unusedSimpArgs false
namespace Go.Proofs.YtikikddkhikfkaaGreatDoor
open Go.RowKit

theorem infoPVal : (Tryz.prog.info? 126).map (fun i => (i.zero, i.size, i.bytes)) = some (some (.pointer none), 1, 8) := by kernel_rfl

set_option maxRecDepth 100000 in
set_option maxHeartbeats 1600000 in
theorem setOf_any (ts : List Tv) (A : Option Addr) (n c : Nat) (w : World) (hr : Rd w w.heap.size 4 A n (ts.flatMap Tv.seat)) (hok : ∀ t ∈ ts, t.ok w) (hn : n ≤ 1000000) :
    Calls Tryz.prog 33 #[.slice A n c] w fun e w' => ∃ (A' : Option Addr) (c' : Nat) (bs : List Nat), e = .returned (ptrTo w.heap.size) ∧ VSet w' w.heap.size w.heap.size A' c' bs ts (pval bs (propOf (ts.map Tv.x))) 0 true ∧ Below w.heap.size w w' := by
  obtain ⟨i0, hi0, hz0, hz1, hz2⟩ := info_parts infoPVal
  have HI := Lib.hid hi0; have HZ0 := Lib.hid hz0; have HZ1 := Lib.hid hz1; have HZ2 := Lib.hid hz2
  clear hi0 hz0 hz1 hz2
  have hln : ts.length = n := by have := hr.1; rw [flat_length Tv.seat 4 (fun _ => rfl)] at this; omega
  have HLN := Lib.hid hln; clear hln
  have HR := Lib.hid hr; clear hr
  have HOK := Lib.hid hok; clear hok
  go_enter Tryz.func33, Tryz.ntmps33
  go_wp2
  go_loopw [10] (fun i wr => ∃ (k : Nat) (A1 : Option Addr) (c1 : Nat) (bs : List Nat), k ≤ n ∧ i = .int .i64 k ∧ Hid (Blk wr w.heap.size 128 #[.slice A1 k c1, .pointer none, .int .i64 0, .bool false]) ∧ Hid (wr.ownsRow w.heap.size 126 1 (.slice A1 k c1) k (bs.map ptrTo)) ∧ Hid (bs.Nodup) ∧ Hid (∀ (j b : Nat) (t : Tv), bs[j]? = some b → ts[j]? = some t → w.heap.size < b ∧ Blk wr b 136 t.val) ∧ Hid (Below w.heap.size w wr)) (fun i _ => n - (intOf i).toNat)
  case atStart => exact ⟨0, none, 0, [], Nat.zero_le _, rfl, Blk.new w _ _, World.ownsRow_nil _ _ _ _, List.nodup_nil, (fun j b t h => by simp at h), (Below.refl _ _).alloc (Nat.le_refl _) _⟩
  case round =>
    obtain ⟨k, A1, c1, bs, hk, rfl, HG, HO, HN, HV, HB⟩ := hrel
    have hz := HB.out.size
    have hg : w.heap.size < wr.heap.size := HG.out.lt
    have g0 : wr.cell? ⟨w.heap.size, 0, none⟩ = some (.slice A1 k c1) := HG.out.cell 0
    by_cases hlt : k < n
    · have hk' : k < ts.length := by have := HR.out.1; rw [flat_length Tv.seat 4 (fun _ => rfl)] at this; omega
      have hx : ts[k]? = some ts[k] := List.getElem?_eq_getElem hk'
      obtain ⟨ad, rfl, _, c0, c1', c2, c3⟩ := (HR.out.below HB.out).four (fun _ => rfl) hx
      generalize ts[k] = t at *
      have HX := Lib.hid hx; clear hx
      simp only [Tv.seat, List.getElem?_cons_zero, List.getElem?_cons_succ] at c0 c1' c2 c3
      go_wp2_with fail
      have hS : (fun w' : World => w'.cell? ⟨w.heap.size, 0, none⟩ = some (.slice A1 k c1) ∧ w'.cell? ⟨wr.heap.size, 0, none⟩ = some (.slice t.A t.x.adr.size t.c) ∧ w'.cell? ⟨wr.heap.size, 1, none⟩ = some (.slice t.K t.x.key.size t.d) ∧ w'.cell? ⟨wr.heap.size, 2, none⟩ = some (.int .i64 t.x.pow) ∧ w'.cell? ⟨wr.heap.size, 3, none⟩ = some (.int .i64 t.x.pri)) (wr.alloc (.cells #[.slice t.A t.x.adr.size t.c, .slice t.K t.x.key.size t.d, .int .i64 t.x.pow, .int .i64 t.x.pri] 130)).drew := ⟨(HG.out.alloc _).drew.cell 0, (Blk.new wr _ _).drew.cell 0, (Blk.new wr _ _).drew.cell 1, (Blk.new wr _ _).drew.cell 2, (Blk.new wr _ _).drew.cell 3⟩
      have HS := Lib.hid hS; clear hS
      refine wp_region_L (fun w' : World => w'.cell? ⟨w.heap.size, 0, none⟩ = some (.slice A1 k c1) ∧ w'.cell? ⟨wr.heap.size, 0, none⟩ = some (.slice t.A t.x.adr.size t.c) ∧ w'.cell? ⟨wr.heap.size, 1, none⟩ = some (.slice t.K t.x.key.size t.d) ∧ w'.cell? ⟨wr.heap.size, 2, none⟩ = some (.int .i64 t.x.pow) ∧ w'.cell? ⟨wr.heap.size, 3, none⟩ = some (.int .i64 t.x.pri)) 23 (by kernel_rfl) ?_
      refine wpAnyL_take 0 (v := .pointer (some ⟨w.heap.size, 0, none⟩)) rfl (by kernel_rfl) (fun _ _ _ h => h) (yields_in rfl (fun w' hw' => by obtain ⟨y0, y1, y2, y3, y4⟩ := hw'; go_simp)) HS.out ?_
      simp only [Act.put, List.setIfInBounds_toArray, List.set_cons_zero, List.set_cons_succ]
      refine wpAnyL_take 1 (v := .pointer (some ⟨w.heap.size, 0, none⟩)) rfl (by kernel_rfl) (fun _ _ _ h => h) (yields_in rfl (fun w' hw' => by obtain ⟨y0, y1, y2, y3, y4⟩ := hw'; go_simp)) HS.out ?_
      simp only [Act.put, List.setIfInBounds_toArray, List.set_cons_zero, List.set_cons_succ]
      refine wpAnyL_take 2 (v := .pointer (some ⟨w.heap.size, 0, none⟩)) rfl (by kernel_rfl) (fun _ _ _ h => h) (yields_in rfl (fun w' hw' => by obtain ⟨y0, y1, y2, y3, y4⟩ := hw'; go_simp)) HS.out ?_
      simp only [Act.put, List.setIfInBounds_toArray, List.set_cons_zero, List.set_cons_succ]
      refine wpAnyL_take 3 (v := .pointer (some ⟨w.heap.size, 0, none⟩)) rfl (by kernel_rfl) (fun _ _ _ h => h) (yields_in rfl (fun w' hw' => by obtain ⟨y0, y1, y2, y3, y4⟩ := hw'; go_simp)) HS.out ?_
      simp only [Act.put, List.setIfInBounds_toArray, List.set_cons_zero, List.set_cons_succ]
      refine wpAnyL_take 4 (v := .slice A1 k c1) rfl (by kernel_rfl) (fun _ _ _ h => h) (yields_in rfl (fun w' hw' => by obtain ⟨y0, y1, y2, y3, y4⟩ := hw'; go_simp)) HS.out ?_
      simp only [Act.put, List.setIfInBounds_toArray, List.set_cons_zero, List.set_cons_succ]
      refine wpAnyL_take 5 (v := .pointer (some ⟨wr.heap.size, 0, none⟩)) rfl (by kernel_rfl) (fun _ _ _ h => h) (yields_in rfl (fun w' hw' => by obtain ⟨y0, y1, y2, y3, y4⟩ := hw'; go_simp)) HS.out ?_
      simp only [Act.put, List.setIfInBounds_toArray, List.set_cons_zero, List.set_cons_succ]
      refine wpAnyL_take 6 (v := .slice t.A t.x.adr.size t.c) rfl (by kernel_rfl) (fun _ _ _ h => h) (yields_in rfl (fun w' hw' => by obtain ⟨y0, y1, y2, y3, y4⟩ := hw'; go_simp)) HS.out ?_
      simp only [Act.put, List.setIfInBounds_toArray, List.set_cons_zero, List.set_cons_succ]
      refine wpAnyL_take 7 (v := .pointer (some ⟨wr.heap.size, 1, none⟩)) rfl (by kernel_rfl) (fun _ _ _ h => h) (yields_in rfl (fun w' hw' => by obtain ⟨y0, y1, y2, y3, y4⟩ := hw'; go_simp)) HS.out ?_
      simp only [Act.put, List.setIfInBounds_toArray, List.set_cons_zero, List.set_cons_succ]
      refine wpAnyL_take 8 (v := .slice t.K t.x.key.size t.d) rfl (by kernel_rfl) (fun _ _ _ h => h) (yields_in rfl (fun w' hw' => by obtain ⟨y0, y1, y2, y3, y4⟩ := hw'; go_simp)) HS.out ?_
      simp only [Act.put, List.setIfInBounds_toArray, List.set_cons_zero, List.set_cons_succ]
      refine wpAnyL_take 9 (v := .pointer (some ⟨wr.heap.size, 0, none⟩)) rfl (by kernel_rfl) (fun _ _ _ h => h) (yields_in rfl (fun w' hw' => by obtain ⟨y0, y1, y2, y3, y4⟩ := hw'; go_simp)) HS.out ?_
      simp only [Act.put, List.setIfInBounds_toArray, List.set_cons_zero, List.set_cons_succ]
      refine wpAnyL_take 10 (v := .slice t.A t.x.adr.size t.c) rfl (by kernel_rfl) (fun _ _ _ h => h) (yields_in rfl (fun w' hw' => by obtain ⟨y0, y1, y2, y3, y4⟩ := hw'; go_simp)) HS.out ?_
      simp only [Act.put, List.setIfInBounds_toArray, List.set_cons_zero, List.set_cons_succ]
      refine wpAnyL_take 11 (v := .agg #[.slice t.K t.x.key.size t.d, .slice t.A t.x.adr.size t.c, .bool false]) rfl (by kernel_rfl) (fun _ _ _ h => h) (yields_in rfl (fun w' hw' => by obtain ⟨y0, y1, y2, y3, y4⟩ := hw'; go_simp)) HS.out ?_
      simp only [Act.put, List.setIfInBounds_toArray, List.set_cons_zero, List.set_cons_succ]
      refine wpAnyL_take 12 (v := .iface 132 (.agg #[.slice t.K t.x.key.size t.d, .slice t.A t.x.adr.size t.c, .bool false])) rfl (by kernel_rfl) (fun _ _ _ h => h) (yields_in rfl (fun w' hw' => by obtain ⟨y0, y1, y2, y3, y4⟩ := hw'; go_simp)) HS.out ?_
      simp only [Act.put, List.setIfInBounds_toArray, List.set_cons_zero, List.set_cons_succ]
      refine wpAnyL_take 13 (v := .pointer (some ⟨wr.heap.size, 2, none⟩)) rfl (by kernel_rfl) (fun _ _ _ h => h) (yields_in rfl (fun w' hw' => by obtain ⟨y0, y1, y2, y3, y4⟩ := hw'; go_simp)) HS.out ?_
      simp only [Act.put, List.setIfInBounds_toArray, List.set_cons_zero, List.set_cons_succ]
      refine wpAnyL_take 14 (v := .int .i64 t.x.pow) rfl (by kernel_rfl) (fun _ _ _ h => h) (yields_in rfl (fun w' hw' => by obtain ⟨y0, y1, y2, y3, y4⟩ := hw'; go_simp)) HS.out ?_
      simp only [Act.put, List.setIfInBounds_toArray, List.set_cons_zero, List.set_cons_succ]
      refine wpAnyL_take 15 (v := .pointer (some ⟨wr.heap.size, 3, none⟩)) rfl (by kernel_rfl) (fun _ _ _ h => h) (yields_in rfl (fun w' hw' => by obtain ⟨y0, y1, y2, y3, y4⟩ := hw'; go_simp)) HS.out ?_
      simp only [Act.put, List.setIfInBounds_toArray, List.set_cons_zero, List.set_cons_succ]
      refine wpAnyL_take 16 (v := .int .i64 t.x.pri) rfl (by kernel_rfl) (fun _ _ _ h => h) (yields_in rfl (fun w' hw' => by obtain ⟨y0, y1, y2, y3, y4⟩ := hw'; go_simp)) HS.out ?_
      simp only [Act.put, List.setIfInBounds_toArray, List.set_cons_zero, List.set_cons_succ]
      refine wpAnyL_take 17 (v := .agg #[.slice t.A t.x.adr.size t.c, .iface 132 (.agg #[.slice t.K t.x.key.size t.d, .slice t.A t.x.adr.size t.c, .bool false]), .int .i64 t.x.pow, .int .i64 t.x.pri]) rfl (by kernel_rfl) (fun _ _ _ h => h) (yields_in rfl (fun w' hw' => by obtain ⟨y0, y1, y2, y3, y4⟩ := hw'; go_simp)) HS.out ?_
      simp only [Act.put, List.setIfInBounds_toArray, List.set_cons_zero, List.set_cons_succ]
      refine wpAnyL_one 18 rfl (by kernel_rfl) rfl ?_
      go_simp
      refine wpAnyL_one 19 rfl (by kernel_rfl) rfl ?_
      go_simp
      refine ⟨(((HG.out.alloc _).alloc _).alloc _).drew.cell 0, ?_⟩
      refine wpAnyL_one 20 rfl (by kernel_rfl) rfl ?_
      refine wp_app _ (.tmp 18) (.tmp 33) 125 rfl w.heap.size 126 i0 _ 1 8 Tryz.underlying125 HI.out HZ0.out HZ1.out HZ2.out rfl (by decide) (.slice A1 k c1) k (bs.map ptrTo) rfl ?ho (wr.heap.size + 1 + 1 + 1) (some ⟨wr.heap.size + 1 + 1, 0, none⟩) 1 1 [ptrTo (wr.heap.size + 1)] rfl ?hr ?h1 ?q1 ?q2 ?hb ?_
      case ho => exact (((HO.out.alloc _).alloc _).alloc _)
      case hr => exact Rd.drew (Rd.new _ _ _ 1 1 _ rfl (by simp))
      case h1 => intro u hu; rw [List.mem_singleton] at hu; subst hu; rfl
      case q1 => simp only [maxLen]; omega
      case q2 => omega
      case hb => simp; omega
      intro A2 c2 w2 hown2 hg2 hat2
      have HG2 := Lib.hid ((((HG.out.alloc _).alloc _).alloc _).drew.grown hg2 (own_ne_blk HO.out HG.out (by decide)))
      have HZB := Lib.hid (((((Blk.new wr 130 #[.slice t.A t.x.adr.size t.c, .slice t.K t.x.key.size t.d, .int .i64 t.x.pow, .int .i64 t.x.pri]).alloc _).alloc _).drew.grown hg2 (own_ne_blk (HO.out.alloc _) (Blk.new wr 130 #[.slice t.A t.x.adr.size t.c, .slice t.K t.x.key.size t.d, .int .i64 t.x.pow, .int .i64 t.x.pri]) (by decide))))
      have HVN := Lib.hid ((((Blk.new (wr.alloc (.cells #[.slice t.A t.x.adr.size t.c, .slice t.K t.x.key.size t.d, .int .i64 t.x.pow, .int .i64 t.x.pri] 130)) 136 t.val).alloc _).drew.grown hg2 (own_ne_blk ((HO.out.alloc _).alloc _) (Blk.new (wr.alloc (.cells #[.slice t.A t.x.adr.size t.c, .slice t.K t.x.key.size t.d, .int .i64 t.x.pow, .int .i64 t.x.pri] 130)) 136 t.val) (by decide))))
      have e0 := HG2.out.cell 0
      have e1 := HG2.out.free 0
      refine ⟨fun _ => ⟨HG2.out.cell 0, HZB.out.cell 0, HZB.out.cell 1, HZB.out.cell 2, HZB.out.cell 3⟩, ?_⟩
      simp only [Act.put, List.setIfInBounds_toArray, List.set_cons_zero, List.set_cons_succ]
      refine wpAnyL_one 21 rfl (by kernel_rfl) rfl ?_
      go_simp
      refine ⟨⟨HZB.out.cell 0, HZB.out.cell 1, HZB.out.cell 2, HZB.out.cell 3⟩, ?_⟩
      refine wpAnyL_one 22 rfl (by kernel_rfl) rfl ?_
      go_simp
      refine ⟨⟨HZB.out.cell 0, HZB.out.cell 1, HZB.out.cell 2, HZB.out.cell 3⟩, ?_⟩
      refine wpAnyL_one 23 rfl (by kernel_rfl) rfl ?_
      go_simp
      refine wpAnyL_done (by kernel_rfl) ?_ _
      go_wp2
      have hbl : bs.length = k := by have := HO.out.1; simpa using this
      have hlt' : ∀ (j b : Nat), bs[j]? = some b → w.heap.size < b ∧ b < wr.heap.size := fun j b hb => by
        have hj := (List.getElem?_eq_some_iff.1 hb).1
        obtain ⟨h1, h2⟩ := HV.out j b ts[j] hb (List.getElem?_eq_getElem (by omega))
        exact ⟨h1, h2.lt⟩
      go_roundw
      case rel =>
        refine ⟨k + 1, A2, c2, bs ++ [wr.heap.size + 1], by omega, by go_num, HG2.out.put 0 _, ?_, ?_, ?_, ?_⟩
        · show World.ownsRow _ _ _ _ _ _ _
          rw [List.map_append]
          exact own_far hown2 (p := ⟨w.heap.size, 0, none⟩) (own_ne_blk hown2 HG2.out (by decide)) _
        · show List.Nodup _
          rw [List.nodup_append]
          refine ⟨HN.out, by simp, fun a ha b hb => ?_⟩
          obtain ⟨j, hj, rfl⟩ := List.getElem_of_mem ha
          have := (hlt' j _ (List.getElem?_eq_getElem hj)).2
          rw [List.mem_singleton] at hb
          omega
        · intro j b t' hb ht'
          rw [List.getElem?_append] at hb
          split at hb
          · obtain ⟨h1, h2⟩ := HV.out j b t' hb ht'
            exact ⟨h1, ((((h2.alloc _).alloc _).alloc _).drew.grown hg2 (own_ne_blk HO.out h2 (by decide))).far (p := ⟨w.heap.size, 0, none⟩) (by show b ≠ w.heap.size; omega) _⟩
          · have hj : j = k := by
              have := (List.getElem?_eq_some_iff.1 hb).1
              simp at this; omega
            subst hj
            have e1 : b = wr.heap.size + 1 := by rw [hbl, Nat.sub_self] at hb; simpa using hb.symm
            subst e1
            have e2 : t' = t := by rw [HX.out] at ht'; exact (Option.some.inj ht').symm
            subst e2
            refine ⟨by omega, ?_⟩
            have h2 := HVN.out
            simp only [World.size_alloc] at h2
            exact h2.far (p := ⟨w.heap.size, 0, none⟩) (by show wr.heap.size + 1 ≠ w.heap.size; omega) _
        · exact (((((HB.out.alloc hz _).alloc (by simp; omega) _).alloc (by simp; omega) _).drew.grown hg2 (by simp; omega) (own_base HO.out)).setCell (p := ⟨w.heap.size, 0, none⟩) (Nat.le_refl _) _)
      case measure => simp [intOf]; omega
    · have hkn : k = n := by omega
      have hbl : bs.length = k := by have := HO.out.1; simpa using this
      have hset : VSet wr w.heap.size w.heap.size A1 c1 bs ts (.pointer none) 0 false := by
        refine ⟨by rw [hbl]; exact HG.out, by rw [hbl]; exact HO.out, by have := HLN.out; omega, HN.out, fun j b t hb ht => ?_, Nat.le_refl _⟩
        obtain ⟨h1, h2⟩ := HV.out j b t hb ht
        exact ⟨by omega, h2, (HOK.out t (List.mem_of_getElem? ht)).keep (KeepB.of_below HB.out)⟩
      have HSET := Lib.hid hset
      have hbn : bs.length ≤ 1000000 := by omega
      have HKN := Lib.hid hkn; have HBL := Lib.hid hbl; clear hkn hbl hset
      go_wp2_with fail
      refine (keys_any _ _ _ _ _ _ _ _ _ _ HSET.out hbn).mono ?_
      rintro e w1 ⟨rfl, hs1, hg1⟩
      have HS1 := Lib.hid hs1; clear hs1
      go_wp2_with fail
      refine (find_any _ _ _ _ _ _ _ _ _ _ HS1.out hbn).mono ?_
      rintro e w2 ⟨rfl, nd, rfl⟩
      have hpv : ∃ u, pval bs (propOf (ts.map Tv.x)) = .pointer u := by cases propOf (ts.map Tv.x) <;> exact ⟨_, rfl⟩
      obtain ⟨u, hu⟩ := hpv
      have e1 : w1.cell? ⟨w.heap.size, 1, none⟩ = some (.pointer none) := HS1.out.head.cell 1
      have e2 := HS1.out.head.free 1
      have hbb : Below w.heap.size w w1 := HB.out.grown hg1 hz (fun k hk => by cases hk; exact Nat.le_refl _)
      have HBB := Lib.hid hbb
      have hfin : VSet ((w1.drewN nd).setCell ⟨w.heap.size, 1, none⟩ (.pointer u)) w.heap.size w.heap.size A1 c1 bs ts (pval bs (propOf (ts.map Tv.x))) 0 true := by
        rw [hu]; exact (HS1.out.keep (KeepV.drewN _ _ nd)).setProp _
      have HFIN := Lib.hid hfin
      rw [hu]
      have HU := Lib.hid hu
      clear hfin hu hbb
      go_wp2
      go_ret
      exact ⟨A1, c1, bs, rfl, HFIN.out, (below_drewN HBB.out nd).setCell (p := ⟨w.heap.size, 1, none⟩) (Nat.le_refl _) _⟩
end Go.Proofs.YtikikddkhikfkaaGreatDoor

namespace Go.Proofs.YtikikddkhikfkaaGreatDoor
open Go.RowKit

def mxf (x : Int) (l : List Int) : Int := l.foldl (fun m p => if m < p then p else m) x
def mnf (x : Int) (l : List Int) : Int := l.foldl (fun m p => if p < m then p else m) x
def prisOf (l : List Sd) : List Int := l.map Sd.pri
/-- the greatest less the least priority -/
def spanOf (l : List Sd) : Int := mxf (-9223372036854775808) (prisOf l) - mnf 9223372036854775807 (prisOf l)
theorem mxf_bd : ∀ (l : List Int) (x lo hi : Int), lo ≤ x → x ≤ hi → (∀ p ∈ l, p ≤ hi) → lo ≤ mxf x l ∧ mxf x l ≤ hi := by
  intro l
  induction l with
  | nil => intro x lo hi h1 h2 _; exact ⟨h1, h2⟩
  | cons p r ih =>
    intro x lo hi h1 h2 h3
    have hp := h3 p (List.mem_cons_self ..)
    simp only [mxf, List.foldl_cons]
    exact ih _ lo hi (by split <;> omega) (by split <;> omega) fun q hq => h3 q (List.mem_cons_of_mem _ hq)
theorem mnf_bd : ∀ (l : List Int) (x lo hi : Int), lo ≤ x → x ≤ hi → (∀ p ∈ l, lo ≤ p) → lo ≤ mnf x l ∧ mnf x l ≤ hi := by
  intro l
  induction l with
  | nil => intro x lo hi h1 h2 _; exact ⟨h1, h2⟩
  | cons p r ih =>
    intro x lo hi h1 h2 h3
    have hp := h3 p (List.mem_cons_self ..)
    simp only [mnf, List.foldl_cons]
    exact ih _ lo hi (by split <;> omega) (by split <;> omega) fun q hq => h3 q (List.mem_cons_of_mem _ hq)
/-- with all priorities between lo and hi: the span -/
theorem span_bd (l : List Sd) (lo hi : Int) (hl : -9223372036854775808 ≤ lo) (hh : hi ≤ 9223372036854775807) (hne : l ≠ []) (h : ∀ s ∈ l, lo ≤ s.pri ∧ s.pri ≤ hi) : 0 ≤ spanOf l ∧ spanOf l ≤ hi - lo := by
  cases l with
  | nil => exact absurd rfl hne
  | cons s r =>
    obtain ⟨h1, h2⟩ := h s (List.mem_cons_self ..)
    have a := mxf_bd (prisOf r) s.pri s.pri hi (Int.le_refl _) h2 (fun p hp => by
      obtain ⟨x, hx, rfl⟩ := List.mem_map.1 hp
      exact (h x (List.mem_cons_of_mem _ hx)).2)
    have b := mnf_bd (prisOf r) s.pri lo s.pri h1 (Int.le_refl _) (fun p hp => by
      obtain ⟨x, hx, rfl⟩ := List.mem_map.1 hp
      exact (h x (List.mem_cons_of_mem _ hx)).1)
    have e1 : mxf (-9223372036854775808) (prisOf (s :: r)) = mxf s.pri (prisOf r) := by
      simp only [mxf, prisOf, List.map_cons, List.foldl_cons]
      congr 1
      split <;> omega
    have e2 : mnf 9223372036854775807 (prisOf (s :: r)) = mnf s.pri (prisOf r) := by
      simp only [mnf, prisOf, List.map_cons, List.foldl_cons]
      congr 1
      split <;> omega
    unfold spanOf
    rw [e1, e2]
    omega

set_option maxHeartbeats 400000 in
theorem nil_any (g n c : Nat) (A : Option Addr) (w : World) (h : w.cell? ⟨g, 0, none⟩ = some (.slice A n c)) (hn : 0 < n) :
    Calls Tryz.prog 110 #[.pointer (some ⟨g, 0, none⟩)] w fun e w' => e = .returned (.bool false) ∧ w = w' := by
  have hz : ((n : Int) == 0) = false := by simp; omega
  go_enter Tryz.func110, Tryz.ntmps110
  go_wp2
  go_ret
  exact ⟨rfl, rfl⟩

theorem mxf_snoc (x : Int) (l : List Int) (p : Int) : mxf x (l ++ [p]) = if mxf x l < p then p else mxf x l := by unfold mxf; rw [List.foldl_append]; rfl
theorem mnf_snoc (x : Int) (l : List Int) (p : Int) : mnf x (l ++ [p]) = if p < mnf x l then p else mnf x l := by unfold mnf; rw [List.foldl_append]; rfl

set_option maxRecDepth 100000 in
set_option maxHeartbeats 1600000 in
theorem diff_any (lo g : Nat) (A : Option Addr) (c : Nat) (bs : List Nat) (ts : List Tv) (prop : Value) (tot : Int) (same : Bool) (w : World) (h : VSet w lo g A c bs ts prop tot same) (hn : bs.length ≤ 1000000) (hn0 : 0 < bs.length)
    (hs : 0 ≤ spanOf (ts.map Tv.x)) (hs2 : spanOf (ts.map Tv.x) ≤ 9223372036854775807) :
    Calls Tryz.prog 136 #[.pointer (some ⟨g, 0, none⟩)] w fun e w' => e = .returned (.int .i64 (spanOf (ts.map Tv.x))) ∧ w = w' := by
  have h0 : w.cell? ⟨g, 0, none⟩ = some (.slice A bs.length c) := h.head.cell 0
  have H := Lib.hid h; clear h
  have hs' := Lib.hid hs; have hs2' := Lib.hid hs2; clear hs hs2
  go_enter Tryz.func136, Tryz.ntmps136
  go_wp2_with (go_at_call 110; refine (nil_any g bs.length c A w h0 hn0).mono ?_; rintro e w' ⟨rfl, rfl⟩)
  go_loop [3, 4, 16] (fun a b i => ∃ k : Nat, k ≤ bs.length ∧ i = .int .i64 k ∧ a = .int .i64 (mxf (-9223372036854775808) ((prisOf (ts.map Tv.x)).take k)) ∧ b = .int .i64 (mnf 9223372036854775807 ((prisOf (ts.map Tv.x)).take k))) (fun _ _ i => bs.length - (intOf i).toNat)
  case atStart => exact ⟨0, Nat.zero_le _, rfl, rfl, rfl⟩
  case round =>
    obtain ⟨k, hk, rfl, rfl, rfl⟩ := hrel
    by_cases hlt : k < bs.length
    · obtain ⟨b, t, hb, ht⟩ := H.out.at_ hlt
      obtain ⟨r, rfl, _, hp⟩ := H.out.ptr hb
      obtain ⟨_, hbv, hok⟩ := H.out.vals k b t hb ht
      obtain ⟨c0, c1, c2, c3⟩ := t.val_cells hbv
      have hg : (prisOf (ts.map Tv.x)).take (k + 1) = (prisOf (ts.map Tv.x)).take k ++ [t.x.pri] := by
        have hl : k < (prisOf (ts.map Tv.x)).length := by simp [prisOf, H.out.len]; exact hlt
        rw [List.take_succ_eq_append_getElem hl]
        have := (List.getElem?_eq_some_iff.1 ht).2
        simp [prisOf, this]
      have ha := mxf_snoc (-9223372036854775808) ((prisOf (ts.map Tv.x)).take k) t.x.pri
      have hb2 := mnf_snoc 9223372036854775807 ((prisOf (ts.map Tv.x)).take k) t.x.pri
      rw [← hg] at ha hb2
      have HA := Lib.hid ha; have HB2 := Lib.hid hb2; have HB := Lib.hid hb; have HT := Lib.hid ht; have HBV := Lib.hid hbv; have HOK := Lib.hid hok; have HG := Lib.hid hg
      clear ha hb2 hb ht hbv hok hg c0 c1 c2
      generalize mxf (-9223372036854775808) ((prisOf (ts.map Tv.x)).take k) = mx at *
      generalize mnf 9223372036854775807 ((prisOf (ts.map Tv.x)).take k) = mn at *
      by_cases q1 : t.x.pri < mn
      all_goals by_cases q2 : mx < t.x.pri
      all_goals
        go_wp2
        go_round
        case rel => exact ⟨k + 1, by omega, by go_num, by rw [HA.out]; first | rw [if_pos q2] | rw [if_neg q2], by rw [HB2.out]; first | rw [if_pos q1] | rw [if_neg q1]⟩
        case measure => simp [intOf]; omega
    · have e : k = bs.length := by omega
      have hl : (prisOf (ts.map Tv.x)).length ≤ k := by simp [prisOf, H.out.len]; omega
      rw [List.take_of_length_le hl]
      have hsp : spanOf (ts.map Tv.x) = mxf (-9223372036854775808) (prisOf (ts.map Tv.x)) - mnf 9223372036854775807 (prisOf (ts.map Tv.x)) := rfl
      have h1 := hs'.out; have h2 := hs2'.out
      rw [hsp] at h1 h2
      have HE := Lib.hid e; have HL := Lib.hid hl; have HSP := Lib.hid hsp; clear e hl hsp
      generalize mxf (-9223372036854775808) (prisOf (ts.map Tv.x)) = mx at *
      generalize mnf 9223372036854775807 (prisOf (ts.map Tv.x)) = mn at *
      go_wp2
      go_ret
      exact ⟨ret_int HSP.out.symm, rfl⟩

/-- every priority divided -/
def divP (r : Int) (s : Sd) : Sd := { s with pri := s.pri.tdiv r }
/-- scaled, as the package has it -/
def scaleL (apart : Int) (l : List Sd) : List Sd :=
  if apart ≤ 0 then l else if apart < spanOf l then l.map (divP ((spanOf l + apart - 1) / apart)) else l
def onX (f : Sd → Sd) (t : Tv) : Tv := { t with x := f t.x }
theorem onX_map (f : Sd → Sd) (ts : List Tv) : (ts.map (onX f)).map Tv.x = (ts.map Tv.x).map f := by simp [onX, Function.comp_def]

set_option maxRecDepth 100000 in
set_option maxHeartbeats 1600000 in
theorem rescale_any (lo g : Nat) (A : Option Addr) (c : Nat) (bs : List Nat) (ts : List Tv) (prop : Value) (tot : Int) (same : Bool) (apart : Int) (w : World) (h : VSet w lo g A c bs ts prop tot same) (hn : bs.length ≤ 1000000) (hn0 : 0 < bs.length)
    (hs : 0 ≤ spanOf (ts.map Tv.x)) (hs2 : spanOf (ts.map Tv.x) + apart ≤ 9223372036854775807) (ha : apart ≤ 4611686018427387904) (hp : ∀ t ∈ ts, -9223372036854775808 < t.x.pri ∧ t.x.pri ≤ 9223372036854775807) :
    Calls Tryz.prog 107 #[ptrTo g, .int .i64 apart] w fun e w' => e = .returned (.tuple #[]) ∧ ∃ ts', ts'.map Tv.x = scaleL apart (ts.map Tv.x) ∧ VSet w' lo g A c bs ts' prop tot same ∧ OnlyV g bs w w' := by
  unfold ptrTo
  have h0 : w.cell? ⟨g, 0, none⟩ = some (.slice A bs.length c) := h.head.cell 0
  have H := Lib.hid h; clear h
  have hs' := Lib.hid hs; have hs2' := Lib.hid hs2; have HP := Lib.hid hp; clear hp
  by_cases ha0 : apart ≤ 0
  · have hsc : scaleL apart (ts.map Tv.x) = ts.map Tv.x := by unfold scaleL; rw [if_pos ha0]
    have HSC := Lib.hid hsc; clear hsc
    go_enter Tryz.func107, Tryz.ntmps107
    go_wp2_with (go_at_call 110; refine (nil_any g bs.length c A w h0 hn0).mono ?_; rintro e w' ⟨rfl, rfl⟩)
    refine bodyPost_ret (results_none rfl _ _ _) rfl ?_
    exact ⟨rfl, ts, HSC.out.symm, H.out, OnlyV.refl _ _ _⟩
  · have hD := Lib.hid (diff_any lo g A c bs ts prop tot same w H.out hn hn0 hs (by omega))
    have hsc : scaleL apart (ts.map Tv.x) = if apart < spanOf (ts.map Tv.x) then (ts.map Tv.x).map (divP ((spanOf (ts.map Tv.x) + apart - 1) / apart)) else ts.map Tv.x := by unfold scaleL; rw [if_neg ha0]
    have HSC := Lib.hid hsc; clear hsc
    generalize spanOf (ts.map Tv.x) = sp at *
    have hq1 : 0 ≤ (sp + apart - 1) / apart := Int.ediv_nonneg (by omega) (by omega)
    have hq2 : (sp + apart - 1) / apart ≤ sp + apart - 1 := Int.ediv_le_self _ (by omega)
    by_cases hlt : apart < sp
    · rw [if_pos hlt] at HSC
      have hr1 : 1 ≤ (sp + apart - 1) / apart := (Int.le_ediv_iff_mul_le (by omega)).2 (by omega)
      have hrq : (sp + apart - 1).tdiv apart = (sp + apart - 1) / apart := Int.tdiv_eq_ediv_of_nonneg (by omega)
      have HRQ := Lib.hid hrq; clear hrq
      go_enter Tryz.func107, Tryz.ntmps107
      go_wp2_with (first | (go_at_call 110; refine (nil_any g bs.length c A w h0 hn0).mono ?_; rintro e w' ⟨rfl, rfl⟩) | (go_at_call 136; refine hD.out.mono ?_; rintro e w' ⟨rfl, rfl⟩))
      generalize (sp + apart - 1) / apart = r at *
      clear hq1 hq2 hlt hs hs2
      go_loopw [29] (fun i wr => ∃ k : Nat, k ≤ bs.length ∧ i = .int .i64 k ∧ Hid (VSet wr lo g A c bs (mapTo (onX (divP r)) ts k) prop tot same) ∧ Hid (OnlyV g bs w wr)) (fun i _ => bs.length - (intOf i).toNat)
      case atStart => exact ⟨0, Nat.zero_le _, rfl, by rw [mapTo_zero]; exact H.out, OnlyV.refl _ _ _⟩
      case round =>
        obtain ⟨k, hk, rfl, HV, HO⟩ := hrel
        by_cases hlt : k < bs.length
        · obtain ⟨b, t, hb, ht⟩ := H.out.at_ hlt
          have ht' := mapTo_get (onX (divP r)) ts k t ht
          obtain ⟨r0, rfl, _, hp⟩ := HV.out.ptr hb
          obtain ⟨_, hbv, hok⟩ := HV.out.vals k b t hb ht'
          obtain ⟨c0, c1, c2, c3⟩ := t.val_cells hbv
          have f3 := hbv.free 3
          have hb3 := HP.out t (List.mem_of_getElem? ht)
          have hq : wrap64 (t.x.pri.tdiv r) = t.x.pri.tdiv r := by
            have h1 : (t.x.pri.tdiv r).natAbs ≤ t.x.pri.natAbs := by rw [Int.natAbs_tdiv]; exact Nat.div_le_self _ _
            unfold wrap64; omega
          have hset := HV.out.setPri hb ht' (t.x.pri.tdiv r)
          have e1 : (mapTo (onX (divP r)) ts k).set k { t with x := { t.x with pri := t.x.pri.tdiv r } } = mapTo (onX (divP r)) ts (k + 1) := mapTo_succ (onX (divP r)) ts k t ht
          rw [e1] at hset
          have HSET := Lib.hid hset; have HB := Lib.hid hb; have HT := Lib.hid ht; have HBV := Lib.hid hbv; have HOK := Lib.hid hok; have HT' := Lib.hid ht'
          have hmem := Lib.hid (List.mem_of_getElem? hb)
          clear hset e1 hb ht hbv hok ht' c0 c1 c2
          go_wp2
          go_roundw
          case rel => exact ⟨k + 1, by omega, by go_num, HSET.out, HO.out.trans (OnlyV.putVal _ hmem.out 3 _)⟩
          case measure => simp [intOf]; omega
        · have hfin := HV.out
          rw [mapTo_full _ _ _ (by rw [H.out.len]; omega)] at hfin
          have HF := Lib.hid hfin; clear hfin
          go_wp2
          go_end0
          exact ⟨rfl, _, (onX_map _ _).trans HSC.out.symm, HF.out, HO.out⟩
    · rw [if_neg hlt] at HSC
      go_enter Tryz.func107, Tryz.ntmps107
      go_wp2_with (first | (go_at_call 110; refine (nil_any g bs.length c A w h0 hn0).mono ?_; rintro e w' ⟨rfl, rfl⟩) | (go_at_call 136; refine hD.out.mono ?_; rintro e w' ⟨rfl, rfl⟩))
      go_end0
      exact ⟨rfl, ts, HSC.out.symm, H.out, OnlyV.refl _ _ _⟩
end Go.Proofs.YtikikddkhikfkaaGreatDoor

set_option linter.unusedSimpArgs false
namespace Go.Proofs.YtikikddkhikfkaaGreatDoor
open Go.RowKit

def powsOf (l : List Sd) : List Int := l.map Sd.pow
def sumI (l : List Int) : Int := l.foldl (· + ·) 0
theorem sumI_snoc (l : List Int) (x : Int) : sumI (l ++ [x]) = sumI l + x := by unfold sumI; rw [List.foldl_append]; rfl
theorem sumI_acc (l : List Int) (a : Int) : l.foldl (· + ·) a = a + sumI l := by
  unfold sumI
  induction l generalizing a with
  | nil => simp
  | cons x r ih => simp only [List.foldl_cons]; rw [ih (a + x), ih (0 + x)]; omega
theorem sumI_cons (l : List Int) (x : Int) : sumI (x :: l) = x + sumI l := by
  unfold sumI; rw [List.foldl_cons, sumI_acc]; unfold sumI; omega
theorem sumI_bd (l : List Int) (lo hi : Int) (h : ∀ x ∈ l, lo ≤ x ∧ x ≤ hi) : l.length * lo ≤ sumI l ∧ sumI l ≤ l.length * hi := by
  induction l with
  | nil => simp [sumI]
  | cons x r ih =>
    have h1 := h x (List.mem_cons_self ..)
    have h2 := ih fun y hy => h y (List.mem_cons_of_mem _ hy)
    rw [sumI_cons, List.length_cons, Int.natCast_add, Int.add_mul, Int.add_mul]
    omega
/-- the power of all -/
def totL (l : List Sd) : Int := sumI (powsOf l)
/-- the mean priority, to the lower whole number -/
def avgL (l : List Sd) : Int := sumI (prisOf l) / l.length

theorem map_take_succ {f : Sd → Int} {ts : List Tv} {k : Nat} {t : Tv} (ht : ts[k]? = some t) : ((ts.map Tv.x).map f).take (k + 1) = ((ts.map Tv.x).map f).take k ++ [f t.x] := by
  have h := List.getElem?_eq_some_iff.1 ht
  have hl : k < ((ts.map Tv.x).map f).length := by simp; exact h.1
  rw [List.take_succ_eq_append_getElem hl]
  have := h.2
  simp [this]

set_option maxRecDepth 100000 in
set_option maxHeartbeats 1600000 in
theorem updTotal_any (lo g : Nat) (A : Option Addr) (c : Nat) (bs : List Nat) (ts : List Tv) (prop : Value) (tot : Int) (same : Bool) (w : World) (h : VSet w lo g A c bs ts prop tot same) (hn : bs.length ≤ 1000)
    (hp : ∀ t ∈ ts, 0 ≤ t.x.pow ∧ t.x.pow ≤ 1125899906842624) :
    Calls Tryz.prog 106 #[ptrTo g] w fun e w' => e = .returned (.tuple #[]) ∧ w' = w.setCell ⟨g, 2, none⟩ (.int .i64 (totL (ts.map Tv.x))) := by
  unfold ptrTo
  have h0 : w.cell? ⟨g, 0, none⟩ = some (.slice A bs.length c) := h.head.cell 0
  have h2 : w.cell? ⟨g, 2, none⟩ = some (.int .i64 tot) := h.head.cell 2
  have hf := h.head.free 2
  have H := Lib.hid h; have HP := Lib.hid hp; clear h hp
  go_enter Tryz.func106, Tryz.ntmps106
  go_wp2
  go_loop [2, 10] (fun s i => ∃ k : Nat, k ≤ bs.length ∧ i = .int .i64 k ∧ s = .int .i64 (sumI ((powsOf (ts.map Tv.x)).take k))) (fun _ i => bs.length - (intOf i).toNat)
  case atStart => exact ⟨0, Nat.zero_le _, rfl, rfl⟩
  case round =>
    obtain ⟨k, hk, rfl, rfl⟩ := hrel
    by_cases hlt : k < bs.length
    · obtain ⟨b, t, hb, ht⟩ := H.out.at_ hlt
      obtain ⟨r, rfl, _, hp⟩ := H.out.ptr hb
      obtain ⟨_, hbv, hok⟩ := H.out.vals k b t hb ht
      obtain ⟨c0, c1, c2, c3⟩ := t.val_cells hbv
      have hst : (powsOf (ts.map Tv.x)).take (k + 1) = (powsOf (ts.map Tv.x)).take k ++ [t.x.pow] := map_take_succ ht
      have hpt := HP.out t (List.mem_of_getElem? ht)
      have hbd := sumI_bd ((powsOf (ts.map Tv.x)).take k) 0 1125899906842624 (fun x hx => by
        obtain ⟨s, hs, rfl⟩ := List.mem_map.1 (List.mem_of_mem_take hx)
        obtain ⟨u, hu, rfl⟩ := List.mem_map.1 hs
        exact HP.out u hu)
      have hlen : ((powsOf (ts.map Tv.x)).take k).length ≤ k := List.length_take_le _ _
      generalize ((powsOf (ts.map Tv.x)).take k).length = m at *
      have hs := sumI_snoc ((powsOf (ts.map Tv.x)).take k) t.x.pow
      rw [← hst] at hs
      generalize sumI ((powsOf (ts.map Tv.x)).take k) = s at *
      have hcl : clip (s + t.x.pow) = s + t.x.pow := clip_of ⟨by omega, by omega⟩
      have kc := fun W => addClip_any s t.x.pow W ⟨by omega, by omega⟩ ⟨by omega, by omega⟩
      rw [hcl] at kc
      have HS := Lib.hid hs; have HBV := Lib.hid hbv; have HOK := Lib.hid hok
      have KC := Lib.hid kc; clear kc hcl hs hbv hok hst hb ht
      go_wp2_with fail
      refine (KC.out _).mono ?_
      rintro e w1 ⟨rfl, rfl⟩
      go_wp2
      go_round
      case rel => exact ⟨k + 1, by omega, by go_num, by rw [HS.out]⟩
      case measure => simp [intOf]; omega
    · have hkn : k = bs.length := by omega
      have hsum : sumI ((powsOf (ts.map Tv.x)).take k) = totL (ts.map Tv.x) := by
        unfold totL; rw [List.take_of_length_le (by simp [powsOf, H.out.len]; omega)]
      rw [hsum]
      clear hsum
      go_wp2
      go_end0
      exact ⟨rfl, rfl⟩

/-- TotalVotingPower, where the total is cached -/
theorem tot_any (lo g : Nat) (A : Option Addr) (c : Nat) (bs : List Nat) (ts : List Tv) (prop : Value) (tot : Int) (same : Bool) (w : World) (h : VSet w lo g A c bs ts prop tot same) (h0 : tot ≠ 0) :
    Calls Tryz.prog 87 #[ptrTo g] w fun e w' => e = .returned (.int .i64 tot) ∧ w = w' := by
  unfold ptrTo
  have h2 : w.cell? ⟨g, 2, none⟩ = some (.int .i64 tot) := h.head.cell 2
  have hz : (tot == 0) = false := by simpa using h0
  clear h
  go_enter Tryz.func87, Tryz.ntmps87
  go_wp2
  go_ret
  exact ⟨rfl, rfl⟩
/-- TotalVotingPower, where it is not -/
theorem tot_new (lo g : Nat) (A : Option Addr) (c : Nat) (bs : List Nat) (ts : List Tv) (prop : Value) (same : Bool) (w : World) (h : VSet w lo g A c bs ts prop 0 same) (hn : bs.length ≤ 1000)
    (hp : ∀ t ∈ ts, 0 ≤ t.x.pow ∧ t.x.pow ≤ 1125899906842624) :
    Calls Tryz.prog 87 #[ptrTo g] w fun e w' => e = .returned (.int .i64 (totL (ts.map Tv.x))) ∧ w' = w.setCell ⟨g, 2, none⟩ (.int .i64 (totL (ts.map Tv.x))) := by
  have KC := Lib.hid (updTotal_any lo g A c bs ts prop 0 same w h hn hp)
  unfold ptrTo at *
  have h2 : w.cell? ⟨g, 2, none⟩ = some (.int .i64 0) := h.head.cell 2
  have h3 : (w.setCell ⟨g, 2, none⟩ (.int .i64 (totL (ts.map Tv.x)))).cell? ⟨g, 2, none⟩ = some (.int .i64 (totL (ts.map Tv.x))) := (h.setTot _).head.cell 2
  clear h
  go_enter Tryz.func87, Tryz.ntmps87
  go_wp2_with fail
  refine KC.out.mono ?_
  rintro e w1 ⟨rfl, rfl⟩
  go_wp2
  go_ret
  exact ⟨rfl, rfl⟩
end Go.Proofs.YtikikddkhikfkaaGreatDoor

set_option linter.unusedSimpArgs false
namespace Go.Proofs.YtikikddkhikfkaaGreatDoor
open Go.RowKit

/-- a whole number's upper and lower 64 bits -/
def hiOf (s : Int) : Int := s / 18446744073709551616 % 18446744073709551616
def loOf (s : Int) : Int := s % 18446744073709551616
theorem wu64 (x : Int) : IntKind.u64.wrap x = x % 18446744073709551616 := by simp [IntKind.wrap, IntKind.bits, IntKind.signed]

set_option maxRecDepth 100000 in
set_option maxHeartbeats 3200000 in
theorem avg_any (lo g : Nat) (A : Option Addr) (c : Nat) (bs : List Nat) (ts : List Tv) (prop : Value) (tot : Int) (same : Bool) (w : World) (h : VSet w lo g A c bs ts prop tot same) (hn : bs.length ≤ 1000) (hn0 : 0 < bs.length)
    (hp : ∀ t ∈ ts, -4611686018427387904 ≤ t.x.pri ∧ t.x.pri ≤ 4611686018427387904) :
    Calls Tryz.prog 137 #[ptrTo g] w fun e w' => e = .returned (.int .i64 (avgL (ts.map Tv.x))) ∧ w = w' := by
  unfold ptrTo
  have h0 : w.cell? ⟨g, 0, none⟩ = some (.slice A bs.length c) := h.head.cell 0
  have H := Lib.hid h; have HP := Lib.hid hp; clear h hp
  go_enter Tryz.func137, Tryz.ntmps137
  go_wp2
  go_loop [4, 5, 19] (fun hi lo_ i => ∃ k : Nat, k ≤ bs.length ∧ i = .int .i64 k ∧ hi = .int .u64 (hiOf (sumI ((prisOf (ts.map Tv.x)).take k))) ∧ lo_ = .int .u64 (loOf (sumI ((prisOf (ts.map Tv.x)).take k)))) (fun _ _ i => bs.length - (intOf i).toNat)
  case atStart => exact ⟨0, Nat.zero_le _, rfl, rfl, rfl⟩
  case round =>
    obtain ⟨k, hk, rfl, rfl, rfl⟩ := hrel
    have hbd := sumI_bd ((prisOf (ts.map Tv.x)).take k) (-4611686018427387904) 4611686018427387904 (fun x hx => by
      obtain ⟨s, hs, rfl⟩ := List.mem_map.1 (List.mem_of_mem_take hx)
      obtain ⟨u, hu, rfl⟩ := List.mem_map.1 hs
      exact HP.out u hu)
    have hlen : ((prisOf (ts.map Tv.x)).take k).length ≤ k := List.length_take_le _ _
    by_cases hlt : k < bs.length
    · obtain ⟨b, t, hb, ht⟩ := H.out.at_ hlt
      obtain ⟨r, rfl, _, hp⟩ := H.out.ptr hb
      obtain ⟨_, hbv, hok⟩ := H.out.vals k b t hb ht
      obtain ⟨c0, c1, c2, c3⟩ := t.val_cells hbv
      have hst : (prisOf (ts.map Tv.x)).take (k + 1) = (prisOf (ts.map Tv.x)).take k ++ [t.x.pri] := map_take_succ ht
      have hpt := HP.out t (List.mem_of_getElem? ht)
      generalize ((prisOf (ts.map Tv.x)).take k).length = m at *
      have hs := sumI_snoc ((prisOf (ts.map Tv.x)).take k) t.x.pri
      rw [← hst] at hs
      generalize sumI ((prisOf (ts.map Tv.x)).take k) = s at *
      have HS := Lib.hid hs; have HBV := Lib.hid hbv; have HOK := Lib.hid hok
      have hb1 : (m : Int) * -4611686018427387904 ≥ -4611686018427387904000 := by omega
      have hb2 : (m : Int) * 4611686018427387904 ≤ 4611686018427387904000 := by omega
      clear hs hbv hok hst hb ht c0 c1 c2
      generalize hx : IntKind.u64.wrap t.x.pri = x at *
      generalize hl : IntKind.u64.wrap (loOf s + x) = l1 at *
      have e1 := hx; have e2 := hl
      rw [wu64] at e1 e2
      have hx0 : 0 ≤ x ∧ x ≤ 18446744073709551615 := by omega
      have hl0 : 0 ≤ l1 ∧ l1 ≤ 18446744073709551615 := by omega
      have hlo0 : 0 ≤ loOf s ∧ loOf s ≤ 18446744073709551615 := by unfold loOf; omega
      have hhi0 : 0 ≤ hiOf s ∧ hiOf s ≤ 18446744073709551615 := by unfold hiOf; omega
      generalize hh1 : IntKind.u64.wrap (hiOf s + 1) = h1 at *
      generalize hh2 : IntKind.u64.wrap (hiOf s - 1) = h2 at *
      generalize hh3 : IntKind.u64.wrap (h1 - 1) = h3 at *
      have e3 := hh1; have e4 := hh2; have e5 := hh3
      rw [wu64] at e3 e4 e5
      have E1 := Lib.hid e1; have E2 := Lib.hid e2; have E3 := Lib.hid e3; have E4 := Lib.hid e4; have E5 := Lib.hid e5
      have hlf : l1 = loOf (s + t.x.pri) := by unfold loOf at *; omega
      have HLF := Lib.hid hlf
      have hw1 : l1 < x → (t.x.pri < 0 → h3 = hiOf (s + t.x.pri)) ∧ (¬ t.x.pri < 0 → h1 = hiOf (s + t.x.pri)) := by
        unfold hiOf loOf at *; omega
      have hw2 : ¬ l1 < x → (t.x.pri < 0 → h2 = hiOf (s + t.x.pri)) ∧ (¬ t.x.pri < 0 → hiOf s = hiOf (s + t.x.pri)) := by
        unfold hiOf loOf at *; omega
      have HW1 := Lib.hid hw1; have HW2 := Lib.hid hw2
      clear hw1 hw2 hlf e1 e2 e3 e4 e5
      by_cases q1 : l1 < x
      · by_cases q2 : t.x.pri < 0
        · go_wp2
          go_round
          case rel => exact ⟨k + 1, by omega, by go_num, by rw [HS.out, (HW1.out q1).1 q2], by rw [HS.out, HLF.out]⟩
          case measure => simp [intOf]; omega
        · go_wp2
          go_round
          case rel => exact ⟨k + 1, by omega, by go_num, by rw [HS.out, (HW1.out q1).2 q2], by rw [HS.out, HLF.out]⟩
          case measure => simp [intOf]; omega
      · by_cases q2 : t.x.pri < 0
        · go_wp2
          go_round
          case rel => exact ⟨k + 1, by omega, by go_num, by rw [HS.out, (HW2.out q1).1 q2], by rw [HS.out, HLF.out]⟩
          case measure => simp [intOf]; omega
        · go_wp2
          go_round
          case rel => exact ⟨k + 1, by omega, by go_num, by rw [HS.out, (HW2.out q1).2 q2], by rw [HS.out, HLF.out]⟩
          case measure => simp [intOf]; omega
    · obtain rfl : k = bs.length := by omega
      have hfull : (prisOf (ts.map Tv.x)).take bs.length = prisOf (ts.map Tv.x) := List.take_of_length_le (by simp [prisOf, H.out.len])
      rw [hfull] at hbd hlen ⊢
      have hav : avgL (ts.map Tv.x) = sumI (prisOf (ts.map Tv.x)) / bs.length := by unfold avgL; simp [H.out.len]
      have hlq : (prisOf (ts.map Tv.x)).length = bs.length := by simp [prisOf, H.out.len]
      rw [hlq] at hbd
      clear hfull hlen hlq
      have HAV := Lib.hid hav; clear hav
      generalize sumI (prisOf (ts.map Tv.x)) = s at *
      by_cases hs0 : 0 ≤ s
      · obtain ⟨M, rfl⟩ := Int.eq_ofNat_of_zero_le hs0
        have kc := fun W => floorDiv_pos M bs.length W (by omega) (by omega) (by omega)
        have f1 : hiOf (M : Int) = ((M / 18446744073709551616 : Nat) : Int) := by unfold hiOf; omega
        have f2 : loOf (M : Int) = ((M % 18446744073709551616 : Nat) : Int) := by unfold loOf; omega
        rw [← f1, ← f2] at kc
        have e : ((M / bs.length : Nat) : Int) = avgL (ts.map Tv.x) := by rw [HAV.out]; simp
        rw [e] at kc
        have KC := Lib.hid kc; clear kc e f1 f2
        go_wp2_with fail
        refine (KC.out _).mono ?_
        rintro e w1 ⟨rfl, rfl⟩
        go_wp2
        go_ret
        exact ⟨rfl, rfl⟩
      · obtain ⟨M, hM⟩ : ∃ M : Nat, s = -(M : Int) := ⟨s.natAbs, by omega⟩
        have kc := fun W => floorDiv_neg M bs.length (avgL (ts.map Tv.x)) W (by omega) (by omega) (by omega) (by omega) (by rw [HAV.out, hM])
        have f1 : hiOf s = 18446744073709551615 - (((M - 1) / 18446744073709551616 : Nat) : Int) := by unfold hiOf; omega
        have f2 : loOf s = 18446744073709551615 - (((M - 1) % 18446744073709551616 : Nat) : Int) := by unfold loOf; omega
        rw [← f1, ← f2] at kc
        have KC := Lib.hid kc; clear kc f1 f2 hM
        go_wp2_with fail
        refine (KC.out _).mono ?_
        rintro e w1 ⟨rfl, rfl⟩
        go_wp2
        go_ret
        exact ⟨rfl, rfl⟩
end Go.Proofs.YtikikddkhikfkaaGreatDoor

set_option linter.unusedSimpArgs false
namespace Go.Proofs.YtikikddkhikfkaaGreatDoor
open Go.RowKit

/-- a priority less so much, within 64 bits -/
def subP (a : Int) (s : Sd) : Sd := { s with pri := clip (s.pri - a) }
/-- a priority and so much of the power's, within 64 bits -/
def addP (s : Sd) : Sd := { s with pri := clip (s.pri + s.pow) }
def shiftL (l : List Sd) : List Sd := l.map (subP (avgL l))
theorem avgL_bd (l : List Sd) (hne : l ≠ []) (B : Int) (h : ∀ s ∈ l, -B ≤ s.pri ∧ s.pri ≤ B) : -B ≤ avgL l ∧ avgL l ≤ B := by
  have hl : 0 < (l.length : Int) := by have := List.length_pos_iff.2 hne; omega
  have hb := sumI_bd (prisOf l) (-B) B (fun x hx => by
    obtain ⟨s, hs, rfl⟩ := List.mem_map.1 hx
    exact h s hs)
  have e : (prisOf l).length = l.length := by simp [prisOf]
  rw [e] at hb
  unfold avgL
  constructor
  · rw [Int.le_ediv_iff_mul_le hl, Int.mul_comm]; exact hb.1
  · have := Int.ediv_le_ediv hl hb.2
    rw [Int.mul_ediv_cancel_left _ (by omega)] at this
    exact this

set_option maxRecDepth 100000 in
set_option maxHeartbeats 1600000 in
theorem shift_any (lo g : Nat) (A : Option Addr) (c : Nat) (bs : List Nat) (ts : List Tv) (prop : Value) (tot : Int) (same : Bool) (w : World) (h : VSet w lo g A c bs ts prop tot same) (hn : bs.length ≤ 1000) (hn0 : 0 < bs.length)
    (hp : ∀ t ∈ ts, -4611686018427387904 ≤ t.x.pri ∧ t.x.pri ≤ 4611686018427387904) :
    Calls Tryz.prog 108 #[ptrTo g] w fun e w' => e = .returned (.tuple #[]) ∧ ∃ ts', ts'.map Tv.x = shiftL (ts.map Tv.x) ∧ VSet w' lo g A c bs ts' prop tot same ∧ OnlyV g bs w w' := by
  have KA := Lib.hid (avg_any lo g A c bs ts prop tot same w h hn hn0 hp)
  have hab : in64 (avgL (ts.map Tv.x)) := by
    have := avgL_bd (ts.map Tv.x) (by intro e; have h1 := congrArg List.length e; simp at h1; have := h.len; rw [h1] at this; simp at this; omega) 4611686018427387904 (fun s hs => by
      obtain ⟨t, ht, rfl⟩ := List.mem_map.1 hs
      exact hp t ht)
    unfold in64; omega
  unfold ptrTo at *
  have h0 : w.cell? ⟨g, 0, none⟩ = some (.slice A bs.length c) := h.head.cell 0
  have H := Lib.hid h; have HP := Lib.hid hp; clear h hp
  have hsh : shiftL (ts.map Tv.x) = (ts.map Tv.x).map (subP (avgL (ts.map Tv.x))) := rfl
  have HSH := Lib.hid hsh; clear hsh
  generalize avgL (ts.map Tv.x) = av at *
  go_enter Tryz.func108, Tryz.ntmps108
  go_wp2_with (first | (go_at_call 110; refine (nil_any g bs.length c A w h0 hn0).mono ?_; rintro e w' ⟨rfl, rfl⟩) | (go_at_call 137; refine KA.out.mono ?_; rintro e w' ⟨rfl, rfl⟩))
  go_loopw [15] (fun i wr => ∃ k : Nat, k ≤ bs.length ∧ i = .int .i64 k ∧ Hid (VSet wr lo g A c bs (mapTo (onX (subP av)) ts k) prop tot same) ∧ Hid (OnlyV g bs w wr)) (fun i _ => bs.length - (intOf i).toNat)
  case atStart => exact ⟨0, Nat.zero_le _, rfl, by rw [mapTo_zero]; exact H.out, OnlyV.refl _ _ _⟩
  case round =>
    obtain ⟨k, hk, rfl, HV, HO⟩ := hrel
    by_cases hlt : k < bs.length
    · obtain ⟨b, t, hb, ht⟩ := H.out.at_ hlt
      have ht' := mapTo_get (onX (subP av)) ts k t ht
      obtain ⟨r0, rfl, _, hp⟩ := HV.out.ptr hb
      obtain ⟨_, hbv, hok⟩ := HV.out.vals k b t hb ht'
      obtain ⟨c0, c1, c2, c3⟩ := t.val_cells hbv
      have f3 := hbv.free 3
      have hb3 := HP.out t (List.mem_of_getElem? ht)
      have hset := HV.out.setPri hb ht' (clip (t.x.pri - av))
      have e1 : (mapTo (onX (subP av)) ts k).set k { t with x := { t.x with pri := clip (t.x.pri - av) } } = mapTo (onX (subP av)) ts (k + 1) := mapTo_succ (onX (subP av)) ts k t ht
      rw [e1] at hset
      have KC := Lib.hid (fun W => subClip_any t.x.pri av W ⟨by omega, by omega⟩ hab)
      have HSET := Lib.hid hset; have HB := Lib.hid hb; have HT := Lib.hid ht; have HBV := Lib.hid hbv; have HOK := Lib.hid hok; have HT' := Lib.hid ht'
      have hmem := Lib.hid (List.mem_of_getElem? hb)
      clear hset e1 hb ht hbv hok ht' c0 c1 c2
      generalize clip (t.x.pri - av) = q at *
      go_wp2_with (go_at_call 138; refine (KC.out _).mono ?_; rintro e w' ⟨rfl, rfl⟩)
      go_roundw
      case rel => exact ⟨k + 1, by omega, by go_num, HSET.out, HO.out.trans (OnlyV.putVal _ hmem.out 3 _)⟩
      case measure => simp [intOf]; omega
    · have hfin := HV.out
      rw [mapTo_full _ _ _ (by rw [H.out.len]; omega)] at hfin
      have HF := Lib.hid hfin; clear hfin
      go_wp2
      go_end0
      exact ⟨rfl, _, (onX_map _ _).trans HSH.out.symm, HF.out, HO.out⟩

/-- no two have one address -/
def distinct (l : List Sd) : Prop := ∀ (i j : Nat) (x y : Sd), l[i]? = some x → l[j]? = some y → i ≠ j → x.adr.toList ≠ y.adr.toList

set_option maxRecDepth 100000 in
set_option maxHeartbeats 3200000 in
theorem most_any (lo g : Nat) (A : Option Addr) (c : Nat) (bs : List Nat) (ts : List Tv) (prop : Value) (tot : Int) (same : Bool) (w : World) (h : VSet w lo g A c bs ts prop tot same) (hn : bs.length ≤ 1000000) (hd : distinct (ts.map Tv.x)) :
    Calls Tryz.prog 141 #[ptrTo g] w fun e w' => e = .returned (pval bs (propOf (ts.map Tv.x))) ∧ ∃ n, w' = w.drewN n := by
  unfold ptrTo
  have h0 : w.cell? ⟨g, 0, none⟩ = some (.slice A bs.length c) := h.head.cell 0
  have H := Lib.hid h; have HD := Lib.hid hd; clear h hd
  go_enter Tryz.func141, Tryz.ntmps141
  go_wp2
  go_loopw [3, 11] (fun v i wr => ∃ k : Nat, k ≤ bs.length ∧ i = .int .i64 k ∧ Hid (v = pval bs (((ts.map Tv.x).zipIdx.take k).foldl pstep none)) ∧ Hid (∀ q, ((ts.map Tv.x).zipIdx.take k).foldl pstep none = some q → q.2 < k ∧ ∃ b t, bs[q.2]? = some b ∧ ts[q.2]? = some t ∧ t.x = q.1) ∧ Hid (∃ n, wr = w.drewN n)) (fun _ i _ => bs.length - (intOf i).toNat)
  case atStart => exact ⟨0, Nat.zero_le _, rfl, rfl, (fun q hq => by simp at hq), ⟨0, rfl⟩⟩
  case round =>
    obtain ⟨k, hk, rfl, HV, HQ, HW⟩ := hrel
    obtain ⟨nd, hnd⟩ := HW.out
    subst hnd
    by_cases hlt : k < bs.length
    · obtain ⟨b, t, hb, ht⟩ := H.out.at_ hlt
      obtain ⟨r, rfl, _, hp⟩ := H.out.ptr hb
      obtain ⟨_, hbv, hok⟩ := H.out.vals k b t hb ht
      obtain ⟨c0, c1, c2, c3⟩ := t.val_cells hbv
      have hxk : (ts.map Tv.x).zipIdx[k]? = some (t.x, k) := by rw [List.getElem?_zipIdx, List.getElem?_map, ht]; simp
      have hnx := foldl_take_succ pstep none (ts.map Tv.x).zipIdx k _ hxk
      have HNX := Lib.hid hnx; have HXK := Lib.hid hxk; have HB := Lib.hid hb; have HT := Lib.hid ht; have HBV := Lib.hid hbv; have HOK := Lib.hid hok
      clear hnx hxk hb ht hbv hok
      cases hbest : ((ts.map Tv.x).zipIdx.take k).foldl pstep none with
      | none =>
        have e : u3 = Value.pointer none := by have := HV.out; rw [hbest] at this; exact this
        subst e
        have hn1 : ((ts.map Tv.x).zipIdx.take (k + 1)).foldl pstep none = some (t.x, k) := by rw [HNX.out, hbest]; rfl
        have HN1 := Lib.hid hn1; have HBE := Lib.hid hbest; clear hn1 hbest
        go_wp2_with (go_at_call 96; refine (cmp_nil b _).mono ?_; rintro e w1 ⟨rfl, rfl⟩)
        go_roundw
        case rel => exact ⟨k + 1, by omega, by go_num, by rw [HN1.out]; show _ = ptrTo (bs.getD k 0); rw [List.getD_eq_getElem?_getD, HB.out]; rfl, (fun q hq => by rw [HN1.out] at hq; cases hq; exact ⟨Nat.lt_succ_self _, b, t, HB.out, HT.out, rfl⟩), ⟨_, rfl⟩⟩
        case measure => simp [intOf]; omega
      | some q =>
        obtain ⟨hqk, b', t', hb', ht', hx'⟩ := HQ.out q hbest
        have e : u3 = Value.pointer (some ⟨b', 0, none⟩) := by
          have := HV.out; rw [hbest] at this
          rw [this]; show ptrTo (bs.getD q.2 0) = _
          rw [List.getD_eq_getElem?_getD, hb']; rfl
        subst e
        obtain ⟨_, hbv', hok'⟩ := H.out.vals q.2 b' t' hb' ht'
        obtain ⟨d0, d1, d2, d3⟩ := t'.val_cells hbv'
        have hne : t'.x.adr.toList ≠ t.x.adr.toList := HD.out q.2 k t'.x t.x (by rw [List.getElem?_map, ht']; rfl) (by rw [List.getElem?_map, HT.out]; rfl) (by omega)
        have e1 : (t'.x.adr.toList == t.x.adr.toList) = false := by simpa using hne
        have hn1 : ((ts.map Tv.x).zipIdx.take (k + 1)).foldl pstep none = if aheadB t'.x t.x then some q else some (t.x, k) := by rw [HNX.out, hbest, pstep, ← hx', e1, Bool.false_or]
        have HN1 := Lib.hid hn1; have HBE := Lib.hid hbest; have HB' := Lib.hid hb'; have HT' := Lib.hid ht'; have HX' := Lib.hid hx'; have HBV' := Lib.hid hbv'; have HOK' := Lib.hid hok'
        have HNE := Lib.hid hne
        clear hn1 hbest hb' ht' hx' hbv' hok' hne e1
        cases hah : aheadB t'.x t.x with
        | true =>
          have hn2 : ((ts.map Tv.x).zipIdx.take (k + 1)).foldl pstep none = some q := by rw [HN1.out, hah]; rfl
          have HN2 := Lib.hid hn2; clear hn2
          have HAH := Lib.hid hah; clear hah
          have HCY := Lib.hid (fun n => cmp_yes b' b t' t (w.drewN n) (HBV'.out.drewN n) (HBV.out.drewN n) (HOK'.out.drewN n) (HOK.out.drewN n) HAH.out)
          go_wp2_with (go_at_call 96; refine (HCY.out _).mono ?_; rintro e w1 ⟨rfl, nd2, rfl⟩)
          go_roundw
          case rel => exact ⟨k + 1, by omega, by go_num, by rw [HN2.out]; show _ = ptrTo (bs.getD q.2 0); rw [List.getD_eq_getElem?_getD, HB'.out]; rfl, (fun q1 hq => by rw [HN2.out] at hq; cases hq; exact ⟨by omega, b', t', HB'.out, HT'.out, HX'.out⟩), ⟨_, rfl⟩⟩
          case measure => simp [intOf]; omega
        | false =>
          have hn2 : ((ts.map Tv.x).zipIdx.take (k + 1)).foldl pstep none = some (t.x, k) := by rw [HN1.out, hah]; rfl
          have HN2 := Lib.hid hn2; clear hn2
          have HAH := Lib.hid hah; clear hah
          have HCY := Lib.hid (fun n => cmp_no b' b t' t (w.drewN n) (HBV'.out.drewN n) (HBV.out.drewN n) (HOK'.out.drewN n) (HOK.out.drewN n) HAH.out (.inr HNE.out))
          go_wp2_with (go_at_call 96; refine (HCY.out _).mono ?_; rintro e w1 ⟨rfl, nd2, rfl⟩)
          go_roundw
          case rel => exact ⟨k + 1, by omega, by go_num, by rw [HN2.out]; show _ = ptrTo (bs.getD k 0); rw [List.getD_eq_getElem?_getD, HB.out]; rfl, (fun q1 hq => by rw [HN2.out] at hq; cases hq; exact ⟨Nat.lt_succ_self _, b, t, HB.out, HT.out, rfl⟩), ⟨_, rfl⟩⟩
          case measure => simp [intOf]; omega
    · have e : k = bs.length := by omega
      have h1 := HV.out
      rw [List.take_of_length_le (by rw [List.length_zipIdx, List.length_map, H.out.len]; omega)] at h1
      have H1 := Lib.hid h1; clear h1
      have HE := Lib.hid e; clear e
      go_wp2
      go_ret
      exact ⟨ret_val H1.out, nd, rfl⟩
end Go.Proofs.YtikikddkhikfkaaGreatDoor

set_option linter.unusedSimpArgs false
namespace Go.Proofs.YtikikddkhikfkaaGreatDoor
open Go.RowKit

/-- one turn, the power of all being T -/
def turnOf (T : Int) (l : List Sd) : List Sd :=
  match propOf (l.map addP) with
  | none => l.map addP
  | some q => (l.map addP).set q.2 (subP T q.1)
theorem distinct_map {l : List Sd} (h : distinct l) (f : Sd → Sd) (hf : ∀ s, (f s).adr = s.adr) : distinct (l.map f) := by
  intro i j x y hx hy hij
  rw [List.getElem?_map] at hx hy
  cases hi : l[i]? with
  | none => rw [hi] at hx; simp at hx
  | some a =>
    cases hj : l[j]? with
    | none => rw [hj] at hy; simp at hy
    | some b =>
      rw [hi] at hx; rw [hj] at hy
      simp only [Option.map_some, Option.some.injEq] at hx hy
      subst hx; subst hy
      rw [hf, hf]
      exact h i j a b hi hj hij
/-- where the one ahead stands -/
theorem propOf_at (l : List Sd) (hne : l ≠ []) : ∃ q, propOf l = some q ∧ l[q.2]? = some q.1 := by
  have : ∀ k, k ≤ l.length → (k ≠ 0 → (l.zipIdx.take k).foldl pstep none ≠ none) ∧ (∀ q, (l.zipIdx.take k).foldl pstep none = some q → l[q.2]? = some q.1) := by
    intro k
    induction k with
    | zero => intro _; exact ⟨fun h => absurd rfl h, fun q h => by simp at h⟩
    | succ k ih =>
      intro hk
      obtain ⟨h1, h2⟩ := ih (by omega)
      have hx : l.zipIdx[k]? = some (l[k], k) := by rw [List.getElem?_zipIdx, List.getElem?_eq_getElem (by omega)]; simp
      rw [foldl_take_succ pstep none l.zipIdx k _ hx]
      cases hb : (l.zipIdx.take k).foldl pstep none with
      | none =>
        refine ⟨fun _ h => by simp [pstep] at h, fun q h => ?_⟩
        simp only [pstep, Option.some.injEq] at h
        subst h
        exact List.getElem?_eq_getElem (by omega)
      | some p =>
        refine ⟨fun _ h => ?_, fun q h => ?_⟩
        · simp only [pstep] at h; split at h <;> cases h
        · simp only [pstep] at h
          split at h
          · cases h; exact h2 p hb
          · cases h; exact List.getElem?_eq_getElem (by omega)
  obtain ⟨h1, h2⟩ := this l.length (Nat.le_refl _)
  rw [List.take_of_length_le (by simp)] at h1 h2
  have hl : l.length ≠ 0 := fun h => hne (List.length_eq_zero_iff.1 h)
  cases hp : l.zipIdx.foldl pstep none with
  | none => exact absurd hp (h1 hl)
  | some q => exact ⟨q, hp, h2 q hp⟩

set_option maxRecDepth 100000 in
set_option maxHeartbeats 3200000 in
theorem inc_any (lo g : Nat) (A : Option Addr) (c : Nat) (bs : List Nat) (ts : List Tv) (prop : Value) (tot : Int) (same : Bool) (w : World) (h : VSet w lo g A c bs ts prop tot same) (hn : bs.length ≤ 1000) (hn0 : 0 < bs.length)
    (hd : distinct (ts.map Tv.x)) (ht0 : 0 < tot) (ht1 : tot ≤ 1152921504606846976) (hp : ∀ t ∈ ts, in64 t.x.pri ∧ in64 t.x.pow) :
    Calls Tryz.prog 111 #[ptrTo g] w fun e w' => e = .returned (pval bs (propOf ((ts.map Tv.x).map addP))) ∧ ∃ ts', ts'.map Tv.x = turnOf tot (ts.map Tv.x) ∧ VSet w' lo g A c bs ts' prop tot same ∧ OnlyV g bs w w' := by
  unfold ptrTo
  have h0 : w.cell? ⟨g, 0, none⟩ = some (.slice A bs.length c) := h.head.cell 0
  have hg := h.head.lt
  have H := Lib.hid h; have HP := Lib.hid hp; have HDD := Lib.hid hd; clear h hp hd
  go_enter Tryz.func111, Tryz.ntmps111
  go_wp2
  go_loopw [12] (fun i wr => ∃ k : Nat, k ≤ bs.length ∧ i = .int .i64 k ∧ Hid (VSet wr lo g A c bs (mapTo (onX addP) ts k) prop tot same) ∧ Hid (OnlyV g bs w wr)) (fun i _ => bs.length - (intOf i).toNat)
  case atStart => exact ⟨0, Nat.zero_le _, rfl, by rw [mapTo_zero]; exact H.out, OnlyV.refl _ _ _⟩
  case round =>
    obtain ⟨k, hk, rfl, HV, HO⟩ := hrel
    by_cases hlt : k < bs.length
    · obtain ⟨b, t, hb, ht⟩ := H.out.at_ hlt
      have ht' := mapTo_get (onX addP) ts k t ht
      obtain ⟨r0, rfl, _, hp⟩ := HV.out.ptr hb
      obtain ⟨_, hbv, hok⟩ := HV.out.vals k b t hb ht'
      obtain ⟨c0, c1, c2, c3⟩ := t.val_cells hbv
      have f3 := hbv.free 3
      have hb3 := HP.out t (List.mem_of_getElem? ht)
      have hset : ∀ n, VSet ((wr.drewN n).setCell ⟨b, 3, none⟩ (.int .i64 (clip (t.x.pri + t.x.pow)))) lo g (some ⟨r0, 0, none⟩) c bs (mapTo (onX addP) ts (k + 1)) prop tot same := fun n => by
        have hset := (HV.out.keep (KeepV.drewN lo wr n)).setPri hb ht' (clip (t.x.pri + t.x.pow))
        have e1 : (mapTo (onX addP) ts k).set k { t with x := { t.x with pri := clip (t.x.pri + t.x.pow) } } = mapTo (onX addP) ts (k + 1) := mapTo_succ (onX addP) ts k t ht
        rw [e1] at hset
        exact hset
      have KC := Lib.hid (fun W => addClip_any t.x.pri t.x.pow W hb3.1 hb3.2)
      have HSET := Lib.hid hset; have HB := Lib.hid hb; have HT := Lib.hid ht; have HBV := Lib.hid hbv; have HOK := Lib.hid hok; have HT' := Lib.hid ht'
      have hmem := Lib.hid (List.mem_of_getElem? hb)
      clear hset hb ht hbv hok ht' c0 c1
      generalize clip (t.x.pri + t.x.pow) = q at *
      go_wp2_with fail
      go_quiet ((go_at_call 135; first | exact quietA (KC.out _) | exact quietL (KC.out _)))
      go_wp2
      go_roundw
      case rel => exact ⟨k + 1, by omega, by go_num, HSET.out _, (HO.out.trans (OnlyV.drewN _ _)).trans (OnlyV.putVal _ hmem.out 3 _)⟩
      case measure => simp [intOf]; omega
    · have hfin := HV.out
      rw [mapTo_full _ _ _ (by rw [H.out.len]; omega)] at hfin
      have hx1 : (ts.map (onX addP)).map Tv.x = (ts.map Tv.x).map addP := onX_map _ _
      have hd1 : distinct ((ts.map (onX addP)).map Tv.x) := by rw [hx1]; exact distinct_map HDD.out _ (fun _ => rfl)
      have KM := Lib.hid (most_any lo g A c bs _ prop tot same wr hfin (by omega) hd1)
      rw [hx1] at KM
      have hne : (ts.map Tv.x).map addP ≠ [] := fun e => by
        have h1 := congrArg List.length e
        have := H.out.len
        simp at h1; rw [h1] at this; simp at this; omega
      obtain ⟨q, hq, hqa⟩ := propOf_at _ hne
      have htq : (ts.map (onX addP)).length = bs.length := hfin.len
      have hq2 : q.2 < bs.length := by
        have := (List.getElem?_eq_some_iff.1 hqa).1
        simp at this; have := H.out.len; omega
      obtain ⟨b, t, hb, ht⟩ := hfin.at_ hq2
      have hxt : t.x = q.1 := by
        rw [← hx1, List.getElem?_map, ht] at hqa
        simpa using hqa
      obtain ⟨_, hbv, hok⟩ := hfin.vals q.2 b t hb ht
      obtain ⟨c0, c1, c2, c3⟩ := t.val_cells hbv
      have f3 := hbv.free 3
      have hpv : pval bs (propOf ((ts.map Tv.x).map addP)) = .pointer (some ⟨b, 0, none⟩) := by
        rw [hq]; show ptrTo (bs.getD q.2 0) = _; rw [List.getD_eq_getElem?_getD, hb]; rfl
      rw [hpv] at KM
      have HPV := Lib.hid hpv
      have hto : turnOf tot (ts.map Tv.x) = ((ts.map Tv.x).map addP).set q.2 (subP tot q.1) := by unfold turnOf; rw [hq]
      have hset : ∀ n, VSet ((wr.drewN n).setCell ⟨b, 3, none⟩ (.int .i64 (clip (t.x.pri - tot)))) lo g A c bs ((ts.map (onX addP)).set q.2 { t with x := { t.x with pri := clip (t.x.pri - tot) } }) prop tot same := fun n => (hfin.keep (KeepV.drewN lo wr n)).setPri hb ht (clip (t.x.pri - tot))
      have hmap : ((ts.map (onX addP)).set q.2 { t with x := { t.x with pri := clip (t.x.pri - tot) } }).map Tv.x = turnOf tot (ts.map Tv.x) := by
        rw [hto, List.map_set, hx1, ← hxt]; rfl
      have hti : in64 t.x.pri := by
        rw [hxt]
        obtain ⟨y, hy, hyq⟩ := List.mem_map.1 (List.mem_of_getElem? hqa)
        rw [← hyq]; exact clip_in _
      have KT := Lib.hid (fun n => tot_any lo g A c bs _ prop tot same (wr.drewN n) (hfin.keep (KeepV.drewN lo wr n)) (by omega))
      have KS := Lib.hid (fun W => subClip_any t.x.pri tot W hti ⟨by omega, by omega⟩)
      have HSET := Lib.hid hset; have HMAP := Lib.hid hmap
      have hmem := Lib.hid (List.mem_of_getElem? hb)
      clear hset hmap hto hq hqa hne hd1 hx1 hfin hpv hb ht hbv hok htq hxt c0 c1 c2 hti HV HP HDD H
      generalize clip (t.x.pri - tot) = pq at *
      go_wp2_with (go_at_call 141; refine KM.out.mono ?_; rintro e w1 ⟨rfl, nd, rfl⟩)
      refine wp_region_L (fun w' : World => ∃ n, w' = wr.drewN n) 10 (by kernel_rfl) ?_
      refine wpAnyL_take 0 (v := .pointer (some ⟨b, 0, none⟩)) rfl (by kernel_rfl) (fun _ _ _ h => h) (yields_in rfl (fun w' hw' => by obtain ⟨n1, rfl⟩ := hw'; go_simp)) ⟨nd + 1, rfl⟩ ?_
      simp only [Act.put, List.setIfInBounds_toArray, List.set_cons_zero, List.set_cons_succ]
      refine wpAnyL_take 1 (v := .pointer (some ⟨b, 0, none⟩)) rfl (by kernel_rfl) (fun _ _ _ h => h) (yields_in rfl (fun w' hw' => by obtain ⟨n1, rfl⟩ := hw'; go_simp)) ⟨nd + 1, rfl⟩ ?_
      simp only [Act.put, List.setIfInBounds_toArray, List.set_cons_zero, List.set_cons_succ]
      refine wpAnyL_take 2 (v := .pointer (some ⟨b, 0, none⟩)) rfl (by kernel_rfl) (fun _ _ _ h => h) (yields_in rfl (fun w' hw' => by obtain ⟨n1, rfl⟩ := hw'; go_simp)) ⟨nd + 1, rfl⟩ ?_
      simp only [Act.put, List.setIfInBounds_toArray, List.set_cons_zero, List.set_cons_succ]
      refine wpAnyL_take 3 (v := .pointer (some ⟨b, 3, none⟩)) rfl (by kernel_rfl) (fun _ _ _ h => h) (yields_in rfl (fun w' hw' => by obtain ⟨n1, rfl⟩ := hw'; go_simp)) ⟨nd + 1, rfl⟩ ?_
      simp only [Act.put, List.setIfInBounds_toArray, List.set_cons_zero, List.set_cons_succ]
      refine wpAnyL_take 4 (v := .int .i64 t.x.pri) rfl (by kernel_rfl) (fun _ _ _ h => h) (yields_in rfl (fun w' hw' => by obtain ⟨n1, rfl⟩ := hw'; go_simp)) ⟨nd + 1, rfl⟩ ?_
      simp only [Act.put, List.setIfInBounds_toArray, List.set_cons_zero, List.set_cons_succ]
      refine wpAnyL_take 5 (v := .pointer (some ⟨g, 0, none⟩)) rfl (by kernel_rfl) (fun _ _ _ h => h) (yields_in rfl (fun w' hw' => by obtain ⟨n1, rfl⟩ := hw'; go_simp)) ⟨nd + 1, rfl⟩ ?_
      simp only [Act.put, List.setIfInBounds_toArray, List.set_cons_zero, List.set_cons_succ]
      refine wpAnyL_one 6 rfl (by kernel_rfl) rfl ?_
      go_simp
      refine (KT.out _).mono ?_
      rintro e w1 ⟨rfl, rfl⟩
      refine ⟨⟨_, rfl⟩, ?_⟩
      refine wpAnyL_one 7 rfl (by kernel_rfl) rfl ?_
      go_simp
      refine (KS.out _).mono ?_
      rintro e w1 ⟨rfl, rfl⟩
      refine ⟨⟨_, rfl⟩, ?_⟩
      refine wpAnyL_one 8 rfl (by kernel_rfl) rfl ?_
      go_simp
      refine ⟨⟨_, rfl⟩, ?_⟩
      refine wpAnyL_one 9 rfl (by kernel_rfl) rfl ?_
      go_simp
      refine ⟨⟨_, rfl⟩, ?_⟩
      refine wpAnyL_one 10 rfl (by kernel_rfl) rfl ?_
      go_simp
      refine wpAnyL_done (by kernel_rfl) ?_ _
      go_wp2
      go_ret
      exact ⟨ret_val HPV.out.symm, _, HMAP.out, HSET.out _, (HO.out.trans (OnlyV.drewN _ _)).trans (OnlyV.putVal _ hmem.out 3 _)⟩
end Go.Proofs.YtikikddkhikfkaaGreatDoor
