/-
  types.SetOf: the walk. By the session. RescalePriorities and what it calls: walks. By the session.
-/
import Derived.Test.YtikikddkhikfkaaDoorRows
import Derived.Test.YtikikddkhikfkaaDoorTo1
import Derived.Test.YtikikddkhikfkaaDoorTo10
import Derived.Test.YtikikddkhikfkaaDoorTo20
import Derived.Test.YtikikddkhikfkaaDoorTo2
set_option linter.unusedSimpArgs false
namespace Go.Proofs.YtikikddkhikfkaaDoor
open Go.RowKit

theorem infoPVal : (Tryd.prog.info? 147).map (fun i => (i.zero, i.size, i.bytes)) = some (some (.pointer none), 1, 8) := by kernel_rfl

set_option maxRecDepth 100000 in
set_option maxHeartbeats 1600000 in
theorem setOf_any (ts : List Tv) (A : Option Addr) (n c : Nat) (w : World) (hr : Rd w w.heap.size 4 A n (ts.flatMap Tv.seat)) (hok : ∀ t ∈ ts, t.ok w) (hn : n ≤ 1000000) :
    Calls Tryd.prog 45 #[.slice A n c] w fun e w' => ∃ (A' : Option Addr) (c' : Nat) (bs : List Nat), e = .returned (ptrTo w.heap.size) ∧ VSet w' w.heap.size w.heap.size A' c' bs ts (pval bs (propOf (ts.map Tv.x))) 0 true ∧ Below w.heap.size w w' := by
  obtain ⟨i0, hi0, hz0, hz1, hz2⟩ := info_parts infoPVal
  have HI := Lib.hid hi0; have HZ0 := Lib.hid hz0; have HZ1 := Lib.hid hz1; have HZ2 := Lib.hid hz2
  clear hi0 hz0 hz1 hz2
  have hln : ts.length = n := by have := hr.1; rw [flat_length Tv.seat 4 (fun _ => rfl)] at this; omega
  have HLN := Lib.hid hln; clear hln
  have HR := Lib.hid hr; clear hr
  have HOK := Lib.hid hok; clear hok
  go_enter Tryd.func45, Tryd.ntmps45
  go_wp2
  go_loopw [10] (fun i wr => ∃ (k : Nat) (A1 : Option Addr) (c1 : Nat) (bs : List Nat), k ≤ n ∧ i = .int .i64 k ∧ Hid (Blk wr w.heap.size 149 #[.slice A1 k c1, .pointer none, .int .i64 0, .bool false]) ∧ Hid (wr.ownsRow w.heap.size 147 1 (.slice A1 k c1) k (bs.map ptrTo)) ∧ Hid (bs.Nodup) ∧ Hid (∀ (j b : Nat) (t : Tv), bs[j]? = some b → ts[j]? = some t → w.heap.size < b ∧ Blk wr b 157 t.val) ∧ Hid (Below w.heap.size w wr)) (fun i _ => n - (intOf i).toNat)
  case atStart => exact ⟨0, none, 0, [], Nat.zero_le _, rfl, Blk.new w _ _, World.ownsRow_nil _ _ _ _, List.nodup_nil, (fun j b t h => by simp at h), (Below.refl _ _).alloc (Nat.le_refl _) _⟩
  case round =>
    obtain ⟨k, A1, c1, bs, hk, rfl, HG, HO, HN, HV, HB⟩ := hrel
    have hz := HB.out.size
    have hg : w.heap.size < wr.heap.size := HG.out.lt
    have g0 : wr.cell? ⟨w.heap.size, 0, none⟩ = some (.slice A1 k c1) := HG.out.cell 0
    by_cases hlt : k < n
    · have hk' : k < ts.length := by have := HR.out.1; rw [flat_length Tv.seat 4 (fun _ => rfl)] at this; omega
      have hx : ts[k]? = some ts[k] := List.getElem?_eq_getElem hk'
      obtain ⟨ad, rfl, _, c0, c1', c2, c3⟩ := (HR.out.below HB.out).four (fun _ => rfl) hx
      generalize ts[k] = t at *
      have HX := Lib.hid hx; clear hx
      simp only [Tv.seat, List.getElem?_cons_zero, List.getElem?_cons_succ] at c0 c1' c2 c3
      go_wp2_with fail
      have hS : (fun w' : World => w'.cell? ⟨w.heap.size, 0, none⟩ = some (.slice A1 k c1) ∧ w'.cell? ⟨wr.heap.size, 0, none⟩ = some (.slice t.A t.x.adr.size t.c) ∧ w'.cell? ⟨wr.heap.size, 1, none⟩ = some (.slice t.K t.x.key.size t.d) ∧ w'.cell? ⟨wr.heap.size, 2, none⟩ = some (.int .i64 t.x.pow) ∧ w'.cell? ⟨wr.heap.size, 3, none⟩ = some (.int .i64 t.x.pri)) (wr.alloc (.cells #[.slice t.A t.x.adr.size t.c, .slice t.K t.x.key.size t.d, .int .i64 t.x.pow, .int .i64 t.x.pri] 151)).drew := ⟨(HG.out.alloc _).drew.cell 0, (Blk.new wr _ _).drew.cell 0, (Blk.new wr _ _).drew.cell 1, (Blk.new wr _ _).drew.cell 2, (Blk.new wr _ _).drew.cell 3⟩
      have HS := Lib.hid hS; clear hS
      refine wp_region_L (fun w' : World => w'.cell? ⟨w.heap.size, 0, none⟩ = some (.slice A1 k c1) ∧ w'.cell? ⟨wr.heap.size, 0, none⟩ = some (.slice t.A t.x.adr.size t.c) ∧ w'.cell? ⟨wr.heap.size, 1, none⟩ = some (.slice t.K t.x.key.size t.d) ∧ w'.cell? ⟨wr.heap.size, 2, none⟩ = some (.int .i64 t.x.pow) ∧ w'.cell? ⟨wr.heap.size, 3, none⟩ = some (.int .i64 t.x.pri)) 23 (by kernel_rfl) ?_
      refine wpAnyL_take 0 (v := .pointer (some ⟨w.heap.size, 0, none⟩)) rfl (by kernel_rfl) (fun _ _ _ h => h) (yields_in rfl (fun w' hw' => by obtain ⟨y0, y1, y2, y3, y4⟩ := hw'; go_simp)) HS.out ?_
      simp only [Act.put, List.setIfInBounds_toArray, List.set_cons_zero, List.set_cons_succ]
      refine wpAnyL_take 1 (v := .pointer (some ⟨w.heap.size, 0, none⟩)) rfl (by kernel_rfl) (fun _ _ _ h => h) (yields_in rfl (fun w' hw' => by obtain ⟨y0, y1, y2, y3, y4⟩ := hw'; go_simp)) HS.out ?_
      simp only [Act.put, List.setIfInBounds_toArray, List.set_cons_zero, List.set_cons_succ]
      refine wpAnyL_take 2 (v := .pointer (some ⟨w.heap.size, 0, none⟩)) rfl (by kernel_rfl) (fun _ _ _ h => h) (yields_in rfl (fun w' hw' => by obtain ⟨y0, y1, y2, y3, y4⟩ := hw'; go_simp)) HS.out ?_
      simp only [Act.put, List.setIfInBounds_toArray, List.set_cons_zero, List.set_cons_succ]
      refine wpAnyL_take 3 (v := .pointer (some ⟨w.heap.size, 0, none⟩)) rfl (by kernel_rfl) (fun _ _ _ h => h) (yields_in rfl (fun w' hw' => by obtain ⟨y0, y1, y2, y3, y4⟩ := hw'; go_simp)) HS.out ?_
      simp only [Act.put, List.setIfInBounds_toArray, List.set_cons_zero, List.set_cons_succ]
      refine wpAnyL_take 4 (v := .slice A1 k c1) rfl (by kernel_rfl) (fun _ _ _ h => h) (yields_in rfl (fun w' hw' => by obtain ⟨y0, y1, y2, y3, y4⟩ := hw'; go_simp)) HS.out ?_
      simp only [Act.put, List.setIfInBounds_toArray, List.set_cons_zero, List.set_cons_succ]
      refine wpAnyL_take 5 (v := .pointer (some ⟨wr.heap.size, 0, none⟩)) rfl (by kernel_rfl) (fun _ _ _ h => h) (yields_in rfl (fun w' hw' => by obtain ⟨y0, y1, y2, y3, y4⟩ := hw'; go_simp)) HS.out ?_
      simp only [Act.put, List.setIfInBounds_toArray, List.set_cons_zero, List.set_cons_succ]
      refine wpAnyL_take 6 (v := .slice t.A t.x.adr.size t.c) rfl (by kernel_rfl) (fun _ _ _ h => h) (yields_in rfl (fun w' hw' => by obtain ⟨y0, y1, y2, y3, y4⟩ := hw'; go_simp)) HS.out ?_
      simp only [Act.put, List.setIfInBounds_toArray, List.set_cons_zero, List.set_cons_succ]
      refine wpAnyL_take 7 (v := .pointer (some ⟨wr.heap.size, 1, none⟩)) rfl (by kernel_rfl) (fun _ _ _ h => h) (yields_in rfl (fun w' hw' => by obtain ⟨y0, y1, y2, y3, y4⟩ := hw'; go_simp)) HS.out ?_
      simp only [Act.put, List.setIfInBounds_toArray, List.set_cons_zero, List.set_cons_succ]
      refine wpAnyL_take 8 (v := .slice t.K t.x.key.size t.d) rfl (by kernel_rfl) (fun _ _ _ h => h) (yields_in rfl (fun w' hw' => by obtain ⟨y0, y1, y2, y3, y4⟩ := hw'; go_simp)) HS.out ?_
      simp only [Act.put, List.setIfInBounds_toArray, List.set_cons_zero, List.set_cons_succ]
      refine wpAnyL_take 9 (v := .pointer (some ⟨wr.heap.size, 0, none⟩)) rfl (by kernel_rfl) (fun _ _ _ h => h) (yields_in rfl (fun w' hw' => by obtain ⟨y0, y1, y2, y3, y4⟩ := hw'; go_simp)) HS.out ?_
      simp only [Act.put, List.setIfInBounds_toArray, List.set_cons_zero, List.set_cons_succ]
      refine wpAnyL_take 10 (v := .slice t.A t.x.adr.size t.c) rfl (by kernel_rfl) (fun _ _ _ h => h) (yields_in rfl (fun w' hw' => by obtain ⟨y0, y1, y2, y3, y4⟩ := hw'; go_simp)) HS.out ?_
      simp only [Act.put, List.setIfInBounds_toArray, List.set_cons_zero, List.set_cons_succ]
      refine wpAnyL_take 11 (v := .agg #[.slice t.K t.x.key.size t.d, .slice t.A t.x.adr.size t.c, .bool false]) rfl (by kernel_rfl) (fun _ _ _ h => h) (yields_in rfl (fun w' hw' => by obtain ⟨y0, y1, y2, y3, y4⟩ := hw'; go_simp)) HS.out ?_
      simp only [Act.put, List.setIfInBounds_toArray, List.set_cons_zero, List.set_cons_succ]
      refine wpAnyL_take 12 (v := .iface 153 (.agg #[.slice t.K t.x.key.size t.d, .slice t.A t.x.adr.size t.c, .bool false])) rfl (by kernel_rfl) (fun _ _ _ h => h) (yields_in rfl (fun w' hw' => by obtain ⟨y0, y1, y2, y3, y4⟩ := hw'; go_simp)) HS.out ?_
      simp only [Act.put, List.setIfInBounds_toArray, List.set_cons_zero, List.set_cons_succ]
      refine wpAnyL_take 13 (v := .pointer (some ⟨wr.heap.size, 2, none⟩)) rfl (by kernel_rfl) (fun _ _ _ h => h) (yields_in rfl (fun w' hw' => by obtain ⟨y0, y1, y2, y3, y4⟩ := hw'; go_simp)) HS.out ?_
      simp only [Act.put, List.setIfInBounds_toArray, List.set_cons_zero, List.set_cons_succ]
      refine wpAnyL_take 14 (v := .int .i64 t.x.pow) rfl (by kernel_rfl) (fun _ _ _ h => h) (yields_in rfl (fun w' hw' => by obtain ⟨y0, y1, y2, y3, y4⟩ := hw'; go_simp)) HS.out ?_
      simp only [Act.put, List.setIfInBounds_toArray, List.set_cons_zero, List.set_cons_succ]
      refine wpAnyL_take 15 (v := .pointer (some ⟨wr.heap.size, 3, none⟩)) rfl (by kernel_rfl) (fun _ _ _ h => h) (yields_in rfl (fun w' hw' => by obtain ⟨y0, y1, y2, y3, y4⟩ := hw'; go_simp)) HS.out ?_
      simp only [Act.put, List.setIfInBounds_toArray, List.set_cons_zero, List.set_cons_succ]
      refine wpAnyL_take 16 (v := .int .i64 t.x.pri) rfl (by kernel_rfl) (fun _ _ _ h => h) (yields_in rfl (fun w' hw' => by obtain ⟨y0, y1, y2, y3, y4⟩ := hw'; go_simp)) HS.out ?_
      simp only [Act.put, List.setIfInBounds_toArray, List.set_cons_zero, List.set_cons_succ]
      refine wpAnyL_take 17 (v := .agg #[.slice t.A t.x.adr.size t.c, .iface 153 (.agg #[.slice t.K t.x.key.size t.d, .slice t.A t.x.adr.size t.c, .bool false]), .int .i64 t.x.pow, .int .i64 t.x.pri]) rfl (by kernel_rfl) (fun _ _ _ h => h) (yields_in rfl (fun w' hw' => by obtain ⟨y0, y1, y2, y3, y4⟩ := hw'; go_simp)) HS.out ?_
      simp only [Act.put, List.setIfInBounds_toArray, List.set_cons_zero, List.set_cons_succ]
      refine wpAnyL_one 18 rfl (by kernel_rfl) rfl ?_
      go_simp
      refine wpAnyL_one 19 rfl (by kernel_rfl) rfl ?_
      go_simp
      refine ⟨(((HG.out.alloc _).alloc _).alloc _).drew.cell 0, ?_⟩
      refine wpAnyL_one 20 rfl (by kernel_rfl) rfl ?_
      refine wp_app _ (.tmp 18) (.tmp 33) 146 rfl w.heap.size 147 i0 _ 1 8 Tryd.underlying146 HI.out HZ0.out HZ1.out HZ2.out rfl (by decide) (.slice A1 k c1) k (bs.map ptrTo) rfl ?ho (wr.heap.size + 1 + 1 + 1) (some ⟨wr.heap.size + 1 + 1, 0, none⟩) 1 1 [ptrTo (wr.heap.size + 1)] rfl ?hr ?h1 ?q1 ?q2 ?hb ?_
      case ho => exact (((HO.out.alloc _).alloc _).alloc _)
      case hr => exact Rd.drew (Rd.new _ _ _ 1 1 _ rfl (by simp))
      case h1 => intro u hu; rw [List.mem_singleton] at hu; subst hu; rfl
      case q1 => simp only [maxLen]; omega
      case q2 => omega
      case hb => simp; omega
      intro A2 c2 w2 hown2 hg2 hat2
      have HG2 := Lib.hid ((((HG.out.alloc _).alloc _).alloc _).drew.grown hg2 (own_ne_blk HO.out HG.out (by decide)))
      have HZB := Lib.hid (((((Blk.new wr 151 #[.slice t.A t.x.adr.size t.c, .slice t.K t.x.key.size t.d, .int .i64 t.x.pow, .int .i64 t.x.pri]).alloc _).alloc _).drew.grown hg2 (own_ne_blk (HO.out.alloc _) (Blk.new wr 151 #[.slice t.A t.x.adr.size t.c, .slice t.K t.x.key.size t.d, .int .i64 t.x.pow, .int .i64 t.x.pri]) (by decide))))
      have HVN := Lib.hid ((((Blk.new (wr.alloc (.cells #[.slice t.A t.x.adr.size t.c, .slice t.K t.x.key.size t.d, .int .i64 t.x.pow, .int .i64 t.x.pri] 151)) 157 t.val).alloc _).drew.grown hg2 (own_ne_blk ((HO.out.alloc _).alloc _) (Blk.new (wr.alloc (.cells #[.slice t.A t.x.adr.size t.c, .slice t.K t.x.key.size t.d, .int .i64 t.x.pow, .int .i64 t.x.pri] 151)) 157 t.val) (by decide))))
      have e0 := HG2.out.cell 0
      have e1 := HG2.out.free 0
      refine ⟨fun _ => ⟨HG2.out.cell 0, HZB.out.cell 0, HZB.out.cell 1, HZB.out.cell 2, HZB.out.cell 3⟩, ?_⟩
      simp only [Act.put, List.setIfInBounds_toArray, List.set_cons_zero, List.set_cons_succ]
      refine wpAnyL_one 21 rfl (by kernel_rfl) rfl ?_
      go_simp
      refine ⟨⟨HZB.out.cell 0, HZB.out.cell 1, HZB.out.cell 2, HZB.out.cell 3⟩, ?_⟩
      refine wpAnyL_one 22 rfl (by kernel_rfl) rfl ?_
      go_simp
      refine ⟨⟨HZB.out.cell 0, HZB.out.cell 1, HZB.out.cell 2, HZB.out.cell 3⟩, ?_⟩
      refine wpAnyL_one 23 rfl (by kernel_rfl) rfl ?_
      go_simp
      refine wpAnyL_done (by kernel_rfl) ?_ _
      go_wp2
      have hbl : bs.length = k := by have := HO.out.1; simpa using this
      have hlt' : ∀ (j b : Nat), bs[j]? = some b → w.heap.size < b ∧ b < wr.heap.size := fun j b hb => by
        have hj := (List.getElem?_eq_some_iff.1 hb).1
        obtain ⟨h1, h2⟩ := HV.out j b ts[j] hb (List.getElem?_eq_getElem (by omega))
        exact ⟨h1, h2.lt⟩
      go_roundw
      case rel =>
        refine ⟨k + 1, A2, c2, bs ++ [wr.heap.size + 1], by omega, by go_num, HG2.out.put 0 _, ?_, ?_, ?_, ?_⟩
        · show World.ownsRow _ _ _ _ _ _ _
          rw [List.map_append]
          exact own_far hown2 (p := ⟨w.heap.size, 0, none⟩) (own_ne_blk hown2 HG2.out (by decide)) _
        · show List.Nodup _
          rw [List.nodup_append]
          refine ⟨HN.out, by simp, fun a ha b hb => ?_⟩
          obtain ⟨j, hj, rfl⟩ := List.getElem_of_mem ha
          have := (hlt' j _ (List.getElem?_eq_getElem hj)).2
          rw [List.mem_singleton] at hb
          omega
        · intro j b t' hb ht'
          rw [List.getElem?_append] at hb
          split at hb
          · obtain ⟨h1, h2⟩ := HV.out j b t' hb ht'
            exact ⟨h1, ((((h2.alloc _).alloc _).alloc _).drew.grown hg2 (own_ne_blk HO.out h2 (by decide))).far (p := ⟨w.heap.size, 0, none⟩) (by show b ≠ w.heap.size; omega) _⟩
          · have hj : j = k := by
              have := (List.getElem?_eq_some_iff.1 hb).1
              simp at this; omega
            subst hj
            have e1 : b = wr.heap.size + 1 := by rw [hbl, Nat.sub_self] at hb; simpa using hb.symm
            subst e1
            have e2 : t' = t := by rw [HX.out] at ht'; exact (Option.some.inj ht').symm
            subst e2
            refine ⟨by omega, ?_⟩
            have h2 := HVN.out
            simp only [World.size_alloc] at h2
            exact h2.far (p := ⟨w.heap.size, 0, none⟩) (by show wr.heap.size + 1 ≠ w.heap.size; omega) _
        · exact (((((HB.out.alloc hz _).alloc (by simp; omega) _).alloc (by simp; omega) _).drew.grown hg2 (by simp; omega) (own_base HO.out)).setCell (p := ⟨w.heap.size, 0, none⟩) (Nat.le_refl _) _)
      case measure => simp [intOf]; omega
    · have hkn : k = n := by omega
      have hbl : bs.length = k := by have := HO.out.1; simpa using this
      have hset : VSet wr w.heap.size w.heap.size A1 c1 bs ts (.pointer none) 0 false := by
        refine ⟨by rw [hbl]; exact HG.out, by rw [hbl]; exact HO.out, by have := HLN.out; omega, HN.out, fun j b t hb ht => ?_, Nat.le_refl _⟩
        obtain ⟨h1, h2⟩ := HV.out j b t hb ht
        exact ⟨by omega, h2, (HOK.out t (List.mem_of_getElem? ht)).keep (KeepB.of_below HB.out)⟩
      have HSET := Lib.hid hset
      have hbn : bs.length ≤ 1000000 := by omega
      have HKN := Lib.hid hkn; have HBL := Lib.hid hbl; clear hkn hbl hset
      go_wp2_with fail
      refine (keys_any _ _ _ _ _ _ _ _ _ _ HSET.out hbn).mono ?_
      rintro e w1 ⟨rfl, hs1, hg1⟩
      have HS1 := Lib.hid hs1; clear hs1
      go_wp2_with fail
      refine (find_any _ _ _ _ _ _ _ _ _ _ HS1.out hbn).mono ?_
      rintro e w2 ⟨rfl, nd, rfl⟩
      have hpv : ∃ u, pval bs (propOf (ts.map Tv.x)) = .pointer u := by cases propOf (ts.map Tv.x) <;> exact ⟨_, rfl⟩
      obtain ⟨u, hu⟩ := hpv
      have e1 : w1.cell? ⟨w.heap.size, 1, none⟩ = some (.pointer none) := HS1.out.head.cell 1
      have e2 := HS1.out.head.free 1
      have hbb : Below w.heap.size w w1 := HB.out.grown hg1 hz (fun k hk => by cases hk; exact Nat.le_refl _)
      have HBB := Lib.hid hbb
      have hfin : VSet ((w1.drewN nd).setCell ⟨w.heap.size, 1, none⟩ (.pointer u)) w.heap.size w.heap.size A1 c1 bs ts (pval bs (propOf (ts.map Tv.x))) 0 true := by
        rw [hu]; exact (HS1.out.keep (KeepV.drewN _ _ nd)).setProp _
      have HFIN := Lib.hid hfin
      rw [hu]
      have HU := Lib.hid hu
      clear hfin hu hbb
      go_wp2
      go_ret
      exact ⟨A1, c1, bs, rfl, HFIN.out, (below_drewN HBB.out nd).setCell (p := ⟨w.heap.size, 1, none⟩) (Nat.le_refl _) _⟩
end Go.Proofs.YtikikddkhikfkaaDoor

namespace Go.Proofs.YtikikddkhikfkaaDoor
open Go.RowKit

def mxf (x : Int) (l : List Int) : Int := l.foldl (fun m p => if m < p then p else m) x
def mnf (x : Int) (l : List Int) : Int := l.foldl (fun m p => if p < m then p else m) x
def prisOf (l : List Sd) : List Int := l.map Sd.pri
/-- the greatest less the least priority -/
def spanOf (l : List Sd) : Int := mxf (-9223372036854775808) (prisOf l) - mnf 9223372036854775807 (prisOf l)
theorem mxf_bd : ∀ (l : List Int) (x lo hi : Int), lo ≤ x → x ≤ hi → (∀ p ∈ l, p ≤ hi) → lo ≤ mxf x l ∧ mxf x l ≤ hi := by
  intro l
  induction l with
  | nil => intro x lo hi h1 h2 _; exact ⟨h1, h2⟩
  | cons p r ih =>
    intro x lo hi h1 h2 h3
    have hp := h3 p (List.mem_cons_self ..)
    simp only [mxf, List.foldl_cons]
    exact ih _ lo hi (by split <;> omega) (by split <;> omega) fun q hq => h3 q (List.mem_cons_of_mem _ hq)
theorem mnf_bd : ∀ (l : List Int) (x lo hi : Int), lo ≤ x → x ≤ hi → (∀ p ∈ l, lo ≤ p) → lo ≤ mnf x l ∧ mnf x l ≤ hi := by
  intro l
  induction l with
  | nil => intro x lo hi h1 h2 _; exact ⟨h1, h2⟩
  | cons p r ih =>
    intro x lo hi h1 h2 h3
    have hp := h3 p (List.mem_cons_self ..)
    simp only [mnf, List.foldl_cons]
    exact ih _ lo hi (by split <;> omega) (by split <;> omega) fun q hq => h3 q (List.mem_cons_of_mem _ hq)
/-- with all priorities between lo and hi: the span -/
theorem span_bd (l : List Sd) (lo hi : Int) (hl : -9223372036854775808 ≤ lo) (hh : hi ≤ 9223372036854775807) (hne : l ≠ []) (h : ∀ s ∈ l, lo ≤ s.pri ∧ s.pri ≤ hi) : 0 ≤ spanOf l ∧ spanOf l ≤ hi - lo := by
  cases l with
  | nil => exact absurd rfl hne
  | cons s r =>
    obtain ⟨h1, h2⟩ := h s (List.mem_cons_self ..)
    have a := mxf_bd (prisOf r) s.pri s.pri hi (Int.le_refl _) h2 (fun p hp => by
      obtain ⟨x, hx, rfl⟩ := List.mem_map.1 hp
      exact (h x (List.mem_cons_of_mem _ hx)).2)
    have b := mnf_bd (prisOf r) s.pri lo s.pri h1 (Int.le_refl _) (fun p hp => by
      obtain ⟨x, hx, rfl⟩ := List.mem_map.1 hp
      exact (h x (List.mem_cons_of_mem _ hx)).1)
    have e1 : mxf (-9223372036854775808) (prisOf (s :: r)) = mxf s.pri (prisOf r) := by
      simp only [mxf, prisOf, List.map_cons, List.foldl_cons]
      congr 1
      split <;> omega
    have e2 : mnf 9223372036854775807 (prisOf (s :: r)) = mnf s.pri (prisOf r) := by
      simp only [mnf, prisOf, List.map_cons, List.foldl_cons]
      congr 1
      split <;> omega
    unfold spanOf
    rw [e1, e2]
    omega

theorem mxf_snoc (x : Int) (l : List Int) (p : Int) : mxf x (l ++ [p]) = if mxf x l < p then p else mxf x l := by unfold mxf; rw [List.foldl_append]; rfl
theorem mnf_snoc (x : Int) (l : List Int) (p : Int) : mnf x (l ++ [p]) = if p < mnf x l then p else mnf x l := by unfold mnf; rw [List.foldl_append]; rfl

/-- every priority divided -/
def divP (r : Int) (s : Sd) : Sd := { s with pri := s.pri.tdiv r }
/-- scaled, as the package has it -/
def scaleL (apart : Int) (l : List Sd) : List Sd :=
  if apart ≤ 0 then l else if apart < spanOf l then l.map (divP ((spanOf l + apart - 1) / apart)) else l
def onX (f : Sd → Sd) (t : Tv) : Tv := { t with x := f t.x }
theorem onX_map (f : Sd → Sd) (ts : List Tv) : (ts.map (onX f)).map Tv.x = (ts.map Tv.x).map f := by simp [onX, Function.comp_def]

end Go.Proofs.YtikikddkhikfkaaDoor
