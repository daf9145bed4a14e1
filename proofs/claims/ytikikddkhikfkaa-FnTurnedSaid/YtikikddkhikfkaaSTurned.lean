/-
  spec.Turned: the walk. By the session.
-/
import Derived.Test.YtikikddkhikfkaaShifted
import Derived.Test.YtikikddkhikfkaaFirst
import Derived.Test.YtikikddkhikfkaaTurn
set_option linter.unusedSimpArgs false
namespace Go.Proofs.Ytikikddkhikfkaa
open Go.RowKit

theorem addP_mid (l : List Sd) (j : Nat) (x : Sd) (hx : l[j]? = some x) : (mapTo addP l j).set j { x with pri := clip (x.pri + x.pow) } = mapTo addP l (j + 1) := mapTo_succ addP l j x hx

set_option maxRecDepth 100000 in
set_option maxHeartbeats 6400000 in
theorem sturned_any (l : List Sd) (A : Option Addr) (n c times : Nat) (w : World) (hr : Rd w w.heap.size 4 A n (cellsOf l)) (hl : turnable l) (htm : 0 < times) (htm2 : times ≤ 100000) :
    Calls Try.prog 21 #[.slice A n c, .int .i64 times] w fun e w' => ∃ A' c', e = .returned (.tuple #[.slice A' n c', .string (nextP (turnsL (totL l) (times - 1) (startL l)))]) ∧ Rd w' w'.heap.size 4 A' n (cellsOf (turnsL (totL l) times (startL l))) ∧ Below w.heap.size w w' := by
  have hln := hr.len
  have hn : n ≤ 500 := by have := hl.len; omega
  have hn0 : 0 < n := by have := List.length_pos_iff.2 hl.ne; omega
  have hT := sumI_bd (powsOf l) 1 1125899906842624 (fun x hx => by
    obtain ⟨s, hs, rfl⟩ := List.mem_map.1 hx
    exact hl.pow s hs)
  have hpl : (powsOf l).length = n := by simp [powsOf, hln]
  rw [hpl] at hT
  have hT' : (n : Int) * 1 ≤ totL l ∧ totL l ≤ (n : Int) * 1125899906842624 := hT
  have hspri := scaleL_pri (2 * totL l) l 1152921504606846976 (fun s hs => by have := hl.pri s hs; omega)
  have hcore : ∀ k, (turnsL (totL l) k (startL l)).map core = l.map core := fun k => (turnsL_core _ _ k).trans (startL_core _)
  have hgin := turnsL_in (totL l) _ (startL_in l)
  have hpow : ∀ k, ∀ s ∈ turnsL (totL l) k (startL l), in64 s.pow := fun k => pow_of_core (p := in64) (hcore k) (fun s hs => by have := hl.pow s hs; unfold in64; omega)
  have hdist : ∀ k, distinct (turnsL (totL l) k (startL l)) := fun k => distinct_of_core (hcore k) hl.dist
  have hlens : ∀ k, (turnsL (totL l) k (startL l)).length = n := fun k => by rw [length_of_core (hcore k)]; exact hln.symm
  have KT := Lib.hid (stotal_any l A n c w hr (by omega) (fun x hx => by have := hl.pow x hx; omega))
  have hst : startL l = shiftL (scaleL (2 * totL l) l) := rfl
  have HST := Lib.hid hst; have HL := Lib.hid hln; have HR := Lib.hid hr; have HTN := Lib.hid hl; have HSP := Lib.hid hspri; have HGI := Lib.hid hgin; have HPW := Lib.hid hpow; have HDI := Lib.hid hdist; have HLN := Lib.hid hlens
  clear hst hln hr hl hspri hgin hpow hdist hlens hcore hpl hT
  generalize totL l = T at *
  go_enter Try.func21, Try.ntmps21
  go_wp2_with fail
  refine KT.out.mono ?_
  rintro e w1 ⟨rfl, hb1⟩
  have HB1 := Lib.hid hb1; clear hb1
  have KS := Lib.hid (sscaled_any l A n c (2 * T) w1 ((HR.out.below HB1.out).more HB1.out.size) (by omega) hn0 HTN.out.pri (by omega))
  go_wp2_with fail
  refine KS.out.mono ?_
  rintro e w2 ⟨A2, c2, rfl, hr2, hb2⟩
  have HB2 := Lib.hid (HB1.out.trans (hb2.mono HB1.out.size))
  have KH := Lib.hid (shifted_any _ A2 n c2 w2 hr2 (by omega) hn0 (fun x hx => by have := HSP.out x hx; omega))
  rw [← HST.out] at KH
  clear hr2 hb2
  go_wp2_with fail
  refine KH.out.mono ?_
  rintro e w3 ⟨A1, c1, rfl, ho3, hb3⟩
  have HO3 := Lib.hid ho3; have HB3 := Lib.hid hb3; clear ho3 hb3
  have z2 := HB2.out.size
  go_wp2
  go_loopw [8, 19] (fun p i wr => ∃ k : Nat, k ≤ times ∧ i = .int .i64 k ∧ Hid (wr.ownsRow w2.heap.size 49 4 (.slice A1 n c1) n (cellsOf (turnsL T k (startL l)))) ∧ Hid (Below w2.heap.size w2 wr) ∧ Hid (k ≠ 0 → p = .string (nextP (turnsL T (k - 1) (startL l))))) (fun _ i _ => times - (intOf i).toNat)
  case atStart => exact ⟨0, Nat.zero_le _, rfl, HO3.out, HB3.out, fun h => absurd rfl h⟩
  case round =>
    obtain ⟨k, hk, rfl, HO, HB, HPR⟩ := hrel
    by_cases hlt : k < times
    · have hgi := HGI.out k; have hpw := HPW.out k; have hdi := HDI.out k; have hle := HLN.out k
      have hnx : turnsL T (k + 1) (startL l) = turnOf T (turnsL T k (startL l)) := rfl
      have hnp : Hid (k + 1 ≠ 0 → Value.string (nextP (turnsL T k (startL l))) = .string (nextP (turnsL T (k + 1 - 1) (startL l)))) := Lib.hid fun _ => rfl
      have HNX := Lib.hid hnx; clear hnx HPR
      have hnp2 : ∀ b, b = nextP (turnsL T k (startL l)) → Hid (k + 1 ≠ 0 → Value.string b = .string (nextP (turnsL T (k + 1 - 1) (startL l)))) := fun b e => by rw [e]; exact hnp
      have HNP := Lib.hid hnp2; clear hnp hnp2
      generalize turnsL T k (startL l) = m at *
      obtain ⟨g, cap, hv, hg0, hg1⟩ := HO.out.form (by omega)
      have e1 : A1 = some ⟨g, 0, none⟩ := by injection hv
      subst e1
      clear hv
      have HGM := Lib.hid hgi; have HPM := Lib.hid hpw; have HDM := Lib.hid hdi; have HLM := Lib.hid hle
      clear hgi hpw hdi hle
      go_wp2
      go_loopw [23] (fun i wx => ∃ j : Nat, j ≤ n ∧ i = .int .i64 j ∧ Hid (wx.ownsRow w2.heap.size 49 4 (.slice (some ⟨g, 0, none⟩) n c1) n (cellsOf (mapTo addP m j))) ∧ Hid (Below w2.heap.size w2 wx)) (fun i _ => n - (intOf i).toNat)
      case atStart => exact ⟨0, Nat.zero_le _, rfl, by rw [mapTo_zero]; exact HO.out, HB.out⟩
      case round =>
        obtain ⟨j, hj, rfl, HO4, HB4⟩ := hrel
        by_cases hjk : j < n
        · have hjl : j < m.length := by have := HLM.out; omega
          have hx : m[j]? = some m[j] := List.getElem?_eq_getElem hjl
          have hx' := mapTo_get addP m j _ hx
          have hgx := HGM.out _ (List.getElem_mem hjl)
          have hpx := HPM.out _ (List.getElem_mem hjl)
          have hsu := addP_mid m j _ hx
          generalize m[j] = x at *
          obtain ⟨x0, x1, x2, x3⟩ := own_seat HO4.out hx'
          have hf := own_free HO4.out
          have hset : ∀ q, ((wr.drewN q).setCell ⟨g, j * 4 + 3, none⟩ (.int .i64 (clip (x.pri + x.pow)))).ownsRow w2.heap.size 49 4 (.slice (some ⟨g, 0, none⟩) n c1) n (cellsOf (mapTo addP m (j + 1))) := fun q => by
            have h1 := own_pri (q := clip (x.pri + x.pow)) (own_drewN HO4.out q) hx'
            rw [hsu] at h1
            exact h1
          have KP := Lib.hid (fun W => plus_any x.pri x.pow W hgx hpx)
          have HSET := Lib.hid hset; clear hset hsu x0 x1 hx hx' hgx hpx
          generalize clip (x.pri + x.pow) = q at *
          go_wp2_with fail
          refine wp_region_L (fun w' : World => ∃ n, w' = wr.drewN n) 15 (by kernel_rfl) ?_
          refine wpAnyL_take 0 (v := .slice (some ⟨g, 0, none⟩) n c1) rfl (by kernel_rfl) (fun _ _ _ h => h) (yields_in rfl (fun w' hw' => by obtain ⟨n1, rfl⟩ := hw'; go_simp)) ⟨1, rfl⟩ ?_
          simp only [Act.put, List.setIfInBounds_toArray, List.set_cons_zero, List.set_cons_succ]
          refine wpAnyL_take 1 (v := .int .i64 j) rfl (by kernel_rfl) (fun _ _ _ h => h) (yields_in rfl (fun w' hw' => by obtain ⟨n1, rfl⟩ := hw'; go_simp)) ⟨1, rfl⟩ ?_
          simp only [Act.put, List.setIfInBounds_toArray, List.set_cons_zero, List.set_cons_succ]
          refine wpAnyL_take 2 (v := .slice (some ⟨g, 0, none⟩) n c1) rfl (by kernel_rfl) (fun _ _ _ h => h) (yields_in rfl (fun w' hw' => by obtain ⟨n1, rfl⟩ := hw'; go_simp)) ⟨1, rfl⟩ ?_
          simp only [Act.put, List.setIfInBounds_toArray, List.set_cons_zero, List.set_cons_succ]
          refine wpAnyL_take 3 (v := .int .i64 j) rfl (by kernel_rfl) (fun _ _ _ h => h) (yields_in rfl (fun w' hw' => by obtain ⟨n1, rfl⟩ := hw'; go_simp)) ⟨1, rfl⟩ ?_
          simp only [Act.put, List.setIfInBounds_toArray, List.set_cons_zero, List.set_cons_succ]
          refine wpAnyL_take 4 (v := .pointer (some ⟨g, j * 4, none⟩)) rfl (by kernel_rfl) (fun _ _ _ h => h) (yields_in rfl (fun w' hw' => by obtain ⟨n1, rfl⟩ := hw'; go_simp)) ⟨1, rfl⟩ ?_
          simp only [Act.put, List.setIfInBounds_toArray, List.set_cons_zero, List.set_cons_succ]
          refine wpAnyL_take 5 (v := .pointer (some ⟨g, j * 4 + 3, none⟩)) rfl (by kernel_rfl) (fun _ _ _ h => h) (yields_in rfl (fun w' hw' => by obtain ⟨n1, rfl⟩ := hw'; go_simp)) ⟨1, rfl⟩ ?_
          simp only [Act.put, List.setIfInBounds_toArray, List.set_cons_zero, List.set_cons_succ]
          refine wpAnyL_take 6 (v := .int .i64 x.pri) rfl (by kernel_rfl) (fun _ _ _ h => h) (yields_in rfl (fun w' hw' => by obtain ⟨n1, rfl⟩ := hw'; go_simp)) ⟨1, rfl⟩ ?_
          simp only [Act.put, List.setIfInBounds_toArray, List.set_cons_zero, List.set_cons_succ]
          refine wpAnyL_take 7 (v := .slice (some ⟨g, 0, none⟩) n c1) rfl (by kernel_rfl) (fun _ _ _ h => h) (yields_in rfl (fun w' hw' => by obtain ⟨n1, rfl⟩ := hw'; go_simp)) ⟨1, rfl⟩ ?_
          simp only [Act.put, List.setIfInBounds_toArray, List.set_cons_zero, List.set_cons_succ]
          refine wpAnyL_take 8 (v := .int .i64 j) rfl (by kernel_rfl) (fun _ _ _ h => h) (yields_in rfl (fun w' hw' => by obtain ⟨n1, rfl⟩ := hw'; go_simp)) ⟨1, rfl⟩ ?_
          simp only [Act.put, List.setIfInBounds_toArray, List.set_cons_zero, List.set_cons_succ]
          refine wpAnyL_take 9 (v := .pointer (some ⟨g, j * 4, none⟩)) rfl (by kernel_rfl) (fun _ _ _ h => h) (yields_in rfl (fun w' hw' => by obtain ⟨n1, rfl⟩ := hw'; go_simp)) ⟨1, rfl⟩ ?_
          simp only [Act.put, List.setIfInBounds_toArray, List.set_cons_zero, List.set_cons_succ]
          refine wpAnyL_take 10 (v := .pointer (some ⟨g, j * 4 + 2, none⟩)) rfl (by kernel_rfl) (fun _ _ _ h => h) (yields_in rfl (fun w' hw' => by obtain ⟨n1, rfl⟩ := hw'; go_simp)) ⟨1, rfl⟩ ?_
          simp only [Act.put, List.setIfInBounds_toArray, List.set_cons_zero, List.set_cons_succ]
          refine wpAnyL_take 11 (v := .int .i64 x.pow) rfl (by kernel_rfl) (fun _ _ _ h => h) (yields_in rfl (fun w' hw' => by obtain ⟨n1, rfl⟩ := hw'; go_simp)) ⟨1, rfl⟩ ?_
          simp only [Act.put, List.setIfInBounds_toArray, List.set_cons_zero, List.set_cons_succ]
          refine wpAnyL_one 12 rfl (by kernel_rfl) rfl ?_
          go_simp
          refine (KP.out _).mono ?_
          rintro e w5 ⟨rfl, rfl⟩
          refine ⟨⟨1, rfl⟩, ?_⟩
          refine wpAnyL_one 13 rfl (by kernel_rfl) rfl ?_
          go_simp
          refine ⟨⟨1, rfl⟩, ?_⟩
          refine wpAnyL_one 14 rfl (by kernel_rfl) rfl ?_
          go_simp
          refine ⟨⟨1, rfl⟩, ?_⟩
          refine wpAnyL_one 15 rfl (by kernel_rfl) rfl ?_
          go_simp
          refine wpAnyL_done (by kernel_rfl) ?_ _
          go_wp2
          go_roundw
          case rel => exact ⟨j + 1, by omega, by go_num, HSET.out 1, (HB4.out.drew).setCell (p := ⟨g, j * 4 + 3, none⟩) hg0 _⟩
          case measure => simp [intOf]; omega
        · obtain rfl : j = n := by omega
          have ho5 := HO4.out
          rw [mapTo_full _ _ _ (by have := HLM.out; omega)] at ho5
          have hd5 : distinct (m.map addP) := distinct_map HDM.out _ (fun _ => rfl)
          have hne : m.map addP ≠ [] := fun e => by
            have h1 := congrArg List.length e
            have := HLM.out
            simp at h1; rw [h1] at this; simp at this; omega
          obtain ⟨q, hq, hqa⟩ := propOf_at _ hne
          have hqn : q.2 < j := by
            have := (List.getElem?_eq_some_iff.1 hqa).1
            have := HLM.out
            simp at *; omega
          have hqi : in64 q.1.pri := by
            obtain ⟨y, _, hyq⟩ := List.mem_map.1 (List.mem_of_getElem? hqa)
            rw [← hyq]; exact clip_in _
          have KF := Lib.hid (sfirst_any (m.map addP) (some ⟨g, 0, none⟩) j c1 _ (Rd.of_own ho5) (by omega) hd5)
          rw [hq] at KF
          have hto : turnOf T m = (m.map addP).set q.2 { q.1 with pri := clip (q.1.pri + -T) } := by unfold turnOf; rw [hq]; rfl
          have hnq : nextP m = q.1.adr := by unfold nextP; rw [hq]
          have HO5 := Lib.hid ho5; have HQA := Lib.hid hqa; have HTO := Lib.hid hto
          have HNQ := HNP.out q.1.adr hnq.symm
          clear hd5 hne hq hqa hto ho5 hnq HNP
          obtain ⟨x, qi⟩ := q
          simp only [ixOf] at *
          go_wp2_with fail
          refine KF.out.mono ?_
          rintro e w6 ⟨rfl, hb6⟩
          have ho6 := own_below HO5.out hb6 (Nat.le_refl _)
          have HB6 := Lib.hid (HB4.out.trans (hb6.mono HB4.out.size))
          obtain ⟨x0, x1, x2, x3⟩ := own_seat ho6 HQA.out
          have hf := own_free ho6
          have hset := own_pri (q := clip (x.pri + -T)) ho6 HQA.out
          rw [← HTO.out, ← HNX.out] at hset
          have x0' : (w6.setCell ⟨g, qi * 4 + 3, none⟩ (.int .i64 (clip (x.pri + -T)))).cell? ⟨g, qi * 4, none⟩ = some (.string x.adr) := (World.cell?_setCell_other w6 _ _ _ (by intro e; injection e; omega)).trans x0
          have KP := Lib.hid (fun W => plus_any x.pri (-T) W hqi ⟨by omega, by omega⟩)
          have HSET := Lib.hid hset
          have hneg : wrap64 (-T) = -T := by unfold wrap64; omega
          clear hset ho6 hb6 x1 x2 HTO hqi x0
          generalize clip (x.pri + -T) = pq at *
          go_wp2_with fail
          refine (KP.out _).mono ?_
          rintro e w7 ⟨rfl, rfl⟩
          go_wp2
          go_roundw
          case rel => exact ⟨k + 1, by omega, by go_num, HSET.out, HB6.out.setCell (p := ⟨g, qi * 4 + 3, none⟩) hg0 _, HNQ⟩
          case measure => simp [intOf]; omega
    · obtain rfl : k = times := by omega
      have hpr := HPR.out (by omega)
      subst hpr
      have HF := Lib.hid (Rd.of_own HO.out)
      have HBF := Lib.hid (HB2.out.trans (HB.out.mono z2))
      go_wp2
      go_ret2
      first | exact ⟨A1, ⟨c1, rfl⟩, HF.out, HBF.out⟩ | exact ⟨A1, c1, rfl, HF.out, HBF.out⟩
end Go.Proofs.Ytikikddkhikfkaa
