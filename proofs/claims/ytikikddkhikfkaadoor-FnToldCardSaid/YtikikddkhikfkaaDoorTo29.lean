/-
  impl.Told: the walk; keys of a law's set. By the session. For every slice of seats, while the package's table of round constants reads as its initialiser lays it: FnTold answers true, and the slice reads behind the call as it did before: a set's power is that of all, its proposer the one that is ahead, its sum that of keys and powers.
-/
import Derived.Test.YtikikddkhikfkaaDoorTo25
import Derived.Test.YtikikddkhikfkaaDoorTo27
import Derived.Test.YtikikddkhikfkaaDoorTo28
import Derived.Test.YtikikddkhikfkaaDoorTo23
set_option linter.all false
namespace Go.Proofs.YtikikddkhikfkaaDoor
open Go.RowKit

theorem theSet_keys (l : List Sd) (h : fitsB l = true) : ∀ x ∈ theSet l, x.key.size ≤ 2147483647 := by
  have h0 : ∀ s ∈ l, s.key.size ≤ 2147483647 := by
    simp only [fitsB, Bool.and_eq_true, List.all_eq_true] at h
    intro s hs
    have h1 := h.2 s hs
    simp only [fit2, Bool.and_eq_true, Bool.not_eq_true', decide_eq_false_iff_not, Nat.not_lt] at h1
    omega
  have key : ∀ (l acc : List Sd), (∀ s ∈ l, s.key.size ≤ 2147483647) → (∀ s ∈ acc, s.key.size ≤ 2147483647) → ∀ x ∈ l.foldl setAcc acc, x.key.size ≤ 2147483647 := by
    intro l
    induction l with
    | nil => intro acc _ h; exact h
    | cons s r ih =>
      intro acc h1 h2
      refine ih _ (fun x hx => h1 x (List.mem_cons_of_mem _ hx)) fun x hx => ?_
      unfold setAcc at hx
      split at hx
      · exact h2 x hx
      · rcases List.mem_append.1 hx with hx | hx
        · exact h2 x hx
        · obtain rfl := List.mem_singleton.1 hx
          exact h1 s (List.mem_cons_self ..)
  intro x hx
  exact key _ [] (fun s hs => h0 s (List.mem_of_mem_take hs)) (by simp) x ((rankedL_perm _).mem_iff.1 hx)
/-- the proposer's address -/
def headP (l : List Sd) : ByteArray :=
  match propOf l with
  | none => .empty
  | some q => q.1.adr
theorem headP_nil : headP [] = .empty := rfl
set_option maxRecDepth 100000 in
set_option maxHeartbeats 800000 in
theorem getProp_nil (g c : Nat) (A : Option Addr) (w : World) (h0 : w.cell? ⟨g, 0, none⟩ = some (.slice A 0 c)) :
    Calls Tryd.prog 80 #[.pointer (some ⟨g, 0, none⟩)] w fun e w' => e = .returned (.pointer none) ∧ w' = w := by
  go_enter Tryd.func80, Tryd.ntmps80
  go_wp2_with fail
  go_ret
  exact ⟨rfl, rfl⟩
set_option maxRecDepth 100000 in
set_option maxHeartbeats 800000 in
theorem first_nil (g c : Nat) (A : Option Addr) (w : World) (h0 : w.cell? ⟨g, 0, none⟩ = some (.slice A 0 c)) :
    Calls Tryd.prog 48 #[.pointer (some ⟨g, 0, none⟩)] w fun e w' => e = .returned (.string .empty) ∧ Below w.heap.size w w' := by
  have KC := Lib.hid (getProp_nil g c A w h0)
  clear h0
  go_enter Tryd.func48, Tryd.ntmps48
  go_wp2_with fail
  refine KC.out.mono ?_
  rintro e w1 ⟨rfl, rfl⟩
  go_wp2_with fail
  go_ret
  exact ⟨rfl, Below.refl _ _⟩
theorem firstV_any (lo g : Nat) (A : Option Addr) (c : Nat) (bs : List Nat) (ts : List Tv) (tot : Int) (same : Bool) (w : World) (h : VSet w lo g A c bs ts (pval bs (propOf (ts.map Tv.x))) tot same) :
    Calls Tryd.prog 48 #[ptrTo g] w fun e w' => e = .returned (.string (headP (ts.map Tv.x))) ∧ Below w.heap.size w w' := by
  by_cases h0 : bs.length = 0
  · have hts : ts = [] := List.eq_nil_of_length_eq_zero (by have := h.len; omega)
    have hc : w.cell? ⟨g, 0, none⟩ = some (.slice A 0 c) := by have h1 : w.cell? ⟨g, 0, none⟩ = some (.slice A bs.length c) := h.head.cell 0; rw [h0] at h1; exact h1
    rw [hts]
    exact first_nil g c A w hc
  · obtain ⟨q, hq, hqa⟩ := propOf_at (ts.map Tv.x) (by intro e; have h1 := congrArg List.length e; have h2 := h.len; rw [List.length_map, List.length_nil] at h1; omega)
    have hq2 : q.2 < bs.length := by have h1 := (List.getElem?_eq_some_iff.1 hqa).1; have h2 := h.len; rw [List.length_map] at h1; omega
    obtain ⟨b, t, hb, ht⟩ := h.at_ hq2
    obtain ⟨_, hbv, hok⟩ := h.vals q.2 b t hb ht
    have hpv : pval bs (propOf (ts.map Tv.x)) = ptrTo b := by
      rw [hq]; show ptrTo (bs.getD q.2 0) = _; rw [List.getD_eq_getElem?_getD, hb]; rfl
    rw [hpv] at h
    have hx : t.x = q.1 := by rw [List.getElem?_map, ht] at hqa; exact Option.some.inj hqa
    have hh : headP (ts.map Tv.x) = t.x.adr := by unfold headP; rw [hq, hx]
    rw [hh]
    exact first_any lo g A c bs ts b t tot same w h (by omega) hbv hok
set_option maxRecDepth 100000 in
set_option maxHeartbeats 1600000 in
theorem told_any (x : List Sd) (A : Option Addr) (n c : Nat) (w : World) (hr : Rd w w.heap.size 4 A n (cellsOf x)) (hn : n ≤ 1000) (hk : ∀ s ∈ x, s.key.size ≤ 10000000000) (hp : ∀ s ∈ x, 0 ≤ s.pow ∧ s.pow ≤ 1125899906842624) (hK : Kw w) :
    Calls Tryd.prog 15 #[.slice A n c] w fun e w' => ∃ A' c', e = .returned (.tuple #[.int .i64 (totL x), .string (headP x), .slice A' 32 c']) ∧ Rd w' w'.heap.size 1 A' 32 (bc (rootL (x.map seatB))) ∧ Below w.heap.size w w' := by
  have hln := hr.len
  have HC := Lib.hid (seats_any x A n c w hr (by omega))
  have HL := Lib.hid hln; have HKS := Lib.hid hk; have HP := Lib.hid hp; have HKW := Lib.hid hK
  clear hr hln hk hp hK
  go_enter Tryd.func15, Tryd.ntmps15
  go_wp2_with fail
  refine HC.out.mono ?_
  rintro e w1 ⟨A1, c1, ts, rfl, hr1, hm, hok, hb1⟩
  have HM := Lib.hid hm; have HB1 := Lib.hid hb1
  have HC2 := Lib.hid (setOf_any ts A1 n c1 w1 hr1 hok (by omega))
  clear hr1 hm hok hb1
  go_wp2_with fail
  refine HC2.out.mono ?_
  rintro e w2 ⟨A2, c2, bs, rfl, hv2, hb2⟩
  have HV2 := Lib.hid hv2; have HB2 := Lib.hid (HB1.out.trans (hb2.mono HB1.out.size)); clear hv2 hb2
  have hbl : bs.length = n := by have h1 := HV2.out.len; have h2 := congrArg List.length HM.out; have h3 := HL.out; simp at h2; omega
  have hmem : ∀ t ∈ ts, t.x ∈ x := fun t ht => by rw [← HM.out]; exact List.mem_map_of_mem ht
  have HC3 := Lib.hid (tot_new w1.heap.size w1.heap.size A2 c2 bs ts _ _ w2 HV2.out (by omega) (fun t ht => HP.out _ (hmem t ht)))
  have HBL := Lib.hid hbl; have HMEM := Lib.hid hmem
  clear hbl hmem
  go_wp2_with fail
  refine HC3.out.mono ?_
  rintro e w3 ⟨rfl, hw3⟩
  have hv3 : VSet w3 w1.heap.size w1.heap.size A2 c2 bs ts (pval bs (propOf (ts.map Tv.x))) (totL (ts.map Tv.x)) true := by rw [hw3]; exact HV2.out.setTot _
  have hb3 : Below w.heap.size w w3 := by rw [hw3]; exact HB2.out.setCell (p := ⟨w1.heap.size, 2, none⟩) HB1.out.size _
  have HV3 := Lib.hid hv3; have HB3 := Lib.hid hb3
  have HC4 := Lib.hid (firstV_any _ _ _ _ _ _ _ _ w3 hv3)
  clear hw3 hv3 hb3
  go_wp2_with fail
  refine HC4.out.mono ?_
  rintro e w4 ⟨rfl, hb4⟩
  have HV4 := Lib.hid (HV3.out.keep (KeepV.of_below w1.heap.size hb4 (Nat.le_refl _)))
  have HB4 := Lib.hid (HB3.out.trans (hb4.mono HB3.out.size))
  clear hb4
  have HC5 := Lib.hid (vhash2_any _ _ _ _ _ _ _ _ _ w4 HV4.out (by have := HBL.out; omega) (fun t ht => HKS.out _ (HMEM.out t ht)) (HKW.out.belowS HB4.out))
  go_wp2_with fail
  refine HC5.out.mono ?_
  rintro e w5 ⟨A5, c5, rfl, hf5, hb5⟩
  have HF5 := Lib.hid hf5; have HB5 := Lib.hid (HB4.out.trans (hb5.mono HB4.out.size))
  clear hf5 hb5
  go_wp2_with fail
  go_ret3
  rw [HM.out]
  refine ⟨A5, c5, rfl, ?_, HB5.out⟩
  have h1 := HF5.out.1
  rw [← HM.out, List.map_map]
  exact h1
end Go.Proofs.YtikikddkhikfkaaDoor

set_option linter.all false
namespace Go.Proofs.YtikikddkhikfkaaDoor
open Go.ChangeShapes Go.WideShapes Go.ChangeAt Go.RowKit

/-- a row of bytes as a string -/
theorem rd_back {w : World} {B m c : Nat} {A : Option Addr} {l : List UInt8} (h : Rd w B 1 A m (bc l)) (hl : 0 < l.length) : (convert 22 9 (.slice A m c)).run Tryd.prog w = .ok (.string ⟨l.toArray⟩) w := by
  have hm := h.len1
  have hx : l[0]? = some l[0] := List.getElem?_eq_getElem hl
  obtain ⟨ad, rfl, _, _⟩ := h.2 0 _ (bc_get hx)
  rw [hm]
  refine run_convert_bytes_back w _ _ 5 ad c l Tryd.underlying22 Tryd.underlying5 Tryd.underlying9 fun j hj => ?_
  obtain ⟨ad', e, _, hc⟩ := h.2 j _ (bc_get (List.getElem?_eq_getElem hj))
  cases e
  exact hc
theorem distinct_of_apart {l : List Sd} (h : l.Pairwise apartS) : distinct l := by
  intro i j x y hx hy hij he
  have hi := List.getElem?_eq_some_iff.1 hx
  have hj := List.getElem?_eq_some_iff.1 hy
  rw [List.pairwise_iff_getElem] at h
  have key : ∀ (a b : Sd), apartS a b → a.adr.toList ≠ b.adr.toList := fun a b hab e => by
    unfold apartS sameB at hab
    rw [e] at hab
    simp at hab
  rcases Nat.lt_or_gt_of_ne hij with hlt | hlt
  · have := h i j hi.1 hj.1 hlt
    rw [hi.2, hj.2] at this
    exact key _ _ this he
  · have := h j i hj.1 hi.1 hlt
    rw [hi.2, hj.2] at this
    exact key _ _ this he.symm
set_option maxRecDepth 100000 in
set_option maxHeartbeats 3200000 in
theorem fnTold_any (l : List Sd) (A : Option Addr) (n c : Nat) (w : World) (hr : Rd w w.heap.size 4 A n (cellsOf l)) (hnc : n ≤ c) (hcm : c ≤ maxLen) (hl : ∀ s ∈ l, s.fits) (hK : Kw w) :
    Calls Tryd.prog 4 #[.slice A n c] w fun e w' => e = .returned (.bool true) ∧ Below w.heap.size w w' := by
  have hlen := hr.len
  simp only [maxLen] at hcm
  have hF := fits1_any l A n c w hr (by omega) (fun x hx => by have := hl x hx; simp only [Sd.fits, maxLen] at this; omega)
  have HF := Lib.hid hF; have HR := Lib.hid hr; have HL := Lib.hid hl; have HLEN := Lib.hid hlen; have HKW := Lib.hid hK
  clear hF hr hl hlen hK
  cases hfb : fitsB l with
  | false =>
    rw [hfb] at HF
    go_enter Tryd.func4, Tryd.ntmps4
    go_wp2_with fail
    refine HF.out.mono ?_
    rintro e w1 ⟨rfl, hb1⟩
    have HB1 := Lib.hid hb1; clear hb1
    go_wp2
    go_ret
    exact ⟨rfl, HB1.out⟩
  | true =>
    have hn31 := fitsB_length hfb
    have hkeys := theSet_keys l hfb
    rw [hfb] at HF
    go_enter Tryd.func4, Tryd.ntmps4
    go_wp2_with fail
    refine HF.out.mono ?_
    rintro e w1 ⟨rfl, hb1⟩
    have HB1 := Lib.hid hb1; clear hb1
    have HS := Lib.hid (set_any l A n c w1 ((HR.out.below HB1.out).more HB1.out.size) (by have := HLEN.out; omega) hnc (fun x hx => by have := HL.out x hx; simp only [Sd.fits] at this; omega))
    go_wp2_with fail
    refine HS.out.mono ?_
    rintro e w2 ⟨A2, c2, n2, rfl, hr2, hb2⟩
    have hn2 : n2 = (theSet l).length := hr2.len
    have hle := theSet_length l
    have hgood := theSet_good l HL.out
    have hdist := distinct_of_apart (theSet_apart l)
    have e2 : rankedL (setL l) = theSet l := rfl
    rw [e2] at hr2
    have HR2 := Lib.hid hr2; have HB2 := Lib.hid (HB1.out.trans (hb2.mono HB1.out.size)); have HN2 := Lib.hid hn2; have HKS := Lib.hid hkeys; have HGD := Lib.hid hgood; have HDI := Lib.hid hdist
    clear hr2 hb2 hn2 hkeys hgood hdist e2
    generalize theSet l = x at *
    have hn60 : n2 ≤ 60 := by have := HN2.out; omega
    have HC := Lib.hid (back_any x A2 n2 c2 w2 HR2.out (by omega))
    go_wp2_with fail
    refine HC.out.mono ?_
    rintro e w3 ⟨A3, c3, rfl, hr3, hb3⟩
    have HR3 := Lib.hid hr3; have HB3 := Lib.hid (HB2.out.trans (hb3.mono HB2.out.size)); have HB23 := Lib.hid hb3; clear hr3 hb3
    have HT := Lib.hid (told_any x A3 n2 c3 w3 HR3.out (by omega) (fun s hs => by have := HKS.out s hs; omega) (fun s hs => by have := (HGD.out s hs).pow; omega) (HKW.out.belowS HB3.out))
    go_wp2_with fail
    refine HT.out.mono ?_
    rintro e w4 ⟨A4, c4, rfl, hr4, hb4⟩
    have HR4 := Lib.hid hr4; have HB4 := Lib.hid (HB3.out.trans (hb4.mono HB3.out.size)); have HB24 := Lib.hid (HB23.out.trans (hb4.mono HB23.out.size))
    have HR24 := Lib.hid ((HR2.out.below HB24.out).more HB24.out.size)
    clear hr4 hb4
    obtain ⟨rt, hrt⟩ : ∃ rt : ByteArray, rt = ⟨(rootL (x.map seatB)).toArray⟩ := ⟨_, rfl⟩
    have hcv : ∀ w', Below w4.heap.size w4 w' → (convert 22 9 (.slice A4 32 c4)).run Tryd.prog w' = .ok (.string rt) w' := fun w' hb => by
      rw [hrt]; exact rd_back (HR4.out.below hb) (by rw [rootL_length]; decide)
    have HCV := Lib.hid hcv; have HRT := Lib.hid hrt
    have HS0 : Hid (Below w4.heap.size w4 w4.drew) := Lib.hid (Below.refl _ _).drew
    clear hcv hrt
    by_cases h0 : n2 = 0
    · subst h0
      obtain rfl : x = [] := List.eq_nil_of_length_eq_zero HN2.out.symm
      have HSS := Lib.hid (fun W => seatSum_any [] none 0 0 W (Rd.nil _ _ _ _) (by decide) (fun y hy => by cases hy))
      go_wp2_with fail
      rw [show totL [] = 0 from rfl, show headP [] = ⟨#[]⟩ from rfl]
      refine wp_region_L (fun w' : World => Below w4.heap.size w4 w') 13 (by kernel_rfl) ?_
      refine wpAnyL_take 0 (v := .int .i64 0) rfl (by kernel_rfl) (fun _ _ _ h => h) (yields_on (by kernel_rfl) (fun w' hw' => by go_simp)) HS0.out ?_
      simp only [Act.put, List.setIfInBounds_toArray, List.set_cons_zero, List.set_cons_succ]
      refine wpAnyL_take 1 (v := .bool true) rfl (by kernel_rfl) (fun _ _ _ h => h) (yields_on (by kernel_rfl) (fun w' hw' => by go_simp)) HS0.out ?_
      simp only [Act.put, List.setIfInBounds_toArray, List.set_cons_zero, List.set_cons_succ]
      refine wpAnyL_take 2 (v := .bool true) rfl (by kernel_rfl) (fun _ _ _ h => h) (yields_on (by kernel_rfl) (fun w' hw' => by go_simp)) HS0.out ?_
      simp only [Act.put, List.setIfInBounds_toArray, List.set_cons_zero, List.set_cons_succ]
      refine wpAnyL_take 3 (v := .string ⟨#[]⟩) rfl (by kernel_rfl) (fun _ _ _ h => h) (yields_on (by kernel_rfl) (fun w' hw' => by go_simp)) HS0.out ?_
      simp only [Act.put, List.setIfInBounds_toArray, List.set_cons_zero, List.set_cons_succ]
      refine wpAnyL_take 4 (v := .bool true) rfl (by kernel_rfl) (fun _ _ _ h => h) (yields_on (by kernel_rfl) (fun w' hw' => by go_simp)) HS0.out ?_
      simp only [Act.put, List.setIfInBounds_toArray, List.set_cons_zero, List.set_cons_succ]
      refine wpAnyL_take 5 (v := .bool true) rfl (by kernel_rfl) (fun _ _ _ h => h) (yields_on (by kernel_rfl) (fun w' hw' => by go_simp)) HS0.out ?_
      simp only [Act.put, List.setIfInBounds_toArray, List.set_cons_zero, List.set_cons_succ]
      refine wpAnyL_take 6 (v := .bool true) rfl (by kernel_rfl) (fun _ _ _ h => h) (yields_on (by kernel_rfl) (fun w' hw' => by go_simp)) HS0.out ?_
      simp only [Act.put, List.setIfInBounds_toArray, List.set_cons_zero, List.set_cons_succ]
      refine wpAnyL_take 7 (v := .slice A4 32 c4) rfl (by kernel_rfl) (fun _ _ _ h => h) (yields_on (by kernel_rfl) (fun w' hw' => by go_simp)) HS0.out ?_
      simp only [Act.put, List.setIfInBounds_toArray, List.set_cons_zero, List.set_cons_succ]
      refine wpAnyL_take 8 (v := .string rt) rfl (by kernel_rfl) (fun _ _ _ h => h) (yields_on (by kernel_rfl) (fun w' hw' => by have hc := HCV.out w' hw'; go_simp)) HS0.out ?_
      simp only [Act.put, List.setIfInBounds_toArray, List.set_cons_zero, List.set_cons_succ]
      refine wpAnyL_on 9 rfl (by kernel_rfl) (by kernel_rfl) ?_
      go_simp
      refine (HSS.out _).mono ?_
      rintro e w5 ⟨A5, m5, c5, rfl, ho5, hb5⟩
      have HS1 : Hid (Below w4.heap.size w4 w5) := Lib.hid (HS0.out.trans (hb5.mono HS0.out.size))
      have hc5 : (convert 22 9 (.slice A5 m5 c5)).run Tryd.prog w5 = .ok (.string rt) w5 := by
        rw [HRT.out]; exact rd_back ho5.rd (by rw [rootL_length]; decide)
      clear ho5 hb5
      refine ⟨HS1.out, ?_⟩
      refine wpAnyL_on 10 rfl (by kernel_rfl) (by kernel_rfl) ?_
      go_simp
      refine ⟨HS1.out, ?_⟩
      refine wpAnyL_on 11 rfl (by kernel_rfl) (by kernel_rfl) ?_
      go_simp
      refine ⟨HS1.out, ?_⟩
      refine wpAnyL_one 12 rfl (by kernel_rfl) rfl ?_
      go_simp
      refine ⟨HS1.out, ?_⟩
      refine wpAnyL_one 13 rfl (by kernel_rfl) rfl ?_
      go_simp
      refine wpAnyL_done (by kernel_rfl) ?_ _
      go_wp2_with fail
      go_ret
      exact ⟨rfl, HB4.out.trans (HS1.out.mono HB4.out.size)⟩
    · have hne : x ≠ [] := by rintro rfl; have := HN2.out; simp at this; omega
      obtain ⟨q, hq, hqa⟩ := propOf_at x hne
      have hhp : headP x = q.1.adr := by unfold headP; rw [hq]
      obtain ⟨ad, hA2, hadb, hc0, _, _, _⟩ := HR24.out.seat hqa
      subst hA2
      have hqn : q.2 < n2 := by have := (List.getElem?_eq_some_iff.1 hqa).1; have := HN2.out; omega
      have HT1 := Lib.hid (fun W hW => stotal_any x (some ad) n2 c2 W ((HR24.out.below hW).more (show w4.heap.size ≤ W.heap.size from Below.size hW)) (by omega) (fun s hs => by have := (HGD.out s hs).pow; omega))
      have HT2 := Lib.hid (fun W hW => sfirst_any x (some ad) n2 c2 W ((HR24.out.below hW).more (show w4.heap.size ≤ W.heap.size from Below.size hW)) (by omega) HDI.out)
      have HT3 := Lib.hid (fun W hW => seatSum_any x (some ad) n2 c2 W ((HR24.out.below hW).more (show w4.heap.size ≤ W.heap.size from Below.size hW)) (by omega) (fun s hs => ⟨by have := HKS.out s hs; omega, by have := (HGD.out s hs).pow; unfold in64'; omega⟩))
      rw [hq] at HT2
      simp only [ixOf] at HT2
      obtain ⟨q1, q2⟩ := q
      simp only at *
      have HC0 := Lib.hid hc0; have HADB := Lib.hid hadb
      clear hq hqa hc0 hadb
      go_wp2_with fail
      rw [hhp]
      clear hhp
      refine wp_region_L (fun w' : World => Below w4.heap.size w4 w') 22 (by kernel_rfl) ?_
      refine wpAnyL_take 0 (v := .int .i64 (totL x)) rfl (by kernel_rfl) (fun _ _ _ h => h) (yields_on (by kernel_rfl) (fun w' hw' => by go_simp)) HS0.out ?_
      simp only [Act.put, List.setIfInBounds_toArray, List.set_cons_zero, List.set_cons_succ]
      refine wpAnyL_take 1 (v := .slice (some ad) n2 c2) rfl (by kernel_rfl) (fun _ _ _ h => h) (yields_on (by kernel_rfl) (fun w' hw' => by go_simp)) HS0.out ?_
      simp only [Act.put, List.setIfInBounds_toArray, List.set_cons_zero, List.set_cons_succ]
      refine wpAnyL_one 2 rfl (by kernel_rfl) rfl ?_
      go_simp
      refine (HT1.out _ HS0.out).mono ?_
      rintro e wa ⟨rfl, hba⟩
      have HSA : Hid (Below w4.heap.size w4 wa) := Lib.hid (HS0.out.trans (hba.mono HS0.out.size))
      clear hba
      refine ⟨HSA.out, ?_⟩
      refine wpAnyL_take 3 (v := .bool true) rfl (by kernel_rfl) (fun _ _ _ h => h) (yields_on (by kernel_rfl) (fun w' hw' => by go_simp)) HSA.out ?_
      simp only [Act.put, List.setIfInBounds_toArray, List.set_cons_zero, List.set_cons_succ]
      refine wpAnyL_take 4 (v := .bool true) rfl (by kernel_rfl) (fun _ _ _ h => h) (yields_on (by kernel_rfl) (fun w' hw' => by go_simp)) HSA.out ?_
      simp only [Act.put, List.setIfInBounds_toArray, List.set_cons_zero, List.set_cons_succ]
      refine wpAnyL_take 5 (v := .string q1.adr) rfl (by kernel_rfl) (fun _ _ _ h => h) (yields_on (by kernel_rfl) (fun w' hw' => by go_simp)) HSA.out ?_
      simp only [Act.put, List.setIfInBounds_toArray, List.set_cons_zero, List.set_cons_succ]
      refine wpAnyL_take 6 (v := .slice (some ad) n2 c2) rfl (by kernel_rfl) (fun _ _ _ h => h) (yields_on (by kernel_rfl) (fun w' hw' => by go_simp)) HSA.out ?_
      simp only [Act.put, List.setIfInBounds_toArray, List.set_cons_zero, List.set_cons_succ]
      refine wpAnyL_take 7 (v := .slice (some ad) n2 c2) rfl (by kernel_rfl) (fun _ _ _ h => h) (yields_on (by kernel_rfl) (fun w' hw' => by go_simp)) HSA.out ?_
      simp only [Act.put, List.setIfInBounds_toArray, List.set_cons_zero, List.set_cons_succ]
      refine wpAnyL_on 8 rfl (by kernel_rfl) (by kernel_rfl) ?_
      go_simp
      refine (HT2.out _ HSA.out).mono ?_
      rintro e wb ⟨rfl, hbb⟩
      have HSB : Hid (Below w4.heap.size w4 wb) := Lib.hid (HSA.out.trans (hbb.mono HSA.out.size))
      clear hbb
      refine ⟨HSB.out, ?_⟩
      refine wpAnyL_take 9 (v := .pointer (some (ad.add (q2 * 4)))) rfl (by kernel_rfl) (fun _ _ _ h => h) (yields_on (by kernel_rfl) (fun w' hw' => by go_simp)) HSB.out ?_
      simp only [Act.put, List.setIfInBounds_toArray, List.set_cons_zero, List.set_cons_succ]
      refine wpAnyL_take 10 (v := .pointer (some (ad.add (q2 * 4)))) rfl (by kernel_rfl) (fun _ _ _ h => h) (yields_on (by kernel_rfl) (fun w' hw' => by go_simp)) HSB.out ?_
      simp only [Act.put, List.setIfInBounds_toArray, List.set_cons_zero, List.set_cons_succ]
      refine wpAnyL_take 11 (v := .string q1.adr) rfl (by kernel_rfl) (fun _ _ _ h => h) (yields_on (by kernel_rfl) (fun w' hw' => by have hc := (hw'.cell (p := ad.add (q2 * 4)) (by rw [add_block]; exact HADB.out)).trans HC0.out; go_simp)) HSB.out ?_
      simp only [Act.put, List.setIfInBounds_toArray, List.set_cons_zero, List.set_cons_succ]
      refine wpAnyL_take 12 (v := .bool true) rfl (by kernel_rfl) (fun _ _ _ h => h) (yields_on (by kernel_rfl) (fun w' hw' => by go_simp)) HSB.out ?_
      simp only [Act.put, List.setIfInBounds_toArray, List.set_cons_zero, List.set_cons_succ]
      refine wpAnyL_take 13 (v := .bool true) rfl (by kernel_rfl) (fun _ _ _ h => h) (yields_on (by kernel_rfl) (fun w' hw' => by go_simp)) HSB.out ?_
      simp only [Act.put, List.setIfInBounds_toArray, List.set_cons_zero, List.set_cons_succ]
      refine wpAnyL_take 14 (v := .bool true) rfl (by kernel_rfl) (fun _ _ _ h => h) (yields_on (by kernel_rfl) (fun w' hw' => by go_simp)) HSB.out ?_
      simp only [Act.put, List.setIfInBounds_toArray, List.set_cons_zero, List.set_cons_succ]
      refine wpAnyL_take 15 (v := .slice A4 32 c4) rfl (by kernel_rfl) (fun _ _ _ h => h) (yields_on (by kernel_rfl) (fun w' hw' => by go_simp)) HSB.out ?_
      simp only [Act.put, List.setIfInBounds_toArray, List.set_cons_zero, List.set_cons_succ]
      refine wpAnyL_take 16 (v := .string rt) rfl (by kernel_rfl) (fun _ _ _ h => h) (yields_on (by kernel_rfl) (fun w' hw' => by have hc := HCV.out w' hw'; go_simp)) HSB.out ?_
      simp only [Act.put, List.setIfInBounds_toArray, List.set_cons_zero, List.set_cons_succ]
      refine wpAnyL_take 17 (v := .slice (some ad) n2 c2) rfl (by kernel_rfl) (fun _ _ _ h => h) (yields_on (by kernel_rfl) (fun w' hw' => by go_simp)) HSB.out ?_
      simp only [Act.put, List.setIfInBounds_toArray, List.set_cons_zero, List.set_cons_succ]
      refine wpAnyL_on 18 rfl (by kernel_rfl) (by kernel_rfl) ?_
      go_simp
      refine (HT3.out _ HSB.out).mono ?_
      rintro e w5 ⟨A5, m5, c5, rfl, ho5, hb5⟩
      have HS1 : Hid (Below w4.heap.size w4 w5) := Lib.hid (HSB.out.trans (hb5.mono HSB.out.size))
      have hc5 : (convert 22 9 (.slice A5 m5 c5)).run Tryd.prog w5 = .ok (.string rt) w5 := by
        rw [HRT.out]; exact rd_back ho5.rd (by rw [rootL_length]; decide)
      clear ho5 hb5
      refine ⟨HS1.out, ?_⟩
      refine wpAnyL_on 19 rfl (by kernel_rfl) (by kernel_rfl) ?_
      go_simp
      refine ⟨HS1.out, ?_⟩
      refine wpAnyL_on 20 rfl (by kernel_rfl) (by kernel_rfl) ?_
      go_simp
      refine ⟨HS1.out, ?_⟩
      refine wpAnyL_one 21 rfl (by kernel_rfl) rfl ?_
      go_simp
      refine ⟨HS1.out, ?_⟩
      refine wpAnyL_one 22 rfl (by kernel_rfl) rfl ?_
      go_simp
      refine wpAnyL_done (by kernel_rfl) ?_ _
      go_wp2_with fail
      go_ret
      exact ⟨rfl, HB4.out.trans (HS1.out.mono HB4.out.size)⟩
end Go.Proofs.YtikikddkhikfkaaDoor
