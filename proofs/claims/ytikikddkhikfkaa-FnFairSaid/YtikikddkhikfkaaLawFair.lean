/-
  For every slice of seats: FnFair answers true, and it reads behind the call as it did before: in as many turns as all have power together each seat of a set of at most eight proposes as often as it has power.
-/
import Derived.Test.YtikikddkhikfkaaFairLink
import Derived.Test.YtikikddkhikfkaaPure
import Derived.Test.YtikikddkhikfkaaBack
import Derived.Maps.Own
import Derived.Maps.Views
set_option linter.unusedSimpArgs false
namespace Go.Proofs.Ytikikddkhikfkaa
open Go.ChangeShapes Go.WideShapes Go.ChangeAt Go.RowKit Go.WideMaps Go.Maps

theorem strLaw : Keyed Try.prog 9 := string_keyed Try.underlying9
theorem zeroInt (w : World) : (zeroValue 3).run Try.prog w = .ok (.int .i64 0) w := by kernel_rfl

theorem w64_in {x : Int} (h1 : -9223372036854775808 ≤ x) (h2 : x ≤ 9223372036854775807) : wrap64 x = x := by unfold wrap64; omega
theorem own_prefix {w : World} {base e size n c m : Nat} {A : Option Addr} {xs : List Value} (h : w.ownsRow base e size (.slice A n c) n xs) (hm : m ≤ n) : w.ownsRow base e size (.slice A m c) m (xs.take (m * size)) := by
  refine ⟨?_, ?_⟩
  · rw [List.length_take, h.1]; exact Nat.min_eq_left (Nat.mul_le_mul_right _ hm)
  · rcases h.2 with ⟨h1, h2⟩ | ⟨g, cap, cur, hv, hg, hh, hn, hc, hs, hx⟩
    · left
      subst h2
      obtain rfl : m = 0 := by omega
      exact ⟨h1, rfl⟩
    · right
      injection hv with e1 e2 e3
      subst e1; subst e3
      refine ⟨g, c, cur, rfl, hg, hh, by omega, hc, hs, ?_⟩
      rw [← hx, List.take_take, Nat.min_eq_left (Nat.mul_le_mul_right _ hm)]
theorem own_cap {w : World} {base e size n c : Nat} {A : Option Addr} {xs : List Value} (h : w.ownsRow base e size (.slice A n c) n xs) : n ≤ c := by
  rcases h.2 with ⟨h1, h2⟩ | ⟨g, cap, cur, hv, _, _, hn, _⟩
  · omega
  · injection hv with _ _ e3; omega
theorem own_powpri {w : World} {base : Nat} {g n c e : Nat} {l : List Sd} {k : Nat} {x : Sd} {p q : Int} (h : w.ownsRow base e 4 (.slice (some ⟨g, 0, none⟩) n c) n (cellsOf l)) (hx : l[k]? = some x) :
    ((w.setCell ⟨g, k * 4 + 2, none⟩ (.int .i64 p)).setCell ⟨g, k * 4 + 3, none⟩ (.int .i64 q)).ownsRow base e 4 (.slice (some ⟨g, 0, none⟩) n c) n (cellsOf (l.set k { x with pow := p, pri := q })) := by
  have hk : k < l.length := (List.getElem?_eq_some_iff.1 hx).1
  have e : cellsOf (l.set k { x with pow := p, pri := q }) = ((cellsOf l).set (k * 4 + 2) (.int .i64 p)).set (k * 4 + 3) (.int .i64 q) := by
    rw [cellsOf_set l k _ hk]
    have same : ∀ (m : List Value) (i : Nat) (u : Value), m[i]? = some u → m.set i u = m := by
      intro m i u hu
      have hi := (List.getElem?_eq_some_iff.1 hu)
      rw [← hi.2]; exact List.set_getElem_self hi.1
    rw [same (cellsOf l) (k * 4) _ (cellsOf_get l k 0 x hx (by omega))]
    rw [same (cellsOf l) (k * 4 + 1) _ (cellsOf_get l k 1 x hx (by omega))]
  rw [e]
  exact ((h.stored _ _).1.stored _ _).1

theorem Rd.off_map {H : Type} {w w' : World} {B sz n b m : Nat} {A : Option Addr} {xs : List Value} {P : Program} {k : TypeId} {R : Value → Option (DataW H × List MemPlace)} {D : DataW H} (h : Rd w B sz A n xs) (hm : w.ownsMap P k R b m D) (hg : w.grownBy w' (some b)) : Rd w' B sz A n xs := by
  obtain ⟨es, clock, hb, _⟩ := hm
  refine ⟨h.1, fun j u hu => ?_⟩
  obtain ⟨ad, e, hlt, hc⟩ := h.2 j u hu
  refine ⟨ad, e, hlt, hg.cell hc fun he => ?_⟩
  have e1 : (ad.add j).block = b := by injection he
  unfold World.cell? at hc
  rw [e1, hb] at hc
  simp at hc

/-- one of the turns of FnFair -/
theorem fturned_any (z : List Sd) (hz : fairOk z) (k : Nat) (hk : k ≤ (totL z).toNat) (A : Option Addr) (n c : Nat) (w : World) (hr : Rd w w.heap.size 4 A n (cellsOf (turnsL (totL z) k z))) :
    Calls Try.prog 20 #[.slice A n c, .int .i64 1] w fun e w' => ∃ A' c', e = .returned (.tuple #[.slice A' n c', .string (nextP (turnsL (totL z) k z))]) ∧ Rd w' w'.heap.size 4 A' n (cellsOf (turnsL (totL z) (k + 1) z)) ∧ Below w.heap.size w w' := by
  have h := iturned_any (turnsL (totL z) k z) A n c 1 w hr (hz.turn k hk) (by omega) (by omega)
  have htot : totL (turnsL (totL z) k z) = totL z := totL_of_core (turnsL_core (totL z) z k)
  rw [hz.start k hk, htot] at h
  exact h
theorem hits_put {H : Type} {D : DataW H} {T : Int} {z : List Sd} {k : Nat} (hm : IsMap D) (hD : ∀ key, D.atKey (.string key) (.lit (.int .i64 0)) = .lit (.int .i64 (hits T z key k : Int))) :
    IsMap (D.put (.string (nextP (turnsL T k z)).data.toList) (.lit (.int .i64 ((hits T z (nextP (turnsL T k z)).data.toList k : Int) + 1)))) ∧
    ∀ key, (D.put (.string (nextP (turnsL T k z)).data.toList) (.lit (.int .i64 ((hits T z (nextP (turnsL T k z)).data.toList k : Int) + 1)))).atKey (.string key) (.lit (.int .i64 0)) = .lit (.int .i64 (hits T z key (k + 1) : Int)) := by
  refine ⟨hm.put _ _, fun key => ?_⟩
  by_cases e : (nextP (turnsL T k z)).data.toList = key
  · rw [← e, atKey_put_same hm (by trivial)]
    simp [hits]
  · rw [atKey_put_other (by intro h; injection h with h; exact e h.symm), hD key]
    simp [hits, e]

set_option maxRecDepth 100000 in
set_option maxHeartbeats 6400000 in
theorem fnFair_any (l : List Sd) (A : Option Addr) (n c : Nat) (w : World) (hr : Rd w w.heap.size 4 A n (cellsOf l)) (hnc : n ≤ c) (hcm : c ≤ maxLen) (hl : ∀ s ∈ l, s.fits) :
    Calls Try.prog 5 #[.slice A n c] w fun e w' => e = .returned (.bool true) ∧ Below w.heap.size w w' := by
  have hlen := hr.len
  simp only [maxLen] at hcm
  have hF := fits1_any l A n c w hr (by omega) (fun x hx => by have := hl x hx; simp only [Sd.fits, maxLen] at this; omega)
  have HF := Lib.hid hF; have HR := Lib.hid hr; have HL := Lib.hid hl; have HLEN := Lib.hid hlen
  clear hF hr hl hlen
  cases hfb : fitsB l with
  | false =>
    rw [hfb] at HF
    go_enter Try.func5, Try.ntmps5
    go_wp2_with fail
    refine HF.out.mono ?_
    rintro e w1 ⟨rfl, hb1⟩
    have HB1 := Lib.hid hb1; clear hb1
    go_wp2
    go_ret
    exact ⟨rfl, HB1.out⟩
  | true =>
    have hn31 := fitsB_length hfb
    rw [hfb] at HF
    go_enter Try.func5, Try.ntmps5
    go_wp2_with fail
    refine HF.out.mono ?_
    rintro e w1 ⟨rfl, hb1⟩
    have HB1 := Lib.hid hb1; clear hb1
    have hS := set_own l A n c w1 ((HR.out.below HB1.out).more HB1.out.size) (by have := HLEN.out; omega) hnc (fun x hx => by have := HL.out x hx; simp only [Sd.fits] at this; omega)
    have HS := Lib.hid hS; clear hS
    go_wp2_with fail
    refine HS.out.mono ?_
    rintro e w2 ⟨A2, c2, n2, rfl, ho2, hb2⟩
    have e2 : rankedL (setL l) = theSet l := rfl
    rw [e2] at ho2
    have hn2 : n2 = (theSet l).length := (Rd.of_own ho2).len
    have hle := theSet_length l
    have hgood := theSet_good l HL.out
    have hin := @fairSet_in l
    have hfs : fairSet l = rankedL (((theSet l).take 8).map fairP) := rfl
    have HB2 := Lib.hid hb2; have HN2 := Lib.hid hn2
    have HIN := Lib.hid hin; have HFS := Lib.hid hfs
    have hyp : ∀ s ∈ (theSet l).take 8, 1 ≤ s.pow ∧ s.pow ≤ 1125899906842624 := fun s hs => (hgood s (List.mem_of_mem_take hs)).pow
    have hya : ∀ s ∈ fairSet l, s.adr.size ≤ maxLen := fun s hs => by
      obtain ⟨t, ht, rfl⟩ := List.mem_map.1 ((rankedL_perm _).mem_iff.1 (hfs ▸ hs))
      exact (hgood t (List.mem_of_mem_take ht)).adrM
    have HYP := Lib.hid hyp; have HYA := Lib.hid hya
    have hn60 : n2 ≤ 60 := by omega
    have z1 := HB1.out.size; have z2 := HB2.out.size
    clear hb2 hn2 hin hgood e2 hfs hyp hya
    by_cases h8 : n2 ≤ 8
    · have hoM := own_prefix (m := n2) ho2 (by omega)
      rw [← cellsOf_take] at hoM
      have hmc : n2 ≤ c2 := by have := own_cap ho2; omega
      have hy : n2 = ((theSet l).take 8).length := by have := HN2.out; simp; omega
      have etake : (theSet l).take n2 = (theSet l).take 8 := by have := HN2.out; rw [List.take_of_length_le (by omega), List.take_of_length_le (by omega)]
      rw [etake] at hoM
      have HO2 := Lib.hid hoM; have HY := Lib.hid hy
      clear hoM ho2 hy etake hle
      generalize (theSet l).take 8 = y at *
      go_wp2
      go_loopw [22] (fun i wx => ∃ j : Nat, j ≤ n2 ∧ i = .int .i64 j ∧ Hid (wx.ownsRow w1.heap.size 49 4 (.slice A2 n2 c2) n2 (cellsOf (mapTo fairP y j))) ∧ Hid (Below w1.heap.size w1 wx)) (fun i _ => n2 - (intOf i).toNat)
      case atStart => exact ⟨0, Nat.zero_le _, rfl, by rw [mapTo_zero]; exact HO2.out, HB2.out⟩
      case round =>
        obtain ⟨j, hj, rfl, HO3, HB3⟩ := hrel
        by_cases hjk : j < n2
        · have hjl : j < y.length := by have := HY.out; omega
          have hx : y[j]? = some y[j] := List.getElem?_eq_getElem hjl
          have hx' := mapTo_get fairP y j _ hx
          have hsu := mapTo_succ fairP y j _ hx
          have hpx := HYP.out _ (List.getElem_mem hjl)
          generalize y[j] = x at *
          obtain ⟨g, cap, hv, hg0, hg1⟩ := HO3.out.form (by omega)
          have e1 : A2 = some ⟨g, 0, none⟩ := by injection hv
          subst e1
          clear hv
          obtain ⟨x0, x1, x2, x3⟩ := own_seat HO3.out hx'
          have hf := own_free HO3.out
          have hset := own_powpri (p := 1 + x.pow % 12) (q := 0) HO3.out hx'
          have e2 : (mapTo fairP y j).set j { x with pow := 1 + x.pow % 12, pri := 0 } = mapTo fairP y (j + 1) := hsu
          rw [e2] at hset
          have HSET := Lib.hid hset; clear hset e2 hsu x0 x1 hx hx'
          go_wp2
          go_roundw
          case rel => exact ⟨j + 1, by omega, by go_num, HSET.out, (HB3.out.setCell (p := ⟨g, j * 4 + 2, none⟩) hg0 _).setCell (p := ⟨g, j * 4 + 3, none⟩) hg0 _⟩
          case measure => simp [intOf]; omega
        · have hfin := HO3.out
          rw [mapTo_full _ _ _ (by have := HY.out; omega)] at hfin
          have hrd := Rd.of_own hfin
          have HRD := Lib.hid hrd; clear hfin hrd
          have z3 := HB3.out.size
          have hC := ranked_any (y.map fairP) A2 n2 c2 wr HRD.out (by omega)
          have HC := Lib.hid hC; clear hC
          go_wp2_with fail
          refine HC.out.mono ?_
          rintro e w3 ⟨A3, c3, rfl, hr3, hb3⟩
          rw [← HFS.out] at hr3
          have hz := hr3.len
          have HR3 := Lib.hid hr3; have HB3' := Lib.hid (HB3.out.trans (hb3.mono z3)); have HZ := Lib.hid hz
          clear hr3 hb3 hz
          generalize fairSet l = z at *
          by_cases h0 : n2 = 0
          · subst h0
            go_wp2
            go_ret
            exact ⟨rfl, HB1.out.trans (HB3'.out.mono z1)⟩
          have hz0 : ((n2 : Int) == 0) = false := by rw [beq_eq_false_iff_ne]; omega
          have hok : fairOk z := fairOk_of (HIN.out (by rintro rfl; have := HZ.out; simp at this; omega))
          obtain ⟨T, hT⟩ : ∃ T : Nat, totL z = (T : Int) := ⟨(totL z).toNat, by have := hok.tot; omega⟩
          have hT2 : (totL z).toNat = T := by omega
          have hT96 : T ≤ 96 := by have := hok.tot; omega
          have HOK := Lib.hid hok; have HT := Lib.hid hT; have HT2 := Lib.hid hT2
          have z3' := HB3'.out.size
          have hpow : ∀ s ∈ z, 0 ≤ s.pow ∧ s.pow ≤ 1125899906842624 := fun s hs => by
            have := (HIN.out (by rintro rfl; simp at hs)).pow s hs
            omega
          have HPOW := Lib.hid hpow
          clear hok hT hT2 hpow
          have hC2 := back_any z A3 n2 c3 w3 HR3.out (by omega)
          have HC2 := Lib.hid hC2; clear hC2
          have hmm := @run_makeMap Try.prog
          go_wp2_with fail
          refine HC2.out.mono ?_
          rintro e w4 ⟨A4, c4, rfl, hr4, hb4⟩
          have z4 := hb4.size
          have hr3w : Rd (w4.alloc (.map #[] 0)) (w4.alloc (.map #[] 0)).heap.size 4 A3 n2 (cellsOf z) := (((HR3.out.below hb4).more z4).alloc (Nat.le_refl _) _).more (by simp)
          have HR4 := Lib.hid hr4; have HB4 := Lib.hid (HB3'.out.trans (hb4.mono z3')); clear hr4
          have HR34 := Lib.hid ((HR3.out.below hb4).more z4); clear hb4
          have hC3 := stotal_any z A3 n2 c3 (w4.alloc (.map #[] 0)) hr3w (by omega) HPOW.out
          rw [HT.out] at hC3
          have HC3 := Lib.hid hC3; clear hC3 hr3w
          have z4' := HB4.out.size
          go_wp2_with fail
          refine HC3.out.mono ?_
          rintro e w5 ⟨rfl, hb5⟩
          have hown5 : w5.ownsMap Try.prog 9 (plainElem (H := Unit) Try.prog 3) w4.heap.size 0 (.map []) := (World.ownsMap_made w4 _ _ _).kept (grownAny_of hb5 none) (by simp)
          have HOWN5 := Lib.hid hown5
          have HB5 : Hid (Below w4.heap.size w4 w5) := ((Below.refl w4.heap.size w4).alloc (Nat.le_refl _) _).trans (hb5.mono (by simp))
          clear hb5 hown5
          go_wp2
          go_loopw [5, 51] (fun v i wr => ∃ (k : Nat) (A' : Option Addr) (c' : Nat), k ≤ T ∧ i = .int .i64 k ∧ v = .slice A' n2 c' ∧ Hid (Rd wr wr.heap.size 4 A' n2 (cellsOf (turnsL (totL z) k z))) ∧ Hid (∃ D : DataW Unit, wr.ownsMap Try.prog 9 (plainElem Try.prog 3) w4.heap.size k D ∧ IsMap D ∧ ∀ key, D.atKey (.string key) (.lit (.int .i64 0)) = .lit (.int .i64 (hits (totL z) z key k : Int))) ∧ Hid (Below w4.heap.size w4 wr)) (fun _ i _ => T - (intOf i).toNat)
          case atStart => exact ⟨0, A4, c4, Nat.zero_le _, rfl, rfl, (HR4.out.below HB5.out).more HB5.out.size, ⟨_, HOWN5.out, isMap_empty, fun key => rfl⟩, HB5.out⟩
          case round =>
            obtain ⟨k, A', c', hk, rfl, rfl, HRK, HD, HBK⟩ := hrel
            by_cases hlt : k < T
            · have hC4 := fturned_any z HOK.out k (by have := HT2.out; omega) A' n2 c' wr HRK.out
              have HC4 := Lib.hid hC4; clear hC4
              have zk := HBK.out.size
              go_wp2_with fail
              refine HC4.out.mono ?_
              rintro e w6 ⟨A6, c6, rfl, hr6, hb6⟩
              obtain ⟨D, hown, hism, hD⟩ := HD.out
              have hown6 := hown.kept (grownAny_of hb6 none) (by simp)
              obtain ⟨sp, hsp, hspa⟩ := HOK.out.who k (by have := HT2.out; omega)
              have hkey : keyOf Try.prog 9 (.string (nextP (turnsL (totL z) k z))) = some (.string (nextP (turnsL (totL z) k z)).data.toList) := keyOf_string_mk Try.underlying9 (by rw [hspa]; exact HYA.out sp hsp)
              obtain ⟨cc, hrun, hat, _⟩ := hown6.lookup_int strLaw Try.underlying51 Try.underlying3 (zeroInt _) hkey
              have hcc : (hits (totL z) z (nextP (turnsL (totL z) k z)).data.toList k : Int) = cc := by
                have h1 := (hD (nextP (turnsL (totL z) k z)).data.toList).symm.trans hat
                injection h1 with h1
                injection h1
              have hput := hits_put (T := totL z) (z := z) (k := k) hism hD
              rw [hcc] at hput
              have hbc := hits_le (totL z) z (nextP (turnsL (totL z) k z)).data.toList k
              have hcb : 0 ≤ cc ∧ cc ≤ 96 := by omega
              have HPUT := Lib.hid hput; have HR6 := Lib.hid hr6; have HB6 := Lib.hid (HBK.out.trans (hb6.mono zk)); have HOWN6 := Lib.hid hown6; have HKEY := Lib.hid hkey
              have z6 := hb6.size
              clear hput hr6 hb6 hown hown6 hkey hat hD hism hcc hbc hspa
              generalize nextP (turnsL (totL z) k z) = who at *
              have hval : plainElem (H := Unit) Try.prog 3 (.int .i64 (cc + 1)) = some (.lit (.int .i64 (cc + 1)), []) := plainElem_int Try.underlying3 (by simp only [Lit.wf, Bool.and_eq_true, decide_eq_true_eq]; exact ⟨show (-9223372036854775808 : Int) ≤ _ by omega, show _ ≤ (9223372036854775807 : Int) by omega⟩)
              obtain ⟨w7, hup, hown7, hgrow7⟩ := HOWN6.out.update strLaw Try.underlying51 (by simp only [maxLen]; omega) HKEY.out hval
              clear hval
              have HR7 : Hid (Rd w7 w7.heap.size 4 A6 n2 (cellsOf (turnsL (totL z) (k + 1) z))) := (HR6.out.off_map HOWN6.out hgrow7).more hgrow7.size
              have HB7 : Hid (Below w4.heap.size w4 w7) := HB6.out.grown hgrow7 HB6.out.size (fun j hj => by cases hj; exact Nat.le_refl _)
              have HOWN7 := Lib.hid hown7; clear hown7 hgrow7
              go_wp2
              go_roundw
              case rel => exact ⟨k + 1, A6, c6, by omega, by go_num, rfl, HR7.out, ⟨_, HOWN7.out, HPUT.out.1, HPUT.out.2⟩, HB7.out⟩
              case measure => simp [intOf]; omega
            · obtain rfl : k = T := by omega
              have HRZ : Hid (Rd wr w4.heap.size 4 A3 n2 (cellsOf z)) := HR34.out.below HBK.out
              go_wp2
              go_loopw [65] (fun i ws => ∃ j : Nat, j ≤ n2 ∧ i = .int .i64 j ∧ Hid (Below w4.heap.size w4 ws) ∧ Hid (Below wr.heap.size wr ws)) (fun i _ => n2 - (intOf i).toNat)
              case atStart => exact ⟨0, Nat.zero_le _, rfl, HBK.out, Below.refl _ _⟩
              case round =>
                obtain ⟨j, hj, rfl, HBS, HBR⟩ := hrel
                by_cases hjm : j < n2
                · have hjl : j < z.length := by have := HZ.out; omega
                  have hx : z[j]? = some z[j] := List.getElem?_eq_getElem hjl
                  obtain ⟨ad, rfl, _, c0, c1, c2', c3'⟩ := (HR34.out.below HBS.out).seat hx
                  obtain ⟨D, hown, hism, hD⟩ := HD.out
                  have hown8 := (hown.kept (grownAny_of HBR.out none) (by simp)).alloc (.cells #[.string z[j].adr, .string z[j].key, .int .i64 z[j].pow, .int .i64 z[j].pri] 49)
                  have hkey : keyOf Try.prog 9 (.string z[j].adr) = some (.string z[j].adr.data.toList) := keyOf_string_mk Try.underlying9 (HYA.out _ (List.getElem_mem hjl))
                  obtain ⟨cc, hrun, hat, _⟩ := hown8.lookup_int strLaw Try.underlying51 Try.underlying3 (zeroInt _) hkey
                  have hcc : z[j].pow = cc := by
                    have h1 := (hD z[j].adr.data.toList).symm.trans hat
                    injection h1 with h1
                    injection h1 with _ h1
                    rw [← h1, ← HOK.out.hit _ (List.getElem_mem hjl), HT2.out]
                  clear hown hown8 hism hD hkey hat hx
                  generalize z[j] = x at *
                  subst hcc
                  go_wp2
                  go_roundw
                  case rel => exact ⟨j + 1, by omega, by go_num, HBS.out.alloc HBS.out.size _, HBR.out.alloc HBR.out.size _⟩
                  case measure => simp [intOf]; omega
                · go_wp2
                  go_ret
                  exact ⟨rfl, (HB1.out.trans (HB4.out.mono z1)).trans (HBS.out.mono (by omega))⟩
    · have hoM := own_prefix (m := 8) ho2 (by omega)
      rw [← cellsOf_take] at hoM
      have hmc : 8 ≤ c2 := by have := own_cap ho2; omega
      have hy : 8 = ((theSet l).take 8).length := by have := HN2.out; simp; omega
      have etake : (theSet l).take 8 = (theSet l).take 8 := rfl
      rw [etake] at hoM
      have HO2 := Lib.hid hoM; have HY := Lib.hid hy
      clear hoM ho2 hy etake hle
      generalize (theSet l).take 8 = y at *
      go_wp2
      go_loopw [22] (fun i wx => ∃ j : Nat, j ≤ 8 ∧ i = .int .i64 j ∧ Hid (wx.ownsRow w1.heap.size 49 4 (.slice A2 8 c2) 8 (cellsOf (mapTo fairP y j))) ∧ Hid (Below w1.heap.size w1 wx)) (fun i _ => 8 - (intOf i).toNat)
      case atStart => exact ⟨0, Nat.zero_le _, rfl, by rw [mapTo_zero]; exact HO2.out, HB2.out⟩
      case round =>
        obtain ⟨j, hj, rfl, HO3, HB3⟩ := hrel
        by_cases hjk : j < 8
        · have hjl : j < y.length := by have := HY.out; omega
          have hx : y[j]? = some y[j] := List.getElem?_eq_getElem hjl
          have hx' := mapTo_get fairP y j _ hx
          have hsu := mapTo_succ fairP y j _ hx
          have hpx := HYP.out _ (List.getElem_mem hjl)
          generalize y[j] = x at *
          obtain ⟨g, cap, hv, hg0, hg1⟩ := HO3.out.form (by omega)
          have e1 : A2 = some ⟨g, 0, none⟩ := by injection hv
          subst e1
          clear hv
          obtain ⟨x0, x1, x2, x3⟩ := own_seat HO3.out hx'
          have hf := own_free HO3.out
          have hset := own_powpri (p := 1 + x.pow % 12) (q := 0) HO3.out hx'
          have e2 : (mapTo fairP y j).set j { x with pow := 1 + x.pow % 12, pri := 0 } = mapTo fairP y (j + 1) := hsu
          rw [e2] at hset
          have HSET := Lib.hid hset; clear hset e2 hsu x0 x1 hx hx'
          go_wp2
          go_roundw
          case rel => exact ⟨j + 1, by omega, by go_num, HSET.out, (HB3.out.setCell (p := ⟨g, j * 4 + 2, none⟩) hg0 _).setCell (p := ⟨g, j * 4 + 3, none⟩) hg0 _⟩
          case measure => simp [intOf]; omega
        · have hfin := HO3.out
          rw [mapTo_full _ _ _ (by have := HY.out; omega)] at hfin
          have hrd := Rd.of_own hfin
          have HRD := Lib.hid hrd; clear hfin hrd
          have z3 := HB3.out.size
          have hC := ranked_any (y.map fairP) A2 8 c2 wr HRD.out (by omega)
          have HC := Lib.hid hC; clear hC
          go_wp2_with fail
          refine HC.out.mono ?_
          rintro e w3 ⟨A3, c3, rfl, hr3, hb3⟩
          rw [← HFS.out] at hr3
          have hz := hr3.len
          have HR3 := Lib.hid hr3; have HB3' := Lib.hid (HB3.out.trans (hb3.mono z3)); have HZ := Lib.hid hz
          clear hr3 hb3 hz
          generalize fairSet l = z at *

          have hok : fairOk z := fairOk_of (HIN.out (by rintro rfl; have := HZ.out; simp at this))
          obtain ⟨T, hT⟩ : ∃ T : Nat, totL z = (T : Int) := ⟨(totL z).toNat, by have := hok.tot; omega⟩
          have hT2 : (totL z).toNat = T := by omega
          have hT96 : T ≤ 96 := by have := hok.tot; omega
          have HOK := Lib.hid hok; have HT := Lib.hid hT; have HT2 := Lib.hid hT2
          have z3' := HB3'.out.size
          have hpow : ∀ s ∈ z, 0 ≤ s.pow ∧ s.pow ≤ 1125899906842624 := fun s hs => by
            have := (HIN.out (by rintro rfl; simp at hs)).pow s hs
            omega
          have HPOW := Lib.hid hpow
          clear hok hT hT2 hpow
          have hC2 := back_any z A3 8 c3 w3 HR3.out (by omega)
          have HC2 := Lib.hid hC2; clear hC2
          have hmm := @run_makeMap Try.prog
          go_wp2_with fail
          refine HC2.out.mono ?_
          rintro e w4 ⟨A4, c4, rfl, hr4, hb4⟩
          have z4 := hb4.size
          have hr3w : Rd (w4.alloc (.map #[] 0)) (w4.alloc (.map #[] 0)).heap.size 4 A3 8 (cellsOf z) := (((HR3.out.below hb4).more z4).alloc (Nat.le_refl _) _).more (by simp)
          have HR4 := Lib.hid hr4; have HB4 := Lib.hid (HB3'.out.trans (hb4.mono z3')); clear hr4
          have HR34 := Lib.hid ((HR3.out.below hb4).more z4); clear hb4
          have hC3 := stotal_any z A3 8 c3 (w4.alloc (.map #[] 0)) hr3w (by omega) HPOW.out
          rw [HT.out] at hC3
          have HC3 := Lib.hid hC3; clear hC3 hr3w
          have z4' := HB4.out.size
          go_wp2_with fail
          refine HC3.out.mono ?_
          rintro e w5 ⟨rfl, hb5⟩
          have hown5 : w5.ownsMap Try.prog 9 (plainElem (H := Unit) Try.prog 3) w4.heap.size 0 (.map []) := (World.ownsMap_made w4 _ _ _).kept (grownAny_of hb5 none) (by simp)
          have HOWN5 := Lib.hid hown5
          have HB5 : Hid (Below w4.heap.size w4 w5) := ((Below.refl w4.heap.size w4).alloc (Nat.le_refl _) _).trans (hb5.mono (by simp))
          clear hb5 hown5
          go_wp2
          go_loopw [5, 51] (fun v i wr => ∃ (k : Nat) (A' : Option Addr) (c' : Nat), k ≤ T ∧ i = .int .i64 k ∧ v = .slice A' 8 c' ∧ Hid (Rd wr wr.heap.size 4 A' 8 (cellsOf (turnsL (totL z) k z))) ∧ Hid (∃ D : DataW Unit, wr.ownsMap Try.prog 9 (plainElem Try.prog 3) w4.heap.size k D ∧ IsMap D ∧ ∀ key, D.atKey (.string key) (.lit (.int .i64 0)) = .lit (.int .i64 (hits (totL z) z key k : Int))) ∧ Hid (Below w4.heap.size w4 wr)) (fun _ i _ => T - (intOf i).toNat)
          case atStart => exact ⟨0, A4, c4, Nat.zero_le _, rfl, rfl, (HR4.out.below HB5.out).more HB5.out.size, ⟨_, HOWN5.out, isMap_empty, fun key => rfl⟩, HB5.out⟩
          case round =>
            obtain ⟨k, A', c', hk, rfl, rfl, HRK, HD, HBK⟩ := hrel
            by_cases hlt : k < T
            · have hC4 := fturned_any z HOK.out k (by have := HT2.out; omega) A' 8 c' wr HRK.out
              have HC4 := Lib.hid hC4; clear hC4
              have zk := HBK.out.size
              go_wp2_with fail
              refine HC4.out.mono ?_
              rintro e w6 ⟨A6, c6, rfl, hr6, hb6⟩
              obtain ⟨D, hown, hism, hD⟩ := HD.out
              have hown6 := hown.kept (grownAny_of hb6 none) (by simp)
              obtain ⟨sp, hsp, hspa⟩ := HOK.out.who k (by have := HT2.out; omega)
              have hkey : keyOf Try.prog 9 (.string (nextP (turnsL (totL z) k z))) = some (.string (nextP (turnsL (totL z) k z)).data.toList) := keyOf_string_mk Try.underlying9 (by rw [hspa]; exact HYA.out sp hsp)
              obtain ⟨cc, hrun, hat, _⟩ := hown6.lookup_int strLaw Try.underlying51 Try.underlying3 (zeroInt _) hkey
              have hcc : (hits (totL z) z (nextP (turnsL (totL z) k z)).data.toList k : Int) = cc := by
                have h1 := (hD (nextP (turnsL (totL z) k z)).data.toList).symm.trans hat
                injection h1 with h1
                injection h1
              have hput := hits_put (T := totL z) (z := z) (k := k) hism hD
              rw [hcc] at hput
              have hbc := hits_le (totL z) z (nextP (turnsL (totL z) k z)).data.toList k
              have hcb : 0 ≤ cc ∧ cc ≤ 96 := by omega
              have HPUT := Lib.hid hput; have HR6 := Lib.hid hr6; have HB6 := Lib.hid (HBK.out.trans (hb6.mono zk)); have HOWN6 := Lib.hid hown6; have HKEY := Lib.hid hkey
              have z6 := hb6.size
              clear hput hr6 hb6 hown hown6 hkey hat hD hism hcc hbc hspa
              generalize nextP (turnsL (totL z) k z) = who at *
              have hval : plainElem (H := Unit) Try.prog 3 (.int .i64 (cc + 1)) = some (.lit (.int .i64 (cc + 1)), []) := plainElem_int Try.underlying3 (by simp only [Lit.wf, Bool.and_eq_true, decide_eq_true_eq]; exact ⟨show (-9223372036854775808 : Int) ≤ _ by omega, show _ ≤ (9223372036854775807 : Int) by omega⟩)
              obtain ⟨w7, hup, hown7, hgrow7⟩ := HOWN6.out.update strLaw Try.underlying51 (by simp only [maxLen]; omega) HKEY.out hval
              clear hval
              have HR7 : Hid (Rd w7 w7.heap.size 4 A6 8 (cellsOf (turnsL (totL z) (k + 1) z))) := (HR6.out.off_map HOWN6.out hgrow7).more hgrow7.size
              have HB7 : Hid (Below w4.heap.size w4 w7) := HB6.out.grown hgrow7 HB6.out.size (fun j hj => by cases hj; exact Nat.le_refl _)
              have HOWN7 := Lib.hid hown7; clear hown7 hgrow7
              go_wp2
              go_roundw
              case rel => exact ⟨k + 1, A6, c6, by omega, by go_num, rfl, HR7.out, ⟨_, HOWN7.out, HPUT.out.1, HPUT.out.2⟩, HB7.out⟩
              case measure => simp [intOf]; omega
            · obtain rfl : k = T := by omega
              have HRZ : Hid (Rd wr w4.heap.size 4 A3 8 (cellsOf z)) := HR34.out.below HBK.out
              go_wp2
              go_loopw [65] (fun i ws => ∃ j : Nat, j ≤ 8 ∧ i = .int .i64 j ∧ Hid (Below w4.heap.size w4 ws) ∧ Hid (Below wr.heap.size wr ws)) (fun i _ => 8 - (intOf i).toNat)
              case atStart => exact ⟨0, Nat.zero_le _, rfl, HBK.out, Below.refl _ _⟩
              case round =>
                obtain ⟨j, hj, rfl, HBS, HBR⟩ := hrel
                by_cases hjm : j < 8
                · have hjl : j < z.length := by have := HZ.out; omega
                  have hx : z[j]? = some z[j] := List.getElem?_eq_getElem hjl
                  obtain ⟨ad, rfl, _, c0, c1, c2', c3'⟩ := (HR34.out.below HBS.out).seat hx
                  obtain ⟨D, hown, hism, hD⟩ := HD.out
                  have hown8 := (hown.kept (grownAny_of HBR.out none) (by simp)).alloc (.cells #[.string z[j].adr, .string z[j].key, .int .i64 z[j].pow, .int .i64 z[j].pri] 49)
                  have hkey : keyOf Try.prog 9 (.string z[j].adr) = some (.string z[j].adr.data.toList) := keyOf_string_mk Try.underlying9 (HYA.out _ (List.getElem_mem hjl))
                  obtain ⟨cc, hrun, hat, _⟩ := hown8.lookup_int strLaw Try.underlying51 Try.underlying3 (zeroInt _) hkey
                  have hcc : z[j].pow = cc := by
                    have h1 := (hD z[j].adr.data.toList).symm.trans hat
                    injection h1 with h1
                    injection h1 with _ h1
                    rw [← h1, ← HOK.out.hit _ (List.getElem_mem hjl), HT2.out]
                  clear hown hown8 hism hD hkey hat hx
                  generalize z[j] = x at *
                  subst hcc
                  go_wp2
                  go_roundw
                  case rel => exact ⟨j + 1, by omega, by go_num, HBS.out.alloc HBS.out.size _, HBR.out.alloc HBR.out.size _⟩
                  case measure => simp [intOf]; omega
                · go_wp2
                  go_ret
                  exact ⟨rfl, (HB1.out.trans (HB4.out.mono z1)).trans (HBS.out.mono (by omega))⟩

set_option maxRecDepth 100000 in
theorem fnFair_lifted (os : Os) (started : os.Started) (H : Type) (enc : TypeId × Value → H) :
    ReturnsInHanded {} Try.checked os 5 .any (Rows.fnFairSpec.pre6 enc Try.prog Try.f5 Rows.fnFairRow.domain false) (Rows.fnFairSpec.post enc Try.prog Try.f5 false true false false) := by
  refine returnsInHanded_of_change (C := Try.checked) Try.own started (by kernel_rfl) Try.func5
    (ChangeSpec.witness6 (enc := enc) (C := Try.checked) false ⟨#[], #[.slice none 0 0], []⟩ 8 (by kernel_rfl) (by kernel_rfl) (by kernel_rfl) (by kernel_rfl)) ?_
  intro W base args ds gs before hval0 hW hcnd _
  have hval : ∀ (j : Nat) t v, Try.f5.params[j]? = some t → args[j]? = some v → Value.okWide Try.prog W .any base t v := hval0
  have hW' := hW
  obtain ⟨p, q, hA0, hV, rfl, hfz, hnd⟩ := hW
  have hA : DataW.TrodAll enc Try.prog W 0 (fun _ => true) true Try.f5.params.toList args.toList ds p := hA0
  have hA1 := hA
  rw [Try.params5] at hA hval
  obtain ⟨v0, d0, rfl, rfl, h0⟩ := trodAll_one hA
  obtain ⟨rfl, rfl⟩ := trodVars_none hV
  obtain ⟨A, n, c, l, rfl, hnc, hcm, hr, hl⟩ := open_seats (okWide_slice Try.underlying39 (hval 0 39 v0 rfl rfl)) h0
  clear hA0 hval0 hA
  simp only [List.append_nil] at hW' hA1
  refine (fnFair_any l A n c W hr hnc hcm hl).mono fun e W' ⟨he, hw⟩ => ?_
  subst he
  exact ⟨_, rfl, post_true (tb := 4) Try.laidOut rfl Try.underlying4 rfl rfl (by kernel_rfl) hW' hA1 hw⟩

theorem fnFair_holds : Rows.FnFairSaid :=
  OpenClaim.holds_of_wide 5 Try.f5 rfl rfl rfl rfl rfl rfl rfl ⟨rfl, rfl, rfl, rfl, rfl⟩ rfl rfl rfl rfl rfl (by kernel_rfl) Try.func5 (by kernel_rfl)
    (of_decide_eq_true (by kernel_rfl)) (by unfold Func.isWrapper; first | (rw [if_pos (by decide +kernel)]; kernel_rfl) | (rw [if_neg (by decide +kernel)]; exact ⟨rfl, rfl⟩))
    (fun os started H enc _ => fnFair_lifted os started H enc)
#print axioms fnFair_holds
end Go.Proofs.Ytikikddkhikfkaa
