/-
  laws.FnChanged: the walk. By the session.
-/
import Derived.Test.YtikikddkhikfkaaGreatDoorCh21
import Derived.Test.YtikikddkhikfkaaGreatDoorCh22
import Derived.Test.YtikikddkhikfkaaGreatDoorCh23
import Derived.Test.YtikikddkhikfkaaGreatDoorCh7
import Derived.Test.YtikikddkhikfkaaGreatDoorCh13
import Derived.Deep.Cut
import Derived.Deep.CutRange
set_option linter.all false
namespace Go.Proofs.YtikikddkhikfkaaGreatDoor
open Go.RowKit

/-- a change without priority -/
def zeroP (s : Sd) : Sd := { s with pri := 0 }
theorem adrs_apart {l : List Sd} (h : l.Pairwise apartS) : (adrs l).Nodup := by
  unfold adrs List.Nodup
  rw [List.pairwise_map]
  refine h.imp fun {a b} hab e => ?_
  unfold apartS sameB at hab
  rw [e] at hab
  simp at hab
theorem own_seatT {w : World} {base e : Nat} {g n c : Nat} {l : List Sd} (h : w.ownsRow base e 4 (.slice (some ⟨g, 0, none⟩) n c) n (cellsOf l)) {k : Nat} {x : Sd} (hx : l[k]? = some x) :
    w.cell? ⟨g, k * 4, none⟩ = some (.string x.adr) ∧ w.cell? ⟨g, k * 4 + 1, none⟩ = some (.string x.key) ∧ w.cell? ⟨g, k * 4 + 2, none⟩ = some (.int .i64 x.pow) ∧ w.cell? ⟨g, k * 4 + 3, none⟩ = some (.int .i64 x.pri) := by
  have g : ∀ i u, i < 4 → x.cells[i]? = some u → w.cell? ⟨g, k * 4 + i, none⟩ = some u := fun i u hi hu => by
    have := h.cells (g := g) rfl (k * 4 + i) u ((cellsOf_get l k i x hx hi).trans hu)
    rwa [add_flat, Nat.zero_add] at this
  exact ⟨g 0 _ (by omega) rfl, g 1 _ (by omega) rfl, g 2 _ (by omega) rfl, g 3 _ (by omega) rfl⟩
set_option maxRecDepth 100000 in
set_option maxHeartbeats 6400000 in
theorem fnChanged_any (l ch : List Sd) (A : Option Addr) (n c : Nat) (B : Option Addr) (m d : Nat) (w : World) (hr : Rd w w.heap.size 4 A n (cellsOf l)) (hnc : n ≤ c) (hcm : c ≤ maxLen) (hl : ∀ s ∈ l, s.fits)
    (hs : Rd w w.heap.size 4 B m (cellsOf ch)) (hmd : m ≤ d) (hdm : d ≤ maxLen) (hch : ∀ s ∈ ch, s.fits) (T0 : Nat) (v0 : Value) (hG : w.cell? ⟨0, 0, none⟩ = some (.iface T0 v0)) :
    Calls Tryz.prog 3 #[.slice A n c, .slice B m d] w fun e w' => e = .returned (.bool true) ∧ Below w.heap.size w w' := by
  have hw0 : 0 < w.heap.size := World.block_lt_of_cell? w _ hG
  simp only [maxLen] at hcm hdm
  have hF1 := fits1_any l A n c w hr (by omega) (fun x hx => by have := hl x hx; simp only [Sd.fits, maxLen] at this; omega)
  have HF1 := Lib.hid hF1
  have HR := Lib.hid hr; have HS := Lib.hid hs; have HL := Lib.hid hl; have HCH := Lib.hid hch; have HG := Lib.hid hG
  have HLEN := Lib.hid hr.len; have HLC := Lib.hid hs.len
  clear hF1 hr hs hl hch hG
  cases hfb : fitsB l with
  | false =>
    rw [hfb] at HF1
    go_enter Tryz.func3, Tryz.ntmps3
    go_wp2_with (go_at_call 7; refine HF1.out.mono ?_; rintro e w1 ⟨rfl, hb1⟩; have HB1 := Lib.hid hb1; clear hb1)
    (try go_ret)
    exact ⟨rfl, HB1.out⟩
  | true =>
    have hn31 := fitsB_length hfb
    rw [hfb] at HF1
    have KF2 := Lib.hid (fun W (hw : Below w.heap.size w W) => fits1_any ch B m d W ((HS.out.below hw).more hw.size) (by omega) (fun x hx => by have := HCH.out x hx; simp only [Sd.fits, maxLen] at this; omega))
    cases hfc : fitsB ch with
    | false =>
      rw [hfc] at KF2
      go_enter Tryz.func3, Tryz.ntmps3
      go_wp2_with fail
      refine HF1.out.mono ?_
      rintro e w1 ⟨rfl, hb1⟩
      have HB1 := Lib.hid hb1; clear hb1
      go_wp2_with fail
      refine (KF2.out w1 HB1.out).mono ?_
      rintro e w2 ⟨rfl, hb2⟩
      have HB2 := Lib.hid (HB1.out.trans (hb2.mono HB1.out.size)); clear hb2
      go_wp2
      (try go_ret)
      exact ⟨rfl, HB2.out⟩
    | true =>
      have hm31 := fitsB_length hfc
      rw [hfc] at KF2
      obtain ⟨mm, hmm⟩ : ∃ mm, mm = min m 60 := ⟨_, rfl⟩
      have hmm1 : mm ≤ m ∧ mm ≤ 60 := by omega
      have hmw : m ≤ 60 ∧ mm = m ∨ 60 < m ∧ mm = 60 := by omega
      have hst : Rd w w.heap.size 4 B mm (cellsOf (ch.take mm)) := by rw [cellsOf_take]; exact HS.out.take hmm1.1
      have HST := Lib.hid hst
      have htf : ∀ s ∈ ch.take mm, s.fits := fun s hs => HCH.out s (List.mem_of_mem_take hs)
      have htl : (ch.take mm).length = mm := by rw [List.length_take]; have := HLC.out; omega
      have HTF := Lib.hid htf; have HTL := Lib.hid htl
      clear hst htf htl hmm
      generalize ch.take mm = t at *
      have hle := theSet_length l
      have hgood := theSet_good l HL.out
      have hap := adrs_apart (theSet_apart l)
      have e2 : rankedL (setL l) = theSet l := rfl
      have HE2 := Lib.hid e2; have HGD := Lib.hid hgood; have HAP := Lib.hid hap; have HLE := Lib.hid hle
      clear e2 hgood hap hle
      have KSET := Lib.hid (fun W (hw : Below w.heap.size w W) => set_any l A n c W ((HR.out.below hw).more hw.size) (by have := HLEN.out; omega) hnc (fun x hx => by have := HL.out x hx; simp only [Sd.fits] at this; omega))
      rw [HE2.out] at KSET
      generalize theSet l = x at *
      go_enter Tryz.func3, Tryz.ntmps3
      go_wp2_with fail
      refine HF1.out.mono ?_
      rintro e w1 ⟨rfl, hb1⟩
      have HB1 := Lib.hid hb1; clear hb1
      go_wp2_with fail
      refine (KF2.out w1 HB1.out).mono ?_
      rintro e w2 ⟨rfl, hb2⟩
      have HB2 := Lib.hid (HB1.out.trans (hb2.mono HB1.out.size)); clear hb2
      go_wp2_with fail
      refine (KSET.out w2 HB2.out).mono ?_
      rintro e w3 ⟨A3, c3, n3, rfl, hr3, hb3⟩
      have HB3 := Lib.hid (HB2.out.trans (hb3.mono HB2.out.size)); have HR3 := Lib.hid hr3
      have hn3 : n3 ≤ 60 := by have := hr3.len; have := HLE.out; omega
      clear hb3 hr3
      have z3 := HB3.out.size
      have KCL := Lib.hid (sclone_any t B mm d w3 ((HST.out.below HB3.out).more HB3.out.size) (by omega))
      have hq1 : (min (m : Int) 60).toNat = mm := by omega
      have hq2 : min (m : Int) 60 ≤ (d : Int) := by omega
      have hq3 : 0 ≤ min (m : Int) 60 := by omega
      go_wp2_with (go_at_call 9; refine KCL.out.mono ?_; rintro e w4 ⟨A4, c4, rfl, ho4, hb4⟩; have HO4 := Lib.hid ho4; have HB4 := Lib.hid hb4; clear ho4 hb4 hq1 hq2 hq3 hmw)
      have HB34 := Lib.hid (HB3.out.trans (HB4.out.mono z3))
      clear KCL KSET KF2 HF1
      go_loopw [30] (fun i wr => ∃ k : Nat, k ≤ mm ∧ i = .int .i64 k ∧ Hid (wr.ownsRow w3.heap.size 28 4 (.slice A4 mm c4) mm (cellsOf (mapTo zeroP t k))) ∧ Hid (∀ s ∈ t.take k, 0 < s.adr.size) ∧ Hid (Below w3.heap.size w3 wr)) (fun i _ => mm - (intOf i).toNat)
      case atStart => exact ⟨0, Nat.zero_le _, rfl, by rw [mapTo_zero]; exact HO4, (fun s hs => by simp at hs), HB4⟩
      case round =>
        obtain ⟨k, hk, rfl, HO5, HA5, HB5⟩ := hrel
        have HB35 := Lib.hid (HB3.out.trans (HB5.out.mono z3))
        by_cases hlt : k < mm
        · have hk' : k < t.length := by have := HTL.out; omega
          have hx : t[k]? = some t[k] := List.getElem?_eq_getElem hk'
          have hx' := mapTo_get zeroP t k _ hx
          have hsu := mapTo_succ zeroP t k _ hx
          have htk := take_next hx
          generalize t[k] = y at *
          obtain ⟨g, cap, hv, hg0, hg1⟩ := HO5.out.form (by omega)
          have e1 : A4 = some ⟨g, 0, none⟩ := by injection hv
          subst e1
          clear hv
          obtain ⟨x0, x1, x2, x3⟩ := own_seatT HO5.out hx'
          have hf := own_free HO5.out
          have hset := own_pri (q := 0) HO5.out hx'
          have hs2 : (mapTo zeroP t k).set k { y with pri := 0 } = mapTo zeroP t (k + 1) := hsu
          rw [hs2] at hset
          have HSET := Lib.hid hset; have HTK := Lib.hid htk
          have HBA := Lib.hid (HB35.out.alloc HB35.out.size (.cells #[.string y.adr, .string y.key, .int .i64 y.pow, .int .i64 y.pri] 28))
          have HBB := Lib.hid (HB5.out.alloc HB5.out.size (.cells #[.string y.adr, .string y.key, .int .i64 y.pow, .int .i64 y.pri] 28))
          clear hset hs2 hsu hx hx' htk
          by_cases ha : y.adr.toList = []
          · have ha' : y.adr.toList.isEmpty = true := by simp [ha]
            go_wp2
            (try go_ret)
            exact ⟨rfl, HBA.out⟩
          · have ha' : y.adr.toList.isEmpty = false := by simpa using ha
            have hap : 0 < y.adr.size := by
              rcases Nat.eq_zero_or_pos y.adr.size with h | h
              · exfalso; apply ha
                rw [ByteArray.toList_eq]
                exact List.eq_nil_of_length_eq_zero (by rw [Array.length_toList]; exact h)
              · exact h
            have HAP2 := Lib.hid (show ∀ s ∈ t.take (k + 1), 0 < s.adr.size from fun s hs => by
              rw [HTK.out] at hs
              rcases List.mem_append.1 hs with hs | hs
              · exact HA5.out s hs
              · rw [List.mem_singleton] at hs; rw [hs]; exact hap)
            by_cases hke : y.key.toList = []
            · have hke' : y.key.toList.isEmpty = true := by simp [hke]
              go_wp2
              (try go_ret)
              exact ⟨rfl, HBA.out⟩
            · have hke' : y.key.toList.isEmpty = false := by simpa using hke
              go_wp2
              go_roundw
              case rel => exact ⟨k + 1, by omega, by go_num, HSET.out.alloc _, HAP2.out, (HB5.out.setCell (p := ⟨g, k * 4 + 3, none⟩) hg0 _).alloc (by have := HB5.out.size; simp [World.setCell]; omega) _⟩
              case measure => simp [intOf]; omega
        · obtain rfl : mm = k := by omega
          have hfin := HO5.out
          rw [mapTo_full _ _ _ (by have := HTL.out; omega)] at hfin
          have ha5 := HA5.out
          rw [List.take_of_length_le (by have := HTL.out; omega)] at ha5
          obtain ⟨C, hC⟩ : ∃ C, C = t.map zeroP := ⟨_, rfl⟩
          rw [← hC] at hfin
          have hCl : C.length = mm := by rw [hC, List.length_map]; exact HTL.out
          have hCa : ∀ s ∈ C, 0 < s.adr.size := fun s hs => by rw [hC] at hs; obtain ⟨y, hy, rfl⟩ := List.mem_map.1 hs; exact ha5 y hy
          have hCf : ∀ s ∈ C, -9223372036854775808 ≤ s.pow ∧ s.pow ≤ 9223372036854775807 := fun s hs => by rw [hC] at hs; obtain ⟨y, hy, rfl⟩ := List.mem_map.1 hs; have := HTF.out y hy; simp only [Sd.fits] at this; exact this.2.2.1
          have HF := Lib.hid (Rd.of_own hfin); have HCL := Lib.hid hCl; have HCA := Lib.hid hCa; have HCF := Lib.hid hCf
          clear hfin ha5 hC hCl hCa hCf HO5 HA5
          have hn3x := HR3.out.len
          have HN3 := Lib.hid hn3x; clear hn3x
          have KB := Lib.hid (back_any x A3 n3 c3 wr ((HR3.out.below HB5.out).more HB5.out.size) (by omega))
          go_wp2_with fail
          refine KB.out.mono ?_
          rintro e w5 ⟨A5, c5, rfl, hr5, hb5⟩
          have z5 := HB35.out.size
          have HB6 := Lib.hid (HB35.out.trans (hb5.mono z5))
          have z6' := HB6.out.size
          have KI := Lib.hid (ichanged_any x C A5 n3 c5 A4 mm c4 w5 hr5 (by omega) ((HF.out.below hb5).more hb5.size) (by omega) (fun y hy => (HGD.out y hy).pow) (fun y hy => (HGD.out y hy).pri) HAP.out HCA.out (by omega) T0 v0 ((HB6.out.cell (p := ⟨0, 0, none⟩) (by show 0 < _; omega)).trans HG.out))
          have HB5' := Lib.hid (HB5.out.trans (hb5.mono HB5.out.size))
          have HF5 := Lib.hid ((HF.out.below hb5).more hb5.size)
          clear hr5 hb5
          go_wp2_with fail
          refine KI.out.mono ?_
          rintro e w6 ⟨A6, c6, rfl, hr6, hb6⟩
          have HR6 := Lib.hid hr6; have HB7 := Lib.hid (HB6.out.trans (hb6.mono HB6.out.size)); have HB7' := Lib.hid (HB5'.out.trans (hb6.mono HB5'.out.size))
          have HF6 := Lib.hid ((HF5.out.below hb6).more hb6.size)
          clear hr6 hb6
          have KT := Lib.hid (theirs_any C A4 mm c4 w6 HF6.out (by omega))
          go_wp2_with fail
          refine KT.out.mono ?_
          rintro e w7 ⟨A7, c7, rfl, ho7, hb7⟩
          have hc7 := own_capE ho7
          have z6 := HB7.out.size
          have HB8 := Lib.hid (HB7.out.trans (hb7.mono z6)); have HB8' := Lib.hid (HB7'.out.trans (hb7.mono HB7'.out.size))
          have HR7 := Lib.hid ((HR6.out.below hb7).more hb7.size)
          have KS := Lib.hid (schanged_any x C A3 n3 c3 A7 mm c7 w7 ((HR3.out.below HB8'.out).more HB8'.out.size) (Rd.of_own ho7) (by omega) (by omega) hc7 (fun y hy => (HGD.out y hy).pow) (fun y hy => (HGD.out y hy).pri) HAP.out HCF.out)
          clear ho7 hb7
          go_wp2_with fail
          refine KS.out.mono ?_
          rintro e w8 ⟨hb8, ⟨hc0, A9, c9, rfl, hr9⟩ | ⟨hc0, hok, A9, c9, rfl, hr9⟩ | ⟨hc0, hok, rfl⟩⟩
          · have hco : chB x C = true ∧ chO x C = x := by rw [hc0]; exact ch_nil x
            have HB9 := Lib.hid (HB8.out.trans (hb8.mono HB8.out.size))
            have hr7 := (HR7.out.below hb8).more hb8.size
            rw [hco.2] at hr7
            have K := Lib.hid (same_any x A6 A9 n3 c6 c9 w8 (by rw [HN3.out]; rw [HN3.out] at hr9; exact hr7) hr9 (by omega))
            have hlen : (chO x C).length = n3 := by rw [hco.2]; exact HN3.out.symm
            have HCO := hco.1
            clear hc0 hr9 hb8 hr7 hco
            go_wp2_with (go_at_call 14; refine K.out.mono ?_; rintro e w9 ⟨rfl, hb9⟩; have HB10 := Lib.hid (HB9.out.trans (hb9.mono HB9.out.size)); clear hb9)
            (try go_ret)
            exact ⟨rfl, HB10.out⟩
          · have hco := ch_ok hc0 hok
            have HB9 := Lib.hid (HB8.out.trans (hb8.mono HB8.out.size))
            have hr7 := (HR7.out.below hb8).more hb8.size
            rw [hco.2] at hr7
            have hln : (outL x C).length ≤ 800 := by rw [outL_len]; have := kept_len x C; have := HN3.out; have := HCL.out; omega
            have K := Lib.hid (same_any (outL x C) A6 A9 (outL x C).length c6 c9 w8 hr7 hr9 (by omega))
            have hlen : (chO x C).length = (outL x C).length := by rw [hco.2]
            have HCO := hco.1
            clear hc0 hok hr9 hb8 hr7 hco
            go_wp2_with (go_at_call 14; refine K.out.mono ?_; rintro e w9 ⟨rfl, hb9⟩; have HB10 := Lib.hid (HB9.out.trans (hb9.mono HB9.out.size)); clear hb9)
            (try go_ret)
            exact ⟨rfl, HB10.out⟩
          · have hco := ch_no hc0 hok
            have HB9 := Lib.hid (HB8.out.trans (hb8.mono HB8.out.size))
            have hr7 := (HR7.out.below hb8).more hb8.size
            rw [hco.2] at hr7
            have hr3 := (HR3.out.below (HB8'.out.trans (hb8.mono HB8'.out.size))).more (by have := HB8'.out.size; have := hb8.size; omega : w3.heap.size ≤ w8.heap.size)
            have K := Lib.hid (same_any x A6 A3 n3 c6 c3 w8 (by rw [HN3.out]; exact hr7) hr3 (by omega))
            have hlen : (chO x C).length = n3 := by rw [hco.2]; exact HN3.out.symm
            have HCO := hco.1
            clear hc0 hok hb8 hr7 hco hr3
            go_wp2_with (go_at_call 14; refine K.out.mono ?_; rintro e w9 ⟨rfl, hb9⟩; have HB10 := Lib.hid (HB9.out.trans (hb9.mono HB9.out.size)); clear hb9)
            (try go_ret)
            exact ⟨rfl, HB10.out⟩
end Go.Proofs.YtikikddkhikfkaaGreatDoor
