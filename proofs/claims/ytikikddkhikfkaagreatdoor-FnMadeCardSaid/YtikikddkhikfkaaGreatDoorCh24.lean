/-
  laws.FnChanged: the walk. By the session. A new set of seats: the package's NewSet, the thin package's Made, the specification's Made: walks. By the session. laws.FnMade: the walk. By the session.
-/
import Derived.Test.YtikikddkhikfkaaGreatDoorCh21
import Derived.Test.YtikikddkhikfkaaGreatDoorCh22
import Derived.Test.YtikikddkhikfkaaGreatDoorCh23
import Derived.Test.YtikikddkhikfkaaGreatDoorCh7
import Derived.Test.YtikikddkhikfkaaGreatDoorCh13
import Derived.Deep.Cut
import Derived.Deep.CutRange
import Derived.Test.YtikikddkhikfkaaGreatDoorCh19
import Derived.Test.YtikikddkhikfkaaGreatDoorCh20
import Derived.Test.YtikikddkhikfkaaGreatDoorCh9
set_option linter.all false
namespace Go.Proofs.YtikikddkhikfkaaGreatDoor
open Go.RowKit

/-- a change without priority -/
def zeroP (s : Sd) : Sd := { s with pri := 0 }
theorem adrs_apart {l : List Sd} (h : l.Pairwise apartS) : (adrs l).Nodup := by
  unfold adrs List.Nodup
  rw [List.pairwise_map]
  refine h.imp fun {a b} hab e => ?_
  unfold apartS sameB at hab
  rw [e] at hab
  simp at hab
theorem own_seatT {w : World} {base e : Nat} {g n c : Nat} {l : List Sd} (h : w.ownsRow base e 4 (.slice (some ⟨g, 0, none⟩) n c) n (cellsOf l)) {k : Nat} {x : Sd} (hx : l[k]? = some x) :
    w.cell? ⟨g, k * 4, none⟩ = some (.string x.adr) ∧ w.cell? ⟨g, k * 4 + 1, none⟩ = some (.string x.key) ∧ w.cell? ⟨g, k * 4 + 2, none⟩ = some (.int .i64 x.pow) ∧ w.cell? ⟨g, k * 4 + 3, none⟩ = some (.int .i64 x.pri) := by
  have g : ∀ i u, i < 4 → x.cells[i]? = some u → w.cell? ⟨g, k * 4 + i, none⟩ = some u := fun i u hi hu => by
    have := h.cells (g := g) rfl (k * 4 + i) u ((cellsOf_get l k i x hx hi).trans hu)
    rwa [add_flat, Nat.zero_add] at this
  exact ⟨g 0 _ (by omega) rfl, g 1 _ (by omega) rfl, g 2 _ (by omega) rfl, g 3 _ (by omega) rfl⟩
set_option maxRecDepth 100000 in
set_option maxHeartbeats 6400000 in
theorem fnChanged_any (l ch : List Sd) (A : Option Addr) (n c : Nat) (B : Option Addr) (m d : Nat) (w : World) (hr : Rd w w.heap.size 4 A n (cellsOf l)) (hnc : n ≤ c) (hcm : c ≤ maxLen) (hl : ∀ s ∈ l, s.fits)
    (hs : Rd w w.heap.size 4 B m (cellsOf ch)) (hmd : m ≤ d) (hdm : d ≤ maxLen) (hch : ∀ s ∈ ch, s.fits) (T0 : Nat) (v0 : Value) (hG : w.cell? ⟨0, 0, none⟩ = some (.iface T0 v0)) :
    Calls Tryz.prog 3 #[.slice A n c, .slice B m d] w fun e w' => e = .returned (.bool true) ∧ Below w.heap.size w w' := by
  have hw0 : 0 < w.heap.size := World.block_lt_of_cell? w _ hG
  simp only [maxLen] at hcm hdm
  have hF1 := fits1_any l A n c w hr (by omega) (fun x hx => by have := hl x hx; simp only [Sd.fits, maxLen] at this; omega)
  have HF1 := Lib.hid hF1
  have HR := Lib.hid hr; have HS := Lib.hid hs; have HL := Lib.hid hl; have HCH := Lib.hid hch; have HG := Lib.hid hG
  have HLEN := Lib.hid hr.len; have HLC := Lib.hid hs.len
  clear hF1 hr hs hl hch hG
  cases hfb : fitsB l with
  | false =>
    rw [hfb] at HF1
    go_enter Tryz.func3, Tryz.ntmps3
    go_wp2_with (go_at_call 7; refine HF1.out.mono ?_; rintro e w1 ⟨rfl, hb1⟩; have HB1 := Lib.hid hb1; clear hb1)
    (try go_ret)
    exact ⟨rfl, HB1.out⟩
  | true =>
    have hn31 := fitsB_length hfb
    rw [hfb] at HF1
    have KF2 := Lib.hid (fun W (hw : Below w.heap.size w W) => fits1_any ch B m d W ((HS.out.below hw).more hw.size) (by omega) (fun x hx => by have := HCH.out x hx; simp only [Sd.fits, maxLen] at this; omega))
    cases hfc : fitsB ch with
    | false =>
      rw [hfc] at KF2
      go_enter Tryz.func3, Tryz.ntmps3
      go_wp2_with fail
      refine HF1.out.mono ?_
      rintro e w1 ⟨rfl, hb1⟩
      have HB1 := Lib.hid hb1; clear hb1
      go_wp2_with fail
      refine (KF2.out w1 HB1.out).mono ?_
      rintro e w2 ⟨rfl, hb2⟩
      have HB2 := Lib.hid (HB1.out.trans (hb2.mono HB1.out.size)); clear hb2
      go_wp2
      (try go_ret)
      exact ⟨rfl, HB2.out⟩
    | true =>
      have hm31 := fitsB_length hfc
      rw [hfc] at KF2
      obtain ⟨mm, hmm⟩ : ∃ mm, mm = min m 60 := ⟨_, rfl⟩
      have hmm1 : mm ≤ m ∧ mm ≤ 60 := by omega
      have hmw : m ≤ 60 ∧ mm = m ∨ 60 < m ∧ mm = 60 := by omega
      have hst : Rd w w.heap.size 4 B mm (cellsOf (ch.take mm)) := by rw [cellsOf_take]; exact HS.out.take hmm1.1
      have HST := Lib.hid hst
      have htf : ∀ s ∈ ch.take mm, s.fits := fun s hs => HCH.out s (List.mem_of_mem_take hs)
      have htl : (ch.take mm).length = mm := by rw [List.length_take]; have := HLC.out; omega
      have HTF := Lib.hid htf; have HTL := Lib.hid htl
      clear hst htf htl hmm
      generalize ch.take mm = t at *
      have hle := theSet_length l
      have hgood := theSet_good l HL.out
      have hap := adrs_apart (theSet_apart l)
      have e2 : rankedL (setL l) = theSet l := rfl
      have HE2 := Lib.hid e2; have HGD := Lib.hid hgood; have HAP := Lib.hid hap; have HLE := Lib.hid hle
      clear e2 hgood hap hle
      have KSET := Lib.hid (fun W (hw : Below w.heap.size w W) => set_any l A n c W ((HR.out.below hw).more hw.size) (by have := HLEN.out; omega) hnc (fun x hx => by have := HL.out x hx; simp only [Sd.fits] at this; omega))
      rw [HE2.out] at KSET
      generalize theSet l = x at *
      go_enter Tryz.func3, Tryz.ntmps3
      go_wp2_with fail
      refine HF1.out.mono ?_
      rintro e w1 ⟨rfl, hb1⟩
      have HB1 := Lib.hid hb1; clear hb1
      go_wp2_with fail
      refine (KF2.out w1 HB1.out).mono ?_
      rintro e w2 ⟨rfl, hb2⟩
      have HB2 := Lib.hid (HB1.out.trans (hb2.mono HB1.out.size)); clear hb2
      go_wp2_with fail
      refine (KSET.out w2 HB2.out).mono ?_
      rintro e w3 ⟨A3, c3, n3, rfl, hr3, hb3⟩
      have HB3 := Lib.hid (HB2.out.trans (hb3.mono HB2.out.size)); have HR3 := Lib.hid hr3
      have hn3 : n3 ≤ 60 := by have := hr3.len; have := HLE.out; omega
      clear hb3 hr3
      have z3 := HB3.out.size
      have KCL := Lib.hid (sclone_any t B mm d w3 ((HST.out.below HB3.out).more HB3.out.size) (by omega))
      have hq1 : (min (m : Int) 60).toNat = mm := by omega
      have hq2 : min (m : Int) 60 ≤ (d : Int) := by omega
      have hq3 : 0 ≤ min (m : Int) 60 := by omega
      go_wp2_with (go_at_call 9; refine KCL.out.mono ?_; rintro e w4 ⟨A4, c4, rfl, ho4, hb4⟩; have HO4 := Lib.hid ho4; have HB4 := Lib.hid hb4; clear ho4 hb4 hq1 hq2 hq3 hmw)
      have HB34 := Lib.hid (HB3.out.trans (HB4.out.mono z3))
      clear KCL KSET KF2 HF1
      go_loopw [30] (fun i wr => ∃ k : Nat, k ≤ mm ∧ i = .int .i64 k ∧ Hid (wr.ownsRow w3.heap.size 28 4 (.slice A4 mm c4) mm (cellsOf (mapTo zeroP t k))) ∧ Hid (∀ s ∈ t.take k, 0 < s.adr.size) ∧ Hid (Below w3.heap.size w3 wr)) (fun i _ => mm - (intOf i).toNat)
      case atStart => exact ⟨0, Nat.zero_le _, rfl, by rw [mapTo_zero]; exact HO4, (fun s hs => by simp at hs), HB4⟩
      case round =>
        obtain ⟨k, hk, rfl, HO5, HA5, HB5⟩ := hrel
        have HB35 := Lib.hid (HB3.out.trans (HB5.out.mono z3))
        by_cases hlt : k < mm
        · have hk' : k < t.length := by have := HTL.out; omega
          have hx : t[k]? = some t[k] := List.getElem?_eq_getElem hk'
          have hx' := mapTo_get zeroP t k _ hx
          have hsu := mapTo_succ zeroP t k _ hx
          have htk := take_next hx
          generalize t[k] = y at *
          obtain ⟨g, cap, hv, hg0, hg1⟩ := HO5.out.form (by omega)
          have e1 : A4 = some ⟨g, 0, none⟩ := by injection hv
          subst e1
          clear hv
          obtain ⟨x0, x1, x2, x3⟩ := own_seatT HO5.out hx'
          have hf := own_free HO5.out
          have hset := own_pri (q := 0) HO5.out hx'
          have hs2 : (mapTo zeroP t k).set k { y with pri := 0 } = mapTo zeroP t (k + 1) := hsu
          rw [hs2] at hset
          have HSET := Lib.hid hset; have HTK := Lib.hid htk
          have HBA := Lib.hid (HB35.out.alloc HB35.out.size (.cells #[.string y.adr, .string y.key, .int .i64 y.pow, .int .i64 y.pri] 28))
          have HBB := Lib.hid (HB5.out.alloc HB5.out.size (.cells #[.string y.adr, .string y.key, .int .i64 y.pow, .int .i64 y.pri] 28))
          clear hset hs2 hsu hx hx' htk
          by_cases ha : y.adr.toList = []
          · have ha' : y.adr.toList.isEmpty = true := by simp [ha]
            go_wp2
            (try go_ret)
            exact ⟨rfl, HBA.out⟩
          · have ha' : y.adr.toList.isEmpty = false := by simpa using ha
            have hap : 0 < y.adr.size := by
              rcases Nat.eq_zero_or_pos y.adr.size with h | h
              · exfalso; apply ha
                rw [ByteArray.toList_eq]
                exact List.eq_nil_of_length_eq_zero (by rw [Array.length_toList]; exact h)
              · exact h
            have HAP2 := Lib.hid (show ∀ s ∈ t.take (k + 1), 0 < s.adr.size from fun s hs => by
              rw [HTK.out] at hs
              rcases List.mem_append.1 hs with hs | hs
              · exact HA5.out s hs
              · rw [List.mem_singleton] at hs; rw [hs]; exact hap)
            by_cases hke : y.key.toList = []
            · have hke' : y.key.toList.isEmpty = true := by simp [hke]
              go_wp2
              (try go_ret)
              exact ⟨rfl, HBA.out⟩
            · have hke' : y.key.toList.isEmpty = false := by simpa using hke
              go_wp2
              go_roundw
              case rel => exact ⟨k + 1, by omega, by go_num, HSET.out.alloc _, HAP2.out, (HB5.out.setCell (p := ⟨g, k * 4 + 3, none⟩) hg0 _).alloc (by have := HB5.out.size; simp [World.setCell]; omega) _⟩
              case measure => simp [intOf]; omega
        · obtain rfl : mm = k := by omega
          have hfin := HO5.out
          rw [mapTo_full _ _ _ (by have := HTL.out; omega)] at hfin
          have ha5 := HA5.out
          rw [List.take_of_length_le (by have := HTL.out; omega)] at ha5
          obtain ⟨C, hC⟩ : ∃ C, C = t.map zeroP := ⟨_, rfl⟩
          rw [← hC] at hfin
          have hCl : C.length = mm := by rw [hC, List.length_map]; exact HTL.out
          have hCa : ∀ s ∈ C, 0 < s.adr.size := fun s hs => by rw [hC] at hs; obtain ⟨y, hy, rfl⟩ := List.mem_map.1 hs; exact ha5 y hy
          have hCf : ∀ s ∈ C, -9223372036854775808 ≤ s.pow ∧ s.pow ≤ 9223372036854775807 := fun s hs => by rw [hC] at hs; obtain ⟨y, hy, rfl⟩ := List.mem_map.1 hs; have := HTF.out y hy; simp only [Sd.fits] at this; exact this.2.2.1
          have HF := Lib.hid (Rd.of_own hfin); have HCL := Lib.hid hCl; have HCA := Lib.hid hCa; have HCF := Lib.hid hCf
          clear hfin ha5 hC hCl hCa hCf HO5 HA5
          have hn3x := HR3.out.len
          have HN3 := Lib.hid hn3x; clear hn3x
          have KB := Lib.hid (back_any x A3 n3 c3 wr ((HR3.out.below HB5.out).more HB5.out.size) (by omega))
          go_wp2_with fail
          refine KB.out.mono ?_
          rintro e w5 ⟨A5, c5, rfl, hr5, hb5⟩
          have z5 := HB35.out.size
          have HB6 := Lib.hid (HB35.out.trans (hb5.mono z5))
          have z6' := HB6.out.size
          have KI := Lib.hid (ichanged_any x C A5 n3 c5 A4 mm c4 w5 hr5 (by omega) ((HF.out.below hb5).more hb5.size) (by omega) (fun y hy => (HGD.out y hy).pow) (fun y hy => (HGD.out y hy).pri) HAP.out HCA.out (by omega) T0 v0 ((HB6.out.cell (p := ⟨0, 0, none⟩) (by show 0 < _; omega)).trans HG.out))
          have HB5' := Lib.hid (HB5.out.trans (hb5.mono HB5.out.size))
          have HF5 := Lib.hid ((HF.out.below hb5).more hb5.size)
          clear hr5 hb5
          go_wp2_with fail
          refine KI.out.mono ?_
          rintro e w6 ⟨A6, c6, rfl, hr6, hb6⟩
          have HR6 := Lib.hid hr6; have HB7 := Lib.hid (HB6.out.trans (hb6.mono HB6.out.size)); have HB7' := Lib.hid (HB5'.out.trans (hb6.mono HB5'.out.size))
          have HF6 := Lib.hid ((HF5.out.below hb6).more hb6.size)
          clear hr6 hb6
          have KT := Lib.hid (theirs_any C A4 mm c4 w6 HF6.out (by omega))
          go_wp2_with fail
          refine KT.out.mono ?_
          rintro e w7 ⟨A7, c7, rfl, ho7, hb7⟩
          have hc7 := own_capE ho7
          have z6 := HB7.out.size
          have HB8 := Lib.hid (HB7.out.trans (hb7.mono z6)); have HB8' := Lib.hid (HB7'.out.trans (hb7.mono HB7'.out.size))
          have HR7 := Lib.hid ((HR6.out.below hb7).more hb7.size)
          have KS := Lib.hid (schanged_any x C A3 n3 c3 A7 mm c7 w7 ((HR3.out.below HB8'.out).more HB8'.out.size) (Rd.of_own ho7) (by omega) (by omega) hc7 (fun y hy => (HGD.out y hy).pow) (fun y hy => (HGD.out y hy).pri) HAP.out HCF.out)
          clear ho7 hb7
          go_wp2_with fail
          refine KS.out.mono ?_
          rintro e w8 ⟨hb8, ⟨hc0, A9, c9, rfl, hr9⟩ | ⟨hc0, hok, A9, c9, rfl, hr9⟩ | ⟨hc0, hok, rfl⟩⟩
          · have hco : chB x C = true ∧ chO x C = x := by rw [hc0]; exact ch_nil x
            have HB9 := Lib.hid (HB8.out.trans (hb8.mono HB8.out.size))
            have hr7 := (HR7.out.below hb8).more hb8.size
            rw [hco.2] at hr7
            have K := Lib.hid (same_any x A6 A9 n3 c6 c9 w8 (by rw [HN3.out]; rw [HN3.out] at hr9; exact hr7) hr9 (by omega))
            have hlen : (chO x C).length = n3 := by rw [hco.2]; exact HN3.out.symm
            have HCO := hco.1
            clear hc0 hr9 hb8 hr7 hco
            go_wp2_with (go_at_call 14; refine K.out.mono ?_; rintro e w9 ⟨rfl, hb9⟩; have HB10 := Lib.hid (HB9.out.trans (hb9.mono HB9.out.size)); clear hb9)
            (try go_ret)
            exact ⟨rfl, HB10.out⟩
          · have hco := ch_ok hc0 hok
            have HB9 := Lib.hid (HB8.out.trans (hb8.mono HB8.out.size))
            have hr7 := (HR7.out.below hb8).more hb8.size
            rw [hco.2] at hr7
            have hln : (outL x C).length ≤ 800 := by rw [outL_len]; have := kept_len x C; have := HN3.out; have := HCL.out; omega
            have K := Lib.hid (same_any (outL x C) A6 A9 (outL x C).length c6 c9 w8 hr7 hr9 (by omega))
            have hlen : (chO x C).length = (outL x C).length := by rw [hco.2]
            have HCO := hco.1
            clear hc0 hok hr9 hb8 hr7 hco
            go_wp2_with (go_at_call 14; refine K.out.mono ?_; rintro e w9 ⟨rfl, hb9⟩; have HB10 := Lib.hid (HB9.out.trans (hb9.mono HB9.out.size)); clear hb9)
            (try go_ret)
            exact ⟨rfl, HB10.out⟩
          · have hco := ch_no hc0 hok
            have HB9 := Lib.hid (HB8.out.trans (hb8.mono HB8.out.size))
            have hr7 := (HR7.out.below hb8).more hb8.size
            rw [hco.2] at hr7
            have hr3 := (HR3.out.below (HB8'.out.trans (hb8.mono HB8'.out.size))).more (by have := HB8'.out.size; have := hb8.size; omega : w3.heap.size ≤ w8.heap.size)
            have K := Lib.hid (same_any x A6 A3 n3 c6 c3 w8 (by rw [HN3.out]; exact hr7) hr3 (by omega))
            have hlen : (chO x C).length = n3 := by rw [hco.2]; exact HN3.out.symm
            have HCO := hco.1
            clear hc0 hok hb8 hr7 hco hr3
            go_wp2_with (go_at_call 14; refine K.out.mono ?_; rintro e w9 ⟨rfl, hb9⟩; have HB10 := Lib.hid (HB9.out.trans (hb9.mono HB9.out.size)); clear hb9)
            (try go_ret)
            exact ⟨rfl, HB10.out⟩
end Go.Proofs.YtikikddkhikfkaaGreatDoor

set_option linter.all false
namespace Go.Proofs.YtikikddkhikfkaaGreatDoor
open Go.RowKit

theorem getNone_any (g n c : Nat) (A : Option Addr) (w : World) (h : w.cell? ⟨g, 0, none⟩ = some (.slice A n c)) (hn : n = 0) :
    Calls Tryz.prog 71 #[.pointer (some ⟨g, 0, none⟩)] w fun e w' => e = .returned (.pointer none) ∧ w = w' := by
  subst hn
  go_enter Tryz.func71, Tryz.ntmps71
  go_wp2
  (try go_ret)
  exact ⟨rfl, rfl⟩
theorem firstNone_any (g n c : Nat) (A : Option Addr) (w : World) (h : w.cell? ⟨g, 0, none⟩ = some (.slice A n c)) (hn : n = 0) :
    Calls Tryz.prog 44 #[.pointer (some ⟨g, 0, none⟩)] w fun e w' => e = .returned (.string ⟨#[]⟩) ∧ w = w' := by
  have K := Lib.hid (getNone_any g n c A w h hn)
  clear h
  go_enter Tryz.func44, Tryz.ntmps44
  go_wp2_with (go_at_call 71; refine K.out.mono ?_; rintro e w1 ⟨rfl, rfl⟩)
  (try go_ret)
  exact ⟨rfl, rfl⟩
theorem noTurn (T : Int) (l : List Sd) : turnsL T (1 - 1) l = l := rfl
set_option maxRecDepth 100000 in
set_option maxHeartbeats 6400000 in
theorem newSet_any (tc : List Tv) (B : Option Addr) (m d : Nat) (w : World) (hr : Rd w w.heap.size 4 B m (tc.flatMap Tv.seat)) (hok : ∀ t ∈ tc, t.ok w) (hm : m ≤ 400) (hca : ∀ t ∈ tc, 0 < t.x.adr.size) (hw0 : 0 < w.heap.size) (T0 : Nat) (v0 : Value) (hG : w.cell? ⟨0, 0, none⟩ = some (.iface T0 v0)) :
    Calls Tryz.prog 43 #[.slice B m d] w fun e w' => Below w.heap.size w w' ∧
      ((m = 0 ∧ e = .returned (.tuple #[ptrTo w.heap.size, .bool true]) ∧ VSet w' w.heap.size w.heap.size none 0 [] [] (.pointer none) 0 true) ∨
       (0 < m ∧ okCh [] (tc.map Tv.x) ∧ e = .returned (.tuple #[ptrTo w.heap.size, .bool true]) ∧ ∃ A' c' bs' ts', ts'.map Tv.x = turnsL (totL (outL [] (tc.map Tv.x))) 1 (startL (outL [] (tc.map Tv.x))) ∧
         VSet w' w.heap.size w.heap.size A' c' bs' ts' (pval bs' (propOf ((startL (outL [] (tc.map Tv.x))).map addP))) (totL (outL [] (tc.map Tv.x))) true) ∨
       (0 < m ∧ ¬ okCh [] (tc.map Tv.x) ∧ e = .returned (.tuple #[.pointer none, .bool false]))) := by
  obtain ⟨Q, hQ⟩ : ∃ Q : Ending → World → Prop, ∀ e w', Q e w' = (Below w.heap.size w w' ∧
      ((m = 0 ∧ e = .returned (.tuple #[ptrTo w.heap.size, .bool true]) ∧ VSet w' w.heap.size w.heap.size none 0 [] [] (.pointer none) 0 true) ∨
       (0 < m ∧ okCh [] (tc.map Tv.x) ∧ e = .returned (.tuple #[ptrTo w.heap.size, .bool true]) ∧ ∃ A' c' bs' ts', ts'.map Tv.x = turnsL (totL (outL [] (tc.map Tv.x))) 1 (startL (outL [] (tc.map Tv.x))) ∧
         VSet w' w.heap.size w.heap.size A' c' bs' ts' (pval bs' (propOf ((startL (outL [] (tc.map Tv.x))).map addP))) (totL (outL [] (tc.map Tv.x))) true) ∨
       (0 < m ∧ ¬ okCh [] (tc.map Tv.x) ∧ e = .returned (.tuple #[.pointer none, .bool false])))) := ⟨_, fun _ _ => rfl⟩
  simp only [← hQ]
  have HQ := Lib.hid hQ; clear hQ
  have hml : tc.length = m := by have := hr.1; rw [flat_length Tv.seat 4 (fun _ => rfl)] at this; omega
  have hs0 : VSet (w.alloc (.cells #[.slice none 0 0, .pointer none, .int .i64 0, .bool true] 128)) w.heap.size w.heap.size none 0 [] [] (.pointer none) 0 true :=
    ⟨Blk.new w _ _, World.ownsRow_nil _ _ _ _, rfl, List.nodup_nil, (fun j b t h => by simp at h), Nat.le_refl _⟩
  have hb0 := (Below.refl w.heap.size w).alloc (Nat.le_refl _) (.cells #[.slice none 0 0, .pointer none, .int .i64 0, .bool true] 128)
  have hG0 := (hb0.cell (p := ⟨0, 0, none⟩) (by show 0 < _; omega)).trans hG
  have K := Lib.hid (setOf_any tc B m d (w.alloc (.cells #[.slice none 0 0, .pointer none, .int .i64 0, .bool true] 128)) ((hr.below hb0).more hb0.size) (fun t ht => (hok t ht).keep (KeepB.of_below hb0)) (by omega))
  have HS0 := Lib.hid hs0; have HB0 := Lib.hid hb0; have HG0 := Lib.hid hG0; have HML := Lib.hid hml; have HCA := Lib.hid hca
  clear hr hok hG hs0 hb0 hG0 hml hca
  go_enter Tryz.func43, Tryz.ntmps43
  go_wp2_with fail
  refine K.out.mono ?_
  rintro e w1 ⟨A1, c1, bc, rfl, hv1, hb1⟩
  have hbl : bc.length = m := by have := hv1.len; have := HML.out; omega
  subst hbl
  have z0 := HB0.out.size
  have h10 : w1.cell? ⟨(w.alloc (.cells #[.slice none 0 0, .pointer none, .int .i64 0, .bool true] 128)).heap.size, 0, none⟩ = some (.slice A1 bc.length c1) := hv1.head.cell 0
  have K2 := uw_any w.heap.size w.heap.size none 0 [] [] (.pointer none) 0 true w1 (HS0.out.keep (KeepV.of_below _ hb1 (Nat.le_refl _))) hw0 (by simp) (.inl rfl) (fun x hx => by simp at hx) (fun x hx => by simp at hx) List.nodup_nil
    _ A1 c1 bc tc hv1.vrow (by omega) HCA.out T0 v0 ((hb1.cell (p := ⟨0, 0, none⟩) (by show 0 < _; omega)).trans HG0.out) false
  simp only [List.map_nil] at K2
  have HK2 := Lib.hid K2; have HB1 := Lib.hid (HB0.out.trans (hb1.mono z0))
  clear K2 hv1 hb1 K
  unfold ptrTo at *
  simp only [World.size_alloc] at h10
  go_wp2_with fail
  refine HK2.out.mono ?_
  rintro e w2 ⟨hb2, ⟨h1, rfl, h3⟩ | ⟨h1, h2, rfl, A3, c3, bs3, ts3, h3, h4⟩ | ⟨h1, h2, ⟨T, v, rfl⟩, tot', h3⟩⟩
  · have HB2 := Lib.hid (HB1.out.trans hb2); have H3 := Lib.hid h3; clear hb2 h3
    go_wp2
    (try go_ret2)
    rw [HQ.out]
    exact ⟨HB2.out, .inl ⟨h1, rfl, H3.out⟩⟩
  · have htn := out_nil_turn h2.1 (by rw [List.length_map, HML.out]; omega)
    have hbl : bs3.length = (outL [] (tc.map Tv.x)).length := by rw [← h3, List.length_map]; exact h4.len.symm
    have hpos : 0 < bs3.length := by rw [hbl]; exact List.length_pos_iff.2 htn.ne
    have hm3 : ∀ t ∈ ts3, t.x ∈ outL [] (tc.map Tv.x) := fun t ht => by rw [← h3]; exact List.mem_map_of_mem ht
    have K3 := incrW_any w.heap.size w.heap.size A3 c3 bs3 ts3 (.pointer none) _ true 1 w2 h4 (by rw [hbl]; have := htn.len; omega) hpos (by rw [h3]) (by rw [h3]; exact htn.tot) (by rw [h3]; exact htn.dist) (fun t ht => htn.pri _ (hm3 t ht)) (fun t ht => htn.pow _ (hm3 t ht)) (by omega) (by omega)
    rw [h3] at K3
    have HK3 := Lib.hid K3; have HB2 := Lib.hid (HB1.out.trans hb2); have H2 := Lib.hid h2.1; have H4 := Lib.hid h4
    clear K3 hb2 h2 h3 h4 htn hm3 hbl
    unfold ptrTo at *
    go_wp2_with fail
    refine HK3.out.mono ?_
    rintro e w3 ⟨rfl, ts', hm', hv3, ho3⟩
    have HB3 := Lib.hid (HB2.out.trans (H4.out.below ho3)); have HM' := Lib.hid hm'; have HV3 := Lib.hid hv3
    clear hm' hv3 ho3
    go_wp2
    (try go_ret2)
    rw [HQ.out]
    exact ⟨HB3.out, .inr (.inl ⟨h1, H2.out, rfl, A3, c3, bs3, ts', HM'.out, HV3.out⟩)⟩
  · have HB2 := Lib.hid (HB1.out.trans hb2); have H2 := Lib.hid h2; clear hb2 h2 h3
    go_wp2
    (try go_ret2)
    rw [HQ.out]
    exact ⟨HB2.out, .inr (.inr ⟨h1, fun k => H2.out ⟨k, .inr (dels_nil k)⟩, rfl⟩)⟩

/-- who proposes first, of a new set -/
def madeP (C : List Sd) : ByteArray := nextP (startL (outL [] C))
def madeO (C : List Sd) : List Sd := turnsL (totL (outL [] C)) 1 (startL (outL [] C))
theorem madeO_core (C : List Sd) : (madeO C).map core = (outL [] C).map core := (turnsL_core _ _ _).trans (startL_core _)
theorem madeO_len (C : List Sd) : (madeO C).length ≤ C.length := by
  rw [length_of_core (madeO_core C), outL_len]; have := kept_len [] C; simpa using this
set_option maxRecDepth 100000 in
set_option maxHeartbeats 6400000 in
theorem imade_any (l : List Sd) (A : Option Addr) (n c : Nat) (w : World) (hr : Rd w w.heap.size 4 A n (cellsOf l)) (hn : n ≤ 400) (hca : ∀ x ∈ l, 0 < x.adr.size) (hw0 : 0 < w.heap.size) (T0 : Nat) (v0 : Value) (hG : w.cell? ⟨0, 0, none⟩ = some (.iface T0 v0)) :
    Calls Tryz.prog 15 #[.slice A n c] w fun e w' => Below w.heap.size w w' ∧
      ((l = [] ∧ ∃ A' c', e = .returned (.tuple #[.slice A' 0 c', .string ⟨#[]⟩, .bool true])) ∨
       (l ≠ [] ∧ okCh [] l ∧ ∃ A' c', e = .returned (.tuple #[.slice A' (madeO l).length c', .string (madeP l), .bool true]) ∧ Rd w' w'.heap.size 4 A' (madeO l).length (cellsOf (madeO l))) ∨
       (l ≠ [] ∧ ¬ okCh [] l ∧ e = .returned (.tuple #[.slice none 0 0, .string ⟨#[]⟩, .bool false]))) := by
  obtain ⟨Q, hQ⟩ : ∃ Q : Ending → World → Prop, ∀ e w', Q e w' = (Below w.heap.size w w' ∧
      ((l = [] ∧ ∃ A' c', e = .returned (.tuple #[.slice A' 0 c', .string ⟨#[]⟩, .bool true])) ∨
       (l ≠ [] ∧ okCh [] l ∧ ∃ A' c', e = .returned (.tuple #[.slice A' (madeO l).length c', .string (madeP l), .bool true]) ∧ Rd w' w'.heap.size 4 A' (madeO l).length (cellsOf (madeO l))) ∨
       (l ≠ [] ∧ ¬ okCh [] l ∧ e = .returned (.tuple #[.slice none 0 0, .string ⟨#[]⟩, .bool false])))) := ⟨_, fun _ _ => rfl⟩
  simp only [← hQ]
  have HQ := Lib.hid hQ; clear hQ
  have K := Lib.hid (seats_any l A n c w hr (by omega))
  have HL := Lib.hid hr.len; have HCA := Lib.hid hca; have HG := Lib.hid hG
  clear hr hca hG
  go_enter Tryz.func15, Tryz.ntmps15
  go_wp2_with fail
  refine K.out.mono ?_
  rintro e w1 ⟨A1, c1, ts, rfl, hr1, hm1, hok1, hb1⟩
  have z1 := hb1.size
  have K2 := newSet_any ts A1 n c1 w1 hr1 hok1 hn (fun t ht => HCA.out t.x (by rw [← hm1]; exact List.mem_map_of_mem ht)) (by omega) T0 v0 ((hb1.cell (p := ⟨0, 0, none⟩) (by show 0 < _; omega)).trans HG.out)
  rw [hm1] at K2
  have HK2 := Lib.hid K2; have HB1 := Lib.hid hb1
  clear K2 hr1 hm1 hok1 hb1 K
  unfold ptrTo at *
  go_wp2_with fail
  refine HK2.out.mono ?_
  rintro e w2 ⟨hb2, ⟨h1, rfl, h3⟩ | ⟨h1, h2, rfl, A3, c3, bs3, ts3, h3, h4⟩ | ⟨h1, h2, rfl⟩⟩
  · have HB2 := Lib.hid (HB1.out.trans (hb2.mono z1))
    have z2 := HB2.out.size
    have KO := Lib.hid (ours_any _ _ _ _ _ _ _ _ _ w2 h3 (by simp))
    have hcell : w2.cell? ⟨w1.heap.size, 0, none⟩ = some (.slice none 0 0) := h3.head.cell 0
    have HC := Lib.hid hcell
    have hzz := hb2.size
    have hin : w1.heap.size < w2.heap.size := h3.head.lt
    clear hb2 h3 hcell
    simp only [List.map_nil, List.length_nil] at KO
    unfold ptrTo at *
    go_wp2_with fail
    refine KO.out.mono ?_
    rintro e w3 ⟨A3, c3, rfl, hr3, hb3⟩
    have HB3 := Lib.hid (HB2.out.trans (hb3.mono z2))
    have KF := Lib.hid (firstNone_any w1.heap.size 0 0 none w3 ((hb3.cell (p := ⟨w1.heap.size, 0, none⟩) hin).trans HC.out) rfl)
    clear hb3 hr3
    go_wp2_with (go_at_call 44; refine KF.out.mono ?_; rintro e w4 ⟨rfl, rfl⟩)
    (try go_ret2)
    rw [HQ.out]
    exact ⟨HB3.out, .inl ⟨List.eq_nil_of_length_eq_zero (by rw [← HL.out]; exact h1), A3, c3, rfl⟩⟩
  · have HB2 := Lib.hid (HB1.out.trans (hb2.mono z1))
    have z2 := HB2.out.size
    have hne : l ≠ [] := fun e => by have := HL.out; rw [e] at this; simp at this; omega
    have htn := out_nil_turn h2 (by rw [← HL.out]; omega)
    obtain ⟨q, hq, hqa, x, hx, hxa⟩ := nextP_at (startL_core (outL [] l)) htn.ne
    have hlen3 : bs3.length = (madeO l).length := by rw [show madeO l = ts3.map Tv.x from h3.symm, List.length_map]; exact h4.len.symm
    have hcl := length_of_core (madeO_core l)
    have hq2 : q.2 < bs3.length := by have := (List.getElem?_eq_some_iff.1 hx).1; omega
    obtain ⟨b, t, hb, ht⟩ := h4.at_ hq2
    have hta : t.x.adr = madeP l := by
      have g1 : (madeO l)[q.2]? = some t.x := by rw [show madeO l = ts3.map Tv.x from h3.symm, List.getElem?_map, ht]; rfl
      have g2 : ((madeO l).map core)[q.2]? = some (core t.x) := by rw [List.getElem?_map, g1]; rfl
      rw [madeO_core, List.getElem?_map, hx] at g2
      simp only [Option.map_some, Option.some.injEq] at g2
      unfold madeP
      rw [hqa, ← hxa]
      exact (congrArg Sd.adr g2 : (core x).adr = (core t.x).adr).symm
    obtain ⟨_, hbv, hokt⟩ := h4.vals q.2 b t hb ht
    have hpv : pval bs3 (propOf ((startL (outL [] l)).map addP)) = ptrTo b := by
      rw [hq]; show ptrTo (bs3.getD q.2 0) = _; rw [List.getD_eq_getElem?_getD, hb]; rfl
    rw [hpv] at h4
    have hpos : 0 < bs3.length := by omega
    have hle : bs3.length ≤ 400 := by have := madeO_len l; have := HL.out; omega
    have KO := ours_any _ _ _ _ _ _ _ _ _ w2 h4 (by omega)
    rw [show ts3.map Tv.x = madeO l from h3, hlen3] at KO
    have HKO := Lib.hid KO; have H4 := Lib.hid h4; have HBV := Lib.hid hbv; have HOKT := Lib.hid hokt; have HTA := Lib.hid hta; have H2 := Lib.hid h2; have HNE := Lib.hid hne
    clear KO h4 hbv hokt hta h2 h3 htn hq hqa hx hxa hb ht hpv hb2 hne hcl
    unfold ptrTo at *
    go_wp2_with fail
    refine HKO.out.mono ?_
    rintro e w3 ⟨A4, c4, rfl, hr4, hb4⟩
    have KF := first_any w1.heap.size w1.heap.size A3 c3 bs3 ts3 b t _ _ w3 (H4.out.keep (KeepV.of_below _ hb4 (Nat.le_refl _))) hpos (HBV.out.belowS hb4) (HOKT.out.keep (KeepB.of_below hb4))
    rw [HTA.out] at KF
    have HKF := Lib.hid KF; have HB4 := Lib.hid (HB2.out.trans (hb4.mono z2)); have HR4 := Lib.hid hr4
    have z4 := HB4.out.size
    clear KF hb4 hr4
    unfold ptrTo at *
    go_wp2_with (go_at_call 44; refine HKF.out.mono ?_; rintro e w4 ⟨rfl, hb5⟩; have HB5 := Lib.hid hb5; clear hb5)
    (try go_ret2)
    rw [HQ.out]
    exact ⟨HB4.out.trans (HB5.out.mono z4), .inr (.inl ⟨HNE.out, H2.out, A4, c4, rfl, (HR4.out.below HB5.out).more HB5.out.size⟩)⟩
  · have HB2 := Lib.hid (HB1.out.trans (hb2.mono z1)); have H2 := Lib.hid h2
    have hne : l ≠ [] := fun e => by have := HL.out; rw [e] at this; simp at this; omega
    have HNE := Lib.hid hne
    clear hb2 h2 hne
    go_wp2
    (try go_ret2)
    rw [HQ.out]
    exact ⟨HB2.out, .inr (.inr ⟨HNE.out, H2.out, rfl⟩)⟩

set_option maxRecDepth 100000 in
set_option maxHeartbeats 6400000 in
theorem smade_any (l : List Sd) (A : Option Addr) (n c : Nat) (w : World) (hr : Rd w w.heap.size 4 A n (cellsOf l)) (hn : n ≤ 60) (hnc : n ≤ c) (hl : ∀ x ∈ l, -9223372036854775808 ≤ x.pow ∧ x.pow ≤ 9223372036854775807) :
    Calls Tryz.prog 16 #[.slice A n c] w fun e w' => Below w.heap.size w w' ∧
      ((l = [] ∧ ∃ A' c', e = .returned (.tuple #[.slice A' 0 c', .string ⟨#[]⟩, .bool true])) ∨
       (l ≠ [] ∧ okCh [] l ∧ ∃ A' c', e = .returned (.tuple #[.slice A' (madeO l).length c', .string (madeP l), .bool true]) ∧ Rd w' w'.heap.size 4 A' (madeO l).length (cellsOf (madeO l))) ∨
       (l ≠ [] ∧ ¬ okCh [] l ∧ ∃ A' m' c', e = .returned (.tuple #[.slice A' m' c', .string ⟨#[]⟩, .bool false]))) := by
  obtain ⟨Q, hQ⟩ : ∃ Q : Ending → World → Prop, ∀ e w', Q e w' = (Below w.heap.size w w' ∧
      ((l = [] ∧ ∃ A' c', e = .returned (.tuple #[.slice A' 0 c', .string ⟨#[]⟩, .bool true])) ∨
       (l ≠ [] ∧ okCh [] l ∧ ∃ A' c', e = .returned (.tuple #[.slice A' (madeO l).length c', .string (madeP l), .bool true]) ∧ Rd w' w'.heap.size 4 A' (madeO l).length (cellsOf (madeO l))) ∨
       (l ≠ [] ∧ ¬ okCh [] l ∧ ∃ A' m' c', e = .returned (.tuple #[.slice A' m' c', .string ⟨#[]⟩, .bool false])))) := ⟨_, fun _ _ => rfl⟩
  simp only [← hQ]
  have HQ := Lib.hid hQ; clear hQ
  have HL := Lib.hid hr.len; have HR := Lib.hid hr; have HX := Lib.hid hl
  clear hr hl
  go_enter Tryz.func16, Tryz.ntmps16
  go_wp2
  go_loopw [12] (fun i wr => ∃ k : Nat, k ≤ n ∧ i = .int .i64 k ∧ Hid (Below w.heap.size w wr)) (fun i _ => n - (intOf i).toNat)
  case atStart => exact ⟨0, Nat.zero_le _, rfl, Below.refl _ _⟩
  case round =>
    obtain ⟨k, hk, rfl, HB⟩ := hrel
    by_cases hlt : k < n
    · have hk' : k < l.length := by have := HL.out; omega
      have hx : l[k]? = some l[k] := List.getElem?_eq_getElem hk'
      obtain ⟨ad, rfl, _, c0, c1, c2, c3⟩ := (HR.out.below HB.out).seat hx
      have hm : l[k] ∈ l := List.getElem_mem hk'
      generalize l[k] = x at *
      have HBA := Lib.hid (HB.out.alloc HB.out.size (.cells #[.string x.adr, .string x.key, .int .i64 x.pow, .int .i64 x.pri] 57))
      by_cases hp : x.pow ≤ 0
      · have hbad : ¬ okCh [] l := fun h => by have := made_pos h x hm; omega
        have hne : l ≠ [] := fun e => by rw [e] at hm; simp at hm
        have HBAD := Lib.hid hbad; have HNE := Lib.hid hne
        clear hbad hne hm hx
        go_wp2
        (try go_ret2)
        rw [HQ.out]
        exact ⟨HBA.out, .inr (.inr ⟨HNE.out, HBAD.out, none, 0, 0, rfl⟩)⟩
      · clear hm hx
        go_wp2
        go_roundw
        case rel => exact ⟨k + 1, by omega, by go_num, HBA.out⟩
        case measure => simp [intOf]; omega
    · obtain rfl : n = k := by omega
      have K := Lib.hid (schanged_any [] l none 0 0 A n c wr (Rd.nil _ _ _ _) ((HR.out.below HB.out).more HB.out.size) (by omega) hn hnc (fun x hx => by simp at hx) (fun x hx => by simp at hx) List.nodup_nil HX.out)
      have z := HB.out.size
      go_wp2_with fail
      refine K.out.mono ?_
      rintro e w2 ⟨hb2, ⟨hc0, A9, c9, rfl, hr9⟩ | ⟨hc0, hok, A9, c9, rfl, hr9⟩ | ⟨hc0, hok, rfl⟩⟩
      · have HB2 := Lib.hid (HB.out.trans (hb2.mono z)); have HC := Lib.hid hc0
        clear hb2 hr9 hc0
        go_wp2
        (try go_ret2)
        rw [HQ.out]
        exact ⟨HB2.out, .inl ⟨HC.out, A9, c9, rfl⟩⟩
      · have HB2 := Lib.hid (HB.out.trans (hb2.mono z)); have HC := Lib.hid hc0; have HOK := Lib.hid hok
        have htn := out_nil_turn hok (by rw [← HL.out]; omega)
        have hpos : (((outL [] l).length : Int) == 0) = false := beq_eq_false_iff_ne.2 (by have := List.length_pos_iff.2 htn.ne; omega)
        have KT := sturnedW_any (outL [] l) A9 _ c9 1 w2 hr9 htn (by omega) (by omega)
        have hlo : (madeO l).length = (outL [] l).length := length_of_core (madeO_core l)
        have e1 : ((1 : Nat) : Int) = 1 := rfl
        rw [noTurn, show turnsL (totL (outL [] l)) 1 (startL (outL [] l)) = madeO l from rfl, show nextP (startL (outL [] l)) = madeP l from rfl, e1] at KT
        have HKT := Lib.hid KT; have HLO := Lib.hid hlo
        have z2 := HB2.out.size
        clear KT hr9 hb2 hc0 hok htn hlo e1
        go_wp2_with (go_at_call 45; refine HKT.out.mono ?_; rintro e w3 ⟨A3, c3, rfl, hr3, hb3⟩; have HR3 := Lib.hid hr3; have HB3 := Lib.hid (HB2.out.trans (hb3.mono z2)); clear hr3 hb3)
        (try go_ret2)
        rw [HQ.out]
        have hr3 := HR3.out
        rw [← HLO.out] at hr3
        exact ⟨HB3.out, .inr (.inl ⟨HC.out, HOK.out, A3, c3, by rw [HLO.out]; rfl, hr3⟩)⟩
      · have HB2 := Lib.hid (HB.out.trans (hb2.mono z)); have HC := Lib.hid hc0; have HOK := Lib.hid hok
        clear hb2 hc0 hok
        go_wp2
        (try go_ret2)
        rw [HQ.out]
        exact ⟨HB2.out, .inr (.inr ⟨HC.out, HOK.out, none, 0, 0, rfl⟩)⟩
end Go.Proofs.YtikikddkhikfkaaGreatDoor

set_option linter.all false
namespace Go.Proofs.YtikikddkhikfkaaGreatDoor
open Go.RowKit

set_option maxRecDepth 100000 in
set_option maxHeartbeats 6400000 in
theorem fnMade_any (l : List Sd) (A : Option Addr) (n c : Nat) (w : World) (hr : Rd w w.heap.size 4 A n (cellsOf l)) (hnc : n ≤ c) (hcm : c ≤ maxLen) (hl : ∀ s ∈ l, s.fits) (T0 : Nat) (v0 : Value) (hG : w.cell? ⟨0, 0, none⟩ = some (.iface T0 v0)) :
    Calls Tryz.prog 4 #[.slice A n c] w fun e w' => e = .returned (.bool true) ∧ Below w.heap.size w w' := by
  have hw0 : 0 < w.heap.size := World.block_lt_of_cell? w _ hG
  simp only [maxLen] at hcm
  have hF1 := fits1_any l A n c w hr (by omega) (fun x hx => by have := hl x hx; simp only [Sd.fits, maxLen] at this; omega)
  have HF1 := Lib.hid hF1
  have HS := Lib.hid hr; have HCH := Lib.hid hl; have HG := Lib.hid hG
  have HLC := Lib.hid hr.len
  clear hF1 hr hl hG
  cases hfb : fitsB l with
  | false =>
    rw [hfb] at HF1
    go_enter Tryz.func4, Tryz.ntmps4
    go_wp2_with (go_at_call 7; refine HF1.out.mono ?_; rintro e w1 ⟨rfl, hb1⟩; have HB1 := Lib.hid hb1; clear hb1)
    (try go_ret)
    exact ⟨rfl, HB1.out⟩
  | true =>
    have hn31 := fitsB_length hfb
    rw [hfb] at HF1
    obtain ⟨mm, hmm⟩ : ∃ mm, mm = min n 60 := ⟨_, rfl⟩
    have hmm1 : mm ≤ n ∧ mm ≤ 60 := by omega
    have hst : Rd w w.heap.size 4 A mm (cellsOf (l.take mm)) := by rw [cellsOf_take]; exact HS.out.take hmm1.1
    have HST := Lib.hid hst
    have htf : ∀ s ∈ l.take mm, s.fits := fun s hs => HCH.out s (List.mem_of_mem_take hs)
    have htl : (l.take mm).length = mm := by rw [List.length_take]; have := HLC.out; omega
    have HTF := Lib.hid htf; have HTL := Lib.hid htl
    have hq1 : (min (n : Int) 60).toNat = mm := by omega
    have hq2 : min (n : Int) 60 ≤ (c : Int) := by omega
    have hq3 : 0 ≤ min (n : Int) 60 := by omega
    clear hst htf htl hmm
    generalize l.take mm = t at *
    go_enter Tryz.func4, Tryz.ntmps4
    go_wp2_with fail
    refine HF1.out.mono ?_
    rintro e w3 ⟨rfl, hb3⟩
    have HB3 := Lib.hid hb3; clear hb3
    have z3 := HB3.out.size
    have KCL := Lib.hid (sclone_any t A mm c w3 ((HST.out.below HB3.out).more HB3.out.size) (by omega))
    go_wp2_with (go_at_call 9; refine KCL.out.mono ?_; rintro e w4 ⟨A4, c4, rfl, ho4, hb4⟩; have HO4 := Lib.hid ho4; have HB4 := Lib.hid hb4; clear ho4 hb4 hq1 hq2 hq3)
    clear KCL HF1
    go_loopw [21] (fun i wr => ∃ k : Nat, k ≤ mm ∧ i = .int .i64 k ∧ Hid (wr.ownsRow w3.heap.size 28 4 (.slice A4 mm c4) mm (cellsOf (mapTo zeroP t k))) ∧ Hid (∀ s ∈ t.take k, 0 < s.adr.size) ∧ Hid (Below w3.heap.size w3 wr)) (fun i _ => mm - (intOf i).toNat)
    case atStart => exact ⟨0, Nat.zero_le _, rfl, by rw [mapTo_zero]; exact HO4, (fun s hs => by simp at hs), HB4⟩
    case round =>
      obtain ⟨k, hk, rfl, HO5, HA5, HB5⟩ := hrel
      have HB35 := Lib.hid (HB3.out.trans (HB5.out.mono z3))
      by_cases hlt : k < mm
      · have hk' : k < t.length := by have := HTL.out; omega
        have hx : t[k]? = some t[k] := List.getElem?_eq_getElem hk'
        have hx' := mapTo_get zeroP t k _ hx
        have hsu := mapTo_succ zeroP t k _ hx
        have htk := take_next hx
        generalize t[k] = y at *
        obtain ⟨g, cap, hv, hg0, hg1⟩ := HO5.out.form (by omega)
        have e1 : A4 = some ⟨g, 0, none⟩ := by injection hv
        subst e1
        clear hv
        obtain ⟨x0, x1, x2, x3⟩ := own_seatT HO5.out hx'
        have hf := own_free HO5.out
        have hset := own_pri (q := 0) HO5.out hx'
        have hs2 : (mapTo zeroP t k).set k { y with pri := 0 } = mapTo zeroP t (k + 1) := hsu
        rw [hs2] at hset
        have HSET := Lib.hid hset; have HTK := Lib.hid htk
        clear hset hs2 hsu hx hx' htk
        by_cases ha : y.adr.toList = []
        · have ha' : y.adr.toList.isEmpty = true := by simp [ha]
          go_wp2
          (try go_ret)
          exact ⟨rfl, HB35.out⟩
        · have ha' : y.adr.toList.isEmpty = false := by simpa using ha
          have hap : 0 < y.adr.size := by
            rcases Nat.eq_zero_or_pos y.adr.size with h | h
            · exfalso; apply ha
              rw [ByteArray.toList_eq]
              exact List.eq_nil_of_length_eq_zero (by rw [Array.length_toList]; exact h)
            · exact h
          have HAP2 := Lib.hid (show ∀ s ∈ t.take (k + 1), 0 < s.adr.size from fun s hs => by
            rw [HTK.out] at hs
            rcases List.mem_append.1 hs with hs | hs
            · exact HA5.out s hs
            · rw [List.mem_singleton] at hs; rw [hs]; exact hap)
          by_cases hke : y.key.toList = []
          · have hke' : y.key.toList.isEmpty = true := by simp [hke]
            go_wp2
            (try go_ret)
            exact ⟨rfl, HB35.out⟩
          · have hke' : y.key.toList.isEmpty = false := by simpa using hke
            go_wp2
            go_roundw
            case rel => exact ⟨k + 1, by omega, by go_num, HSET.out, HAP2.out, HB5.out.setCell (p := ⟨g, k * 4 + 3, none⟩) hg0 _⟩
            case measure => simp [intOf]; omega
      · obtain rfl : mm = k := by omega
        have hfin := HO5.out
        rw [mapTo_full _ _ _ (by have := HTL.out; omega)] at hfin
        have ha5 := HA5.out
        rw [List.take_of_length_le (by have := HTL.out; omega)] at ha5
        obtain ⟨C, hC⟩ : ∃ C, C = t.map zeroP := ⟨_, rfl⟩
        rw [← hC] at hfin
        have hCl : C.length = mm := by rw [hC, List.length_map]; exact HTL.out
        have hCa : ∀ s ∈ C, 0 < s.adr.size := fun s hs => by rw [hC] at hs; obtain ⟨y, hy, rfl⟩ := List.mem_map.1 hs; exact ha5 y hy
        have hCf : ∀ s ∈ C, -9223372036854775808 ≤ s.pow ∧ s.pow ≤ 9223372036854775807 := fun s hs => by rw [hC] at hs; obtain ⟨y, hy, rfl⟩ := List.mem_map.1 hs; have := HTF.out y hy; simp only [Sd.fits] at this; exact this.2.2.1
        have HF := Lib.hid (Rd.of_own hfin); have HCL := Lib.hid hCl; have HCA := Lib.hid hCa; have HCF := Lib.hid hCf
        clear hfin ha5 hC hCl hCa hCf HO5 HA5
        have z5 := HB35.out.size
        have KI := Lib.hid (imade_any C A4 mm c4 wr HF.out (by omega) HCA.out (by omega) T0 v0 ((HB35.out.cell (p := ⟨0, 0, none⟩) (by show 0 < _; omega)).trans HG.out))
        go_wp2_with fail
        refine KI.out.mono ?_
        rintro e w6 ⟨hb6, hcase⟩
        have z6 := hb6.size
        have HB6 := Lib.hid hb6
        have HB7 := Lib.hid (HB35.out.trans (hb6.mono z5))
        have KT := Lib.hid (theirs_any C A4 mm c4 w6 ((HF.out.below hb6).more hb6.size) (by omega))
        have KS := Lib.hid (fun w7 A7 c7 (ho7 : w7.ownsRow w6.heap.size 57 4 (.slice A7 mm c7) mm (cellsOf C)) => smade_any C A7 mm c7 w7 (Rd.of_own ho7) (by omega) (own_capE ho7) HCF.out)
        clear KI hb6
        rcases hcase with ⟨hc0, A6, c6, rfl⟩ | ⟨hc0, hok, A6, c6, rfl, hr6⟩ | ⟨hc0, hok, rfl⟩
        · have HC0 := Lib.hid hc0; clear hc0
          go_wp2_with fail
          refine KT.out.mono ?_
          rintro e w7 ⟨A7, c7, rfl, ho7, hb7⟩
          have HB8 := Lib.hid (HB7.out.trans (hb7.mono HB7.out.size))
          have K := Lib.hid (KS.out w7 A7 c7 ho7)
          clear ho7 hb7
          go_wp2_with fail
          refine K.out.mono ?_
          rintro e w8 ⟨hb8, ⟨hd0, A9, c9, rfl⟩ | ⟨hd0, hdk, A9, c9, rfl, hr9⟩ | ⟨hd0, hdk, A9, m9, c9, rfl⟩⟩
          · have HB9 := Lib.hid (HB8.out.trans (hb8.mono HB8.out.size))
            have KM := Lib.hid (same_any [] A6 A9 0 c6 c9 w8 (Rd.nil _ _ _ _) (Rd.nil _ _ _ _) (by omega))
            clear hb8 hd0
            go_wp2_with (go_at_call 14; refine KM.out.mono ?_; rintro e w9 ⟨rfl, hb9⟩; have HB10 := Lib.hid (HB9.out.trans (hb9.mono HB9.out.size)); clear hb9)
            (try go_ret)
            exact ⟨rfl, HB10.out⟩
          · exact absurd HC0.out hd0
          · exact absurd HC0.out hd0
        · have HC0 := Lib.hid hc0; have HOK := Lib.hid hok; have HR6 := Lib.hid hr6; clear hc0 hok hr6
          go_wp2_with fail
          refine KT.out.mono ?_
          rintro e w7 ⟨A7, c7, rfl, ho7, hb7⟩
          have HB8 := Lib.hid (HB7.out.trans (hb7.mono HB7.out.size)); have HB7' := Lib.hid hb7
          have K := Lib.hid (KS.out w7 A7 c7 ho7)
          clear ho7 hb7
          go_wp2_with fail
          refine K.out.mono ?_
          rintro e w8 ⟨hb8, ⟨hd0, A9, c9, rfl⟩ | ⟨hd0, hdk, A9, c9, rfl, hr9⟩ | ⟨hd0, hdk, A9, m9, c9, rfl⟩⟩
          · exact absurd hd0 HC0.out
          · have HB9 := Lib.hid (HB8.out.trans (hb8.mono HB8.out.size))
            have hbb := HB7'.out.trans (hb8.mono HB7'.out.size)
            have hml : (madeO C).length ≤ 60 := by have := madeO_len C; have := HCL.out; omega
            have KM := Lib.hid (same_any (madeO C) A6 A9 _ c6 c9 w8 ((HR6.out.below hbb).more hbb.size) hr9 (by omega))
            have hsame : ((madeP C).toList == (madeP C).toList) = true := by simp
            clear hb8 hd0 hdk hr9 hbb
            go_wp2_with (go_at_call 14; refine KM.out.mono ?_; rintro e w9 ⟨rfl, hb9⟩; have HB10 := Lib.hid (HB9.out.trans (hb9.mono HB9.out.size)); clear hb9)
            (try go_ret)
            exact ⟨rfl, HB10.out⟩
          · exact absurd HOK.out hdk
        · have HC0 := Lib.hid hc0; have HOK := Lib.hid hok; clear hc0 hok
          go_wp2_with fail
          refine KT.out.mono ?_
          rintro e w7 ⟨A7, c7, rfl, ho7, hb7⟩
          have HB8 := Lib.hid (HB7.out.trans (hb7.mono HB7.out.size))
          have K := Lib.hid (KS.out w7 A7 c7 ho7)
          clear ho7 hb7
          go_wp2_with fail
          refine K.out.mono ?_
          rintro e w8 ⟨hb8, ⟨hd0, A9, c9, rfl⟩ | ⟨hd0, hdk, A9, c9, rfl, hr9⟩ | ⟨hd0, hdk, A9, m9, c9, rfl⟩⟩
          · exact absurd hd0 HC0.out
          · exact absurd hdk HOK.out
          · have HB9 := Lib.hid (HB8.out.trans (hb8.mono HB8.out.size))
            clear hb8 hd0 hdk
            go_wp2
            (try go_ret)
            exact ⟨rfl, HB9.out⟩
end Go.Proofs.YtikikddkhikfkaaGreatDoor
