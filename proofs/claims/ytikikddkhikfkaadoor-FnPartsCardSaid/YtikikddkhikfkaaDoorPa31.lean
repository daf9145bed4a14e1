/-
  A validator as a message: simpleValidatorBytes, Validator.Bytes: walks. By the session. The sum of a set of validators: ValidatorSet.Hash: the walk. By the session.
-/
import Derived.Test.YtikikddkhikfkaaDoorPa29
import Derived.Test.YtikikddkhikfkaaDoorPa21
import Derived.Test.YtikikddkhikfkaaDoorPa30
set_option linter.all false
namespace Go.Proofs.YtikikddkhikfkaaDoor
open Go.RowKit

/-- a seat as a message: its key within a key, and its power -/
def seatB (x : Sd) : List UInt8 := msgB 1 (msgB 1 x.key.data.toList) ++ numB 2 (u64 x.pow)
theorem seatB_length (x : Sd) (h : x.key.size ≤ 10000000000) : (seatB x).length ≤ 40 + x.key.size := by
  unfold seatB
  have e : x.key.data.toList.length = x.key.size := rfl
  have h1 := msgB_length 1 x.key.data.toList (by omega)
  have h2 := msgB_length 1 (msgB 1 x.key.data.toList) (by omega)
  have h3 := numB_length 2 (u64 x.pow) (u64_lt _)
  rw [List.length_append]; omega
theorem byt_rd {w : World} {A : Option Addr} {s : ByteArray} (h : Byt w A s) : Rd w w.heap.size 1 A s.size (bc s.data.toList) := by
  obtain ⟨g, rfl, hg, hc⟩ := h.cells
  refine ⟨by rw [bc_length, Nat.mul_one]; rfl, fun j u hu => ?_⟩
  have hj : j < s.data.toList.length := by have := (List.getElem?_eq_some_iff.1 hu).1; rw [bc_length] at this; exact this
  refine ⟨_, rfl, hg, ?_⟩
  rw [add_flat, Nat.zero_add, hc j hj]
  rw [bc_get (List.getElem?_eq_getElem hj)] at hu
  exact hu
set_option maxRecDepth 100000 in
set_option maxHeartbeats 1600000 in
theorem svb_any (K A : Option Addr) (n d m c : Nat) (key : List UInt8) (pow : Int) (w : World) (hr : Rd w w.heap.size 1 K n (bc key)) (hn : n ≤ 10000000000) (hK : ∀ ad, K = some ad → ad.block < w.heap.size) :
    Calls Tryd.prog 104 #[.iface 153 (.agg #[.slice K n d, .slice A m c, .bool false]), .int .i64 pow] w (MadeQ w (msgB 1 (msgB 1 key) ++ numB 2 (u64 pow))) := by
  have hkl := hr.len1
  have HR := Lib.hid hr; have HN := Lib.hid (And.intro hn hkl); have HK := Lib.hid hK
  have mb := method_bytes
  have hw : IntKind.u64.wrap pow = ((u64 pow : Nat) : Int) := by rw [u64_cast]; simp [IntKind.wrap, IntKind.bits, IntKind.signed]
  have hu := u64_lt pow
  have HU := Lib.hid hu
  clear hr hn hkl hK hu
  go_enter Tryd.func104, Tryd.ntmps104
  go_wp2_with fail
  refine (kbytes_any K A n d m c w).mono ?_
  rintro e w1 ⟨rfl, hb1⟩
  have HB1 := Lib.hid hb1
  have HR1 := Lib.hid (HR.out.below hb1).sized
  clear hb1
  go_wp2_with fail
  refine (putMsg_any w1.heap.size 0 0 1 none [] K n d key w1 (Own8.nil _ _) (Nat.le_refl _) (by decide) HR1.out (Apart8.nil _ _ _) (fun ad e => Nat.lt_of_lt_of_le (HK.out ad e) HB1.out.size) (by have := HN.out; omega) (by decide)).mono ?_
  rintro e w2 ⟨A2, m2, c2, rfl, ho2, hg2⟩
  have hB2 : Below w.heap.size w w2 := HB1.out.grown hg2.1 HB1.out.size (by intro k e; cases e)
  have HO2 := Lib.hid ho2; have HB2 := Lib.hid hB2
  have HL2 : Hid (m2 = (msgB 1 key).length) := Lib.hid (by have := ho2.len; simpa using this)
  have HML := Lib.hid (msgB_length 1 key (by have := HN.out; omega))
  clear ho2 hg2 hB2
  go_wp2_with fail
  refine (putMsg_any w2.heap.size 0 0 1 none [] A2 m2 c2 (msgB 1 key) w2 (Own8.nil _ _) (Nat.le_refl _) (by decide) (by have h1 := HO2.out.rd; rw [List.nil_append] at h1; exact h1) (Apart8.nil _ _ _) (fun ad e => (HO2.out.at_ ad.block (by rw [e]; rfl)).2) (by have := HN.out; have := HL2.out; have := HML.out; omega) (by decide)).mono ?_
  rintro e w3 ⟨A3, m3, c3, rfl, ho3, hg3⟩
  have hB3 : Below w.heap.size w w3 := HB2.out.grown hg3.1 HB2.out.size (by intro k e; cases e)
  have HO3 := Lib.hid ho3; have HB3 := Lib.hid hB3; have HS3 := Lib.hid (Nat.le_trans HB2.out.size hg3.size)
  have HL3 : Hid (m3 = (msgB 1 (msgB 1 key)).length) := Lib.hid (by have := ho3.len; simpa using this)
  have HML3 := Lib.hid (msgB_length 1 (msgB 1 key) (by have := HN.out; have := HML.out; omega))
  have HS23 := Lib.hid hg3.size
  clear ho3 hg3 hB3
  go_wp2_with fail
  refine (putNum_any w2.heap.size m3 c3 2 A3 ([] ++ msgB 1 (msgB 1 key)) (u64 pow) w3 HO3.out HS23.out (by have := HN.out; have := HL3.out; have := HML.out; have := HML3.out; omega) HU.out (by decide)).mono ?_
  rintro e w4 ⟨A4, m4, c4, rfl, ho4, hg4⟩
  have hB4 : Below w.heap.size w w4 := HB3.out.grown hg4.1 HB3.out.size (fun k e => Nat.le_trans HB2.out.size (HO3.out.at_ k e).1)
  have HO4 := Lib.hid ho4; have HB4 := Lib.hid hB4
  clear ho4 hg4 hB4
  go_wp2_with fail
  go_ret
  exact ⟨A4, m4, c4, rfl, HO4.out.more HB2.out.size, HB4.out⟩
set_option maxRecDepth 100000 in
set_option maxHeartbeats 1600000 in
theorem valBytes_any (b : Nat) (t : Tv) (w : World) (h : Blk w b 157 t.val) (hok : t.ok w) (hk : t.x.key.size ≤ 10000000000) :
    Calls Tryd.prog 81 #[ptrTo b] w (MadeQ w (seatB t.x)) := by
  obtain ⟨_, c1, c2, _⟩ := t.val_cells h
  have hrd := byt_rd hok.2
  have hlt : ∀ ad, t.K = some ad → ad.block < w.heap.size := by
    obtain ⟨g, e, hg, _⟩ := hok.2.cells
    intro ad e2; rw [e] at e2; cases e2; exact hg
  have HC := Lib.hid (svb_any t.K t.A t.x.key.size t.d t.x.adr.size t.c t.x.key.data.toList t.x.pow w.drew hrd hk hlt)
  unfold ptrTo
  clear h hok hrd hlt hk
  go_enter Tryd.func81, Tryd.ntmps81
  go_wp2_with fail
  go_region_with (go_at_call 104; refine HC.out.mono ?_; rintro e w1 ⟨A1, m1, cc1, rfl, ho1, hb1⟩)
  all_goals
    have HO1 := Lib.hid ho1; have HB1 := Lib.hid hb1
    clear ho1 hb1
    go_wp2_with fail
    go_ret
    exact ⟨A1, m1, cc1, rfl, HO1.out, ⟨HB1.out.os, HB1.out.tape, HB1.out.output, HB1.out.size, HB1.out.block⟩⟩
end Go.Proofs.YtikikddkhikfkaaDoor

set_option linter.all false
namespace Go.Proofs.YtikikddkhikfkaaDoor
open Go.RowKit

/-- bytes of a list of slices that a call makes: they lie behind block lo -/
def SbIn (lo : Nat) (w : World) (x : Sb) : Prop := Rd w w.heap.size 1 x.a x.s.length (bc x.s) ∧ x.s.length ≤ x.c ∧ ∀ ad, x.a = some ad → lo < ad.block ∧ ad.block < w.heap.size
theorem SbIn.below {lo : Nat} {w w' : World} {x : Sb} (h : SbIn lo w x) (hb : Below w.heap.size w w') : SbIn lo w' x :=
  ⟨(h.1.below hb).sized, h.2.1, fun ad e => ⟨(h.2.2 ad e).1, Nat.lt_of_lt_of_le (h.2.2 ad e).2 hb.size⟩⟩
theorem SbIn.put {lo g : Nat} {w : World} {x : Sb} (h : SbIn lo w x) (hg : g ≤ lo) (i : Nat) (v : Value) : SbIn lo (w.setCell ⟨g, i, none⟩ v) x := by
  have hs : (w.setCell ⟨g, i, none⟩ v).heap.size = w.heap.size := by simp [World.setCell]
  refine ⟨?_, h.2.1, fun ad e => by rw [hs]; exact h.2.2 ad e⟩
  have h1 := h.1.grew (grown_put w g i v) (fun ad e => by intro e2; injection e2 with e2; have := (h.2.2 ad e).1; omega)
  rw [hs]; exact h1
theorem SbIn.of_own {lo B m c : Nat} {w : World} {A : Option Addr} {s : List UInt8} (h : Own8 w B A m c s) (hB : lo < B) : SbIn lo w ⟨A, c, s⟩ ∧ (⟨A, c, s⟩ : Sb).cell = .slice A m c := by
  have hl := h.len
  refine ⟨⟨?_, ?_, fun ad e => ?_⟩, ?_⟩
  · have h1 := h.rd; rw [hl] at h1; exact h1
  · have := h.cap; show s.length ≤ c; omega
  · have := h.at_ ad.block (by show (Value.slice A m c).ownBlock = _; rw [show A = some ad from e]; rfl)
    exact ⟨by omega, this.2⟩
  · show Value.slice A s.length c = _; rw [hl]
theorem rdB_of {lo : Nat} {w : World} {B n : Nat} {A : Option Addr} {l : List Sb} (h : Rd w B 1 A n (l.map Sb.cell)) (hl : ∀ x ∈ l, SbIn lo w x) (hB : B ≤ w.heap.size) : RdB w w.heap.size A n l :=
  ⟨h.more hB, fun x hx => ⟨(hl x hx).1, (hl x hx).2.1, fun ad e => ((hl x hx).2.2 ad e).2⟩⟩
theorem infoBs : (Tryd.prog.info? 22).map (fun i => (i.zero, i.size, i.bytes)) = some (some (.slice none 0 0), 1, 24) := by kernel_rfl
/-- a list's first places overwritten -/
def overS (new old : List Value) : List Value := new ++ old.drop new.length
theorem overS_set (new old : List Value) (v : Value) (h : new.length < old.length) : (overS new old).set new.length v = overS (new ++ [v]) old := by
  unfold overS
  rw [List.set_append_right _ _ (Nat.le_refl _), Nat.sub_self, List.drop_eq_getElem_cons h, List.set_cons_zero, List.length_append]
  simp
theorem overS_full (new old : List Value) (h : old.length ≤ new.length) : overS new old = new := by unfold overS; rw [List.drop_of_length_le h, List.append_nil]

set_option maxRecDepth 100000 in
set_option maxHeartbeats 3200000 in
theorem vhash2_any (lo g : Nat) (A : Option Addr) (c : Nat) (bs : List Nat) (ts : List Tv) (prop : Value) (tot : Int) (same : Bool) (w : World) (h : VSet w lo g A c bs ts prop tot same) (hn : bs.length ≤ 1000000) (hk : ∀ t ∈ ts, t.x.key.size ≤ 10000000000) (hK : Kw w) :
    Calls Tryd.prog 49 #[ptrTo g] w fun e w' => ∃ A' c', e = .returned (.slice A' 32 c') ∧ Fresh32 w w' A' c' (rootL (ts.map fun t => seatB t.x)) ∧ Below w.heap.size w w' := by
  obtain ⟨i0, hi0, hz0, hz1, hz2⟩ := info_parts infoBs
  have HI := Lib.hid hi0; have HZ0 := Lib.hid hz0; have HZ1 := Lib.hid hz1; have HZ2 := Lib.hid hz2
  clear hi0 hz0 hz1 hz2
  have h0 : w.cell? ⟨g, 0, none⟩ = some (.slice A bs.length c) := h.head.cell 0
  have HK := Lib.hid hk; have HKW := Lib.hid hK
  have H := Lib.hid h; clear h hk hK
  unfold ptrTo
  go_enter Tryd.func49, Tryd.ntmps49
  have hgl : g < w.heap.size := H.out.head.lt
  go_wp2_with (refine wpList_make_full _ rfl (.tmp 10) (.tmp 10) 61 rfl w.heap.size 22 i0 _ 1 Tryd.underlying61 HI.out HZ0.out HZ1.out .i64 .i64 bs.length bs.length bs.length rfl rfl rfl rfl ?b2 ?b3 (Nat.le_refl _) ?_; (case b2 => rw [HZ2.out]; omega); (case b3 => simp only [maxLen]; omega); intro w1 hown hg1; have HO1 := Lib.hid hown; have HB1 := Lib.hid ((Below.refl w.heap.size w).grown hg1 (Nat.le_refl _) (by simp)); have h01 : w1.cell? ⟨g, 0, none⟩ = some (.slice A bs.length c) := (HB1.out.cell (p := ⟨g, 0, none⟩) hgl).trans h0; clear hown hg1)
  generalize (madeCells (Value.slice none 0 0).cells (bs.length * 1)).toList = old at *
  have hold : old.length = bs.length := by have := HO1.out.1; simpa using this
  have HOLD := Lib.hid hold; clear hold h0 h01
  go_loopw [17] (fun i wr => ∃ (k : Nat) (ls : List Sb), k ≤ bs.length ∧ i = .int .i64 k ∧ Hid (ls.length = k ∧ ls.map Sb.s = (ts.take k).map (fun t => seatB t.x)) ∧ Hid (wr.ownsRow w.heap.size 22 1 (.slice (some ⟨w.heap.size, 0, none⟩) bs.length bs.length) bs.length (overS (ls.map Sb.cell) old)) ∧ Hid (∀ x ∈ ls, SbIn w.heap.size wr x) ∧ Hid (Below w.heap.size w wr)) (fun i _ => bs.length - (intOf i).toNat)
  case atStart => exact ⟨0, [], Nat.zero_le _, rfl, Lib.hid ⟨rfl, by simp⟩, (by have h1 := HO1.out; show World.ownsRow _ _ _ _ _ _ _; simpa [overS] using h1), (fun x hx => by cases hx), HB1.out⟩
  case round =>
    obtain ⟨k, ls, hk, rfl, HLS, HO, HIN, HB⟩ := hrel
    by_cases hlt : k < bs.length
    · have hv := H.out.keep (KeepV.of_below lo HB.out (Nat.le_refl _))
      obtain ⟨b, t, hb, ht⟩ := hv.at_ hlt
      obtain ⟨r, hr, _, hp⟩ := hv.ptr hb
      subst hr
      obtain ⟨_, hbv, hok⟩ := hv.vals k b t hb ht
      have kc := valBytes_any b t wr hbv hok (HK.out t (List.mem_of_getElem? ht))
      unfold ptrTo at kc
      have KC := Lib.hid kc
      have HTK := Lib.hid (show (ts.take (k + 1)).map (fun t => seatB t.x) = (ts.take k).map (fun t => seatB t.x) ++ [seatB t.x] by
        rw [List.take_succ_eq_append_getElem (by have := (List.getElem?_eq_some_iff.1 ht).1; exact this), List.map_append, (List.getElem?_eq_some_iff.1 ht).2]; rfl)
      have hbl : w.heap.size < wr.heap.size := by
        have h1 := HO.out
        rcases h1.2 with ⟨h2, _⟩ | ⟨g2, cap, cur, h2, _, h3, _⟩
        · cases h2
        · injection h2 with h2; injection h2 with h2; injection h2 with h2; subst h2; exact lt_of_heap h3
      have HBL := Lib.hid hbl
      clear kc hv hb ht hbv hok hbl
      go_wp2_with fail
      refine KC.out.mono ?_
      rintro e w5 ⟨A5, m5, c5, rfl, ho5, hb5⟩
      obtain ⟨hin5, hcell⟩ := SbIn.of_own ho5 HBL.out
      obtain ⟨x5, hx5⟩ : ∃ x5 : Sb, x5 = ⟨A5, c5, seatB t.x⟩ := ⟨_, rfl⟩
      rw [← hx5] at hin5 hcell
      have hxs : x5.s = seatB t.x := by rw [hx5]
      have hst := own_below HO.out hb5 (Nat.le_refl _)
      have hf := own_free hst
      have hlk : (ls.map Sb.cell).length = k := by rw [List.length_map]; exact HLS.out.1
      have hko : k < old.length := by rw [HOLD.out]; exact hlt
      have hgk : (overS (ls.map Sb.cell) old)[k]? = some old[k] := by
        unfold overS
        rw [List.getElem?_append_right (by omega), hlk, Nat.sub_self, List.getElem?_drop]
        simp
      have hck := hst.cells (g := w.heap.size) rfl k _ hgk
      rw [add_flat, Nat.zero_add] at hck
      have hsto := (hst.stored k (.slice A5 m5 c5)).1
      have hov : (overS (ls.map Sb.cell) old).set k (.slice A5 m5 c5) = overS ((ls ++ [x5]).map Sb.cell) old := by
        have := overS_set (ls.map Sb.cell) old (.slice A5 m5 c5) (by omega)
        rw [hlk] at this
        rw [this, List.map_append, List.map_cons, hcell]; rfl
      rw [hov] at hsto
      generalize old[k] = ov at *
      have HSTO := Lib.hid hsto; have HIN5 := Lib.hid hin5; have HB5 := Lib.hid hb5; have HXS := Lib.hid hxs
      clear hst hsto hov hgk hlk hko hin5 hb5 ho5 hcell hx5 hxs
      go_wp2_with fail
      go_roundw
      case rel =>
        refine ⟨k + 1, ls ++ [x5], by omega, by go_num, Lib.hid ⟨?_, ?_⟩, HSTO.out, Lib.hid ?_, (HB.out.trans (HB5.out.mono HB.out.size)).setCell (p := ⟨w.heap.size, k, none⟩) (Nat.le_refl _) _⟩
        · rw [List.length_append, HLS.out.1]; rfl
        · rw [List.map_append, HLS.out.2, HTK.out, List.map_cons, List.map_nil, HXS.out]
        · intro x hx
          rw [List.mem_append, List.mem_singleton] at hx
          rcases hx with hx | hx
          · exact ((HIN.out x hx).below HB5.out).put (Nat.le_refl _) _ _
          · rw [hx]; exact HIN5.out.put (Nat.le_refl _) _ _
      case measure => simp [intOf]; omega
    · have hkn : k = bs.length := by omega
      subst hkn
      have hfull : overS (ls.map Sb.cell) old = ls.map Sb.cell := overS_full _ _ (by rw [List.length_map, HLS.out.1, HOLD.out]; exact Nat.le_refl _)
      have hrow := HO.out
      rw [hfull] at hrow
      have hrd := rdB_of (Rd.of_own hrow) HIN.out (Nat.le_refl _)
      have hmap : ls.map Sb.s = ts.map (fun t => seatB t.x) := by rw [HLS.out.2, List.take_of_length_le (by have := H.out.len; omega)]
      have hbig : ∀ x ∈ ls, x.s.length ≤ 35184372088832 := fun x hx => by
        have h1 : x.s ∈ ls.map Sb.s := List.mem_map_of_mem hx
        rw [hmap] at h1
        obtain ⟨t, ht, e⟩ := List.mem_map.1 h1
        have h2 := seatB_length t.x (HK.out t ht)
        have h3 := HK.out t ht
        rw [← e]; omega
      have HRD := Lib.hid hrd; have HMAP := Lib.hid hmap; have HBIG := Lib.hid hbig
      clear hfull hrow hrd hmap hbig
      go_wp2_with fail
      refine (treeRoot_any (some ⟨w.heap.size, 0, none⟩) bs.length bs.length ls wr HRD.out (Nat.le_refl _) (by omega) HBIG.out (HKW.out.belowS HB.out)).mono ?_
      rintro e w6 ⟨A6, c6, rfl, hf6, hb6⟩
      have HF6 := Lib.hid (hf6.more HB.out.size); have HB6 := Lib.hid (HB.out.trans (hb6.mono HB.out.size))
      clear hf6 hb6
      go_wp2_with fail
      go_ret
      refine ⟨A6, c6, rfl, ?_, HB6.out⟩
      rw [← HMAP.out]; exact HF6.out
end Go.Proofs.YtikikddkhikfkaaDoor
