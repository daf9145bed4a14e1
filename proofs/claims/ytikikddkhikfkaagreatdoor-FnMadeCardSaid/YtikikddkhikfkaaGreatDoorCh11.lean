/-
  A validator of a set by its address: GetByAddressMut, HasAddress, and the specification's at: walks. By the session. Changes of a set against the set: how many are new, what a change adds, whether those who go are there, the new priorities: walks. By the session. verifyRemovals and errors.New: walks. By the session. computeNewPriorities: the walk. By the session. spec.at lays no memory: its walk. By the session.
-/
import Derived.Test.YtikikddkhikfkaaGreatDoorCh2
import Derived.Test.YtikikddkhikfkaaGreatDoorCh3
import Derived.Handy
import Derived.BigQuiet
set_option linter.all false
namespace Go.Proofs.YtikikddkhikfkaaGreatDoor
open Go.RowKit

/-- is it this address? -/
def isA (a : ByteArray) (x : Sd) : Bool := x.adr.toList == a.toList
/-- the place of an address in a list; below 0: it is not there -/
def atL (a : ByteArray) (l : List Sd) : Int := findAt (isA a) l 0
theorem findAt_cases {α : Type} (p : α → Bool) (l : List α) : ∀ k : Nat, (findAt p l k = -1 ∧ ∀ x ∈ l, p x = false) ∨ ∃ i x, findAt p l k = ((k + i : Nat) : Int) ∧ l[i]? = some x ∧ p x = true := by
  induction l with
  | nil => intro k; exact .inl ⟨rfl, fun x hx => by simp at hx⟩
  | cons y r ih =>
    intro k
    simp only [findAt]
    by_cases h : p y = true
    · rw [if_pos h]; exact .inr ⟨0, y, rfl, rfl, h⟩
    · rw [if_neg h]
      rcases ih (k + 1) with ⟨h1, h2⟩ | ⟨i, x, h1, h2, h3⟩
      · exact .inl ⟨h1, fun x hx => by
          rcases List.mem_cons.1 hx with rfl | hx
          · simpa using h
          · exact h2 x hx⟩
      · exact .inr ⟨i + 1, x, by rw [h1]; congr 1; omega, by simpa using h2, h3⟩
theorem atL_cases (a : ByteArray) (l : List Sd) : (atL a l = -1 ∧ ∀ x ∈ l, isA a x = false) ∨ ∃ (i : Nat) (x : Sd), atL a l = (i : Int) ∧ l[i]? = some x ∧ isA a x = true := by
  rcases findAt_cases (isA a) l 0 with h | ⟨i, x, h1, h2, h3⟩
  · exact .inl h
  · exact .inr ⟨i, x, by unfold atL; rw [h1, Nat.zero_add], h2, h3⟩
/-- the pointer of a place -/
def ptrAt (bs : List Nat) (k : Int) : Value := if k < 0 then .pointer none else ptrTo (bs.getD k.toNat 0)
theorem ptrAt_some {bs : List Nat} {k b : Nat} (h : bs[k]? = some b) : ptrAt bs (k : Int) = .pointer (some ⟨b, 0, none⟩) := by
  unfold ptrAt ptrTo
  rw [if_neg (by omega), Int.toNat_natCast, List.getD_eq_getElem?_getD, h]; rfl
set_option maxRecDepth 100000 in
set_option maxHeartbeats 3200000 in
theorem getMut_any (lo g : Nat) (A : Option Addr) (c : Nat) (bs : List Nat) (ts : List Tv) (prop : Value) (tot : Int) (same : Bool) (w : World) (h : VSet w lo g A c bs ts prop tot same) (hn : bs.length ≤ 1000000) (a : ByteArray) (Aa : Option Addr) (ca : Nat) (ha : Byt w Aa a) :
    Calls Tryz.prog 123 #[ptrTo g, .slice Aa a.size ca] w fun e w' => e = .returned (.tuple #[.int .i32 (atL a (ts.map Tv.x)), ptrAt bs (atL a (ts.map Tv.x))]) ∧ w = w' := by
  unfold ptrTo
  have h0 : w.cell? ⟨g, 0, none⟩ = some (.slice A bs.length c) := h.head.cell 0
  have HLL : Hid ((ts.map Tv.x).length = bs.length) := by show _ = _; rw [List.length_map]; exact h.len
  have H := Lib.hid h; have HA := Lib.hid ha; clear h ha
  go_enter Tryz.func123, Tryz.ntmps123
  go_wp2
  go_loopw [13] (fun i wr => ∃ k : Nat, k ≤ bs.length ∧ i = .int .i64 k ∧ Hid (findAt (isA a) ((ts.map Tv.x).drop k) k = atL a (ts.map Tv.x)) ∧ Hid (w = wr)) (fun i _ => bs.length - (intOf i).toNat)
  case atStart => exact ⟨0, Nat.zero_le _, rfl, rfl, rfl⟩
  case round =>
    obtain ⟨k, hk, rfl, HF, HW⟩ := hrel
    have hW := HW.out
    subst hW
    by_cases hlt : k < bs.length
    · obtain ⟨b, t, hb, ht⟩ := H.out.at_ hlt
      obtain ⟨r, rfl, _, hp⟩ := H.out.ptr hb
      obtain ⟨_, hbv, hok⟩ := H.out.vals k b t hb ht
      obtain ⟨c0, c1, c2, c3⟩ := t.val_cells hbv
      have hxk : (ts.map Tv.x)[k]? = some t.x := by rw [List.getElem?_map, ht]; rfl
      have hd := findAt_drop (isA a) (ts.map Tv.x) k _ hxk
      rw [HF.out] at hd
      have hE := bequal_any t.x.adr a t.A Aa t.c ca w hok.1 HA.out
      have e : (t.x.adr.toList == a.toList) = isA a t.x := rfl
      rw [e] at hE
      have HB := Lib.hid hb; have HD := Lib.hid hd; have HE := Lib.hid hE
      clear hb ht hbv hok hxk hd hE e HF c1 c2 c3
      have hw32 : IntKind.i32.wrap (k : Int) = k := by rw [IntKind.wrap_i32]; omega
      cases hs : isA a t.x with
      | true =>
        rw [hs] at HD HE
        go_wp2_with fail
        refine HE.out.mono ?_
        rintro e w1 ⟨rfl, rfl⟩
        go_wp2
        go_returns
        refine ⟨?_, rfl⟩
        have hd := HD.out
        simp only [if_true] at hd
        rw [hd, ptrAt_some HB.out]
        rfl
      | false =>
        rw [hs] at HD HE
        go_wp2_with fail
        refine HE.out.mono ?_
        rintro e w1 ⟨rfl, rfl⟩
        go_wp2
        go_roundw
        case rel => exact ⟨k + 1, by omega, by go_num, by have hd := HD.out; simp only [Bool.false_eq_true, if_false] at hd; exact hd.symm, trivial⟩
        case measure => simp [intOf]; omega
    · obtain rfl : k = bs.length := by omega
      have hd : atL a (ts.map Tv.x) = -1 := by
        rw [← HF.out, List.drop_of_length_le (by rw [HLL.out]; exact Nat.le_refl _)]; rfl
      have HD := Lib.hid hd; clear hd
      go_wp2
      go_returns
      exact ⟨by rw [HD.out]; rfl, rfl⟩
set_option maxRecDepth 100000 in
set_option maxHeartbeats 3200000 in
theorem has_any (lo g : Nat) (A : Option Addr) (c : Nat) (bs : List Nat) (ts : List Tv) (prop : Value) (tot : Int) (same : Bool) (w : World) (h : VSet w lo g A c bs ts prop tot same) (hn : bs.length ≤ 1000000) (a : ByteArray) (Aa : Option Addr) (ca : Nat) (ha : Byt w Aa a) :
    Calls Tryz.prog 131 #[ptrTo g, .slice Aa a.size ca] w fun e w' => e = .returned (.bool (decide (0 ≤ atL a (ts.map Tv.x)))) ∧ w = w' := by
  unfold ptrTo
  have h0 : w.cell? ⟨g, 0, none⟩ = some (.slice A bs.length c) := h.head.cell 0
  have HLL : Hid ((ts.map Tv.x).length = bs.length) := by show _ = _; rw [List.length_map]; exact h.len
  have H := Lib.hid h; have HA := Lib.hid ha; clear h ha
  go_enter Tryz.func131, Tryz.ntmps131
  go_wp2
  go_loopw [12] (fun i wr => ∃ k : Nat, k ≤ bs.length ∧ i = .int .i64 k ∧ Hid (findAt (isA a) ((ts.map Tv.x).drop k) k = atL a (ts.map Tv.x)) ∧ Hid (w = wr)) (fun i _ => bs.length - (intOf i).toNat)
  case atStart => exact ⟨0, Nat.zero_le _, rfl, rfl, rfl⟩
  case round =>
    obtain ⟨k, hk, rfl, HF, HW⟩ := hrel
    have hW := HW.out
    subst hW
    by_cases hlt : k < bs.length
    · obtain ⟨b, t, hb, ht⟩ := H.out.at_ hlt
      obtain ⟨r, rfl, _, hp⟩ := H.out.ptr hb
      obtain ⟨_, hbv, hok⟩ := H.out.vals k b t hb ht
      obtain ⟨c0, c1, c2, c3⟩ := t.val_cells hbv
      have hxk : (ts.map Tv.x)[k]? = some t.x := by rw [List.getElem?_map, ht]; rfl
      have hd := findAt_drop (isA a) (ts.map Tv.x) k _ hxk
      rw [HF.out] at hd
      have hE := bequal_any t.x.adr a t.A Aa t.c ca w hok.1 HA.out
      have e : (t.x.adr.toList == a.toList) = isA a t.x := rfl
      rw [e] at hE
      have HD := Lib.hid hd; have HE := Lib.hid hE
      clear hb ht hbv hok hxk hd hE e HF c1 c2 c3
      cases hs : isA a t.x with
      | true =>
        rw [hs] at HD HE
        go_wp2_with fail
        refine HE.out.mono ?_
        rintro e w1 ⟨rfl, rfl⟩
        go_wp2
        go_ret
        refine ⟨ret_bool ?_, rfl⟩
        have hd := HD.out
        simp only [if_true] at hd
        rw [hd]; simp
      | false =>
        rw [hs] at HD HE
        go_wp2_with fail
        refine HE.out.mono ?_
        rintro e w1 ⟨rfl, rfl⟩
        go_wp2
        go_roundw
        case rel => exact ⟨k + 1, by omega, by go_num, by have hd := HD.out; simp only [Bool.false_eq_true, if_false] at hd; exact hd.symm, trivial⟩
        case measure => simp [intOf]; omega
    · obtain rfl : k = bs.length := by omega
      have hd : atL a (ts.map Tv.x) = -1 := by
        rw [← HF.out, List.drop_of_length_le (by rw [HLL.out]; exact Nat.le_refl _)]; rfl
      have HD := Lib.hid hd; clear hd
      go_wp2
      go_ret
      exact ⟨ret_bool (by rw [HD.out]; rfl), rfl⟩
set_option maxHeartbeats 1600000 in
theorem sat_any (l : List Sd) (A : Option Addr) (n c : Nat) (a : ByteArray) (w : World) (hr : Rd w w.heap.size 4 A n (cellsOf l)) (hn : n ≤ 1000000) :
    Calls Tryz.prog 37 #[.slice A n c, .string a] w fun e w' => e = .returned (.int .i64 (atL a l)) ∧ Below w.heap.size w w' := by
  have HL := Lib.hid hr.len
  have HR := Lib.hid hr; clear hr
  go_enter Tryz.func37, Tryz.ntmps37
  go_wp2
  go_loopw [8] (fun i wr => ∃ k : Nat, k ≤ n ∧ i = .int .i64 k ∧ Hid (findAt (isA a) (l.drop k) k = atL a l) ∧ Hid (Below w.heap.size w wr)) (fun i _ => n - (intOf i).toNat)
  case atStart => exact ⟨0, Nat.zero_le _, rfl, rfl, Below.refl _ _⟩
  case round =>
    obtain ⟨k, hk, rfl, HF, HW⟩ := hrel
    by_cases hlt : k < n
    · have hk' : k < l.length := by have := HL.out; omega
      have hx : l[k]? = some l[k] := List.getElem?_eq_getElem hk'
      obtain ⟨ad, rfl, _, c0, c1, c2, c3⟩ := (HR.out.below HW.out).seat hx
      have hd := findAt_drop (isA a) l k _ hx
      rw [HF.out] at hd
      generalize l[k] = x at *
      have HX := Lib.hid hx; have HD := Lib.hid hd; clear hx hd HF c1 c2 c3
      by_cases hs : x.adr.toList = a.toList
      · have hs' : isA a x = true := by unfold isA; simpa using hs
        rw [hs'] at HD
        have hsb : (x.adr.toList == a.toList) = true := hs'
        clear hs hs'
        go_wp2
        go_ret
        exact ⟨ret_int (by have hd := HD.out; simp only [if_true] at hd; exact hd.symm), HW.out⟩
      · have hs' : isA a x = false := by unfold isA; simpa using hs
        rw [hs'] at HD
        have hsb : (x.adr.toList == a.toList) = false := hs'
        clear hs hs'
        go_wp2
        go_roundw
        case rel => exact ⟨k + 1, by omega, by go_num, by have hd := HD.out; simp only [Bool.false_eq_true, if_false] at hd; exact hd.symm, HW.out⟩
        case measure => simp [intOf]; omega
    · obtain rfl : k = n := by omega
      have hd : atL a l = -1 := by
        rw [← HF.out, List.drop_of_length_le (by rw [← HL.out]; exact Nat.le_refl _)]; rfl
      have HD := Lib.hid hd; clear hd
      go_wp2
      go_ret
      exact ⟨ret_int HD.out.symm, HW.out⟩
end Go.Proofs.YtikikddkhikfkaaGreatDoor

set_option linter.all false
namespace Go.Proofs.YtikikddkhikfkaaGreatDoor
open Go.RowKit

/-- is nobody of this address in the set? -/
def isNewB (vals : List Sd) (u : Sd) : Bool := !(decide (0 ≤ atL u.adr vals))
/-- the seat of this address -/
def seatAt (vals : List Sd) (a : ByteArray) : Option Sd := if atL a vals < 0 then none else vals[(atL a vals).toNat]?
theorem seatAt_none {vals : List Sd} {a : ByteArray} (h : atL a vals = -1) : seatAt vals a = none := by unfold seatAt; rw [if_pos (by omega)]
theorem seatAt_some {vals : List Sd} {a : ByteArray} {i : Nat} {x : Sd} (h : atL a vals = (i : Int)) (hx : vals[i]? = some x) : seatAt vals a = some x := by unfold seatAt; rw [if_neg (by omega), h, Int.toNat_natCast, hx]
/-- what a change adds to the power -/
def deltaL (vals : List Sd) (u : Sd) : Int := match seatAt vals u.adr with
  | some v => u.pow - v.pow
  | none => u.pow
theorem VRow.validator {w : World} {lo : Nat} {A : Option Addr} {c : Nat} {bs : List Nat} {ts : List Tv} (h : VRow w lo A c bs ts) {k b : Nat} {t : Tv} (hb : bs[k]? = some b) (ht : ts[k]? = some t) : Blk w b 136 t.val ∧ t.ok w := (h.vals k b t hb ht).2
set_option maxRecDepth 100000 in
set_option maxHeartbeats 3200000 in
theorem numNew_any (lo g : Nat) (A : Option Addr) (c : Nat) (bs : List Nat) (ts : List Tv) (prop : Value) (tot : Int) (same : Bool) (w : World) (h : VSet w lo g A c bs ts prop tot same) (hn : bs.length ≤ 1000000) (lo' : Nat) (Au : Option Addr) (cu : Nat) (bu : List Nat) (tu : List Tv) (hu : VRow w lo' Au cu bu tu) (hnu : bu.length ≤ 1000000) :
    Calls Tryz.prog 100 #[.slice Au bu.length cu, ptrTo g] w fun e w' => e = .returned (.int .i64 (((tu.map Tv.x).filter (isNewB (ts.map Tv.x))).length : Nat)) ∧ w = w' := by
  have HLL : Hid (tu.length = bu.length) := hu.len
  have H := Lib.hid h; have HU := Lib.hid hu; clear h hu
  have KH := Lib.hid (fun (a : ByteArray) (Aa : Option Addr) (ca : Nat) (ha : Byt w Aa a) => has_any lo g A c bs ts prop tot same w H.out hn a Aa ca ha)
  unfold ptrTo at KH ⊢
  go_enter Tryz.func100, Tryz.ntmps100
  go_wp2
  go_loopw [5, 10] (fun v i wr => ∃ k : Nat, k ≤ bu.length ∧ i = .int .i64 k ∧ v = .int .i64 (((tu.map Tv.x).take k).filter (isNewB (ts.map Tv.x))).length ∧ Hid (w = wr)) (fun _ i _ => bu.length - (intOf i).toNat)
  case atStart => exact ⟨0, Nat.zero_le _, rfl, rfl, rfl⟩
  case round =>
    obtain ⟨k, hk, rfl, rfl, HW⟩ := hrel
    have hW := HW.out
    subst hW
    have hfl : (((tu.map Tv.x).take k).filter (isNewB (ts.map Tv.x))).length ≤ k := Nat.le_trans (List.length_filter_le _ _) (by rw [List.length_take]; omega)
    by_cases hlt : k < bu.length
    · obtain ⟨b, t, hb, ht⟩ := HU.out.at_ hlt
      obtain ⟨r, rfl, _, hp⟩ := HU.out.ptr hb
      obtain ⟨hbv, hok⟩ := HU.out.validator hb ht
      obtain ⟨c0, c1, c2, c3⟩ := t.val_cells hbv
      have hst : ((tu.map Tv.x).take (k + 1)).filter (isNewB (ts.map Tv.x)) = ((tu.map Tv.x).take k).filter (isNewB (ts.map Tv.x)) ++ (if isNewB (ts.map Tv.x) t.x then [t.x] else []) := by
        have hk' : k < (tu.map Tv.x).length := by rw [List.length_map, HLL.out]; exact hlt
        rw [List.take_succ_eq_append_getElem hk', List.filter_append]
        have e : (tu.map Tv.x)[k] = t.x := by
          have h1 := (List.getElem?_eq_some_iff.1 ht).2
          rw [List.getElem_map, h1]
        rw [e]
        congr 1
        cases hi : isNewB (ts.map Tv.x) t.x <;> simp [List.filter, hi]
      have hE := KH.out t.x.adr t.A t.c hok.1
      have hnb : isNewB (ts.map Tv.x) t.x = !(decide (0 ≤ atL t.x.adr (ts.map Tv.x))) := rfl
      generalize ((tu.map Tv.x).take k).filter (isNewB (ts.map Tv.x)) = fk at *
      have HST := Lib.hid hst; have HE := Lib.hid hE
      clear hb ht hbv hok hst hE c1 c2 c3
      cases hs : decide (0 ≤ atL t.x.adr (ts.map Tv.x)) with
      | true =>
        rw [hs] at HE hnb
        have HNB := Lib.hid hnb; clear hnb hs
        go_wp2_with fail
        refine HE.out.mono ?_
        rintro e w1 ⟨rfl, rfl⟩
        go_wp2
        go_roundw
        case rel => exact ⟨k + 1, by omega, by go_num, by rw [HST.out, HNB.out]; simp, trivial⟩
        case measure => simp [intOf]; omega
      | false =>
        rw [hs] at HE hnb
        have HNB := Lib.hid hnb; clear hnb hs
        go_wp2_with fail
        refine HE.out.mono ?_
        rintro e w1 ⟨rfl, rfl⟩
        go_wp2
        go_roundw
        case rel => exact ⟨k + 1, by omega, by go_num, by rw [HST.out, HNB.out]; simp, trivial⟩
        case measure => simp [intOf]; omega
    · obtain rfl : k = bu.length := by omega
      go_wp2
      go_ret
      refine ⟨ret_int ?_, rfl⟩
      rw [List.take_of_length_le (by rw [List.length_map, HLL.out]; exact Nat.le_refl _)]
set_option maxHeartbeats 1600000 in
theorem delta_any (lo g : Nat) (A : Option Addr) (c : Nat) (bs : List Nat) (ts : List Tv) (prop : Value) (tot : Int) (same : Bool) (w : World) (h : VSet w lo g A c bs ts prop tot same) (hn : bs.length ≤ 1000000) (b : Nat) (t : Tv) (hb : Blk w b 136 t.val) (hok : t.ok w)
    (hp : ∀ t ∈ ts, 0 ≤ t.x.pow ∧ t.x.pow ≤ 2305843009213693952) (hpt : 0 ≤ t.x.pow ∧ t.x.pow ≤ 2305843009213693952) :
    Calls Tryz.prog 132 #[ptrTo b, ptrTo g] w fun e w' => e = .returned (.int .i64 (deltaL (ts.map Tv.x) t.x)) ∧ ∃ q, w' = w.drewN q := by
  obtain ⟨c0, c1, c2, c3⟩ := t.val_cells hb
  have KG := Lib.hid (getMut_any lo g A c bs ts prop tot same w h hn t.x.adr t.A t.c hok.1)
  rcases atL_cases t.x.adr (ts.map Tv.x) with ⟨h1, _⟩ | ⟨i, x, h1, h2, _⟩
  · have hd : deltaL (ts.map Tv.x) t.x = t.x.pow := by unfold deltaL; rw [seatAt_none h1]
    rw [h1] at KG
    rw [hd]
    have e : ptrAt bs (-1) = .pointer none := rfl
    rw [e] at KG
    clear h hb hok hd h1 c1 c3
    unfold ptrTo at KG ⊢
    go_enter Tryz.func132, Tryz.ntmps132
    go_wp2_with fail
    refine KG.out.mono ?_
    rintro e w1 ⟨rfl, rfl⟩
    go_wp2
    go_ret
    exact ⟨rfl, 0, rfl⟩
  · obtain ⟨t', ht', rfl⟩ : ∃ t', ts[i]? = some t' ∧ t'.x = x := by
      rw [List.getElem?_map] at h2
      cases hti : ts[i]? with
      | none => rw [hti] at h2; cases h2
      | some t' => rw [hti] at h2; exact ⟨t', rfl, Option.some.inj h2⟩
    have hi : i < bs.length := by rw [← h.len]; exact (List.getElem?_eq_some_iff.1 ht').1
    have hb' : bs[i]? = some bs[i] := List.getElem?_eq_getElem hi
    obtain ⟨_, hbv, _⟩ := h.vals i _ t' hb' ht'
    obtain ⟨d0, d1, d2, d3⟩ := t'.val_cells hbv
    have hd : deltaL (ts.map Tv.x) t.x = t.x.pow - t'.x.pow := by unfold deltaL; rw [seatAt_some h1 h2]
    have hp' := hp t' (List.mem_of_getElem? ht')
    rw [h1, ptrAt_some hb'] at KG
    rw [hd]
    generalize bs[i] = b' at *
    clear h hb hok hd h1 h2 ht' hbv hb' c1 c3 d0 d1 d3 hp
    unfold ptrTo at KG ⊢
    go_enter Tryz.func132, Tryz.ntmps132
    go_wp2_with fail
    refine KG.out.mono ?_
    rintro e w1 ⟨rfl, rfl⟩
    go_wp2
    go_quiet (fail)
    go_wp2
    go_ret
    exact ⟨rfl, _, rfl⟩
end Go.Proofs.YtikikddkhikfkaaGreatDoor

set_option linter.all false
namespace Go.Proofs.YtikikddkhikfkaaGreatDoor
open Go.RowKit

theorem errnew_any (s : ByteArray) (w : World) : Calls Tryz.prog 99 #[.string s] w fun e w' => e = .returned (.iface 211 (.pointer (some ⟨w.heap.size, 0, none⟩))) ∧ Below w.heap.size w w' := by
  go_enter Tryz.func99, Tryz.ntmps99
  go_wp2
  go_ret
  exact ⟨rfl, (Below.refl _ _).alloc (Nat.le_refl _) _⟩
/-- is everybody who goes there? -/
def okDel (vals us : List Sd) : Bool := us.all fun u => decide (0 ≤ atL u.adr vals)
def powAt (vals : List Sd) (u : Sd) : Int := match seatAt vals u.adr with
  | some v => v.pow
  | none => 0
/-- the power that goes -/
def remSum (vals : List Sd) : List Sd → Int
  | [] => 0
  | u :: r => powAt vals u + remSum vals r
theorem remSum_snoc (vals l : List Sd) (u : Sd) : remSum vals (l ++ [u]) = remSum vals l + powAt vals u := by
  induction l with
  | nil => simp [remSum]
  | cons x r ih => simp only [List.cons_append, remSum, ih]; omega
theorem powAt_bd {vals : List Sd} (h : ∀ x ∈ vals, 0 ≤ x.pow ∧ x.pow ≤ 1125899906842624) (u : Sd) : 0 ≤ powAt vals u ∧ powAt vals u ≤ 1125899906842624 := by
  unfold powAt seatAt
  split
  · rename_i v hv
    split at hv
    · cases hv
    · exact h v (List.mem_of_getElem? hv)
  · omega
theorem remSum_bd {vals : List Sd} (h : ∀ x ∈ vals, 0 ≤ x.pow ∧ x.pow ≤ 1125899906842624) (l : List Sd) : 0 ≤ remSum vals l ∧ remSum vals l ≤ 1125899906842624 * (l.length : Int) := by
  induction l with
  | nil => simp [remSum]
  | cons x r ih =>
    have := powAt_bd h x
    simp only [remSum, List.length_cons]
    omega
set_option maxRecDepth 100000 in
set_option maxHeartbeats 3200000 in
theorem remov_any (lo g : Nat) (A : Option Addr) (c : Nat) (bs : List Nat) (ts : List Tv) (prop : Value) (tot : Int) (same : Bool) (w : World) (h : VSet w lo g A c bs ts prop tot same) (hn : bs.length ≤ 1000000) (lo' : Nat) (Au : Option Addr) (cu : Nat) (bu : List Nat) (tu : List Tv) (hu : VRow w lo' Au cu bu tu) (hnu : bu.length ≤ 1000)
    (hp : ∀ t ∈ ts, 0 ≤ t.x.pow ∧ t.x.pow ≤ 1125899906842624) (hle : okDel (ts.map Tv.x) (tu.map Tv.x) = true → bu.length ≤ bs.length) :
    Calls Tryz.prog 101 #[.slice Au bu.length cu, ptrTo g] w fun e w' => Below w.heap.size w w' ∧
      ((okDel (ts.map Tv.x) (tu.map Tv.x) = true ∧ e = .returned (.tuple #[.int .i64 (remSum (ts.map Tv.x) (tu.map Tv.x)), .nilIface])) ∨ (okDel (ts.map Tv.x) (tu.map Tv.x) = false ∧ ∃ p v, e = .returned (.tuple #[.int .i64 p, .iface 211 v]))) := by
  have HLL : Hid (tu.length = bu.length) := hu.len
  have hps : ∀ x ∈ ts.map Tv.x, 0 ≤ x.pow ∧ x.pow ≤ 1125899906842624 := fun x hx => by
    obtain ⟨t, ht, rfl⟩ := List.mem_map.1 hx
    exact hp t ht
  have h0 : w.cell? ⟨g, 0, none⟩ = some (.slice A bs.length c) := h.head.cell 0
  have H := Lib.hid h; have HU := Lib.hid hu; have HP := Lib.hid hp; have HPS := Lib.hid hps; have HLE := Lib.hid hle; clear h hu hp hps hle
  have KG := Lib.hid (fun (a : ByteArray) (Aa : Option Addr) (ca : Nat) (ha : Byt w Aa a) => getMut_any lo g A c bs ts prop tot same w H.out hn a Aa ca ha)
  have KE := Lib.hid (fun s W => errnew_any s W)
  unfold ptrTo at KG ⊢
  go_enter Tryz.func101, Tryz.ntmps101
  go_wp2
  go_loopw [6, 14] (fun v i wr => ∃ k : Nat, k ≤ bu.length ∧ i = .int .i64 k ∧ v = .int .i64 (remSum (ts.map Tv.x) ((tu.map Tv.x).take k)) ∧ Hid (okDel (ts.map Tv.x) ((tu.map Tv.x).take k) = true) ∧ Hid (w = wr)) (fun _ i _ => bu.length - (intOf i).toNat)
  case atStart => exact ⟨0, Nat.zero_le _, rfl, rfl, rfl, rfl⟩
  case round =>
    obtain ⟨k, hk, rfl, rfl, HD, HW⟩ := hrel
    have hW := HW.out
    subst hW
    have hbd := remSum_bd HPS.out ((tu.map Tv.x).take k)
    have hlk : ((tu.map Tv.x).take k).length ≤ 1000 := by rw [List.length_take]; omega
    by_cases hlt : k < bu.length
    · obtain ⟨b, t, hb, ht⟩ := HU.out.at_ hlt
      obtain ⟨r, rfl, _, hp⟩ := HU.out.ptr hb
      obtain ⟨hbv, hok⟩ := HU.out.validator hb ht
      obtain ⟨c0, c1, c2, c3⟩ := t.val_cells hbv
      have hk' : k < (tu.map Tv.x).length := by rw [List.length_map, HLL.out]; exact hlt
      have e : (tu.map Tv.x)[k] = t.x := by
        have h1 := (List.getElem?_eq_some_iff.1 ht).2
        rw [List.getElem_map, h1]
      have hst : (tu.map Tv.x).take (k + 1) = (tu.map Tv.x).take k ++ [t.x] := by rw [List.take_succ_eq_append_getElem hk', e]
      have hsub : ∀ x ∈ (tu.map Tv.x).take (k + 1), x ∈ tu.map Tv.x := fun x hx => List.mem_of_mem_take hx
      have hE := KG.out t.x.adr t.A t.c hok.1
      rcases atL_cases t.x.adr (ts.map Tv.x) with ⟨h1, _⟩ | ⟨i, x, h1, h2, _⟩
      · have hf : okDel (ts.map Tv.x) (tu.map Tv.x) = false := by
          unfold okDel
          rw [List.all_eq_false]
          exact ⟨t.x, List.mem_map.2 ⟨t, List.mem_of_getElem? ht, rfl⟩, by rw [h1]; simp⟩
        rw [h1, show ptrAt bs (-1) = .pointer none from rfl] at hE
        have HE := Lib.hid hE; have HF := Lib.hid hf
        clear hb ht hbv hok hst hE c1 c2 c3 h1 hf hsub e
        go_wp2_with fail
        refine HE.out.mono ?_
        rintro e w1 ⟨rfl, rfl⟩
        go_wp2_with fail
        refine (KE.out _ _).mono ?_
        rintro e w2 ⟨rfl, hb2⟩
        have HB2 := Lib.hid hb2; clear hb2
        go_wp2
        go_returns
        exact ⟨HB2.out, .inr ⟨HF.out, _, _, rfl⟩⟩
      · obtain ⟨t', ht', rfl⟩ : ∃ t', ts[i]? = some t' ∧ t'.x = x := by
          rw [List.getElem?_map] at h2
          cases hti : ts[i]? with
          | none => rw [hti] at h2; cases h2
          | some t' => rw [hti] at h2; exact ⟨t', rfl, Option.some.inj h2⟩
        have hi : i < bs.length := by rw [← H.out.len]; exact (List.getElem?_eq_some_iff.1 ht').1
        have hb' : bs[i]? = some bs[i] := List.getElem?_eq_getElem hi
        obtain ⟨_, hbv', _⟩ := H.out.vals i _ t' hb' ht'
        obtain ⟨d0, d1, d2, d3⟩ := t'.val_cells hbv'
        have hpw : powAt (ts.map Tv.x) t.x = t'.x.pow := by unfold powAt; rw [seatAt_some h1 h2]
        have hpb := HP.out t' (List.mem_of_getElem? ht')
        have hsn : remSum (ts.map Tv.x) ((tu.map Tv.x).take (k + 1)) = remSum (ts.map Tv.x) ((tu.map Tv.x).take k) + t'.x.pow := by rw [hst, remSum_snoc, hpw]
        have hod : okDel (ts.map Tv.x) ((tu.map Tv.x).take (k + 1)) = true := by
          have hd := HD.out
          unfold okDel at hd ⊢
          rw [hst, List.all_append, hd]; simp [h1]
        rw [h1, ptrAt_some hb'] at hE
        have hbd2 : remSum (ts.map Tv.x) ((tu.map Tv.x).take k) ≤ 1125899906842624000 := by omega
        generalize bs[i] = b' at *
        generalize remSum (ts.map Tv.x) ((tu.map Tv.x).take k) = S at *
        have HE := Lib.hid hE; have HSN := Lib.hid hsn; have HOD := Lib.hid hod
        clear hb ht hbv hok hst hE c1 c2 c3 h1 h2 hsub e ht' hb' hbv' d0 d1 d3 hpw hsn hod
        go_wp2_with fail
        refine HE.out.mono ?_
        rintro e w1 ⟨rfl, rfl⟩
        go_wp2
        go_roundw
        case rel => exact ⟨k + 1, by omega, by go_num, by rw [HSN.out], HOD.out, trivial⟩
        case measure => simp [intOf]; omega
    · obtain rfl : k = bu.length := by omega
      have hd := HD.out
      have hS : (tu.map Tv.x).take bu.length = tu.map Tv.x := List.take_of_length_le (by rw [List.length_map, HLL.out]; exact Nat.le_refl _)
      rw [hS] at hd
      have hle := HLE.out hd
      have hgt : ¬ ((bs.length : Int) < (bu.length : Int)) := by omega
      have HSS := Lib.hid hS; have HDD := Lib.hid hd; clear hS hd
      go_wp2
      go_returns
      exact ⟨Below.refl _ _, .inl ⟨HDD.out, by rw [HSS.out]; rfl⟩⟩
end Go.Proofs.YtikikddkhikfkaaGreatDoor

set_option linter.all false
namespace Go.Proofs.YtikikddkhikfkaaGreatDoor
open Go.RowKit

/-- the set lies below block N -/
structure VLow (N g : Nat) (A : Option Addr) (bs : List Nat) : Prop where
  head : g < N
  row : ∀ a, A = some a → a.block < N
  vals : ∀ b ∈ bs, b < N
theorem VSet.keepLow {w w' : World} {lo g N : Nat} {A : Option Addr} {c : Nat} {bs : List Nat} {ts : List Tv} {prop : Value} {tot : Int} {same : Bool} (h : VSet w lo g A c bs ts prop tot same) (hl : VLow N g A bs) (kb : KeepB w w') (k : ∀ i, i < N → w'.heap[i]? = w.heap[i]?) : VSet w' lo g A c bs ts prop tot same := by
  refine ⟨(k g hl.head).trans h.head, ?_, h.len, h.nodup, fun j b t hb ht => ?_, h.log⟩
  · refine ⟨h.row.1, ?_⟩
    rcases h.row.2 with h2 | ⟨g', cap, cur, hv, hg, hh, r⟩
    · exact Or.inl h2
    · have hA : A = some ⟨g', 0, none⟩ := by injection hv
      exact Or.inr ⟨g', cap, cur, hv, hg, (k g' (hl.row _ hA)).trans hh, r⟩
  · obtain ⟨h1, h2, h3⟩ := h.vals j b t hb ht
    exact ⟨h1, (k b (hl.vals b (List.mem_of_getElem? hb))).trans h2, h3.keep kb⟩
/-- only these validators, and what is new, have turned -/
structure OnlyL (bs : List Nat) (w w' : World) : Prop where
  os : w'.os = w.os
  tape : w'.tape = w.tape
  output : w'.output = w.output
  size : w.heap.size ≤ w'.heap.size
  block : ∀ k, k < w.heap.size → k ∉ bs → w'.heap[k]? = w.heap[k]?
  bytes : KeepB w w'
theorem OnlyL.refl (bs : List Nat) (w : World) : OnlyL bs w w := ⟨rfl, rfl, rfl, Nat.le_refl _, fun _ _ _ => rfl, KeepB.refl w⟩
theorem OnlyL.trans {bs : List Nat} {a b c : World} (h : OnlyL bs a b) (k : OnlyL bs b c) : OnlyL bs a c :=
  ⟨k.os.trans h.os, k.tape.trans h.tape, k.output.trans h.output, Nat.le_trans h.size k.size, fun i hi hb => (k.block i (Nat.lt_of_lt_of_le hi h.size) hb).trans (h.block i hi hb), h.bytes.trans k.bytes⟩
theorem OnlyL.drew {bs : List Nat} {a b : World} (h : OnlyL bs a b) : OnlyL bs a b.drew := ⟨h.os, h.tape, h.output, h.size, h.block, h.bytes⟩
theorem OnlyL.set {bs : List Nat} {a w : World} (h : OnlyL bs a w) {b : Nat} (hb : b ∈ bs) {cs : Array Value} (hblk : Blk w b 136 cs) (i : Nat) (v : Value) : OnlyL bs a (w.setCell ⟨b, i, none⟩ v) :=
  h.trans ⟨rfl, rfl, rfl, by simp [World.setCell], fun k _ hk => Below.heap_setCell w ⟨b, i, none⟩ v k (fun e => hk (by rw [e]; exact hb)), KeepB.setCell (p := ⟨b, i, none⟩) hblk (by decide) v⟩
theorem VRow.setPri {w : World} {lo : Nat} {A : Option Addr} {c : Nat} {bs : List Nat} {ts : List Tv} (h : VRow w lo A c bs ts) {j b : Nat} {t : Tv} (hb : bs[j]? = some b) (ht : ts[j]? = some t) (q : Int) :
    VRow (w.setCell ⟨b, 3, none⟩ (.int .i64 q)) lo A c bs (ts.set j { t with x := { t.x with pri := q } }) := by
  obtain ⟨h1, h2, h3⟩ := h.vals j b t hb ht
  have hj := (List.getElem?_eq_some_iff.1 ht).1
  refine ⟨own_far h.row (p := ⟨b, 3, none⟩) (own_ne_blk h.row h2 (by decide)) _, by rw [List.length_set]; exact h.len, h.nodup, fun j' b' t' hb' ht' => ?_⟩
  have kb : KeepB w (w.setCell ⟨b, 3, none⟩ (.int .i64 q)) := KeepB.setCell (p := ⟨b, 3, none⟩) h2 (by decide) _
  rw [List.getElem?_set] at ht'
  by_cases e : j = j'
  · subst e
    rw [if_pos rfl, if_pos hj] at ht'
    cases ht'
    rw [hb] at hb'; cases hb'
    exact ⟨h1, h2.put 3 _, h3.keep kb⟩
  · rw [if_neg e] at ht'
    obtain ⟨g1, g2, g3⟩ := h.vals j' b' t' hb' ht'
    have hne : b' ≠ b := by
      rintro rfl
      have hj1 := List.getElem?_eq_some_iff.1 hb
      have hj2 := List.getElem?_eq_some_iff.1 hb'
      exact e ((List.getElem_inj h.nodup).1 (hj1.2.trans hj2.2.symm))
    exact ⟨g1, g2.far (p := ⟨b, 3, none⟩) hne _, g3.keep kb⟩
/-- the priority of one that comes, or that stays -/
def newPri (vals : List Sd) (T : Int) (u : Sd) : Sd := { u with pri := match seatAt vals u.adr with
  | some v => v.pri
  | none => -(T + T / 8) }
set_option maxRecDepth 100000 in
set_option maxHeartbeats 3200000 in
theorem pris_any (lo g : Nat) (A : Option Addr) (c : Nat) (bs : List Nat) (ts : List Tv) (prop : Value) (tot : Int) (same : Bool) (w : World) (h : VSet w lo g A c bs ts prop tot same) (hn : bs.length ≤ 1000000) (lo' : Nat) (hlow : VLow lo' g A bs) (Au : Option Addr) (cu : Nat) (bu : List Nat) (tu : List Tv) (hu : VRow w lo' Au cu bu tu) (hnu : bu.length ≤ 1000000)
    (T : Int) (hT : 0 ≤ T ∧ T ≤ 4611686018427387904) :
    Calls Tryz.prog 103 #[.slice Au bu.length cu, ptrTo g, .int .i64 T] w fun e w' => e = .returned (.tuple #[]) ∧ ∃ tu', tu'.map Tv.x = (tu.map Tv.x).map (newPri (ts.map Tv.x) T) ∧ VRow w' lo' Au cu bu tu' ∧ VSet w' lo g A c bs ts prop tot same ∧ OnlyL bu w w' := by
  have HLL : Hid (tu.length = bu.length) := hu.len
  have H := Lib.hid h; have HU := Lib.hid hu; have HLO := Lib.hid hlow; clear h hu hlow
  have KG := Lib.hid (fun (W : World) (hW : VSet W lo g A c bs ts prop tot same) (a : ByteArray) (Aa : Option Addr) (ca : Nat) (ha : Byt W Aa a) => getMut_any lo g A c bs ts prop tot same W hW hn a Aa ca ha)
  unfold ptrTo at KG ⊢
  go_enter Tryz.func103, Tryz.ntmps103
  go_wp2
  go_loopw [13] (fun i wr => ∃ k : Nat, k ≤ bu.length ∧ i = .int .i64 k ∧ Hid (∃ tk, tk.map Tv.x = mapTo (newPri (ts.map Tv.x) T) (tu.map Tv.x) k ∧ VRow wr lo' Au cu bu tk) ∧ Hid (VSet wr lo g A c bs ts prop tot same) ∧ Hid (OnlyL bu w wr)) (fun i _ => bu.length - (intOf i).toNat)
  case atStart => exact ⟨0, Nat.zero_le _, rfl, ⟨tu, by rw [mapTo_zero], HU.out⟩, H.out, OnlyL.refl _ _⟩
  case round =>
    obtain ⟨k, hk, rfl, HT, HV, HO⟩ := hrel
    obtain ⟨tk, htk, hvr⟩ := HT.out
    have htl : (tk.map Tv.x).length = bu.length := by rw [List.length_map]; exact hvr.len
    by_cases hlt : k < bu.length
    · obtain ⟨b, t, hb, ht⟩ := hvr.at_ hlt
      obtain ⟨r, rfl, _, hp⟩ := hvr.ptr hb
      obtain ⟨hbv, hok⟩ := hvr.validator hb ht
      obtain ⟨c0, c1, c2, c3⟩ := t.val_cells hbv
      have hf3 : wr.frozen? ⟨b, 3, none⟩ = false := hbv.free 3
      obtain ⟨x, hx⟩ : ∃ x, (tu.map Tv.x)[k]? = some x := ⟨_, List.getElem?_eq_getElem (by rw [List.length_map, HLL.out]; exact hlt)⟩
      have hxt : t.x = x := by
        have h1 : (tk.map Tv.x)[k]? = some t.x := by rw [List.getElem?_map, ht]; rfl
        rw [htk, mapTo_get _ _ _ _ hx] at h1
        exact (Option.some.inj h1).symm
      have hE := KG.out wr HV.out t.x.adr t.A t.c hok.1
      have hset : ∀ q, (newPri (ts.map Tv.x) T t.x).pri = q → VRow (wr.setCell ⟨b, 3, none⟩ (.int .i64 q)) lo' (some ⟨r, 0, none⟩) cu bu (tk.set k { t with x := { t.x with pri := q } }) ∧ (tk.set k { t with x := { t.x with pri := q } }).map Tv.x = mapTo (newPri (ts.map Tv.x) T) (tu.map Tv.x) (k + 1) := fun q hq => by
        refine ⟨hvr.setPri hb ht q, ?_⟩
        rw [List.map_set, htk, ← mapTo_succ _ _ _ _ hx]
        congr 1
        rw [← hxt, ← hq]; rfl
      have hvs : ∀ q, VSet (wr.setCell ⟨b, 3, none⟩ (.int .i64 q)) lo g A c bs ts prop tot same := fun q =>
        HV.out.keepLow HLO.out (KeepB.setCell (p := ⟨b, 3, none⟩) hbv (by decide) _) (fun i hi => Below.heap_setCell wr ⟨b, 3, none⟩ _ i (by have := (hvr.vals k b t hb ht).1; show i ≠ b; omega))
      have hon : ∀ q, OnlyL bu w (wr.setCell ⟨b, 3, none⟩ (.int .i64 q)) := fun q => HO.out.set (List.mem_of_getElem? hb) hbv 3 _
      rcases atL_cases t.x.adr (ts.map Tv.x) with ⟨h1, _⟩ | ⟨i, y, h1, h2, _⟩
      · have hq : (newPri (ts.map Tv.x) T t.x).pri = -(T + T / 8) := by unfold newPri; simp only [seatAt_none h1]
        have S1 := hset _ hq
        rw [h1, show ptrAt bs (-1) = .pointer none from rfl] at hE
        have HE := Lib.hid hE; have HS1 := Lib.hid S1; have HVS := Lib.hid hvs; have HON := Lib.hid hon
        clear hb ht hbv hok hE c1 c2 h1 hset hvs hon hq S1 hx hxt htk hvr HT HV HO
        go_wp2_with fail
        refine HE.out.mono ?_
        rintro e w1 ⟨rfl, rfl⟩
        go_wp2
        go_roundw
        case rel => exact ⟨k + 1, by omega, by go_num, ⟨_, HS1.out.2, HS1.out.1⟩, HVS.out _, HON.out _⟩
        case measure => simp [intOf]; omega
      · obtain ⟨t', ht', rfl⟩ : ∃ t', ts[i]? = some t' ∧ t'.x = y := by
          rw [List.getElem?_map] at h2
          cases hti : ts[i]? with
          | none => rw [hti] at h2; cases h2
          | some t' => rw [hti] at h2; exact ⟨t', rfl, Option.some.inj h2⟩
        have hi : i < bs.length := by rw [← HV.out.len]; exact (List.getElem?_eq_some_iff.1 ht').1
        have hb' : bs[i]? = some bs[i] := List.getElem?_eq_getElem hi
        obtain ⟨_, hbv', _⟩ := HV.out.vals i _ t' hb' ht'
        obtain ⟨d0, d1, d2, d3⟩ := t'.val_cells hbv'
        have hq : (newPri (ts.map Tv.x) T t.x).pri = t'.x.pri := by unfold newPri; simp only [seatAt_some h1 h2]
        have S1 := hset _ hq
        rw [h1, ptrAt_some hb'] at hE
        generalize bs[i] = b' at *
        have HE := Lib.hid hE; have HS1 := Lib.hid S1; have HVS := Lib.hid hvs; have HON := Lib.hid hon
        clear hb ht hbv hok hE c1 c2 h1 h2 hset hvs hon hq S1 hx hxt htk hvr HT HV HO ht' hb' hbv' d0 d1 d2
        go_wp2_with fail
        refine HE.out.mono ?_
        rintro e w1 ⟨rfl, rfl⟩
        go_wp2
        go_roundw
        case rel => exact ⟨k + 1, by omega, by go_num, ⟨_, HS1.out.2, HS1.out.1⟩, HVS.out _, HON.out _⟩
        case measure => simp [intOf]; omega
    · obtain rfl : k = bu.length := by omega
      go_wp2
      go_end0
      refine ⟨rfl, tk, ?_, hvr, HV.out, HO.out⟩
      rw [htk, mapTo_full _ _ _ (by rw [List.length_map, HLL.out]; exact Nat.le_refl _)]
end Go.Proofs.YtikikddkhikfkaaGreatDoor

set_option linter.all false
namespace Go.Proofs.YtikikddkhikfkaaGreatDoor
open Go.RowKit

set_option maxHeartbeats 1600000 in
theorem sat_same (l : List Sd) (A : Option Addr) (n c : Nat) (a : ByteArray) (w : World) (hr : Rd w w.heap.size 4 A n (cellsOf l)) (hn : n ≤ 1000000) :
    Calls Tryz.prog 37 #[.slice A n c, .string a] w fun e w' => e = .returned (.int .i64 (atL a l)) ∧ w = w' := by
  have HL := Lib.hid hr.len
  have HR := Lib.hid hr; clear hr
  go_enter Tryz.func37, Tryz.ntmps37
  go_wp2
  go_loopw [8] (fun i wr => ∃ k : Nat, k ≤ n ∧ i = .int .i64 k ∧ Hid (findAt (isA a) (l.drop k) k = atL a l) ∧ Hid (w = wr)) (fun i _ => n - (intOf i).toNat)
  case atStart => exact ⟨0, Nat.zero_le _, rfl, rfl, rfl⟩
  case round =>
    obtain ⟨k, hk, rfl, HF, HW⟩ := hrel
    have hW := HW.out
    subst hW
    by_cases hlt : k < n
    · have hk' : k < l.length := by have := HL.out; omega
      have hx : l[k]? = some l[k] := List.getElem?_eq_getElem hk'
      obtain ⟨ad, rfl, _, c0, c1, c2, c3⟩ := HR.out.seat hx
      have hd := findAt_drop (isA a) l k _ hx
      rw [HF.out] at hd
      generalize l[k] = x at *
      have HX := Lib.hid hx; have HD := Lib.hid hd; clear hx hd HF c1 c2 c3
      by_cases hs : x.adr.toList = a.toList
      · have hs' : isA a x = true := by unfold isA; simpa using hs
        rw [hs'] at HD
        have hsb : (x.adr.toList == a.toList) = true := hs'
        clear hs hs'
        go_wp2
        go_ret
        exact ⟨ret_int (by have hd := HD.out; simp only [if_true] at hd; exact hd.symm), rfl⟩
      · have hs' : isA a x = false := by unfold isA; simpa using hs
        rw [hs'] at HD
        have hsb : (x.adr.toList == a.toList) = false := hs'
        clear hs hs'
        go_wp2
        go_roundw
        case rel => exact ⟨k + 1, by omega, by go_num, by have hd := HD.out; simp only [Bool.false_eq_true, if_false] at hd; exact hd.symm, trivial⟩
        case measure => simp [intOf]; omega
    · obtain rfl : k = n := by omega
      have hd : atL a l = -1 := by
        rw [← HF.out, List.drop_of_length_le (by rw [← HL.out]; exact Nat.le_refl _)]; rfl
      have HD := Lib.hid hd; clear hd
      go_wp2
      go_ret
      exact ⟨ret_int HD.out.symm, rfl⟩
end Go.Proofs.YtikikddkhikfkaaGreatDoor
