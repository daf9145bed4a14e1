/-
  The package's Change, UpdateWithChangeSet and the thin package's Changed: walks. By the session. The specification's changed set, in plain Lean: what its loops hold. No function is walked here. By the session. spec.at lays no memory: its walk. By the session.
-/
import Derived.Test.YtikikddkhikfkaaGreatDoorCh9
import Derived.Test.YtikikddkhikfkaaGreatDoorCh4
import Derived.Test.YtikikddkhikfkaaGreatDoorCh7
set_option linter.all false
namespace Go.Proofs.YtikikddkhikfkaaGreatDoor
open Go.RowKit

set_option maxRecDepth 100000 in
set_option maxHeartbeats 3200000 in
theorem upd_any (lo g : Nat) (A : Option Addr) (c : Nat) (bs : List Nat) (ts : List Tv) (prop : Value) (tot : Int) (same : Bool) (w : World) (h : VSet w lo g A c bs ts prop tot same) (hlo : 0 < lo) (hn : bs.length ≤ 400) (ht : tot = 0 ∨ tot = totL (ts.map Tv.x))
    (hp : ∀ x ∈ ts.map Tv.x, 1 ≤ x.pow ∧ x.pow ≤ 1125899906842624) (hpr : ∀ x ∈ ts.map Tv.x, -1152921504606846976 < x.pri ∧ x.pri < 1152921504606846976) (hVn : (adrs (ts.map Tv.x)).Nodup)
    (loc : Nat) (Ac : Option Addr) (cc : Nat) (bc : List Nat) (tc : List Tv) (hc : VRow w loc Ac cc bc tc) (hnc : bc.length ≤ 400) (hca : ∀ t ∈ tc, 0 < t.x.adr.size) (T0 : Nat) (v0 : Value) (hG : w.cell? ⟨0, 0, none⟩ = some (.iface T0 v0)) :
    Calls Tryz.prog 65 #[ptrTo g, .slice Ac bc.length cc] w fun e w' => Below lo w w' ∧
      ((bc.length = 0 ∧ e = .returned .nilIface ∧ VSet w' lo g A c bs ts prop tot same) ∨
       (0 < bc.length ∧ okCh (ts.map Tv.x) (tc.map Tv.x) ∧ e = .returned .nilIface ∧ ∃ A' c' bs' ts', ts'.map Tv.x = outL (ts.map Tv.x) (tc.map Tv.x) ∧ VSet w' lo g A' c' bs' ts' prop (totL (outL (ts.map Tv.x) (tc.map Tv.x))) true) ∨
       (0 < bc.length ∧ ¬ okCh (ts.map Tv.x) (tc.map Tv.x) ∧ (∃ T v, e = .returned (.iface T v)) ∧ ∃ tot', VSet w' lo g A c bs ts prop tot' same)) := by
  have K := Lib.hid (uw_any lo g A c bs ts prop tot same w h hlo hn ht hp hpr hVn loc Ac cc bc tc hc hnc hca T0 v0 hG true)
  clear h ht hp hpr hVn hc hca hG
  unfold ptrTo at *
  go_enter Tryz.func65, Tryz.ntmps65
  go_wp2_with fail
  refine K.out.mono ?_
  rintro e w1 ⟨hb, ⟨h1, rfl, h3⟩ | ⟨h1, h2, rfl, h3⟩ | ⟨h1, h2, ⟨T, v, rfl⟩, h3⟩⟩
  · have HB := Lib.hid hb; have H3 := Lib.hid h3; clear hb h3
    go_wp2
    (try go_ret)
    exact ⟨HB.out, .inl ⟨h1, rfl, H3.out⟩⟩
  · have HB := Lib.hid hb; have H3 := Lib.hid h3; have H2 := Lib.hid h2; clear hb h3 h2
    go_wp2
    (try go_ret)
    exact ⟨HB.out, .inr (.inl ⟨h1, H2.out.1, rfl, H3.out⟩)⟩
  · have HB := Lib.hid hb; have H3 := Lib.hid h3; have H2 := Lib.hid h2; clear hb h3 h2
    go_wp2
    (try go_ret)
    exact ⟨HB.out, .inr (.inr ⟨h1, fun k => H2.out ⟨k, .inl (by trivial)⟩, ⟨T, v, rfl⟩, H3.out⟩)⟩
/-- what a set holds behind changes -/
noncomputable def chB (V C : List Sd) : Bool := @decide (C = [] ∨ okCh V C) (Classical.propDecidable _)
open Classical in
noncomputable def chO (V C : List Sd) : List Sd := if C ≠ [] ∧ okCh V C then outL V C else V
theorem ch_nil (V : List Sd) : chB V [] = true ∧ chO V [] = V := by unfold chB chO; simp
theorem ch_ok {V C : List Sd} (h : C ≠ []) (k : okCh V C) : chB V C = true ∧ chO V C = outL V C := by unfold chB chO; simp [h, k]
theorem ch_no {V C : List Sd} (h : C ≠ []) (k : ¬ okCh V C) : chB V C = false ∧ chO V C = V := by unfold chB chO; simp [h, k]
set_option maxRecDepth 100000 in
set_option maxHeartbeats 3200000 in
theorem change_any (lo g : Nat) (A : Option Addr) (c : Nat) (bs : List Nat) (ts : List Tv) (prop : Value) (tot : Int) (same : Bool) (w : World) (h : VSet w lo g A c bs ts prop tot same) (hlo : 0 < lo) (hn : bs.length ≤ 400) (ht : tot = 0 ∨ tot = totL (ts.map Tv.x))
    (hp : ∀ x ∈ ts.map Tv.x, 1 ≤ x.pow ∧ x.pow ≤ 1125899906842624) (hpr : ∀ x ∈ ts.map Tv.x, -1152921504606846976 < x.pri ∧ x.pri < 1152921504606846976) (hVn : (adrs (ts.map Tv.x)).Nodup)
    (tc : List Tv) (B : Option Addr) (m d : Nat) (hr : Rd w w.heap.size 4 B m (tc.flatMap Tv.seat)) (hok : ∀ t ∈ tc, t.ok w) (hm : m ≤ 400) (hca : ∀ t ∈ tc, 0 < t.x.adr.size) (T0 : Nat) (v0 : Value) (hG : w.cell? ⟨0, 0, none⟩ = some (.iface T0 v0)) :
    Calls Tryz.prog 35 #[ptrTo g, .slice B m d] w fun e w' => Below lo w w' ∧ e = .returned (.bool (chB (ts.map Tv.x) (tc.map Tv.x))) ∧ ∃ A' c' bs' ts' tot' same', ts'.map Tv.x = chO (ts.map Tv.x) (tc.map Tv.x) ∧ VSet w' lo g A' c' bs' ts' prop tot' same' := by
  have K := Lib.hid (setOf_any tc B m d w hr hok (by omega))
  have hl0 := h.keysV
  have hml : tc.length = m := by have := hr.1; rw [flat_length Tv.seat 4 (fun _ => rfl)] at this; omega
  have H := Lib.hid h; have HP := Lib.hid hp; have HPR := Lib.hid hpr; have HV := Lib.hid hVn; have HCA := Lib.hid hca; have HT := Lib.hid ht; have HG := Lib.hid hG; have HML := Lib.hid hml
  clear h hp hpr hVn hca ht hG hr hok hml
  unfold ptrTo at *
  go_enter Tryz.func35, Tryz.ntmps35
  go_wp2_with fail
  refine K.out.mono ?_
  rintro e w1 ⟨A1, c1, bc, rfl, hv1, hb1⟩
  have hbl : bc.length = m := by have := hv1.len; have := HML.out; omega
  subst hbl
  have h10 : w1.cell? ⟨w.heap.size, 0, none⟩ = some (.slice A1 bc.length c1) := hv1.head.cell 0
  have K2 := Lib.hid (upd_any lo g A c bs ts prop tot same w1 (H.out.keep (KeepV.of_below _ hb1 (Nat.le_refl _))) hlo hn HT.out HP.out HPR.out HV.out w.heap.size A1 c1 bc tc hv1.vrow (by omega) HCA.out T0 v0 ((hb1.cell (p := ⟨0, 0, none⟩) (by show 0 < _; omega)).trans HG.out))
  have HB1 := Lib.hid hb1
  have hnil : ∀ h : bc.length = 0, tc.map Tv.x = [] := fun h => List.eq_nil_of_length_eq_zero (by rw [List.length_map]; have := HML.out; omega)
  have hcon : ∀ h : 0 < bc.length, tc.map Tv.x ≠ [] := fun h e => by have := congrArg List.length e; rw [List.length_map, List.length_nil] at this; have := HML.out; omega
  have HNIL := Lib.hid hnil; have HCON := Lib.hid hcon
  clear hv1 hb1 hnil hcon
  unfold ptrTo at *
  go_wp2_with fail
  refine K2.out.mono ?_
  rintro e w2 ⟨hb2, ⟨h1, rfl, h3⟩ | ⟨h1, h2, rfl, A3, c3, bs3, ts3, h3, h4⟩ | ⟨h1, h2, ⟨T, v, rfl⟩, tot', h3⟩⟩
  · have hb := (HB1.out.mono hl0.1).trans hb2
    have hc : chB (ts.map Tv.x) (tc.map Tv.x) = true ∧ chO (ts.map Tv.x) (tc.map Tv.x) = ts.map Tv.x := by rw [HNIL.out h1]; exact ch_nil _
    have HB := Lib.hid hb; have H3 := Lib.hid h3; have HC := Lib.hid hc; clear hb h3 hc hb2
    go_wp2
    (try go_ret)
    exact ⟨HB.out, ret_bool (by rw [HC.out.1]), A, c, bs, ts, tot, same, HC.out.2.symm, H3.out⟩
  · have hb := (HB1.out.mono hl0.1).trans hb2
    have hc := ch_ok (HCON.out h1) h2
    have HB := Lib.hid hb; have H3 := Lib.hid h3; have H4 := Lib.hid h4; have HC := Lib.hid hc; clear hb h3 hc hb2 h2 h4
    go_wp2
    (try go_ret)
    exact ⟨HB.out, ret_bool (by rw [HC.out.1]), A3, c3, bs3, ts3, _, _, by rw [HC.out.2]; exact H3.out, H4.out⟩
  · have hb := (HB1.out.mono hl0.1).trans hb2
    have hc := ch_no (HCON.out h1) h2
    have HB := Lib.hid hb; have H3 := Lib.hid h3; have HC := Lib.hid hc; clear hb h3 hc hb2 h2
    go_wp2
    (try go_ret)
    exact ⟨HB.out, ret_bool (by rw [HC.out.1]), A, c, bs, ts, tot', same, HC.out.2.symm, H3.out⟩
set_option maxRecDepth 100000 in
set_option maxHeartbeats 3200000 in
theorem ichanged_any (l C : List Sd) (A : Option Addr) (n c : Nat) (B : Option Addr) (m d : Nat) (w : World) (hr : Rd w w.heap.size 4 A n (cellsOf l)) (hn : n ≤ 400) (hs : Rd w w.heap.size 4 B m (cellsOf C)) (hm : m ≤ 400)
    (hp : ∀ x ∈ l, 1 ≤ x.pow ∧ x.pow ≤ 1125899906842624) (hpr : ∀ x ∈ l, -1152921504606846976 < x.pri ∧ x.pri < 1152921504606846976) (hVn : (adrs l).Nodup) (hca : ∀ x ∈ C, 0 < x.adr.size) (hw0 : 0 < w.heap.size) (T0 : Nat) (v0 : Value) (hG : w.cell? ⟨0, 0, none⟩ = some (.iface T0 v0)) :
    Calls Tryz.prog 10 #[.slice A n c, .slice B m d] w fun e w' => ∃ A' c', e = .returned (.tuple #[.slice A' (chO l C).length c', .bool (chB l C)]) ∧ Rd w' w'.heap.size 4 A' (chO l C).length (cellsOf (chO l C)) ∧ Below w.heap.size w w' := by
  have K := Lib.hid (seats_any l A n c w hr (by omega))
  have HL := Lib.hid hr.len; have HS := Lib.hid hs; have HP := Lib.hid hp; have HPR := Lib.hid hpr; have HV := Lib.hid hVn; have HCA := Lib.hid hca; have HG := Lib.hid hG
  clear hr hs hp hpr hVn hca hG
  go_enter Tryz.func10, Tryz.ntmps10
  go_wp2_with fail
  refine K.out.mono ?_
  rintro e w1 ⟨A1, c1, ts, rfl, hr1, hm1, hok1, hb1⟩
  have K2 := Lib.hid (setOf_any ts A1 n c1 w1 hr1 hok1 (by omega))
  have HM1 := Lib.hid hm1; have HB1 := Lib.hid hb1
  clear hr1 hok1 hm1 hb1
  go_wp2_with fail
  refine K2.out.mono ?_
  rintro e w2 ⟨A2, c2, bs, rfl, hv2, hb2⟩
  have z1 := HB1.out.size; have z2 := hb2.size
  have hbl : bs.length = n := by have h1 := hv2.len; have h2 := congrArg List.length HM1.out; have h3 := HL.out; rw [List.length_map] at h2; omega
  have hb12 := HB1.out.trans (hb2.mono z1)
  have K3 := Lib.hid (seats_any C B m d w2 ((HS.out.below hb12).more hb12.size) (by omega))
  have HV2 := Lib.hid hv2; have HB12 := Lib.hid hb12; have HB2 := Lib.hid hb2
  clear hv2 hb12 hb2
  go_wp2_with fail
  refine K3.out.mono ?_
  rintro e w3 ⟨A3, c3, tc, rfl, hr3, hm3, hok3, hb3⟩
  have hb13 := HB12.out.trans (hb3.mono HB12.out.size)
  have hG3 := (hb13.cell (p := ⟨0, 0, none⟩) (by show 0 < _; omega)).trans HG.out
  have K4 := change_any w1.heap.size w1.heap.size A2 c2 bs ts _ _ _ w3 (HV2.out.keep (KeepV.of_below _ hb3 (Nat.le_refl _))) (by omega) (by omega) (.inl rfl) (by rw [HM1.out]; exact HP.out) (by rw [HM1.out]; exact HPR.out) (by rw [HM1.out]; exact HV.out) tc A3 m c3 hr3 hok3 hm
    (fun t ht => HCA.out t.x (by rw [← hm3]; exact List.mem_map_of_mem ht)) T0 v0 hG3
  rw [HM1.out, hm3] at K4
  have HK4 := Lib.hid K4; have HB13 := Lib.hid hb13; have HB3 := Lib.hid hb3
  clear K4 hr3 hok3 hm3 hG3 hb13 hb3
  go_wp2_with fail
  refine HK4.out.mono ?_
  rintro e w4 ⟨hb4, rfl, A4, c4, bs4, ts4, tot4, same4, hm4, hv4⟩
  have z3 := HB3.out.size; have z4 := hb4.size
  have hlen4 : bs4.length = (chO l C).length := by rw [← hm4, List.length_map]; exact hv4.len.symm
  have K5 := ours_any w1.heap.size w1.heap.size A4 c4 bs4 ts4 _ _ _ w4 hv4 (by
    have : (chO l C).length ≤ 800 := by
      unfold chO
      split
      · rw [outL_len]; have := kept_len l C; have := HL.out; have := HS.out.len; omega
      · have := HL.out; omega
    omega)
  rw [hm4, hlen4] at K5
  have HK5 := Lib.hid K5; have HB4 := Lib.hid (HB13.out.trans (hb4.mono z1))
  clear K5 hv4 hm4 hlen4 hb4
  go_wp2_with fail
  refine HK5.out.mono ?_
  rintro e w5 ⟨A5, c5, rfl, hr5, hb5⟩
  have HR5 := Lib.hid hr5; have HB5 := Lib.hid (HB4.out.trans (hb5.mono HB4.out.size))
  clear hr5 hb5
  go_wp2
  go_ret2
  exact ⟨A5, c5, rfl, HR5.out, HB5.out⟩
end Go.Proofs.YtikikddkhikfkaaGreatDoor

set_option linter.all false
namespace Go.Proofs.YtikikddkhikfkaaGreatDoor
open Go.RowKit

theorem take_next {α : Type} {C : List α} {k : Nat} {x : α} (hx : C[k]? = some x) : C.take (k + 1) = C.take k ++ [x] := by
  have h := List.getElem?_eq_some_iff.1 hx
  rw [List.take_succ_eq_append_getElem h.1, h.2]
theorem ups_snoc (P : List Sd) (c : Sd) : upsL (P ++ [c]) = if c.pow = 0 then upsL P else upsL P ++ [c] := by
  unfold upsL; rw [List.filter_append]; by_cases h : c.pow = 0 <;> simp [h]
theorem dels_snoc (P : List Sd) (c : Sd) : delsL (P ++ [c]) = if c.pow = 0 then delsL P ++ [c] else delsL P := by
  unfold delsL; rw [List.filter_append]; by_cases h : c.pow = 0 <;> simp [h]
theorem atL_nn {a : ByteArray} {l : List Sd} (h : 0 ≤ atL a l) : ∃ (i : Nat) (x : Sd), atL a l = (i : Int) ∧ l[i]? = some x ∧ x.adr.toList = a.toList := by
  rcases atL_cases a l with ⟨h1, _⟩ | ⟨i, x, h1, h2, h3⟩
  · omega
  · exact ⟨i, x, h1, h2, by unfold isA at h3; simpa using h3⟩
theorem atL_no {a : ByteArray} {l : List Sd} (h : atL a l < 0) : ∀ x ∈ l, x.adr.toList ≠ a.toList := seat_none.1 (atL_neg.1 h)
theorem dup_bad {C : List Sd} {k : Nat} {c : Sd} (hx : C[k]? = some c) (h : 0 ≤ atL c.adr (C.take k)) : ¬ goodCh C := fun g => by
  have g' := (goodCh_take g (k + 1)).2
  rw [take_next hx, List.map_append, List.nodup_append] at g'
  obtain ⟨i, x, _, hi, ha⟩ := atL_nn h
  exact g'.2.2 _ (List.mem_map_of_mem (List.mem_of_getElem? hi)) _ (by simp) ha
theorem num_bad {C : List Sd} {k : Nat} {c : Sd} (hx : C[k]? = some c) (h : c.pow < 0 ∨ 1152921504606846975 < c.pow) : ¬ goodCh C := fun g => by
  have := g.1 c (List.mem_of_getElem? hx); omega
theorem next_good {C : List Sd} {k : Nat} {c : Sd} (hx : C[k]? = some c) (h : atL c.adr (C.take k) < 0) (g : goodCh (C.take k)) (hp : 0 ≤ c.pow ∧ c.pow ≤ 1152921504606846975) : goodCh (C.take (k + 1)) := by
  rw [take_next hx]; exact goodCh_snoc g hp (atL_no h)
theorem del_bad {V C : List Sd} {k : Nat} {c : Sd} (hx : C[k]? = some c) (h0 : c.pow = 0) (h : atL c.adr V < 0) : okDel V (delsL C) = false := by
  rw [← Bool.not_eq_true, okDel_iff]
  intro g
  obtain ⟨v, hv, e⟩ := g c (List.mem_filter.2 ⟨List.mem_of_getElem? hx, by simp [h0]⟩)
  exact atL_no h v hv e
theorem okDel_snoc {V l : List Sd} {c : Sd} (g : okDel V l = true) (h : 0 ≤ atL c.adr V) : okDel V (l ++ [c]) = true := by
  unfold okDel at *; simp [g, h]
/-- what the first loop has found: how many are new, how many go, and their power -/
structure Tal (V P : List Sd) (fresh gone : Nat) (less : Int) : Prop where
  good : goodCh P
  dels : okDel V (delsL P) = true
  fresh_ : fresh = ((upsL P).filter (isNewB V)).length
  gone_ : gone = (delsL P).length
  less_ : less = remSum V (delsL P)
theorem Tal.nil (V : List Sd) : Tal V [] 0 0 0 := ⟨⟨fun _ h => by simp at h, List.nodup_nil⟩, rfl, rfl, rfl, rfl⟩
theorem Tal.le {V P : List Sd} {fresh gone : Nat} {less : Int} (h : Tal V P fresh gone less) : fresh ≤ P.length ∧ gone ≤ P.length := by
  have h1 := List.length_filter_le (isNewB V) (upsL P)
  have h2 : (upsL P).length ≤ P.length := List.length_filter_le _ _
  have h3 : (delsL P).length ≤ P.length := List.length_filter_le _ _
  have := h.fresh_; have := h.gone_; omega
theorem Tal.bd {V P : List Sd} {fresh gone : Nat} {less : Int} (h : Tal V P fresh gone less) (hV : ∀ x ∈ V, 1 ≤ x.pow ∧ x.pow ≤ 1125899906842624) : 0 ≤ less ∧ less ≤ 1125899906842624 * (P.length : Int) := by
  have h2 := remSum_bd (vals := V) (fun x hx => by have := hV x hx; omega) (delsL P)
  have h3 : (delsL P).length ≤ P.length := List.length_filter_le _ _
  have := h.less_; omega
theorem Tal.gone {V C : List Sd} {k fresh gone : Nat} {less : Int} {c v : Sd} {i : Nat} (h : Tal V (C.take k) fresh gone less) (hx : C[k]? = some c) (hd : atL c.adr (C.take k) < 0) (h0 : c.pow = 0) (hi : atL c.adr V = (i : Int)) (hv : V[i]? = some v) : Tal V (C.take (k + 1)) fresh (gone + 1) (less + v.pow) := by
  have hg := next_good hx hd h.good (by omega)
  have e := take_next hx
  have eu : upsL (C.take (k + 1)) = upsL (C.take k) := by rw [e, ups_snoc, if_pos h0]
  have ed : delsL (C.take (k + 1)) = delsL (C.take k) ++ [c] := by rw [e, dels_snoc, if_pos h0]
  refine ⟨hg, by rw [ed]; exact okDel_snoc h.dels (by omega), by rw [eu]; exact h.fresh_, by rw [ed, List.length_append, ← h.gone_]; rfl, ?_⟩
  rw [ed, remSum_snoc, ← h.less_, powAt_some (seatAt_some hi hv)]
theorem Tal.new {V C : List Sd} {k fresh gone : Nat} {less : Int} {c : Sd} (h : Tal V (C.take k) fresh gone less) (hx : C[k]? = some c) (hd : atL c.adr (C.take k) < 0) (h0 : 0 < c.pow) (h1 : c.pow ≤ 1152921504606846975) (hi : atL c.adr V < 0) : Tal V (C.take (k + 1)) (fresh + 1) gone less := by
  have hg := next_good hx hd h.good (by omega)
  have e := take_next hx
  have eu : upsL (C.take (k + 1)) = upsL (C.take k) ++ [c] := by rw [e, ups_snoc, if_neg (by omega)]
  have ed : delsL (C.take (k + 1)) = delsL (C.take k) := by rw [e, dels_snoc, if_neg (by omega)]
  have hn : isNewB V c = true := by unfold isNewB; simp; omega
  refine ⟨hg, by rw [ed]; exact h.dels, ?_, by rw [ed]; exact h.gone_, by rw [ed]; exact h.less_⟩
  rw [eu, List.filter_append, List.length_append, ← h.fresh_]; simp [hn]
theorem Tal.old {V C : List Sd} {k fresh gone : Nat} {less : Int} {c : Sd} (h : Tal V (C.take k) fresh gone less) (hx : C[k]? = some c) (hd : atL c.adr (C.take k) < 0) (h0 : 0 < c.pow) (h1 : c.pow ≤ 1152921504606846975) (hi : 0 ≤ atL c.adr V) : Tal V (C.take (k + 1)) fresh gone less := by
  have hg := next_good hx hd h.good (by omega)
  have e := take_next hx
  have eu : upsL (C.take (k + 1)) = upsL (C.take k) ++ [c] := by rw [e, ups_snoc, if_neg (by omega)]
  have ed : delsL (C.take (k + 1)) = delsL (C.take k) := by rw [e, dels_snoc, if_neg (by omega)]
  have hn : isNewB V c = false := by unfold isNewB; simp; omega
  refine ⟨hg, by rw [ed]; exact h.dels, ?_, by rw [ed]; exact h.gone_, by rw [ed]; exact h.less_⟩
  rw [eu, List.filter_append, List.length_append, ← h.fresh_]; simp [hn]
/-- the second loop: the power of those who change -/
theorem rem_old {V C : List Sd} {k : Nat} {c v : Sd} {i : Nat} (hx : C[k]? = some c) (h0 : c.pow ≠ 0) (hi : atL c.adr V = (i : Int)) (hv : V[i]? = some v) : remSum V (upsL (C.take (k + 1))) = remSum V (upsL (C.take k)) + v.pow := by
  rw [take_next hx, ups_snoc, if_neg h0, remSum_snoc, powAt_some (seatAt_some hi hv)]
theorem rem_new {V C : List Sd} {k : Nat} {c : Sd} (hx : C[k]? = some c) (hi : atL c.adr V < 0) : remSum V (upsL (C.take (k + 1))) = remSum V (upsL (C.take k)) := by
  rw [take_next hx, ups_snoc]
  split
  · rfl
  · rw [remSum_snoc, powAt_none (atL_neg.1 hi), Int.add_zero]
theorem rem_zero {V C : List Sd} {k : Nat} {c : Sd} (hx : C[k]? = some c) (h0 : c.pow = 0) : remSum V (upsL (C.take (k + 1))) = remSum V (upsL (C.take k)) := by
  rw [take_next hx, ups_snoc, if_pos h0]
theorem ups_tot (C : List Sd) : totL (upsL C) = totL C := by
  induction C with
  | nil => rfl
  | cons c r ih =>
    unfold upsL at *
    rw [List.filter_cons]
    by_cases h : c.pow = 0
    · simp only [h, beq_self_eq_true, Bool.not_true, Bool.false_eq_true, if_false]; rw [ih, totL_cons, h, Int.zero_add]
    · have hb : (!(c.pow == 0)) = true := by simpa using h
      rw [if_pos hb, totL_cons, totL_cons, ih]
/-- what stays when those who go or change are taken away is no less than nought -/
theorem rest_nn {V C : List Sd} (hV : (adrs V).Nodup) (hp : ∀ x ∈ V, 1 ≤ x.pow) (g : goodCh C) : 0 ≤ totL V - remSum V (delsL C) - remSum V (upsL C) := by
  have hn : ∀ (l r : List Sd), remSum V (l ++ r) = remSum V l + remSum V r := fun l r => by
    induction l with
    | nil => simp [remSum]
    | cons x l ih => simp only [List.cons_append, remSum, ih]; omega
  have hpm : (delsL C ++ upsL C).Perm C := by
    unfold delsL upsL
    exact List.filter_append_perm _ C
  have h1 := tot_drop V hV C g.2
  have h2 : 0 ≤ totL (V.filter (notIn C)) := sumI_nn _ (fun p hp' => by obtain ⟨x, hx, rfl⟩ := List.mem_map.1 hp'; have := hp x (List.mem_filter.1 hx).1; omega)
  have h3 := remSum_perm V hpm
  rw [hn] at h3
  omega
theorem okCh_iff {V C : List Sd} {fresh gone : Nat} {less : Int} (h : Tal V C fresh gone less) (h1 : ¬ (fresh = 0 ∧ gone = V.length)) (h2 : totL V - less - remSum V (upsL C) + totL C ≤ 1152921504606846975) : okCh V C := by
  refine ⟨h.good, h.dels, fun hc => h1 ⟨by rw [h.fresh_]; exact hc.1, by rw [h.gone_]; exact hc.2.symm⟩, ?_⟩
  have := sumD_eq V (upsL C); rw [ups_tot] at this; rw [← h.less_]; omega
theorem not_ok_some {V C : List Sd} {fresh gone : Nat} {less : Int} (h : Tal V C fresh gone less) (h1 : fresh = 0 ∧ gone = V.length) : ¬ okCh V C := fun k => k.some_ ⟨by rw [← h.fresh_]; exact h1.1, by rw [← h.gone_]; exact h1.2.symm⟩
theorem not_ok_most {V C : List Sd} {fresh gone : Nat} {less : Int} (h : Tal V C fresh gone less) {k : Nat} (h2 : 1152921504606846975 < totL V - less - remSum V (upsL C) + totL (C.take k)) : ¬ okCh V C := fun g => by
  have h3 := g.most
  have := sumD_eq V (upsL C); rw [ups_tot] at this; rw [← h.less_] at h3
  have h4 : totL C = totL (C.take k) + totL (C.drop k) := by rw [← totL_append, List.take_append_drop]
  have h5 : 0 ≤ totL (C.drop k) := sumI_nn _ (fun p hp' => by obtain ⟨x, hx, rfl⟩ := List.mem_map.1 hp'; exact (h.good.1 x (List.mem_of_mem_drop hx)).1)
  omega
theorem kept_step {V C : List Sd} {k : Nat} {s : Sd} (hx : V[k]? = some s) : (V.take (k + 1)).filterMap (keepF C) = (V.take k).filterMap (keepF C) ++ (keepF C s).toList := by
  rw [take_next hx, List.filterMap_append]
  cases h : keepF C s <;> simp [h]
theorem fresh_step {V C : List Sd} {T : Int} {k : Nat} {c : Sd} (hx : C[k]? = some c) : (C.take (k + 1)).filterMap (freshF V T) = (C.take k).filterMap (freshF V T) ++ (freshF V T c).toList := by
  rw [take_next hx, List.filterMap_append]
  cases h : freshF V T c <;> simp [h]
theorem keep_none {C : List Sd} {s : Sd} (h : atL s.adr C < 0) : keepF C s = some s := by unfold keepF; rw [atL_neg.1 h]
theorem keep_some {C : List Sd} {s c : Sd} {i : Nat} (h : atL s.adr C = (i : Int)) (hc : C[i]? = some c) : keepF C s = if 0 < c.pow then some { s with pow := c.pow, key := c.key } else none := by unfold keepF; rw [seatAt_some h hc]
theorem srt_exists {V : List Sd} (hV : (adrs V).Nodup) : ∃ VS : List Sd, VS.Perm V ∧ Srt VS := by
  refine ⟨V.mergeSort fun x y => !adrB y x, List.mergeSort_perm _ _, ?_⟩
  have h := List.pairwise_mergeSort (le := fun x y : Sd => !adrB y x) (fun a b c h1 h2 => by
      simp only [Bool.not_eq_true'] at *
      exact (swo_adr id).ntrans _ _ _ h2 h1) (fun a b => by
      cases h1 : adrB b a with
      | false => simp
      | true =>
        cases h2 : adrB a b with
        | false => simp
        | true => have := less_trans h1 h2; rw [less_irrefl] at this; cases this) V
  exact srt_of (h.imp fun h => by simpa using h) (((List.mergeSort_perm V _).map _).nodup_iff.2 hV)
theorem kept_total {V C : List Sd} (hV : (adrs V).Nodup) (k : okCh V C) : totL (keptL V C) = totL V + sumD V (upsL C) - remSum V (delsL C) := by
  obtain ⟨VS, hVS, hVs⟩ := srt_exists hV
  obtain ⟨S, hS, hSs⟩ := srt_exists k.good.2
  have h1 := kept_perm hV k.good.2 (fun u hu => (k.good.1 u hu).1) hVS hVs hS hSs _ rfl
  have h2 := kept_tot hV hVS hVs hSs (totL V + sumD V (upsL C))
  rw [totL_perm h1] at h2
  have h3 : (upsL S).Perm (upsL C) := hS.filter _
  have h4 : (delsL S).Perm (delsL C) := hS.filter _
  rw [h2, sumD_perm V h3, remSum_perm V h4]
end Go.Proofs.YtikikddkhikfkaaGreatDoor

set_option linter.all false
namespace Go.Proofs.YtikikddkhikfkaaGreatDoor
open Go.RowKit

set_option maxHeartbeats 1600000 in
theorem sat_same (l : List Sd) (A : Option Addr) (n c : Nat) (a : ByteArray) (w : World) (hr : Rd w w.heap.size 4 A n (cellsOf l)) (hn : n ≤ 1000000) :
    Calls Tryz.prog 37 #[.slice A n c, .string a] w fun e w' => e = .returned (.int .i64 (atL a l)) ∧ w = w' := by
  have HL := Lib.hid hr.len
  have HR := Lib.hid hr; clear hr
  go_enter Tryz.func37, Tryz.ntmps37
  go_wp2
  go_loopw [8] (fun i wr => ∃ k : Nat, k ≤ n ∧ i = .int .i64 k ∧ Hid (findAt (isA a) (l.drop k) k = atL a l) ∧ Hid (w = wr)) (fun i _ => n - (intOf i).toNat)
  case atStart => exact ⟨0, Nat.zero_le _, rfl, rfl, rfl⟩
  case round =>
    obtain ⟨k, hk, rfl, HF, HW⟩ := hrel
    have hW := HW.out
    subst hW
    by_cases hlt : k < n
    · have hk' : k < l.length := by have := HL.out; omega
      have hx : l[k]? = some l[k] := List.getElem?_eq_getElem hk'
      obtain ⟨ad, rfl, _, c0, c1, c2, c3⟩ := HR.out.seat hx
      have hd := findAt_drop (isA a) l k _ hx
      rw [HF.out] at hd
      generalize l[k] = x at *
      have HX := Lib.hid hx; have HD := Lib.hid hd; clear hx hd HF c1 c2 c3
      by_cases hs : x.adr.toList = a.toList
      · have hs' : isA a x = true := by unfold isA; simpa using hs
        rw [hs'] at HD
        have hsb : (x.adr.toList == a.toList) = true := hs'
        clear hs hs'
        go_wp2
        go_ret
        exact ⟨ret_int (by have hd := HD.out; simp only [if_true] at hd; exact hd.symm), rfl⟩
      · have hs' : isA a x = false := by unfold isA; simpa using hs
        rw [hs'] at HD
        have hsb : (x.adr.toList == a.toList) = false := hs'
        clear hs hs'
        go_wp2
        go_roundw
        case rel => exact ⟨k + 1, by omega, by go_num, by have hd := HD.out; simp only [Bool.false_eq_true, if_false] at hd; exact hd.symm, trivial⟩
        case measure => simp [intOf]; omega
    · obtain rfl : k = n := by omega
      have hd : atL a l = -1 := by
        rw [← HF.out, List.drop_of_length_le (by rw [← HL.out]; exact Nat.le_refl _)]; rfl
      have HD := Lib.hid hd; clear hd
      go_wp2
      go_ret
      exact ⟨ret_int HD.out.symm, rfl⟩
end Go.Proofs.YtikikddkhikfkaaGreatDoor
