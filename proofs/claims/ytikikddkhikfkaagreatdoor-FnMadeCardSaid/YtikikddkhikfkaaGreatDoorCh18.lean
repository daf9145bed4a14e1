/-
  spec.Total, spec.Ahead, spec.First: walks. By the session. spec.First: the walk. By the session. spec.Turned: the walk. By the session. spec.Total, spec.Turned where only the power of all is bounded. Printed by gen_wide.py out of XSpec1, XSTurned. By the session.
-/
import Derived.Test.YtikikddkhikfkaaGreatDoorCh9
import Derived.Test.YtikikddkhikfkaaGreatDoorCh6
set_option linter.unusedSimpArgs false
namespace Go.Proofs.YtikikddkhikfkaaGreatDoor
open Go.RowKit

theorem aheadB_anti {x y : Sd} (h : x.adr.toList ≠ y.adr.toList) : aheadB x y = !aheadB y x := by
  unfold aheadB
  have hb := bytesLess_anti _ _ h
  by_cases h1 : y.pri < x.pri
  · have h2 : ¬ x.pri < y.pri := by omega
    have h3 : ¬ y.pri = x.pri := by omega
    simp [h1, h2, h3]
  · by_cases h2 : x.pri < y.pri
    · have h3 : ¬ x.pri = y.pri := by omega
      simp [h1, h2, h3]
    · have h3 : x.pri = y.pri := by omega
      rw [hb]
      simp [h3]

set_option maxHeartbeats 800000 in
theorem stotal_any (l : List Sd) (A : Option Addr) (n c : Nat) (w : World) (hr : Rd w w.heap.size 4 A n (cellsOf l)) (hn : n ≤ 1000) (hp : ∀ x ∈ l, 0 ≤ x.pow ∧ x.pow ≤ 1125899906842624) :
    Calls Tryz.prog 38 #[.slice A n c] w fun e w' => e = .returned (.int .i64 (totL l)) ∧ Below w.heap.size w w' := by
  have HL := Lib.hid hr.len
  have HR := Lib.hid hr; have HP := Lib.hid hp; clear hr hp
  go_enter Tryz.func38, Tryz.ntmps38
  go_wp2
  go_loopw [3, 8] (fun s i wr => ∃ k : Nat, k ≤ n ∧ i = .int .i64 k ∧ s = .int .i64 (sumI ((powsOf l).take k)) ∧ Hid (Below w.heap.size w wr)) (fun _ i _ => n - (intOf i).toNat)
  case atStart => exact ⟨0, Nat.zero_le _, rfl, rfl, Below.refl _ _⟩
  case round =>
    obtain ⟨k, hk, rfl, rfl, HB⟩ := hrel
    by_cases hlt : k < n
    · have hk' : k < l.length := by have := HL.out; omega
      have hx : l[k]? = some l[k] := List.getElem?_eq_getElem hk'
      obtain ⟨ad, rfl, _, c0, c1, c2, c3⟩ := (HR.out.below HB.out).seat hx
      have hpx := HP.out _ (List.getElem_mem hk')
      have hst : (powsOf l).take (k + 1) = (powsOf l).take k ++ [l[k].pow] := by
        have hl2 : k < (powsOf l).length := by simpa [powsOf] using hk'
        rw [List.take_succ_eq_append_getElem hl2]; simp [powsOf]
      have hbd := sumI_bd ((powsOf l).take k) 0 1125899906842624 (fun x hx => by
        obtain ⟨s, hs, rfl⟩ := List.mem_map.1 (List.mem_of_mem_take hx)
        exact HP.out s hs)
      have hlen : ((powsOf l).take k).length ≤ k := List.length_take_le _ _
      generalize ((powsOf l).take k).length = m at *
      generalize l[k] = x at *
      have hs := sumI_snoc ((powsOf l).take k) x.pow
      rw [← hst] at hs
      generalize sumI ((powsOf l).take k) = s at *
      have HS := Lib.hid hs; clear hs hst hx
      go_wp2
      go_roundw
      case rel => exact ⟨k + 1, by omega, by go_num, by rw [HS.out], HB.out.alloc HB.out.size _⟩
      case measure => simp [intOf]; omega
    · obtain rfl : k = n := by omega
      have hsum : sumI ((powsOf l).take k) = totL l := by
        unfold totL; rw [List.take_of_length_le (by have := HL.out; simp [powsOf]; omega)]
      rw [hsum]
      clear hsum
      go_wp2
      go_ret
      exact ⟨rfl, HB.out⟩

set_option maxHeartbeats 800000 in
theorem ahead_any (x y : Sd) (w : World) :
    Calls Tryz.prog 113 #[.agg #[.string x.adr, .string x.key, .int .i64 x.pow, .int .i64 x.pri], .agg #[.string y.adr, .string y.key, .int .i64 y.pow, .int .i64 y.pri]] w fun e w' => e = .returned (.bool (aheadB x y)) ∧ Below w.heap.size w w' := by
  have hb := Lib.hid (((Below.refl w.heap.size w).alloc (Nat.le_refl _) (.cells #[.string x.adr, .string x.key, .int .i64 x.pow, .int .i64 x.pri] 57)).alloc (by simp) (.cells #[.string y.adr, .string y.key, .int .i64 y.pow, .int .i64 y.pri] 57))
  by_cases h : x.pri = y.pri
  · have h1 : (x.pri == y.pri) = true := by simpa using h
    have h2 : aheadB x y = Op.bytesLess x.adr.toList y.adr.toList := by simp [aheadB, h]
    have H2 := Lib.hid h2; clear h2 h
    go_enter Tryz.func113, Tryz.ntmps113
    go_wp2
    go_ret
    rw [H2.out]
    exact ⟨rfl, hb.out⟩
  · have h1 : (x.pri == y.pri) = false := by simpa using h
    have h2 : aheadB x y = decide (y.pri < x.pri) := by simp [aheadB, h]
    have H2 := Lib.hid h2; clear h2 h
    go_enter Tryz.func113, Tryz.ntmps113
    go_wp2
    go_ret
    rw [H2.out]
    exact ⟨rfl, hb.out⟩
end Go.Proofs.YtikikddkhikfkaaGreatDoor

set_option linter.unusedSimpArgs false
namespace Go.Proofs.YtikikddkhikfkaaGreatDoor
open Go.RowKit

def ixOf : Option (Sd × Nat) → Int
  | none => -1
  | some q => q.2

set_option maxRecDepth 100000 in
set_option maxHeartbeats 3200000 in
theorem sfirst_any (l : List Sd) (A : Option Addr) (n c : Nat) (w : World) (hr : Rd w w.heap.size 4 A n (cellsOf l)) (hn : n ≤ 1000) (hd : distinct l) :
    Calls Tryz.prog 72 #[.slice A n c] w fun e w' => e = .returned (.int .i64 (ixOf (propOf l))) ∧ Below w.heap.size w w' := by
  have HL := Lib.hid hr.len
  have HR := Lib.hid hr; have HD := Lib.hid hd; clear hr hd
  go_enter Tryz.func72, Tryz.ntmps72
  go_wp2
  go_loopw [3, 7] (fun v i wr => ∃ k : Nat, k ≤ n ∧ i = .int .i64 k ∧ v = .int .i64 (ixOf ((l.zipIdx.take k).foldl pstep none)) ∧ Hid (∀ q, (l.zipIdx.take k).foldl pstep none = some q → q.2 < k ∧ l[q.2]? = some q.1) ∧ Hid (Below w.heap.size w wr)) (fun _ i _ => n - (intOf i).toNat)
  case atStart => exact ⟨0, Nat.zero_le _, rfl, rfl, (fun q hq => by simp at hq), Below.refl _ _⟩
  case round =>
    obtain ⟨k, hk, rfl, rfl, HQ, HB⟩ := hrel
    by_cases hlt : k < n
    · have hk' : k < l.length := by have := HL.out; omega
      have hx : l[k]? = some l[k] := List.getElem?_eq_getElem hk'
      have hxk : l.zipIdx[k]? = some (l[k], k) := by rw [List.getElem?_zipIdx, hx]; simp
      have hnx := foldl_take_succ pstep none l.zipIdx k _ hxk
      have hrr := HR.out.below HB.out
      obtain ⟨ad, rfl, hadb, c0, c1, c2, c3⟩ := hrr.seat hx
      generalize l[k] = x at *
      have HNX := Lib.hid hnx; have HX := Lib.hid hx; clear hnx hx hxk
      cases hbest : (l.zipIdx.take k).foldl pstep none with
      | none =>
        rw [hbest] at HNX
        simp only [ixOf]
        clear hrr c0 c1 c2 c3
        go_wp2_with fail
        refine wp_region_L (fun w' : World => w' = wr.drew) 12 (by kernel_rfl) ?_
        refine wpAnyL_take 0 (v := .int .i64 (-1)) rfl (by kernel_rfl) (fun _ _ _ h => h) (yields_in rfl (fun w' hw' => by subst hw'; go_simp)) rfl ?_
        simp only [Act.put, List.setIfInBounds_toArray, List.set_cons_zero, List.set_cons_succ]
        refine wpAnyL_take 1 (v := .bool true) rfl (by kernel_rfl) (fun _ _ _ h => h) (yields_in rfl (fun w' hw' => by subst hw'; go_simp)) rfl ?_
        simp only [Act.put, List.setIfInBounds_toArray, List.set_cons_zero, List.set_cons_succ]
        refine wpAnyL_take 2 (v := .bool true) rfl (by kernel_rfl) (fun _ _ _ h => h) (yields_in rfl (fun w' hw' => by subst hw'; go_simp)) rfl ?_
        simp only [Act.put, List.setIfInBounds_toArray, List.set_cons_zero, List.set_cons_succ]
        refine wpAnyL_take 3 (v := undef) rfl (by kernel_rfl) (fun _ _ _ h => h) (yields_off (by kernel_rfl)) rfl ?_
        simp only [Act.put, List.setIfInBounds_toArray, List.set_cons_zero, List.set_cons_succ]
        refine wpAnyL_take 4 (v := undef) rfl (by kernel_rfl) (fun _ _ _ h => h) (yields_off (by kernel_rfl)) rfl ?_
        simp only [Act.put, List.setIfInBounds_toArray, List.set_cons_zero, List.set_cons_succ]
        refine wpAnyL_take 5 (v := undef) rfl (by kernel_rfl) (fun _ _ _ h => h) (yields_off (by kernel_rfl)) rfl ?_
        simp only [Act.put, List.setIfInBounds_toArray, List.set_cons_zero, List.set_cons_succ]
        refine wpAnyL_take 6 (v := undef) rfl (by kernel_rfl) (fun _ _ _ h => h) (yields_off (by kernel_rfl)) rfl ?_
        simp only [Act.put, List.setIfInBounds_toArray, List.set_cons_zero, List.set_cons_succ]
        refine wpAnyL_take 7 (v := undef) rfl (by kernel_rfl) (fun _ _ _ h => h) (yields_off (by kernel_rfl)) rfl ?_
        simp only [Act.put, List.setIfInBounds_toArray, List.set_cons_zero, List.set_cons_succ]
        refine wpAnyL_take 8 (v := undef) rfl (by kernel_rfl) (fun _ _ _ h => h) (yields_off (by kernel_rfl)) rfl ?_
        simp only [Act.put, List.setIfInBounds_toArray, List.set_cons_zero, List.set_cons_succ]
        refine wpAnyL_take 9 (v := undef) rfl (by kernel_rfl) (fun _ _ _ h => h) (yields_off (by kernel_rfl)) rfl ?_
        simp only [Act.put, List.setIfInBounds_toArray, List.set_cons_zero, List.set_cons_succ]
        refine wpAnyL_take 10 (v := undef) rfl (by kernel_rfl) (fun _ _ _ h => h) (yields_off (by kernel_rfl)) rfl ?_
        simp only [Act.put, List.setIfInBounds_toArray, List.set_cons_zero, List.set_cons_succ]
        refine wpAnyL_off 11 rfl (by kernel_rfl) (by kernel_rfl) rfl ?_
        simp only [Act.put, List.setIfInBounds_toArray, List.set_cons_zero, List.set_cons_succ]
        refine wpAnyL_one 12 rfl (by kernel_rfl) rfl ?_
        go_simp
        refine wpAnyL_done (by kernel_rfl) ?_ _
        go_wp2
        go_roundw
        case rel => exact ⟨k + 1, by omega, by go_num, by rw [HNX.out]; rfl, (fun q hq => by rw [HNX.out] at hq; simp only [pstep, Option.some.injEq] at hq; subst hq; exact ⟨Nat.lt_succ_self _, HX.out⟩), HB.out.drew⟩
        case measure => simp [intOf]; omega
      | some q =>
        obtain ⟨hqk, hqa⟩ := HQ.out q hbest
        obtain ⟨ad', h', _, d0, d1, d2, d3⟩ := hrr.seat hqa
        obtain rfl := Option.some.inj h'
        have hne : q.1.adr.toList ≠ x.adr.toList := HD.out q.2 k q.1 x hqa HX.out (by omega)
        have hqn : q.2 < n := by omega
        have hst : pstep (some q) (x, k) = if aheadB q.1 x then some q else some (x, k) := by
          have e1 : (q.1.adr.toList == x.adr.toList) = false := by simpa using hne
          simp only [pstep, e1, Bool.false_or]
        rw [hbest, hst] at HNX
        have hanti : aheadB x q.1 = !aheadB q.1 x := aheadB_anti (fun e => hne e.symm)
        have KC := Lib.hid (fun W => ahead_any x q.1 W)
        rw [hanti] at KC
        have HQA := Lib.hid hqa
        simp only [ixOf]
        clear hrr hbest hst hanti hne hqa h'
        obtain ⟨y, m⟩ := q
        simp only at *
        go_wp2_with fail
        have hS : (fun w' : World => Below wr.heap.size wr w' ∧ w'.cell? (ad.add (k * 4)) = some (.string x.adr) ∧ w'.cell? ⟨(ad.add (k * 4)).block, (ad.add (k * 4)).off + 1, none⟩ = some (.string x.key) ∧ w'.cell? ⟨(ad.add (k * 4)).block, (ad.add (k * 4)).off + 2, none⟩ = some (.int .i64 x.pow) ∧ w'.cell? ⟨(ad.add (k * 4)).block, (ad.add (k * 4)).off + 3, none⟩ = some (.int .i64 x.pri)
          ∧ w'.cell? (ad.add (m * 4)) = some (.string y.adr) ∧ w'.cell? ⟨(ad.add (m * 4)).block, (ad.add (m * 4)).off + 1, none⟩ = some (.string y.key) ∧ w'.cell? ⟨(ad.add (m * 4)).block, (ad.add (m * 4)).off + 2, none⟩ = some (.int .i64 y.pow) ∧ w'.cell? ⟨(ad.add (m * 4)).block, (ad.add (m * 4)).off + 3, none⟩ = some (.int .i64 y.pri)) wr.drew := ⟨(Below.refl _ _).drew, c0, c1, c2, c3, d0, d1, d2, d3⟩
        have HS := Lib.hid hS; clear hS
        refine wp_region_L (fun w' : World => Below wr.heap.size wr w' ∧ w'.cell? (ad.add (k * 4)) = some (.string x.adr) ∧ w'.cell? ⟨(ad.add (k * 4)).block, (ad.add (k * 4)).off + 1, none⟩ = some (.string x.key) ∧ w'.cell? ⟨(ad.add (k * 4)).block, (ad.add (k * 4)).off + 2, none⟩ = some (.int .i64 x.pow) ∧ w'.cell? ⟨(ad.add (k * 4)).block, (ad.add (k * 4)).off + 3, none⟩ = some (.int .i64 x.pri)
          ∧ w'.cell? (ad.add (m * 4)) = some (.string y.adr) ∧ w'.cell? ⟨(ad.add (m * 4)).block, (ad.add (m * 4)).off + 1, none⟩ = some (.string y.key) ∧ w'.cell? ⟨(ad.add (m * 4)).block, (ad.add (m * 4)).off + 2, none⟩ = some (.int .i64 y.pow) ∧ w'.cell? ⟨(ad.add (m * 4)).block, (ad.add (m * 4)).off + 3, none⟩ = some (.int .i64 y.pri)) 12 (by kernel_rfl) ?_
        refine wpAnyL_take 0 (v := .int .i64 m) rfl (by kernel_rfl) (fun _ _ _ h => h) (yields_on (by kernel_rfl) (fun w' hw' => by obtain ⟨yb, y0, y1, y2, y3, z0, z1, z2, z3⟩ := hw'; go_simp)) HS.out ?_
        simp only [Act.put, List.setIfInBounds_toArray, List.set_cons_zero, List.set_cons_succ]
        refine wpAnyL_take 1 (v := .bool false) rfl (by kernel_rfl) (fun _ _ _ h => h) (yields_on (by kernel_rfl) (fun w' hw' => by obtain ⟨yb, y0, y1, y2, y3, z0, z1, z2, z3⟩ := hw'; go_simp)) HS.out ?_
        simp only [Act.put, List.setIfInBounds_toArray, List.set_cons_zero, List.set_cons_succ]
        refine wpAnyL_take 2 (v := .bool false) rfl (by kernel_rfl) (fun _ _ _ h => h) (yields_on (by kernel_rfl) (fun w' hw' => by obtain ⟨yb, y0, y1, y2, y3, z0, z1, z2, z3⟩ := hw'; go_simp)) HS.out ?_
        simp only [Act.put, List.setIfInBounds_toArray, List.set_cons_zero, List.set_cons_succ]
        refine wpAnyL_take 3 (v := .slice (some ad) n c) rfl (by kernel_rfl) (fun _ _ _ h => h) (yields_on (by kernel_rfl) (fun w' hw' => by obtain ⟨yb, y0, y1, y2, y3, z0, z1, z2, z3⟩ := hw'; go_simp)) HS.out ?_
        simp only [Act.put, List.setIfInBounds_toArray, List.set_cons_zero, List.set_cons_succ]
        refine wpAnyL_take 4 (v := .int .i64 k) rfl (by kernel_rfl) (fun _ _ _ h => h) (yields_on (by kernel_rfl) (fun w' hw' => by obtain ⟨yb, y0, y1, y2, y3, z0, z1, z2, z3⟩ := hw'; go_simp)) HS.out ?_
        simp only [Act.put, List.setIfInBounds_toArray, List.set_cons_zero, List.set_cons_succ]
        refine wpAnyL_take 5 (v := .pointer (some (ad.add (k * 4)))) rfl (by kernel_rfl) (fun _ _ _ h => h) (yields_on (by kernel_rfl) (fun w' hw' => by obtain ⟨yb, y0, y1, y2, y3, z0, z1, z2, z3⟩ := hw'; go_simp)) HS.out ?_
        simp only [Act.put, List.setIfInBounds_toArray, List.set_cons_zero, List.set_cons_succ]
        refine wpAnyL_take 6 (v := .agg #[.string x.adr, .string x.key, .int .i64 x.pow, .int .i64 x.pri]) rfl (by kernel_rfl) (fun _ _ _ h => h) (yields_on (by kernel_rfl) (fun w' hw' => by obtain ⟨yb, y0, y1, y2, y3, z0, z1, z2, z3⟩ := hw'; go_simp)) HS.out ?_
        simp only [Act.put, List.setIfInBounds_toArray, List.set_cons_zero, List.set_cons_succ]
        refine wpAnyL_take 7 (v := .slice (some ad) n c) rfl (by kernel_rfl) (fun _ _ _ h => h) (yields_on (by kernel_rfl) (fun w' hw' => by obtain ⟨yb, y0, y1, y2, y3, z0, z1, z2, z3⟩ := hw'; go_simp)) HS.out ?_
        simp only [Act.put, List.setIfInBounds_toArray, List.set_cons_zero, List.set_cons_succ]
        refine wpAnyL_take 8 (v := .int .i64 m) rfl (by kernel_rfl) (fun _ _ _ h => h) (yields_on (by kernel_rfl) (fun w' hw' => by obtain ⟨yb, y0, y1, y2, y3, z0, z1, z2, z3⟩ := hw'; go_simp)) HS.out ?_
        simp only [Act.put, List.setIfInBounds_toArray, List.set_cons_zero, List.set_cons_succ]
        refine wpAnyL_take 9 (v := .pointer (some (ad.add (m * 4)))) rfl (by kernel_rfl) (fun _ _ _ h => h) (yields_on (by kernel_rfl) (fun w' hw' => by obtain ⟨yb, y0, y1, y2, y3, z0, z1, z2, z3⟩ := hw'; go_simp)) HS.out ?_
        simp only [Act.put, List.setIfInBounds_toArray, List.set_cons_zero, List.set_cons_succ]
        refine wpAnyL_take 10 (v := .agg #[.string y.adr, .string y.key, .int .i64 y.pow, .int .i64 y.pri]) rfl (by kernel_rfl) (fun _ _ _ h => h) (yields_on (by kernel_rfl) (fun w' hw' => by obtain ⟨yb, y0, y1, y2, y3, z0, z1, z2, z3⟩ := hw'; go_simp)) HS.out ?_
        simp only [Act.put, List.setIfInBounds_toArray, List.set_cons_zero, List.set_cons_succ]
        refine wpAnyL_on 11 rfl (by kernel_rfl) (by kernel_rfl) ?_
        go_simp
        refine (KC.out _).mono ?_
        rintro e w1 ⟨rfl, hb1⟩
        have hb2 : Below wr.heap.size wr w1 := (Below.refl _ _).drew.trans hb1
        have hadr : ad.block < wr.heap.size := Nat.lt_of_lt_of_le hadb HB.out.size
        have HB2 := Lib.hid hb2; clear hb1 hb2
        refine ⟨⟨HB2.out, (HB2.out.cell (p := ad.add (k * 4)) (by rw [add_block]; exact hadr)).trans c0, (HB2.out.cell (p := ⟨(ad.add (k * 4)).block, (ad.add (k * 4)).off + 1, none⟩) (by rw [add_block]; exact hadr)).trans c1, (HB2.out.cell (p := ⟨(ad.add (k * 4)).block, (ad.add (k * 4)).off + 2, none⟩) (by rw [add_block]; exact hadr)).trans c2, (HB2.out.cell (p := ⟨(ad.add (k * 4)).block, (ad.add (k * 4)).off + 3, none⟩) (by rw [add_block]; exact hadr)).trans c3, (HB2.out.cell (p := ad.add (m * 4)) (by rw [add_block]; exact hadr)).trans d0, (HB2.out.cell (p := ⟨(ad.add (m * 4)).block, (ad.add (m * 4)).off + 1, none⟩) (by rw [add_block]; exact hadr)).trans d1, (HB2.out.cell (p := ⟨(ad.add (m * 4)).block, (ad.add (m * 4)).off + 2, none⟩) (by rw [add_block]; exact hadr)).trans d2, (HB2.out.cell (p := ⟨(ad.add (m * 4)).block, (ad.add (m * 4)).off + 3, none⟩) (by rw [add_block]; exact hadr)).trans d3⟩, ?_⟩
        refine wpAnyL_one 12 rfl (by kernel_rfl) rfl ?_
        go_simp
        refine wpAnyL_done (by kernel_rfl) ?_ _
        cases hah : aheadB y x with
        | true =>
          rw [hah] at HNX
          go_wp2
          go_roundw
          case rel => exact ⟨k + 1, by omega, by go_num, by rw [HNX.out]; rfl, (fun q hq => by rw [HNX.out] at hq; simp only [if_true, Option.some.injEq] at hq; subst hq; exact ⟨by omega, HQA.out⟩), HB.out.trans (HB2.out.mono HB.out.size)⟩
          case measure => simp [intOf]; omega
        | false =>
          rw [hah] at HNX
          go_wp2
          go_roundw
          case rel => exact ⟨k + 1, by omega, by go_num, by rw [HNX.out]; rfl, (fun q hq => by rw [HNX.out] at hq; simp at hq; subst hq; exact ⟨Nat.lt_succ_self _, HX.out⟩), HB.out.trans (HB2.out.mono HB.out.size)⟩
          case measure => simp [intOf]; omega
    · obtain rfl : k = n := by omega
      have hf : l.zipIdx.take k = l.zipIdx := List.take_of_length_le (by have := HL.out; simp; omega)
      rw [hf]
      clear hf
      go_wp2
      go_ret
      exact ⟨rfl, HB.out⟩
end Go.Proofs.YtikikddkhikfkaaGreatDoor

set_option linter.unusedSimpArgs false
namespace Go.Proofs.YtikikddkhikfkaaGreatDoor
open Go.RowKit

theorem addP_mid (l : List Sd) (j : Nat) (x : Sd) (hx : l[j]? = some x) : (mapTo addP l j).set j { x with pri := clip (x.pri + x.pow) } = mapTo addP l (j + 1) := mapTo_succ addP l j x hx

set_option maxRecDepth 100000 in
set_option maxHeartbeats 6400000 in
theorem sturned_any (l : List Sd) (A : Option Addr) (n c times : Nat) (w : World) (hr : Rd w w.heap.size 4 A n (cellsOf l)) (hl : turnable l) (htm : 0 < times) (htm2 : times ≤ 100000) :
    Calls Tryz.prog 45 #[.slice A n c, .int .i64 times] w fun e w' => ∃ A' c', e = .returned (.tuple #[.slice A' n c', .string (nextP (turnsL (totL l) (times - 1) (startL l)))]) ∧ Rd w' w'.heap.size 4 A' n (cellsOf (turnsL (totL l) times (startL l))) ∧ Below w.heap.size w w' := by
  have hln := hr.len
  have hn : n ≤ 500 := by have := hl.len; omega
  have hn0 : 0 < n := by have := List.length_pos_iff.2 hl.ne; omega
  have hT := sumI_bd (powsOf l) 1 1125899906842624 (fun x hx => by
    obtain ⟨s, hs, rfl⟩ := List.mem_map.1 hx
    exact hl.pow s hs)
  have hpl : (powsOf l).length = n := by simp [powsOf, hln]
  rw [hpl] at hT
  have hT' : (n : Int) * 1 ≤ totL l ∧ totL l ≤ (n : Int) * 1125899906842624 := hT
  have hspri := scaleL_pri (2 * totL l) l 1152921504606846976 (fun s hs => by have := hl.pri s hs; omega)
  have hcore : ∀ k, (turnsL (totL l) k (startL l)).map core = l.map core := fun k => (turnsL_core _ _ k).trans (startL_core _)
  have hgin := turnsL_in (totL l) _ (startL_in l)
  have hpow : ∀ k, ∀ s ∈ turnsL (totL l) k (startL l), in64 s.pow := fun k => pow_of_core (p := in64) (hcore k) (fun s hs => by have := hl.pow s hs; unfold in64; omega)
  have hdist : ∀ k, distinct (turnsL (totL l) k (startL l)) := fun k => distinct_of_core (hcore k) hl.dist
  have hlens : ∀ k, (turnsL (totL l) k (startL l)).length = n := fun k => by rw [length_of_core (hcore k)]; exact hln.symm
  have KT := Lib.hid (stotal_any l A n c w hr (by omega) (fun x hx => by have := hl.pow x hx; omega))
  have hst : startL l = shiftL (scaleL (2 * totL l) l) := rfl
  have HST := Lib.hid hst; have HL := Lib.hid hln; have HR := Lib.hid hr; have HTN := Lib.hid hl; have HSP := Lib.hid hspri; have HGI := Lib.hid hgin; have HPW := Lib.hid hpow; have HDI := Lib.hid hdist; have HLN := Lib.hid hlens
  clear hst hln hr hl hspri hgin hpow hdist hlens hcore hpl hT
  generalize totL l = T at *
  go_enter Tryz.func45, Tryz.ntmps45
  go_wp2_with fail
  refine KT.out.mono ?_
  rintro e w1 ⟨rfl, hb1⟩
  have HB1 := Lib.hid hb1; clear hb1
  have KS := Lib.hid (sscaled_any l A n c (2 * T) w1 ((HR.out.below HB1.out).more HB1.out.size) (by omega) hn0 HTN.out.pri (by omega))
  go_wp2_with fail
  refine KS.out.mono ?_
  rintro e w2 ⟨A2, c2, rfl, hr2, hb2⟩
  have HB2 := Lib.hid (HB1.out.trans (hb2.mono HB1.out.size))
  have KH := Lib.hid (shifted_any _ A2 n c2 w2 hr2 (by omega) hn0 (fun x hx => by have := HSP.out x hx; omega))
  rw [← HST.out] at KH
  clear hr2 hb2
  go_wp2_with fail
  refine KH.out.mono ?_
  rintro e w3 ⟨A1, c1, rfl, ho3, hb3⟩
  have HO3 := Lib.hid ho3; have HB3 := Lib.hid hb3; clear ho3 hb3
  have z2 := HB2.out.size
  go_wp2
  go_loopw [8, 19] (fun p i wr => ∃ k : Nat, k ≤ times ∧ i = .int .i64 k ∧ Hid (wr.ownsRow w2.heap.size 57 4 (.slice A1 n c1) n (cellsOf (turnsL T k (startL l)))) ∧ Hid (Below w2.heap.size w2 wr) ∧ Hid (k ≠ 0 → p = .string (nextP (turnsL T (k - 1) (startL l))))) (fun _ i _ => times - (intOf i).toNat)
  case atStart => exact ⟨0, Nat.zero_le _, rfl, HO3.out, HB3.out, fun h => absurd rfl h⟩
  case round =>
    obtain ⟨k, hk, rfl, HO, HB, HPR⟩ := hrel
    by_cases hlt : k < times
    · have hgi := HGI.out k; have hpw := HPW.out k; have hdi := HDI.out k; have hle := HLN.out k
      have hnx : turnsL T (k + 1) (startL l) = turnOf T (turnsL T k (startL l)) := rfl
      have hnp : Hid (k + 1 ≠ 0 → Value.string (nextP (turnsL T k (startL l))) = .string (nextP (turnsL T (k + 1 - 1) (startL l)))) := Lib.hid fun _ => rfl
      have HNX := Lib.hid hnx; clear hnx HPR
      have hnp2 : ∀ b, b = nextP (turnsL T k (startL l)) → Hid (k + 1 ≠ 0 → Value.string b = .string (nextP (turnsL T (k + 1 - 1) (startL l)))) := fun b e => by rw [e]; exact hnp
      have HNP := Lib.hid hnp2; clear hnp hnp2
      generalize turnsL T k (startL l) = m at *
      obtain ⟨g, cap, hv, hg0, hg1⟩ := HO.out.form (by omega)
      have e1 : A1 = some ⟨g, 0, none⟩ := by injection hv
      subst e1
      clear hv
      have HGM := Lib.hid hgi; have HPM := Lib.hid hpw; have HDM := Lib.hid hdi; have HLM := Lib.hid hle
      clear hgi hpw hdi hle
      go_wp2
      go_loopw [23] (fun i wx => ∃ j : Nat, j ≤ n ∧ i = .int .i64 j ∧ Hid (wx.ownsRow w2.heap.size 57 4 (.slice (some ⟨g, 0, none⟩) n c1) n (cellsOf (mapTo addP m j))) ∧ Hid (Below w2.heap.size w2 wx)) (fun i _ => n - (intOf i).toNat)
      case atStart => exact ⟨0, Nat.zero_le _, rfl, by rw [mapTo_zero]; exact HO.out, HB.out⟩
      case round =>
        obtain ⟨j, hj, rfl, HO4, HB4⟩ := hrel
        by_cases hjk : j < n
        · have hjl : j < m.length := by have := HLM.out; omega
          have hx : m[j]? = some m[j] := List.getElem?_eq_getElem hjl
          have hx' := mapTo_get addP m j _ hx
          have hgx := HGM.out _ (List.getElem_mem hjl)
          have hpx := HPM.out _ (List.getElem_mem hjl)
          have hsu := addP_mid m j _ hx
          generalize m[j] = x at *
          obtain ⟨x0, x1, x2, x3⟩ := own_seat HO4.out hx'
          have hf := own_free HO4.out
          have hset : ∀ q, ((wr.drewN q).setCell ⟨g, j * 4 + 3, none⟩ (.int .i64 (clip (x.pri + x.pow)))).ownsRow w2.heap.size 57 4 (.slice (some ⟨g, 0, none⟩) n c1) n (cellsOf (mapTo addP m (j + 1))) := fun q => by
            have h1 := own_pri (q := clip (x.pri + x.pow)) (own_drewN HO4.out q) hx'
            rw [hsu] at h1
            exact h1
          have KP := Lib.hid (fun W => plus_any x.pri x.pow W hgx hpx)
          have HSET := Lib.hid hset; clear hset hsu x0 x1 hx hx' hgx hpx
          generalize clip (x.pri + x.pow) = q at *
          go_wp2_with fail
          refine wp_region_L (fun w' : World => ∃ n, w' = wr.drewN n) 15 (by kernel_rfl) ?_
          refine wpAnyL_take 0 (v := .slice (some ⟨g, 0, none⟩) n c1) rfl (by kernel_rfl) (fun _ _ _ h => h) (yields_in rfl (fun w' hw' => by obtain ⟨n1, rfl⟩ := hw'; go_simp)) ⟨1, rfl⟩ ?_
          simp only [Act.put, List.setIfInBounds_toArray, List.set_cons_zero, List.set_cons_succ]
          refine wpAnyL_take 1 (v := .int .i64 j) rfl (by kernel_rfl) (fun _ _ _ h => h) (yields_in rfl (fun w' hw' => by obtain ⟨n1, rfl⟩ := hw'; go_simp)) ⟨1, rfl⟩ ?_
          simp only [Act.put, List.setIfInBounds_toArray, List.set_cons_zero, List.set_cons_succ]
          refine wpAnyL_take 2 (v := .slice (some ⟨g, 0, none⟩) n c1) rfl (by kernel_rfl) (fun _ _ _ h => h) (yields_in rfl (fun w' hw' => by obtain ⟨n1, rfl⟩ := hw'; go_simp)) ⟨1, rfl⟩ ?_
          simp only [Act.put, List.setIfInBounds_toArray, List.set_cons_zero, List.set_cons_succ]
          refine wpAnyL_take 3 (v := .int .i64 j) rfl (by kernel_rfl) (fun _ _ _ h => h) (yields_in rfl (fun w' hw' => by obtain ⟨n1, rfl⟩ := hw'; go_simp)) ⟨1, rfl⟩ ?_
          simp only [Act.put, List.setIfInBounds_toArray, List.set_cons_zero, List.set_cons_succ]
          refine wpAnyL_take 4 (v := .pointer (some ⟨g, j * 4, none⟩)) rfl (by kernel_rfl) (fun _ _ _ h => h) (yields_in rfl (fun w' hw' => by obtain ⟨n1, rfl⟩ := hw'; go_simp)) ⟨1, rfl⟩ ?_
          simp only [Act.put, List.setIfInBounds_toArray, List.set_cons_zero, List.set_cons_succ]
          refine wpAnyL_take 5 (v := .pointer (some ⟨g, j * 4 + 3, none⟩)) rfl (by kernel_rfl) (fun _ _ _ h => h) (yields_in rfl (fun w' hw' => by obtain ⟨n1, rfl⟩ := hw'; go_simp)) ⟨1, rfl⟩ ?_
          simp only [Act.put, List.setIfInBounds_toArray, List.set_cons_zero, List.set_cons_succ]
          refine wpAnyL_take 6 (v := .int .i64 x.pri) rfl (by kernel_rfl) (fun _ _ _ h => h) (yields_in rfl (fun w' hw' => by obtain ⟨n1, rfl⟩ := hw'; go_simp)) ⟨1, rfl⟩ ?_
          simp only [Act.put, List.setIfInBounds_toArray, List.set_cons_zero, List.set_cons_succ]
          refine wpAnyL_take 7 (v := .slice (some ⟨g, 0, none⟩) n c1) rfl (by kernel_rfl) (fun _ _ _ h => h) (yields_in rfl (fun w' hw' => by obtain ⟨n1, rfl⟩ := hw'; go_simp)) ⟨1, rfl⟩ ?_
          simp only [Act.put, List.setIfInBounds_toArray, List.set_cons_zero, List.set_cons_succ]
          refine wpAnyL_take 8 (v := .int .i64 j) rfl (by kernel_rfl) (fun _ _ _ h => h) (yields_in rfl (fun w' hw' => by obtain ⟨n1, rfl⟩ := hw'; go_simp)) ⟨1, rfl⟩ ?_
          simp only [Act.put, List.setIfInBounds_toArray, List.set_cons_zero, List.set_cons_succ]
          refine wpAnyL_take 9 (v := .pointer (some ⟨g, j * 4, none⟩)) rfl (by kernel_rfl) (fun _ _ _ h => h) (yields_in rfl (fun w' hw' => by obtain ⟨n1, rfl⟩ := hw'; go_simp)) ⟨1, rfl⟩ ?_
          simp only [Act.put, List.setIfInBounds_toArray, List.set_cons_zero, List.set_cons_succ]
          refine wpAnyL_take 10 (v := .pointer (some ⟨g, j * 4 + 2, none⟩)) rfl (by kernel_rfl) (fun _ _ _ h => h) (yields_in rfl (fun w' hw' => by obtain ⟨n1, rfl⟩ := hw'; go_simp)) ⟨1, rfl⟩ ?_
          simp only [Act.put, List.setIfInBounds_toArray, List.set_cons_zero, List.set_cons_succ]
          refine wpAnyL_take 11 (v := .int .i64 x.pow) rfl (by kernel_rfl) (fun _ _ _ h => h) (yields_in rfl (fun w' hw' => by obtain ⟨n1, rfl⟩ := hw'; go_simp)) ⟨1, rfl⟩ ?_
          simp only [Act.put, List.setIfInBounds_toArray, List.set_cons_zero, List.set_cons_succ]
          refine wpAnyL_one 12 rfl (by kernel_rfl) rfl ?_
          go_simp
          refine (KP.out _).mono ?_
          rintro e w5 ⟨rfl, rfl⟩
          refine ⟨⟨1, rfl⟩, ?_⟩
          refine wpAnyL_one 13 rfl (by kernel_rfl) rfl ?_
          go_simp
          refine ⟨⟨1, rfl⟩, ?_⟩
          refine wpAnyL_one 14 rfl (by kernel_rfl) rfl ?_
          go_simp
          refine ⟨⟨1, rfl⟩, ?_⟩
          refine wpAnyL_one 15 rfl (by kernel_rfl) rfl ?_
          go_simp
          refine wpAnyL_done (by kernel_rfl) ?_ _
          go_wp2
          go_roundw
          case rel => exact ⟨j + 1, by omega, by go_num, HSET.out 1, (HB4.out.drew).setCell (p := ⟨g, j * 4 + 3, none⟩) hg0 _⟩
          case measure => simp [intOf]; omega
        · obtain rfl : j = n := by omega
          have ho5 := HO4.out
          rw [mapTo_full _ _ _ (by have := HLM.out; omega)] at ho5
          have hd5 : distinct (m.map addP) := distinct_map HDM.out _ (fun _ => rfl)
          have hne : m.map addP ≠ [] := fun e => by
            have h1 := congrArg List.length e
            have := HLM.out
            simp at h1; rw [h1] at this; simp at this; omega
          obtain ⟨q, hq, hqa⟩ := propOf_at _ hne
          have hqn : q.2 < j := by
            have := (List.getElem?_eq_some_iff.1 hqa).1
            have := HLM.out
            simp at *; omega
          have hqi : in64 q.1.pri := by
            obtain ⟨y, _, hyq⟩ := List.mem_map.1 (List.mem_of_getElem? hqa)
            rw [← hyq]; exact clip_in _
          have KF := Lib.hid (sfirst_any (m.map addP) (some ⟨g, 0, none⟩) j c1 _ (Rd.of_own ho5) (by omega) hd5)
          rw [hq] at KF
          have hto : turnOf T m = (m.map addP).set q.2 { q.1 with pri := clip (q.1.pri + -T) } := by unfold turnOf; rw [hq]; rfl
          have hnq : nextP m = q.1.adr := by unfold nextP; rw [hq]
          have HO5 := Lib.hid ho5; have HQA := Lib.hid hqa; have HTO := Lib.hid hto
          have HNQ := HNP.out q.1.adr hnq.symm
          clear hd5 hne hq hqa hto ho5 hnq HNP
          obtain ⟨x, qi⟩ := q
          simp only [ixOf] at *
          go_wp2_with fail
          refine KF.out.mono ?_
          rintro e w6 ⟨rfl, hb6⟩
          have ho6 := own_below HO5.out hb6 (Nat.le_refl _)
          have HB6 := Lib.hid (HB4.out.trans (hb6.mono HB4.out.size))
          obtain ⟨x0, x1, x2, x3⟩ := own_seat ho6 HQA.out
          have hf := own_free ho6
          have hset := own_pri (q := clip (x.pri + -T)) ho6 HQA.out
          rw [← HTO.out, ← HNX.out] at hset
          have x0' : (w6.setCell ⟨g, qi * 4 + 3, none⟩ (.int .i64 (clip (x.pri + -T)))).cell? ⟨g, qi * 4, none⟩ = some (.string x.adr) := (World.cell?_setCell_other w6 _ _ _ (by intro e; injection e; omega)).trans x0
          have KP := Lib.hid (fun W => plus_any x.pri (-T) W hqi ⟨by omega, by omega⟩)
          have HSET := Lib.hid hset
          have hneg : wrap64 (-T) = -T := by unfold wrap64; omega
          clear hset ho6 hb6 x1 x2 HTO hqi x0
          generalize clip (x.pri + -T) = pq at *
          go_wp2_with fail
          refine (KP.out _).mono ?_
          rintro e w7 ⟨rfl, rfl⟩
          go_wp2
          go_roundw
          case rel => exact ⟨k + 1, by omega, by go_num, HSET.out, HB6.out.setCell (p := ⟨g, qi * 4 + 3, none⟩) hg0 _, HNQ⟩
          case measure => simp [intOf]; omega
    · obtain rfl : k = times := by omega
      have hpr := HPR.out (by omega)
      subst hpr
      have HF := Lib.hid (Rd.of_own HO.out)
      have HBF := Lib.hid (HB2.out.trans (HB.out.mono z2))
      go_wp2
      go_ret2
      first | exact ⟨A1, ⟨c1, rfl⟩, HF.out, HBF.out⟩ | exact ⟨A1, c1, rfl, HF.out, HBF.out⟩
end Go.Proofs.YtikikddkhikfkaaGreatDoor

set_option linter.all false
namespace Go.Proofs.YtikikddkhikfkaaGreatDoor
open Go.RowKit

structure turnableW (l : List Sd) : Prop where
  ne : l ≠ []
  len : l.length ≤ 500
  dist : distinct l
  pri : ∀ x ∈ l, -1152921504606846976 < x.pri ∧ x.pri < 1152921504606846976
  pow : ∀ x ∈ l, 1 ≤ x.pow
  tot : totL l ≤ 1152921504606846975
set_option maxRecDepth 100000 in
set_option maxHeartbeats 6400000 in
theorem setOf_spanW (l : List Sd) (hne : l ≠ []) (hp : ∀ x ∈ l, -2305843009213693952 < x.pri ∧ x.pri < 2305843009213693952) : 0 ≤ spanOf l ∧ spanOf l ≤ 4611686018427387902 := by
  have := span_bd l (-2305843009213693951) 2305843009213693951 (by omega) (by omega) hne (fun s hs => by have := hp s hs; omega)
  omega
set_option maxRecDepth 100000 in
set_option maxHeartbeats 6400000 in
theorem span_fromW (s : Sd) (r : List Sd) (hp : ∀ x ∈ s :: r, -2305843009213693952 < x.pri ∧ x.pri < 2305843009213693952) : spanOf (s :: r) = mxf s.pri (prisOf (s :: r)) - mnf s.pri (prisOf (s :: r)) := by
  have h := hp s (List.mem_cons_self ..)
  have e1 : mxf (-9223372036854775808) (prisOf (s :: r)) = mxf s.pri (prisOf (s :: r)) := by
    simp only [mxf, prisOf, List.map_cons, List.foldl_cons]
    congr 1
    split <;> split <;> omega
  have e2 : mnf 9223372036854775807 (prisOf (s :: r)) = mnf s.pri (prisOf (s :: r)) := by
    simp only [mnf, prisOf, List.map_cons, List.foldl_cons]
    congr 1
    split <;> split <;> omega
  unfold spanOf
  rw [e1, e2]
set_option maxRecDepth 100000 in
set_option maxHeartbeats 6400000 in
theorem sscaledW_any (l : List Sd) (A : Option Addr) (n c : Nat) (apart : Int) (w : World) (hr : Rd w w.heap.size 4 A n (cellsOf l)) (hn : n ≤ 1000000) (hn0 : 0 < n) (hp : ∀ x ∈ l, -2305843009213693952 < x.pri ∧ x.pri < 2305843009213693952) (ha : apart ≤ 2305843009213693952) :
    Calls Tryz.prog 40 #[.slice A n c, .int .i64 apart] w fun e w' => ∃ A' c', e = .returned (.slice A' n c') ∧ Rd w' w'.heap.size 4 A' n (cellsOf (scaleL apart l)) ∧ Below w.heap.size w w' := by
  obtain ⟨i0, hi, hz0, hz1, hz2⟩ := info_parts infoSeat
  have HI := Lib.hid hi; have HZ0 := Lib.hid hz0; have HZ1 := Lib.hid hz1; have HZ2 := Lib.hid hz2
  clear hi hz0 hz1 hz2
  have HL := Lib.hid hr.len
  have HR := Lib.hid hr; clear hr
  have HP := Lib.hid hp; clear hp
  by_cases ha0 : apart ≤ 0
  · have hsc : scaleL apart l = l := by unfold scaleL; rw [if_pos ha0]
    have HSC := Lib.hid hsc; clear hsc
    go_enter Tryz.func40, Tryz.ntmps40
    go_wp2_with (at_builtin; refine wpList_app w rfl (.const (.slice none 0 0)) (.tmp 13) 24 rfl w.heap.size 57 i0 _ 4 48 Tryz.underlying24 HI.out HZ0.out HZ1.out HZ2.out rfl (by decide) (.slice none 0 0) 0 [] rfl (World.ownsRow_nil w w.heap.size _ _) w.heap.size A n c (cellsOf l) rfl HR.out (cellsOf_one l) ?q1 ?q2 (Nat.le_refl _) ?_; (case q1 => simp only [maxLen]; omega); (case q2 => omega); intro A1 c1 w1 hown hg _; simp only [Nat.zero_add, List.nil_append] at hown; have HO := Lib.hid hown; have HB := Lib.hid ((Below.refl w.heap.size w).grown hg (Nat.le_refl _) (by simp [Value.ownBlock])); clear hown hg)
    go_ret
    rw [HSC.out]
    exact ⟨A1, c1, rfl, Rd.of_own HO.out, HB.out⟩
  · have hz : ((n : Int) == 0) = false := by simp; omega
    obtain ⟨s0, r, hl⟩ : ∃ s0 r, l = s0 :: r := by
      cases l with
      | nil => have := HL.out; simp at this; omega
      | cons a b => exact ⟨a, b, rfl⟩
    have hsp := span_fromW s0 r (by rw [← hl]; exact HP.out)
    obtain ⟨ad, rfl, hadb, c0, c1', c2', c3⟩ := HR.out.seat (k := 0) (x := s0) (by rw [hl]; rfl)
    clear c0 c1' c2'
    rw [add_zero4 ad] at c3
    rw [← hl] at hsp
    have HSP := Lib.hid hsp; have HLL := Lib.hid hl; clear hsp hl
    go_enter Tryz.func40, Tryz.ntmps40
    go_wp2_with (at_builtin; refine wpList_app w rfl (.const (.slice none 0 0)) (.tmp 13) 24 rfl w.heap.size 57 i0 _ 4 48 Tryz.underlying24 HI.out HZ0.out HZ1.out HZ2.out rfl (by decide) (.slice none 0 0) 0 [] rfl (World.ownsRow_nil w w.heap.size _ _) w.heap.size (some ad) n c (cellsOf l) rfl HR.out (cellsOf_one l) ?q1 ?q2 (Nat.le_refl _) ?_; (case q1 => simp only [maxLen]; omega); (case q2 => omega); intro A1 c1 w1 hown hg _; simp only [Nat.zero_add, List.nil_append] at hown; have HO := Lib.hid hown; have hbb := ((Below.refl w.heap.size w).grown hg (Nat.le_refl _) (by simp [Value.ownBlock])); have HB := Lib.hid hbb; have d3 := (hbb.cell (p := ⟨ad.block, ad.off + 3, none⟩) hadb).trans c3; clear hown hg hbb)
    go_quiet (fail)
    go_wp2
    have HD := Lib.hid d3; clear d3 c3
    go_loopw [6, 7, 33] (fun a b i wr => ∃ k : Nat, k ≤ n ∧ i = .int .i64 k ∧ a = .int .i64 (mnf s0.pri ((prisOf l).take k)) ∧ b = .int .i64 (mxf s0.pri ((prisOf l).take k)) ∧ Hid (Below w1.heap.size w1 wr)) (fun _ _ i _ => n - (intOf i).toNat)
    case atStart => exact ⟨0, Nat.zero_le _, rfl, rfl, rfl, below_drewN (Below.refl _ _) _⟩
    case round =>
      obtain ⟨k, hk, rfl, rfl, rfl, HG⟩ := hrel
      by_cases hlt : k < n
      · have hk' : k < l.length := by have := HL.out; omega
        have hx : l[k]? = some l[k] := List.getElem?_eq_getElem hk'
        have hrr : Rd wr w.heap.size 4 (some ad) n (cellsOf l) := (HR.out.below HB.out).belowN HG.out HB.out.size
        obtain ⟨ad', h', _, e0, e1, e2, e3⟩ := hrr.seat hx
        obtain rfl := Option.some.inj h'
        have hpx := HP.out _ (List.getElem_mem hk')
        have hst : (prisOf l).take (k + 1) = (prisOf l).take k ++ [l[k].pri] := by
          have hl2 : k < (prisOf l).length := by simpa [prisOf] using hk'
          rw [List.take_succ_eq_append_getElem hl2]; simp [prisOf]
        generalize l[k] = x at *
        have ha := mxf_snoc s0.pri ((prisOf l).take k) x.pri
        have hb2 := mnf_snoc s0.pri ((prisOf l).take k) x.pri
        rw [← hst] at ha hb2
        have HA := Lib.hid ha; have HB2 := Lib.hid hb2; have HX := Lib.hid hx
        clear ha hb2 hst hx h' hrr
        generalize mxf s0.pri ((prisOf l).take k) = mx at *
        generalize mnf s0.pri ((prisOf l).take k) = mn at *
        go_wp2
        go_region
        go_wp2
        go_roundw
        case rel => exact ⟨k + 1, by omega, by go_num, by rw [HB2.out], by rw [HA.out], ((HG.out.alloc HG.out.size _).drew)⟩
        case measure => simp [intOf]; omega
      · obtain rfl : k = n := by omega
        have hll : (prisOf l).length ≤ k := by have := HL.out; simp [prisOf]; omega
        rw [List.take_of_length_le hll]
        obtain ⟨hs1, hs2⟩ := setOf_spanW l (by rw [HLL.out]; simp) HP.out
        have hsc : scaleL apart l = if apart < spanOf l then l.map (divP ((spanOf l + apart - 1) / apart)) else l := by unfold scaleL; rw [if_neg (by omega)]
        have HSC := Lib.hid hsc; clear hsc
        rw [HSP.out] at hs1 hs2 HSC
        generalize mxf s0.pri (prisOf l) = mx at *
        generalize mnf s0.pri (prisOf l) = mn at *
        have hown := own_below HO.out HG.out (Nat.le_refl _)
        have HO1 := Lib.hid hown; clear hown HO hll
        have hbw := HB.out.trans (HG.out.mono HB.out.size)
        have HBW := Lib.hid hbw; clear hbw
        have hneg : decide (mx - mn < 0) = false := by simp; omega
        by_cases hlt : apart < mx - mn
        · have hdv : (mx - mn - 1).tdiv apart = (mx - mn - 1) / apart := Int.tdiv_eq_ediv_of_nonneg (by omega)
          have hq0 : 0 ≤ (mx - mn - 1) / apart := Int.ediv_nonneg (by omega) (by omega)
          have hq1 : (mx - mn - 1) / apart ≤ mx - mn - 1 := Int.ediv_le_self _ (by omega)
          have heq : (mx - mn + apart - 1) / apart = (mx - mn - 1) / apart + 1 := by
            rw [show mx - mn + apart - 1 = (mx - mn - 1) + apart by omega, Int.add_ediv_of_dvd_right (Int.dvd_refl _), Int.ediv_self (by omega)]
          rw [if_pos hlt, heq] at HSC
          have HDV := Lib.hid hdv; clear hdv heq
          have hr1 : 1 ≤ (mx - mn - 1) / apart + 1 := by omega
          go_wp2
          generalize (mx - mn - 1) / apart + 1 = by_ at *
          go_loopw [61] (fun i wx => ∃ j : Nat, j ≤ k ∧ i = .int .i64 j ∧ Hid (wx.ownsRow w.heap.size 57 4 (.slice A1 k c1) k (cellsOf (mapTo (divP by_) l j))) ∧ Hid (Below w.heap.size w wx)) (fun i _ => k - (intOf i).toNat)
          case atStart => exact ⟨0, Nat.zero_le _, rfl, by rw [mapTo_zero]; exact HO1.out, HBW.out⟩
          case round =>
            obtain ⟨j, hj, rfl, HO2, HB2⟩ := hrel
            by_cases hjk : j < k
            · have hjl : j < l.length := by have := HL.out; omega
              have hx : l[j]? = some l[j] := List.getElem?_eq_getElem hjl
              have hx' := mapTo_get (divP by_) l j _ hx
              have hsu := mapTo_succ (divP by_) l j _ hx
              have hpx := HP.out _ (List.getElem_mem hjl)
              generalize l[j] = x at *
              obtain ⟨g, cap, hv, hg0, hg1⟩ := HO2.out.form (by omega)
              have e1 : A1 = some ⟨g, 0, none⟩ := by injection hv
              subst e1
              clear hv
              obtain ⟨x0, x1, x2, x3⟩ := own_seat HO2.out hx'
              have hf := own_free HO2.out
              have hq : wrap64 (x.pri.tdiv by_) = x.pri.tdiv by_ := by
                have h1 : (x.pri.tdiv by_).natAbs ≤ x.pri.natAbs := by rw [Int.natAbs_tdiv]; exact Nat.div_le_self _ _
                unfold wrap64; omega
              have hset := own_pri (q := x.pri.tdiv by_) HO2.out hx'
              have e2 : (mapTo (divP by_) l j).set j { x with pri := x.pri.tdiv by_ } = mapTo (divP by_) l (j + 1) := hsu
              rw [e2] at hset
              have HSET := Lib.hid hset; clear hset e2 hsu x0 x1 x2 hx hx'
              go_wp2
              go_roundw
              case rel => exact ⟨j + 1, by omega, by go_num, HSET.out, HB2.out.setCell (p := ⟨g, j * 4 + 3, none⟩) hg0 _⟩
              case measure => simp [intOf]; omega
            · have hfin := HO2.out
              rw [mapTo_full _ _ _ (by have := HL.out; omega)] at hfin
              have HF := Lib.hid (Rd.of_own hfin); clear hfin
              go_wp2
              go_ret
              rw [HSC.out]
              exact ⟨A1, c1, rfl, HF.out, HB2.out⟩
        · rw [if_neg hlt] at HSC
          go_wp2
          go_ret
          rw [HSC.out]
          exact ⟨A1, ⟨c1, rfl⟩, Rd.of_own HO1.out, HBW.out⟩
  
set_option maxRecDepth 100000 in
set_option maxHeartbeats 6400000 in
theorem stotalW_any (l : List Sd) (A : Option Addr) (n c : Nat) (w : World) (hr : Rd w w.heap.size 4 A n (cellsOf l)) (hn : n ≤ 1000) (hp : ∀ x ∈ l, 0 ≤ x.pow) (hT : totL l ≤ 1152921504606846975) :
    Calls Tryz.prog 38 #[.slice A n c] w fun e w' => e = .returned (.int .i64 (totL l)) ∧ Below w.heap.size w w' := by
  have HL := Lib.hid hr.len
  have HR := Lib.hid hr; have HP := Lib.hid hp; clear hr hp
  go_enter Tryz.func38, Tryz.ntmps38
  go_wp2
  go_loopw [3, 8] (fun s i wr => ∃ k : Nat, k ≤ n ∧ i = .int .i64 k ∧ s = .int .i64 (sumI ((powsOf l).take k)) ∧ Hid (Below w.heap.size w wr)) (fun _ i _ => n - (intOf i).toNat)
  case atStart => exact ⟨0, Nat.zero_le _, rfl, rfl, Below.refl _ _⟩
  case round =>
    obtain ⟨k, hk, rfl, rfl, HB⟩ := hrel
    by_cases hlt : k < n
    · have hk' : k < l.length := by have := HL.out; omega
      have hx : l[k]? = some l[k] := List.getElem?_eq_getElem hk'
      obtain ⟨ad, rfl, _, c0, c1, c2, c3⟩ := (HR.out.below HB.out).seat hx
      have hpx := HP.out _ (List.getElem_mem hk')
      have hst : (powsOf l).take (k + 1) = (powsOf l).take k ++ [l[k].pow] := by
        have hl2 : k < (powsOf l).length := by simpa [powsOf] using hk'
        rw [List.take_succ_eq_append_getElem hl2]; simp [powsOf]
      have hbd := sumI_part (powsOf l) (fun x hx => by
        obtain ⟨s, hs, rfl⟩ := List.mem_map.1 hx
        exact HP.out s hs) k l[k].pow (by rw [powsOf, List.getElem?_map, hx]; rfl)
      rw [show sumI (powsOf l) = totL l from rfl] at hbd
      generalize l[k] = x at *
      have hs := sumI_snoc ((powsOf l).take k) x.pow
      rw [← hst] at hs
      generalize sumI ((powsOf l).take k) = s at *
      have HS := Lib.hid hs; clear hs hst hx
      go_wp2
      go_roundw
      case rel => exact ⟨k + 1, by omega, by go_num, by rw [HS.out], HB.out.alloc HB.out.size _⟩
      case measure => simp [intOf]; omega
    · obtain rfl : k = n := by omega
      have hsum : sumI ((powsOf l).take k) = totL l := by
        unfold totL; rw [List.take_of_length_le (by have := HL.out; simp [powsOf]; omega)]
      rw [hsum]
      clear hsum
      go_wp2
      go_ret
      exact ⟨rfl, HB.out⟩
set_option maxRecDepth 100000 in
set_option maxHeartbeats 6400000 in
theorem sturnedW_any (l : List Sd) (A : Option Addr) (n c times : Nat) (w : World) (hr : Rd w w.heap.size 4 A n (cellsOf l)) (hl : turnableW l) (htm : 0 < times) (htm2 : times ≤ 100000) :
    Calls Tryz.prog 45 #[.slice A n c, .int .i64 times] w fun e w' => ∃ A' c', e = .returned (.tuple #[.slice A' n c', .string (nextP (turnsL (totL l) (times - 1) (startL l)))]) ∧ Rd w' w'.heap.size 4 A' n (cellsOf (turnsL (totL l) times (startL l))) ∧ Below w.heap.size w w' := by
  have hln := hr.len
  have hn : n ≤ 500 := by have := hl.len; omega
  have hn0 : 0 < n := by have := List.length_pos_iff.2 hl.ne; omega
  have hT := totL_one l hl.pow
  rw [← hln] at hT
  have hTT := hl.tot
  have hpwt := pow_tot l (fun x hx => by have := hl.pow x hx; omega)
  have hspri := scaleL_pri (2 * totL l) l 1152921504606846976 (fun s hs => by have := hl.pri s hs; omega)
  have hcore : ∀ k, (turnsL (totL l) k (startL l)).map core = l.map core := fun k => (turnsL_core _ _ k).trans (startL_core _)
  have hgin := turnsL_in (totL l) _ (startL_in l)
  have hpow : ∀ k, ∀ s ∈ turnsL (totL l) k (startL l), in64 s.pow := fun k => pow_of_core (p := in64) (hcore k) (fun s hs => by have := hl.pow s hs; have := hpwt s hs; unfold in64; omega)
  have hdist : ∀ k, distinct (turnsL (totL l) k (startL l)) := fun k => distinct_of_core (hcore k) hl.dist
  have hlens : ∀ k, (turnsL (totL l) k (startL l)).length = n := fun k => by rw [length_of_core (hcore k)]; exact hln.symm
  have KT := Lib.hid (stotalW_any l A n c w hr (by omega) (fun x hx => by have := hl.pow x hx; omega) hl.tot)
  have hst : startL l = shiftL (scaleL (2 * totL l) l) := rfl
  have HST := Lib.hid hst; have HL := Lib.hid hln; have HR := Lib.hid hr; have HTN := Lib.hid hl; have HSP := Lib.hid hspri; have HGI := Lib.hid hgin; have HPW := Lib.hid hpow; have HDI := Lib.hid hdist; have HLN := Lib.hid hlens
  clear hst hln hr hl hspri hgin hpow hdist hlens hcore hpwt
  generalize totL l = T at *
  go_enter Tryz.func45, Tryz.ntmps45
  go_wp2_with fail
  refine KT.out.mono ?_
  rintro e w1 ⟨rfl, hb1⟩
  have HB1 := Lib.hid hb1; clear hb1
  have KS := Lib.hid (sscaledW_any l A n c (2 * T) w1 ((HR.out.below HB1.out).more HB1.out.size) (by omega) hn0 (fun x hx => by have := HTN.out.pri x hx; omega) (by omega))
  go_wp2_with fail
  refine KS.out.mono ?_
  rintro e w2 ⟨A2, c2, rfl, hr2, hb2⟩
  have HB2 := Lib.hid (HB1.out.trans (hb2.mono HB1.out.size))
  have KH := Lib.hid (shifted_any _ A2 n c2 w2 hr2 (by omega) hn0 (fun x hx => by have := HSP.out x hx; omega))
  rw [← HST.out] at KH
  clear hr2 hb2
  go_wp2_with fail
  refine KH.out.mono ?_
  rintro e w3 ⟨A1, c1, rfl, ho3, hb3⟩
  have HO3 := Lib.hid ho3; have HB3 := Lib.hid hb3; clear ho3 hb3
  have z2 := HB2.out.size
  go_wp2
  go_loopw [8, 19] (fun p i wr => ∃ k : Nat, k ≤ times ∧ i = .int .i64 k ∧ Hid (wr.ownsRow w2.heap.size 57 4 (.slice A1 n c1) n (cellsOf (turnsL T k (startL l)))) ∧ Hid (Below w2.heap.size w2 wr) ∧ Hid (k ≠ 0 → p = .string (nextP (turnsL T (k - 1) (startL l))))) (fun _ i _ => times - (intOf i).toNat)
  case atStart => exact ⟨0, Nat.zero_le _, rfl, HO3.out, HB3.out, fun h => absurd rfl h⟩
  case round =>
    obtain ⟨k, hk, rfl, HO, HB, HPR⟩ := hrel
    by_cases hlt : k < times
    · have hgi := HGI.out k; have hpw := HPW.out k; have hdi := HDI.out k; have hle := HLN.out k
      have hnx : turnsL T (k + 1) (startL l) = turnOf T (turnsL T k (startL l)) := rfl
      have hnp : Hid (k + 1 ≠ 0 → Value.string (nextP (turnsL T k (startL l))) = .string (nextP (turnsL T (k + 1 - 1) (startL l)))) := Lib.hid fun _ => rfl
      have HNX := Lib.hid hnx; clear hnx HPR
      have hnp2 : ∀ b, b = nextP (turnsL T k (startL l)) → Hid (k + 1 ≠ 0 → Value.string b = .string (nextP (turnsL T (k + 1 - 1) (startL l)))) := fun b e => by rw [e]; exact hnp
      have HNP := Lib.hid hnp2; clear hnp hnp2
      generalize turnsL T k (startL l) = m at *
      obtain ⟨g, cap, hv, hg0, hg1⟩ := HO.out.form (by omega)
      have e1 : A1 = some ⟨g, 0, none⟩ := by injection hv
      subst e1
      clear hv
      have HGM := Lib.hid hgi; have HPM := Lib.hid hpw; have HDM := Lib.hid hdi; have HLM := Lib.hid hle
      clear hgi hpw hdi hle
      go_wp2
      go_loopw [23] (fun i wx => ∃ j : Nat, j ≤ n ∧ i = .int .i64 j ∧ Hid (wx.ownsRow w2.heap.size 57 4 (.slice (some ⟨g, 0, none⟩) n c1) n (cellsOf (mapTo addP m j))) ∧ Hid (Below w2.heap.size w2 wx)) (fun i _ => n - (intOf i).toNat)
      case atStart => exact ⟨0, Nat.zero_le _, rfl, by rw [mapTo_zero]; exact HO.out, HB.out⟩
      case round =>
        obtain ⟨j, hj, rfl, HO4, HB4⟩ := hrel
        by_cases hjk : j < n
        · have hjl : j < m.length := by have := HLM.out; omega
          have hx : m[j]? = some m[j] := List.getElem?_eq_getElem hjl
          have hx' := mapTo_get addP m j _ hx
          have hgx := HGM.out _ (List.getElem_mem hjl)
          have hpx := HPM.out _ (List.getElem_mem hjl)
          have hsu := addP_mid m j _ hx
          generalize m[j] = x at *
          obtain ⟨x0, x1, x2, x3⟩ := own_seat HO4.out hx'
          have hf := own_free HO4.out
          have hset : ∀ q, ((wr.drewN q).setCell ⟨g, j * 4 + 3, none⟩ (.int .i64 (clip (x.pri + x.pow)))).ownsRow w2.heap.size 57 4 (.slice (some ⟨g, 0, none⟩) n c1) n (cellsOf (mapTo addP m (j + 1))) := fun q => by
            have h1 := own_pri (q := clip (x.pri + x.pow)) (own_drewN HO4.out q) hx'
            rw [hsu] at h1
            exact h1
          have KP := Lib.hid (fun W => plus_any x.pri x.pow W hgx hpx)
          have HSET := Lib.hid hset; clear hset hsu x0 x1 hx hx' hgx hpx
          generalize clip (x.pri + x.pow) = q at *
          go_wp2_with fail
          refine wp_region_L (fun w' : World => ∃ n, w' = wr.drewN n) 15 (by kernel_rfl) ?_
          refine wpAnyL_take 0 (v := .slice (some ⟨g, 0, none⟩) n c1) rfl (by kernel_rfl) (fun _ _ _ h => h) (yields_in rfl (fun w' hw' => by obtain ⟨n1, rfl⟩ := hw'; go_simp)) ⟨1, rfl⟩ ?_
          simp only [Act.put, List.setIfInBounds_toArray, List.set_cons_zero, List.set_cons_succ]
          refine wpAnyL_take 1 (v := .int .i64 j) rfl (by kernel_rfl) (fun _ _ _ h => h) (yields_in rfl (fun w' hw' => by obtain ⟨n1, rfl⟩ := hw'; go_simp)) ⟨1, rfl⟩ ?_
          simp only [Act.put, List.setIfInBounds_toArray, List.set_cons_zero, List.set_cons_succ]
          refine wpAnyL_take 2 (v := .slice (some ⟨g, 0, none⟩) n c1) rfl (by kernel_rfl) (fun _ _ _ h => h) (yields_in rfl (fun w' hw' => by obtain ⟨n1, rfl⟩ := hw'; go_simp)) ⟨1, rfl⟩ ?_
          simp only [Act.put, List.setIfInBounds_toArray, List.set_cons_zero, List.set_cons_succ]
          refine wpAnyL_take 3 (v := .int .i64 j) rfl (by kernel_rfl) (fun _ _ _ h => h) (yields_in rfl (fun w' hw' => by obtain ⟨n1, rfl⟩ := hw'; go_simp)) ⟨1, rfl⟩ ?_
          simp only [Act.put, List.setIfInBounds_toArray, List.set_cons_zero, List.set_cons_succ]
          refine wpAnyL_take 4 (v := .pointer (some ⟨g, j * 4, none⟩)) rfl (by kernel_rfl) (fun _ _ _ h => h) (yields_in rfl (fun w' hw' => by obtain ⟨n1, rfl⟩ := hw'; go_simp)) ⟨1, rfl⟩ ?_
          simp only [Act.put, List.setIfInBounds_toArray, List.set_cons_zero, List.set_cons_succ]
          refine wpAnyL_take 5 (v := .pointer (some ⟨g, j * 4 + 3, none⟩)) rfl (by kernel_rfl) (fun _ _ _ h => h) (yields_in rfl (fun w' hw' => by obtain ⟨n1, rfl⟩ := hw'; go_simp)) ⟨1, rfl⟩ ?_
          simp only [Act.put, List.setIfInBounds_toArray, List.set_cons_zero, List.set_cons_succ]
          refine wpAnyL_take 6 (v := .int .i64 x.pri) rfl (by kernel_rfl) (fun _ _ _ h => h) (yields_in rfl (fun w' hw' => by obtain ⟨n1, rfl⟩ := hw'; go_simp)) ⟨1, rfl⟩ ?_
          simp only [Act.put, List.setIfInBounds_toArray, List.set_cons_zero, List.set_cons_succ]
          refine wpAnyL_take 7 (v := .slice (some ⟨g, 0, none⟩) n c1) rfl (by kernel_rfl) (fun _ _ _ h => h) (yields_in rfl (fun w' hw' => by obtain ⟨n1, rfl⟩ := hw'; go_simp)) ⟨1, rfl⟩ ?_
          simp only [Act.put, List.setIfInBounds_toArray, List.set_cons_zero, List.set_cons_succ]
          refine wpAnyL_take 8 (v := .int .i64 j) rfl (by kernel_rfl) (fun _ _ _ h => h) (yields_in rfl (fun w' hw' => by obtain ⟨n1, rfl⟩ := hw'; go_simp)) ⟨1, rfl⟩ ?_
          simp only [Act.put, List.setIfInBounds_toArray, List.set_cons_zero, List.set_cons_succ]
          refine wpAnyL_take 9 (v := .pointer (some ⟨g, j * 4, none⟩)) rfl (by kernel_rfl) (fun _ _ _ h => h) (yields_in rfl (fun w' hw' => by obtain ⟨n1, rfl⟩ := hw'; go_simp)) ⟨1, rfl⟩ ?_
          simp only [Act.put, List.setIfInBounds_toArray, List.set_cons_zero, List.set_cons_succ]
          refine wpAnyL_take 10 (v := .pointer (some ⟨g, j * 4 + 2, none⟩)) rfl (by kernel_rfl) (fun _ _ _ h => h) (yields_in rfl (fun w' hw' => by obtain ⟨n1, rfl⟩ := hw'; go_simp)) ⟨1, rfl⟩ ?_
          simp only [Act.put, List.setIfInBounds_toArray, List.set_cons_zero, List.set_cons_succ]
          refine wpAnyL_take 11 (v := .int .i64 x.pow) rfl (by kernel_rfl) (fun _ _ _ h => h) (yields_in rfl (fun w' hw' => by obtain ⟨n1, rfl⟩ := hw'; go_simp)) ⟨1, rfl⟩ ?_
          simp only [Act.put, List.setIfInBounds_toArray, List.set_cons_zero, List.set_cons_succ]
          refine wpAnyL_one 12 rfl (by kernel_rfl) rfl ?_
          go_simp
          refine (KP.out _).mono ?_
          rintro e w5 ⟨rfl, rfl⟩
          refine ⟨⟨1, rfl⟩, ?_⟩
          refine wpAnyL_one 13 rfl (by kernel_rfl) rfl ?_
          go_simp
          refine ⟨⟨1, rfl⟩, ?_⟩
          refine wpAnyL_one 14 rfl (by kernel_rfl) rfl ?_
          go_simp
          refine ⟨⟨1, rfl⟩, ?_⟩
          refine wpAnyL_one 15 rfl (by kernel_rfl) rfl ?_
          go_simp
          refine wpAnyL_done (by kernel_rfl) ?_ _
          go_wp2
          go_roundw
          case rel => exact ⟨j + 1, by omega, by go_num, HSET.out 1, (HB4.out.drew).setCell (p := ⟨g, j * 4 + 3, none⟩) hg0 _⟩
          case measure => simp [intOf]; omega
        · obtain rfl : j = n := by omega
          have ho5 := HO4.out
          rw [mapTo_full _ _ _ (by have := HLM.out; omega)] at ho5
          have hd5 : distinct (m.map addP) := distinct_map HDM.out _ (fun _ => rfl)
          have hne : m.map addP ≠ [] := fun e => by
            have h1 := congrArg List.length e
            have := HLM.out
            simp at h1; rw [h1] at this; simp at this; omega
          obtain ⟨q, hq, hqa⟩ := propOf_at _ hne
          have hqn : q.2 < j := by
            have := (List.getElem?_eq_some_iff.1 hqa).1
            have := HLM.out
            simp at *; omega
          have hqi : in64 q.1.pri := by
            obtain ⟨y, _, hyq⟩ := List.mem_map.1 (List.mem_of_getElem? hqa)
            rw [← hyq]; exact clip_in _
          have KF := Lib.hid (sfirst_any (m.map addP) (some ⟨g, 0, none⟩) j c1 _ (Rd.of_own ho5) (by omega) hd5)
          rw [hq] at KF
          have hto : turnOf T m = (m.map addP).set q.2 { q.1 with pri := clip (q.1.pri + -T) } := by unfold turnOf; rw [hq]; rfl
          have hnq : nextP m = q.1.adr := by unfold nextP; rw [hq]
          have HO5 := Lib.hid ho5; have HQA := Lib.hid hqa; have HTO := Lib.hid hto
          have HNQ := HNP.out q.1.adr hnq.symm
          clear hd5 hne hq hqa hto ho5 hnq HNP
          obtain ⟨x, qi⟩ := q
          simp only [ixOf] at *
          go_wp2_with fail
          refine KF.out.mono ?_
          rintro e w6 ⟨rfl, hb6⟩
          have ho6 := own_below HO5.out hb6 (Nat.le_refl _)
          have HB6 := Lib.hid (HB4.out.trans (hb6.mono HB4.out.size))
          obtain ⟨x0, x1, x2, x3⟩ := own_seat ho6 HQA.out
          have hf := own_free ho6
          have hset := own_pri (q := clip (x.pri + -T)) ho6 HQA.out
          rw [← HTO.out, ← HNX.out] at hset
          have x0' : (w6.setCell ⟨g, qi * 4 + 3, none⟩ (.int .i64 (clip (x.pri + -T)))).cell? ⟨g, qi * 4, none⟩ = some (.string x.adr) := (World.cell?_setCell_other w6 _ _ _ (by intro e; injection e; omega)).trans x0
          have KP := Lib.hid (fun W => plus_any x.pri (-T) W hqi ⟨by omega, by omega⟩)
          have HSET := Lib.hid hset
          have hneg : wrap64 (-T) = -T := by unfold wrap64; omega
          clear hset ho6 hb6 x1 x2 HTO hqi x0
          generalize clip (x.pri + -T) = pq at *
          go_wp2_with fail
          refine (KP.out _).mono ?_
          rintro e w7 ⟨rfl, rfl⟩
          go_wp2
          go_roundw
          case rel => exact ⟨k + 1, by omega, by go_num, HSET.out, HB6.out.setCell (p := ⟨g, qi * 4 + 3, none⟩) hg0 _, HNQ⟩
          case measure => simp [intOf]; omega
    · obtain rfl : k = times := by omega
      have hpr := HPR.out (by omega)
      subst hpr
      have HF := Lib.hid (Rd.of_own HO.out)
      have HBF := Lib.hid (HB2.out.trans (HB.out.mono z2))
      go_wp2
      go_ret2
      first | exact ⟨A1, ⟨c1, rfl⟩, HF.out, HBF.out⟩ | exact ⟨A1, c1, rfl, HF.out, HBF.out⟩
end Go.Proofs.YtikikddkhikfkaaGreatDoor
