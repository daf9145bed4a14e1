/-
  spec.First: the walk. By the session.
-/
import Derived.Test.YtikikddkhikfkaaSpec1
set_option linter.unusedSimpArgs false
namespace Go.Proofs.Ytikikddkhikfkaa
open Go.RowKit

def ixOf : Option (Sd × Nat) → Int
  | none => -1
  | some q => q.2

set_option maxRecDepth 100000 in
set_option maxHeartbeats 3200000 in
theorem sfirst_any (l : List Sd) (A : Option Addr) (n c : Nat) (w : World) (hr : Rd w w.heap.size 4 A n (cellsOf l)) (hn : n ≤ 1000) (hd : distinct l) :
    Calls Try.prog 51 #[.slice A n c] w fun e w' => e = .returned (.int .i64 (ixOf (propOf l))) ∧ Below w.heap.size w w' := by
  have HL := Lib.hid hr.len
  have HR := Lib.hid hr; have HD := Lib.hid hd; clear hr hd
  go_enter Try.func51, Try.ntmps51
  go_wp2
  go_loopw [3, 7] (fun v i wr => ∃ k : Nat, k ≤ n ∧ i = .int .i64 k ∧ v = .int .i64 (ixOf ((l.zipIdx.take k).foldl pstep none)) ∧ Hid (∀ q, (l.zipIdx.take k).foldl pstep none = some q → q.2 < k ∧ l[q.2]? = some q.1) ∧ Hid (Below w.heap.size w wr)) (fun _ i _ => n - (intOf i).toNat)
  case atStart => exact ⟨0, Nat.zero_le _, rfl, rfl, (fun q hq => by simp at hq), Below.refl _ _⟩
  case round =>
    obtain ⟨k, hk, rfl, rfl, HQ, HB⟩ := hrel
    by_cases hlt : k < n
    · have hk' : k < l.length := by have := HL.out; omega
      have hx : l[k]? = some l[k] := List.getElem?_eq_getElem hk'
      have hxk : l.zipIdx[k]? = some (l[k], k) := by rw [List.getElem?_zipIdx, hx]; simp
      have hnx := foldl_take_succ pstep none l.zipIdx k _ hxk
      have hrr := HR.out.below HB.out
      obtain ⟨ad, rfl, hadb, c0, c1, c2, c3⟩ := hrr.seat hx
      generalize l[k] = x at *
      have HNX := Lib.hid hnx; have HX := Lib.hid hx; clear hnx hx hxk
      cases hbest : (l.zipIdx.take k).foldl pstep none with
      | none =>
        rw [hbest] at HNX
        simp only [ixOf]
        clear hrr c0 c1 c2 c3
        go_wp2_with fail
        refine wp_region_L (fun w' : World => w' = wr.drew) 12 (by kernel_rfl) ?_
        refine wpAnyL_take 0 (v := .int .i64 (-1)) rfl (by kernel_rfl) (fun _ _ _ h => h) (yields_in rfl (fun w' hw' => by subst hw'; go_simp)) rfl ?_
        simp only [Act.put, List.setIfInBounds_toArray, List.set_cons_zero, List.set_cons_succ]
        refine wpAnyL_take 1 (v := .bool true) rfl (by kernel_rfl) (fun _ _ _ h => h) (yields_in rfl (fun w' hw' => by subst hw'; go_simp)) rfl ?_
        simp only [Act.put, List.setIfInBounds_toArray, List.set_cons_zero, List.set_cons_succ]
        refine wpAnyL_take 2 (v := .bool true) rfl (by kernel_rfl) (fun _ _ _ h => h) (yields_in rfl (fun w' hw' => by subst hw'; go_simp)) rfl ?_
        simp only [Act.put, List.setIfInBounds_toArray, List.set_cons_zero, List.set_cons_succ]
        refine wpAnyL_take 3 (v := undef) rfl (by kernel_rfl) (fun _ _ _ h => h) (yields_off (by kernel_rfl)) rfl ?_
        simp only [Act.put, List.setIfInBounds_toArray, List.set_cons_zero, List.set_cons_succ]
        refine wpAnyL_take 4 (v := undef) rfl (by kernel_rfl) (fun _ _ _ h => h) (yields_off (by kernel_rfl)) rfl ?_
        simp only [Act.put, List.setIfInBounds_toArray, List.set_cons_zero, List.set_cons_succ]
        refine wpAnyL_take 5 (v := undef) rfl (by kernel_rfl) (fun _ _ _ h => h) (yields_off (by kernel_rfl)) rfl ?_
        simp only [Act.put, List.setIfInBounds_toArray, List.set_cons_zero, List.set_cons_succ]
        refine wpAnyL_take 6 (v := undef) rfl (by kernel_rfl) (fun _ _ _ h => h) (yields_off (by kernel_rfl)) rfl ?_
        simp only [Act.put, List.setIfInBounds_toArray, List.set_cons_zero, List.set_cons_succ]
        refine wpAnyL_take 7 (v := undef) rfl (by kernel_rfl) (fun _ _ _ h => h) (yields_off (by kernel_rfl)) rfl ?_
        simp only [Act.put, List.setIfInBounds_toArray, List.set_cons_zero, List.set_cons_succ]
        refine wpAnyL_take 8 (v := undef) rfl (by kernel_rfl) (fun _ _ _ h => h) (yields_off (by kernel_rfl)) rfl ?_
        simp only [Act.put, List.setIfInBounds_toArray, List.set_cons_zero, List.set_cons_succ]
        refine wpAnyL_take 9 (v := undef) rfl (by kernel_rfl) (fun _ _ _ h => h) (yields_off (by kernel_rfl)) rfl ?_
        simp only [Act.put, List.setIfInBounds_toArray, List.set_cons_zero, List.set_cons_succ]
        refine wpAnyL_take 10 (v := undef) rfl (by kernel_rfl) (fun _ _ _ h => h) (yields_off (by kernel_rfl)) rfl ?_
        simp only [Act.put, List.setIfInBounds_toArray, List.set_cons_zero, List.set_cons_succ]
        refine wpAnyL_off 11 rfl (by kernel_rfl) (by kernel_rfl) rfl ?_
        simp only [Act.put, List.setIfInBounds_toArray, List.set_cons_zero, List.set_cons_succ]
        refine wpAnyL_one 12 rfl (by kernel_rfl) rfl ?_
        go_simp
        refine wpAnyL_done (by kernel_rfl) ?_ _
        go_wp2
        go_roundw
        case rel => exact ⟨k + 1, by omega, by go_num, by rw [HNX.out]; rfl, (fun q hq => by rw [HNX.out] at hq; simp only [pstep, Option.some.injEq] at hq; subst hq; exact ⟨Nat.lt_succ_self _, HX.out⟩), HB.out.drew⟩
        case measure => simp [intOf]; omega
      | some q =>
        obtain ⟨hqk, hqa⟩ := HQ.out q hbest
        obtain ⟨ad', h', _, d0, d1, d2, d3⟩ := hrr.seat hqa
        obtain rfl := Option.some.inj h'
        have hne : q.1.adr.toList ≠ x.adr.toList := HD.out q.2 k q.1 x hqa HX.out (by omega)
        have hqn : q.2 < n := by omega
        have hst : pstep (some q) (x, k) = if aheadB q.1 x then some q else some (x, k) := by
          have e1 : (q.1.adr.toList == x.adr.toList) = false := by simpa using hne
          simp only [pstep, e1, Bool.false_or]
        rw [hbest, hst] at HNX
        have hanti : aheadB x q.1 = !aheadB q.1 x := aheadB_anti (fun e => hne e.symm)
        have KC := Lib.hid (fun W => ahead_any x q.1 W)
        rw [hanti] at KC
        have HQA := Lib.hid hqa
        simp only [ixOf]
        clear hrr hbest hst hanti hne hqa h'
        obtain ⟨y, m⟩ := q
        simp only at *
        go_wp2_with fail
        have hS : (fun w' : World => Below wr.heap.size wr w' ∧ w'.cell? (ad.add (k * 4)) = some (.string x.adr) ∧ w'.cell? ⟨(ad.add (k * 4)).block, (ad.add (k * 4)).off + 1, none⟩ = some (.string x.key) ∧ w'.cell? ⟨(ad.add (k * 4)).block, (ad.add (k * 4)).off + 2, none⟩ = some (.int .i64 x.pow) ∧ w'.cell? ⟨(ad.add (k * 4)).block, (ad.add (k * 4)).off + 3, none⟩ = some (.int .i64 x.pri)
          ∧ w'.cell? (ad.add (m * 4)) = some (.string y.adr) ∧ w'.cell? ⟨(ad.add (m * 4)).block, (ad.add (m * 4)).off + 1, none⟩ = some (.string y.key) ∧ w'.cell? ⟨(ad.add (m * 4)).block, (ad.add (m * 4)).off + 2, none⟩ = some (.int .i64 y.pow) ∧ w'.cell? ⟨(ad.add (m * 4)).block, (ad.add (m * 4)).off + 3, none⟩ = some (.int .i64 y.pri)) wr.drew := ⟨(Below.refl _ _).drew, c0, c1, c2, c3, d0, d1, d2, d3⟩
        have HS := Lib.hid hS; clear hS
        refine wp_region_L (fun w' : World => Below wr.heap.size wr w' ∧ w'.cell? (ad.add (k * 4)) = some (.string x.adr) ∧ w'.cell? ⟨(ad.add (k * 4)).block, (ad.add (k * 4)).off + 1, none⟩ = some (.string x.key) ∧ w'.cell? ⟨(ad.add (k * 4)).block, (ad.add (k * 4)).off + 2, none⟩ = some (.int .i64 x.pow) ∧ w'.cell? ⟨(ad.add (k * 4)).block, (ad.add (k * 4)).off + 3, none⟩ = some (.int .i64 x.pri)
          ∧ w'.cell? (ad.add (m * 4)) = some (.string y.adr) ∧ w'.cell? ⟨(ad.add (m * 4)).block, (ad.add (m * 4)).off + 1, none⟩ = some (.string y.key) ∧ w'.cell? ⟨(ad.add (m * 4)).block, (ad.add (m * 4)).off + 2, none⟩ = some (.int .i64 y.pow) ∧ w'.cell? ⟨(ad.add (m * 4)).block, (ad.add (m * 4)).off + 3, none⟩ = some (.int .i64 y.pri)) 12 (by kernel_rfl) ?_
        refine wpAnyL_take 0 (v := .int .i64 m) rfl (by kernel_rfl) (fun _ _ _ h => h) (yields_on (by kernel_rfl) (fun w' hw' => by obtain ⟨yb, y0, y1, y2, y3, z0, z1, z2, z3⟩ := hw'; go_simp)) HS.out ?_
        simp only [Act.put, List.setIfInBounds_toArray, List.set_cons_zero, List.set_cons_succ]
        refine wpAnyL_take 1 (v := .bool false) rfl (by kernel_rfl) (fun _ _ _ h => h) (yields_on (by kernel_rfl) (fun w' hw' => by obtain ⟨yb, y0, y1, y2, y3, z0, z1, z2, z3⟩ := hw'; go_simp)) HS.out ?_
        simp only [Act.put, List.setIfInBounds_toArray, List.set_cons_zero, List.set_cons_succ]
        refine wpAnyL_take 2 (v := .bool false) rfl (by kernel_rfl) (fun _ _ _ h => h) (yields_on (by kernel_rfl) (fun w' hw' => by obtain ⟨yb, y0, y1, y2, y3, z0, z1, z2, z3⟩ := hw'; go_simp)) HS.out ?_
        simp only [Act.put, List.setIfInBounds_toArray, List.set_cons_zero, List.set_cons_succ]
        refine wpAnyL_take 3 (v := .slice (some ad) n c) rfl (by kernel_rfl) (fun _ _ _ h => h) (yields_on (by kernel_rfl) (fun w' hw' => by obtain ⟨yb, y0, y1, y2, y3, z0, z1, z2, z3⟩ := hw'; go_simp)) HS.out ?_
        simp only [Act.put, List.setIfInBounds_toArray, List.set_cons_zero, List.set_cons_succ]
        refine wpAnyL_take 4 (v := .int .i64 k) rfl (by kernel_rfl) (fun _ _ _ h => h) (yields_on (by kernel_rfl) (fun w' hw' => by obtain ⟨yb, y0, y1, y2, y3, z0, z1, z2, z3⟩ := hw'; go_simp)) HS.out ?_
        simp only [Act.put, List.setIfInBounds_toArray, List.set_cons_zero, List.set_cons_succ]
        refine wpAnyL_take 5 (v := .pointer (some (ad.add (k * 4)))) rfl (by kernel_rfl) (fun _ _ _ h => h) (yields_on (by kernel_rfl) (fun w' hw' => by obtain ⟨yb, y0, y1, y2, y3, z0, z1, z2, z3⟩ := hw'; go_simp)) HS.out ?_
        simp only [Act.put, List.setIfInBounds_toArray, List.set_cons_zero, List.set_cons_succ]
        refine wpAnyL_take 6 (v := .agg #[.string x.adr, .string x.key, .int .i64 x.pow, .int .i64 x.pri]) rfl (by kernel_rfl) (fun _ _ _ h => h) (yields_on (by kernel_rfl) (fun w' hw' => by obtain ⟨yb, y0, y1, y2, y3, z0, z1, z2, z3⟩ := hw'; go_simp)) HS.out ?_
        simp only [Act.put, List.setIfInBounds_toArray, List.set_cons_zero, List.set_cons_succ]
        refine wpAnyL_take 7 (v := .slice (some ad) n c) rfl (by kernel_rfl) (fun _ _ _ h => h) (yields_on (by kernel_rfl) (fun w' hw' => by obtain ⟨yb, y0, y1, y2, y3, z0, z1, z2, z3⟩ := hw'; go_simp)) HS.out ?_
        simp only [Act.put, List.setIfInBounds_toArray, List.set_cons_zero, List.set_cons_succ]
        refine wpAnyL_take 8 (v := .int .i64 m) rfl (by kernel_rfl) (fun _ _ _ h => h) (yields_on (by kernel_rfl) (fun w' hw' => by obtain ⟨yb, y0, y1, y2, y3, z0, z1, z2, z3⟩ := hw'; go_simp)) HS.out ?_
        simp only [Act.put, List.setIfInBounds_toArray, List.set_cons_zero, List.set_cons_succ]
        refine wpAnyL_take 9 (v := .pointer (some (ad.add (m * 4)))) rfl (by kernel_rfl) (fun _ _ _ h => h) (yields_on (by kernel_rfl) (fun w' hw' => by obtain ⟨yb, y0, y1, y2, y3, z0, z1, z2, z3⟩ := hw'; go_simp)) HS.out ?_
        simp only [Act.put, List.setIfInBounds_toArray, List.set_cons_zero, List.set_cons_succ]
        refine wpAnyL_take 10 (v := .agg #[.string y.adr, .string y.key, .int .i64 y.pow, .int .i64 y.pri]) rfl (by kernel_rfl) (fun _ _ _ h => h) (yields_on (by kernel_rfl) (fun w' hw' => by obtain ⟨yb, y0, y1, y2, y3, z0, z1, z2, z3⟩ := hw'; go_simp)) HS.out ?_
        simp only [Act.put, List.setIfInBounds_toArray, List.set_cons_zero, List.set_cons_succ]
        refine wpAnyL_on 11 rfl (by kernel_rfl) (by kernel_rfl) ?_
        go_simp
        refine (KC.out _).mono ?_
        rintro e w1 ⟨rfl, hb1⟩
        have hb2 : Below wr.heap.size wr w1 := (Below.refl _ _).drew.trans hb1
        have hadr : ad.block < wr.heap.size := Nat.lt_of_lt_of_le hadb HB.out.size
        have HB2 := Lib.hid hb2; clear hb1 hb2
        refine ⟨⟨HB2.out, (HB2.out.cell (p := ad.add (k * 4)) (by rw [add_block]; exact hadr)).trans c0, (HB2.out.cell (p := ⟨(ad.add (k * 4)).block, (ad.add (k * 4)).off + 1, none⟩) (by rw [add_block]; exact hadr)).trans c1, (HB2.out.cell (p := ⟨(ad.add (k * 4)).block, (ad.add (k * 4)).off + 2, none⟩) (by rw [add_block]; exact hadr)).trans c2, (HB2.out.cell (p := ⟨(ad.add (k * 4)).block, (ad.add (k * 4)).off + 3, none⟩) (by rw [add_block]; exact hadr)).trans c3, (HB2.out.cell (p := ad.add (m * 4)) (by rw [add_block]; exact hadr)).trans d0, (HB2.out.cell (p := ⟨(ad.add (m * 4)).block, (ad.add (m * 4)).off + 1, none⟩) (by rw [add_block]; exact hadr)).trans d1, (HB2.out.cell (p := ⟨(ad.add (m * 4)).block, (ad.add (m * 4)).off + 2, none⟩) (by rw [add_block]; exact hadr)).trans d2, (HB2.out.cell (p := ⟨(ad.add (m * 4)).block, (ad.add (m * 4)).off + 3, none⟩) (by rw [add_block]; exact hadr)).trans d3⟩, ?_⟩
        refine wpAnyL_one 12 rfl (by kernel_rfl) rfl ?_
        go_simp
        refine wpAnyL_done (by kernel_rfl) ?_ _
        cases hah : aheadB y x with
        | true =>
          rw [hah] at HNX
          go_wp2
          go_roundw
          case rel => exact ⟨k + 1, by omega, by go_num, by rw [HNX.out]; rfl, (fun q hq => by rw [HNX.out] at hq; simp only [if_true, Option.some.injEq] at hq; subst hq; exact ⟨by omega, HQA.out⟩), HB.out.trans (HB2.out.mono HB.out.size)⟩
          case measure => simp [intOf]; omega
        | false =>
          rw [hah] at HNX
          go_wp2
          go_roundw
          case rel => exact ⟨k + 1, by omega, by go_num, by rw [HNX.out]; rfl, (fun q hq => by rw [HNX.out] at hq; simp at hq; subst hq; exact ⟨Nat.lt_succ_self _, HX.out⟩), HB.out.trans (HB2.out.mono HB.out.size)⟩
          case measure => simp [intOf]; omega
    · obtain rfl : k = n := by omega
      have hf : l.zipIdx.take k = l.zipIdx := List.take_of_length_le (by have := HL.out; simp; omega)
      rw [hf]
      clear hf
      go_wp2
      go_ret
      exact ⟨rfl, HB.out⟩
end Go.Proofs.Ytikikddkhikfkaa
