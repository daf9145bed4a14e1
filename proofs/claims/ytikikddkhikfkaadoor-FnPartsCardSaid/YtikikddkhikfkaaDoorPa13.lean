/-
  The package's SHA-256 as a hash.Hash; the sums of leaves and of inner nodes: walks. By the session.
-/
import Derived.Test.YtikikddkhikfkaaDoorPa12
import Derived.Test.YtikikddkhikfkaaDoorPa2
set_option linter.all false
namespace Go.Proofs.YtikikddkhikfkaaDoor
open Go.RowKit

theorem run_copy32 {w : World} {ty : TypeId} (g c' : Nat) (p : List UInt8) (A : Option Addr) (B : Nat) (l : List UInt8) (hb : Blk w g 227 (bc l).toArray) (hl : l.length = 32) (hp : p.length = 32) (hr : Rd w B 1 A 32 (bc p)) :
    ∃ w', (Builtin.copy_ #[22, 22] ty #[.slice (some ⟨g, 0, none⟩) 32 32, .slice A 32 c']).run Tryd.prog w = .ok (goInt 32) w' ∧ Blk w' g 227 (bc p).toArray ∧ w.grownBy w' (some g) := by
  obtain ⟨i0, hi0, hz0, hz1, hz2⟩ := info_parts infoU8
  have hsz : (Tryd.prog.info? 5).map (·.size) = some 1 := by rw [hi0]; simp [hz1]
  obtain ⟨ad, rfl, hsrc⟩ := rd_src (q := 32) hr (by rw [List.take_of_length_le (by omega)]) (by omega)
  have hr := run_copy_row (P := Tryd.prog) w 22 22 ty 5 g 0 32 32 ad 32 c' (bc l).toArray 227 (bc p) Tryd.underlying22 hsz hb (by rw [bc_length, hp]; rfl) hsrc
    (by rw [bc_length, bc_size, hl, hp]; decide) (bc_one _)
  have hd : (bc l).drop (0 + (bc p).length) = [] := List.drop_eq_nil_of_le (by rw [bc_length, bc_length, hl, hp]; decide)
  have e : ((bc l).toArray.toList.take 0 ++ bc p ++ (bc l).toArray.toList.drop (0 + (bc p).length)).toArray = (bc p).toArray := by
    show ((bc l).take 0 ++ bc p ++ (bc l).drop (0 + (bc p).length)).toArray = _
    rw [hd, List.take_zero, List.nil_append, List.append_nil]
  rw [e, bc_length, hp] at hr
  exact ⟨_, hr, setRow_heap w g _ _ _ _ hb, grown_setRow _ _ _⟩
set_option maxRecDepth 100000 in
set_option maxHeartbeats 3200000 in
theorem sum256_any (A : Option Addr) (n c : Nat) (p : List UInt8) (w : World) (hr : Rd w w.heap.size 1 A n (bc p)) (hnc : n ≤ c) (hK : Kw w) (hn : n ≤ 70368744177664) (hA : ∀ ad, A = some ad → ad.block < w.heap.size) :
    Calls Tryd.prog 126 #[.slice A n c] w fun e w' => e = .returned (.agg (bc (shaL p)).toArray) ∧ Below w.heap.size w w' := by
  have hpl := hr.len1
  have hbl : Below w.heap.size w (w.alloc (.cells (bc (List.replicate 32 0)).toArray 227)) := (Below.refl _ _).alloc (Nat.le_refl _) _
  have hb0 : Blk (w.alloc (.cells (bc (List.replicate 32 0)).toArray 227)) w.heap.size 227 (bc (List.replicate 32 0)).toArray := Blk.new w _ _
  have HR := Lib.hid hr; have HK := Lib.hid hK; have HA := Lib.hid hA; have HP := Lib.hid hpl; have HBL := Lib.hid hbl; have HB0 := Lib.hid hb0; have HN := Lib.hid (And.intro hnc hn)
  clear hr hK hA hpl hbl hb0 hnc hn
  go_enter Tryd.func126, Tryd.ntmps126
  go_wp2_with fail
  rw [z32]
  obtain ⟨W0, hW0⟩ : ∃ W0, W0 = w.alloc (.cells (bc (List.replicate 32 0)).toArray 227) := ⟨_, rfl⟩
  rw [← hW0]
  have HBL' : Hid (Below w.heap.size w W0) := by rw [hW0]; exact HBL
  have HB0' : Hid (Blk W0 w.heap.size 227 (bc (List.replicate 32 0)).toArray) := by rw [hW0]; exact HB0
  clear hW0 HBL HB0
  obtain ⟨gd, hgd⟩ : ∃ gd, gd = W0.heap.size := ⟨_, rfl⟩
  refine (new_any _).mono ?_
  rintro e w1 ⟨rfl, hd1, hbl1⟩
  rw [← hgd] at hd1 ⊢
  have h01 := HBL'.out.trans (hbl1.mono HBL'.out.size)
  have hgl : w.heap.size < gd := by have h1 := HB0'.out.lt; omega
  have HD1 := Lib.hid hd1; have H01 := Lib.hid h01; have HGL := Lib.hid hgl
  have HR1 : Hid (Rd w1 w1.heap.size 1 A n (bc p)) := Lib.hid (HR.out.below h01).sized
  have HK1 := Lib.hid (HK.out.belowS h01)
  have HB1 := Lib.hid (HB0'.out.belowS hbl1)
  clear hd1 hbl1 h01 hgl hgd
  go_wp2_with fail
  refine (write_any gd [] p A n c w1 HD1.out HK1.out (by intro e; injection e with e; have := HK.out.2; have := HGL.out; omega) HR1.out (by intro ad e e2; injection e2 with e2; have := HA.out ad e; have := HGL.out; omega) HN.out.1 (by have := HP.out; have := HN.out.2; simp only [List.length_nil]; omega)).mono ?_
  rintro e w2 ⟨rfl, hd2, hg2⟩
  have h02 := H01.out.grown hg2 H01.out.size (by intro k e; cases e; exact Nat.le_of_lt HGL.out)
  have HB2 := Lib.hid (HB1.out.grown hg2 (by intro e; injection e with e; have := HGL.out; omega))
  have HD2 : Hid (Dg w2 gd p) := Lib.hid hd2
  have H02 := Lib.hid h02
  clear hd2 hg2 h02
  go_wp2_with fail
  rw [z32]
  obtain ⟨g4, hg4⟩ : ∃ g4, g4 = w2.heap.size := ⟨_, rfl⟩
  rw [← hg4]
  obtain ⟨W3, hW3⟩ : ∃ W3, W3 = w2.alloc (.cells (bc (List.replicate 32 0)).toArray 227) := ⟨_, rfl⟩
  rw [← hW3]
  have HD3 : Hid (Dg W3 gd p) := Lib.hid (by
    obtain ⟨h, x, nx, hk, hb⟩ := HD2.out
    rw [hW3]; exact ⟨h, x, nx, hk, hb.alloc _⟩)
  have H03 : Hid (Below w.heap.size w W3) := Lib.hid (by rw [hW3]; exact H02.out.alloc H02.out.size _)
  have HB3 : Hid (Blk W3 w.heap.size 227 (bc (List.replicate 32 0)).toArray) := Lib.hid (by rw [hW3]; exact HB2.out.alloc _)
  have HB4 : Hid (Blk W3 g4 227 (bc (List.replicate 32 0)).toArray) := Lib.hid (by rw [hW3, hg4]; exact Blk.new w2 _ _)
  have HG4 : Hid (w.heap.size < g4) := Lib.hid (by rw [hg4]; have := HB2.out.lt; omega)
  have HK3 := Lib.hid (HK.out.belowS H03.out)
  clear hW3 hg4
  go_wp2_with fail
  go_region_with (first
    | (go_at_call 130; refine (dsum_any gd p _ ?qa ?qb (by have := HP.out; have := HN.out.2; omega)).mono ?_; (case qa => exact HD3.out); (case qb => exact HK3.out); rintro e w3 ⟨A3, c3, rfl, ho3, hb3⟩; obtain ⟨w4, hrun, hb4, hg4⟩ := run_copy32 (ty := 3) g4 c3 (shaL p) A3 _ (List.replicate 32 0) ((HB4.out.drew).belowS hb3) rfl rfl ho3.rd)
    | rw [hrun])
  have h34 : Below w.heap.size w w3 := H03.out.drew.trans (hb3.mono H03.out.size)
  have h4 : Below w.heap.size w w4 := h34.grown hg4 h34.size (by intro k e; cases e; exact Nat.le_of_lt HG4.out)
  have hb2 : Blk w4 w.heap.size 227 (bc (List.replicate 32 0)).toArray := ((HB3.out.drew).belowS hb3).grown hg4 (by intro e; injection e with e; have := HG4.out; omega)
  have H4 := Lib.hid h4; have HB2' := Lib.hid hb2; have HB4' := Lib.hid hb4
  clear hrun hb4 hg4 h34 h4 hb2 hb3 ho3
  go_wp2_with (first
    | (refine wpList_load_row rfl 227 (.tmp 4) rfl g4 rfl 227 (bc (shaL p)).toArray (0, 0) _ HB4'.out Tryd.underlying227 rfl (info32 _ (shaL_length p)) ?_)
    | (refine wpList_store_rowTo rfl 227 (.tmp 2) (.tmp 13) rfl rfl w.heap.size (bc (shaL p)).toArray rfl rfl 227 _ HB2'.out (info32 _ (shaL_length p)) (by rw [bc_size, bc_size, shaL_length]; rfl) (bc_all _) ?_))
  have h9 : Blk (w4.setRow w.heap.size (bc (shaL p)).toArray) w.heap.size 227 (bc (shaL p)).toArray := setRow_heap _ _ _ _ _ _ HB2'.out
  refine bodyPost_ret (results_cell_row rfl _ _ w.heap.size 227 (bc (shaL p)).toArray (0, 0) _ rfl h9 Tryd.underlying227 rfl (info32 _ (shaL_length p))) rfl ⟨rfl, below_setRow H4.out (Nat.le_refl _) _⟩
/-- 32 bytes that a call has made -/
def Fresh32 (w w' : World) (A : Option Addr) (c : Nat) (s : List UInt8) : Prop := Rd w' w'.heap.size 1 A 32 (bc s) ∧ (∀ ad, A = some ad → w.heap.size ≤ ad.block) ∧ 32 ≤ c
set_option maxRecDepth 100000 in
set_option maxHeartbeats 3200000 in
theorem csum_any (A : Option Addr) (n c : Nat) (p : List UInt8) (w : World) (hr : Rd w w.heap.size 1 A n (bc p)) (hnc : n ≤ c) (hK : Kw w) (hn : n ≤ 70368744177664) (hA : ∀ ad, A = some ad → ad.block < w.heap.size) :
    Calls Tryd.prog 122 #[.slice A n c] w fun e w' => ∃ A' c', e = .returned (.slice A' 32 c') ∧ Fresh32 w w' A' c' (shaL p) ∧ Below w.heap.size w w' := by
  have HC := Lib.hid (sum256_any A n c p w hr hnc hK hn hA)
  clear hr hnc hK hn hA
  go_enter Tryd.func122, Tryd.ntmps122
  go_wp2_with fail
  refine HC.out.mono ?_
  rintro e w1 ⟨rfl, hb1⟩
  have HB := Lib.hid hb1
  clear hb1
  go_wp2_with (refine wpList_store_rowTo rfl 227 (.tmp 3) (.tmp 5) rfl rfl w1.heap.size (bc (shaL p)).toArray rfl rfl 227 _ (heap_alloc_new _ _) (info32 _ (shaL_length p)) (by rw [bc_size, shaL_length]; rfl) (bc_all _) ?_; rw [World.setRow_alloc_new])
  go_ret
  refine ⟨some ⟨w1.heap.size, 0, none⟩, 32, rfl, ⟨?_, ?_, Nat.le_refl _⟩, HB.out.alloc HB.out.size _⟩
  · have h1 := rd_blk (Blk.new w1 227 (bc (shaL p)).toArray) 0 32 (by rw [shaL_length]; exact Nat.le_refl _)
    rw [List.drop_zero, List.take_of_length_le (by rw [shaL_length]; exact Nat.le_refl _)] at h1
    exact h1
  · intro ad e; cases e; exact HB.out.size
set_option maxRecDepth 100000 in
theorem leafP_any (w : World) : Calls Tryd.prog 120 #[] w fun e w' => e = .returned (.slice (some ⟨w.heap.size, 0, none⟩) 1 1) ∧ w' = w.alloc (.cells (bc [0]).toArray 5) := by
  go_enter Tryd.func120, Tryd.ntmps120
  go_wp2
  go_ret
  exact ⟨rfl, rfl⟩
set_option maxRecDepth 100000 in
theorem innerP_any (w : World) : Calls Tryd.prog 124 #[] w fun e w' => e = .returned (.slice (some ⟨w.heap.size, 0, none⟩) 1 1) ∧ w' = w.alloc (.cells (bc [1]).toArray 5) := by
  go_enter Tryd.func124, Tryd.ntmps124
  go_wp2
  go_ret
  exact ⟨rfl, rfl⟩
set_option maxRecDepth 100000 in
theorem emptyHash_any (w : World) (hK : Kw w) : Calls Tryd.prog 113 #[] w fun e w' => ∃ A' c', e = .returned (.slice A' 32 c') ∧ Fresh32 w w' A' c' (shaL []) ∧ Below w.heap.size w w' := by
  have HK := Lib.hid hK
  clear hK
  go_enter Tryd.func113, Tryd.ntmps113
  go_wp2_with fail
  have hbl : Below w.heap.size w (w.alloc (.cells #[] 5)) := (Below.refl _ _).alloc (Nat.le_refl _) _
  refine (csum_any (some ⟨w.heap.size, 0, none⟩) 0 0 [] _ (Rd.nil _ _ _ _) (Nat.le_refl _) (HK.out.belowS hbl) (by decide) (by intro ad e; cases e; simp)).mono ?_
  rintro e w1 ⟨A1, c1, rfl, ⟨h1, h2, h3⟩, hb1⟩
  have HH : Hid (Fresh32 w w1 A1 c1 (shaL [])) := Lib.hid ⟨h1, fun ad e => Nat.le_trans hbl.size (h2 ad e), h3⟩
  have HB := Lib.hid (hbl.trans (hb1.mono hbl.size))
  clear hbl h1 h2 h3 hb1
  go_wp2_with fail
  go_ret
  exact ⟨A1, c1, rfl, HH.out, HB.out⟩
theorem Own8.cap {w : World} {B n c : Nat} {A : Option Addr} {s : List UInt8} (h : Own8 w B A n c s) : n ≤ c := by
  rcases h.2 with ⟨h1, h2⟩ | ⟨g, cap, cur, hv, _, _, h2, _⟩
  · injection h1 with _ h3 h4; omega
  · injection hv with _ _ h3; omega
theorem Own8.fresh {w w' : World} {c : Nat} {A : Option Addr} {s : List UInt8} (h : Own8 w' w.heap.size A 32 c s) : Fresh32 w w' A c s :=
  ⟨h.rd, fun ad e => (h.at_ ad.block (by rw [e]; rfl)).1, h.cap⟩

theorem nil_write (a : Addr) (w : World) : (nilAhead 363 182 (.pointer (some a)) "Write").run Tryd.prog w = .ok (some false) w := by kernel_rfl
theorem m_write (a : Addr) (w : World) : (method 363 182 (.pointer (some a)) "Write").run Tryd.prog w = .ok (129, .pointer (some a)) w := by kernel_rfl
theorem m_reset (a : Addr) (w : World) : (method 363 182 (.pointer (some a)) "Reset").run Tryd.prog w = .ok (116, .pointer (some a)) w := by kernel_rfl
theorem m_sum (a : Addr) (w : World) : (method 363 182 (.pointer (some a)) "Sum").run Tryd.prog w = .ok (130, .pointer (some a)) w := by kernel_rfl
set_option maxRecDepth 100000 in
set_option maxHeartbeats 3200000 in
theorem leafOptO_any (gd : Nat) (A : Option Addr) (n c : Nat) (p : List UInt8) (w : World) (hd : DgAny w gd) (hK : Kw w) (hgK : some gd ≠ some 3) (hr : Rd w w.heap.size 1 A n (bc p)) (hnc : n ≤ c) (hn : n ≤ 35184372088832) (hA : ∀ ad, A = some ad → some ad.block ≠ some gd) :
    Calls Tryd.prog 109 #[.iface 182 (.pointer (some ⟨gd, 0, none⟩)), .slice A n c] w fun e w' => ∃ A' c', e = .returned (.slice A' 32 c') ∧ Own8 w' w.heap.size A' 32 c' (leafL p) ∧ DgAny w' gd ∧ w.grownBy w' (some gd) := by
  have hpl := hr.len1
  have hgl : gd < w.heap.size := by obtain ⟨h, x, nx, len, hx, hb⟩ := hd; exact hb.lt
  have HD := Lib.hid hd; have HK := Lib.hid hK; have HGK := Lib.hid hgK; have HR := Lib.hid hr; have HA := Lib.hid hA; have HP := Lib.hid hpl; have HN := Lib.hid (And.intro hnc hn)
  have HGL := Lib.hid hgl
  clear hd hK hgK hr hnc hn hA hpl hgl
  have nw := nil_write
  have mw := m_write
  have mr := m_reset
  have ms := m_sum
  have hmf : ∀ (fn : Fn) (first cap : Array Value) (w : World), (Instr.makeFunc fn first cap).run Tryd.prog w = .ok (.func fn first cap) w := fun _ _ _ _ => rfl
  go_enter Tryd.func109, Tryd.ntmps109
  go_wp2_with fail
  refine (reset_any gd w HD.out).mono ?_
  rintro e w1 ⟨rfl, hd1, hg1⟩
  have HD1 := Lib.hid hd1; have HG1 := Lib.hid hg1; have HK1 := Lib.hid (HK.out.grown hg1 HGK.out)
  have hgl1 : gd < w1.heap.size := Nat.lt_of_lt_of_le HGL.out hg1.size
  have HGL1 := Lib.hid hgl1
  have hal : w1.drew.grownBy (w1.drew.alloc (.cells (bc [0]).toArray 5)) (some gd) := grownAny_of ((Below.refl _ _).alloc (Nat.le_refl _) _) _
  have HAL := Lib.hid hal
  have HRA : Hid (Rd (w1.drew.alloc (.cells (bc [0]).toArray 5)) (w1.drew.alloc (.cells (bc [0]).toArray 5)).heap.size 1 (some ⟨w1.drew.heap.size, 0, none⟩) 1 (bc [0])) := Lib.hid (rd_blk (Blk.new w1.drew 5 (bc [0]).toArray) 0 1 (by decide))
  have HDA : Hid (Dg (w1.drew.alloc (.cells (bc [0]).toArray 5)) gd []) := Lib.hid (by
    obtain ⟨h, x, nx, hk, hb⟩ := hd1
    exact ⟨h, x, nx, hk, (hb.drew).alloc _⟩)
  have HKA := Lib.hid (HK1.out.grown (show w1.grownBy (w1.drew.alloc (.cells (bc [0]).toArray 5)) (some gd) from undrew hal) HGK.out)
  clear hd1 hg1 hgl1 hal
  go_wp2_with fail
  go_region_with (first
    | (go_at_call 120; refine (leafP_any _).mono ?_; rintro e w9 ⟨rfl, rfl⟩)
    | (go_at_call 129; refine (write_any gd [] [0] (some ⟨w1.drew.heap.size, 0, none⟩) 1 1 _ ?qd ?qk HGK.out ?qr ?qa (Nat.le_refl _) (by decide)).mono ?_; (case qd => exact HDA.out); (case qk => exact HKA.out); (case qr => exact HRA.out); (case qa => intro ad e e2; cases e; injection e2 with e2; have := HGL1.out; simp at e2; omega); rintro e w2 ⟨rfl, hd2, hg2⟩))
  all_goals
    have hg02 : w.grownBy w2 (some gd) := (HG1.out.trans (undrew HAL.out)).trans hg2
    have hr2 : Rd w2 w2.heap.size 1 A n (bc p) := (HR.out.grew hg02 HA.out).sized
    have HD2 : Hid (Dg w2 gd [0]) := Lib.hid hd2
    have HG02 := Lib.hid hg02; have HR2 := Lib.hid hr2; have HK2 := Lib.hid (HK.out.grown hg02 HGK.out)
    clear hd2 hg2 hg02 hr2
    go_wp2_with fail
    refine (write_any gd [0] p A n c w2 HD2.out HK2.out HGK.out HR2.out HA.out HN.out.1 (by have := HP.out; have := HN.out.2; simp only [List.length_cons, List.length_nil]; omega)).mono ?_
    rintro e w3 ⟨rfl, hd3, hg3⟩
    have hg03 := HG02.out.trans hg3
    have HD3 := Lib.hid hd3; have HG03 := Lib.hid hg03; have HK3 := Lib.hid (HK.out.grown hg03 HGK.out)
    clear hd3 hg3 hg03
    go_wp2_with fail
    refine (dsum_any gd ([0] ++ p) w3 HD3.out HK3.out (by have := HP.out; have := HN.out.2; simp only [List.length_append, List.length_cons, List.length_nil]; omega)).mono ?_
    rintro e w4 ⟨A4, c4, rfl, ho4, hb4⟩
    have HO4 := Lib.hid ho4; have HB4 := Lib.hid hb4
    clear ho4 hb4
    go_wp2_with fail
    go_ret
    refine ⟨A4, c4, rfl, HO4.out.more HG03.out.size, ?_, HG03.out.trans (grownAny_of HB4.out _)⟩
    obtain ⟨h, x, nx, hk, hb⟩ := HD3.out
    exact ⟨h, x, nx, _, hk.len, hb.belowS HB4.out⟩
theorem leafOpt_any (gd : Nat) (A : Option Addr) (n c : Nat) (p : List UInt8) (w : World) (hd : DgAny w gd) (hK : Kw w) (hgK : some gd ≠ some 3) (hr : Rd w w.heap.size 1 A n (bc p)) (hnc : n ≤ c) (hn : n ≤ 35184372088832) (hA : ∀ ad, A = some ad → some ad.block ≠ some gd) :
    Calls Tryd.prog 109 #[.iface 182 (.pointer (some ⟨gd, 0, none⟩)), .slice A n c] w fun e w' => ∃ A' c', e = .returned (.slice A' 32 c') ∧ Fresh32 w w' A' c' (leafL p) ∧ DgAny w' gd ∧ w.grownBy w' (some gd) :=
  (leafOptO_any gd A n c p w hd hK hgK hr hnc hn hA).mono fun _ _ ⟨A1, c1, h1, h2, h3⟩ => ⟨A1, c1, h1, h2.fresh, h3⟩
set_option maxRecDepth 100000 in
set_option maxHeartbeats 3200000 in
theorem innerOptO_any (gd : Nat) (A A' : Option Addr) (n c n' c' : Nat) (p p' : List UInt8) (w : World) (hd : DgAny w gd) (hK : Kw w) (hgK : some gd ≠ some 3) (hr : Rd w w.heap.size 1 A n (bc p)) (hnc : n ≤ c) (hn : n ≤ 35184372088832) (hA : ∀ ad, A = some ad → some ad.block ≠ some gd)
    (hr' : Rd w w.heap.size 1 A' n' (bc p')) (hnc' : n' ≤ c') (hn' : n' ≤ 1000000) (hA' : ∀ ad, A' = some ad → some ad.block ≠ some gd) :
    Calls Tryd.prog 115 #[.iface 182 (.pointer (some ⟨gd, 0, none⟩)), .slice A n c, .slice A' n' c'] w fun e w' => ∃ A' c', e = .returned (.slice A' 32 c') ∧ Own8 w' w.heap.size A' 32 c' (innerL p p') ∧ DgAny w' gd ∧ w.grownBy w' (some gd) := by
  have hpl := hr.len1
  have hpl' := hr'.len1
  have hgl : gd < w.heap.size := by obtain ⟨h, x, nx, len, hx, hb⟩ := hd; exact hb.lt
  have HD := Lib.hid hd; have HK := Lib.hid hK; have HGK := Lib.hid hgK; have HR := Lib.hid hr; have HA := Lib.hid hA; have HP := Lib.hid hpl; have HN := Lib.hid (And.intro hnc hn)
  have HR' := Lib.hid hr'; have HA' := Lib.hid hA'; have HP' := Lib.hid hpl'; have HN' := Lib.hid (And.intro hnc' hn')
  have HGL := Lib.hid hgl
  clear hd hK hgK hr hnc hn hA hpl hgl hr' hnc' hn' hA' hpl'
  have nw := nil_write
  have mw := m_write
  have mr := m_reset
  have ms := m_sum
  have hmf : ∀ (fn : Fn) (first cap : Array Value) (w : World), (Instr.makeFunc fn first cap).run Tryd.prog w = .ok (.func fn first cap) w := fun _ _ _ _ => rfl
  go_enter Tryd.func115, Tryd.ntmps115
  go_wp2_with fail
  refine (reset_any gd w HD.out).mono ?_
  rintro e w1 ⟨rfl, hd1, hg1⟩
  have HD1 := Lib.hid hd1; have HG1 := Lib.hid hg1; have HK1 := Lib.hid (HK.out.grown hg1 HGK.out)
  have hgl1 : gd < w1.heap.size := Nat.lt_of_lt_of_le HGL.out hg1.size
  have HGL1 := Lib.hid hgl1
  have hal : w1.drew.grownBy (w1.drew.alloc (.cells (bc [1]).toArray 5)) (some gd) := grownAny_of ((Below.refl _ _).alloc (Nat.le_refl _) _) _
  have HAL := Lib.hid hal
  have HRA : Hid (Rd (w1.drew.alloc (.cells (bc [1]).toArray 5)) (w1.drew.alloc (.cells (bc [1]).toArray 5)).heap.size 1 (some ⟨w1.drew.heap.size, 0, none⟩) 1 (bc [1])) := Lib.hid (rd_blk (Blk.new w1.drew 5 (bc [1]).toArray) 0 1 (by decide))
  have HDA : Hid (Dg (w1.drew.alloc (.cells (bc [1]).toArray 5)) gd []) := Lib.hid (by
    obtain ⟨h, x, nx, hk, hb⟩ := hd1
    exact ⟨h, x, nx, hk, (hb.drew).alloc _⟩)
  have HKA := Lib.hid (HK1.out.grown (show w1.grownBy (w1.drew.alloc (.cells (bc [1]).toArray 5)) (some gd) from undrew hal) HGK.out)
  clear hd1 hg1 hgl1 hal
  go_wp2_with fail
  go_region_with (first
    | (go_at_call 124; refine (innerP_any _).mono ?_; rintro e w9 ⟨rfl, rfl⟩)
    | (go_at_call 129; refine (write_any gd [] [1] (some ⟨w1.drew.heap.size, 0, none⟩) 1 1 _ ?qd ?qk HGK.out ?qr ?qa (Nat.le_refl _) (by decide)).mono ?_; (case qd => exact HDA.out); (case qk => exact HKA.out); (case qr => exact HRA.out); (case qa => intro ad e e2; cases e; injection e2 with e2; have := HGL1.out; simp at e2; omega); rintro e w2 ⟨rfl, hd2, hg2⟩))
  all_goals
    have hg02 : w.grownBy w2 (some gd) := (HG1.out.trans (undrew HAL.out)).trans hg2
    have hr2 : Rd w2 w2.heap.size 1 A n (bc p) := (HR.out.grew hg02 HA.out).sized
    have HD2 : Hid (Dg w2 gd [1]) := Lib.hid hd2
    have HG02 := Lib.hid hg02; have HR2 := Lib.hid hr2; have HK2 := Lib.hid (HK.out.grown hg02 HGK.out)
    clear hd2 hg2 hg02 hr2
    go_wp2_with fail
    refine (write_any gd [1] p A n c w2 HD2.out HK2.out HGK.out HR2.out HA.out HN.out.1 (by have := HP.out; have := HN.out.2; simp only [List.length_cons, List.length_nil]; omega)).mono ?_
    rintro e w3 ⟨rfl, hd3, hg3⟩
    have hg03 := HG02.out.trans hg3
    have hr3 : Rd w3 w3.heap.size 1 A' n' (bc p') := (HR'.out.grew hg03 HA'.out).sized
    have HD3 := Lib.hid hd3; have HG03 := Lib.hid hg03; have HK3 := Lib.hid (HK.out.grown hg03 HGK.out); have HR3 := Lib.hid hr3
    clear hd3 hg3 hg03 hr3
    go_wp2_with fail
    refine (write_any gd ([1] ++ p) p' A' n' c' w3 HD3.out HK3.out HGK.out HR3.out HA'.out HN'.out.1 (by have := HP.out; have := HN.out.2; have := HP'.out; have := HN'.out.2; simp only [List.length_append, List.length_cons, List.length_nil]; omega)).mono ?_
    rintro e w5 ⟨rfl, hd5, hg5⟩
    have hg05 := HG03.out.trans hg5
    have HD5 : Hid (Dg w5 gd (1 :: (p ++ p'))) := Lib.hid (by rw [List.append_assoc] at hd5; exact hd5)
    have HG05 := Lib.hid hg05; have HK5 := Lib.hid (HK.out.grown hg05 HGK.out)
    clear hd5 hg5 hg05
    go_wp2_with fail
    refine (dsum_any gd (1 :: (p ++ p')) w5 HD5.out HK5.out (by have := HP.out; have := HN.out.2; have := HP'.out; have := HN'.out.2; simp only [List.length_append, List.length_cons, List.length_nil]; omega)).mono ?_
    rintro e w4 ⟨A4, c4, rfl, ho4, hb4⟩
    have HO4 := Lib.hid ho4; have HB4 := Lib.hid hb4
    clear ho4 hb4
    go_wp2_with fail
    go_ret
    refine ⟨A4, c4, rfl, HO4.out.more HG05.out.size, ?_, HG05.out.trans (grownAny_of HB4.out _)⟩
    obtain ⟨h, x, nx, hk, hb⟩ := HD5.out
    exact ⟨h, x, nx, _, hk.len, hb.belowS HB4.out⟩
theorem innerOpt_any (gd : Nat) (A A' : Option Addr) (n c n' c' : Nat) (p p' : List UInt8) (w : World) (hd : DgAny w gd) (hK : Kw w) (hgK : some gd ≠ some 3) (hr : Rd w w.heap.size 1 A n (bc p)) (hnc : n ≤ c) (hn : n ≤ 35184372088832) (hA : ∀ ad, A = some ad → some ad.block ≠ some gd)
    (hr' : Rd w w.heap.size 1 A' n' (bc p')) (hnc' : n' ≤ c') (hn' : n' ≤ 1000000) (hA' : ∀ ad, A' = some ad → some ad.block ≠ some gd) :
    Calls Tryd.prog 115 #[.iface 182 (.pointer (some ⟨gd, 0, none⟩)), .slice A n c, .slice A' n' c'] w fun e w' => ∃ A' c', e = .returned (.slice A' 32 c') ∧ Fresh32 w w' A' c' (innerL p p') ∧ DgAny w' gd ∧ w.grownBy w' (some gd) :=
  (innerOptO_any gd A A' n c n' c' p p' w hd hK hgK hr hnc hn hA hr' hnc' hn' hA').mono fun _ _ ⟨A1, c1, h1, h2, h3⟩ => ⟨A1, c1, h1, h2.fresh, h3⟩
end Go.Proofs.YtikikddkhikfkaaDoor
