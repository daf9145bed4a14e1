/-
  The parts of a header as messages, in the package: cdcString, cdcInt64, cdcBytes, Consensus, PartSetHeader, BlockID: walks. Printed by gen_head.py. By the session.
-/
import Derived.Test.YtikikddkhikfkaaDoorPa32
set_option linter.all false
namespace Go.Proofs.YtikikddkhikfkaaDoor
open Go.RowKit

theorem own_begin (w : World) (B : Nat) : Own8 w B none 0 0 [] := Own8.nil w B
set_option maxRecDepth 100000 in
set_option maxHeartbeats 800000 in
theorem cdcInt_any (v : Int) (w : World) : Calls Tryd.prog 73 #[.int .i64 v] w (MadeQ w (numB 1 (u64 v))) := by
  have hw : IntKind.u64.wrap v = ((u64 v : Nat) : Int) := by rw [u64_cast]; simp [IntKind.wrap, IntKind.bits, IntKind.signed]
  have K := Lib.hid (putNum_any w.heap.size 0 0 1 none [] (u64 v) w (Own8.nil _ _) (Nat.le_refl _) (by decide) (u64_lt _) (by decide))
  go_enter Tryd.func73, Tryd.ntmps73
  go_wp2_with fail
  refine K.out.mono ?_
  rintro e w1 ⟨A1, m1, c1, rfl, ho1, hg1⟩
  have HO1 := Lib.hid ho1; have HB1 := Lib.hid (hg1.below (Nat.le_refl _) (by intro k e; cases e))
  clear ho1 hg1
  go_wp2_with fail
  go_ret
  exact ⟨A1, m1, c1, rfl, HO1.out, HB1.out⟩
set_option maxRecDepth 100000 in
set_option maxHeartbeats 800000 in
theorem cdcBytes_any (A : Option Addr) (n c : Nat) (x : List UInt8) (w : World) (hr : Rd w w.heap.size 1 A n (bc x)) (hn : n ≤ 10000000000) : Calls Tryd.prog 74 #[.slice A n c] w (MadeQ w (txtB 1 x)) := by
  have hxm := hr.len1
  by_cases h0 : n = 0
  · subst h0
    have hx : x = [] := List.eq_nil_of_length_eq_zero hxm.symm
    subst hx
    clear hr hxm
    go_enter Tryd.func74, Tryd.ntmps74
    go_wp2
    go_ret
    exact ⟨none, 0, 0, rfl, Own8.nil _ _, Below.refl _ _⟩
  · have hz : ((n : Int) == 0) = false := by rw [beq_eq_false_iff_ne]; omega
    have K := Lib.hid (putTxt_lo w.heap.size 0 0 1 none [] A n c x w (Own8.nil _ _) (Nat.le_refl _) (by decide) hr (by omega) (by decide))
    clear hr hxm
    go_enter Tryd.func74, Tryd.ntmps74
    go_wp2_with fail
    refine K.out.mono ?_
    rintro e w1 ⟨A1, m1, c1, rfl, ho1, hg1⟩
    have HO1 := Lib.hid ho1; have HB1 := Lib.hid (hg1.below (Nat.le_refl _) (by intro k e; cases e))
    clear ho1 hg1
    go_wp2_with fail
    go_ret
    exact ⟨A1, m1, c1, rfl, HO1.out, HB1.out⟩
set_option maxRecDepth 100000 in
set_option maxHeartbeats 800000 in
theorem cdcString_any (s : ByteArray) (w : World) (hn : s.size ≤ 10000000000) : Calls Tryd.prog 72 #[.string s] w (MadeQ w (txtB 1 s.data.toList)) := by
  obtain ⟨f, kc⟩ := run_conv (P := Tryd.prog) 9 22 Tryd.underlying9 Tryd.underlying22 Tryd.underlying5 s
  by_cases h0 : s.size = 0
  · have hl : s.data.toList = [] := List.eq_nil_of_length_eq_zero h0
    have hz : s.toList.isEmpty = true := by rw [toList_data, hl]; rfl
    have HL := Lib.hid hl
    clear hn hl
    go_enter Tryd.func72, Tryd.ntmps72
    go_wp2
    go_ret
    rw [HL.out]
    exact ⟨none, 0, 0, rfl, Own8.nil _ _, Below.refl _ _⟩
  · have hz : s.toList.isEmpty = false := by
      rw [toList_data]
      cases hl : s.data.toList with
      | nil => exact absurd (show s.size = 0 from congrArg List.length hl) h0
      | cons a r => rfl
    have hb0 : Below w.heap.size w (w.drew.alloc (bObj s (f w))) := ((Below.refl _ _).drew).alloc (Nat.le_refl _) _
    have hr0 : Rd (w.drew.alloc (bObj s (f w))) (w.drew.alloc (bObj s (f w))).heap.size 1 (some ⟨w.heap.size, 0, none⟩) s.size (bc s.data.toList) := (Rd.conv w.drew s (f w) _ rfl).more (by simp)
    have HB0 := Lib.hid hb0
    have K := Lib.hid (putTxt_lo (w.drew.alloc (bObj s (f w))).heap.size 0 0 1 none [] _ s.size (f w) _ (w.drew.alloc (bObj s (f w))) (Own8.nil _ _) (Nat.le_refl _) (by decide) hr0 (by omega) (by decide))
    clear hb0 hr0 hn h0
    go_enter Tryd.func72, Tryd.ntmps72
    go_wp2_with fail
    refine K.out.mono ?_
    rintro e w1 ⟨A1, m1, c1, rfl, ho1, hg1⟩
    have HO1 := Lib.hid (ho1.more HB0.out.size); have HB1 := Lib.hid (HB0.out.trans ((hg1.below (Nat.le_refl _) (by intro k e; cases e)).mono HB0.out.size))
    clear ho1 hg1
    go_wp2_with fail
    go_ret
    exact ⟨A1, m1, c1, rfl, HO1.out, HB1.out⟩
set_option maxRecDepth 100000 in
set_option maxHeartbeats 1600000 in
theorem cons_any (b a : Nat) (w : World) (hb : b < 18446744073709551616) (ha : a < 18446744073709551616) :
    Calls Tryd.prog 69 #[.agg #[.int .u64 (b : Int), .int .u64 (a : Int)]] w (MadeQ w (numB 1 b ++ numB 2 a)) := by
  have hsx : Blk (w.alloc (.cells #[.int .u64 (b : Int), .int .u64 (a : Int)] 86)).drew w.heap.size 86 #[.int .u64 (b : Int), .int .u64 (a : Int)] := (Blk.new w _ _).drew
  have HSX := Lib.hid hsx
  have HB0 := Lib.hid (((Below.refl w.heap.size w).alloc (Nat.le_refl _) (.cells #[.int .u64 (b : Int), .int .u64 (a : Int)] 86)).drew)
  clear hsx
  go_enter Tryd.func69, Tryd.ntmps69
  go_wp2_with fail
  refine wp_region_L (fun w' => Blk w' w.heap.size 86 #[.int .u64 (b : Int), .int .u64 (a : Int)]) 6 (by kernel_rfl) ?_
  refine wpAnyL_take 0 (v := .pointer (some ⟨w.heap.size, 0, none⟩)) rfl (by kernel_rfl) (fun _ _ _ h => h) (yields_in rfl (fun w' hw' => by go_simp)) HSX.out ?_
  simp only [Act.put, List.setIfInBounds_toArray, List.set_cons_zero, List.set_cons_succ]
  refine wpAnyL_take 1 (v := .int .u64 (b : Int)) rfl (by kernel_rfl) (fun _ _ _ h => h) (yields_in rfl (fun w' hw' => by have c1 : w'.cell? ⟨w.heap.size, 0, none⟩ = some (.int .u64 (b : Int)) := hw'.cell 0; go_simp)) HSX.out ?_
  simp only [Act.put, List.setIfInBounds_toArray, List.set_cons_zero, List.set_cons_succ]
  refine wpAnyL_take 3 (v := .pointer (some ⟨w.heap.size, 1, none⟩)) rfl (by kernel_rfl) (fun _ _ _ h => h) (yields_in rfl (fun w' hw' => by go_simp)) HSX.out ?_
  simp only [Act.put, List.setIfInBounds_toArray, List.set_cons_zero, List.set_cons_succ]
  refine wpAnyL_take 4 (v := .int .u64 (a : Int)) rfl (by kernel_rfl) (fun _ _ _ h => h) (yields_in rfl (fun w' hw' => by have c1 : w'.cell? ⟨w.heap.size, 1, none⟩ = some (.int .u64 (a : Int)) := hw'.cell 1; go_simp)) HSX.out ?_
  simp only [Act.put, List.setIfInBounds_toArray, List.set_cons_zero, List.set_cons_succ]
  generalize (w.alloc _).drew = W0 at *
  refine wpAnyL_one 2 rfl (by kernel_rfl) rfl ?_
  go_simp
  refine (putNum_any W0.heap.size 0 0 1 none [] b W0 (Own8.nil _ _) (Nat.le_refl _) (by decide) hb (by decide)).mono ?_
  rintro e W1 ⟨A1, m1, c1, rfl, ho1, hg1⟩
  have hb1 : Below W0.heap.size W0 W1 := hg1.below (Nat.le_refl _) (by intro k e; cases e)
  have HS1 := Lib.hid (HSX.out.belowS hb1); have HB1 := Lib.hid hb1; have HO1 := Lib.hid ho1
  clear ho1 hg1 hb1
  refine ⟨HS1.out, ?_⟩
  refine wpAnyL_one 5 rfl (by kernel_rfl) rfl ?_
  go_simp
  refine (putNum_any W0.heap.size m1 c1 2 A1 _ a W1 HO1.out HB1.out.size (by have := HO1.out.len; have := numB_length 1 b hb; rw [List.nil_append] at *; omega) ha (by decide)).mono ?_
  rintro e W2 ⟨A2, m2, c2, rfl, ho2, hg2⟩
  have hb2 : Below W0.heap.size W0 W2 := HB1.out.grown hg2.1 HB1.out.size (fun k e => (HO1.out.at_ k e).1)
  have hs2 := HS1.out.grown hg2.1 (fun e => by have h1 := HSX.out.lt; have h2 := (HO1.out.at_ _ e.symm).1; omega)
  have HS2 := Lib.hid hs2; have HB2 := Lib.hid hb2; have HO2 := Lib.hid ho2
  clear ho2 hg2 hb2 hs2
  refine ⟨HS2.out, ?_⟩
  refine wpAnyL_one 6 rfl (by kernel_rfl) rfl ?_
  go_simp
  refine wpAnyL_done (by kernel_rfl) ?_ _
  go_wp2_with fail
  go_ret
  refine ⟨A2, m2, c2, rfl, ?_, HB0.out.trans (HB2.out.mono HB0.out.size)⟩
  have h9 := HO2.out
  rw [List.nil_append] at h9
  exact h9.more HB0.out.size
set_option maxRecDepth 100000 in
set_option maxHeartbeats 1600000 in
theorem psh_any (p : Nat) (R : Option Addr) (n c : Nat) (root : List UInt8) (w : World) (hp : p ≤ 4294967295) (hr : Rd w w.heap.size 1 R n (bc root)) (hn : n ≤ 10000000000) :
    Calls Tryd.prog 98 #[.agg #[.int .u32 (p : Int), .slice R n c]] w (MadeQ w (numB 1 p ++ txtB 2 root)) := by
  have hsx : Blk (w.alloc (.cells #[.int .u32 (p : Int), .slice R n c] 92)).drew w.heap.size 92 #[.int .u32 (p : Int), .slice R n c] := (Blk.new w _ _).drew
  have HSX := Lib.hid hsx
  have HB0 := Lib.hid (((Below.refl w.heap.size w).alloc (Nat.le_refl _) (.cells #[.int .u32 (p : Int), .slice R n c] 92)).drew)
  clear hsx
  go_enter Tryd.func98, Tryd.ntmps98
  go_wp2_with fail
  refine wp_region_L (fun w' => Blk w' w.heap.size 92 #[.int .u32 (p : Int), .slice R n c]) 7 (by kernel_rfl) ?_
  refine wpAnyL_take 0 (v := .pointer (some ⟨w.heap.size, 0, none⟩)) rfl (by kernel_rfl) (fun _ _ _ h => h) (yields_in rfl (fun w' hw' => by go_simp)) HSX.out ?_
  simp only [Act.put, List.setIfInBounds_toArray, List.set_cons_zero, List.set_cons_succ]
  refine wpAnyL_take 1 (v := .int .u32 (p : Int)) rfl (by kernel_rfl) (fun _ _ _ h => h) (yields_in rfl (fun w' hw' => by have c1 : w'.cell? ⟨w.heap.size, 0, none⟩ = some (.int .u32 (p : Int)) := hw'.cell 0; go_simp)) HSX.out ?_
  simp only [Act.put, List.setIfInBounds_toArray, List.set_cons_zero, List.set_cons_succ]
  refine wpAnyL_take 2 (v := .int .u64 (p : Int)) rfl (by kernel_rfl) (fun _ _ _ h => h) (yields_in rfl (fun w' hw' => by have hw : IntKind.u64.wrap (p : Int) = (p : Int) := (by rw [IntKind.wrap_u64]; omega); go_simp)) HSX.out ?_
  simp only [Act.put, List.setIfInBounds_toArray, List.set_cons_zero, List.set_cons_succ]
  refine wpAnyL_take 4 (v := .pointer (some ⟨w.heap.size, 1, none⟩)) rfl (by kernel_rfl) (fun _ _ _ h => h) (yields_in rfl (fun w' hw' => by go_simp)) HSX.out ?_
  simp only [Act.put, List.setIfInBounds_toArray, List.set_cons_zero, List.set_cons_succ]
  refine wpAnyL_take 5 (v := .slice R n c) rfl (by kernel_rfl) (fun _ _ _ h => h) (yields_in rfl (fun w' hw' => by have c1 : w'.cell? ⟨w.heap.size, 1, none⟩ = some (.slice R n c) := hw'.cell 1; go_simp)) HSX.out ?_
  simp only [Act.put, List.setIfInBounds_toArray, List.set_cons_zero, List.set_cons_succ]
  generalize (w.alloc _).drew = W0 at *
  refine wpAnyL_one 3 rfl (by kernel_rfl) rfl ?_
  go_simp
  refine (putNum_any W0.heap.size 0 0 1 none [] p W0 (Own8.nil _ _) (Nat.le_refl _) (by decide) (by omega) (by decide)).mono ?_
  rintro e W1 ⟨A1, m1, c1, rfl, ho1, hg1⟩
  have hb1 : Below W0.heap.size W0 W1 := hg1.below (Nat.le_refl _) (by intro k e; cases e)
  have HS1 := Lib.hid (HSX.out.belowS hb1); have HB1 := Lib.hid hb1; have HO1 := Lib.hid ho1
  clear ho1 hg1 hb1
  refine ⟨HS1.out, ?_⟩
  refine wpAnyL_one 6 rfl (by kernel_rfl) rfl ?_
  go_simp
  refine (putTxt_lo W0.heap.size m1 c1 2 A1 _ R n c root W1 HO1.out HB1.out.size (by have := HO1.out.len; have := numB_length 1 p (by omega); rw [List.nil_append] at *; omega) (((hr.below HB0.out).sized).below HB1.out) (by omega) (by decide)).mono ?_
  rintro e W2 ⟨A2, m2, c2, rfl, ho2, hg2⟩
  have hb2 : Below W0.heap.size W0 W2 := HB1.out.grown hg2.1 HB1.out.size (fun k e => (HO1.out.at_ k e).1)
  have hs2 := HS1.out.grown hg2.1 (fun e => by have h1 := HSX.out.lt; have h2 := (HO1.out.at_ _ e.symm).1; omega)
  have HS2 := Lib.hid hs2; have HB2 := Lib.hid hb2; have HO2 := Lib.hid ho2
  clear ho2 hg2 hb2 hs2
  refine ⟨HS2.out, ?_⟩
  refine wpAnyL_one 7 rfl (by kernel_rfl) rfl ?_
  go_simp
  refine wpAnyL_done (by kernel_rfl) ?_ _
  go_wp2_with fail
  go_ret
  refine ⟨A2, m2, c2, rfl, ?_, HB0.out.trans (HB2.out.mono HB0.out.size)⟩
  have h9 := HO2.out
  rw [List.nil_append] at h9
  exact h9.more HB0.out.size
set_option maxRecDepth 100000 in
set_option maxHeartbeats 1600000 in
theorem bid_any (S : Option Addr) (m d : Nat) (sum : List UInt8) (p : Nat) (R : Option Addr) (n c : Nat) (root : List UInt8) (w : World) (hp : p ≤ 4294967295) (hr : Rd w w.heap.size 1 R n (bc root)) (hn : n ≤ 10000000000) (hs : Rd w w.heap.size 1 S m (bc sum)) (hm : m ≤ 10000000000) :
    Calls Tryd.prog 71 #[.agg #[.slice S m d, .int .u32 (p : Int), .slice R n c]] w (MadeQ w (txtB 1 sum ++ msgB 2 (numB 1 p ++ txtB 2 root))) := by
  have hsx : Blk (w.alloc (.cells #[.slice S m d, .int .u32 (p : Int), .slice R n c] 94)).drew w.heap.size 94 #[.slice S m d, .int .u32 (p : Int), .slice R n c] := (Blk.new w _ _).drew
  have HSX := Lib.hid hsx
  have HB0 := Lib.hid (((Below.refl w.heap.size w).alloc (Nat.le_refl _) (.cells #[.slice S m d, .int .u32 (p : Int), .slice R n c] 94)).drew)
  clear hsx
  go_enter Tryd.func71, Tryd.ntmps71
  go_wp2_with fail
  refine wp_region_L (fun w' => Blk w' w.heap.size 94 #[.slice S m d, .int .u32 (p : Int), .slice R n c]) 7 (by kernel_rfl) ?_
  refine wpAnyL_take 0 (v := .pointer (some ⟨w.heap.size, 0, none⟩)) rfl (by kernel_rfl) (fun _ _ _ h => h) (yields_in rfl (fun w' hw' => by go_simp)) HSX.out ?_
  simp only [Act.put, List.setIfInBounds_toArray, List.set_cons_zero, List.set_cons_succ]
  refine wpAnyL_take 1 (v := .slice S m d) rfl (by kernel_rfl) (fun _ _ _ h => h) (yields_in rfl (fun w' hw' => by have c1 : w'.cell? ⟨w.heap.size, 0, none⟩ = some (.slice S m d) := hw'.cell 0; go_simp)) HSX.out ?_
  simp only [Act.put, List.setIfInBounds_toArray, List.set_cons_zero, List.set_cons_succ]
  refine wpAnyL_take 3 (v := .pointer (some ⟨w.heap.size, 1, none⟩)) rfl (by kernel_rfl) (fun _ _ _ h => h) (yields_in rfl (fun w' hw' => by go_simp)) HSX.out ?_
  simp only [Act.put, List.setIfInBounds_toArray, List.set_cons_zero, List.set_cons_succ]
  refine wpAnyL_take 4 (v := .agg #[.int .u32 (p : Int), .slice R n c]) rfl (by kernel_rfl) (fun _ _ _ h => h) (yields_in rfl (fun w' hw' => by have e1 : w'.cell? ⟨w.heap.size, 1, none⟩ = some (.int .u32 (p : Int)) := hw'.cell 1; have e2 : w'.cell? ⟨w.heap.size, 2, none⟩ = some (.slice R n c) := hw'.cell 2; go_simp)) HSX.out ?_
  simp only [Act.put, List.setIfInBounds_toArray, List.set_cons_zero, List.set_cons_succ]
  generalize (w.alloc _).drew = W0 at *
  refine wpAnyL_one 2 rfl (by kernel_rfl) rfl ?_
  go_simp
  refine (putTxt_lo W0.heap.size 0 0 1 none [] S m d sum W0 (Own8.nil _ _) (Nat.le_refl _) (by decide) (hs.below HB0.out).sized (by omega) (by decide)).mono ?_
  rintro e W1 ⟨A1, m1, c1, rfl, ho1, hg1⟩
  have hb1 : Below W0.heap.size W0 W1 := hg1.below (Nat.le_refl _) (by intro k e; cases e)
  have HS1 := Lib.hid (HSX.out.belowS hb1); have HB1 := Lib.hid hb1; have HO1 := Lib.hid ho1
  clear ho1 hg1 hb1
  refine ⟨HS1.out, ?_⟩
  refine wpAnyL_one 5 rfl (by kernel_rfl) rfl ?_
  go_simp
  refine (psh_any p R n c root W1 hp (((hr.below HB0.out).sized).below HB1.out).sized hn).mono ?_
  rintro e W2 ⟨A2, m2, c2, rfl, ho2, hb2⟩
  have HS2 := Lib.hid (HS1.out.belowS hb2); have HB2 := Lib.hid (HB1.out.trans (hb2.mono HB1.out.size)); have HO2 := Lib.hid (HO1.out.below hb2 (Nat.le_refl _)); have HP2 := Lib.hid ho2
  have HZ2 := Lib.hid hb2.size
  clear ho2 hb2
  refine ⟨HS2.out, ?_⟩
  refine wpAnyL_one 6 rfl (by kernel_rfl) rfl ?_
  go_simp
  refine (putMsg_any W0.heap.size m1 c1 2 A1 _ A2 m2 c2 (numB 1 p ++ txtB 2 root) W2 HO2.out HB2.out.size (by have := HO1.out.len; have := txtB_length 1 sum (by have := hs.len1; omega); have := hs.len1; rw [List.nil_append] at *; omega) HP2.out.rd (fun ad e e2 => by have h1 := (HP2.out.at_ ad.block (by rw [e]; rfl)).1; have h2 := (HO1.out.at_ _ e2.symm).2; omega) (fun ad e => (HP2.out.at_ ad.block (by rw [e]; rfl)).2) (by have := HP2.out.len; have := numB_length 1 p (by omega); have := txtB_length 2 root (by have := hr.len1; omega); have := hr.len1; rw [List.length_append] at *; omega) (by decide)).mono ?_
  rintro e W3 ⟨A3, m3, c3, rfl, ho3, hg3⟩
  have hb3 : Below W0.heap.size W0 W3 := HB2.out.grown hg3.1 HB2.out.size (fun k e => (HO2.out.at_ k e).1)
  have hs3 := HS2.out.grown hg3.1 (fun e => by have h1 := HSX.out.lt; have h2 := (HO2.out.at_ _ e.symm).1; omega)
  have HS3 := Lib.hid hs3; have HB3 := Lib.hid hb3; have HO3 := Lib.hid ho3
  clear ho3 hg3 hb3 hs3
  refine ⟨HS3.out, ?_⟩
  refine wpAnyL_one 7 rfl (by kernel_rfl) rfl ?_
  go_simp
  refine wpAnyL_done (by kernel_rfl) ?_ _
  go_wp2_with fail
  go_ret
  refine ⟨A3, m3, c3, rfl, ?_, HB0.out.trans (HB3.out.mono HB0.out.size)⟩
  have h9 := HO3.out
  rw [List.nil_append] at h9
  exact h9.more HB0.out.size
end Go.Proofs.YtikikddkhikfkaaDoor
