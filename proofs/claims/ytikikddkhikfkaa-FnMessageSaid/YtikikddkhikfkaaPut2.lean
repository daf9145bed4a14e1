/-
  The package's messages (Time, CanonicalBlockID, CanonicalVote): walks. By the session.
-/
import Derived.Test.YtikikddkhikfkaaPut
import Derived.Test.YtikikddkhikfkaaWire3
set_option linter.all false
namespace Go.Proofs.Ytikikddkhikfkaa
open Go.RowKit

set_option maxHeartbeats 800000 in
theorem unix_any (sec nan : Int) (w : World) (hs : -4611686018427387904 ≤ sec ∧ sec ≤ 4611686018427387904) :
    Calls Try.prog 105 #[.agg #[.int .i64 (sec + 62135596800), .int .i32 nan]] w fun e w' => e = .returned (.int .i64 sec) ∧ Below w.heap.size w w' := by
  have hw : wrap64 (sec + 62135596800 - 62135596800) = sec := by unfold wrap64; omega
  go_enter Try.func105, Try.ntmps105
  go_wp2
  go_ret
  exact ⟨ret_int (by omega), (Below.refl _ _).alloc (Nat.le_refl _) _⟩

set_option maxRecDepth 100000 in
set_option maxHeartbeats 1600000 in
theorem ctime_any (sec nan : Int) (w : World) (hs : -4611686018427387904 ≤ sec ∧ sec ≤ 4611686018427387904) (hn : 0 ≤ nan ∧ nan ≤ 2147483647) :
    Calls Try.prog 96 #[.agg #[.int .i64 (sec + 62135596800), .int .i32 nan]] w fun e w' => ∃ A m c, e = .returned (.slice A m c) ∧ Own8 w' w.heap.size A m c (timeB sec nan) ∧ Below w.heap.size w w' := by
  have HS := Lib.hid (SB.start w 115 #[.int .i64 (sec + 62135596800), .int .i32 nan]).drew
  have K1 := Lib.hid (fun W => unix_any sec nan W hs)
  have hl1 := numB_length 1 _ (u64_lt sec)
  have HL1 := Lib.hid hl1; clear hl1
  have hu1 : IntKind.u64.wrap sec = ((u64 sec : Nat) : Int) := by rw [u64_cast]; simp [IntKind.wrap, IntKind.bits, IntKind.signed]
  have hu2 : ((u64 nan : Nat) : Int) = nan := by rw [u64_cast]; omega
  have hw1 : IntKind.i64.wrap nan = nan := by rw [IntKind.wrap_i64]; omega
  have hw2 : IntKind.u64.wrap nan = nan := by simp [IntKind.wrap, IntKind.bits, IntKind.signed]; omega
  go_enter Try.func96, Try.ntmps96
  go_wp2_with fail
  refine wp_region_L (SB w.heap.size w 115 #[.int .i64 (sec + 62135596800), .int .i32 nan]) 9 (by kernel_rfl) ?_
  refine wpAnyL_take 0 (v := .agg #[.int .i64 (sec + 62135596800), .int .i32 nan]) rfl (by kernel_rfl) (fun _ _ _ h => h) (yields_in rfl (fun w' hw' => by have c0 : w'.cell? ⟨w.heap.size, 0, none⟩ = some (.int .i64 (sec + 62135596800)) := hw'.1.cell 0; have c1 : w'.cell? ⟨w.heap.size, 1, none⟩ = some (.int .i32 nan) := hw'.1.cell 1; go_simp)) HS.out ?_
  simp only [Act.put, List.setIfInBounds_toArray, List.set_cons_zero, List.set_cons_succ]
  refine wpAnyL_take 4 (v := .pointer (some ⟨w.heap.size, 1, none⟩)) rfl (by kernel_rfl) (fun _ _ _ h => h) (yields_in rfl (fun w' hw' => by go_simp)) HS.out ?_
  simp only [Act.put, List.setIfInBounds_toArray, List.set_cons_zero, List.set_cons_succ]
  refine wpAnyL_take 5 (v := .int .i32 nan) rfl (by kernel_rfl) (fun _ _ _ h => h) (yields_in rfl (fun w' hw' => by have c1 : w'.cell? ⟨w.heap.size, 1, none⟩ = some (.int .i32 nan) := hw'.1.cell 1; go_simp)) HS.out ?_
  simp only [Act.put, List.setIfInBounds_toArray, List.set_cons_zero, List.set_cons_succ]
  refine wpAnyL_take 6 (v := .int .i64 nan) rfl (by kernel_rfl) (fun _ _ _ h => h) (yields_in rfl (fun w' hw' => by go_simp)) HS.out ?_
  simp only [Act.put, List.setIfInBounds_toArray, List.set_cons_zero, List.set_cons_succ]
  refine wpAnyL_take 7 (v := .int .u64 (u64 nan)) rfl (by kernel_rfl) (fun _ _ _ h => h) (yields_in rfl (fun w' hw' => by rw [hu2]; go_simp)) HS.out ?_
  simp only [Act.put, List.setIfInBounds_toArray, List.set_cons_zero, List.set_cons_succ]
  refine wpAnyL_one 1 rfl (by kernel_rfl) rfl ?_
  go_simp
  refine (K1.out _).mono ?_
  rintro e w1 ⟨rfl, hb1⟩
  have HS1 := Lib.hid (HS.out.call hb1); clear hb1
  refine ⟨HS1.out, ?_⟩
  refine wpAnyL_one 2 rfl (by kernel_rfl) rfl ?_
  go_simp
  refine ⟨HS1.out, ?_⟩
  refine wpAnyL_one 3 rfl (by kernel_rfl) rfl ?_
  go_simp
  have K2 := Lib.hid (putNum_any w1.heap.size 0 0 1 none [] (u64 sec) w1 (Own8.nil _ _) (Nat.le_refl _) (by omega) (u64_lt _) (by omega))
  refine K2.out.mono ?_
  rintro e w2 ⟨A2, m2, c2, rfl, ho2, hg2⟩
  rw [List.nil_append] at ho2
  have hb2 := hg2.below (B := w1.heap.size) (Nat.le_refl _) (fun k hk => by simp [Value.ownBlock] at hk)
  have HS2 := Lib.hid (HS1.out.call hb2)
  refine ⟨HS2.out, ?_⟩
  refine wpAnyL_one 8 rfl (by kernel_rfl) rfl ?_
  have K3 := Lib.hid (putNum_any w1.heap.size m2 c2 2 A2 _ (u64 nan) w2 ho2 hb2.size (by have := ho2.len; have := HL1.out; omega) (u64_lt _) (by omega))
  rw [hu2] at K3
  go_simp
  refine K3.out.mono ?_
  rintro e w3 ⟨A3, m3, c3, rfl, ho3, hg3⟩
  have hb3 := (hg2.trans hg3).below (B := w1.heap.size) (Nat.le_refl _) (fun k hk => by simp [Value.ownBlock] at hk)
  have HS3 := Lib.hid (HS1.out.call hb3)
  refine ⟨HS3.out, ?_⟩
  refine wpAnyL_one 9 rfl (by kernel_rfl) rfl ?_
  go_simp
  refine wpAnyL_done (by kernel_rfl) ?_ _
  go_wp2
  go_ret
  exact ⟨A3, m3, c3, rfl, ho3.more (Nat.le_of_lt HS1.out.grown), HS3.out.2⟩

/-- the cells of a block's identity that is signed -/
def cbidCells (b : Bk) : Array Value := #[.slice b.S b.sum.length b.sc, .int .u32 b.parts, .slice b.R b.root.length b.rc]
theorem Rd8.lt {w : World} {B : Nat} {A : Option Addr} {s : List UInt8} (h : Rd8 w B A s) (hn : 0 < s.length) : ∀ ad, A = some ad → ad.block < B := fun ad e => by
  obtain ⟨ad', e', hlt, _⟩ := h.2 0 _ (List.getElem?_eq_getElem (by rw [bc_length]; exact hn))
  rw [e] at e'; cases e'; exact hlt
set_option maxRecDepth 100000 in
set_option maxHeartbeats 1600000 in
theorem cbid_any (g : Nat) (b : Bk) (w : World) (hg : Blk w g 177 (cbidCells b)) (hb : b.ok w w.heap.size) (hp : 0 ≤ b.parts ∧ b.parts ≤ 4294967295) (hs1 : 0 < b.sum.length ∧ b.sum.length ≤ 1000) (hs2 : 0 < b.root.length ∧ b.root.length ≤ 1000) :
    Calls Try.prog 95 #[ptrTo g] w fun e w' => ∃ A m c, e = .returned (.slice A m c) ∧ Own8 w' w.heap.size A m c (blockB b.sum b.parts b.root) ∧ Below w.heap.size w w' := by
  have hw2 : IntKind.u64.wrap b.parts = ((u64 b.parts : Nat) : Int) := by rw [u64_cast]; simp [IntKind.wrap, IntKind.bits, IntKind.signed]
  have hu2 : ((u64 b.parts : Nat) : Int) = b.parts := by rw [u64_cast]; omega
  have hl1 := numB_length 1 _ (u64_lt b.parts)
  have hl2 := txtB_length 2 b.root (by omega)
  have hl3 := txtB_length 1 b.sum (by omega)
  have HL : Hid ((numB 1 (u64 b.parts)).length ≤ 11 ∧ (txtB 2 b.root).length ≤ 1011 ∧ (txtB 1 b.sum).length ≤ 1011) := ⟨hl1, by omega, by omega⟩
  have HG := Lib.hid hg; have HBK := Lib.hid hb
  clear hl1 hl2 hl3 hb
  unfold cbidCells at *
  unfold ptrTo
  have hS0 : (fun w' => Blk w' g 177 #[.slice b.S b.sum.length b.sc, .int .u32 b.parts, .slice b.R b.root.length b.rc] ∧ Below w.heap.size w w') w.drew := ⟨hg.drew, (Below.refl _ _).drew⟩
  have HS := Lib.hid hS0; clear hS0 hg
  go_enter Try.func95, Try.ntmps95
  go_wp2_with fail
  refine wp_region_L (fun w' => Blk w' g 177 #[.slice b.S b.sum.length b.sc, .int .u32 b.parts, .slice b.R b.root.length b.rc] ∧ Below w.heap.size w w') 13 (by kernel_rfl) ?_
  refine wpAnyL_take 0 (v := .pointer (some ⟨g, 0, none⟩)) rfl (by kernel_rfl) (fun _ _ _ h => h) (yields_in rfl (fun w' hw' => by go_simp)) HS.out ?_
  simp only [Act.put, List.setIfInBounds_toArray, List.set_cons_zero, List.set_cons_succ]
  refine wpAnyL_take 1 (v := .pointer (some ⟨g, 0, none⟩)) rfl (by kernel_rfl) (fun _ _ _ h => h) (yields_in rfl (fun w' hw' => by have c0 : w'.cell? ⟨g, 0, none⟩ = some (.slice b.S b.sum.length b.sc) := hw'.1.cell 0; go_simp)) HS.out ?_
  simp only [Act.put, List.setIfInBounds_toArray, List.set_cons_zero, List.set_cons_succ]
  refine wpAnyL_take 2 (v := .pointer (some ⟨g, 1, none⟩)) rfl (by kernel_rfl) (fun _ _ _ h => h) (yields_in rfl (fun w' hw' => by go_simp)) HS.out ?_
  simp only [Act.put, List.setIfInBounds_toArray, List.set_cons_zero, List.set_cons_succ]
  refine wpAnyL_take 3 (v := .pointer (some ⟨g, 1, none⟩)) rfl (by kernel_rfl) (fun _ _ _ h => h) (yields_in rfl (fun w' hw' => by go_simp)) HS.out ?_
  simp only [Act.put, List.setIfInBounds_toArray, List.set_cons_zero, List.set_cons_succ]
  refine wpAnyL_take 4 (v := .int .u32 b.parts) rfl (by kernel_rfl) (fun _ _ _ h => h) (yields_in rfl (fun w' hw' => by have c1 : w'.cell? ⟨g, 1, none⟩ = some (.int .u32 b.parts) := hw'.1.cell 1; go_simp)) HS.out ?_
  simp only [Act.put, List.setIfInBounds_toArray, List.set_cons_zero, List.set_cons_succ]
  refine wpAnyL_take 5 (v := .int .u64 (u64 b.parts)) rfl (by kernel_rfl) (fun _ _ _ h => h) (yields_in rfl (fun w' hw' => by go_simp)) HS.out ?_
  simp only [Act.put, List.setIfInBounds_toArray, List.set_cons_zero, List.set_cons_succ]
  refine wpAnyL_take 7 (v := .pointer (some ⟨g, 0, none⟩)) rfl (by kernel_rfl) (fun _ _ _ h => h) (yields_in rfl (fun w' hw' => by go_simp)) HS.out ?_
  simp only [Act.put, List.setIfInBounds_toArray, List.set_cons_zero, List.set_cons_succ]
  refine wpAnyL_take 8 (v := .pointer (some ⟨g, 0, none⟩)) rfl (by kernel_rfl) (fun _ _ _ h => h) (yields_in rfl (fun w' hw' => by have c0 : w'.cell? ⟨g, 0, none⟩ = some (.slice b.S b.sum.length b.sc) := hw'.1.cell 0; go_simp)) HS.out ?_
  simp only [Act.put, List.setIfInBounds_toArray, List.set_cons_zero, List.set_cons_succ]
  refine wpAnyL_take 9 (v := .pointer (some ⟨g, 1, none⟩)) rfl (by kernel_rfl) (fun _ _ _ h => h) (yields_in rfl (fun w' hw' => by go_simp)) HS.out ?_
  simp only [Act.put, List.setIfInBounds_toArray, List.set_cons_zero, List.set_cons_succ]
  refine wpAnyL_take 10 (v := .pointer (some ⟨g, 2, none⟩)) rfl (by kernel_rfl) (fun _ _ _ h => h) (yields_in rfl (fun w' hw' => by go_simp)) HS.out ?_
  simp only [Act.put, List.setIfInBounds_toArray, List.set_cons_zero, List.set_cons_succ]
  refine wpAnyL_take 11 (v := .slice b.R b.root.length b.rc) rfl (by kernel_rfl) (fun _ _ _ h => h) (yields_in rfl (fun w' hw' => by have c2 : w'.cell? ⟨g, 2, none⟩ = some (.slice b.R b.root.length b.rc) := hw'.1.cell 2; go_simp)) HS.out ?_
  simp only [Act.put, List.setIfInBounds_toArray, List.set_cons_zero, List.set_cons_succ]
  have K1 := Lib.hid (putNum_any w.drew.heap.size 0 0 1 none [] (u64 b.parts) w.drew (Own8.nil _ _) (Nat.le_refl _) (by omega) (u64_lt _) (by omega))
  rw [hu2] at K1
  refine wpAnyL_one 6 rfl (by kernel_rfl) rfl ?_
  go_simp
  refine K1.out.mono ?_
  rintro e w2 ⟨A2, m2, c2, rfl, ho2, hg2⟩
  rw [List.nil_append] at ho2
  have hb2 : Below w.heap.size w w2 := (Below.refl w.heap.size w).drew.trans (hg2.below (B := w.heap.size) (Nat.le_refl _) (fun k hk => by simp [Value.ownBlock] at hk))
  refine ⟨⟨HG.out.belowS hb2, hb2⟩, ?_⟩
  have ho2' : Own8 w2 w.heap.size A2 m2 c2 (numB 1 (u64 b.parts)) := ho2
  have K2 := Lib.hid (putTxt_any w.heap.size m2 c2 2 A2 _ b.R b.root.length b.rc b.root w2 ho2' hb2.size (by have := ho2'.len; have := HL.out; omega) ((Rd.below HBK.out.2 hb2).more hb2.size) (Apart8.of_lt (B := w.heap.size) (fun k hk => (ho2'.at_ k hk).1) (Rd8.lt HBK.out.2 hs2.1)) (fun ad e => Nat.lt_of_lt_of_le (Rd8.lt HBK.out.2 hs2.1 ad e) hb2.size) (by omega) (by omega))
  refine wpAnyL_one 12 rfl (by kernel_rfl) rfl ?_
  go_simp
  refine K2.out.mono ?_
  rintro e w3 ⟨A3, m3, c3, rfl, ho3, hg3⟩
  have hb3 : Below w.heap.size w w3 := hb2.grown hg3.1 hb2.size (fun k hk => (ho2'.at_ k hk).1)
  have HO3 := Lib.hid ho3; have HB3 := Lib.hid hb3
  have hblk := HG.out.belowS hb3
  refine ⟨⟨hblk, hb3⟩, ?_⟩
  refine wpAnyL_one 13 rfl (by kernel_rfl) rfl ?_
  go_simp
  refine wpAnyL_done (by kernel_rfl) ?_ _
  have q0 : w3.cell? ⟨g, 0, none⟩ = some (.slice b.S b.sum.length b.sc) := hblk.cell 0
  have hlt3 : w.heap.size ≤ w3.heap.size := hb3.size
  have K3 := Lib.hid (putTxt_any w3.heap.size 0 0 1 none [] b.S b.sum.length b.sc b.sum w3 (Own8.nil _ _) (Nat.le_refl _) (by omega) ((Rd.below HBK.out.1 hb3).more hb3.size) (Apart8.nil _ _ _) (fun ad e => Nat.lt_of_lt_of_le (Rd8.lt HBK.out.1 hs1.1 ad e) hb3.size) (by omega) (by omega))
  clear K1 K2 ho2 ho2' hg2 hg3 ho3 hb2 hb3 hblk
  go_wp2_with fail
  refine K3.out.mono ?_
  rintro e w4 ⟨A4, m4, c4, rfl, ho4, hg4⟩
  rw [List.nil_append] at ho4
  have hb4 := hg4.below (B := w3.heap.size) (Nat.le_refl _) (fun k hk => by simp [Value.ownBlock] at hk)
  have hr3 : Rd w3 w3.heap.size 1 A3 m3 (bc (numB 1 (u64 b.parts) ++ txtB 2 b.root)) := HO3.out.rd
  have hm3 := hr3.len1
  have hlt3' : ∀ ad, A3 = some ad → ad.block < w3.heap.size := fun ad e => (HO3.out.at_ ad.block (by rw [e]; rfl)).2
  have K4 := Lib.hid (putMsg_any w3.heap.size m4 c4 2 A4 _ A3 m3 c3 _ w4 ho4 hb4.size (by have := ho4.len; have := HL.out; omega) ((Rd.below hr3 hb4).more hb4.size) (Apart8.of_lt (B := w3.heap.size) (fun k hk => (ho4.at_ k hk).1) hlt3') (fun ad e => Nat.lt_of_lt_of_le (hlt3' ad e) hb4.size) (by have := HL.out; rw [List.length_append] at hm3; omega) (by omega))
  have HG4 := Lib.hid hg4
  clear ho4 hg4 hb4 hr3 hm3
  go_wp2_with fail
  refine K4.out.mono ?_
  rintro e w5 ⟨A5, m5, c5, rfl, ho5, hg5⟩
  have hb5 := (HG4.out.trans hg5).below (B := w3.heap.size) (Nat.le_refl _) (fun k hk => by simp [Value.ownBlock] at hk)
  have HO5 := Lib.hid ho5; have HB5 := Lib.hid hb5; clear ho5 hg5 hb5
  go_wp2
  go_ret
  exact ⟨A5, m5, c5, rfl, HO5.out.more hlt3, HB3.out.trans (HB5.out.mono hlt3)⟩

/-- where the identity that is signed lies: nowhere, or in a block of its own -/
def CBid (w : World) (P : Value) (id : List UInt8) : Prop := (P = .pointer none ∧ id = []) ∨ ∃ (g : Nat) (b : Bk), P = ptrTo g ∧ Blk w g 177 (cbidCells b) ∧ b.ok w w.heap.size ∧ (0 ≤ b.parts ∧ b.parts ≤ 4294967295) ∧ (0 < b.sum.length ∧ b.sum.length ≤ 1000) ∧ (0 < b.root.length ∧ b.root.length ≤ 1000) ∧ id = msgB 4 (blockB b.sum b.parts b.root)
set_option maxRecDepth 100000 in
set_option maxHeartbeats 3200000 in
theorem cvote_any (g : Nat) (hgt rnd sec nan : Int) (P : Value) (chain : ByteArray) (id : List UInt8) (w : World) (hg : Blk w g 150 #[.int .i32 2, .int .i64 hgt, .int .i64 rnd, P, .int .i64 (sec + 62135596800), .int .i32 nan, .string chain]) (hP : CBid w P id) (hh : in64' hgt) (hrd : in64' rnd)
    (hs : -4611686018427387904 ≤ sec ∧ sec ≤ 4611686018427387904) (hn : 0 ≤ nan ∧ nan ≤ 2147483647) (hcl : chain.size ≤ 1000) :
    Calls Try.prog 78 #[ptrTo g] w fun e w' => ∃ A m c, e = .returned (.slice A m c) ∧ Own8 w' w.heap.size A m c (bodyOf chain.data.toList hgt rnd id sec nan) ∧ Below w.heap.size w w' := by
  have HG := Lib.hid hg
  have HB_w := Lib.hid (Below.refl w.heap.size w)
  have hcl2 : chain.data.toList.length ≤ 1000 := by have : chain.data.toList.length = chain.size := by rw [Array.length_toList]; rfl
                                                    omega
  have l1 := numB_length 1 2 (by omega)
  have l2 := fixB_length 2 (u64 hgt)
  have l3 := fixB_length 3 (u64 rnd)
  have l5 := msgB_length 5 (timeB sec nan) (by have := timeB_length sec nan; omega)
  have l6 := timeB_length sec nan
  have HL : Hid ((numB 1 2).length ≤ 11 ∧ (fixB 2 (u64 hgt)).length ≤ 9 ∧ (fixB 3 (u64 rnd)).length ≤ 9 ∧ (msgB 5 (timeB sec nan)).length ≤ 33 ∧ (timeB sec nan).length ≤ 22) := ⟨l1, l2, l3, by omega, l6⟩
  obtain ⟨f, kc⟩ := run_conv (P := Try.prog) 9 22 Try.underlying9 Try.underlying22 Try.underlying5 chain
  clear l1 l2 l3 l5 l6 hg
  have hbody : Hid (bodyOf chain.data.toList hgt rnd id sec nan = (((((numB 1 2 ++ fixB 2 (u64 hgt)) ++ fixB 3 (u64 rnd)) ++ id) ++ msgB 5 (timeB sec nan)) ++ txtB 6 chain.data.toList)) := by show _ = _; simp [bodyOf]
  unfold ptrTo
  rcases hP with ⟨rfl, rfl⟩ | ⟨g2, b, rfl, hblk2, hbok, hparts, hs1, hs2, rfl⟩
  · have q0 : w.cell? ⟨g, 0, none⟩ = some (.int .i32 2) := (HG.out.belowS HB_w.out).cell 0
    have K1 := Lib.hid (putNum_any w.heap.size 0 0 1 none [] 2 w (Own8.nil _ _) (Nat.le_refl _) (by omega) (by omega) (by omega))
    go_enter Try.func78, Try.ntmps78
    go_wp2_with fail
    refine K1.out.mono ?_
    rintro e w1 ⟨A1, m1, c1, rfl, ho1, hg1⟩
    rw [List.nil_append] at ho1
    have HB_w1 := Lib.hid (hg1.below (B := w.heap.size) (Nat.le_refl _) (fun k hk => by simp [Value.ownBlock] at hk))
    have HO1 := Lib.hid ho1; clear ho1 hg1 K1 q0
    have q1 : w1.cell? ⟨g, 1, none⟩ = some (.int .i64 hgt) := (HG.out.belowS HB_w1.out).cell 1
    have K2 := Lib.hid (putFix_any w.heap.size m1 c1 2 A1 _ hgt w1 HO1.out HB_w1.out.size (by have := HO1.out.len; have := HL.out; omega) hh (by omega))
    go_wp2_with fail
    refine K2.out.mono ?_
    rintro e w2 ⟨A2, m2, c2, rfl, ho2, hg2⟩
    have HB_w2 := Lib.hid (HB_w1.out.grown hg2.1 HB_w1.out.size (fun k hk => (HO1.out.at_ k hk).1))
    have HO2 := Lib.hid ho2; clear ho2 K2
    clear hg2 q1
    have q2 : w2.cell? ⟨g, 2, none⟩ = some (.int .i64 rnd) := (HG.out.belowS HB_w2.out).cell 2
    have K3 := Lib.hid (putFix_any w.heap.size m2 c2 3 A2 _ rnd w2 HO2.out HB_w2.out.size (by have a := HO2.out.len; have := HL.out; rw [List.length_append] at a; omega) hrd (by omega))
    go_wp2_with fail
    refine K3.out.mono ?_
    rintro e w3 ⟨A3, m3, c3, rfl, ho3, hg3⟩
    have HB_w3 := Lib.hid (HB_w2.out.grown hg3.1 HB_w2.out.size (fun k hk => (HO2.out.at_ k hk).1))
    have HO3 := Lib.hid ho3; clear ho3 K3
    clear hg3 q2
    have HM3 : Hid (m3 ≤ 29) := by have a := HO3.out.len; have := HL.out; rw [List.length_append, List.length_append] at a; show _ ≤ _; omega
    have q3 : w3.cell? ⟨g, 3, none⟩ = some (.pointer none) := (HG.out.belowS HB_w3.out).cell 3
    have HO4 : Hid (Own8 w3 w.heap.size A3 m3 c3 (numB 1 2 ++ fixB 2 (u64 hgt) ++ fixB 3 (u64 rnd) ++ [])) := by show Own8 _ _ _ _ _ _; rw [List.append_nil]; exact HO3.out
    have HM4 : Hid (m3 ≤ 2200) := by have := HM3.out; show _ ≤ _; omega
    have q4 : w3.cell? ⟨g, 4, none⟩ = some (.int .i64 (sec + 62135596800)) := (HG.out.belowS HB_w3.out).cell 4
    have q5 : w3.cell? ⟨g, 5, none⟩ = some (.int .i32 nan) := (HG.out.belowS HB_w3.out).cell 5
    have KT := Lib.hid (ctime_any sec nan w3 hs hn)
    go_wp2_with fail
    refine KT.out.mono ?_
    rintro e w6 ⟨A6, m6, c6, rfl, ho6, hb6⟩
    have HB_w6 := Lib.hid (HB_w3.out.trans (hb6.mono HB_w3.out.size))
    have HO4c := Lib.hid (HO4.out.below hb6 (Nat.le_refl _))
    have K7 := Lib.hid (putMsg_any w.heap.size m3 c3 5 A3 _ A6 m6 c6 _ w6 HO4c.out HB_w6.out.size (by have := HM4.out; omega) ho6.rd (fun ad e hk => by have a := (HO4.out.at_ _ hk.symm).2; have b := (ho6.at_ ad.block (by rw [e]; rfl)).1; omega) (fun ad e => (ho6.at_ ad.block (by rw [e]; rfl)).2) (by have := ho6.len; have := HL.out; omega) (by omega))
    clear ho6 hb6 KT q4 q5
    go_wp2_with fail
    refine K7.out.mono ?_
    rintro e w7 ⟨A7, m7, c7, rfl, ho7, hg7⟩
    have HB_w7 := Lib.hid (HB_w6.out.grown hg7.1 HB_w6.out.size (fun k hk => (HO4c.out.at_ k hk).1))
    have HM7 : Hid (m7 ≤ 2300) := by have a := ho7.len; have b := HO4.out.len; have := HL.out; have := HM4.out; rw [List.length_append] at a; show _ ≤ _; omega
    have HO7 := Lib.hid ho7; clear ho7 hg7 K7
    have q6 : w7.cell? ⟨g, 6, none⟩ = some (.string chain) := (HG.out.belowS HB_w7.out).cell 6
    have hbc : Below w7.heap.size w7 (w7.alloc (bObj chain (f w7))).drew := ((Below.refl _ _).alloc (Nat.le_refl _) _).drew
    have K8 := Lib.hid (putTxt_any w.heap.size m7 c7 6 A7 _ (some ⟨w7.heap.size, 0, none⟩) chain.size (f w7) chain.data.toList (w7.alloc (bObj chain (f w7))).drew (HO7.out.below hbc (Nat.le_refl _)) (Nat.le_trans HB_w7.out.size hbc.size) (by have := HM7.out; omega) ((Rd.conv w7 chain (f w7) _ rfl).drew.more (by simp)) (fun ad e hk => by cases e; have a := (HO7.out.at_ _ hk.symm).2; simp at a) (fun ad e => by cases e; simp) (by omega) (by omega))
    have HO7b := Lib.hid (HO7.out.below hbc (Nat.le_refl _))
    have HB_c := Lib.hid (HB_w7.out.trans (hbc.mono HB_w7.out.size))
    clear hbc
    go_wp2_with fail
    refine K8.out.mono ?_
    rintro e w8 ⟨A8, m8, c8, rfl, ho8, hg8⟩
    have HB_w8 := Lib.hid (HB_c.out.grown hg8.1 HB_c.out.size (fun k hk => (HO7b.out.at_ k hk).1))
    have HO8 := Lib.hid ho8; clear ho8 hg8 K8
    go_wp2
    go_ret
    exact ⟨A8, m8, c8, rfl, by rw [hbody.out]; exact HO8.out, HB_w8.out⟩
  · have q0 : w.cell? ⟨g, 0, none⟩ = some (.int .i32 2) := (HG.out.belowS HB_w.out).cell 0
    have K1 := Lib.hid (putNum_any w.heap.size 0 0 1 none [] 2 w (Own8.nil _ _) (Nat.le_refl _) (by omega) (by omega) (by omega))
    go_enter Try.func78, Try.ntmps78
    go_wp2_with fail
    refine K1.out.mono ?_
    rintro e w1 ⟨A1, m1, c1, rfl, ho1, hg1⟩
    rw [List.nil_append] at ho1
    have HB_w1 := Lib.hid (hg1.below (B := w.heap.size) (Nat.le_refl _) (fun k hk => by simp [Value.ownBlock] at hk))
    have HO1 := Lib.hid ho1; clear ho1 hg1 K1 q0
    have q1 : w1.cell? ⟨g, 1, none⟩ = some (.int .i64 hgt) := (HG.out.belowS HB_w1.out).cell 1
    have K2 := Lib.hid (putFix_any w.heap.size m1 c1 2 A1 _ hgt w1 HO1.out HB_w1.out.size (by have := HO1.out.len; have := HL.out; omega) hh (by omega))
    go_wp2_with fail
    refine K2.out.mono ?_
    rintro e w2 ⟨A2, m2, c2, rfl, ho2, hg2⟩
    have HB_w2 := Lib.hid (HB_w1.out.grown hg2.1 HB_w1.out.size (fun k hk => (HO1.out.at_ k hk).1))
    have HO2 := Lib.hid ho2; clear ho2 K2
    clear hg2 q1
    have q2 : w2.cell? ⟨g, 2, none⟩ = some (.int .i64 rnd) := (HG.out.belowS HB_w2.out).cell 2
    have K3 := Lib.hid (putFix_any w.heap.size m2 c2 3 A2 _ rnd w2 HO2.out HB_w2.out.size (by have a := HO2.out.len; have := HL.out; rw [List.length_append] at a; omega) hrd (by omega))
    go_wp2_with fail
    refine K3.out.mono ?_
    rintro e w3 ⟨A3, m3, c3, rfl, ho3, hg3⟩
    have HB_w3 := Lib.hid (HB_w2.out.grown hg3.1 HB_w2.out.size (fun k hk => (HO2.out.at_ k hk).1))
    have HO3 := Lib.hid ho3; clear ho3 K3
    clear hg3 q2
    have HM3 : Hid (m3 ≤ 29) := by have a := HO3.out.len; have := HL.out; rw [List.length_append, List.length_append] at a; show _ ≤ _; omega
    have q3 : w3.cell? ⟨g, 3, none⟩ = some (.pointer (some ⟨g2, 0, none⟩)) := (HG.out.belowS HB_w3.out).cell 3
    have KB := Lib.hid (cbid_any g2 b w3 (hblk2.belowS HB_w3.out) (hbok.below HB_w3.out) hparts hs1 hs2)
    unfold ptrTo at KB q3
    go_wp2_with fail
    refine KB.out.mono ?_
    rintro e w4 ⟨A4, m4, c4, rfl, ho4, hb4⟩
    have HB_w4 := Lib.hid (HB_w3.out.trans (hb4.mono HB_w3.out.size))
    have hm4 := ho4.len
    have hbl := blockB_length b.sum b.parts b.root (by omega) (by omega)
    have K5 := Lib.hid (putMsg_any w.heap.size m3 c3 4 A3 _ A4 m4 c4 _ w4 (HO3.out.below hb4 (Nat.le_refl _)) HB_w4.out.size (by have := HM3.out; omega) ho4.rd (fun ad e hk => by have a := (HO3.out.at_ _ hk.symm).2; have b := (ho4.at_ ad.block (by rw [e]; rfl)).1; omega) (fun ad e => (ho4.at_ ad.block (by rw [e]; rfl)).2) (by omega) (by omega))
    have hz4 := hb4.size
    have HO4b := Lib.hid (HO3.out.below hb4 (Nat.le_refl _))
    clear ho4 hb4 hm4 KB q3
    go_wp2_with fail
    refine K5.out.mono ?_
    rintro e w5 ⟨A5, m5, c5, rfl, ho5, hg5⟩
    have HB_w5 := Lib.hid (HB_w4.out.grown hg5.1 HB_w4.out.size (fun k hk => (HO4b.out.at_ k hk).1))
    have HO4 := Lib.hid ho5
    have HM4 : Hid (m5 ≤ 2200) := by
      have a := ho5.len
      have b0 := HO3.out.len
      have d := msgB_length 4 (blockB b.sum b.parts b.root) (by omega)
      have e := HM3.out
      rw [List.length_append] at a
      show _ ≤ _; omega
    clear ho5 hg5 K5
    have q4 : w5.cell? ⟨g, 4, none⟩ = some (.int .i64 (sec + 62135596800)) := (HG.out.belowS HB_w5.out).cell 4
    have q5 : w5.cell? ⟨g, 5, none⟩ = some (.int .i32 nan) := (HG.out.belowS HB_w5.out).cell 5
    have KT := Lib.hid (ctime_any sec nan w5 hs hn)
    go_wp2_with fail
    refine KT.out.mono ?_
    rintro e w6 ⟨A6, m6, c6, rfl, ho6, hb6⟩
    have HB_w6 := Lib.hid (HB_w5.out.trans (hb6.mono HB_w5.out.size))
    have HO4c := Lib.hid (HO4.out.below hb6 (Nat.le_refl _))
    have K7 := Lib.hid (putMsg_any w.heap.size m5 c5 5 A5 _ A6 m6 c6 _ w6 HO4c.out HB_w6.out.size (by have := HM4.out; omega) ho6.rd (fun ad e hk => by have a := (HO4.out.at_ _ hk.symm).2; have b := (ho6.at_ ad.block (by rw [e]; rfl)).1; omega) (fun ad e => (ho6.at_ ad.block (by rw [e]; rfl)).2) (by have := ho6.len; have := HL.out; omega) (by omega))
    clear ho6 hb6 KT q4 q5
    go_wp2_with fail
    refine K7.out.mono ?_
    rintro e w7 ⟨A7, m7, c7, rfl, ho7, hg7⟩
    have HB_w7 := Lib.hid (HB_w6.out.grown hg7.1 HB_w6.out.size (fun k hk => (HO4c.out.at_ k hk).1))
    have HM7 : Hid (m7 ≤ 2300) := by have a := ho7.len; have b := HO4.out.len; have := HL.out; have := HM4.out; rw [List.length_append] at a; show _ ≤ _; omega
    have HO7 := Lib.hid ho7; clear ho7 hg7 K7
    have q6 : w7.cell? ⟨g, 6, none⟩ = some (.string chain) := (HG.out.belowS HB_w7.out).cell 6
    have hbc : Below w7.heap.size w7 (w7.alloc (bObj chain (f w7))).drew := ((Below.refl _ _).alloc (Nat.le_refl _) _).drew
    have K8 := Lib.hid (putTxt_any w.heap.size m7 c7 6 A7 _ (some ⟨w7.heap.size, 0, none⟩) chain.size (f w7) chain.data.toList (w7.alloc (bObj chain (f w7))).drew (HO7.out.below hbc (Nat.le_refl _)) (Nat.le_trans HB_w7.out.size hbc.size) (by have := HM7.out; omega) ((Rd.conv w7 chain (f w7) _ rfl).drew.more (by simp)) (fun ad e hk => by cases e; have a := (HO7.out.at_ _ hk.symm).2; simp at a) (fun ad e => by cases e; simp) (by omega) (by omega))
    have HO7b := Lib.hid (HO7.out.below hbc (Nat.le_refl _))
    have HB_c := Lib.hid (HB_w7.out.trans (hbc.mono HB_w7.out.size))
    clear hbc
    go_wp2_with fail
    refine K8.out.mono ?_
    rintro e w8 ⟨A8, m8, c8, rfl, ho8, hg8⟩
    have HB_w8 := Lib.hid (HB_c.out.grown hg8.1 HB_c.out.size (fun k hk => (HO7b.out.at_ k hk).1))
    have HO8 := Lib.hid ho8; clear ho8 hg8 K8
    go_wp2
    go_ret
    exact ⟨A8, m8, c8, rfl, by rw [hbody.out]; exact HO8.out, HB_w8.out⟩
end Go.Proofs.Ytikikddkhikfkaa
