/-
  A header, and its sum in the package: Header.Hash: the walk. Printed by gen_head2.py. By the session.
-/
import Derived.Test.YtikikddkhikfkaaDoorPa33
set_option linter.all false
namespace Go.Proofs.YtikikddkhikfkaaDoor
open Go.RowKit

/-- a header: its numbers, and the bytes that it holds and where these lie -/
structure Hd where
  ver : Nat
  app : Nat
  chain : ByteArray
  hgt : Int
  sec : Int
  nan : Int
  S : Option Addr
  sc : Nat
  sum : List UInt8
  parts : Nat
  R : Option Addr
  rc : Nat
  root : List UInt8
  q0 : Sb
  q1 : Sb
  q2 : Sb
  q3 : Sb
  q4 : Sb
  q5 : Sb
  q6 : Sb
  q7 : Sb
  prop : ByteArray
def Hd.cells (h : Hd) : Array Value := #[.int .i64 (h.ver : Int), .int .i64 (h.app : Int), .string h.chain, .int .i64 h.hgt, .int .i64 h.sec, .int .i64 h.nan, .slice h.S h.sum.length h.sc, .int .i64 (h.parts : Int), .slice h.R h.root.length h.rc, .slice h.q0.a h.q0.s.length h.q0.c, .slice h.q1.a h.q1.s.length h.q1.c, .slice h.q2.a h.q2.s.length h.q2.c, .slice h.q3.a h.q3.s.length h.q3.c, .slice h.q4.a h.q4.s.length h.q4.c, .slice h.q5.a h.q5.s.length h.q5.c, .slice h.q6.a h.q6.s.length h.q6.c, .slice h.q7.a h.q7.s.length h.q7.c, .string h.prop]
def Hd.pcells (h : Hd) (PA : Option Addr) (pc : Nat) : Array Value := #[.int .u64 (h.ver : Int), .int .u64 (h.app : Int), .string h.chain, .int .i64 h.hgt, .int .i64 (h.sec + 62135596800), .int .i32 h.nan, .slice h.S h.sum.length h.sc, .int .u32 (h.parts : Int), .slice h.R h.root.length h.rc, .slice h.q0.a h.q0.s.length h.q0.c, .slice h.q1.a h.q1.s.length h.q1.c, .slice h.q2.a h.q2.s.length h.q2.c, .slice h.q3.a h.q3.s.length h.q3.c, .slice h.q4.a h.q4.s.length h.q4.c, .slice h.q5.a h.q5.s.length h.q5.c, .slice h.q6.a h.q6.s.length h.q6.c, .slice h.q7.a h.q7.s.length h.q7.c, .slice PA h.prop.size pc]
def Hd.leaves (h : Hd) : List (List UInt8) := [numB 1 h.ver ++ numB 2 h.app, txtB 1 h.chain.data.toList, numB 1 (u64 h.hgt), timeB h.sec h.nan, txtB 1 h.sum ++ msgB 2 (numB 1 h.parts ++ txtB 2 h.root), txtB 1 h.q0.s, txtB 1 h.q1.s, txtB 1 h.q2.s, txtB 1 h.q3.s, txtB 1 h.q4.s, txtB 1 h.q5.s, txtB 1 h.q6.s, txtB 1 h.q7.s, txtB 1 h.prop.data.toList]
def Hd.sumB (h : Hd) : List UInt8 := if h.q2.s.length = 0 then [] else rootL h.leaves
/-- what a header's messages ask of its numbers and lengths -/
structure Hd.can (h : Hd) : Prop where
  ver : h.ver ≤ 9223372036854775807
  app : h.app ≤ 9223372036854775807
  hgt : 0 ≤ h.hgt ∧ h.hgt ≤ 9223372036854775807
  sec : -4611686018427387904 ≤ h.sec ∧ h.sec ≤ 4611686018427387904
  nan : 0 ≤ h.nan ∧ h.nan ≤ 2147483647
  parts : h.parts ≤ 4294967295
  chain : h.chain.size ≤ 10000000000
  sum : h.sum.length ≤ 10000000000
  root : h.root.length ≤ 10000000000
  q0 : h.q0.s.length ≤ 10000000000
  q1 : h.q1.s.length ≤ 10000000000
  q2 : h.q2.s.length ≤ 10000000000
  q3 : h.q3.s.length ≤ 10000000000
  q4 : h.q4.s.length ≤ 10000000000
  q5 : h.q5.s.length ≤ 10000000000
  q6 : h.q6.s.length ≤ 10000000000
  q7 : h.q7.s.length ≤ 10000000000
  prop : h.prop.size ≤ 10000000000
/-- a header's bytes read -/
structure Hd.ok (h : Hd) (w : World) : Prop where
  sum : Rd w w.heap.size 1 h.S h.sum.length (bc h.sum)
  root : Rd w w.heap.size 1 h.R h.root.length (bc h.root)
  q0 : Rd w w.heap.size 1 h.q0.a h.q0.s.length (bc h.q0.s)
  q1 : Rd w w.heap.size 1 h.q1.a h.q1.s.length (bc h.q1.s)
  q2 : Rd w w.heap.size 1 h.q2.a h.q2.s.length (bc h.q2.s)
  q3 : Rd w w.heap.size 1 h.q3.a h.q3.s.length (bc h.q3.s)
  q4 : Rd w w.heap.size 1 h.q4.a h.q4.s.length (bc h.q4.s)
  q5 : Rd w w.heap.size 1 h.q5.a h.q5.s.length (bc h.q5.s)
  q6 : Rd w w.heap.size 1 h.q6.a h.q6.s.length (bc h.q6.s)
  q7 : Rd w w.heap.size 1 h.q7.a h.q7.s.length (bc h.q7.s)
theorem Hd.ok.below {h : Hd} {w w' : World} (k : h.ok w) (hb : Below w.heap.size w w') : h.ok w' :=
  ⟨(k.sum.below hb).sized, (k.root.below hb).sized, (k.q0.below hb).sized, (k.q1.below hb).sized, (k.q2.below hb).sized, (k.q3.below hb).sized, (k.q4.below hb).sized, (k.q5.below hb).sized, (k.q6.below hb).sized, (k.q7.below hb).sized⟩
/-- bytes that read, in a slice of their own -/
def SbR (w : World) (x : Sb) : Prop := Rd w w.heap.size 1 x.a x.s.length (bc x.s) ∧ x.s.length ≤ x.c ∧ ∀ ad, x.a = some ad → ad.block < w.heap.size
theorem SbR.below {w w' : World} {x : Sb} (h : SbR w x) (hb : Below w.heap.size w w') : SbR w' x := ⟨(h.1.below hb).sized, h.2.1, fun ad e => Nat.lt_of_lt_of_le (h.2.2 ad e) hb.size⟩
theorem SbR.of_own {w : World} {B c : Nat} {A : Option Addr} {s : List UInt8} (h : Own8 w B A s.length c s) : SbR w ⟨A, c, s⟩ := ⟨h.rd, h.cap, fun ad e => (h.at_ ad.block (by rw [show A = some ad from e]; rfl)).2⟩
theorem SbR.of_own2 {w : World} {B m c : Nat} {A : Option Addr} {s : List UInt8} (h : Own8 w B A m c s) : SbR w ⟨A, c, s⟩ := by
  have hl := h.len
  subst hl
  exact SbR.of_own h
def allR (w : World) (l : List Sb) : Prop := ∀ x ∈ l, SbR w x
theorem allR.below {w w' : World} {l : List Sb} (h : allR w l) (hb : Below w.heap.size w w') : allR w' l := fun x hx => (h x hx).below hb
theorem allR.snoc {w : World} {l : List Sb} {x : Sb} (h : allR w l) (hx : SbR w x) : allR w (l ++ [x]) := fun y hy => by
  rw [List.mem_append, List.mem_singleton] at hy
  rcases hy with hy | hy
  · exact h y hy
  · rw [hy]; exact hx
theorem rdB_new {W : World} {l : List Sb} {t : TypeId} {n : Nat} (h : allR W l) (hn : l.length = n) : RdB (W.alloc (.cells (l.map Sb.cell).toArray t)) (W.alloc (.cells (l.map Sb.cell).toArray t)).heap.size (some ⟨W.heap.size, 0, none⟩) n l := by
  have hb : Below W.heap.size W (W.alloc (.cells (l.map Sb.cell).toArray t)) := (Below.refl _ _).alloc (Nat.le_refl _) _
  have h1 := Rd.new W (l.map Sb.cell).toArray t 1 n W.heap.size (by rw [List.length_map]; omega) rfl
  exact ⟨h1.sized, fun x hx => (h.below hb) x hx⟩
theorem leaf_len {h : Hd} (k : h.can) : ∀ x ∈ h.leaves, x.length ≤ 30000000000 := by
  intro x hx
  have a1 := numB_length 1 h.ver (by have := k.ver; omega); have a2 := numB_length 2 h.app (by have := k.app; omega); have a3 := numB_length 1 _ (u64_lt h.hgt)
  have a4 := timeB_length h.sec h.nan
  have a5 := numB_length 1 h.parts (by have := k.parts; omega); have a6 := txtB_length 2 h.root (by have := k.root; omega); have a7 := txtB_length 1 h.sum (by have := k.sum; omega)
  have a8 := msgB_length 2 (numB 1 h.parts ++ txtB 2 h.root) (by rw [List.length_append]; have := k.root; omega)
  have a9 := txtB_length 1 h.chain.data.toList (by have := k.chain; rw [show h.chain.data.toList.length = h.chain.size from rfl]; omega)
  have a10 := txtB_length 1 h.prop.data.toList (by have := k.prop; rw [show h.prop.data.toList.length = h.prop.size from rfl]; omega)
  rw [show h.chain.data.toList.length = h.chain.size from rfl] at a9
  rw [show h.prop.data.toList.length = h.prop.size from rfl] at a10
  rw [List.length_append] at a8
  have b0 := txtB_length 1 h.q0.s (by have := k.q0; omega)
  have b1 := txtB_length 1 h.q1.s (by have := k.q1; omega)
  have b2 := txtB_length 1 h.q2.s (by have := k.q2; omega)
  have b3 := txtB_length 1 h.q3.s (by have := k.q3; omega)
  have b4 := txtB_length 1 h.q4.s (by have := k.q4; omega)
  have b5 := txtB_length 1 h.q5.s (by have := k.q5; omega)
  have b6 := txtB_length 1 h.q6.s (by have := k.q6; omega)
  have b7 := txtB_length 1 h.q7.s (by have := k.q7; omega)
  have := k.chain; have := k.sum; have := k.root; have := k.prop; have := k.q0; have := k.q1; have := k.q2; have := k.q3; have := k.q4; have := k.q5; have := k.q6; have := k.q7
  simp only [Hd.leaves, List.mem_cons, List.not_mem_nil, or_false] at hx
  rcases hx with rfl | rfl | rfl | rfl | rfl | rfl | rfl | rfl | rfl | rfl | rfl | rfl | rfl | rfl
  all_goals (try rw [List.length_append]); omega
set_option maxRecDepth 100000 in
set_option maxHeartbeats 12800000 in
theorem hhash_any (g : Nat) (h : Hd) (PA : Option Addr) (pc : Nat) (w : World) (hb : Blk w g 97 (h.pcells PA pc)) (hok : h.ok w) (hpr : Byt w PA h.prop) (hcan : h.can) (hK : Kw w) :
    Calls Tryd.prog 35 #[ptrTo g] w fun e w' => ∃ A' m c', e = .returned (.slice A' m c') ∧ Rd w' w'.heap.size 1 A' m (bc h.sumB) ∧ Below w.heap.size w w' := by
  unfold Hd.pcells at hb
  have d11 : w.cell? ⟨g, 11, none⟩ = some (.slice h.q2.a h.q2.s.length h.q2.c) := hb.cell 11
  have HB := Lib.hid hb; have HOK := Lib.hid hok; have HPR := Lib.hid hpr; have HC := Lib.hid hcan; have HKW := Lib.hid hK
  unfold ptrTo
  by_cases h0 : h.q2.s.length = 0
  · have hs : h.sumB = [] := by unfold Hd.sumB; rw [if_pos h0]
    have HS := Lib.hid hs
    clear hb hok hpr hcan hK hs
    go_enter Tryd.func35, Tryd.ntmps35
    go_wp2_with fail
    go_ret
    exact ⟨none, 0, 0, rfl, by rw [HS.out]; exact Rd.nil _ _ _ _, Below.refl _ _⟩
  · have hs : h.sumB = rootL h.leaves := by unfold Hd.sumB; rw [if_neg h0]
    have HS := Lib.hid hs
    have hz : ((h.q2.s.length : Int) == 0) = false := by rw [beq_eq_false_iff_ne]; omega
    have d0 : w.cell? ⟨g, 0, none⟩ = some (.int .u64 (h.ver : Int)) := hb.cell 0
    have d1 : w.cell? ⟨g, 1, none⟩ = some (.int .u64 (h.app : Int)) := hb.cell 1
    clear hb hok hpr hcan hK hs
    go_enter Tryd.func35, Tryd.ntmps35
    go_wp2_with fail
    refine (cons_any h.ver h.app w (by have := HC.out.ver; omega) (by have := HC.out.app; omega)).mono ?_
    rintro e w1 ⟨A1, m1, c1, rfl, ho1, hb1⟩
    have HM1 := Lib.hid ho1.len
    have HL1 : Hid (allR w1 [⟨A1, c1, numB 1 h.ver ++ numB 2 h.app⟩]) := Lib.hid (fun x hx => by rw [List.mem_singleton] at hx; rw [hx]; exact SbR.of_own2 ho1)
    have HB1 := Lib.hid hb1; have HK1 := Lib.hid (HB.out.belowS hb1)
    have e4 : w1.cell? ⟨g, 4, none⟩ = some (.int .i64 (h.sec + 62135596800)) := HK1.out.cell 4
    have e5 : w1.cell? ⟨g, 5, none⟩ = some (.int .i32 h.nan) := HK1.out.cell 5
    clear ho1 hb1 d0 d1 d11
    go_wp2_with fail
    refine (ctime_any h.sec h.nan w1 HC.out.sec HC.out.nan).mono ?_
    rintro e w2 ⟨A2, m2, c2, rfl, ho2, hb2⟩
    have HM2 := Lib.hid ho2.len
    have HL2 : Hid (allR w2 [⟨A1, c1, numB 1 h.ver ++ numB 2 h.app⟩, ⟨A2, c2, timeB h.sec h.nan⟩]) := Lib.hid ((HL1.out.below hb2).snoc (SbR.of_own2 ho2))
    have HB2 := Lib.hid (HB1.out.trans (hb2.mono HB1.out.size)); have HK2 := Lib.hid (HK1.out.belowS hb2)
    have e6 : w2.cell? ⟨g, 6, none⟩ = some (.slice h.S h.sum.length h.sc) := HK2.out.cell 6
    have e7 : w2.cell? ⟨g, 7, none⟩ = some (.int .u32 (h.parts : Int)) := HK2.out.cell 7
    have e8 : w2.cell? ⟨g, 8, none⟩ = some (.slice h.R h.root.length h.rc) := HK2.out.cell 8
    clear ho2 hb2 e4 e5
    go_wp2_with fail
    refine (bid_any h.S h.sum.length h.sc h.sum h.parts h.R h.root.length h.rc h.root w2 HC.out.parts (HOK.out.root.below HB2.out).sized HC.out.root (HOK.out.sum.below HB2.out).sized HC.out.sum).mono ?_
    rintro e w3 ⟨A3, m3, c3, rfl, ho3, hb3⟩
    have HM3 := Lib.hid ho3.len
    have HL3 : Hid (allR w3 [⟨A1, c1, numB 1 h.ver ++ numB 2 h.app⟩, ⟨A2, c2, timeB h.sec h.nan⟩, ⟨A3, c3, txtB 1 h.sum ++ msgB 2 (numB 1 h.parts ++ txtB 2 h.root)⟩]) := Lib.hid ((HL2.out.below hb3).snoc (SbR.of_own2 ho3))
    have HB3 := Lib.hid (HB2.out.trans (hb3.mono HB2.out.size)); have HK3 := Lib.hid (HK2.out.belowS hb3)
    have HSX := Lib.hid (HK3.out.drew)
    have HBX := Lib.hid (HB3.out.drew)
    have HLX : Hid (allR w3.drew [⟨A1, c1, numB 1 h.ver ++ numB 2 h.app⟩, ⟨A2, c2, timeB h.sec h.nan⟩, ⟨A3, c3, txtB 1 h.sum ++ msgB 2 (numB 1 h.parts ++ txtB 2 h.root)⟩]) := Lib.hid HL3.out
    clear ho3 hb3 e6 e7 e8
    go_wp2_with fail
    refine wp_region_L (fun w' => Blk w' g 97 #[.int .u64 (h.ver : Int), .int .u64 (h.app : Int), .string h.chain, .int .i64 h.hgt, .int .i64 (h.sec + 62135596800), .int .i32 h.nan, .slice h.S h.sum.length h.sc, .int .u32 (h.parts : Int), .slice h.R h.root.length h.rc, .slice h.q0.a h.q0.s.length h.q0.c, .slice h.q1.a h.q1.s.length h.q1.c, .slice h.q2.a h.q2.s.length h.q2.c, .slice h.q3.a h.q3.s.length h.q3.c, .slice h.q4.a h.q4.s.length h.q4.c, .slice h.q5.a h.q5.s.length h.q5.c, .slice h.q6.a h.q6.s.length h.q6.c, .slice h.q7.a h.q7.s.length h.q7.c, .slice PA h.prop.size pc]) 60 (by kernel_rfl) ?_
    refine wpAnyL_take 0 (v := .slice A1 m1 c1) rfl (by kernel_rfl) (fun _ _ _ h => h) (yields_in rfl (fun w' hw' => by go_simp)) HSX.out ?_
    simp only [Act.put, List.setIfInBounds_toArray, List.set_cons_zero, List.set_cons_succ]
    refine wpAnyL_take 1 (v := .pointer (some ⟨g, 0, none⟩)) rfl (by kernel_rfl) (fun _ _ _ h => h) (yields_in rfl (fun w' hw' => by go_simp)) HSX.out ?_
    simp only [Act.put, List.setIfInBounds_toArray, List.set_cons_zero, List.set_cons_succ]
    refine wpAnyL_take 2 (v := .pointer (some ⟨g, 0, none⟩)) rfl (by kernel_rfl) (fun _ _ _ h => h) (yields_in rfl (fun w' hw' => by go_simp)) HSX.out ?_
    simp only [Act.put, List.setIfInBounds_toArray, List.set_cons_zero, List.set_cons_succ]
    refine wpAnyL_take 3 (v := .pointer (some ⟨g, 2, none⟩)) rfl (by kernel_rfl) (fun _ _ _ h => h) (yields_in rfl (fun w' hw' => by go_simp)) HSX.out ?_
    simp only [Act.put, List.setIfInBounds_toArray, List.set_cons_zero, List.set_cons_succ]
    refine wpAnyL_take 4 (v := .string h.chain) rfl (by kernel_rfl) (fun _ _ _ h => h) (yields_in rfl (fun w' hw' => by have c1 : w'.cell? ⟨g, 2, none⟩ = some (.string h.chain) := hw'.cell 2; go_simp)) HSX.out ?_
    simp only [Act.put, List.setIfInBounds_toArray, List.set_cons_zero, List.set_cons_succ]
    refine wpAnyL_take 6 (v := .pointer (some ⟨g, 0, none⟩)) rfl (by kernel_rfl) (fun _ _ _ h => h) (yields_in rfl (fun w' hw' => by go_simp)) HSX.out ?_
    simp only [Act.put, List.setIfInBounds_toArray, List.set_cons_zero, List.set_cons_succ]
    refine wpAnyL_take 7 (v := .pointer (some ⟨g, 0, none⟩)) rfl (by kernel_rfl) (fun _ _ _ h => h) (yields_in rfl (fun w' hw' => by go_simp)) HSX.out ?_
    simp only [Act.put, List.setIfInBounds_toArray, List.set_cons_zero, List.set_cons_succ]
    refine wpAnyL_take 8 (v := .pointer (some ⟨g, 3, none⟩)) rfl (by kernel_rfl) (fun _ _ _ h => h) (yields_in rfl (fun w' hw' => by go_simp)) HSX.out ?_
    simp only [Act.put, List.setIfInBounds_toArray, List.set_cons_zero, List.set_cons_succ]
    refine wpAnyL_take 9 (v := .int .i64 h.hgt) rfl (by kernel_rfl) (fun _ _ _ h => h) (yields_in rfl (fun w' hw' => by have c1 : w'.cell? ⟨g, 3, none⟩ = some (.int .i64 h.hgt) := hw'.cell 3; go_simp)) HSX.out ?_
    simp only [Act.put, List.setIfInBounds_toArray, List.set_cons_zero, List.set_cons_succ]
    refine wpAnyL_take 11 (v := .slice A2 m2 c2) rfl (by kernel_rfl) (fun _ _ _ h => h) (yields_in rfl (fun w' hw' => by go_simp)) HSX.out ?_
    simp only [Act.put, List.setIfInBounds_toArray, List.set_cons_zero, List.set_cons_succ]
    refine wpAnyL_take 12 (v := .slice A3 m3 c3) rfl (by kernel_rfl) (fun _ _ _ h => h) (yields_in rfl (fun w' hw' => by go_simp)) HSX.out ?_
    simp only [Act.put, List.setIfInBounds_toArray, List.set_cons_zero, List.set_cons_succ]
    refine wpAnyL_take 13 (v := .pointer (some ⟨g, 0, none⟩)) rfl (by kernel_rfl) (fun _ _ _ h => h) (yields_in rfl (fun w' hw' => by go_simp)) HSX.out ?_
    simp only [Act.put, List.setIfInBounds_toArray, List.set_cons_zero, List.set_cons_succ]
    refine wpAnyL_take 14 (v := .pointer (some ⟨g, 0, none⟩)) rfl (by kernel_rfl) (fun _ _ _ h => h) (yields_in rfl (fun w' hw' => by go_simp)) HSX.out ?_
    simp only [Act.put, List.setIfInBounds_toArray, List.set_cons_zero, List.set_cons_succ]
    refine wpAnyL_take 15 (v := .pointer (some ⟨g, 9, none⟩)) rfl (by kernel_rfl) (fun _ _ _ h => h) (yields_in rfl (fun w' hw' => by go_simp)) HSX.out ?_
    simp only [Act.put, List.setIfInBounds_toArray, List.set_cons_zero, List.set_cons_succ]
    refine wpAnyL_take 16 (v := .slice h.q0.a h.q0.s.length h.q0.c) rfl (by kernel_rfl) (fun _ _ _ h => h) (yields_in rfl (fun w' hw' => by have c1 : w'.cell? ⟨g, 9, none⟩ = some (.slice h.q0.a h.q0.s.length h.q0.c) := hw'.cell 9; go_simp)) HSX.out ?_
    simp only [Act.put, List.setIfInBounds_toArray, List.set_cons_zero, List.set_cons_succ]
    refine wpAnyL_take 18 (v := .pointer (some ⟨g, 0, none⟩)) rfl (by kernel_rfl) (fun _ _ _ h => h) (yields_in rfl (fun w' hw' => by go_simp)) HSX.out ?_
    simp only [Act.put, List.setIfInBounds_toArray, List.set_cons_zero, List.set_cons_succ]
    refine wpAnyL_take 19 (v := .pointer (some ⟨g, 0, none⟩)) rfl (by kernel_rfl) (fun _ _ _ h => h) (yields_in rfl (fun w' hw' => by go_simp)) HSX.out ?_
    simp only [Act.put, List.setIfInBounds_toArray, List.set_cons_zero, List.set_cons_succ]
    refine wpAnyL_take 20 (v := .pointer (some ⟨g, 10, none⟩)) rfl (by kernel_rfl) (fun _ _ _ h => h) (yields_in rfl (fun w' hw' => by go_simp)) HSX.out ?_
    simp only [Act.put, List.setIfInBounds_toArray, List.set_cons_zero, List.set_cons_succ]
    refine wpAnyL_take 21 (v := .slice h.q1.a h.q1.s.length h.q1.c) rfl (by kernel_rfl) (fun _ _ _ h => h) (yields_in rfl (fun w' hw' => by have c1 : w'.cell? ⟨g, 10, none⟩ = some (.slice h.q1.a h.q1.s.length h.q1.c) := hw'.cell 10; go_simp)) HSX.out ?_
    simp only [Act.put, List.setIfInBounds_toArray, List.set_cons_zero, List.set_cons_succ]
    refine wpAnyL_take 23 (v := .pointer (some ⟨g, 0, none⟩)) rfl (by kernel_rfl) (fun _ _ _ h => h) (yields_in rfl (fun w' hw' => by go_simp)) HSX.out ?_
    simp only [Act.put, List.setIfInBounds_toArray, List.set_cons_zero, List.set_cons_succ]
    refine wpAnyL_take 24 (v := .pointer (some ⟨g, 0, none⟩)) rfl (by kernel_rfl) (fun _ _ _ h => h) (yields_in rfl (fun w' hw' => by go_simp)) HSX.out ?_
    simp only [Act.put, List.setIfInBounds_toArray, List.set_cons_zero, List.set_cons_succ]
    refine wpAnyL_take 25 (v := .pointer (some ⟨g, 11, none⟩)) rfl (by kernel_rfl) (fun _ _ _ h => h) (yields_in rfl (fun w' hw' => by go_simp)) HSX.out ?_
    simp only [Act.put, List.setIfInBounds_toArray, List.set_cons_zero, List.set_cons_succ]
    refine wpAnyL_take 26 (v := .slice h.q2.a h.q2.s.length h.q2.c) rfl (by kernel_rfl) (fun _ _ _ h => h) (yields_in rfl (fun w' hw' => by have c1 : w'.cell? ⟨g, 11, none⟩ = some (.slice h.q2.a h.q2.s.length h.q2.c) := hw'.cell 11; go_simp)) HSX.out ?_
    simp only [Act.put, List.setIfInBounds_toArray, List.set_cons_zero, List.set_cons_succ]
    refine wpAnyL_take 28 (v := .pointer (some ⟨g, 0, none⟩)) rfl (by kernel_rfl) (fun _ _ _ h => h) (yields_in rfl (fun w' hw' => by go_simp)) HSX.out ?_
    simp only [Act.put, List.setIfInBounds_toArray, List.set_cons_zero, List.set_cons_succ]
    refine wpAnyL_take 29 (v := .pointer (some ⟨g, 0, none⟩)) rfl (by kernel_rfl) (fun _ _ _ h => h) (yields_in rfl (fun w' hw' => by go_simp)) HSX.out ?_
    simp only [Act.put, List.setIfInBounds_toArray, List.set_cons_zero, List.set_cons_succ]
    refine wpAnyL_take 30 (v := .pointer (some ⟨g, 12, none⟩)) rfl (by kernel_rfl) (fun _ _ _ h => h) (yields_in rfl (fun w' hw' => by go_simp)) HSX.out ?_
    simp only [Act.put, List.setIfInBounds_toArray, List.set_cons_zero, List.set_cons_succ]
    refine wpAnyL_take 31 (v := .slice h.q3.a h.q3.s.length h.q3.c) rfl (by kernel_rfl) (fun _ _ _ h => h) (yields_in rfl (fun w' hw' => by have c1 : w'.cell? ⟨g, 12, none⟩ = some (.slice h.q3.a h.q3.s.length h.q3.c) := hw'.cell 12; go_simp)) HSX.out ?_
    simp only [Act.put, List.setIfInBounds_toArray, List.set_cons_zero, List.set_cons_succ]
    refine wpAnyL_take 33 (v := .pointer (some ⟨g, 0, none⟩)) rfl (by kernel_rfl) (fun _ _ _ h => h) (yields_in rfl (fun w' hw' => by go_simp)) HSX.out ?_
    simp only [Act.put, List.setIfInBounds_toArray, List.set_cons_zero, List.set_cons_succ]
    refine wpAnyL_take 34 (v := .pointer (some ⟨g, 0, none⟩)) rfl (by kernel_rfl) (fun _ _ _ h => h) (yields_in rfl (fun w' hw' => by go_simp)) HSX.out ?_
    simp only [Act.put, List.setIfInBounds_toArray, List.set_cons_zero, List.set_cons_succ]
    refine wpAnyL_take 35 (v := .pointer (some ⟨g, 13, none⟩)) rfl (by kernel_rfl) (fun _ _ _ h => h) (yields_in rfl (fun w' hw' => by go_simp)) HSX.out ?_
    simp only [Act.put, List.setIfInBounds_toArray, List.set_cons_zero, List.set_cons_succ]
    refine wpAnyL_take 36 (v := .slice h.q4.a h.q4.s.length h.q4.c) rfl (by kernel_rfl) (fun _ _ _ h => h) (yields_in rfl (fun w' hw' => by have c1 : w'.cell? ⟨g, 13, none⟩ = some (.slice h.q4.a h.q4.s.length h.q4.c) := hw'.cell 13; go_simp)) HSX.out ?_
    simp only [Act.put, List.setIfInBounds_toArray, List.set_cons_zero, List.set_cons_succ]
    refine wpAnyL_take 38 (v := .pointer (some ⟨g, 0, none⟩)) rfl (by kernel_rfl) (fun _ _ _ h => h) (yields_in rfl (fun w' hw' => by go_simp)) HSX.out ?_
    simp only [Act.put, List.setIfInBounds_toArray, List.set_cons_zero, List.set_cons_succ]
    refine wpAnyL_take 39 (v := .pointer (some ⟨g, 0, none⟩)) rfl (by kernel_rfl) (fun _ _ _ h => h) (yields_in rfl (fun w' hw' => by go_simp)) HSX.out ?_
    simp only [Act.put, List.setIfInBounds_toArray, List.set_cons_zero, List.set_cons_succ]
    refine wpAnyL_take 40 (v := .pointer (some ⟨g, 14, none⟩)) rfl (by kernel_rfl) (fun _ _ _ h => h) (yields_in rfl (fun w' hw' => by go_simp)) HSX.out ?_
    simp only [Act.put, List.setIfInBounds_toArray, List.set_cons_zero, List.set_cons_succ]
    refine wpAnyL_take 41 (v := .slice h.q5.a h.q5.s.length h.q5.c) rfl (by kernel_rfl) (fun _ _ _ h => h) (yields_in rfl (fun w' hw' => by have c1 : w'.cell? ⟨g, 14, none⟩ = some (.slice h.q5.a h.q5.s.length h.q5.c) := hw'.cell 14; go_simp)) HSX.out ?_
    simp only [Act.put, List.setIfInBounds_toArray, List.set_cons_zero, List.set_cons_succ]
    refine wpAnyL_take 43 (v := .pointer (some ⟨g, 0, none⟩)) rfl (by kernel_rfl) (fun _ _ _ h => h) (yields_in rfl (fun w' hw' => by go_simp)) HSX.out ?_
    simp only [Act.put, List.setIfInBounds_toArray, List.set_cons_zero, List.set_cons_succ]
    refine wpAnyL_take 44 (v := .pointer (some ⟨g, 0, none⟩)) rfl (by kernel_rfl) (fun _ _ _ h => h) (yields_in rfl (fun w' hw' => by go_simp)) HSX.out ?_
    simp only [Act.put, List.setIfInBounds_toArray, List.set_cons_zero, List.set_cons_succ]
    refine wpAnyL_take 45 (v := .pointer (some ⟨g, 15, none⟩)) rfl (by kernel_rfl) (fun _ _ _ h => h) (yields_in rfl (fun w' hw' => by go_simp)) HSX.out ?_
    simp only [Act.put, List.setIfInBounds_toArray, List.set_cons_zero, List.set_cons_succ]
    refine wpAnyL_take 46 (v := .slice h.q6.a h.q6.s.length h.q6.c) rfl (by kernel_rfl) (fun _ _ _ h => h) (yields_in rfl (fun w' hw' => by have c1 : w'.cell? ⟨g, 15, none⟩ = some (.slice h.q6.a h.q6.s.length h.q6.c) := hw'.cell 15; go_simp)) HSX.out ?_
    simp only [Act.put, List.setIfInBounds_toArray, List.set_cons_zero, List.set_cons_succ]
    refine wpAnyL_take 48 (v := .pointer (some ⟨g, 0, none⟩)) rfl (by kernel_rfl) (fun _ _ _ h => h) (yields_in rfl (fun w' hw' => by go_simp)) HSX.out ?_
    simp only [Act.put, List.setIfInBounds_toArray, List.set_cons_zero, List.set_cons_succ]
    refine wpAnyL_take 49 (v := .pointer (some ⟨g, 0, none⟩)) rfl (by kernel_rfl) (fun _ _ _ h => h) (yields_in rfl (fun w' hw' => by go_simp)) HSX.out ?_
    simp only [Act.put, List.setIfInBounds_toArray, List.set_cons_zero, List.set_cons_succ]
    refine wpAnyL_take 50 (v := .pointer (some ⟨g, 16, none⟩)) rfl (by kernel_rfl) (fun _ _ _ h => h) (yields_in rfl (fun w' hw' => by go_simp)) HSX.out ?_
    simp only [Act.put, List.setIfInBounds_toArray, List.set_cons_zero, List.set_cons_succ]
    refine wpAnyL_take 51 (v := .slice h.q7.a h.q7.s.length h.q7.c) rfl (by kernel_rfl) (fun _ _ _ h => h) (yields_in rfl (fun w' hw' => by have c1 : w'.cell? ⟨g, 16, none⟩ = some (.slice h.q7.a h.q7.s.length h.q7.c) := hw'.cell 16; go_simp)) HSX.out ?_
    simp only [Act.put, List.setIfInBounds_toArray, List.set_cons_zero, List.set_cons_succ]
    refine wpAnyL_take 53 (v := .pointer (some ⟨g, 0, none⟩)) rfl (by kernel_rfl) (fun _ _ _ h => h) (yields_in rfl (fun w' hw' => by go_simp)) HSX.out ?_
    simp only [Act.put, List.setIfInBounds_toArray, List.set_cons_zero, List.set_cons_succ]
    refine wpAnyL_take 54 (v := .pointer (some ⟨g, 0, none⟩)) rfl (by kernel_rfl) (fun _ _ _ h => h) (yields_in rfl (fun w' hw' => by go_simp)) HSX.out ?_
    simp only [Act.put, List.setIfInBounds_toArray, List.set_cons_zero, List.set_cons_succ]
    refine wpAnyL_take 55 (v := .pointer (some ⟨g, 17, none⟩)) rfl (by kernel_rfl) (fun _ _ _ h => h) (yields_in rfl (fun w' hw' => by go_simp)) HSX.out ?_
    simp only [Act.put, List.setIfInBounds_toArray, List.set_cons_zero, List.set_cons_succ]
    refine wpAnyL_take 56 (v := .slice PA h.prop.size pc) rfl (by kernel_rfl) (fun _ _ _ h => h) (yields_in rfl (fun w' hw' => by have c1 : w'.cell? ⟨g, 17, none⟩ = some (.slice PA h.prop.size pc) := hw'.cell 17; go_simp)) HSX.out ?_
    simp only [Act.put, List.setIfInBounds_toArray, List.set_cons_zero, List.set_cons_succ]
    refine wpAnyL_one 5 rfl (by kernel_rfl) rfl ?_
    go_simp
    refine (cdcString_any h.chain w3.drew HC.out.chain).mono ?_
    rintro e V4 ⟨A4, m4, c4, rfl, ho4, hb4⟩
    have HM4 := Lib.hid ho4.len
    have HLX4 : Hid (allR V4 [⟨A1, c1, numB 1 h.ver ++ numB 2 h.app⟩, ⟨A2, c2, timeB h.sec h.nan⟩, ⟨A3, c3, txtB 1 h.sum ++ msgB 2 (numB 1 h.parts ++ txtB 2 h.root)⟩, ⟨A4, c4, txtB 1 h.chain.data.toList⟩]) := Lib.hid ((HLX.out.below hb4).snoc (SbR.of_own2 ho4))
    have HBX4 := Lib.hid (HBX.out.trans (hb4.mono HBX.out.size)); have HSX4 := Lib.hid (HSX.out.belowS hb4)
    clear ho4 hb4
    refine ⟨HSX4.out, ?_⟩
    refine wpAnyL_one 10 rfl (by kernel_rfl) rfl ?_
    go_simp
    refine (cdcInt_any h.hgt V4).mono ?_
    rintro e V5 ⟨A5, m5, c5, rfl, ho5, hb5⟩
    have HM5 := Lib.hid ho5.len
    have HLX5 : Hid (allR V5 [⟨A1, c1, numB 1 h.ver ++ numB 2 h.app⟩, ⟨A2, c2, timeB h.sec h.nan⟩, ⟨A3, c3, txtB 1 h.sum ++ msgB 2 (numB 1 h.parts ++ txtB 2 h.root)⟩, ⟨A4, c4, txtB 1 h.chain.data.toList⟩, ⟨A5, c5, numB 1 (u64 h.hgt)⟩]) := Lib.hid ((HLX4.out.below hb5).snoc (SbR.of_own2 ho5))
    have HBX5 := Lib.hid (HBX4.out.trans (hb5.mono HBX4.out.size)); have HSX5 := Lib.hid (HSX4.out.belowS hb5)
    clear ho5 hb5
    refine ⟨HSX5.out, ?_⟩
    refine wpAnyL_one 17 rfl (by kernel_rfl) rfl ?_
    go_simp
    refine (cdcBytes_any h.q0.a h.q0.s.length h.q0.c h.q0.s V5 (HOK.out.q0.below HBX5.out).sized HC.out.q0).mono ?_
    rintro e V6 ⟨A6, m6, c6, rfl, ho6, hb6⟩
    have HM6 := Lib.hid ho6.len
    have HLX6 : Hid (allR V6 [⟨A1, c1, numB 1 h.ver ++ numB 2 h.app⟩, ⟨A2, c2, timeB h.sec h.nan⟩, ⟨A3, c3, txtB 1 h.sum ++ msgB 2 (numB 1 h.parts ++ txtB 2 h.root)⟩, ⟨A4, c4, txtB 1 h.chain.data.toList⟩, ⟨A5, c5, numB 1 (u64 h.hgt)⟩, ⟨A6, c6, txtB 1 h.q0.s⟩]) := Lib.hid ((HLX5.out.below hb6).snoc (SbR.of_own2 ho6))
    have HBX6 := Lib.hid (HBX5.out.trans (hb6.mono HBX5.out.size)); have HSX6 := Lib.hid (HSX5.out.belowS hb6)
    clear ho6 hb6
    refine ⟨HSX6.out, ?_⟩
    refine wpAnyL_one 22 rfl (by kernel_rfl) rfl ?_
    go_simp
    refine (cdcBytes_any h.q1.a h.q1.s.length h.q1.c h.q1.s V6 (HOK.out.q1.below HBX6.out).sized HC.out.q1).mono ?_
    rintro e V7 ⟨A7, m7, c7, rfl, ho7, hb7⟩
    have HM7 := Lib.hid ho7.len
    have HLX7 : Hid (allR V7 [⟨A1, c1, numB 1 h.ver ++ numB 2 h.app⟩, ⟨A2, c2, timeB h.sec h.nan⟩, ⟨A3, c3, txtB 1 h.sum ++ msgB 2 (numB 1 h.parts ++ txtB 2 h.root)⟩, ⟨A4, c4, txtB 1 h.chain.data.toList⟩, ⟨A5, c5, numB 1 (u64 h.hgt)⟩, ⟨A6, c6, txtB 1 h.q0.s⟩, ⟨A7, c7, txtB 1 h.q1.s⟩]) := Lib.hid ((HLX6.out.below hb7).snoc (SbR.of_own2 ho7))
    have HBX7 := Lib.hid (HBX6.out.trans (hb7.mono HBX6.out.size)); have HSX7 := Lib.hid (HSX6.out.belowS hb7)
    clear ho7 hb7
    refine ⟨HSX7.out, ?_⟩
    refine wpAnyL_one 27 rfl (by kernel_rfl) rfl ?_
    go_simp
    refine (cdcBytes_any h.q2.a h.q2.s.length h.q2.c h.q2.s V7 (HOK.out.q2.below HBX7.out).sized HC.out.q2).mono ?_
    rintro e V8 ⟨A8, m8, c8, rfl, ho8, hb8⟩
    have HM8 := Lib.hid ho8.len
    have HLX8 : Hid (allR V8 [⟨A1, c1, numB 1 h.ver ++ numB 2 h.app⟩, ⟨A2, c2, timeB h.sec h.nan⟩, ⟨A3, c3, txtB 1 h.sum ++ msgB 2 (numB 1 h.parts ++ txtB 2 h.root)⟩, ⟨A4, c4, txtB 1 h.chain.data.toList⟩, ⟨A5, c5, numB 1 (u64 h.hgt)⟩, ⟨A6, c6, txtB 1 h.q0.s⟩, ⟨A7, c7, txtB 1 h.q1.s⟩, ⟨A8, c8, txtB 1 h.q2.s⟩]) := Lib.hid ((HLX7.out.below hb8).snoc (SbR.of_own2 ho8))
    have HBX8 := Lib.hid (HBX7.out.trans (hb8.mono HBX7.out.size)); have HSX8 := Lib.hid (HSX7.out.belowS hb8)
    clear ho8 hb8
    refine ⟨HSX8.out, ?_⟩
    refine wpAnyL_one 32 rfl (by kernel_rfl) rfl ?_
    go_simp
    refine (cdcBytes_any h.q3.a h.q3.s.length h.q3.c h.q3.s V8 (HOK.out.q3.below HBX8.out).sized HC.out.q3).mono ?_
    rintro e V9 ⟨A9, m9, c9, rfl, ho9, hb9⟩
    have HM9 := Lib.hid ho9.len
    have HLX9 : Hid (allR V9 [⟨A1, c1, numB 1 h.ver ++ numB 2 h.app⟩, ⟨A2, c2, timeB h.sec h.nan⟩, ⟨A3, c3, txtB 1 h.sum ++ msgB 2 (numB 1 h.parts ++ txtB 2 h.root)⟩, ⟨A4, c4, txtB 1 h.chain.data.toList⟩, ⟨A5, c5, numB 1 (u64 h.hgt)⟩, ⟨A6, c6, txtB 1 h.q0.s⟩, ⟨A7, c7, txtB 1 h.q1.s⟩, ⟨A8, c8, txtB 1 h.q2.s⟩, ⟨A9, c9, txtB 1 h.q3.s⟩]) := Lib.hid ((HLX8.out.below hb9).snoc (SbR.of_own2 ho9))
    have HBX9 := Lib.hid (HBX8.out.trans (hb9.mono HBX8.out.size)); have HSX9 := Lib.hid (HSX8.out.belowS hb9)
    clear ho9 hb9
    refine ⟨HSX9.out, ?_⟩
    refine wpAnyL_one 37 rfl (by kernel_rfl) rfl ?_
    go_simp
    refine (cdcBytes_any h.q4.a h.q4.s.length h.q4.c h.q4.s V9 (HOK.out.q4.below HBX9.out).sized HC.out.q4).mono ?_
    rintro e V10 ⟨A10, m10, c10, rfl, ho10, hb10⟩
    have HM10 := Lib.hid ho10.len
    have HLX10 : Hid (allR V10 [⟨A1, c1, numB 1 h.ver ++ numB 2 h.app⟩, ⟨A2, c2, timeB h.sec h.nan⟩, ⟨A3, c3, txtB 1 h.sum ++ msgB 2 (numB 1 h.parts ++ txtB 2 h.root)⟩, ⟨A4, c4, txtB 1 h.chain.data.toList⟩, ⟨A5, c5, numB 1 (u64 h.hgt)⟩, ⟨A6, c6, txtB 1 h.q0.s⟩, ⟨A7, c7, txtB 1 h.q1.s⟩, ⟨A8, c8, txtB 1 h.q2.s⟩, ⟨A9, c9, txtB 1 h.q3.s⟩, ⟨A10, c10, txtB 1 h.q4.s⟩]) := Lib.hid ((HLX9.out.below hb10).snoc (SbR.of_own2 ho10))
    have HBX10 := Lib.hid (HBX9.out.trans (hb10.mono HBX9.out.size)); have HSX10 := Lib.hid (HSX9.out.belowS hb10)
    clear ho10 hb10
    refine ⟨HSX10.out, ?_⟩
    refine wpAnyL_one 42 rfl (by kernel_rfl) rfl ?_
    go_simp
    refine (cdcBytes_any h.q5.a h.q5.s.length h.q5.c h.q5.s V10 (HOK.out.q5.below HBX10.out).sized HC.out.q5).mono ?_
    rintro e V11 ⟨A11, m11, c11, rfl, ho11, hb11⟩
    have HM11 := Lib.hid ho11.len
    have HLX11 : Hid (allR V11 [⟨A1, c1, numB 1 h.ver ++ numB 2 h.app⟩, ⟨A2, c2, timeB h.sec h.nan⟩, ⟨A3, c3, txtB 1 h.sum ++ msgB 2 (numB 1 h.parts ++ txtB 2 h.root)⟩, ⟨A4, c4, txtB 1 h.chain.data.toList⟩, ⟨A5, c5, numB 1 (u64 h.hgt)⟩, ⟨A6, c6, txtB 1 h.q0.s⟩, ⟨A7, c7, txtB 1 h.q1.s⟩, ⟨A8, c8, txtB 1 h.q2.s⟩, ⟨A9, c9, txtB 1 h.q3.s⟩, ⟨A10, c10, txtB 1 h.q4.s⟩, ⟨A11, c11, txtB 1 h.q5.s⟩]) := Lib.hid ((HLX10.out.below hb11).snoc (SbR.of_own2 ho11))
    have HBX11 := Lib.hid (HBX10.out.trans (hb11.mono HBX10.out.size)); have HSX11 := Lib.hid (HSX10.out.belowS hb11)
    clear ho11 hb11
    refine ⟨HSX11.out, ?_⟩
    refine wpAnyL_one 47 rfl (by kernel_rfl) rfl ?_
    go_simp
    refine (cdcBytes_any h.q6.a h.q6.s.length h.q6.c h.q6.s V11 (HOK.out.q6.below HBX11.out).sized HC.out.q6).mono ?_
    rintro e V12 ⟨A12, m12, c12, rfl, ho12, hb12⟩
    have HM12 := Lib.hid ho12.len
    have HLX12 : Hid (allR V12 [⟨A1, c1, numB 1 h.ver ++ numB 2 h.app⟩, ⟨A2, c2, timeB h.sec h.nan⟩, ⟨A3, c3, txtB 1 h.sum ++ msgB 2 (numB 1 h.parts ++ txtB 2 h.root)⟩, ⟨A4, c4, txtB 1 h.chain.data.toList⟩, ⟨A5, c5, numB 1 (u64 h.hgt)⟩, ⟨A6, c6, txtB 1 h.q0.s⟩, ⟨A7, c7, txtB 1 h.q1.s⟩, ⟨A8, c8, txtB 1 h.q2.s⟩, ⟨A9, c9, txtB 1 h.q3.s⟩, ⟨A10, c10, txtB 1 h.q4.s⟩, ⟨A11, c11, txtB 1 h.q5.s⟩, ⟨A12, c12, txtB 1 h.q6.s⟩]) := Lib.hid ((HLX11.out.below hb12).snoc (SbR.of_own2 ho12))
    have HBX12 := Lib.hid (HBX11.out.trans (hb12.mono HBX11.out.size)); have HSX12 := Lib.hid (HSX11.out.belowS hb12)
    clear ho12 hb12
    refine ⟨HSX12.out, ?_⟩
    refine wpAnyL_one 52 rfl (by kernel_rfl) rfl ?_
    go_simp
    refine (cdcBytes_any h.q7.a h.q7.s.length h.q7.c h.q7.s V12 (HOK.out.q7.below HBX12.out).sized HC.out.q7).mono ?_
    rintro e V13 ⟨A13, m13, c13, rfl, ho13, hb13⟩
    have HM13 := Lib.hid ho13.len
    have HLX13 : Hid (allR V13 [⟨A1, c1, numB 1 h.ver ++ numB 2 h.app⟩, ⟨A2, c2, timeB h.sec h.nan⟩, ⟨A3, c3, txtB 1 h.sum ++ msgB 2 (numB 1 h.parts ++ txtB 2 h.root)⟩, ⟨A4, c4, txtB 1 h.chain.data.toList⟩, ⟨A5, c5, numB 1 (u64 h.hgt)⟩, ⟨A6, c6, txtB 1 h.q0.s⟩, ⟨A7, c7, txtB 1 h.q1.s⟩, ⟨A8, c8, txtB 1 h.q2.s⟩, ⟨A9, c9, txtB 1 h.q3.s⟩, ⟨A10, c10, txtB 1 h.q4.s⟩, ⟨A11, c11, txtB 1 h.q5.s⟩, ⟨A12, c12, txtB 1 h.q6.s⟩, ⟨A13, c13, txtB 1 h.q7.s⟩]) := Lib.hid ((HLX12.out.below hb13).snoc (SbR.of_own2 ho13))
    have HBX13 := Lib.hid (HBX12.out.trans (hb13.mono HBX12.out.size)); have HSX13 := Lib.hid (HSX12.out.belowS hb13)
    clear ho13 hb13
    refine ⟨HSX13.out, ?_⟩
    refine wpAnyL_one 57 rfl (by kernel_rfl) rfl ?_
    go_simp
    refine (cdcBytes_any PA h.prop.size pc h.prop.data.toList V13 (byt_rd HPR.out |>.below HBX13.out |>.sized) HC.out.prop).mono ?_
    rintro e V14 ⟨A14, m14, c14, rfl, ho14, hb14⟩
    have HM14 := Lib.hid ho14.len
    have HLX14 : Hid (allR V14 [⟨A1, c1, numB 1 h.ver ++ numB 2 h.app⟩, ⟨A2, c2, timeB h.sec h.nan⟩, ⟨A3, c3, txtB 1 h.sum ++ msgB 2 (numB 1 h.parts ++ txtB 2 h.root)⟩, ⟨A4, c4, txtB 1 h.chain.data.toList⟩, ⟨A5, c5, numB 1 (u64 h.hgt)⟩, ⟨A6, c6, txtB 1 h.q0.s⟩, ⟨A7, c7, txtB 1 h.q1.s⟩, ⟨A8, c8, txtB 1 h.q2.s⟩, ⟨A9, c9, txtB 1 h.q3.s⟩, ⟨A10, c10, txtB 1 h.q4.s⟩, ⟨A11, c11, txtB 1 h.q5.s⟩, ⟨A12, c12, txtB 1 h.q6.s⟩, ⟨A13, c13, txtB 1 h.q7.s⟩, ⟨A14, c14, txtB 1 h.prop.data.toList⟩]) := Lib.hid ((HLX13.out.below hb14).snoc (SbR.of_own2 ho14))
    have HBX14 := Lib.hid (HBX13.out.trans (hb14.mono HBX13.out.size)); have HSX14 := Lib.hid (HSX13.out.belowS hb14)
    clear ho14 hb14
    refine ⟨HSX14.out, ?_⟩
    refine wpAnyL_one 58 rfl (by kernel_rfl) rfl ?_
    go_simp
    have hall : allR V14 [⟨A1, c1, numB 1 h.ver ++ numB 2 h.app⟩, ⟨A4, c4, txtB 1 h.chain.data.toList⟩, ⟨A5, c5, numB 1 (u64 h.hgt)⟩, ⟨A2, c2, timeB h.sec h.nan⟩, ⟨A3, c3, txtB 1 h.sum ++ msgB 2 (numB 1 h.parts ++ txtB 2 h.root)⟩, ⟨A6, c6, txtB 1 h.q0.s⟩, ⟨A7, c7, txtB 1 h.q1.s⟩, ⟨A8, c8, txtB 1 h.q2.s⟩, ⟨A9, c9, txtB 1 h.q3.s⟩, ⟨A10, c10, txtB 1 h.q4.s⟩, ⟨A11, c11, txtB 1 h.q5.s⟩, ⟨A12, c12, txtB 1 h.q6.s⟩, ⟨A13, c13, txtB 1 h.q7.s⟩, ⟨A14, c14, txtB 1 h.prop.data.toList⟩] := fun x hx => by
      simp only [List.mem_cons, List.not_mem_nil, or_false] at hx
      rcases hx with rfl | rfl | rfl | rfl | rfl | rfl | rfl | rfl | rfl | rfl | rfl | rfl | rfl | rfl <;> exact HLX14.out _ (by simp)
    have hcs : #[Value.slice A1 m1 c1, Value.slice A4 m4 c4, Value.slice A5 m5 c5, Value.slice A2 m2 c2, Value.slice A3 m3 c3, Value.slice A6 m6 c6, Value.slice A7 m7 c7, Value.slice A8 m8 c8, Value.slice A9 m9 c9, Value.slice A10 m10 c10, Value.slice A11 m11 c11, Value.slice A12 m12 c12, Value.slice A13 m13 c13, Value.slice A14 m14 c14] = (([⟨A1, c1, numB 1 h.ver ++ numB 2 h.app⟩, ⟨A4, c4, txtB 1 h.chain.data.toList⟩, ⟨A5, c5, numB 1 (u64 h.hgt)⟩, ⟨A2, c2, timeB h.sec h.nan⟩, ⟨A3, c3, txtB 1 h.sum ++ msgB 2 (numB 1 h.parts ++ txtB 2 h.root)⟩, ⟨A6, c6, txtB 1 h.q0.s⟩, ⟨A7, c7, txtB 1 h.q1.s⟩, ⟨A8, c8, txtB 1 h.q2.s⟩, ⟨A9, c9, txtB 1 h.q3.s⟩, ⟨A10, c10, txtB 1 h.q4.s⟩, ⟨A11, c11, txtB 1 h.q5.s⟩, ⟨A12, c12, txtB 1 h.q6.s⟩, ⟨A13, c13, txtB 1 h.q7.s⟩, ⟨A14, c14, txtB 1 h.prop.data.toList⟩] : List Sb).map Sb.cell).toArray := by
      rw [HM1.out, HM2.out, HM3.out, HM4.out, HM5.out, HM6.out, HM7.out, HM8.out, HM9.out, HM10.out, HM11.out, HM12.out, HM13.out, HM14.out]; rfl
    rw [hcs]
    have hal : Below V14.heap.size V14 (V14.alloc (.cells (([⟨A1, c1, numB 1 h.ver ++ numB 2 h.app⟩, ⟨A4, c4, txtB 1 h.chain.data.toList⟩, ⟨A5, c5, numB 1 (u64 h.hgt)⟩, ⟨A2, c2, timeB h.sec h.nan⟩, ⟨A3, c3, txtB 1 h.sum ++ msgB 2 (numB 1 h.parts ++ txtB 2 h.root)⟩, ⟨A6, c6, txtB 1 h.q0.s⟩, ⟨A7, c7, txtB 1 h.q1.s⟩, ⟨A8, c8, txtB 1 h.q2.s⟩, ⟨A9, c9, txtB 1 h.q3.s⟩, ⟨A10, c10, txtB 1 h.q4.s⟩, ⟨A11, c11, txtB 1 h.q5.s⟩, ⟨A12, c12, txtB 1 h.q6.s⟩, ⟨A13, c13, txtB 1 h.q7.s⟩, ⟨A14, c14, txtB 1 h.prop.data.toList⟩] : List Sb).map Sb.cell).toArray 22)) := (Below.refl _ _).alloc (Nat.le_refl _) _
    have hrdb := rdB_new (t := 22) hall (n := 14) rfl
    have hb15 := HBX14.out.trans (hal.mono HBX14.out.size)
    have kt := treeRoot_any (some ⟨V14.heap.size, 0, none⟩) 14 14 _ _ hrdb (Nat.le_refl _) (by decide) (fun x hx => by
      have h1 : x.s ∈ h.leaves := List.mem_map_of_mem (f := Sb.s) hx
      have := leaf_len HC.out _ h1; omega) (HKW.out.belowS hb15)
    have hs15 := HSX14.out.belowS hal
    have KT := Lib.hid kt; have HS15 := Lib.hid hs15; have HB15 := Lib.hid hb15
    clear hall hal hrdb kt hs15 hb15
    refine ⟨HS15.out, ?_⟩
    refine wpAnyL_one 59 rfl (by kernel_rfl) rfl ?_
    go_simp
    refine KT.out.mono ?_
    rintro e V16 ⟨A16, c16, rfl, hf16, hb16⟩
    have HF16 := Lib.hid hf16.1; have HB16 := Lib.hid (HB15.out.trans (hb16.mono HB15.out.size)); have HS16 := Lib.hid (HS15.out.belowS hb16)
    clear hf16 hb16
    refine ⟨HS16.out, ?_⟩
    refine wpAnyL_one 60 rfl (by kernel_rfl) rfl ?_
    go_simp
    refine wpAnyL_done (by kernel_rfl) ?_ _
    go_wp2_with fail
    go_ret
    exact ⟨A16, 32, c16, rfl, by rw [HS.out]; exact HF16.out, HB16.out⟩
end Go.Proofs.YtikikddkhikfkaaDoor
