/-
  The reference's messages of a time and of a block: walks. By the session. What is signed, as the reference has it (spec.Message): the walk. By the session. The package's messages (Time, CanonicalBlockID, CanonicalVote): walks. By the session.
-/
import Derived.Test.YtikikddkhikfkaaDoorPa2
import Derived.Test.YtikikddkhikfkaaDoorPa20
import Derived.Test.YtikikddkhikfkaaDoorPa5
import Derived.Test.YtikikddkhikfkaaDoorPa6
import Derived.Test.YtikikddkhikfkaaDoorPa21
set_option linter.all false
namespace Go.Proofs.YtikikddkhikfkaaDoor
open Go.RowKit

/-- the world behind so much: the boxed variable still holds what it held -/
def SB (N : Nat) (w : World) (t : TypeId) (cs : Array Value) (w' : World) : Prop := Blk w' N t cs ∧ Below N w w'
theorem SB.start (w : World) (t : TypeId) (cs : Array Value) : SB w.heap.size w t cs (w.alloc (.cells cs t)) := ⟨Blk.new _ _ _, (Below.refl _ _).alloc (Nat.le_refl _) _⟩
theorem SB.drew {N : Nat} {w w' : World} {t : TypeId} {cs : Array Value} (h : SB N w t cs w') : SB N w t cs w'.drew := ⟨h.1.drew, h.2.drew⟩
theorem SB.call {N : Nat} {w w1 w2 : World} {t : TypeId} {cs : Array Value} (h : SB N w t cs w1) (hb : Below w1.heap.size w1 w2) : SB N w t cs w2 := ⟨h.1.belowS hb, h.2.trans (hb.mono (Nat.le_of_lt h.1.lt))⟩
theorem SB.alloc {N : Nat} {w w1 : World} {t : TypeId} {cs : Array Value} (h : SB N w t cs w1) (o : Obj) : SB N w t cs (w1.alloc o) := h.call ((Below.refl _ _).alloc (Nat.le_refl _) _)
theorem SB.grown {N : Nat} {w w1 : World} {t : TypeId} {cs : Array Value} (h : SB N w t cs w1) : N < w1.heap.size := h.1.lt

def timeB (sec nan : Int) : List UInt8 := numB 1 (u64 sec) ++ numB 2 (u64 nan)
theorem timeB_length (sec nan : Int) : (timeB sec nan).length ≤ 22 := by
  have := numB_length 1 _ (u64_lt sec); have := numB_length 2 _ (u64_lt nan)
  unfold timeB; simp; omega
set_option maxHeartbeats 1600000 in
theorem stime_any (sec nan : Int) (w : World) (hs : in64' sec) (hn : in64' nan) :
    Calls Tryd.prog 39 #[.agg #[.int .i64 sec, .int .i64 nan]] w fun e w' => ∃ A m c, e = .returned (.slice A m c) ∧ Own8 w' w.heap.size A m c (timeB sec nan) ∧ Below w.heap.size w w' := by
  have K1 := Lib.hid (fun W => number_any 1 sec W (by omega) hs)
  have K2 := Lib.hid (fun W => number_any 2 nan W (by omega) hn)
  have HS := Lib.hid (SB.start w 41 #[.int .i64 sec, .int .i64 nan]).drew
  have hl1 := numB_length 1 _ (u64_lt sec)
  have hl2 := numB_length 2 _ (u64_lt nan)
  have HL1 := Lib.hid hl1; have HL2 := Lib.hid hl2; clear hl1 hl2
  go_enter Tryd.func39, Tryd.ntmps39
  go_wp2_with fail
  refine wp_region_L (SB w.heap.size w 41 #[.int .i64 sec, .int .i64 nan]) 8 (by kernel_rfl) ?_
  refine wpAnyL_take 0 (v := .pointer (some ⟨w.heap.size, 0, none⟩)) rfl (by kernel_rfl) (fun _ _ _ h => h) (yields_in rfl (fun w' hw' => by go_simp)) HS.out ?_
  simp only [Act.put, List.setIfInBounds_toArray, List.set_cons_zero, List.set_cons_succ]
  refine wpAnyL_take 1 (v := .int .i64 sec) rfl (by kernel_rfl) (fun _ _ _ h => h) (yields_in rfl (fun w' hw' => by have c0 : w'.cell? ⟨w.heap.size, 0, none⟩ = some (.int .i64 sec) := hw'.1.cell 0; go_simp)) HS.out ?_
  simp only [Act.put, List.setIfInBounds_toArray, List.set_cons_zero, List.set_cons_succ]
  refine wpAnyL_take 3 (v := .pointer (some ⟨w.heap.size, 1, none⟩)) rfl (by kernel_rfl) (fun _ _ _ h => h) (yields_in rfl (fun w' hw' => by go_simp)) HS.out ?_
  simp only [Act.put, List.setIfInBounds_toArray, List.set_cons_zero, List.set_cons_succ]
  refine wpAnyL_take 4 (v := .int .i64 nan) rfl (by kernel_rfl) (fun _ _ _ h => h) (yields_in rfl (fun w' hw' => by have c1 : w'.cell? ⟨w.heap.size, 1, none⟩ = some (.int .i64 nan) := hw'.1.cell 1; go_simp)) HS.out ?_
  simp only [Act.put, List.setIfInBounds_toArray, List.set_cons_zero, List.set_cons_succ]
  refine wpAnyL_one 2 rfl (by kernel_rfl) rfl ?_
  go_simp
  refine (K1.out _).mono ?_
  rintro e w1 ⟨A1, m1, c1, rfl, ho1, hb1⟩
  have HS1 := Lib.hid (HS.out.call hb1)
  refine ⟨HS1.out, ?_⟩
  refine wpAnyL_one 5 rfl (by kernel_rfl) rfl ?_
  go_simp
  refine (K2.out _).mono ?_
  rintro e w2 ⟨A2, m2, c2, rfl, ho2, hb2⟩
  have HS2 := Lib.hid (HS1.out.call hb2)
  refine ⟨HS2.out, ?_⟩
  refine wpAnyL_one 6 rfl (by kernel_rfl) rfl ?_
  go_simp
  have HS3 := Lib.hid (HS2.out.alloc (.cells #[.slice A1 m1 c1, .slice A2 m2 c2] 22))
  refine ⟨HS3.out, ?_⟩
  have hb3 := (Below.refl w2.heap.size w2).alloc (Nat.le_refl _) (.cells #[.slice A1 m1 c1, .slice A2 m2 c2] 22)
  have hr := Rd.new w2 #[.slice A1 m1 c1, .slice A2 m2 c2] 22 1 2 w2.heap.size rfl rfl
  have K3 := joined_any [⟨A1, m1, c1, numB 1 (u64 sec)⟩, ⟨A2, m2, c2, numB 2 (u64 nan)⟩] (some ⟨w2.heap.size, 0, none⟩) 2 2 _ (hr.more (by simp)) (by
    intro b hb
    simp only [List.mem_cons, List.not_mem_nil, or_false] at hb
    rcases hb with rfl | rfl
    · exact Bs.ok.below (Bs.ok.below (b := ⟨A1, m1, c1, _⟩) ho1.rd hb2) hb3
    · exact Bs.ok.below (b := ⟨A2, m2, c2, _⟩) ho2.rd hb3) (by omega) (by
    have := HL1.out; have := HL2.out
    intro k
    match k with
    | 0 => simp
    | 1 => simp; omega
    | k + 2 => simp; omega)
  have K3 := Lib.hid K3; clear hr hb3 ho1 ho2 hb1 hb2
  refine wpAnyL_one 7 rfl (by kernel_rfl) rfl ?_
  go_simp
  refine K3.out.mono ?_
  rintro e w3 ⟨A3, m3, c3, rfl, ho3, hb3⟩
  have HS4 := Lib.hid (HS3.out.call hb3)
  refine ⟨HS4.out, ?_⟩
  refine wpAnyL_one 8 rfl (by kernel_rfl) rfl ?_
  go_simp
  refine wpAnyL_done (by kernel_rfl) ?_ _
  go_wp2
  go_ret
  exact ⟨A3, m3, c3, rfl, by
    have e : joinB [⟨A1, m1, c1, numB 1 (u64 sec)⟩, ⟨A2, m2, c2, numB 2 (u64 nan)⟩] = timeB sec nan := by simp [joinB, timeB]
    rw [e] at ho3
    exact ho3.more (by have := HS3.out.grown; omega), HS4.out.2⟩

def blockB (sum : List UInt8) (parts : Int) (root : List UInt8) : List UInt8 := txtB 1 sum ++ msgB 2 (numB 1 (u64 parts) ++ txtB 2 root)
theorem blockB_length (sum : List UInt8) (parts : Int) (root : List UInt8) (h1 : sum.length ≤ 10000000000) (h2 : root.length ≤ 10000000000) : (blockB sum parts root).length ≤ 44 + sum.length + root.length := by
  have a := numB_length 1 _ (u64_lt parts)
  have b := txtB_length 2 root (by omega)
  have c := txtB_length 1 sum (by omega)
  have d := msgB_length 2 (numB 1 (u64 parts) ++ txtB 2 root) (by simp; omega)
  unfold blockB; simp at *; omega
/-- rows put together -/
theorem joined_two (a b : Bs) (w w1 : World) (t : TypeId) (N : Nat) (hN : w.heap.size = N) (hw : w1 = w.alloc (.cells #[a.val, b.val] t)) (ha : a.ok w) (hb : b.ok w) (h1 : a.s.length + b.s.length ≤ 50000000000) :
    Calls Tryd.prog 36 #[.slice (some ⟨N, 0, none⟩) 2 2] w1 fun e w' => ∃ A m c, e = .returned (.slice A m c) ∧ Own8 w' w1.heap.size A m c (a.s ++ b.s) ∧ Below w1.heap.size w1 w' := by
  subst hN; subst hw
  have hr := Rd.new w #[a.val, b.val] t 1 2 w.heap.size rfl rfl
  have hb3 := (Below.refl w.heap.size w).alloc (Nat.le_refl _) (.cells #[a.val, b.val] t)
  have h := joined_any [a, b] (some ⟨w.heap.size, 0, none⟩) 2 2 _ (hr.more (by simp)) (by
    intro x hx
    simp only [List.mem_cons, List.not_mem_nil, or_false] at hx
    rcases hx with rfl | rfl
    · exact ha.below hb3
    · exact hb.below hb3) (by omega) (by
    intro k
    match k with
    | 0 => simp
    | 1 => simp; omega
    | k + 2 => simp; omega)
  have e : joinB [a, b] = a.s ++ b.s := by simp [joinB]
  rw [e] at h
  exact h
set_option maxHeartbeats 3200000 in
theorem sblock_any (b : Bk) (w : World) (hb : b.ok w w.heap.size) (hp : in64' b.parts) (hs1 : b.sum.length ≤ 10000000000) (hs2 : b.root.length ≤ 10000000000) :
    Calls Tryd.prog 40 #[.agg #[.slice b.S b.sum.length b.sc, .int .i64 b.parts, .slice b.R b.root.length b.rc]] w fun e w' => ∃ A m c, e = .returned (.slice A m c) ∧ Own8 w' w.heap.size A m c (blockB b.sum b.parts b.root) ∧ Below w.heap.size w w' := by
  have hl1 := txtB_length 1 b.sum (by omega)
  have hl2 := numB_length 1 _ (u64_lt b.parts)
  have hl3 := txtB_length 2 b.root (by omega)
  have hl4 := msgB_length 2 (numB 1 (u64 b.parts) ++ txtB 2 b.root) (by simp; omega)
  have HL : Hid ((txtB 1 b.sum).length ≤ 11 + b.sum.length ∧ (numB 1 (u64 b.parts)).length ≤ 11 ∧ (txtB 2 b.root).length ≤ 11 + b.root.length ∧ (msgB 2 (numB 1 (u64 b.parts) ++ txtB 2 b.root)).length ≤ 33 + b.root.length) := ⟨hl1, hl2, hl3, by simp at hl4; omega⟩
  clear hl1 hl2 hl3 hl4
  have hstart := (SB.start w 35 #[.slice b.S b.sum.length b.sc, .int .i64 b.parts, .slice b.R b.root.length b.rc]).drew
  have HS := Lib.hid hstart
  have q0 := Lib.hid (Rd.below (Rd.alloc hb.1 (Nat.le_refl _) (.cells #[.slice b.S b.sum.length b.sc, .int .i64 b.parts, .slice b.R b.root.length b.rc] 35)) (Below.refl _ _))
  have K1 := Lib.hid (some_any 1 b.S b.sum.length b.sc b.sum _ (by omega) ((Rd.below hb.1 hstart.2).more hstart.2.size) (by omega))
  have HBK := Lib.hid hb
  clear hstart hb q0
  go_enter Tryd.func40, Tryd.ntmps40
  go_wp2_with fail
  refine wp_region_L (SB w.heap.size w 35 #[.slice b.S b.sum.length b.sc, .int .i64 b.parts, .slice b.R b.root.length b.rc]) 14 (by kernel_rfl) ?_
  refine wpAnyL_take 0 (v := .pointer (some ⟨w.heap.size, 0, none⟩)) rfl (by kernel_rfl) (fun _ _ _ h => h) (yields_in rfl (fun w' hw' => by go_simp)) HS.out ?_
  simp only [Act.put, List.setIfInBounds_toArray, List.set_cons_zero, List.set_cons_succ]
  refine wpAnyL_take 1 (v := .slice b.S b.sum.length b.sc) rfl (by kernel_rfl) (fun _ _ _ h => h) (yields_in rfl (fun w' hw' => by have c0 : w'.cell? ⟨w.heap.size, 0, none⟩ = some (.slice b.S b.sum.length b.sc) := hw'.1.cell 0; go_simp)) HS.out ?_
  simp only [Act.put, List.setIfInBounds_toArray, List.set_cons_zero, List.set_cons_succ]
  refine wpAnyL_take 3 (v := .pointer (some ⟨w.heap.size, 1, none⟩)) rfl (by kernel_rfl) (fun _ _ _ h => h) (yields_in rfl (fun w' hw' => by go_simp)) HS.out ?_
  simp only [Act.put, List.setIfInBounds_toArray, List.set_cons_zero, List.set_cons_succ]
  refine wpAnyL_take 4 (v := .int .i64 b.parts) rfl (by kernel_rfl) (fun _ _ _ h => h) (yields_in rfl (fun w' hw' => by have c1 : w'.cell? ⟨w.heap.size, 1, none⟩ = some (.int .i64 b.parts) := hw'.1.cell 1; go_simp)) HS.out ?_
  simp only [Act.put, List.setIfInBounds_toArray, List.set_cons_zero, List.set_cons_succ]
  refine wpAnyL_take 6 (v := .pointer (some ⟨w.heap.size, 2, none⟩)) rfl (by kernel_rfl) (fun _ _ _ h => h) (yields_in rfl (fun w' hw' => by go_simp)) HS.out ?_
  simp only [Act.put, List.setIfInBounds_toArray, List.set_cons_zero, List.set_cons_succ]
  refine wpAnyL_take 7 (v := .slice b.R b.root.length b.rc) rfl (by kernel_rfl) (fun _ _ _ h => h) (yields_in rfl (fun w' hw' => by have c2 : w'.cell? ⟨w.heap.size, 2, none⟩ = some (.slice b.R b.root.length b.rc) := hw'.1.cell 2; go_simp)) HS.out ?_
  simp only [Act.put, List.setIfInBounds_toArray, List.set_cons_zero, List.set_cons_succ]
  refine wpAnyL_one 2 rfl (by kernel_rfl) rfl ?_
  go_simp
  refine (K1.out).mono ?_
  rintro e w1 ⟨A1, m1, c1, rfl, ho1, hb1⟩
  have HS1 := Lib.hid (HS.out.call hb1)
  refine ⟨HS1.out, ?_⟩
  have r1 : Bs.ok w1 ⟨A1, m1, c1, txtB 1 b.sum⟩ := ho1.rd
  have K2 := Lib.hid (number_any 1 b.parts w1 (by omega) hp)
  refine wpAnyL_one 5 rfl (by kernel_rfl) rfl ?_
  go_simp
  refine (K2.out).mono ?_
  rintro e w2 ⟨A2, m2, c2, rfl, ho2, hb2⟩
  have HS2 := Lib.hid (HS1.out.call hb2)
  refine ⟨HS2.out, ?_⟩
  have r12 := r1.below hb2
  have r2 : Bs.ok w2 ⟨A2, m2, c2, numB 1 (u64 b.parts)⟩ := ho2.rd
  have K3 := Lib.hid (some_any 2 b.R b.root.length b.rc b.root w2 (by omega) ((Rd.below HBK.out.2 HS2.out.2).more HS2.out.2.size) (by omega))
  refine wpAnyL_one 8 rfl (by kernel_rfl) rfl ?_
  go_simp
  refine (K3.out).mono ?_
  rintro e w3 ⟨A3, m3, c3, rfl, ho3, hb3⟩
  have HS3 := Lib.hid (HS2.out.call hb3)
  refine ⟨HS3.out, ?_⟩
  have r13 := r12.below hb3
  have r23 := r2.below hb3
  have r3 : Bs.ok w3 ⟨A3, m3, c3, txtB 2 b.root⟩ := ho3.rd
  refine wpAnyL_one 9 rfl (by kernel_rfl) rfl ?_
  go_simp
  have HS4 := Lib.hid (HS3.out.alloc (.cells #[.slice A2 m2 c2, .slice A3 m3 c3] 22))
  refine ⟨HS4.out, ?_⟩
  have hb4 := (Below.refl w3.heap.size w3).alloc (Nat.le_refl _) (.cells #[.slice A2 m2 c2, .slice A3 m3 c3] 22)
  have K5 := Lib.hid (joined_two _ _ w3 _ 22 w3.heap.size rfl rfl r23 r3 (by have := HL.out; simp only; omega))
  have r14 := r13.below hb4
  refine wpAnyL_one 10 rfl (by kernel_rfl) rfl ?_
  go_simp
  refine (K5.out).mono ?_
  rintro e w5 ⟨A5, m5, c5, rfl, ho5, hb5⟩
  have HS5 := Lib.hid (HS4.out.call hb5)
  refine ⟨HS5.out, ?_⟩
  have r15 := r14.below hb5
  have ho5' : Own8 w5 _ A5 m5 c5 (numB 1 (u64 b.parts) ++ txtB 2 b.root) := ho5
  have K6 := Lib.hid (within_any 2 A5 m5 c5 (numB 1 (u64 b.parts) ++ txtB 2 b.root) w5 (by omega) ho5'.rd (by have := HL.out; have := ho5'.len; simp at this; omega))
  refine wpAnyL_one 11 rfl (by kernel_rfl) rfl ?_
  go_simp
  refine (K6.out).mono ?_
  rintro e w6 ⟨A6, m6, c6, rfl, ho6, hb6⟩
  have HS6 := Lib.hid (HS5.out.call hb6)
  refine ⟨HS6.out, ?_⟩
  have r16 := r15.below hb6
  have r6 : Bs.ok w6 ⟨A6, m6, c6, msgB 2 (numB 1 (u64 b.parts) ++ txtB 2 b.root)⟩ := ho6.rd
  refine wpAnyL_one 12 rfl (by kernel_rfl) rfl ?_
  go_simp
  have HS7 := Lib.hid (HS6.out.alloc (.cells #[.slice A1 m1 c1, .slice A6 m6 c6] 22))
  refine ⟨HS7.out, ?_⟩
  have hb7 := (Below.refl w6.heap.size w6).alloc (Nat.le_refl _) (.cells #[.slice A1 m1 c1, .slice A6 m6 c6] 22)
  have K8 := Lib.hid (joined_two _ _ w6 _ 22 w6.heap.size rfl rfl r16 r6 (by have := HL.out; simp only; omega))
  refine wpAnyL_one 13 rfl (by kernel_rfl) rfl ?_
  go_simp
  refine (K8.out).mono ?_
  rintro e w8 ⟨A8, m8, c8, rfl, ho8, hb8⟩
  have HS8 := Lib.hid (HS7.out.call hb8)
  refine ⟨HS8.out, ?_⟩
  refine wpAnyL_one 14 rfl (by kernel_rfl) rfl ?_
  go_simp
  refine wpAnyL_done (by kernel_rfl) ?_ _
  go_wp2
  go_ret
  exact ⟨A8, m8, c8, rfl, ho8.more (by have := HS6.out.grown; simp; omega), HS8.out.2⟩

end Go.Proofs.YtikikddkhikfkaaDoor

set_option linter.all false
namespace Go.Proofs.YtikikddkhikfkaaDoor
open Go.RowKit

/-- the world behind so much: two boxed variables, one behind the other, hold what they held -/
def SB2 (N : Nat) (w : World) (t : TypeId) (cs : Array Value) (t2 : TypeId) (cs2 : Array Value) (w' : World) : Prop := Blk w' N t cs ∧ Blk w' (N + 1) t2 cs2 ∧ Below N w w'
theorem SB2.call {N : Nat} {w w1 w2 : World} {t t2 : TypeId} {cs cs2 : Array Value} (h : SB2 N w t cs t2 cs2 w1) (hb : Below w1.heap.size w1 w2) : SB2 N w t cs t2 cs2 w2 := ⟨h.1.belowS hb, h.2.1.belowS hb, h.2.2.trans (hb.mono (Nat.le_of_lt h.1.lt))⟩
theorem SB2.drew {N : Nat} {w w1 : World} {t t2 : TypeId} {cs cs2 : Array Value} (h : SB2 N w t cs t2 cs2 w1) : SB2 N w t cs t2 cs2 w1.drew := ⟨h.1.drew, h.2.1.drew, h.2.2.drew⟩
/-- slices put together -/
theorem joined_fact (ss : List (List UInt8)) (A : Option Addr) (c : Nat) (l : List Bs) (w : World) (h1 : l.map Bs.s = ss) (h2 : Rd w w.heap.size 1 A l.length (l.map Bs.val)) (h3 : ∀ b ∈ l, b.ok w) (hn : ss.length ≤ 100) (hs : ∀ s ∈ ss, s.length ≤ 2000000) :
    Calls Tryd.prog 36 #[.slice A l.length c] w fun e w' => ∃ A m c, e = .returned (.slice A m c) ∧ Own8 w' w.heap.size A m c ss.flatten ∧ Below w.heap.size w w' := by
  have hl : l.length = ss.length := by rw [← h1]; simp
  have h := joined_any l A l.length c w h2 h3 (by omega) (fun k => by
    have hb : ∀ (l : List Bs), (∀ b ∈ l, b.s.length ≤ 2000000) → (l.flatMap Bs.s).length ≤ l.length * 2000000 := by
      intro l
      induction l with
      | nil => intro _; simp
      | cons x r ih =>
        intro h
        have a := ih fun b hb => h b (List.mem_cons_of_mem _ hb)
        have b := h x (List.mem_cons_self ..)
        simp only [List.flatMap_cons, List.length_append, List.length_cons]; omega
    have h4 := hb (l.take k) (fun b hb => hs _ (by rw [← h1]; exact List.mem_map_of_mem (List.mem_of_mem_take hb)))
    have h5 := List.length_take_le k l
    have h6 : (l.take k).length ≤ l.length := List.length_take_le' k l
    omega)
  have e : joinB l = ss.flatten := by rw [← h1]; rfl
  rw [e] at h
  exact h
/-- the block that a conversion lays reads as the bytes -/
theorem Rd.conv (W : World) (s : ByteArray) (cap : Nat) (N : Nat) (hN : W.heap.size = N) : Rd (W.alloc (bObj s cap)) (N + 1) 1 (some ⟨N, 0, none⟩) s.size (bc s.data.toList) := by
  obtain ⟨g, e, _, hc⟩ := (Byt.conv W s cap N hN).cells
  cases e
  refine ⟨by rw [bc_length, Array.length_toList, Nat.mul_one]; rfl, fun j u hu => ⟨_, rfl, Nat.lt_succ_self _, ?_⟩⟩
  have hj : j < s.data.toList.length := by
    have := (List.getElem?_eq_some_iff.1 hu).1
    rw [bc_length] at this; exact this
  rw [add_flat, Nat.zero_add, hc j hj, ← hu]
  exact (bc_get (List.getElem?_eq_getElem hj)).symm

/-- what is signed, but for the number of bytes ahead of it -/
def bodyOf (chain : List UInt8) (h r : Int) (id : List UInt8) (sec nan : Int) : List UInt8 := [numB 1 2, fixB 2 (u64 h), fixB 3 (u64 r), id, msgB 5 (timeB sec nan), txtB 6 chain].flatten
theorem bodyOf_length (chain : List UInt8) (h r : Int) (id : List UInt8) (sec nan : Int) (h1 : chain.length ≤ 1000) (h2 : id.length ≤ 2100) : (bodyOf chain h r id sec nan).length ≤ 5000 := by
  have a := numB_length 1 2 (by omega)
  have b := fixB_length 2 (u64 h)
  have c := fixB_length 3 (u64 r)
  have t := timeB_length sec nan
  have d := msgB_length 5 (timeB sec nan) (by omega)
  have e := txtB_length 6 chain (by omega)
  unfold bodyOf
  simp only [List.flatten_cons, List.flatten_nil, List.length_append, List.length_nil]
  omega
def idOf (flag : Int) (b : Bk) : List UInt8 := if flag = 2 ∧ ¬ (b.sum.length = 0 ∧ b.parts = 0 ∧ b.root.length = 0) then msgB 4 (blockB b.sum b.parts b.root) else []
def msgOf (body : List UInt8) : List UInt8 := vi body.length ++ body
end Go.Proofs.YtikikddkhikfkaaDoor

set_option linter.all false
namespace Go.Proofs.YtikikddkhikfkaaDoor
open Go.RowKit

set_option maxHeartbeats 800000 in
theorem unix_any (sec nan : Int) (w : World) (hs : -4611686018427387904 ≤ sec ∧ sec ≤ 4611686018427387904) :
    Calls Tryd.prog 97 #[.agg #[.int .i64 (sec + 62135596800), .int .i32 nan]] w fun e w' => e = .returned (.int .i64 sec) ∧ Below w.heap.size w w' := by
  have hw : wrap64 (sec + 62135596800 - 62135596800) = sec := by unfold wrap64; omega
  go_enter Tryd.func97, Tryd.ntmps97
  go_wp2
  go_ret
  exact ⟨ret_int (by omega), (Below.refl _ _).alloc (Nat.le_refl _) _⟩

set_option maxRecDepth 100000 in
set_option maxHeartbeats 1600000 in
theorem ctime_any (sec nan : Int) (w : World) (hs : -4611686018427387904 ≤ sec ∧ sec ≤ 4611686018427387904) (hn : 0 ≤ nan ∧ nan ≤ 2147483647) :
    Calls Tryd.prog 70 #[.agg #[.int .i64 (sec + 62135596800), .int .i32 nan]] w fun e w' => ∃ A m c, e = .returned (.slice A m c) ∧ Own8 w' w.heap.size A m c (timeB sec nan) ∧ Below w.heap.size w w' := by
  have HS := Lib.hid (SB.start w 88 #[.int .i64 (sec + 62135596800), .int .i32 nan]).drew
  have K1 := Lib.hid (fun W => unix_any sec nan W hs)
  have hl1 := numB_length 1 _ (u64_lt sec)
  have HL1 := Lib.hid hl1; clear hl1
  have hu1 : IntKind.u64.wrap sec = ((u64 sec : Nat) : Int) := by rw [u64_cast]; simp [IntKind.wrap, IntKind.bits, IntKind.signed]
  have hu2 : ((u64 nan : Nat) : Int) = nan := by rw [u64_cast]; omega
  have hw1 : IntKind.i64.wrap nan = nan := by rw [IntKind.wrap_i64]; omega
  have hw2 : IntKind.u64.wrap nan = nan := by simp [IntKind.wrap, IntKind.bits, IntKind.signed]; omega
  go_enter Tryd.func70, Tryd.ntmps70
  go_wp2_with fail
  refine wp_region_L (SB w.heap.size w 88 #[.int .i64 (sec + 62135596800), .int .i32 nan]) 9 (by kernel_rfl) ?_
  refine wpAnyL_take 0 (v := .agg #[.int .i64 (sec + 62135596800), .int .i32 nan]) rfl (by kernel_rfl) (fun _ _ _ h => h) (yields_in rfl (fun w' hw' => by have c0 : w'.cell? ⟨w.heap.size, 0, none⟩ = some (.int .i64 (sec + 62135596800)) := hw'.1.cell 0; have c1 : w'.cell? ⟨w.heap.size, 1, none⟩ = some (.int .i32 nan) := hw'.1.cell 1; go_simp)) HS.out ?_
  simp only [Act.put, List.setIfInBounds_toArray, List.set_cons_zero, List.set_cons_succ]
  refine wpAnyL_take 4 (v := .pointer (some ⟨w.heap.size, 1, none⟩)) rfl (by kernel_rfl) (fun _ _ _ h => h) (yields_in rfl (fun w' hw' => by go_simp)) HS.out ?_
  simp only [Act.put, List.setIfInBounds_toArray, List.set_cons_zero, List.set_cons_succ]
  refine wpAnyL_take 5 (v := .int .i32 nan) rfl (by kernel_rfl) (fun _ _ _ h => h) (yields_in rfl (fun w' hw' => by have c1 : w'.cell? ⟨w.heap.size, 1, none⟩ = some (.int .i32 nan) := hw'.1.cell 1; go_simp)) HS.out ?_
  simp only [Act.put, List.setIfInBounds_toArray, List.set_cons_zero, List.set_cons_succ]
  refine wpAnyL_take 6 (v := .int .i64 nan) rfl (by kernel_rfl) (fun _ _ _ h => h) (yields_in rfl (fun w' hw' => by go_simp)) HS.out ?_
  simp only [Act.put, List.setIfInBounds_toArray, List.set_cons_zero, List.set_cons_succ]
  refine wpAnyL_take 7 (v := .int .u64 (u64 nan)) rfl (by kernel_rfl) (fun _ _ _ h => h) (yields_in rfl (fun w' hw' => by rw [hu2]; go_simp)) HS.out ?_
  simp only [Act.put, List.setIfInBounds_toArray, List.set_cons_zero, List.set_cons_succ]
  refine wpAnyL_one 1 rfl (by kernel_rfl) rfl ?_
  go_simp
  refine (K1.out _).mono ?_
  rintro e w1 ⟨rfl, hb1⟩
  have HS1 := Lib.hid (HS.out.call hb1); clear hb1
  refine ⟨HS1.out, ?_⟩
  refine wpAnyL_one 2 rfl (by kernel_rfl) rfl ?_
  go_simp
  refine ⟨HS1.out, ?_⟩
  refine wpAnyL_one 3 rfl (by kernel_rfl) rfl ?_
  go_simp
  have K2 := Lib.hid (putNum_any w1.heap.size 0 0 1 none [] (u64 sec) w1 (Own8.nil _ _) (Nat.le_refl _) (by omega) (u64_lt _) (by omega))
  refine K2.out.mono ?_
  rintro e w2 ⟨A2, m2, c2, rfl, ho2, hg2⟩
  rw [List.nil_append] at ho2
  have hb2 := hg2.below (B := w1.heap.size) (Nat.le_refl _) (fun k hk => by simp [Value.ownBlock] at hk)
  have HS2 := Lib.hid (HS1.out.call hb2)
  refine ⟨HS2.out, ?_⟩
  refine wpAnyL_one 8 rfl (by kernel_rfl) rfl ?_
  have K3 := Lib.hid (putNum_any w1.heap.size m2 c2 2 A2 _ (u64 nan) w2 ho2 hb2.size (by have := ho2.len; have := HL1.out; omega) (u64_lt _) (by omega))
  rw [hu2] at K3
  go_simp
  refine K3.out.mono ?_
  rintro e w3 ⟨A3, m3, c3, rfl, ho3, hg3⟩
  have hb3 := (hg2.trans hg3).below (B := w1.heap.size) (Nat.le_refl _) (fun k hk => by simp [Value.ownBlock] at hk)
  have HS3 := Lib.hid (HS1.out.call hb3)
  refine ⟨HS3.out, ?_⟩
  refine wpAnyL_one 9 rfl (by kernel_rfl) rfl ?_
  go_simp
  refine wpAnyL_done (by kernel_rfl) ?_ _
  go_wp2
  go_ret
  exact ⟨A3, m3, c3, rfl, ho3.more (Nat.le_of_lt HS1.out.grown), HS3.out.2⟩

/-- the cells of a block's identity that is signed -/
def cbidCells (b : Bk) : Array Value := #[.slice b.S b.sum.length b.sc, .int .u32 b.parts, .slice b.R b.root.length b.rc]
theorem Rd8.lt {w : World} {B : Nat} {A : Option Addr} {s : List UInt8} (h : Rd8 w B A s) (hn : 0 < s.length) : ∀ ad, A = some ad → ad.block < B := fun ad e => by
  obtain ⟨ad', e', hlt, _⟩ := h.2 0 _ (List.getElem?_eq_getElem (by rw [bc_length]; exact hn))
  rw [e] at e'; cases e'; exact hlt
end Go.Proofs.YtikikddkhikfkaaDoor
