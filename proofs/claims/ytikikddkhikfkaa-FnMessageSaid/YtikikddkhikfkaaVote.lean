/-
  From a commit to the bytes that are signed: GetVote, CanonicalizeVote and what they call: walks. By the session.
-/
import Derived.Test.YtikikddkhikfkaaPut2
import Derived.Handy
set_option linter.all false
namespace Go.Proofs.Ytikikddkhikfkaa
open Go.RowKit

theorem Blk.fill7 {w : World} {g : Nat} {t : TypeId} {a0 a1 a2 a3 a4 a5 a6 b0 b1 b2 b3 b4 b5 b6 : Value} (h : Blk w g t #[a0, a1, a2, a3, a4, a5, a6]) :
    Blk (((((((w.setCell ⟨g, 0, none⟩ b0).setCell ⟨g, 1, none⟩ b1).setCell ⟨g, 2, none⟩ b2).setCell ⟨g, 3, none⟩ b3).setCell ⟨g, 4, none⟩ b4).setCell ⟨g, 5, none⟩ b5).setCell ⟨g, 6, none⟩ b6) g t #[b0, b1, b2, b3, b4, b5, b6] := by
  have := ((((((h.put 0 b0).put 1 b1).put 2 b2).put 3 b3).put 4 b4).put 5 b5).put 6 b6
  simpa using this
theorem Below.fill7 {w w1 : World} {B g : Nat} {b0 b1 b2 b3 b4 b5 b6 : Value} (h : Below B w w1) (hg : B ≤ g) : Below B w (((((((w1.setCell ⟨g, 0, none⟩ b0).setCell ⟨g, 1, none⟩ b1).setCell ⟨g, 2, none⟩ b2).setCell ⟨g, 3, none⟩ b3).setCell ⟨g, 4, none⟩ b4).setCell ⟨g, 5, none⟩ b5).setCell ⟨g, 6, none⟩ b6) :=
  ((((((h.setCell (p := ⟨g, 0, none⟩) hg b0).setCell (p := ⟨g, 1, none⟩) hg b1).setCell (p := ⟨g, 2, none⟩) hg b2).setCell (p := ⟨g, 3, none⟩) hg b3).setCell (p := ⟨g, 4, none⟩) hg b4).setCell (p := ⟨g, 5, none⟩) hg b5).setCell (p := ⟨g, 6, none⟩) hg b6
theorem Blk.far7 {w1 : World} {k g : Nat} {t : TypeId} {cs : Array Value} {b0 b1 b2 b3 b4 b5 b6 : Value} (h : Blk w1 k t cs) (hg : k ≠ g) : Blk (((((((w1.setCell ⟨g, 0, none⟩ b0).setCell ⟨g, 1, none⟩ b1).setCell ⟨g, 2, none⟩ b2).setCell ⟨g, 3, none⟩ b3).setCell ⟨g, 4, none⟩ b4).setCell ⟨g, 5, none⟩ b5).setCell ⟨g, 6, none⟩ b6) k t cs :=
  ((((((h.far (p := ⟨g, 0, none⟩) hg b0).far (p := ⟨g, 1, none⟩) hg b1).far (p := ⟨g, 2, none⟩) hg b2).far (p := ⟨g, 3, none⟩) hg b3).far (p := ⟨g, 4, none⟩) hg b4).far (p := ⟨g, 5, none⟩) hg b5).far (p := ⟨g, 6, none⟩) hg b6
/-- no block -/
def noBk : Bk := ⟨none, 0, [], 0, none, 0, []⟩
def Bk.none (b : Bk) : Prop := b.sum.length = 0 ∧ b.parts = 0 ∧ b.root.length = 0
/-- a block's name that is whole, or none -/
def Bk.good (b : Bk) : Prop := (b.sum.length = 0 ∧ b.parts = 0 ∧ b.root.length = 0) ∨ (b.sum.length = 32 ∧ b.root.length = 32 ∧ 0 ≤ b.parts ∧ b.parts ≤ 4294967295)
def idB (b : Bk) : List UInt8 := if b.sum.length = 0 ∧ b.parts = 0 ∧ b.root.length = 0 then [] else msgB 4 (blockB b.sum b.parts b.root)
def vbk (flag : Int) (b : Bk) : Bk := if flag = 2 then b else noBk
theorem idB_vbk (flag : Int) (b : Bk) : idB (vbk flag b) = idOf flag b := by
  unfold idB vbk idOf
  by_cases h : flag = 2
  · rw [if_pos h]
    by_cases h2 : b.sum.length = 0 ∧ b.parts = 0 ∧ b.root.length = 0
    · rw [if_pos h2, if_neg (fun k => k.2 h2)]
    · rw [if_neg h2, if_pos ⟨h, h2⟩]
  · rw [if_neg h, if_neg (fun k : flag = 2 ∧ _ => h k.1)]; rfl

set_option maxHeartbeats 800000 in
theorem vhash_any (A : Option Addr) (n c : Nat) (w : World) (h : n = 0 ∨ n = 32) :
    Calls Try.prog 107 #[.slice A n c] w fun e w' => e = .returned .nilIface ∧ w = w' := by
  rcases h with rfl | rfl
  · go_enter Try.func107, Try.ntmps107
    go_wp2
    go_ret
    exact ⟨rfl, rfl⟩
  · go_enter Try.func107, Try.ntmps107
    go_wp2
    go_ret
    exact ⟨rfl, rfl⟩
set_option maxHeartbeats 800000 in
theorem pvalid_any (p : Int) (A : Option Addr) (n c : Nat) (w : World) (h : n = 0 ∨ n = 32) :
    Calls Try.prog 109 #[.agg #[.int .u32 p, .slice A n c]] w fun e w' => e = .returned .nilIface ∧ Below w.heap.size w w' := by
  have K := Lib.hid (fun W => vhash_any A n c W h)
  clear h
  go_enter Try.func109, Try.ntmps109
  go_wp2_with fail
  refine (K.out _).mono ?_
  rintro e w1 ⟨rfl, rfl⟩
  go_wp2
  go_ret
  exact ⟨rfl, (Below.refl _ _).alloc (Nat.le_refl _) _⟩
set_option maxHeartbeats 800000 in
theorem bvalid_any (b : Bk) (w : World) (h : b.good) :
    Calls Try.prog 102 #[.agg #[.slice b.S b.sum.length b.sc, .int .u32 b.parts, .slice b.R b.root.length b.rc]] w fun e w' => e = .returned .nilIface ∧ Below w.heap.size w w' := by
  have K := Lib.hid (fun W => vhash_any b.S b.sum.length b.sc W (by rcases h with h | h <;> omega))
  have K2 := Lib.hid (fun W => pvalid_any b.parts b.R b.root.length b.rc W (by rcases h with h | h <;> omega))
  have HS := Lib.hid (SB.start w 108 #[.slice b.S b.sum.length b.sc, .int .u32 b.parts, .slice b.R b.root.length b.rc])
  clear h
  go_enter Try.func102, Try.ntmps102
  go_wp2_with fail
  refine (K.out _).mono ?_
  rintro e w1 ⟨rfl, rfl⟩
  go_wp2_with fail
  refine (K2.out _).mono ?_
  rintro e w2 ⟨rfl, hb2⟩
  have HS2 := Lib.hid (HS.out.call hb2); clear hb2
  go_wp2
  go_ret
  exact ⟨rfl, HS2.out.2⟩
set_option maxHeartbeats 800000 in
theorem iszero_any (p : Int) (A : Option Addr) (n c : Nat) (w : World) :
    Calls Try.prog 110 #[.agg #[.int .u32 p, .slice A n c]] w fun e w' => e = .returned (.bool (decide (p = 0 ∧ n = 0))) ∧ Below w.heap.size w w' := by
  by_cases h1 : p = 0
  · by_cases h2 : n = 0
    · have hd : Hid (decide (p = 0 ∧ n = 0) = true) := by show _ = _; simp [h1, h2]
      have hz : (p == 0) = true := by rw [h1]; rfl
      have hz2 : ((n : Int) == 0) = true := by rw [h2]; rfl
      clear h1 h2
      go_enter Try.func110, Try.ntmps110
      go_wp2
      go_ret
      exact ⟨ret_bool hd.out.symm, (Below.refl _ _).alloc (Nat.le_refl _) _⟩
    · have hd : Hid (decide (p = 0 ∧ n = 0) = false) := by show _ = _; simp [h2]
      have hz : (p == 0) = true := by rw [h1]; rfl
      have hz2 : ((n : Int) == 0) = false := by rw [beq_eq_false_iff_ne]; omega
      clear h1 h2
      go_enter Try.func110, Try.ntmps110
      go_wp2
      go_ret
      exact ⟨ret_bool hd.out.symm, (Below.refl _ _).alloc (Nat.le_refl _) _⟩
  · have hd : Hid (decide (p = 0 ∧ n = 0) = false) := by show _ = _; simp [h1]
    have hz : (p == 0) = false := by rw [beq_eq_false_iff_ne]; exact h1
    clear h1
    go_enter Try.func110, Try.ntmps110
    go_wp2
    go_ret
    exact ⟨ret_bool hd.out.symm, (Below.refl _ _).alloc (Nat.le_refl _) _⟩
set_option maxHeartbeats 800000 in
theorem isnil_any (b : Bk) (w : World) :
    Calls Try.prog 103 #[.agg #[.slice b.S b.sum.length b.sc, .int .u32 b.parts, .slice b.R b.root.length b.rc]] w fun e w' => e = .returned (.bool (decide (b.sum.length = 0 ∧ b.parts = 0 ∧ b.root.length = 0))) ∧ Below w.heap.size w w' := by
  have HS := Lib.hid (SB.start w 108 #[.slice b.S b.sum.length b.sc, .int .u32 b.parts, .slice b.R b.root.length b.rc])
  by_cases h1 : b.sum.length = 0
  · have hd : Hid (decide (b.sum.length = 0 ∧ b.parts = 0 ∧ b.root.length = 0) = decide (b.parts = 0 ∧ b.root.length = 0)) := by show _ = _; simp [h1]
    have hz : ((b.sum.length : Int) == 0) = true := by rw [h1]; rfl
    have K := Lib.hid (fun W => iszero_any b.parts b.R b.root.length b.rc W)
    clear h1
    go_enter Try.func103, Try.ntmps103
    go_wp2_with fail
    refine (K.out _).mono ?_
    rintro e w1 ⟨rfl, hb1⟩
    have HS1 := Lib.hid (HS.out.call hb1); clear hb1
    cases hdd : decide (b.parts = 0 ∧ b.root.length = 0) with
    | true =>
      rw [hdd] at hd; clear hdd
      go_wp2
      go_ret
      exact ⟨ret_bool hd.out.symm, HS1.out.2⟩
    | false =>
      rw [hdd] at hd; clear hdd
      go_wp2
      go_ret
      exact ⟨ret_bool hd.out.symm, HS1.out.2⟩
  · have hd : Hid (decide (b.sum.length = 0 ∧ b.parts = 0 ∧ b.root.length = 0) = false) := by show _ = _; simp [h1]
    have hz : ((b.sum.length : Int) == 0) = false := by rw [beq_eq_false_iff_ne]; omega
    clear h1
    go_enter Try.func103, Try.ntmps103
    go_wp2
    go_ret
    exact ⟨ret_bool hd.out.symm, HS.out.2⟩
set_option maxHeartbeats 800000 in
theorem cpsh_any (p : Int) (A : Option Addr) (n c : Nat) (w : World) :
    Calls Try.prog 104 #[.agg #[.int .u32 p, .slice A n c]] w fun e w' => e = .returned (.agg #[.int .u32 p, .slice A n c]) ∧ Below w.heap.size w w' := by
  go_enter Try.func104, Try.ntmps104
  go_wp2
  go_returns
  exact ⟨rfl, ((Below.refl _ _).alloc (Nat.le_refl _) _).alloc (by simp) _⟩
set_option maxRecDepth 100000 in
set_option maxHeartbeats 1600000 in
theorem canid_any (b : Bk) (w : World) (h : b.good) :
    Calls Try.prog 90 #[.agg #[.slice b.S b.sum.length b.sc, .int .u32 b.parts, .slice b.R b.root.length b.rc]] w fun e w' => ((b.sum.length = 0 ∧ b.parts = 0 ∧ b.root.length = 0) ∧ e = .returned (.pointer none) ∨ ¬ (b.sum.length = 0 ∧ b.parts = 0 ∧ b.root.length = 0) ∧ ∃ g, e = .returned (ptrTo g) ∧ Blk w' g 177 (cbidCells b)) ∧ Below w.heap.size w w' := by
  have K1 := Lib.hid (fun W => bvalid_any b W h)
  have K2 := Lib.hid (fun W => isnil_any b W)
  have K3 := Lib.hid (fun W => cpsh_any b.parts b.R b.root.length b.rc W)
  have HS := Lib.hid (SB.start w 108 #[.slice b.S b.sum.length b.sc, .int .u32 b.parts, .slice b.R b.root.length b.rc])
  clear h
  go_enter Try.func90, Try.ntmps90
  go_wp2_with fail
  refine (K1.out _).mono ?_
  rintro e w1 ⟨rfl, hb1⟩
  have hs1 := HS.out.call hb1
  have HS1 := Lib.hid hs1
  have q0 : w1.cell? ⟨w.heap.size, 0, none⟩ = some (.slice b.S b.sum.length b.sc) := hs1.1.cell 0
  have q1 : w1.cell? ⟨w.heap.size, 1, none⟩ = some (.int .u32 b.parts) := hs1.1.cell 1
  have q2 : w1.cell? ⟨w.heap.size, 2, none⟩ = some (.slice b.R b.root.length b.rc) := hs1.1.cell 2
  clear hb1 hs1
  go_wp2_with fail
  refine (K2.out _).mono ?_
  rintro e w2 ⟨rfl, hb2⟩
  have hs2 := HS1.out.call hb2
  have HS2 := Lib.hid hs2; clear q0 q1 q2 hb2 hs2
  by_cases hno : b.sum.length = 0 ∧ b.parts = 0 ∧ b.root.length = 0
  · have hd := decide_eq_true hno
    have HNO := Lib.hid hno
    rw [hd]; clear hd hno
    go_wp2
    go_ret
    exact ⟨.inl ⟨HNO.out, rfl⟩, HS2.out.2⟩
  · have hd := decide_eq_false hno
    have HNO := Lib.hid hno
    rw [hd]; clear hd hno
    have HSd := Lib.hid HS2.out.drew
    go_wp2_with fail
    refine wp_region_L (SB w.heap.size w 108 #[.slice b.S b.sum.length b.sc, .int .u32 b.parts, .slice b.R b.root.length b.rc]) 7 (by kernel_rfl) ?_
    refine wpAnyL_take 0 (v := .pointer (some ⟨w.heap.size, 0, none⟩)) rfl (by kernel_rfl) (fun _ _ _ h => h) (yields_in rfl (fun w' hw' => by go_simp)) HSd.out ?_
    simp only [Act.put, List.setIfInBounds_toArray, List.set_cons_zero, List.set_cons_succ]
    refine wpAnyL_take 1 (v := .slice b.S b.sum.length b.sc) rfl (by kernel_rfl) (fun _ _ _ h => h) (yields_in rfl (fun w' hw' => by have c0 : w'.cell? ⟨w.heap.size, 0, none⟩ = some (.slice b.S b.sum.length b.sc) := hw'.1.cell 0; go_simp)) HSd.out ?_
    simp only [Act.put, List.setIfInBounds_toArray, List.set_cons_zero, List.set_cons_succ]
    refine wpAnyL_take 2 (v := .pointer (some ⟨w.heap.size, 1, none⟩)) rfl (by kernel_rfl) (fun _ _ _ h => h) (yields_in rfl (fun w' hw' => by go_simp)) HSd.out ?_
    simp only [Act.put, List.setIfInBounds_toArray, List.set_cons_zero, List.set_cons_succ]
    refine wpAnyL_take 3 (v := .agg #[.int .u32 b.parts, .slice b.R b.root.length b.rc]) rfl (by kernel_rfl) (fun _ _ _ h => h) (yields_in rfl (fun w' hw' => by have c1 : w'.cell? ⟨w.heap.size, 1, none⟩ = some (.int .u32 b.parts) := hw'.1.cell 1; have c2 : w'.cell? ⟨w.heap.size, 2, none⟩ = some (.slice b.R b.root.length b.rc) := hw'.1.cell 2; go_simp)) HSd.out ?_
    simp only [Act.put, List.setIfInBounds_toArray, List.set_cons_zero, List.set_cons_succ]
    refine wpAnyL_one 4 rfl (by kernel_rfl) rfl ?_
    go_simp
    refine (K3.out _).mono ?_
    rintro e w3 ⟨rfl, hb3⟩
    have HS3 := Lib.hid (HSd.out.call hb3); clear hb3
    refine ⟨HS3.out, ?_⟩
    refine wpAnyL_one 5 rfl (by kernel_rfl) rfl ?_
    go_simp
    refine ⟨HS3.out, ?_⟩
    refine wpAnyL_one 6 rfl (by kernel_rfl) rfl ?_
    go_simp
    refine ⟨HS3.out.alloc _, ?_⟩
    refine wpAnyL_one 7 rfl (by kernel_rfl) rfl ?_
    go_simp
    refine wpAnyL_done (by kernel_rfl) ?_ _
    go_wp2
    go_ret
    exact ⟨.inr ⟨HNO.out, _, rfl, Blk.new _ _ _⟩, (HS3.out.alloc _).2⟩

set_option maxRecDepth 100000 in
set_option maxHeartbeats 1600000 in
theorem sigid_any (flag : Int) (VA GA : Option Addr) (vn vc gn gc : Nat) (sec nan : Int) (b : Bk) (w : World) (hf : flag = 1 ∨ flag = 2 ∨ flag = 3) :
    Calls Try.prog 75 #[.agg #[.int .u8 flag, .slice VA vn vc, .int .i64 (sec + 62135596800), .int .i32 nan, .slice GA gn gc], .agg #[.slice b.S b.sum.length b.sc, .int .u32 b.parts, .slice b.R b.root.length b.rc]] w fun e w' => e = .returned (.agg (cbidCells (vbk flag b))) ∧ Below w.heap.size w w' := by
  have hb : Hid (Below w.heap.size w w) := Below.refl _ _
  rcases hf with rfl | rfl | rfl
  · go_enter Try.func75, Try.ntmps75
    go_wp2
    go_returns
    exact ⟨rfl, (((hb.out.alloc (Nat.le_refl _) _).alloc (by simp) _).alloc (by simp; omega) _).alloc (by simp; omega) _⟩
  · go_enter Try.func75, Try.ntmps75
    go_wp2
    go_returns
    exact ⟨rfl, (((hb.out.alloc (Nat.le_refl _) _).alloc (by simp) _).alloc (by simp; omega) _).alloc (by simp; omega) _⟩
  · go_enter Try.func75, Try.ntmps75
    go_wp2
    go_returns
    exact ⟨rfl, (((hb.out.alloc (Nat.le_refl _) _).alloc (by simp) _).alloc (by simp; omega) _).alloc (by simp; omega) _⟩

/-- the cells of a vote -/
def voteCells (hgt rnd : Int) (b : Bk) (sec nan : Int) (VA GA : Option Addr) (vn vc gn gc : Nat) (at_ : Int) : Array Value :=
  #[.int .i32 2, .int .i64 hgt, .int .i32 rnd, .slice b.S b.sum.length b.sc, .int .u32 b.parts, .slice b.R b.root.length b.rc, .int .i64 (sec + 62135596800), .int .i32 nan, .slice VA vn vc, .int .i32 at_, .slice GA gn gc, .slice none 0 0, .slice none 0 0]

set_option maxRecDepth 100000 in
set_option maxHeartbeats 3200000 in
theorem canvote_any (g : Nat) (hgt rnd : Int) (b : Bk) (sec nan : Int) (VA GA : Option Addr) (vn vc gn gc : Nat) (at_ : Int) (chain : ByteArray) (w : World) (hg : Blk w g 147 (voteCells hgt rnd b sec nan VA GA vn vc gn gc at_)) (hb : b.good) (hbok : b.ok w w.heap.size) (hrd : -2147483648 ≤ rnd ∧ rnd ≤ 2147483647) :
    Calls Try.prog 76 #[.string chain, ptrTo g] w fun e w' => ∃ q, e = .returned (.agg #[.int .i32 2, .int .i64 hgt, .int .i64 rnd, .pointer q, .int .i64 (sec + 62135596800), .int .i32 nan, .string chain]) ∧ CBid w' (.pointer q) (idB b) ∧ Below w.heap.size w w' := by
  have hw1 : IntKind.i64.wrap rnd = rnd := by rw [IntKind.wrap_i64]; omega
  have KC := Lib.hid (fun W => canid_any b W hb)
  have HBK := Lib.hid hbok; have HGOOD := Lib.hid hb
  clear hb hbok
  unfold voteCells at hg
  unfold ptrTo
  obtain ⟨Z, hZ⟩ : ∃ Z : Array Value, Z = #[.int .i32 0, .int .i64 0, .int .i64 0, .pointer none, .int .i64 0, .int .i32 0, .string ⟨#[]⟩] := ⟨_, rfl⟩
  have hS0 : (fun w' => Blk w' g 147 #[.int .i32 2, .int .i64 hgt, .int .i32 rnd, .slice b.S b.sum.length b.sc, .int .u32 b.parts, .slice b.R b.root.length b.rc, .int .i64 (sec + 62135596800), .int .i32 nan, .slice VA vn vc, .int .i32 at_, .slice GA gn gc, .slice none 0 0, .slice none 0 0] ∧ SB w.heap.size w 150 Z w') (w.alloc (.cells Z 150)).drew := ⟨(hg.alloc _).drew, (SB.start w _ Z).drew⟩
  rw [hZ] at hS0
  have HS := Lib.hid hS0; clear hS0 hg
  go_enter Try.func76, Try.ntmps76
  go_wp2_with fail
  subst hZ
  refine wp_region_L (fun w' => Blk w' g 147 #[.int .i32 2, .int .i64 hgt, .int .i32 rnd, .slice b.S b.sum.length b.sc, .int .u32 b.parts, .slice b.R b.root.length b.rc, .int .i64 (sec + 62135596800), .int .i32 nan, .slice VA vn vc, .int .i32 at_, .slice GA gn gc, .slice none 0 0, .slice none 0 0] ∧ SB w.heap.size w 150 #[.int .i32 0, .int .i64 0, .int .i64 0, .pointer none, .int .i64 0, .int .i32 0, .string ⟨#[]⟩] w') 24 (by kernel_rfl) ?_
  refine wpAnyL_take 0 (v := .pointer (some ⟨g, 0, none⟩)) rfl (by kernel_rfl) (fun _ _ _ h => h) (yields_in rfl (fun w' hw' => by go_simp)) HS.out ?_
  simp only [Act.put, List.setIfInBounds_toArray, List.set_cons_zero, List.set_cons_succ]
  refine wpAnyL_take 1 (v := .pointer (some ⟨g, 0, none⟩)) rfl (by kernel_rfl) (fun _ _ _ h => h) (yields_in rfl (fun w' hw' => by have c0 : w'.cell? ⟨g, 0, none⟩ = some (.int .i32 2) := hw'.1.cell 0; go_simp)) HS.out ?_
  simp only [Act.put, List.setIfInBounds_toArray, List.set_cons_zero, List.set_cons_succ]
  refine wpAnyL_take 2 (v := .pointer (some ⟨g, 0, none⟩)) rfl (by kernel_rfl) (fun _ _ _ h => h) (yields_in rfl (fun w' hw' => by go_simp)) HS.out ?_
  simp only [Act.put, List.setIfInBounds_toArray, List.set_cons_zero, List.set_cons_succ]
  refine wpAnyL_take 3 (v := .int .i32 2) rfl (by kernel_rfl) (fun _ _ _ h => h) (yields_in rfl (fun w' hw' => by have c0 : w'.cell? ⟨g, 0, none⟩ = some (.int .i32 2) := hw'.1.cell 0; go_simp)) HS.out ?_
  simp only [Act.put, List.setIfInBounds_toArray, List.set_cons_zero, List.set_cons_succ]
  refine wpAnyL_take 4 (v := .pointer (some ⟨g, 0, none⟩)) rfl (by kernel_rfl) (fun _ _ _ h => h) (yields_in rfl (fun w' hw' => by go_simp)) HS.out ?_
  simp only [Act.put, List.setIfInBounds_toArray, List.set_cons_zero, List.set_cons_succ]
  refine wpAnyL_take 5 (v := .pointer (some ⟨g, 0, none⟩)) rfl (by kernel_rfl) (fun _ _ _ h => h) (yields_in rfl (fun w' hw' => by have c0 : w'.cell? ⟨g, 0, none⟩ = some (.int .i32 2) := hw'.1.cell 0; go_simp)) HS.out ?_
  simp only [Act.put, List.setIfInBounds_toArray, List.set_cons_zero, List.set_cons_succ]
  refine wpAnyL_take 6 (v := .pointer (some ⟨g, 1, none⟩)) rfl (by kernel_rfl) (fun _ _ _ h => h) (yields_in rfl (fun w' hw' => by go_simp)) HS.out ?_
  simp only [Act.put, List.setIfInBounds_toArray, List.set_cons_zero, List.set_cons_succ]
  refine wpAnyL_take 7 (v := .int .i64 hgt) rfl (by kernel_rfl) (fun _ _ _ h => h) (yields_in rfl (fun w' hw' => by have c1 : w'.cell? ⟨g, 1, none⟩ = some (.int .i64 hgt) := hw'.1.cell 1; go_simp)) HS.out ?_
  simp only [Act.put, List.setIfInBounds_toArray, List.set_cons_zero, List.set_cons_succ]
  refine wpAnyL_take 8 (v := .pointer (some ⟨g, 0, none⟩)) rfl (by kernel_rfl) (fun _ _ _ h => h) (yields_in rfl (fun w' hw' => by go_simp)) HS.out ?_
  simp only [Act.put, List.setIfInBounds_toArray, List.set_cons_zero, List.set_cons_succ]
  refine wpAnyL_take 9 (v := .pointer (some ⟨g, 0, none⟩)) rfl (by kernel_rfl) (fun _ _ _ h => h) (yields_in rfl (fun w' hw' => by have c0 : w'.cell? ⟨g, 0, none⟩ = some (.int .i32 2) := hw'.1.cell 0; go_simp)) HS.out ?_
  simp only [Act.put, List.setIfInBounds_toArray, List.set_cons_zero, List.set_cons_succ]
  refine wpAnyL_take 10 (v := .pointer (some ⟨g, 2, none⟩)) rfl (by kernel_rfl) (fun _ _ _ h => h) (yields_in rfl (fun w' hw' => by go_simp)) HS.out ?_
  simp only [Act.put, List.setIfInBounds_toArray, List.set_cons_zero, List.set_cons_succ]
  refine wpAnyL_take 11 (v := .int .i32 rnd) rfl (by kernel_rfl) (fun _ _ _ h => h) (yields_in rfl (fun w' hw' => by have c2 : w'.cell? ⟨g, 2, none⟩ = some (.int .i32 rnd) := hw'.1.cell 2; go_simp)) HS.out ?_
  simp only [Act.put, List.setIfInBounds_toArray, List.set_cons_zero, List.set_cons_succ]
  refine wpAnyL_take 12 (v := .int .i64 rnd) rfl (by kernel_rfl) (fun _ _ _ h => h) (yields_in rfl (fun w' hw' => by go_simp)) HS.out ?_
  simp only [Act.put, List.setIfInBounds_toArray, List.set_cons_zero, List.set_cons_succ]
  refine wpAnyL_take 13 (v := .pointer (some ⟨g, 0, none⟩)) rfl (by kernel_rfl) (fun _ _ _ h => h) (yields_in rfl (fun w' hw' => by go_simp)) HS.out ?_
  simp only [Act.put, List.setIfInBounds_toArray, List.set_cons_zero, List.set_cons_succ]
  refine wpAnyL_take 14 (v := .pointer (some ⟨g, 0, none⟩)) rfl (by kernel_rfl) (fun _ _ _ h => h) (yields_in rfl (fun w' hw' => by have c0 : w'.cell? ⟨g, 0, none⟩ = some (.int .i32 2) := hw'.1.cell 0; go_simp)) HS.out ?_
  simp only [Act.put, List.setIfInBounds_toArray, List.set_cons_zero, List.set_cons_succ]
  refine wpAnyL_take 15 (v := .pointer (some ⟨g, 3, none⟩)) rfl (by kernel_rfl) (fun _ _ _ h => h) (yields_in rfl (fun w' hw' => by go_simp)) HS.out ?_
  simp only [Act.put, List.setIfInBounds_toArray, List.set_cons_zero, List.set_cons_succ]
  refine wpAnyL_take 16 (v := .agg #[.slice b.S b.sum.length b.sc, .int .u32 b.parts, .slice b.R b.root.length b.rc]) rfl (by kernel_rfl) (fun _ _ _ h => h) (yields_in rfl (fun w' hw' => by have c3 : w'.cell? ⟨g, 3, none⟩ = some (.slice b.S b.sum.length b.sc) := hw'.1.cell 3; have c4 : w'.cell? ⟨g, 4, none⟩ = some (.int .u32 b.parts) := hw'.1.cell 4; have c5 : w'.cell? ⟨g, 5, none⟩ = some (.slice b.R b.root.length b.rc) := hw'.1.cell 5; go_simp)) HS.out ?_
  simp only [Act.put, List.setIfInBounds_toArray, List.set_cons_zero, List.set_cons_succ]
  refine wpAnyL_take 18 (v := .pointer (some ⟨g, 0, none⟩)) rfl (by kernel_rfl) (fun _ _ _ h => h) (yields_in rfl (fun w' hw' => by go_simp)) HS.out ?_
  simp only [Act.put, List.setIfInBounds_toArray, List.set_cons_zero, List.set_cons_succ]
  refine wpAnyL_take 19 (v := .pointer (some ⟨g, 0, none⟩)) rfl (by kernel_rfl) (fun _ _ _ h => h) (yields_in rfl (fun w' hw' => by have c0 : w'.cell? ⟨g, 0, none⟩ = some (.int .i32 2) := hw'.1.cell 0; go_simp)) HS.out ?_
  simp only [Act.put, List.setIfInBounds_toArray, List.set_cons_zero, List.set_cons_succ]
  refine wpAnyL_take 20 (v := .pointer (some ⟨g, 6, none⟩)) rfl (by kernel_rfl) (fun _ _ _ h => h) (yields_in rfl (fun w' hw' => by go_simp)) HS.out ?_
  simp only [Act.put, List.setIfInBounds_toArray, List.set_cons_zero, List.set_cons_succ]
  refine wpAnyL_take 21 (v := .agg #[.int .i64 (sec + 62135596800), .int .i32 nan]) rfl (by kernel_rfl) (fun _ _ _ h => h) (yields_in rfl (fun w' hw' => by have c6 : w'.cell? ⟨g, 6, none⟩ = some (.int .i64 (sec + 62135596800)) := hw'.1.cell 6; have c7 : w'.cell? ⟨g, 7, none⟩ = some (.int .i32 nan) := hw'.1.cell 7; go_simp)) HS.out ?_
  simp only [Act.put, List.setIfInBounds_toArray, List.set_cons_zero, List.set_cons_succ]
  refine wpAnyL_take 22 (v := .string chain) rfl (by kernel_rfl) (fun _ _ _ h => h) (yields_in rfl (fun w' hw' => by go_simp)) HS.out ?_
  simp only [Act.put, List.setIfInBounds_toArray, List.set_cons_zero, List.set_cons_succ]
  refine wpAnyL_one 17 rfl (by kernel_rfl) rfl ?_
  go_simp
  refine (KC.out _).mono ?_
  rintro e w1 ⟨hP, hb1⟩
  have HS1 := Lib.hid (show (fun w' => Blk w' g 147 #[.int .i32 2, .int .i64 hgt, .int .i32 rnd, .slice b.S b.sum.length b.sc, .int .u32 b.parts, .slice b.R b.root.length b.rc, .int .i64 (sec + 62135596800), .int .i32 nan, .slice VA vn vc, .int .i32 at_, .slice GA gn gc, .slice none 0 0, .slice none 0 0] ∧ SB w.heap.size w 150 #[.int .i32 0, .int .i64 0, .int .i64 0, .pointer none, .int .i64 0, .int .i32 0, .string ⟨#[]⟩] w') w1 from ⟨HS.out.1.belowS hb1, HS.out.2.call hb1⟩)
  have hcb : ∃ q, e = .returned (.pointer q) ∧ ((b.sum.length = 0 ∧ b.parts = 0 ∧ b.root.length = 0) ∧ q = none ∨ ¬ (b.sum.length = 0 ∧ b.parts = 0 ∧ b.root.length = 0) ∧ ∃ g2, q = some ⟨g2, 0, none⟩ ∧ Blk w1 g2 177 (cbidCells b)) := by
    rcases hP with ⟨hno, rfl⟩ | ⟨hno, g2, rfl, hblk⟩
    · exact ⟨_, rfl, .inl ⟨hno, rfl⟩⟩
    · exact ⟨_, rfl, .inr ⟨hno, g2, rfl, hblk⟩⟩
  obtain ⟨q, rfl, hcb⟩ := hcb
  have HCB := Lib.hid hcb; clear hcb hP hb1
  have z0 : w1.cell? ⟨w.heap.size, 0, none⟩ = some (.int .i32 0) := HS1.out.2.1.cell 0
  have z1 : w1.cell? ⟨w.heap.size, 1, none⟩ = some (.int .i64 0) := HS1.out.2.1.cell 1
  have z2 : w1.cell? ⟨w.heap.size, 2, none⟩ = some (.int .i64 0) := HS1.out.2.1.cell 2
  have z3 : w1.cell? ⟨w.heap.size, 3, none⟩ = some (.pointer none) := HS1.out.2.1.cell 3
  have z4 : w1.cell? ⟨w.heap.size, 4, none⟩ = some (.int .i64 0) := HS1.out.2.1.cell 4
  have z5 : w1.cell? ⟨w.heap.size, 5, none⟩ = some (.int .i32 0) := HS1.out.2.1.cell 5
  have z6 : w1.cell? ⟨w.heap.size, 6, none⟩ = some (.string ⟨#[]⟩) := HS1.out.2.1.cell 6
  have zf : ∀ i, w1.frozen? ⟨w.heap.size, i, none⟩ = false := fun i => HS1.out.2.1.free i
  refine ⟨HS1.out, ?_⟩
  refine wpAnyL_one 23 rfl (by kernel_rfl) rfl ?_
  go_simp
  refine ⟨HS1.out, ?_⟩
  refine wpAnyL_one 24 rfl (by kernel_rfl) rfl ?_
  go_simp
  refine wpAnyL_done (by kernel_rfl) ?_ _
  go_wp2
  (try simp only [Exit.inBlock, Exit.then])
  refine bodyPost_ret (results_cell_row rfl _ _ w.heap.size 150 #[.int .i32 2, .int .i64 hgt, .int .i64 rnd, .pointer q, .int .i64 (sec + 62135596800), .int .i32 nan, .string chain] (0, 0) _ rfl ?hb Try.underlying150 rfl (by kernel_rfl)) rfl ?_
  case hb => exact Blk.fill7 HS1.out.2.1
  have hbl : ∀ W, Below w.heap.size w W → b.ok W W.heap.size := fun W hW => HBK.out.below hW
  refine ⟨q, rfl, ?_, ?_⟩
  · rcases HCB.out with ⟨hno, rfl⟩ | ⟨hno, g2, rfl, hblk⟩
    · exact .inl ⟨rfl, by unfold idB; rw [if_pos hno]⟩
    · rcases HGOOD.out with hg' | hg'
      · exact absurd hg' hno
      · have hne : g2 ≠ w.heap.size := hblk.ne HS1.out.2.1 (by decide)
        refine .inr ⟨g2, b, rfl, ?_, hbl _ ?_, hg'.2.2, by omega, by omega, by unfold idB; rw [if_neg hno]⟩
        · exact Blk.far7 hblk hne
        · exact Below.fill7 HS1.out.2.2 (Nat.le_refl _)
  · exact Below.fill7 HS1.out.2.2 (Nat.le_refl _)
end Go.Proofs.Ytikikddkhikfkaa
