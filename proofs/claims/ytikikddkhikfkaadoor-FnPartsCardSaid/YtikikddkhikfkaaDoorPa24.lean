/-
  From a commit to the bytes that are signed: GetVote, CanonicalizeVote and what they call: walks. By the session. From a commit to the bytes that are signed: VoteSignBytes, GetVote: walks. By the session. impl.block, impl.moment, impl.commit, impl.Message: walks. By the session. impl.Message, and the laws' tests of sizes for a commit: walks. By the session.
-/
import Derived.Test.YtikikddkhikfkaaDoorPa23
import Derived.Handy
set_option linter.all false
namespace Go.Proofs.YtikikddkhikfkaaDoor
open Go.RowKit

theorem Blk.fill7 {w : World} {g : Nat} {t : TypeId} {a0 a1 a2 a3 a4 a5 a6 b0 b1 b2 b3 b4 b5 b6 : Value} (h : Blk w g t #[a0, a1, a2, a3, a4, a5, a6]) :
    Blk (((((((w.setCell ⟨g, 0, none⟩ b0).setCell ⟨g, 1, none⟩ b1).setCell ⟨g, 2, none⟩ b2).setCell ⟨g, 3, none⟩ b3).setCell ⟨g, 4, none⟩ b4).setCell ⟨g, 5, none⟩ b5).setCell ⟨g, 6, none⟩ b6) g t #[b0, b1, b2, b3, b4, b5, b6] := by
  have := ((((((h.put 0 b0).put 1 b1).put 2 b2).put 3 b3).put 4 b4).put 5 b5).put 6 b6
  simpa using this
theorem Below.fill7 {w w1 : World} {B g : Nat} {b0 b1 b2 b3 b4 b5 b6 : Value} (h : Below B w w1) (hg : B ≤ g) : Below B w (((((((w1.setCell ⟨g, 0, none⟩ b0).setCell ⟨g, 1, none⟩ b1).setCell ⟨g, 2, none⟩ b2).setCell ⟨g, 3, none⟩ b3).setCell ⟨g, 4, none⟩ b4).setCell ⟨g, 5, none⟩ b5).setCell ⟨g, 6, none⟩ b6) :=
  ((((((h.setCell (p := ⟨g, 0, none⟩) hg b0).setCell (p := ⟨g, 1, none⟩) hg b1).setCell (p := ⟨g, 2, none⟩) hg b2).setCell (p := ⟨g, 3, none⟩) hg b3).setCell (p := ⟨g, 4, none⟩) hg b4).setCell (p := ⟨g, 5, none⟩) hg b5).setCell (p := ⟨g, 6, none⟩) hg b6
theorem Blk.far7 {w1 : World} {k g : Nat} {t : TypeId} {cs : Array Value} {b0 b1 b2 b3 b4 b5 b6 : Value} (h : Blk w1 k t cs) (hg : k ≠ g) : Blk (((((((w1.setCell ⟨g, 0, none⟩ b0).setCell ⟨g, 1, none⟩ b1).setCell ⟨g, 2, none⟩ b2).setCell ⟨g, 3, none⟩ b3).setCell ⟨g, 4, none⟩ b4).setCell ⟨g, 5, none⟩ b5).setCell ⟨g, 6, none⟩ b6) k t cs :=
  ((((((h.far (p := ⟨g, 0, none⟩) hg b0).far (p := ⟨g, 1, none⟩) hg b1).far (p := ⟨g, 2, none⟩) hg b2).far (p := ⟨g, 3, none⟩) hg b3).far (p := ⟨g, 4, none⟩) hg b4).far (p := ⟨g, 5, none⟩) hg b5).far (p := ⟨g, 6, none⟩) hg b6
/-- no block -/
def noBk : Bk := ⟨none, 0, [], 0, none, 0, []⟩
def Bk.none (b : Bk) : Prop := b.sum.length = 0 ∧ b.parts = 0 ∧ b.root.length = 0
/-- a block's name that is whole, or none -/
def Bk.good (b : Bk) : Prop := (b.sum.length = 0 ∧ b.parts = 0 ∧ b.root.length = 0) ∨ (b.sum.length = 32 ∧ b.root.length = 32 ∧ 0 ≤ b.parts ∧ b.parts ≤ 4294967295)
def idB (b : Bk) : List UInt8 := if b.sum.length = 0 ∧ b.parts = 0 ∧ b.root.length = 0 then [] else msgB 4 (blockB b.sum b.parts b.root)
def vbk (flag : Int) (b : Bk) : Bk := if flag = 2 then b else noBk
theorem idB_vbk (flag : Int) (b : Bk) : idB (vbk flag b) = idOf flag b := by
  unfold idB vbk idOf
  by_cases h : flag = 2
  · rw [if_pos h]
    by_cases h2 : b.sum.length = 0 ∧ b.parts = 0 ∧ b.root.length = 0
    · rw [if_pos h2, if_neg (fun k => k.2 h2)]
    · rw [if_neg h2, if_pos ⟨h, h2⟩]
  · rw [if_neg h, if_neg (fun k : flag = 2 ∧ _ => h k.1)]; rfl

/-- the cells of a vote -/
def voteCells (hgt rnd : Int) (b : Bk) (sec nan : Int) (VA GA : Option Addr) (vn vc gn gc : Nat) (at_ : Int) : Array Value :=
  #[.int .i32 2, .int .i64 hgt, .int .i32 rnd, .slice b.S b.sum.length b.sc, .int .u32 b.parts, .slice b.R b.root.length b.rc, .int .i64 (sec + 62135596800), .int .i32 nan, .slice VA vn vc, .int .i32 at_, .slice GA gn gc, .slice none 0 0, .slice none 0 0]

end Go.Proofs.YtikikddkhikfkaaDoor

set_option linter.all false
namespace Go.Proofs.YtikikddkhikfkaaDoor
open Go.RowKit

/-- a validator's signature as the package has it -/
structure Cs where
  flag : Int
  VA : Option Addr
  vn : Nat
  vc : Nat
  sec : Int
  nan : Int
  GA : Option Addr
  gn : Nat
  gc : Nat
def Cs.cells (s : Cs) : List Value := [.int .u8 s.flag, .slice s.VA s.vn s.vc, .int .i64 (s.sec + 62135596800), .int .i32 s.nan, .slice s.GA s.gn s.gc]
theorem Cs.cells_length (s : Cs) : s.cells.length = 5 := rfl
def comCells (hgt rnd : Int) (b : Bk) (A : Option Addr) (n c : Nat) : Array Value := #[.int .i64 hgt, .int .i32 rnd, .slice b.S b.sum.length b.sc, .int .u32 b.parts, .slice b.R b.root.length b.rc, .slice A n c, .slice none 0 0]

end Go.Proofs.YtikikddkhikfkaaDoor

set_option linter.all false
namespace Go.Proofs.YtikikddkhikfkaaDoor
open Go.RowKit

section
variable {P : Program} {ops : Array Oper} {Q : Exit → Act → World → Prop} {S : World → Prop} {md : Region.Mode} {s : Nat}
/-- the two that may come up -/
theorem wpAnyL_two (i j : Nat) {oi oj : Oper} {fuel : Nat} {listed : Array Bool} {a : Act} {w : World} (hi : ops[i]? = some oi) (hj : ops[j]? = some oj) (hr : Region.ready md ops listed = [i, j]) (hgi : oi.guard = none) (hgj : oj.guard = none)
    (h1 : oi.wp P a w (fun a' w' => (i ≠ s → S w') ∧ wpAnyL P md ops Q S s fuel (listed.setIfInBounds i true) a' w') Q)
    (h2 : oj.wp P a w (fun a' w' => (j ≠ s → S w') ∧ wpAnyL P md ops Q S s fuel (listed.setIfInBounds j true) a' w') Q) : wpAnyL P md ops Q S s (fuel + 1) listed a w := by
  refine ⟨fun h0 => by rw [hr] at h0; simp at h0, fun k hk => ?_⟩
  rw [hr, List.mem_cons, List.mem_singleton] at hk
  rcases hk with rfl | rfl
  · unfold wpOp
    simp only [hi]
    have hw : Region.wanted oi (yielded ops a.tmps) = true := by simp [Region.wanted, hgi]
    rw [if_pos hw]; exact .inl h1
  · unfold wpOp
    simp only [hj]
    have hw : Region.wanted oj (yielded ops a.tmps) = true := by simp [Region.wanted, hgj]
    rw [if_pos hw]; exact .inl h2
end

set_option maxHeartbeats 800000 in
theorem utime_any (sec nan : Int) (w : World) (hs : -4611686018427387904 ≤ sec ∧ sec ≤ 4611686018427387904) :
    Calls Tryd.prog 68 #[.int .i64 sec, .int .i32 nan] w fun e w' => e = .returned (.agg #[.int .i64 (sec + 62135596800), .int .i32 nan]) ∧ Below w.heap.size w w' := by
  go_enter Tryd.func68, Tryd.ntmps68
  go_wp2
  go_returns
  exact ⟨rfl, (Below.refl _ _).alloc (Nat.le_refl _) _⟩
set_option maxHeartbeats 800000 in
theorem moment_any (sec nan : Int) (w : World) (hs : -4611686018427387904 ≤ sec ∧ sec ≤ 4611686018427387904) (hn : -2147483648 ≤ nan ∧ nan ≤ 2147483647) :
    Calls Tryd.prog 33 #[.agg #[.int .i64 sec, .int .i64 nan]] w fun e w' => e = .returned (.agg #[.int .i64 (sec + 62135596800), .int .i32 nan]) ∧ Below w.heap.size w w' := by
  have hw : IntKind.i32.wrap nan = nan := by rw [IntKind.wrap_i32]; omega
  have K := Lib.hid (fun W => utime_any sec nan W hs)
  have hz : Below w.heap.size w ((w.alloc (.cells #[.int .i64 sec, .int .i64 nan] 29)).alloc (.cells #[.int .i64 0, .int .i32 0] 88)) := ((Below.refl _ _).alloc (Nat.le_refl _) _).alloc (by simp) _
  have HZ := Lib.hid hz; clear hz
  go_enter Tryd.func33, Tryd.ntmps33
  go_wp2_with fail
  refine (K.out _).mono ?_
  rintro e w1 ⟨rfl, hb1⟩
  have hb := Blk.new (w.alloc (.cells #[.int .i64 sec, .int .i64 nan] 29)) 88 #[.int .i64 0, .int .i32 0]
  have hs1 : w1.cell? ⟨w.heap.size + 1, 0, none⟩ = some (.int .i64 0) := by simpa using (hb.belowS hb1).cell 0
  have hs2 : w1.cell? ⟨w.heap.size + 1, 1, none⟩ = some (.int .i32 0) := by simpa using (hb.belowS hb1).cell 1
  have hf1 : ∀ i, w1.frozen? ⟨w.heap.size + 1, i, none⟩ = false := fun i => by simpa using (hb.belowS hb1).free i
  have hblk : Blk w1 (w.heap.size + 1) 88 #[.int .i64 0, .int .i32 0] := by simpa using hb.belowS hb1
  have HBLK := Lib.hid hblk
  have HB1 := Lib.hid (HZ.out.trans (hb1.mono (by simp; omega)))
  clear hb1 hb hblk
  go_wp2
  (try simp only [Exit.inBlock, Exit.then])
  refine bodyPost_ret (results_cell_row rfl _ _ (w.heap.size + 1) 88 #[.int .i64 (sec + 62135596800), .int .i32 nan] (0, 0) _ rfl ?hb Tryd.underlying88 rfl (by kernel_rfl)) rfl ?_
  case hb =>
    have := (HBLK.out.put 0 (.int .i64 (sec + 62135596800))).put 1 (.int .i32 nan)
    simpa [Blk] using this
  exact ⟨rfl, (HB1.out.setCell (p := ⟨w.heap.size + 1, 0, none⟩) (Nat.le_succ _) _).setCell (p := ⟨w.heap.size + 1, 1, none⟩) (Nat.le_succ _) _⟩
set_option maxHeartbeats 800000 in
theorem iblock_any (b : Bk) (w : World) (hp : 0 ≤ b.parts ∧ b.parts ≤ 4294967295) :
    Calls Tryd.prog 34 #[.agg #[.slice b.S b.sum.length b.sc, .int .i64 b.parts, .slice b.R b.root.length b.rc]] w fun e w' => e = .returned (.agg (cbidCells b)) ∧ Below w.heap.size w w' := by
  have hw : IntKind.u32.wrap b.parts = b.parts := by rw [IntKind.wrap_u32]; omega
  go_enter Tryd.func34, Tryd.ntmps34
  go_wp2
  go_returns
  exact ⟨rfl, ((Below.refl _ _).alloc (Nat.le_refl _) _).alloc (by simp) _⟩

theorem infoCs : (Tryd.prog.info? 138).map (fun i => (i.zero, i.size, i.bytes)) = some (some (.agg #[.int .u8 0, .slice none 0 0, .int .i64 0, .int .i32 0, .slice none 0 0]), 5, 72) := by kernel_rfl
theorem Cs.cells_one (s : Cs) : ∀ u ∈ s.cells, u.oneCell' = true := by
  intro u hu
  simp only [Cs.cells, List.mem_cons, List.not_mem_nil, or_false] at hu
  rcases hu with rfl | rfl | rfl | rfl | rfl <;> rfl
/-- a validator's signature as it was and as the package has it -/
structure CsOf (w : World) (s : Sg) (s' : Cs) : Prop where
  flag : s'.flag = s.flag
  sec : s'.sec = s.sec
  nan : s'.nan = s.nan
  GA : s'.GA = s.S
  gn : s'.gn = s.sig.length
  gc : s'.gc = s.sc
  vn : s'.vn = s.adr.size
  byt : Byt w s'.VA s.adr
def CsRel (w : World) (l : List Sg) (l' : List Cs) : Prop := l'.length = l.length ∧ ∀ (k : Nat) (s : Sg), l[k]? = some s → ∃ s', l'[k]? = some s' ∧ CsOf w s s'
theorem CsRel.keep {w w' : World} {l : List Sg} {l' : List Cs} (h : CsRel w l l') (k : KeepB w w') : CsRel w' l l' := ⟨h.1, fun i s hs => by
  obtain ⟨s', h1, h2⟩ := h.2 i s hs
  exact ⟨s', h1, ⟨h2.flag, h2.sec, h2.nan, h2.GA, h2.gn, h2.gc, h2.vn, h2.byt.keep k⟩⟩⟩
theorem CsRel.snoc {w : World} {l : List Sg} {l' : List Cs} {s : Sg} {s' : Cs} (h : CsRel w l l') (hs : CsOf w s s') : CsRel w (l ++ [s]) (l' ++ [s']) := by
  refine ⟨by simp [h.1], fun i t ht => ?_⟩
  by_cases hi : i < l.length
  · rw [List.getElem?_append_left hi] at ht
    obtain ⟨t', h1, h2⟩ := h.2 i t ht
    exact ⟨t', by rw [List.getElem?_append_left (by rw [h.1]; exact hi)]; exact h1, h2⟩
  · have hlt := (List.getElem?_eq_some_iff.1 ht).1
    have hi' : i = l.length := by simp at hlt; omega
    subst hi'
    rw [List.getElem?_append_right (Nat.le_refl _)] at ht
    simp at ht
    subst ht
    exact ⟨s', by rw [List.getElem?_append_right (by rw [h.1]; exact Nat.le_refl _), h.1]; simp, hs⟩
theorem _root_.Go.World.grownBy.blk {w w' : World} {g : Nat} {t : TypeId} {cs : Array Value} {row : Option Nat} (hg : w.grownBy w' row) (h : Blk w g t cs) (hne : some g ≠ row) : Blk w' g t cs := h.grown hg hne
theorem Blk.set5 {w : World} {g : Nat} {t : TypeId} {a0 a1 a2 a3 a4 a5 a6 b5 : Value} (h : Blk w g t #[a0, a1, a2, a3, a4, a5, a6]) : Blk (w.setCell ⟨g, 5, none⟩ b5) g t #[a0, a1, a2, a3, a4, b5, a6] := by
  have := h.put 5 b5
  simpa using this

set_option maxRecDepth 100000 in
set_option maxHeartbeats 6400000 in
theorem icommit_new (hgt rnd : Int) (b : Bk) (A : Option Addr) (n c : Nat) (l : List Sg) (w : World) (hr : Rd w w.heap.size 5 A n (signsOf l)) (hn : n ≤ 1000) (hp : 0 ≤ b.parts ∧ b.parts ≤ 4294967295) (hrd : -2147483648 ≤ rnd ∧ rnd ≤ 2147483647)
    (hl : ∀ s ∈ l, (s.flag = 1 ∨ s.flag = 2 ∨ s.flag = 3) ∧ (-4611686018427387904 ≤ s.sec ∧ s.sec ≤ 4611686018427387904) ∧ (0 ≤ s.nan ∧ s.nan ≤ 2147483647)) :
    Calls Tryd.prog 30 #[.agg #[.int .i64 hgt, .int .i64 rnd, .slice b.S b.sum.length b.sc, .int .i64 b.parts, .slice b.R b.root.length b.rc, .slice A n c]] w fun e w' => ∃ g A' c' l', e = .returned (ptrTo g) ∧ Blk w' g 135 (comCells hgt rnd b A' n c') ∧ Rd w' w'.heap.size 5 A' n (l'.flatMap Cs.cells) ∧ CsRel w' l l' ∧ Below w.heap.size w w' ∧ w.heap.size ≤ g := by
  obtain ⟨i0, hi0, hz0, hz1, hz2⟩ := info_parts infoCs
  have HI := Lib.hid hi0; have HZ0 := Lib.hid hz0; have HZ1 := Lib.hid hz1; have HZ2 := Lib.hid hz2
  clear hi0 hz0 hz1 hz2
  have hw1 : IntKind.i32.wrap rnd = rnd := by rw [IntKind.wrap_i32]; omega
  have KB := Lib.hid (fun W => iblock_any b W hp)
  have HLN := Lib.hid hr.slen; have HR := Lib.hid hr; have HL := Lib.hid hl
  have HS := Lib.hid (SB.start w 27 #[.int .i64 hgt, .int .i64 rnd, .slice b.S b.sum.length b.sc, .int .i64 b.parts, .slice b.R b.root.length b.rc, .slice A n c]).drew
  clear hr hl
  unfold ptrTo comCells
  go_enter Tryd.func30, Tryd.ntmps30
  go_wp2_with fail
  refine wp_region_L (SB w.heap.size w 27 #[.int .i64 hgt, .int .i64 rnd, .slice b.S b.sum.length b.sc, .int .i64 b.parts, .slice b.R b.root.length b.rc, .slice A n c]) 10 (by kernel_rfl) ?_
  refine wpAnyL_take 0 (v := .pointer (some ⟨w.heap.size, 0, none⟩)) rfl (by kernel_rfl) (fun _ _ _ h => h) (yields_in rfl (fun w' hw' => by go_simp)) HS.out ?_
  simp only [Act.put, List.setIfInBounds_toArray, List.set_cons_zero, List.set_cons_succ]
  refine wpAnyL_take 1 (v := .int .i64 hgt) rfl (by kernel_rfl) (fun _ _ _ h => h) (yields_in rfl (fun w' hw' => by have c0 : w'.cell? ⟨w.heap.size, 0, none⟩ = some (.int .i64 hgt) := hw'.1.cell 0; go_simp)) HS.out ?_
  simp only [Act.put, List.setIfInBounds_toArray, List.set_cons_zero, List.set_cons_succ]
  refine wpAnyL_take 2 (v := .pointer (some ⟨w.heap.size, 1, none⟩)) rfl (by kernel_rfl) (fun _ _ _ h => h) (yields_in rfl (fun w' hw' => by go_simp)) HS.out ?_
  simp only [Act.put, List.setIfInBounds_toArray, List.set_cons_zero, List.set_cons_succ]
  refine wpAnyL_take 3 (v := .int .i64 rnd) rfl (by kernel_rfl) (fun _ _ _ h => h) (yields_in rfl (fun w' hw' => by have c1 : w'.cell? ⟨w.heap.size, 1, none⟩ = some (.int .i64 rnd) := hw'.1.cell 1; go_simp)) HS.out ?_
  simp only [Act.put, List.setIfInBounds_toArray, List.set_cons_zero, List.set_cons_succ]
  refine wpAnyL_take 4 (v := .int .i32 rnd) rfl (by kernel_rfl) (fun _ _ _ h => h) (yields_in rfl (fun w' hw' => by go_simp)) HS.out ?_
  simp only [Act.put, List.setIfInBounds_toArray, List.set_cons_zero, List.set_cons_succ]
  refine wpAnyL_take 5 (v := .pointer (some ⟨w.heap.size, 2, none⟩)) rfl (by kernel_rfl) (fun _ _ _ h => h) (yields_in rfl (fun w' hw' => by go_simp)) HS.out ?_
  simp only [Act.put, List.setIfInBounds_toArray, List.set_cons_zero, List.set_cons_succ]
  refine wpAnyL_take 6 (v := .agg #[.slice b.S b.sum.length b.sc, .int .i64 b.parts, .slice b.R b.root.length b.rc]) rfl (by kernel_rfl) (fun _ _ _ h => h) (yields_in rfl (fun w' hw' => by have c2 : w'.cell? ⟨w.heap.size, 2, none⟩ = some (.slice b.S b.sum.length b.sc) := hw'.1.cell 2; have c3 : w'.cell? ⟨w.heap.size, 3, none⟩ = some (.int .i64 b.parts) := hw'.1.cell 3; have c4 : w'.cell? ⟨w.heap.size, 4, none⟩ = some (.slice b.R b.root.length b.rc) := hw'.1.cell 4; go_simp)) HS.out ?_
  simp only [Act.put, List.setIfInBounds_toArray, List.set_cons_zero, List.set_cons_succ]
  refine wpAnyL_one 7 rfl (by kernel_rfl) rfl ?_
  go_simp
  refine (KB.out _).mono ?_
  rintro e w1 ⟨rfl, hb1⟩
  have HS1 := Lib.hid (HS.out.call hb1)
  clear hb1
  unfold cbidCells
  refine ⟨HS1.out, ?_⟩
  refine wpAnyL_one 8 rfl (by kernel_rfl) rfl ?_
  go_simp
  refine ⟨HS1.out, ?_⟩
  refine wpAnyL_one 9 rfl (by kernel_rfl) rfl ?_
  go_simp
  have HS2 := Lib.hid (HS1.out.alloc (.cells #[.int .i64 hgt, .int .i32 rnd, .slice b.S b.sum.length b.sc, .int .u32 b.parts, .slice b.R b.root.length b.rc, .slice none 0 0, .slice none 0 0] 135))
  refine ⟨HS2.out, ?_⟩
  refine wpAnyL_one 10 rfl (by kernel_rfl) rfl ?_
  go_simp
  refine wpAnyL_done (by kernel_rfl) ?_ _
  have hgb : Blk (w1.alloc (.cells #[.int .i64 hgt, .int .i32 rnd, .slice b.S b.sum.length b.sc, .int .u32 b.parts, .slice b.R b.root.length b.rc, .slice none 0 0, .slice none 0 0] 135)) w1.heap.size 135 #[.int .i64 hgt, .int .i32 rnd, .slice b.S b.sum.length b.sc, .int .u32 b.parts, .slice b.R b.root.length b.rc, .slice none 0 0, .slice none 0 0] := Blk.new _ _ _
  have hgw : w.heap.size ≤ w1.heap.size := HS1.out.2.size
  have hlt2 : w1.heap.size < (w1.alloc (.cells #[.int .i64 hgt, .int .i32 rnd, .slice b.S b.sum.length b.sc, .int .u32 b.parts, .slice b.R b.root.length b.rc, .slice none 0 0, .slice none 0 0] 135)).heap.size := by simp
  have q5 : (w1.alloc (.cells #[.int .i64 hgt, .int .i32 rnd, .slice b.S b.sum.length b.sc, .int .u32 b.parts, .slice b.R b.root.length b.rc, .slice none 0 0, .slice none 0 0] 135)).cell? ⟨w.heap.size, 5, none⟩ = some (.slice A n c) := HS2.out.1.cell 5
  generalize (w1.alloc (.cells #[.int .i64 hgt, .int .i32 rnd, .slice b.S b.sum.length b.sc, .int .u32 b.parts, .slice b.R b.root.length b.rc, .slice none 0 0, .slice none 0 0] 135)) = w2 at *
  have hne : w1.heap.size ≠ w.heap.size := by have := HS1.out.grown; omega
  generalize w1.heap.size = g at *
  have HGB := Lib.hid hgb; clear hgb
  go_wp2
  go_loopw [19] (fun i wr => ∃ (k : Nat) (A1 : Option Addr) (c1 : Nat) (l' : List Cs), k ≤ n ∧ i = .int .i64 k ∧ Hid (Blk wr g 135 #[.int .i64 hgt, .int .i32 rnd, .slice b.S b.sum.length b.sc, .int .u32 b.parts, .slice b.R b.root.length b.rc, .slice A1 k c1, .slice none 0 0]) ∧ Hid (wr.ownsRow w.heap.size 138 5 (.slice A1 k c1) k (l'.flatMap Cs.cells)) ∧ Hid (CsRel wr (l.take k) l') ∧ Hid (Below w.heap.size w wr)) (fun i _ => n - (intOf i).toNat)
  case atStart => exact ⟨0, none, 0, [], Nat.zero_le _, rfl, HGB.out, World.ownsRow_nil w2 w.heap.size _ _, ⟨rfl, fun k s h => by simp at h⟩, HS2.out.2⟩
  case round =>
    obtain ⟨k, A1, c1, l', hk, rfl, HG, HO, HREL0, HB⟩ := hrel
    have hz := HB.out.size
    by_cases hlt : k < n
    · have hk' : k < l.length := by have := HLN.out; omega
      have hx : l[k]? = some l[k] := List.getElem?_eq_getElem hk'
      obtain ⟨ad, rfl, _, c0, c1', c2, c3, c4⟩ := (HR.out.below HB.out).sign hx
      have hst : l.take (k + 1) = l.take k ++ [l[k]] := List.take_succ_eq_append_getElem hk'
      have hls := HL.out _ (List.getElem_mem hk')
      generalize l[k] = s at *
      have HST := Lib.hid hst
      obtain ⟨f, kc⟩ := run_conv (P := Tryd.prog) 9 22 Tryd.underlying9 Tryd.underlying22 Tryd.underlying5 s.adr
      have hwf : IntKind.u8.wrap s.flag = s.flag := by rw [IntKind.wrap_u8]; omega
      have KM := Lib.hid (fun W => moment_any s.sec s.nan W hls.2.1 (by omega))
      have hS0 : (fun w' => Blk w' g 135 #[.int .i64 hgt, .int .i32 rnd, .slice b.S b.sum.length b.sc, .int .u32 b.parts, .slice b.R b.root.length b.rc, .slice A1 k c1, .slice none 0 0] ∧ Blk w' wr.heap.size 76 #[.int .i64 s.flag, .string s.adr, .int .i64 s.sec, .int .i64 s.nan, .slice s.S s.sig.length s.sc]) (wr.alloc (.cells #[.int .i64 s.flag, .string s.adr, .int .i64 s.sec, .int .i64 s.nan, .slice s.S s.sig.length s.sc] 76)).drew := ⟨(HG.out.alloc _).drew, (Blk.new _ _ _).drew⟩
      have HS3 := Lib.hid hS0
      have hb0 : Below wr.heap.size wr (wr.alloc (.cells #[.int .i64 s.flag, .string s.adr, .int .i64 s.sec, .int .i64 s.nan, .slice s.S s.sig.length s.sc] 76)).drew := ((Below.refl _ _).alloc (Nat.le_refl _) _).drew
      have HB0 := Lib.hid hb0
      clear hst hx hS0 hls hb0
      go_wp2_with fail
      refine wp_region_L (fun w' => Blk w' g 135 #[.int .i64 hgt, .int .i32 rnd, .slice b.S b.sum.length b.sc, .int .u32 b.parts, .slice b.R b.root.length b.rc, .slice A1 k c1, .slice none 0 0] ∧ Blk w' wr.heap.size 76 #[.int .i64 s.flag, .string s.adr, .int .i64 s.sec, .int .i64 s.nan, .slice s.S s.sig.length s.sc]) 21 (by kernel_rfl) ?_
      refine wpAnyL_take 0 (v := .pointer (some ⟨g, 0, none⟩)) rfl (by kernel_rfl) (fun _ _ _ h => h) (yields_in rfl (fun w' hw' => by go_simp)) HS3.out ?_
      simp only [Act.put, List.setIfInBounds_toArray, List.set_cons_zero, List.set_cons_succ]
      refine wpAnyL_take 1 (v := .pointer (some ⟨g, 0, none⟩)) rfl (by kernel_rfl) (fun _ _ _ h => h) (yields_in rfl (fun w' hw' => by go_simp)) HS3.out ?_
      simp only [Act.put, List.setIfInBounds_toArray, List.set_cons_zero, List.set_cons_succ]
      refine wpAnyL_take 2 (v := .pointer (some ⟨g, 0, none⟩)) rfl (by kernel_rfl) (fun _ _ _ h => h) (yields_in rfl (fun w' hw' => by have c0 : w'.cell? ⟨g, 0, none⟩ = some (.int .i64 hgt) := hw'.1.cell 0; go_simp)) HS3.out ?_
      simp only [Act.put, List.setIfInBounds_toArray, List.set_cons_zero, List.set_cons_succ]
      refine wpAnyL_take 3 (v := .pointer (some ⟨g, 5, none⟩)) rfl (by kernel_rfl) (fun _ _ _ h => h) (yields_in rfl (fun w' hw' => by go_simp)) HS3.out ?_
      simp only [Act.put, List.setIfInBounds_toArray, List.set_cons_zero, List.set_cons_succ]
      refine wpAnyL_take 4 (v := .slice A1 k c1) rfl (by kernel_rfl) (fun _ _ _ h => h) (yields_in rfl (fun w' hw' => by have c5 : w'.cell? ⟨g, 5, none⟩ = some (.slice A1 k c1) := hw'.1.cell 5; go_simp)) HS3.out ?_
      simp only [Act.put, List.setIfInBounds_toArray, List.set_cons_zero, List.set_cons_succ]
      refine wpAnyL_take 5 (v := .pointer (some ⟨wr.heap.size, 0, none⟩)) rfl (by kernel_rfl) (fun _ _ _ h => h) (yields_in rfl (fun w' hw' => by go_simp)) HS3.out ?_
      simp only [Act.put, List.setIfInBounds_toArray, List.set_cons_zero, List.set_cons_succ]
      refine wpAnyL_take 6 (v := .int .i64 s.flag) rfl (by kernel_rfl) (fun _ _ _ h => h) (yields_in rfl (fun w' hw' => by have d0 : w'.cell? ⟨wr.heap.size, 0, none⟩ = some (.int .i64 s.flag) := hw'.2.cell 0; go_simp)) HS3.out ?_
      simp only [Act.put, List.setIfInBounds_toArray, List.set_cons_zero, List.set_cons_succ]
      refine wpAnyL_take 7 (v := .int .u8 s.flag) rfl (by kernel_rfl) (fun _ _ _ h => h) (yields_in rfl (fun w' hw' => by go_simp)) HS3.out ?_
      simp only [Act.put, List.setIfInBounds_toArray, List.set_cons_zero, List.set_cons_succ]
      refine wpAnyL_take 8 (v := .pointer (some ⟨wr.heap.size, 1, none⟩)) rfl (by kernel_rfl) (fun _ _ _ h => h) (yields_in rfl (fun w' hw' => by go_simp)) HS3.out ?_
      simp only [Act.put, List.setIfInBounds_toArray, List.set_cons_zero, List.set_cons_succ]
      refine wpAnyL_take 9 (v := .string s.adr) rfl (by kernel_rfl) (fun _ _ _ h => h) (yields_in rfl (fun w' hw' => by have d1 : w'.cell? ⟨wr.heap.size, 1, none⟩ = some (.string s.adr) := hw'.2.cell 1; go_simp)) HS3.out ?_
      simp only [Act.put, List.setIfInBounds_toArray, List.set_cons_zero, List.set_cons_succ]
      refine wpAnyL_take 11 (v := .pointer (some ⟨wr.heap.size, 2, none⟩)) rfl (by kernel_rfl) (fun _ _ _ h => h) (yields_in rfl (fun w' hw' => by go_simp)) HS3.out ?_
      simp only [Act.put, List.setIfInBounds_toArray, List.set_cons_zero, List.set_cons_succ]
      refine wpAnyL_take 12 (v := .agg #[.int .i64 s.sec, .int .i64 s.nan]) rfl (by kernel_rfl) (fun _ _ _ h => h) (yields_in rfl (fun w' hw' => by have d2 : w'.cell? ⟨wr.heap.size, 2, none⟩ = some (.int .i64 s.sec) := hw'.2.cell 2; have d3 : w'.cell? ⟨wr.heap.size, 3, none⟩ = some (.int .i64 s.nan) := hw'.2.cell 3; go_simp)) HS3.out ?_
      simp only [Act.put, List.setIfInBounds_toArray, List.set_cons_zero, List.set_cons_succ]
      refine wpAnyL_take 14 (v := .pointer (some ⟨wr.heap.size, 4, none⟩)) rfl (by kernel_rfl) (fun _ _ _ h => h) (yields_in rfl (fun w' hw' => by go_simp)) HS3.out ?_
      simp only [Act.put, List.setIfInBounds_toArray, List.set_cons_zero, List.set_cons_succ]
      refine wpAnyL_take 15 (v := .slice s.S s.sig.length s.sc) rfl (by kernel_rfl) (fun _ _ _ h => h) (yields_in rfl (fun w' hw' => by have d4 : w'.cell? ⟨wr.heap.size, 4, none⟩ = some (.slice s.S s.sig.length s.sc) := hw'.2.cell 4; go_simp)) HS3.out ?_
      simp only [Act.put, List.setIfInBounds_toArray, List.set_cons_zero, List.set_cons_succ]
      refine wpAnyL_two 10 13 rfl rfl (by kernel_rfl) rfl rfl ?_ ?_
      · go_simp
        have HSc := Lib.hid (show (fun w' => Blk w' g 135 #[.int .i64 hgt, .int .i32 rnd, .slice b.S b.sum.length b.sc, .int .u32 b.parts, .slice b.R b.root.length b.rc, .slice A1 k c1, .slice none 0 0] ∧ Blk w' wr.heap.size 76 #[.int .i64 s.flag, .string s.adr, .int .i64 s.sec, .int .i64 s.nan, .slice s.S s.sig.length s.sc]) (((wr.alloc (.cells #[.int .i64 s.flag, .string s.adr, .int .i64 s.sec, .int .i64 s.nan, .slice s.S s.sig.length s.sc] 76)).alloc (bObj s.adr (f (wr.alloc (.cells #[.int .i64 s.flag, .string s.adr, .int .i64 s.sec, .int .i64 s.nan, .slice s.S s.sig.length s.sc] 76)).drew))).drew.drew) from ⟨(((HG.out.alloc _).alloc _).drew).drew, (((Blk.new _ _ _).alloc _).drew).drew⟩)
        have hbc : Below wr.heap.size wr (((wr.alloc (.cells #[.int .i64 s.flag, .string s.adr, .int .i64 s.sec, .int .i64 s.nan, .slice s.S s.sig.length s.sc] 76)).alloc (bObj s.adr (f (wr.alloc (.cells #[.int .i64 s.flag, .string s.adr, .int .i64 s.sec, .int .i64 s.nan, .slice s.S s.sig.length s.sc] 76)).drew))).drew.drew) := (((Below.refl _ _).alloc (Nat.le_refl _) _).alloc (by simp) _).drew.drew
        have hbyt : Byt (((wr.alloc (.cells #[.int .i64 s.flag, .string s.adr, .int .i64 s.sec, .int .i64 s.nan, .slice s.S s.sig.length s.sc] 76)).alloc (bObj s.adr (f (wr.alloc (.cells #[.int .i64 s.flag, .string s.adr, .int .i64 s.sec, .int .i64 s.nan, .slice s.S s.sig.length s.sc] 76)).drew))).drew.drew) (some ⟨wr.heap.size + 1, 0, none⟩) s.adr := Byt.conv (wr.alloc (.cells #[.int .i64 s.flag, .string s.adr, .int .i64 s.sec, .int .i64 s.nan, .slice s.S s.sig.length s.sc] 76)) s.adr _ _ (by simp)
        refine ⟨HSc.out, ?_⟩
        refine wpAnyL_one 13 rfl (by kernel_rfl) rfl ?_
        go_simp
        refine (KM.out _).mono ?_
        rintro e W ⟨rfl, hbm⟩
        have HSz := Lib.hid (show (fun w' => Blk w' g 135 #[.int .i64 hgt, .int .i32 rnd, .slice b.S b.sum.length b.sc, .int .u32 b.parts, .slice b.R b.root.length b.rc, .slice A1 k c1, .slice none 0 0] ∧ Blk w' wr.heap.size 76 #[.int .i64 s.flag, .string s.adr, .int .i64 s.sec, .int .i64 s.nan, .slice s.S s.sig.length s.sc]) W from ⟨HSc.out.1.belowS hbm, HSc.out.2.belowS hbm⟩)
        have HBw := Lib.hid (hbc.trans (hbm.mono hbc.size))
        have HBW := Lib.hid (HB.out.trans (HBw.out.mono hz))
        have HOW := Lib.hid (own_below HO.out HBw.out (Nat.le_refl _))
        have HVA := Lib.hid (hbyt.keep (KeepB.of_below hbm))
        have HREL := Lib.hid (HREL0.out.keep (KeepB.of_below HBw.out))
        clear hbc hbyt hbm kc
        refine ⟨HSz.out, ?_⟩
        refine wpAnyL_one 16 rfl (by kernel_rfl) rfl ?_
        go_simp
        refine ⟨HSz.out, ?_⟩
        refine wpAnyL_one 17 rfl (by kernel_rfl) rfl ?_
        go_simp
        have HSy := Lib.hid (show (fun w' => Blk w' g 135 #[.int .i64 hgt, .int .i32 rnd, .slice b.S b.sum.length b.sc, .int .u32 b.parts, .slice b.R b.root.length b.rc, .slice A1 k c1, .slice none 0 0] ∧ Blk w' wr.heap.size 76 #[.int .i64 s.flag, .string s.adr, .int .i64 s.sec, .int .i64 s.nan, .slice s.S s.sig.length s.sc]) (W.alloc (.cells #[.int .u8 s.flag, .slice (some ⟨wr.heap.size + 1, 0, none⟩) s.adr.size (f (wr.alloc (.cells #[.int .i64 s.flag, .string s.adr, .int .i64 s.sec, .int .i64 s.nan, .slice s.S s.sig.length s.sc] 76)).drew), .int .i64 (s.sec + 62135596800), .int .i32 s.nan, .slice s.S s.sig.length s.sc] 138)) from ⟨HSz.out.1.alloc _, HSz.out.2.alloc _⟩)
        refine ⟨HSy.out, ?_⟩
        refine wpAnyL_one 18 rfl (by kernel_rfl) rfl ?_
        refine wp_app _ (.tmp 27) (.tmp 40) 133 rfl w.heap.size 138 i0 _ 5 72 Tryd.underlying133 HI.out HZ0.out HZ1.out HZ2.out rfl (by decide) (.slice A1 k c1) k (l'.flatMap Cs.cells) rfl ?ho (W.heap.size + 1) (some ⟨W.heap.size, 0, none⟩) 1 1 (Cs.cells ⟨s.flag, some ⟨wr.heap.size + 1, 0, none⟩, s.adr.size, f (wr.alloc (.cells #[.int .i64 s.flag, .string s.adr, .int .i64 s.sec, .int .i64 s.nan, .slice s.S s.sig.length s.sc] 76)).drew, s.sec, s.nan, s.S, s.sig.length, s.sc⟩) rfl ?hr ?h1 ?q1 ?q2 ?hb ?_
        case q1 => simp only [maxLen]; omega
        case q2 => omega
        case hr => exact (Rd.new _ _ _ 5 1 _ rfl rfl)
        case h1 => exact Cs.cells_one _
        case ho => exact (HOW.out.alloc _)
        case hb => have := HBW.out.size; simp; omega
        intro A2 c2 w2 hown2 hg2 hat2
        rw [flat_snoc] at hown2
        have HOWN2 := Lib.hid hown2
        have HB2 := Lib.hid (hg2.blk HSy.out.1 (own_ne_blk HOW.out HSz.out.1 (by decide)))
        have HB3 := Lib.hid (hg2.blk HSy.out.2 (own_ne_blk HOW.out HSz.out.2 (by decide)))
        have hbW2 : Below w.heap.size w w2 := (HBW.out.alloc HBW.out.size _).grown hg2 (by have := HBW.out.size; simp; omega) (own_base HOW.out)
        have HBW2 := Lib.hid hbW2
        have hkeep : KeepB W w2 := KeepB.trans (KeepB.alloc W (.cells #[.int .u8 s.flag, .slice (some ⟨wr.heap.size + 1, 0, none⟩) s.adr.size (f (wr.alloc (.cells #[.int .i64 s.flag, .string s.adr, .int .i64 s.sec, .int .i64 s.nan, .slice s.S s.sig.length s.sc] 76)).drew), .int .i64 (s.sec + 62135596800), .int .i32 s.nan, .slice s.S s.sig.length s.sc] 138)) (KeepB.of_grown hg2 (own_block_ne (w := W) HOW.out (by decide) (fun k hk => Below.heap_alloc W (.cells #[.int .u8 s.flag, .slice (some ⟨wr.heap.size + 1, 0, none⟩) s.adr.size (f (wr.alloc (.cells #[.int .i64 s.flag, .string s.adr, .int .i64 s.sec, .int .i64 s.nan, .slice s.S s.sig.length s.sc] 76)).drew), .int .i64 (s.sec + 62135596800), .int .i32 s.nan, .slice s.S s.sig.length s.sc] 138) k hk)))
        have HREL2 := Lib.hid ((HREL.out.keep hkeep).snoc (s := s) (s' := ⟨s.flag, some ⟨wr.heap.size + 1, 0, none⟩, s.adr.size, f (wr.alloc (.cells #[.int .i64 s.flag, .string s.adr, .int .i64 s.sec, .int .i64 s.nan, .slice s.S s.sig.length s.sc] 76)).drew, s.sec, s.nan, s.S, s.sig.length, s.sc⟩) ⟨rfl, rfl, rfl, rfl, rfl, rfl, rfl, HVA.out.keep hkeep⟩)
        clear hown2 hg2 hat2 hbW2 hkeep
        refine ⟨fun _ => ⟨HB2.out, HB3.out⟩, ?_⟩
        simp only [Act.put, List.setIfInBounds_toArray, List.set_cons_zero, List.set_cons_succ]
        have q0 : w2.cell? ⟨g, 0, none⟩ = some (.int .i64 hgt) := HB2.out.cell 0
        have q5 : w2.cell? ⟨g, 5, none⟩ = some (.slice A1 k c1) := HB2.out.cell 5
        have qf : ∀ i, w2.frozen? ⟨g, i, none⟩ = false := fun i => HB2.out.free i
        refine wpAnyL_one 19 rfl (by kernel_rfl) rfl ?_
        go_simp
        refine ⟨⟨HB2.out, HB3.out⟩, ?_⟩
        refine wpAnyL_one 20 rfl (by kernel_rfl) rfl ?_
        go_simp
        refine ⟨⟨HB2.out, HB3.out⟩, ?_⟩
        refine wpAnyL_one 21 rfl (by kernel_rfl) rfl ?_
        go_simp
        refine wpAnyL_done (by kernel_rfl) ?_ _
        go_wp2
        go_roundw
        case rel => exact ⟨k + 1, A2, c2, _, by omega, by go_num, HB2.out.set5, own_far HOWN2.out (p := ⟨g, 5, none⟩) (own_ne_blk HOWN2.out HB2.out (by decide)) _, by rw [HST.out]; exact HREL2.out.keep (KeepB.setCell (p := ⟨g, 5, none⟩) HB2.out (by decide) _), HBW2.out.setCell (p := ⟨g, 5, none⟩) hgw _⟩
        case measure => simp [intOf]; omega
      · go_simp
        refine (KM.out _).mono ?_
        rintro e wm ⟨rfl, hbm⟩
        have HSm := Lib.hid (show (fun w' => Blk w' g 135 #[.int .i64 hgt, .int .i32 rnd, .slice b.S b.sum.length b.sc, .int .u32 b.parts, .slice b.R b.root.length b.rc, .slice A1 k c1, .slice none 0 0] ∧ Blk w' wr.heap.size 76 #[.int .i64 s.flag, .string s.adr, .int .i64 s.sec, .int .i64 s.nan, .slice s.S s.sig.length s.sc]) wm from ⟨HS3.out.1.belowS hbm, HS3.out.2.belowS hbm⟩)
        have hbw : Below wr.heap.size wr wm := HB0.out.trans (hbm.mono HB0.out.size)
        refine ⟨HSm.out, ?_⟩
        refine wpAnyL_one 10 rfl (by kernel_rfl) rfl ?_
        go_simp
        have HSz := Lib.hid (show (fun w' => Blk w' g 135 #[.int .i64 hgt, .int .i32 rnd, .slice b.S b.sum.length b.sc, .int .u32 b.parts, .slice b.R b.root.length b.rc, .slice A1 k c1, .slice none 0 0] ∧ Blk w' wr.heap.size 76 #[.int .i64 s.flag, .string s.adr, .int .i64 s.sec, .int .i64 s.nan, .slice s.S s.sig.length s.sc]) (wm.alloc (bObj s.adr (f wm))).drew from ⟨(HSm.out.1.alloc _).drew, (HSm.out.2.alloc _).drew⟩)
        have HBw := Lib.hid ((hbw.alloc hbw.size (bObj s.adr (f wm))).drew)
        have HBW := Lib.hid (HB.out.trans (HBw.out.mono hz))
        have HOW := Lib.hid (own_below HO.out HBw.out (Nat.le_refl _))
        have HVA := Lib.hid (show Byt (wm.alloc (bObj s.adr (f wm))).drew (some ⟨wm.heap.size, 0, none⟩) s.adr from Byt.conv wm s.adr _ _ rfl)
        have HREL := Lib.hid (HREL0.out.keep (KeepB.of_below HBw.out))
        clear hbm hbw kc
        generalize (wm.alloc (bObj s.adr (f wm))).drew = W at *
        refine ⟨HSz.out, ?_⟩
        refine wpAnyL_one 16 rfl (by kernel_rfl) rfl ?_
        go_simp
        refine ⟨HSz.out, ?_⟩
        refine wpAnyL_one 17 rfl (by kernel_rfl) rfl ?_
        go_simp
        have HSy := Lib.hid (show (fun w' => Blk w' g 135 #[.int .i64 hgt, .int .i32 rnd, .slice b.S b.sum.length b.sc, .int .u32 b.parts, .slice b.R b.root.length b.rc, .slice A1 k c1, .slice none 0 0] ∧ Blk w' wr.heap.size 76 #[.int .i64 s.flag, .string s.adr, .int .i64 s.sec, .int .i64 s.nan, .slice s.S s.sig.length s.sc]) (W.alloc (.cells #[.int .u8 s.flag, .slice (some ⟨wm.heap.size, 0, none⟩) s.adr.size (f wm), .int .i64 (s.sec + 62135596800), .int .i32 s.nan, .slice s.S s.sig.length s.sc] 138)) from ⟨HSz.out.1.alloc _, HSz.out.2.alloc _⟩)
        refine ⟨HSy.out, ?_⟩
        refine wpAnyL_one 18 rfl (by kernel_rfl) rfl ?_
        refine wp_app _ (.tmp 27) (.tmp 40) 133 rfl w.heap.size 138 i0 _ 5 72 Tryd.underlying133 HI.out HZ0.out HZ1.out HZ2.out rfl (by decide) (.slice A1 k c1) k (l'.flatMap Cs.cells) rfl ?ho (W.heap.size + 1) (some ⟨W.heap.size, 0, none⟩) 1 1 (Cs.cells ⟨s.flag, some ⟨wm.heap.size, 0, none⟩, s.adr.size, f wm, s.sec, s.nan, s.S, s.sig.length, s.sc⟩) rfl ?hr ?h1 ?q1 ?q2 ?hb ?_
        case q1 => simp only [maxLen]; omega
        case q2 => omega
        case hr => exact (Rd.new _ _ _ 5 1 _ rfl rfl)
        case h1 => exact Cs.cells_one _
        case ho => exact (HOW.out.alloc _)
        case hb => have := HBW.out.size; simp; omega
        intro A2 c2 w2 hown2 hg2 hat2
        rw [flat_snoc] at hown2
        have HOWN2 := Lib.hid hown2
        have HB2 := Lib.hid (hg2.blk HSy.out.1 (own_ne_blk HOW.out HSz.out.1 (by decide)))
        have HB3 := Lib.hid (hg2.blk HSy.out.2 (own_ne_blk HOW.out HSz.out.2 (by decide)))
        have hbW2 : Below w.heap.size w w2 := (HBW.out.alloc HBW.out.size _).grown hg2 (by have := HBW.out.size; simp; omega) (own_base HOW.out)
        have HBW2 := Lib.hid hbW2
        have hkeep : KeepB W w2 := KeepB.trans (KeepB.alloc W (.cells #[.int .u8 s.flag, .slice (some ⟨wm.heap.size, 0, none⟩) s.adr.size (f wm), .int .i64 (s.sec + 62135596800), .int .i32 s.nan, .slice s.S s.sig.length s.sc] 138)) (KeepB.of_grown hg2 (own_block_ne (w := W) HOW.out (by decide) (fun k hk => Below.heap_alloc W (.cells #[.int .u8 s.flag, .slice (some ⟨wm.heap.size, 0, none⟩) s.adr.size (f wm), .int .i64 (s.sec + 62135596800), .int .i32 s.nan, .slice s.S s.sig.length s.sc] 138) k hk)))
        have HREL2 := Lib.hid ((HREL.out.keep hkeep).snoc (s := s) (s' := ⟨s.flag, some ⟨wm.heap.size, 0, none⟩, s.adr.size, f wm, s.sec, s.nan, s.S, s.sig.length, s.sc⟩) ⟨rfl, rfl, rfl, rfl, rfl, rfl, rfl, HVA.out.keep hkeep⟩)
        clear hown2 hg2 hat2 hbW2 hkeep
        refine ⟨fun _ => ⟨HB2.out, HB3.out⟩, ?_⟩
        simp only [Act.put, List.setIfInBounds_toArray, List.set_cons_zero, List.set_cons_succ]
        have q0 : w2.cell? ⟨g, 0, none⟩ = some (.int .i64 hgt) := HB2.out.cell 0
        have q5 : w2.cell? ⟨g, 5, none⟩ = some (.slice A1 k c1) := HB2.out.cell 5
        have qf : ∀ i, w2.frozen? ⟨g, i, none⟩ = false := fun i => HB2.out.free i
        refine wpAnyL_one 19 rfl (by kernel_rfl) rfl ?_
        go_simp
        refine ⟨⟨HB2.out, HB3.out⟩, ?_⟩
        refine wpAnyL_one 20 rfl (by kernel_rfl) rfl ?_
        go_simp
        refine ⟨⟨HB2.out, HB3.out⟩, ?_⟩
        refine wpAnyL_one 21 rfl (by kernel_rfl) rfl ?_
        go_simp
        refine wpAnyL_done (by kernel_rfl) ?_ _
        go_wp2
        go_roundw
        case rel => exact ⟨k + 1, A2, c2, _, by omega, by go_num, HB2.out.set5, own_far HOWN2.out (p := ⟨g, 5, none⟩) (own_ne_blk HOWN2.out HB2.out (by decide)) _, by rw [HST.out]; exact HREL2.out.keep (KeepB.setCell (p := ⟨g, 5, none⟩) HB2.out (by decide) _), HBW2.out.setCell (p := ⟨g, 5, none⟩) hgw _⟩
        case measure => simp [intOf]; omega
    · obtain rfl : k = n := by omega
      have h1 := HREL0.out
      rw [List.take_of_length_le (by have := HLN.out; omega)] at h1
      have H1 := Lib.hid h1; clear h1
      go_wp2
      go_ret
      exact ⟨g, A1, c1, l', rfl, HG.out, Rd.of_own HO.out, H1.out, HB.out, hgw⟩
theorem icommit_any (hgt rnd : Int) (b : Bk) (A : Option Addr) (n c : Nat) (l : List Sg) (w : World) (hr : Rd w w.heap.size 5 A n (signsOf l)) (hn : n ≤ 1000) (hp : 0 ≤ b.parts ∧ b.parts ≤ 4294967295) (hrd : -2147483648 ≤ rnd ∧ rnd ≤ 2147483647)
    (hl : ∀ s ∈ l, (s.flag = 1 ∨ s.flag = 2 ∨ s.flag = 3) ∧ (-4611686018427387904 ≤ s.sec ∧ s.sec ≤ 4611686018427387904) ∧ (0 ≤ s.nan ∧ s.nan ≤ 2147483647)) :
    Calls Tryd.prog 30 #[.agg #[.int .i64 hgt, .int .i64 rnd, .slice b.S b.sum.length b.sc, .int .i64 b.parts, .slice b.R b.root.length b.rc, .slice A n c]] w fun e w' => ∃ g A' c' l', e = .returned (ptrTo g) ∧ Blk w' g 135 (comCells hgt rnd b A' n c') ∧ Rd w' w'.heap.size 5 A' n (l'.flatMap Cs.cells) ∧ CsRel w' l l' ∧ Below w.heap.size w w' :=
  (icommit_new hgt rnd b A n c l w hr hn hp hrd hl).mono fun _ _ ⟨g, A1, c1, l', h1, h2, h3, h4, h5, _⟩ => ⟨g, A1, c1, l', h1, h2, h3, h4, h5⟩
end Go.Proofs.YtikikddkhikfkaaDoor

set_option linter.all false
namespace Go.Proofs.YtikikddkhikfkaaDoor
open Go.RowKit

/-! sizes -/
def fit6 (s : Sg) : Bool := !(decide (2147483647 < s.adr.size)) && !(decide (2147483647 < s.sig.length))
set_option maxHeartbeats 800000 in
theorem fits6_any (s : Sg) (w : World) (h1 : s.adr.size ≤ 9223372036854775807) (h2 : s.sig.length ≤ 9223372036854775807) :
    Calls Tryd.prog 65 #[.agg #[.int .i64 s.flag, .string s.adr, .int .i64 s.sec, .int .i64 s.nan, .slice s.S s.sig.length s.sc]] w fun e w' => e = .returned (.bool (fit6 s)) ∧ Below w.heap.size w w' := by
  by_cases h3 : 2147483647 < s.adr.size
  · go_enter Tryd.func65, Tryd.ntmps65
    go_wp2
    go_ret
    exact ⟨ret_bool (by simp [fit6, h3]), (Below.refl _ _).alloc (Nat.le_refl _) _⟩
  · by_cases h4 : 2147483647 < s.sig.length
    · go_enter Tryd.func65, Tryd.ntmps65
      go_wp2
      go_ret
      exact ⟨ret_bool (by simp [fit6, h4]), (Below.refl _ _).alloc (Nat.le_refl _) _⟩
    · go_enter Tryd.func65, Tryd.ntmps65
      go_wp2
      go_ret
      exact ⟨ret_bool (by simp [fit6]; omega), (Below.refl _ _).alloc (Nat.le_refl _) _⟩
def fit4 (b : Bk) : Bool := !(decide (2147483647 < b.sum.length)) && !(decide (2147483647 < b.root.length))
set_option maxHeartbeats 800000 in
theorem fits4_any (b : Bk) (w : World) (h1 : b.sum.length ≤ 9223372036854775807) (h2 : b.root.length ≤ 9223372036854775807) :
    Calls Tryd.prog 26 #[.agg #[.slice b.S b.sum.length b.sc, .int .i64 b.parts, .slice b.R b.root.length b.rc]] w fun e w' => e = .returned (.bool (fit4 b)) ∧ Below w.heap.size w w' := by
  by_cases h3 : 2147483647 < b.sum.length
  · go_enter Tryd.func26, Tryd.ntmps26
    go_wp2
    go_ret
    exact ⟨ret_bool (by simp [fit4, h3]), (Below.refl _ _).alloc (Nat.le_refl _) _⟩
  · by_cases h4 : 2147483647 < b.root.length
    · go_enter Tryd.func26, Tryd.ntmps26
      go_wp2
      go_ret
      exact ⟨ret_bool (by simp [fit4, h4]), (Below.refl _ _).alloc (Nat.le_refl _) _⟩
    · go_enter Tryd.func26, Tryd.ntmps26
      go_wp2
      go_ret
      exact ⟨ret_bool (by simp [fit4]; omega), (Below.refl _ _).alloc (Nat.le_refl _) _⟩
def fit5 (l : List Sg) : Bool := !(decide (2147483647 < l.length)) && l.all fit6
set_option maxHeartbeats 800000 in
theorem fits5_any (l : List Sg) (A : Option Addr) (n c : Nat) (w : World) (hr : Rd w w.heap.size 5 A n (signsOf l)) (hn : n ≤ 9223372036854775807) (hs : ∀ x ∈ l, x.adr.size ≤ 9223372036854775807 ∧ x.sig.length ≤ 9223372036854775807) :
    Calls Tryd.prog 27 #[.slice A n c] w fun e w' => e = .returned (.bool (fit5 l)) ∧ Below w.heap.size w w' := by
  have HL := Lib.hid hr.slen
  have HR := Lib.hid hr; clear hr
  have HS := Lib.hid hs; clear hs
  by_cases hbig : 2147483647 < n
  · have HF : Hid (fit5 l = false) := by
      have := HL.out
      show _ = _
      simp [fit5]; omega
    go_enter Tryd.func27, Tryd.ntmps27
    go_wp2
    go_ret
    exact ⟨ret_bool HF.out.symm, Below.refl _ _⟩
  · have hbig' : n ≤ 2147483647 := by omega
    have HF : Hid (fit5 l = l.all fit6) := by
      have := HL.out
      show _ = _
      have e : decide (2147483647 < l.length) = false := by simp; omega
      simp [fit5, e]
    clear hbig
    go_enter Tryd.func27, Tryd.ntmps27
    go_wp2
    go_loopw [10] (fun i wr => ∃ k : Nat, k ≤ n ∧ i = .int .i64 k ∧ Hid ((l.take k).all fit6 = true) ∧ Hid (Below w.heap.size w wr)) (fun i _ => n - (intOf i).toNat)
    case atStart => exact ⟨0, Nat.zero_le _, rfl, rfl, Below.refl _ _⟩
    case round =>
      obtain ⟨k, hk, rfl, HA, hb⟩ := hrel
      have hz := hb.out.size
      by_cases hlt : k < n
      · have hk' : k < l.length := by have := HL.out; omega
        have hx : l[k]? = some l[k] := List.getElem?_eq_getElem hk'
        obtain ⟨ad, rfl, _, c0, c1, c2, c3, c4⟩ := (HR.out.below hb.out).sign hx
        have hbx := HS.out _ (List.getElem_mem hk')
        have hst : (l.take (k + 1)).all fit6 = fit6 l[k] := by
          rw [List.take_succ_eq_append_getElem hk', List.all_append, HA.out]; simp
        have hmem : l[k] ∈ l := List.getElem_mem hk'
        generalize l[k] = x at *
        have HST := Lib.hid hst; have HX := Lib.hid hx; have HMEM := Lib.hid hmem
        clear hst hx hmem
        have KC := Lib.hid (fun W => fits6_any x W hbx.1 hbx.2)
        cases hf : fit6 x with
        | false =>
          rw [hf] at KC HST
          go_wp2_with fail
          refine (KC.out _).mono ?_
          rintro e w1 ⟨rfl, hb1⟩
          have HB1 := Lib.hid ((hb.out.alloc hz (.cells #[.int .i64 x.flag, .string x.adr, .int .i64 x.sec, .int .i64 x.nan, .slice x.S x.sig.length x.sc] 76)).trans (hb1.mono (by simp; omega)))
          clear hb1
          go_wp2
          go_ret
          exact ⟨ret_bool (by rw [HF.out]; symm; rw [List.all_eq_false]; exact ⟨x, HMEM.out, by rw [hf]; simp⟩), HB1.out⟩
        | true =>
          rw [hf] at KC HST
          go_wp2_with fail
          refine (KC.out _).mono ?_
          rintro e w1 ⟨rfl, hb1⟩
          have HB1 := Lib.hid ((hb.out.alloc hz (.cells #[.int .i64 x.flag, .string x.adr, .int .i64 x.sec, .int .i64 x.nan, .slice x.S x.sig.length x.sc] 76)).trans (hb1.mono (by simp; omega)))
          clear hb1
          go_wp2
          go_roundw
          case rel => exact ⟨k + 1, by omega, by go_num, HST.out, HB1.out⟩
          case measure => simp [intOf]; omega
      · obtain rfl : k = n := by omega
        have hall : l.all fit6 = true := by
          have := HA.out
          rwa [List.take_of_length_le (by have := HL.out; omega)] at this
        have HALL := Lib.hid hall; clear hall
        go_wp2
        go_ret
        exact ⟨ret_bool (by rw [HF.out, HALL.out]), hb.out⟩
def fit3 (b : Bk) (l : List Sg) : Bool := fit4 b && fit5 l
set_option maxHeartbeats 800000 in
theorem fits3_any (hgt rnd : Int) (b : Bk) (l : List Sg) (A : Option Addr) (n c : Nat) (w : World) (hr : Rd w w.heap.size 5 A n (signsOf l)) (hn : n ≤ 9223372036854775807) (hs : ∀ x ∈ l, x.adr.size ≤ 9223372036854775807 ∧ x.sig.length ≤ 9223372036854775807) (h1 : b.sum.length ≤ 9223372036854775807) (h2 : b.root.length ≤ 9223372036854775807) :
    Calls Tryd.prog 6 #[.agg #[.int .i64 hgt, .int .i64 rnd, .slice b.S b.sum.length b.sc, .int .i64 b.parts, .slice b.R b.root.length b.rc, .slice A n c]] w fun e w' => e = .returned (.bool (fit3 b l)) ∧ Below w.heap.size w w' := by
  have K1 := Lib.hid (fun W => fits4_any b W h1 h2)
  have hs0 := SB.start w 27 #[.int .i64 hgt, .int .i64 rnd, .slice b.S b.sum.length b.sc, .int .i64 b.parts, .slice b.R b.root.length b.rc, .slice A n c]
  have HS0 := Lib.hid hs0; have HR := Lib.hid hr; have HSS := Lib.hid hs
  clear hs0 hr hs
  cases hf : fit4 b with
  | false =>
    rw [hf] at K1
    have hf3 : Hid (fit3 b l = false) := by show _ = _; unfold fit3; rw [hf]; rfl
    go_enter Tryd.func6, Tryd.ntmps6
    go_wp2_with fail
    refine (K1.out _).mono ?_
    rintro e w1 ⟨rfl, hb1⟩
    have HS1 := Lib.hid (HS0.out.call hb1); clear hb1
    go_wp2
    go_ret
    exact ⟨ret_bool hf3.out.symm, HS1.out.2⟩
  | true =>
    rw [hf] at K1
    have hf3 : Hid (fit3 b l = fit5 l) := by show _ = _; unfold fit3; rw [hf]; rfl
    go_enter Tryd.func6, Tryd.ntmps6
    go_wp2_with fail
    refine (K1.out _).mono ?_
    rintro e w1 ⟨rfl, hb1⟩
    have hs1 := HS0.out.call hb1
    have q5 : w1.cell? ⟨w.heap.size, 5, none⟩ = some (.slice A n c) := hs1.1.cell 5
    have K2 := Lib.hid (fits5_any l A n c w1 ((HR.out.below hs1.2).more hs1.2.size) hn HSS.out)
    have HS1 := Lib.hid hs1; clear hb1 hs1
    cases hf5 : fit5 l with
    | false =>
      rw [hf5] at K2 hf3
      go_wp2_with fail
      refine K2.out.mono ?_
      rintro e w2 ⟨rfl, hb2⟩
      have HS2 := Lib.hid (HS1.out.call hb2); clear hb2
      go_wp2
      go_ret
      exact ⟨ret_bool hf3.out.symm, HS2.out.2⟩
    | true =>
      rw [hf5] at K2 hf3
      go_wp2_with fail
      refine K2.out.mono ?_
      rintro e w2 ⟨rfl, hb2⟩
      have HS2 := Lib.hid (HS1.out.call hb2); clear hb2
      go_wp2
      go_ret
      exact ⟨ret_bool hf3.out.symm, HS2.out.2⟩
end Go.Proofs.YtikikddkhikfkaaDoor
