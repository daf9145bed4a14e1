/-
  From a commit to the bytes that are signed: VoteSignBytes, GetVote: walks. By the session.
-/
import Derived.Test.YtikikddkhikfkaaVote
set_option linter.all false
namespace Go.Proofs.Ytikikddkhikfkaa
open Go.RowKit

theorem CBid.below {w w' : World} {P : Value} {id : List UInt8} (h : CBid w P id) (hb : Below w.heap.size w w') : CBid w' P id := by
  rcases h with h | ⟨g, b, h1, h2, h3, h4, h5, h6, h7⟩
  · exact .inl h
  · exact .inr ⟨g, b, h1, h2.belowS hb, h3.below hb, h4, h5, h6, h7⟩
set_option maxRecDepth 100000 in
set_option maxHeartbeats 1600000 in
theorem votesign_any (g : Nat) (hgt rnd : Int) (b : Bk) (sec nan : Int) (VA GA : Option Addr) (vn vc gn gc : Nat) (at_ : Int) (chain : ByteArray) (w : World) (hg : Blk w g 147 (voteCells hgt rnd b sec nan VA GA vn vc gn gc at_)) (hb : b.good) (hbok : b.ok w w.heap.size) (hrd : -2147483648 ≤ rnd ∧ rnd ≤ 2147483647)
    (hh : in64' hgt) (hs : -4611686018427387904 ≤ sec ∧ sec ≤ 4611686018427387904) (hn : 0 ≤ nan ∧ nan ≤ 2147483647) (hcl : chain.size ≤ 1000) :
    Calls Try.prog 60 #[.string chain, ptrTo g] w fun e w' => ∃ A m c, e = .returned (.slice A m c) ∧ Own8 w' w.heap.size A m c (msgOf (bodyOf chain.data.toList hgt rnd (idB b) sec nan)) ∧ Below w.heap.size w w' := by
  have K1 := Lib.hid (canvote_any g hgt rnd b sec nan VA GA vn vc gn gc at_ chain w hg hb hbok hrd)
  have hlid : (idB b).length ≤ 2100 := by
    unfold idB
    split
    · simp
    · rename_i hno
      rcases hb with h | h
      · exact absurd h hno
      · have h1 := blockB_length b.sum b.parts b.root (by omega) (by omega)
        have h2 := msgB_length 4 (blockB b.sum b.parts b.root) (by omega)
        omega
  have hcl2 : chain.data.toList.length ≤ 1000 := by have : chain.data.toList.length = chain.size := by rw [Array.length_toList]; rfl
                                                    omega
  have hbl := bodyOf_length chain.data.toList hgt rnd (idB b) sec nan hcl2 hlid
  have HBL := Lib.hid hbl
  clear hg hb hbok hlid hcl2 hbl
  unfold ptrTo at *
  go_enter Try.func60, Try.ntmps60
  go_wp2_with fail
  refine K1.out.mono ?_
  rintro e w1 ⟨q, rfl, hcb, hb1⟩
  have hba := (Below.refl w1.heap.size w1).alloc (Nat.le_refl _) (.cells #[.int .i32 2, .int .i64 hgt, .int .i64 rnd, .pointer q, .int .i64 (sec + 62135596800), .int .i32 nan, .string chain] 150)
  have K2 := cvote_any w1.heap.size hgt rnd sec nan (.pointer q) chain (idB b) _ (Blk.new w1 150 #[.int .i32 2, .int .i64 hgt, .int .i64 rnd, .pointer q, .int .i64 (sec + 62135596800), .int .i32 nan, .string chain]) (hcb.below hba) hh (by unfold in64'; omega) hs hn hcl
  unfold ptrTo at K2
  have K2 := Lib.hid K2
  have HB1 := Lib.hid (hb1.trans (hba.mono hb1.size))
  have hz1 := hb1.size
  clear hcb hb1 hba
  go_wp2_with fail
  refine K2.out.mono ?_
  rintro e w2 ⟨A2, m2, c2, rfl, ho2, hb2⟩
  have K3 := Lib.hid (delim_any A2 m2 c2 _ w2 ho2.rd (by have := ho2.len; have := HBL.out; omega))
  have HB2 := Lib.hid (HB1.out.trans (hb2.mono (by simp; omega)))
  clear ho2 hb2
  go_wp2_with fail
  refine K3.out.mono ?_
  rintro e w3 ⟨A3, m3, c3, rfl, ho3, hb3⟩
  have HO3 := Lib.hid (ho3.more HB2.out.size); have HB3 := Lib.hid (HB2.out.trans (hb3.mono HB2.out.size)); clear ho3 hb3
  go_wp2
  go_ret
  exact ⟨A3, m3, c3, rfl, HO3.out, HB3.out⟩

/-- a validator's signature as the package has it -/
structure Cs where
  flag : Int
  VA : Option Addr
  vn : Nat
  vc : Nat
  sec : Int
  nan : Int
  GA : Option Addr
  gn : Nat
  gc : Nat
def Cs.cells (s : Cs) : List Value := [.int .u8 s.flag, .slice s.VA s.vn s.vc, .int .i64 (s.sec + 62135596800), .int .i32 s.nan, .slice s.GA s.gn s.gc]
theorem Cs.cells_length (s : Cs) : s.cells.length = 5 := rfl
def comCells (hgt rnd : Int) (b : Bk) (A : Option Addr) (n c : Nat) : Array Value := #[.int .i64 hgt, .int .i32 rnd, .slice b.S b.sum.length b.sc, .int .u32 b.parts, .slice b.R b.root.length b.rc, .slice A n c, .slice none 0 0]

set_option maxRecDepth 100000 in
set_option maxHeartbeats 3200000 in
theorem getvote_any (g : Nat) (hgt rnd : Int) (b : Bk) (A : Option Addr) (n c : Nat) (l : List Cs) (k : Nat) (s : Cs) (w : World) (hg : Blk w g 112 (comCells hgt rnd b A n c)) (hrow : Rd w w.heap.size 5 A n (l.flatMap Cs.cells)) (hk : l[k]? = some s) (hkn : k < n) (hn : n ≤ 1000) (hf : s.flag = 1 ∨ s.flag = 2 ∨ s.flag = 3) :
    Calls Try.prog 59 #[ptrTo g, .int .i32 k] w fun e w' => ∃ gv, e = .returned (ptrTo gv) ∧ Blk w' gv 147 (voteCells hgt rnd (vbk s.flag b) s.sec s.nan s.VA s.GA s.vn s.vc s.gn s.gc k) ∧ Below w.heap.size w w' := by
  obtain ⟨ad, rfl, hadb, c0, c1, c2, c3, c4⟩ := hrow.five Cs.cells_length hk
  simp only [Cs.cells, List.getElem?_cons_zero, List.getElem?_cons_succ] at c0 c1 c2 c3 c4
  unfold comCells at hg
  unfold ptrTo
  have KC := Lib.hid (fun W => sigid_any s.flag s.VA s.GA s.vn s.vc s.gn s.gc s.sec s.nan b W hf)
  have q5 : w.cell? ⟨g, 5, none⟩ = some (.slice (some ad) n c) := hg.cell 5
  have q0 : w.cell? ⟨g, 0, none⟩ = some (.int .i64 hgt) := hg.cell 0
  have hS0 : (fun w' => Blk w' g 112 #[.int .i64 hgt, .int .i32 rnd, .slice b.S b.sum.length b.sc, .int .u32 b.parts, .slice b.R b.root.length b.rc, .slice (some ad) n c, .slice none 0 0] ∧ SB w.heap.size w 118 #[.int .u8 s.flag, .slice s.VA s.vn s.vc, .int .i64 (s.sec + 62135596800), .int .i32 s.nan, .slice s.GA s.gn s.gc] w') (w.alloc (.cells #[.int .u8 s.flag, .slice s.VA s.vn s.vc, .int .i64 (s.sec + 62135596800), .int .i32 s.nan, .slice s.GA s.gn s.gc] 118)).drew := ⟨(hg.alloc _).drew, (SB.start w _ _).drew⟩
  have HS := Lib.hid hS0; clear hS0 hg hrow
  unfold cbidCells at KC
  generalize vbk s.flag b = b' at *
  go_enter Try.func59, Try.ntmps59
  go_wp2_with fail
  refine wp_region_L (fun w' => Blk w' g 112 #[.int .i64 hgt, .int .i32 rnd, .slice b.S b.sum.length b.sc, .int .u32 b.parts, .slice b.R b.root.length b.rc, .slice (some ad) n c, .slice none 0 0] ∧ SB w.heap.size w 118 #[.int .u8 s.flag, .slice s.VA s.vn s.vc, .int .i64 (s.sec + 62135596800), .int .i32 s.nan, .slice s.GA s.gn s.gc] w') 23 (by kernel_rfl) ?_
  refine wpAnyL_take 0 (v := .pointer (some ⟨g, 0, none⟩)) rfl (by kernel_rfl) (fun _ _ _ h => h) (yields_in rfl (fun w' hw' => by go_simp)) HS.out ?_
  simp only [Act.put, List.setIfInBounds_toArray, List.set_cons_zero, List.set_cons_succ]
  refine wpAnyL_take 1 (v := .pointer (some ⟨g, 0, none⟩)) rfl (by kernel_rfl) (fun _ _ _ h => h) (yields_in rfl (fun w' hw' => by have c0 : w'.cell? ⟨g, 0, none⟩ = some (.int .i64 hgt) := hw'.1.cell 0; go_simp)) HS.out ?_
  simp only [Act.put, List.setIfInBounds_toArray, List.set_cons_zero, List.set_cons_succ]
  refine wpAnyL_take 2 (v := .pointer (some ⟨g, 0, none⟩)) rfl (by kernel_rfl) (fun _ _ _ h => h) (yields_in rfl (fun w' hw' => by go_simp)) HS.out ?_
  simp only [Act.put, List.setIfInBounds_toArray, List.set_cons_zero, List.set_cons_succ]
  refine wpAnyL_take 3 (v := .int .i64 hgt) rfl (by kernel_rfl) (fun _ _ _ h => h) (yields_in rfl (fun w' hw' => by have c0 : w'.cell? ⟨g, 0, none⟩ = some (.int .i64 hgt) := hw'.1.cell 0; go_simp)) HS.out ?_
  simp only [Act.put, List.setIfInBounds_toArray, List.set_cons_zero, List.set_cons_succ]
  refine wpAnyL_take 4 (v := .pointer (some ⟨g, 0, none⟩)) rfl (by kernel_rfl) (fun _ _ _ h => h) (yields_in rfl (fun w' hw' => by go_simp)) HS.out ?_
  simp only [Act.put, List.setIfInBounds_toArray, List.set_cons_zero, List.set_cons_succ]
  refine wpAnyL_take 5 (v := .pointer (some ⟨g, 0, none⟩)) rfl (by kernel_rfl) (fun _ _ _ h => h) (yields_in rfl (fun w' hw' => by have c0 : w'.cell? ⟨g, 0, none⟩ = some (.int .i64 hgt) := hw'.1.cell 0; go_simp)) HS.out ?_
  simp only [Act.put, List.setIfInBounds_toArray, List.set_cons_zero, List.set_cons_succ]
  refine wpAnyL_take 6 (v := .pointer (some ⟨g, 1, none⟩)) rfl (by kernel_rfl) (fun _ _ _ h => h) (yields_in rfl (fun w' hw' => by go_simp)) HS.out ?_
  simp only [Act.put, List.setIfInBounds_toArray, List.set_cons_zero, List.set_cons_succ]
  refine wpAnyL_take 7 (v := .int .i32 rnd) rfl (by kernel_rfl) (fun _ _ _ h => h) (yields_in rfl (fun w' hw' => by have c1 : w'.cell? ⟨g, 1, none⟩ = some (.int .i32 rnd) := hw'.1.cell 1; go_simp)) HS.out ?_
  simp only [Act.put, List.setIfInBounds_toArray, List.set_cons_zero, List.set_cons_succ]
  refine wpAnyL_take 8 (v := .agg #[.int .u8 s.flag, .slice s.VA s.vn s.vc, .int .i64 (s.sec + 62135596800), .int .i32 s.nan, .slice s.GA s.gn s.gc]) rfl (by kernel_rfl) (fun _ _ _ h => h) (yields_in rfl (fun w' hw' => by have d0 : w'.cell? ⟨w.heap.size, 0, none⟩ = some (.int .u8 s.flag) := hw'.2.1.cell 0; have d1 : w'.cell? ⟨w.heap.size, 1, none⟩ = some (.slice s.VA s.vn s.vc) := hw'.2.1.cell 1; have d2 : w'.cell? ⟨w.heap.size, 2, none⟩ = some (.int .i64 (s.sec + 62135596800)) := hw'.2.1.cell 2; have d3 : w'.cell? ⟨w.heap.size, 3, none⟩ = some (.int .i32 s.nan) := hw'.2.1.cell 3; have d4 : w'.cell? ⟨w.heap.size, 4, none⟩ = some (.slice s.GA s.gn s.gc) := hw'.2.1.cell 4; go_simp)) HS.out ?_
  simp only [Act.put, List.setIfInBounds_toArray, List.set_cons_zero, List.set_cons_succ]
  refine wpAnyL_take 9 (v := .pointer (some ⟨g, 0, none⟩)) rfl (by kernel_rfl) (fun _ _ _ h => h) (yields_in rfl (fun w' hw' => by go_simp)) HS.out ?_
  simp only [Act.put, List.setIfInBounds_toArray, List.set_cons_zero, List.set_cons_succ]
  refine wpAnyL_take 10 (v := .pointer (some ⟨g, 0, none⟩)) rfl (by kernel_rfl) (fun _ _ _ h => h) (yields_in rfl (fun w' hw' => by have c0 : w'.cell? ⟨g, 0, none⟩ = some (.int .i64 hgt) := hw'.1.cell 0; go_simp)) HS.out ?_
  simp only [Act.put, List.setIfInBounds_toArray, List.set_cons_zero, List.set_cons_succ]
  refine wpAnyL_take 11 (v := .pointer (some ⟨g, 2, none⟩)) rfl (by kernel_rfl) (fun _ _ _ h => h) (yields_in rfl (fun w' hw' => by go_simp)) HS.out ?_
  simp only [Act.put, List.setIfInBounds_toArray, List.set_cons_zero, List.set_cons_succ]
  refine wpAnyL_take 12 (v := .agg #[.slice b.S b.sum.length b.sc, .int .u32 b.parts, .slice b.R b.root.length b.rc]) rfl (by kernel_rfl) (fun _ _ _ h => h) (yields_in rfl (fun w' hw' => by have c2 : w'.cell? ⟨g, 2, none⟩ = some (.slice b.S b.sum.length b.sc) := hw'.1.cell 2; have c3 : w'.cell? ⟨g, 3, none⟩ = some (.int .u32 b.parts) := hw'.1.cell 3; have c4 : w'.cell? ⟨g, 4, none⟩ = some (.slice b.R b.root.length b.rc) := hw'.1.cell 4; go_simp)) HS.out ?_
  simp only [Act.put, List.setIfInBounds_toArray, List.set_cons_zero, List.set_cons_succ]
  refine wpAnyL_take 14 (v := .pointer (some ⟨w.heap.size, 2, none⟩)) rfl (by kernel_rfl) (fun _ _ _ h => h) (yields_in rfl (fun w' hw' => by go_simp)) HS.out ?_
  simp only [Act.put, List.setIfInBounds_toArray, List.set_cons_zero, List.set_cons_succ]
  refine wpAnyL_take 15 (v := .agg #[.int .i64 (s.sec + 62135596800), .int .i32 s.nan]) rfl (by kernel_rfl) (fun _ _ _ h => h) (yields_in rfl (fun w' hw' => by have d2 : w'.cell? ⟨w.heap.size, 2, none⟩ = some (.int .i64 (s.sec + 62135596800)) := hw'.2.1.cell 2; have d3 : w'.cell? ⟨w.heap.size, 3, none⟩ = some (.int .i32 s.nan) := hw'.2.1.cell 3; go_simp)) HS.out ?_
  simp only [Act.put, List.setIfInBounds_toArray, List.set_cons_zero, List.set_cons_succ]
  refine wpAnyL_take 16 (v := .pointer (some ⟨w.heap.size, 1, none⟩)) rfl (by kernel_rfl) (fun _ _ _ h => h) (yields_in rfl (fun w' hw' => by go_simp)) HS.out ?_
  simp only [Act.put, List.setIfInBounds_toArray, List.set_cons_zero, List.set_cons_succ]
  refine wpAnyL_take 17 (v := .slice s.VA s.vn s.vc) rfl (by kernel_rfl) (fun _ _ _ h => h) (yields_in rfl (fun w' hw' => by have d1 : w'.cell? ⟨w.heap.size, 1, none⟩ = some (.slice s.VA s.vn s.vc) := hw'.2.1.cell 1; go_simp)) HS.out ?_
  simp only [Act.put, List.setIfInBounds_toArray, List.set_cons_zero, List.set_cons_succ]
  refine wpAnyL_take 18 (v := .int .i32 k) rfl (by kernel_rfl) (fun _ _ _ h => h) (yields_in rfl (fun w' hw' => by go_simp)) HS.out ?_
  simp only [Act.put, List.setIfInBounds_toArray, List.set_cons_zero, List.set_cons_succ]
  refine wpAnyL_take 19 (v := .pointer (some ⟨w.heap.size, 4, none⟩)) rfl (by kernel_rfl) (fun _ _ _ h => h) (yields_in rfl (fun w' hw' => by go_simp)) HS.out ?_
  simp only [Act.put, List.setIfInBounds_toArray, List.set_cons_zero, List.set_cons_succ]
  refine wpAnyL_take 20 (v := .slice s.GA s.gn s.gc) rfl (by kernel_rfl) (fun _ _ _ h => h) (yields_in rfl (fun w' hw' => by have d4 : w'.cell? ⟨w.heap.size, 4, none⟩ = some (.slice s.GA s.gn s.gc) := hw'.2.1.cell 4; go_simp)) HS.out ?_
  simp only [Act.put, List.setIfInBounds_toArray, List.set_cons_zero, List.set_cons_succ]
  refine wpAnyL_one 13 rfl (by kernel_rfl) rfl ?_
  go_simp
  refine (KC.out _).mono ?_
  rintro e w1 ⟨rfl, hb1⟩
  have HS1 := Lib.hid (show (fun w' => Blk w' g 112 #[.int .i64 hgt, .int .i32 rnd, .slice b.S b.sum.length b.sc, .int .u32 b.parts, .slice b.R b.root.length b.rc, .slice (some ad) n c, .slice none 0 0] ∧ SB w.heap.size w 118 #[.int .u8 s.flag, .slice s.VA s.vn s.vc, .int .i64 (s.sec + 62135596800), .int .i32 s.nan, .slice s.GA s.gn s.gc] w') w1 from ⟨HS.out.1.belowS hb1, HS.out.2.call hb1⟩)
  clear hb1
  refine ⟨HS1.out, ?_⟩
  refine wpAnyL_one 21 rfl (by kernel_rfl) rfl ?_
  go_simp
  refine ⟨HS1.out, ?_⟩
  refine wpAnyL_one 22 rfl (by kernel_rfl) rfl ?_
  go_simp
  refine ⟨⟨HS1.out.1.alloc _, HS1.out.2.alloc _⟩, ?_⟩
  refine wpAnyL_one 23 rfl (by kernel_rfl) rfl ?_
  go_simp
  refine wpAnyL_done (by kernel_rfl) ?_ _
  go_wp2
  go_ret
  exact ⟨w1.heap.size, rfl, by unfold voteCells; exact Blk.new _ _ _, (HS1.out.2.alloc _).2⟩

set_option maxRecDepth 100000 in
set_option maxHeartbeats 1600000 in
theorem comsign_any (g : Nat) (hgt rnd : Int) (b : Bk) (A : Option Addr) (n c : Nat) (l : List Cs) (k : Nat) (s : Cs) (chain : ByteArray) (w : World) (hg : Blk w g 112 (comCells hgt rnd b A n c)) (hrow : Rd w w.heap.size 5 A n (l.flatMap Cs.cells)) (hk : l[k]? = some s) (hkn : k < n) (hn : n ≤ 1000) (hf : s.flag = 1 ∨ s.flag = 2 ∨ s.flag = 3)
    (hb : b.good) (hbok : b.ok w w.heap.size) (hrd : -2147483648 ≤ rnd ∧ rnd ≤ 2147483647) (hh : in64' hgt) (hs : -4611686018427387904 ≤ s.sec ∧ s.sec ≤ 4611686018427387904) (hna : 0 ≤ s.nan ∧ s.nan ≤ 2147483647) (hcl : chain.size ≤ 1000) :
    Calls Try.prog 28 #[ptrTo g, .string chain, .int .i32 k] w fun e w' => ∃ A m c, e = .returned (.slice A m c) ∧ Own8 w' w.heap.size A m c (msgOf (bodyOf chain.data.toList hgt rnd (idOf s.flag b) s.sec s.nan)) ∧ Below w.heap.size w w' := by
  have K1 := Lib.hid (getvote_any g hgt rnd b A n c l k s w hg hrow hk hkn hn hf)
  have HBK := Lib.hid hbok
  have hgood : (vbk s.flag b).good := by
    unfold vbk
    split
    · exact hb
    · exact .inl ⟨rfl, rfl, rfl⟩
  have hok : ∀ W, Below w.heap.size w W → (vbk s.flag b).ok W W.heap.size := fun W hW => by
    unfold vbk
    split
    · exact hbok.below hW
    · exact ⟨Rd.nil _ _ _ _, Rd.nil _ _ _ _⟩
  have HOK := Lib.hid hok; have HGOOD := Lib.hid hgood
  clear hg hrow hb hbok hok hgood
  unfold ptrTo at *
  go_enter Try.func28, Try.ntmps28
  go_wp2_with fail
  refine K1.out.mono ?_
  rintro e w1 ⟨gv, rfl, hv, hb1⟩
  have K2 := votesign_any gv hgt rnd (vbk s.flag b) s.sec s.nan s.VA s.GA s.vn s.vc s.gn s.gc k chain w1 hv HGOOD.out (HOK.out w1 hb1) hrd hh hs hna hcl
  rw [idB_vbk] at K2
  unfold ptrTo at K2
  have K2 := Lib.hid K2; have HB1 := Lib.hid hb1
  clear hv hb1
  go_wp2_with fail
  refine K2.out.mono ?_
  rintro e w2 ⟨A2, m2, c2, rfl, ho2, hb2⟩
  have HO2 := Lib.hid (ho2.more HB1.out.size); have HB2 := Lib.hid (HB1.out.trans (hb2.mono HB1.out.size)); clear ho2 hb2
  go_wp2
  go_ret
  exact ⟨A2, m2, c2, rfl, HO2.out, HB2.out⟩
end Go.Proofs.Ytikikddkhikfkaa
