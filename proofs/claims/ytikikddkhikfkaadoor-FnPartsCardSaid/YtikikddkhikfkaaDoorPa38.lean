/-
  A set of parts out of data: NewPartSetFromData: the walk. By the session. An empty set of parts out of a header: NewPartSetFromHeader: the walk. Printed by gen_fromhd.py. By the session. Which parts are there, in plain Lean. By the session. A set of parts: Header: the walk. By the session. slices of ints: slices.Index, Contains: walks. By the session. Parts put together again: impl.Parts: the walk. By the session.
-/
import Derived.Test.YtikikddkhikfkaaDoorPa36
import Derived.Test.YtikikddkhikfkaaDoorPa37
import Derived.Laws.Rows
set_option linter.all false
namespace Go.Proofs.YtikikddkhikfkaaDoor
open Go.RowKit

theorem infoPPt : (Tryd.prog.info? 117).map (fun i => (i.zero, i.size, i.bytes)) = some (some (.pointer none), 1, 8) := by kernel_rfl
theorem made_one (z : Value) (hz : z.cells = #[z]) (n : Nat) : (madeCells z.cells (n * 1)).toList = List.replicate n z := by
  rw [Nat.mul_one, hz]
  unfold madeCells
  apply List.ext_getElem
  · simp
  · intro j h1 h2
    simp [Nat.mod_one]
/-- the cells of a part whose proof isn't there yet -/
def partZ (i : Nat) (x : Sb) : Array Value := #[.int .u32 (i : Int), x.cell, .int .i64 0, .int .i64 0, .slice none 0 0, .slice none 0 0]
theorem loop1_step {w wr : World} {lo lo2 P1 P2 n k dc S : Nat} {a : Addr} {d : List UInt8} {bs : List Nat} (hlt : k < n) (h1 : bs.length = k) (hP1 : lo ≤ P1) (hP2 : lo ≤ P2) (h2 : wr.ownsRow lo 117 1 (.slice (some ⟨P1, 0, none⟩) n n) n (bs.map ptrTo ++ List.replicate (n - k) (.pointer none)))
    (h3 : wr.ownsRow lo2 22 1 (.slice (some ⟨P2, 0, none⟩) n n) n ((List.range k).map (fun i => (chunkB a dc S d i).cell) ++ List.replicate (n - k) (.slice none 0 0))) (h4 : ∀ i p, bs[i]? = some p → lo ≤ p ∧ Blk wr p 131 (partZ i (chunkB a dc S d i))) (hb : Below lo w wr) (v : Value) (hv : (chunkB a dc S d k).cell = v) :
    (∃ bs : List Nat, bs.length = k + 1 ∧ (((wr.alloc (.cells #[.int .u32 (k : Int), v, .int .i64 0, .int .i64 0, .slice none 0 0, .slice none 0 0] 131)).setCell ⟨P1, k, none⟩ (.pointer (some ⟨wr.heap.size, 0, none⟩))).setCell ⟨P2, k, none⟩ v).ownsRow lo 117 1 (.slice (some ⟨P1, 0, none⟩) n n) n (bs.map ptrTo ++ List.replicate (n - (k + 1)) (.pointer none)) ∧
      (((wr.alloc (.cells #[.int .u32 (k : Int), v, .int .i64 0, .int .i64 0, .slice none 0 0, .slice none 0 0] 131)).setCell ⟨P1, k, none⟩ (.pointer (some ⟨wr.heap.size, 0, none⟩))).setCell ⟨P2, k, none⟩ v).ownsRow lo2 22 1 (.slice (some ⟨P2, 0, none⟩) n n) n ((List.range (k + 1)).map (fun i => (chunkB a dc S d i).cell) ++ List.replicate (n - (k + 1)) (.slice none 0 0)) ∧
      ∀ i p, bs[i]? = some p → lo ≤ p ∧ Blk (((wr.alloc (.cells #[.int .u32 (k : Int), v, .int .i64 0, .int .i64 0, .slice none 0 0, .slice none 0 0] 131)).setCell ⟨P1, k, none⟩ (.pointer (some ⟨wr.heap.size, 0, none⟩))).setCell ⟨P2, k, none⟩ v) p 131 (partZ i (chunkB a dc S d i))) ∧
    Below lo w (((wr.alloc (.cells #[.int .u32 (k : Int), v, .int .i64 0, .int .i64 0, .slice none 0 0, .slice none 0 0] 131)).setCell ⟨P1, k, none⟩ (.pointer (some ⟨wr.heap.size, 0, none⟩))).setCell ⟨P2, k, none⟩ v) := by
  subst hv
  obtain ⟨V, hV⟩ : ∃ V, V = wr.alloc (.cells #[.int .u32 (k : Int), (chunkB a dc S d k).cell, .int .i64 0, .int .i64 0, .slice none 0 0, .slice none 0 0] 131) := ⟨_, rfl⟩
  have hlw : lo ≤ wr.heap.size := by have := lt_of_own h2; omega
  have hbV : Below wr.heap.size wr V := by rw [hV]; exact (Below.refl _ _).alloc (Nat.le_refl _) _
  have hnew : Blk V wr.heap.size 131 (partZ k (chunkB a dc S d k)) := by rw [hV]; exact Blk.new _ _ _
  rw [← hV]
  have g2 := own_below h2 hbV (Nat.le_refl _)
  have g3 := own_below h3 hbV (Nat.le_refl _)
  have kx1 := KeepX.row g2 k (.pointer (some ⟨wr.heap.size, 0, none⟩))
  have s2 := (g2.stored k (.pointer (some ⟨wr.heap.size, 0, none⟩))).1
  rw [fill_next _ k n _ _ (by rw [List.length_map]; exact h1) hlt] at s2
  have g3' := own_keepX g3 kx1 (by decide)
  have kx2 := KeepX.row g3' k (chunkB a dc S d k).cell
  have s3 := (g3'.stored k (chunkB a dc S d k).cell).1
  rw [fill_next _ k n _ _ (by simp) hlt] at s3
  refine ⟨⟨bs ++ [wr.heap.size], by rw [List.length_append, h1]; rfl, by rw [List.map_append]; exact own_keepX s2 kx2 (by decide), by rw [List.range_succ, List.map_append]; exact s3, fun i p hp => ?_⟩, ((hb.trans (hbV.mono hlw)).setCell (p := ⟨P1, k, none⟩) hP1 _).setCell (p := ⟨P2, k, none⟩) hP2 _⟩
  rcases Nat.lt_or_ge i k with hik | hik
  · rw [List.getElem?_append_left (by omega)] at hp
    obtain ⟨q1, q2⟩ := h4 i p hp
    exact ⟨q1, kx2 _ _ _ (by decide) (kx1 _ _ _ (by decide) (q2.belowS hbV))⟩
  · have hi2 := (List.getElem?_eq_some_iff.1 hp).1
    rw [List.length_append, h1, List.length_singleton] at hi2
    obtain rfl : i = k := by omega
    rw [List.getElem?_append_right (by omega), h1, Nat.sub_self, List.getElem?_cons_zero] at hp
    injection hp with hp
    subst hp
    exact ⟨hlw, kx2 _ _ _ (by decide) (kx1 _ _ _ (by decide) hnew)⟩
/-- a proof's parts -/
structure PrW where
  q : Nat
  LA : Option Addr
  AA : Option Addr
  lc : Nat
  ac : Nat
  au : List Sb
def PrAt (w : World) (lo : Nat) (ls : List (List UInt8)) (i : Nat) (x : PrW) : Prop :=
  Blk w x.q 129 #[.int .i64 (ls.length : Int), .int .i64 (i : Int), .slice x.LA 32 x.lc, .slice x.AA x.au.length x.ac] ∧ Own8 w lo x.LA 32 x.lc (leafL (ls.getD i [])) ∧ w.ownsRow lo 22 1 (.slice x.AA x.au.length x.ac) x.au.length (x.au.map Sb.cell) ∧ (∀ y ∈ x.au, SbO lo w y) ∧ x.au.map Sb.s = auntsL ls i
theorem proofs_fn {w : World} {lo n : Nat} {ls : List (List UInt8)} {qs : List Nat} (hl : qs.length = n) (h : ∀ i q, qs[i]? = some q → PrOk w lo ls i q) : ∃ f : Nat → PrW, ∀ i, i < n → qs[i]? = some (f i).q ∧ PrAt w lo ls i (f i) := by
  refine Classical.axiomOfChoice (r := fun i (x : PrW) => i < n → qs[i]? = some x.q ∧ PrAt w lo ls i x) fun i => ?_
  by_cases hi : i < n
  · have hq : qs[i]? = some qs[i] := List.getElem?_eq_getElem (by omega)
    obtain ⟨LA, AA, lc, ac, au, h1, h2, h3, h4, h5⟩ := h i _ hq
    exact ⟨⟨qs[i], LA, AA, lc, ac, au⟩, fun _ => ⟨hq, h1, h2, h3, h4, h5⟩⟩
  · exact ⟨⟨0, none, none, 0, 0, []⟩, fun h => absurd h hi⟩
/-- a part's cells, its proof put in when i is below k -/
def partK (ls : List (List UInt8)) (f : Nat → PrW) (k i : Nat) (x : Sb) : Array Value := if i < k then partC i x.a x.s.length x.c ls.length i (f i).LA (f i).lc (f i).AA (f i).au.length (f i).ac else partZ i x
theorem fill4 (z a b c d u v : Value) (y1 y2 y3 y4 : Value) : ((((#[u, v, y1, y2, y3, y4] : Array Value).setIfInBounds 2 a).setIfInBounds 3 b).setIfInBounds 4 c).setIfInBounds 5 d = #[u, v, a, b, c, d] := rfl
theorem loop2_step {wr : World} {ls : List (List UInt8)} {f : Nat → PrW} {x : Nat → Sb} {bs : List Nat} {j p n : Nat} (hn : ls.length = n) (hpp : ∀ i p, bs[i]? = some p → Blk wr p 131 (partK ls f j i (x i))) (hp : bs[j]? = some p) :
    (∀ i p', bs[i]? = some p' → Blk ((((wr.setCell ⟨p, 2, none⟩ (.int .i64 (n : Int))).setCell ⟨p, 3, none⟩ (.int .i64 (j : Int))).setCell ⟨p, 4, none⟩ (.slice (f j).LA 32 (f j).lc)).setCell ⟨p, 5, none⟩ (.slice (f j).AA (f j).au.length (f j).ac)) p' 131 (partK ls f (j + 1) i (x i))) ∧
    KeepX 131 wr ((((wr.setCell ⟨p, 2, none⟩ (.int .i64 (n : Int))).setCell ⟨p, 3, none⟩ (.int .i64 (j : Int))).setCell ⟨p, 4, none⟩ (.slice (f j).LA 32 (f j).lc)).setCell ⟨p, 5, none⟩ (.slice (f j).AA (f j).au.length (f j).ac)) := by
  have hb := hpp j p hp
  unfold partK at hb
  rw [if_neg (by omega)] at hb
  have b2 := hb.put 2 (.int .i64 (n : Int))
  have b3 := b2.put 3 (.int .i64 (j : Int))
  have b4 := b3.put 4 (.slice (f j).LA 32 (f j).lc)
  have b5 := b4.put 5 (.slice (f j).AA (f j).au.length (f j).ac)
  refine ⟨fun i p' hp' => ?_, (((KeepX.put hb _ _).trans (KeepX.put b2 _ _)).trans (KeepX.put b3 _ _)).trans (KeepX.put b4 _ _)⟩
  by_cases hij : i = j
  · subst hij
    rw [hp] at hp'
    obtain rfl : p = p' := Option.some.inj hp'
    unfold partK
    rw [if_pos (by omega), hn]
    unfold partZ at b5
    rw [fill4 (.bool true)] at b5
    unfold Sb.cell at b5
    unfold partC
    exact b5
  · have hne : p' ≠ p := by
      intro e
      subst e
      have h1 := (hpp i p' hp').cell 0
      rw [hb.cell 0] at h1
      unfold partK at h1
      split at h1 <;>
        (simp [partZ, partC] at h1; omega)
    have h1 := hpp i p' hp'
    have e : partK ls f (j + 1) i (x i) = partK ls f j i (x i) := by
      unfold partK
      by_cases h2 : i < j
      · rw [if_pos h2, if_pos (by omega)]
      · rw [if_neg h2, if_neg (by omega)]
    rw [e]
    exact (((h1.far (p := ⟨p, 2, none⟩) hne _).far (p := ⟨p, 3, none⟩) hne _).far (p := ⟨p, 4, none⟩) hne _).far (p := ⟨p, 5, none⟩) hne _
theorem own_cap {w : World} {base e size n c : Nat} {A : Option Addr} {xs : List Value} (h : w.ownsRow base e size (.slice A n c) n xs) : n ≤ c := by
  rcases h.2 with ⟨h1, h2⟩ | ⟨g, cap, cur, hv, _, _, h2, _⟩
  · omega
  · injection hv with _ _ h3; omega
theorem part_at {w5 w6 w' : World} {lo i p : Nat} {ls : List (List UInt8)} {x : PrW} {y : Sb} (h : PrAt w5 lo ls i x) (k : KeepX 131 w5 w6) (hb : Below w6.heap.size w6 w') (hblk : Blk w6 p 131 (partC i y.a y.s.length y.c ls.length i x.LA x.lc x.AA x.au.length x.ac)) (hy : Rd w' w'.heap.size 1 y.a y.s.length (bc y.s)) (hyc : y.s.length ≤ y.c) (hyb : ∀ ad, y.a = some ad → ad.block < w'.heap.size) : PartAt w' ls i y.s p := by
  obtain ⟨h1, h2, h3, h4, h5⟩ := h
  have o2 := own_below (own_keepX h2 k (by decide)) hb (Nat.le_refl _)
  have o3 := own_below (own_keepX h3 k (by decide)) hb (Nat.le_refl _)
  have o4 : ∀ z ∈ x.au, SbO lo w' z := fun z hz => own_below (own_keepX (h4 z hz) k (by decide)) hb (Nat.le_refl _)
  exact ⟨y.a, x.LA, x.AA, y.c, x.lc, x.ac, x.au, hblk.belowS hb, rdB_own o3 o4, own_cap o3, Own8.rd o2, Own8.cap o2, fun ad e => (Own8.at_ o2 ad.block (by rw [e]; rfl)).2, hy, hyc, hyb, h5⟩
set_option maxRecDepth 100000 in
set_option maxHeartbeats 12800000 in
theorem newSet_any (a : Addr) (dc S : Nat) (d : List UInt8) (w : World) (hr : Rd w w.heap.size 1 (some a) d.length (bc d)) (hdc : d.length ≤ dc) (hab : a.block < w.heap.size) (hd1 : 1 ≤ d.length) (hd : d.length ≤ 5000) (hS1 : 16 ≤ S) (hS : S ≤ 1015) (hK : Kw w) :
    Calls Tryd.prog 52 #[.slice (some a) d.length dc, .int .u32 (S : Int)] w fun e w' => ∃ (g : Nat) (PA : Option Addr) (pc : Nat) (bs : List Nat) (RA : Addr) (rc : Nat) (bits : Value) (sz : Int), e = .returned (.pointer (some ⟨g, 0, none⟩)) ∧ Blk w' g 169 (psC (chunkN S d.length) (some RA) 32 rc PA (chunkN S d.length) pc bits (chunkN S d.length) sz) ∧
      Rd w' w'.heap.size 1 PA (chunkN S d.length) (bs.map ptrTo) ∧ Rd w' w'.heap.size 1 (some RA) 32 (bc (rootL (chunksL S d))) ∧ RA.block < w'.heap.size ∧ 32 ≤ rc ∧ (∀ i p, bs[i]? = some p → PartAt w' (chunksL S d) i (chunkS S d i) p) ∧ Below w.heap.size w w' := by
  obtain ⟨L, hL⟩ : ∃ L, L = d.length := ⟨_, rfl⟩
  obtain ⟨n, hn⟩ : ∃ n, n = chunkN S L := ⟨_, rfl⟩
  have hn1 : 1 ≤ n := by rw [hn]; exact chunkN_pos (by omega) (by omega)
  have hnL : n ≤ L := by rw [hn]; exact chunkN_le (by omega)
  rw [← hL] at hdc hd1 hd ⊢
  rw [← hn]
  have hq0 : ((L : Int) + (S : Int) - 1) / (S : Int) = (n : Int) := by
    rw [hn]; unfold chunkN; rw [show ((L : Int) + (S : Int) - 1) = ((L + S - 1 : Nat) : Int) by omega]; exact (Int.natCast_ediv _ _).symm
  obtain ⟨i0, hi0, hz0, hz1, hz2⟩ := info_parts infoPPt
  obtain ⟨j0, hj0, hy0, hy1, hy2⟩ := info_parts infoBs
  obtain ⟨w1, hmk1, how1, hg1⟩ := run_make_full (P := Tryd.prog) (w := w) w.heap.size 159 117 i0 _ 1 Tryd.underlying159 hi0 hz0 hz1 .u32 .u32 n (by rw [hz2]; omega) (by simp only [maxLen]; omega) (Nat.le_refl _)
  obtain ⟨w2, hmk2, how2, hg2⟩ := run_make_full (P := Tryd.prog) (w := w1) w1.heap.size 61 22 j0 _ 1 Tryd.underlying61 hj0 hy0 hy1 .u32 .u32 n (by rw [hy2]; omega) (by simp only [maxLen]; omega) (Nat.le_refl _)
  have hb1 : Below w.heap.size w w1 := (Below.refl _ _).grown hg1 (Nat.le_refl _) (fun k e => by cases e)
  have hb2 : Below w1.heap.size w1 w2 := (Below.refl _ _).grown hg2 (Nat.le_refl _) (fun k e => by cases e)
  rw [made_one _ rfl] at how1 how2
  have HB1 := Lib.hid hb1; have HB2 := Lib.hid (hb1.trans (hb2.mono hb1.size))
  have HO1 := Lib.hid (own_below how1 hb2 (Nat.le_refl _)); have HO2 := Lib.hid how2
  have HR := Lib.hid hr; have HK := Lib.hid hK; have HN := Lib.hid hn; have HAB := Lib.hid hab; have HL := Lib.hid hL
  clear how1 how2 hg1 hg2 hb1 hb2 hi0 hz0 hz1 hz2 hj0 hy0 hy1 hy2 hr hK hn hab hL
  go_enter Tryd.func52, Tryd.ntmps52
  go_wp2_with fail
  simp only [hq0]
  clear hq0 hmk1 hmk2
  have hn313 : n ≤ 5000 := by omega
  go_loopw [8, 9] (fun i _ wr => ∃ k : Nat, k ≤ n ∧ i = .int .u32 k ∧ Hid (∃ bs : List Nat, bs.length = k ∧ wr.ownsRow w.heap.size 117 1 (.slice (some ⟨w.heap.size, 0, none⟩) n n) n (bs.map ptrTo ++ List.replicate (n - k) (.pointer none)) ∧ wr.ownsRow w1.heap.size 22 1 (.slice (some ⟨w1.heap.size, 0, none⟩) n n) n ((List.range k).map (fun i => (chunkB a dc S d i).cell) ++ List.replicate (n - k) (.slice none 0 0)) ∧ ∀ i p, bs[i]? = some p → w.heap.size ≤ p ∧ Blk wr p 131 (partZ i (chunkB a dc S d i))) ∧ Hid (Below w.heap.size w wr)) (fun i _ _ => n - (intOf i).toNat)
  case atStart => exact ⟨0, Nat.zero_le _, rfl, Lib.hid ⟨[], rfl, by simpa using HO1.out, by simpa using HO2.out, fun i q h => by simp at h⟩, HB2.out⟩
  case round =>
    obtain ⟨k, hk, rfl, HQ, HB⟩ := hrel
    by_cases hlt : k < n
    · have hkS : k * S < L := by rw [HN.out] at hlt; exact (chunkN_lt (by omega)).1 hlt
      obtain ⟨q, hq⟩ : ∃ q, q = k * S := ⟨_, rfl⟩
      obtain ⟨q2, hq2⟩ : ∃ q2, q2 = q + S := ⟨_, rfl⟩
      obtain ⟨m, hm⟩ : ∃ m, m = min L q2 := ⟨_, rfl⟩
      have hmul : (k : Int) * (S : Int) = (q : Int) := by rw [hq]; exact (Int.natCast_mul _ _).symm
      have hmul2 : ((k : Int) + 1) * (S : Int) = (q2 : Int) := by rw [Int.add_mul, hmul, hq2]; omega
      rw [← hq] at hkS
      have hqm : q ≤ m := by omega
      have hmc : m ≤ dc := by omega
      have hmL : m ≤ 5000 := by omega
      have hq2L : q2 ≤ 10000 := by omega
      have hmin : min (L : Int) (q2 : Int) = (m : Int) := by omega
      have KM := Lib.hid (fun W => by have h := minInt_any (L : Int) (q2 : Int) W; rw [hmin] at h; exact h)
      have hcellx : Hid ((chunkB a dc S d k).cell = .slice (some (a.add q)) (m - q) (dc - q)) := Lib.hid (by
        unfold chunkB Sb.cell
        rw [chunkS_len, ← HL.out, ← hq]
        congr 1
        omega)
      have hP1 : w.heap.size < wr.heap.size := by
        obtain ⟨bs, _, h1, _⟩ := HQ.out; exact lt_of_own h1
      have hP2 : w1.heap.size < wr.heap.size := by
        obtain ⟨bs, _, _, h1, _⟩ := HQ.out; exact lt_of_own h1
      have hc1 : ∀ o, (wr.alloc o).cell? ⟨w.heap.size, k, none⟩ = some (.pointer none) := fun o => by
        obtain ⟨bs, h1, h2, _⟩ := HQ.out
        rw [(h2.alloc o).cellAt k (by omega), List.getElem?_append_right (by rw [List.length_map, h1]; exact Nat.le_refl _), List.getElem?_replicate, if_pos (by rw [List.length_map, h1]; omega)]
      have hc2 : ∀ o, (wr.alloc o).cell? ⟨w1.heap.size, k, none⟩ = some (.slice none 0 0) := fun o => by
        obtain ⟨bs, h1, h3, h2, _⟩ := HQ.out
        rw [(h2.alloc o).cellAt k (by omega), List.getElem?_append_right (by simp), List.getElem?_replicate, if_pos (by simp; omega)]
      have hf1 : ∀ o j, (wr.alloc o).frozen? ⟨w.heap.size, j, none⟩ = false := fun o j => by
        obtain ⟨bs, h1, h2, _⟩ := HQ.out; exact (h2.alloc o).frozenAt j
      have hf2 : ∀ o j, (wr.alloc o).frozen? ⟨w1.heap.size, j, none⟩ = false := fun o j => by
        obtain ⟨bs, h1, h3, h2, _⟩ := HQ.out; exact (h2.alloc o).frozenAt j
      have hne12 : ¬ w.heap.size = w1.heap.size := fun e => by
        obtain ⟨bs, h1, h2, h3, _⟩ := HQ.out
        obtain ⟨cs, hb⟩ := own_block h3
        exact own_ne_blk h2 hb (by decide) (by rw [e]; rfl)
      have hne1 : ¬ wr.heap.size = w.heap.size := by omega
      have hne2 : ¬ wr.heap.size = w1.heap.size := by omega
      have hne3 : ¬ w1.heap.size = w.heap.size := fun e => hne12 e.symm
      have HKQ := Lib.hid (And.intro hq (And.intro hq2 hm))
      clear hq hq2 hm hP1 hP2
      go_wp2_with fail
      refine (KM.out _).mono ?_
      rintro e w9 ⟨rfl, rfl⟩
      go_wp2_with fail
      obtain ⟨bs, b1, b2, b3, b4⟩ := HQ.out
      have HST := Lib.hid (loop1_step hlt b1 (Nat.le_refl _) HB1.out.size b2 b3 b4 HB.out _ hcellx.out)
      clear b1 b2 b3 b4 hc1 hc2 hf1 hf2
      go_roundw
      case rel => exact ⟨k + 1, by omega, by go_num, HST.out.1, HST.out.2⟩
      case measure => simp [intOf]; omega
    · obtain rfl : k = n := by omega
      obtain ⟨bs, b1, b2, b3, b4⟩ := HQ.out
      rw [Nat.sub_self, List.replicate_zero, List.append_nil] at b2 b3
      have hrd := rdB_chunks (S := S) (dc := dc) (d := d) (by rw [← HL.out]; exact HN.out) (by omega) ((HR.out.below HB.out).more HB.out.size) (Nat.lt_of_lt_of_le HAB.out HB.out.size) (by rw [← HL.out]; exact hdc) (Rd.of_own b3)
      have hcs := chunks_s a dc S d k (by rw [← HL.out]; exact HN.out)
      have KP := Lib.hid (proofs_any (some ⟨w1.heap.size, 0, none⟩) k k _ wr hrd (Nat.le_refl _) hn1 (by omega) (fun x hx => by
        obtain ⟨i, _, rfl⟩ := List.mem_map.1 hx
        show (chunkS S d i).length ≤ _
        rw [chunkS_len]; omega) (HK.out.belowS HB.out))
      rw [hcs] at KP
      have HBS := Lib.hid b1; have HO3 := Lib.hid b2; have HP4 := Lib.hid b4
      clear hrd hcs b1 b2 b3 b4
      go_wp2_with fail
      refine KP.out.mono ?_
      rintro e w5 ⟨RA, PA, rc, pc, qs, rfl, hsum, hprow, hpr, hb5⟩
      have hql : qs.length = k := by have := hprow.1; rw [List.length_map] at this; omega
      obtain ⟨f, hf⟩ := proofs_fn hql hpr
      have HF := Lib.hid hf; have HSUM := Lib.hid hsum; have HPR := Lib.hid hprow; have HB5 := Lib.hid hb5
      have HO5 := Lib.hid (own_below HO3.out hb5 (Nat.le_refl _))
      have HP5 : Hid (∀ i p, bs[i]? = some p → w.heap.size ≤ p ∧ Blk w5 p 131 (partZ i (chunkB a dc S d i))) := Lib.hid fun i p h => ⟨(HP4.out i p h).1, (HP4.out i p h).2.belowS hb5⟩
      have hlsl : (chunksL S d).length = k := by rw [chunksL_len, ← HL.out]; exact HN.out.symm
      have HLS := Lib.hid hlsl
      clear hql hf hsum hprow hpr hb5 KP hlsl
      go_wp2_with fail
      go_loopw [12] (fun i wr => ∃ j : Nat, j ≤ k ∧ i = .int .u32 j ∧ Hid (∀ i p, bs[i]? = some p → Blk wr p 131 (partK (chunksL S d) f j i (chunkB a dc S d i))) ∧ Hid (KeepX 131 w5 wr) ∧ Hid (Below w.heap.size w wr)) (fun i _ => k - (intOf i).toNat)
      case atStart => exact ⟨0, Nat.zero_le _, rfl, fun i p h => by unfold partK; rw [if_neg (by omega)]; exact (HP5.out i p h).2, fun _ _ _ _ h => h, HB.out.trans (HB5.out.mono HB.out.size)⟩
      case round =>
        obtain ⟨j, hj, rfl, HPP, HKX, HBB⟩ := hrel
        by_cases hlt2 : j < k
        · obtain ⟨p, hp⟩ : ∃ p, bs[j]? = some p := ⟨_, List.getElem?_eq_getElem (by have := HBS.out; omega)⟩
          have hcp : wr.cell? ⟨w.heap.size, j, none⟩ = some (.pointer (some ⟨p, 0, none⟩)) := by
            rw [(own_keepX HO5.out HKX.out (by decide)).cellAt j (by omega), List.getElem?_map, hp]; rfl
          obtain ⟨hq1, hq2, hq3, hq4, hq5, hq6⟩ := HF.out j hlt2
          obtain ⟨ad, hPA, _, hcq0⟩ := (Rd.of_own (own_keepX HPR.out HKX.out (by decide))).2 j (ptrTo (f j).q) (by rw [List.getElem?_map, hq1]; rfl)
          subst hPA
          have hcq : wr.cell? (ad.add j) = some (.pointer (some ⟨(f j).q, 0, none⟩)) := hcq0
          clear hcq0
          have hbq := HKX.out _ _ _ (by decide) hq2
          rw [HLS.out] at hbq
          have hbp := HPP.out j p hp
          have hbp0 := hbp
          unfold partK at hbp
          rw [if_neg (by omega)] at hbp
          have rq : ∀ t, wr.cell? ⟨(f j).q, t, none⟩ = (#[.int .i64 (k : Int), .int .i64 (j : Int), .slice (f j).LA 32 (f j).lc, .slice (f j).AA (f j).au.length (f j).ac] : Array Value)[t]? := fun t => hbq.cell t
          have rp : ∀ t, wr.cell? ⟨p, t, none⟩ = (#[.int .u32 (j : Int), (chunkB a dc S d j).cell, .int .i64 0, .int .i64 0, .slice none 0 0, .slice none 0 0] : Array Value)[t]? := fun t => hbp.cell t
          have hfp : ∀ t, wr.frozen? ⟨p, t, none⟩ = false := fun t => hbp.free t
          have hpq : ¬ p = (f j).q := Blk.ne hbp hbq (by decide)
          have hqp : ¬ (f j).q = p := fun e => hpq e.symm
          have HHP := Lib.hid hp; have HHB := Lib.hid hbp
          clear hq1 hq2 hq3 hq4 hq5 hq6 hbq hbp hbp0 hp
          go_wp2_with fail
          go_region
          have HST := Lib.hid (loop2_step (x := chunkB a dc S d) HLS.out HPP.out HHP.out)
          have HLO : Hid (w.heap.size ≤ p) := Lib.hid (HP5.out j p HHP.out).1
          clear rq rp hfp hpq hqp hcp hcq
          go_wp2_with fail
          go_roundw
          case rel => exact ⟨j + 1, by omega, by go_num, fun i p' h => (HST.out.1 i p' h).drew, fun q t cs ht hb => (HST.out.2 q t cs ht (HKX.out q t cs ht hb)).drew, ((((HBB.out.setCell (p := ⟨p, 2, none⟩) HLO.out _).setCell (p := ⟨p, 3, none⟩) HLO.out _).setCell (p := ⟨p, 4, none⟩) HLO.out _).setCell (p := ⟨p, 5, none⟩) HLO.out _).drew⟩
          case measure => simp [intOf]; omega
        · obtain rfl : j = k := by omega
          obtain ⟨ra, hra, hrab, _⟩ := HSUM.out.rd.2 0 _ (bc_get (List.getElem?_eq_getElem (by rw [rootL_length]; decide)))
          subst hra
          go_wp2_with fail
          refine (bitsFromFn_any j hn1 (by omega) _).mono ?_
          rintro e w7 ⟨gb, rfl, hbt, hb7⟩
          have HB7 := Lib.hid hb7
          clear hbt hb7
          go_wp2_with fail
          go_ret
          have hb8 : Below w7.heap.size w7 (w7.alloc (.cells #[.int .u32 (j : Int), .slice (some ra) 32 rc, .slice (some ⟨w.heap.size, 0, none⟩) j j, .pointer (some ⟨gb, 0, none⟩), .int .u32 (j : Int), .int .i64 (L : Int)] 169)) := (Below.refl _ _).alloc (Nat.le_refl _) _
          have hb78 := HB7.out.trans (hb8.mono HB7.out.size)
          have hball := HBB.out.trans (hb78.mono HBB.out.size)
          have hroot := own_below (own_keepX HSUM.out HKX.out (by decide)) hb78 (Nat.le_refl _)
          refine ⟨w7.heap.size, some ⟨w.heap.size, 0, none⟩, j, bs, ra, rc, _, _, rfl, Blk.new _ _ _, Rd.of_own (own_below (own_keepX HO5.out HKX.out (by decide)) hb78 (Nat.le_refl _)), Own8.rd hroot, (Own8.at_ hroot ra.block rfl).2, Own8.cap hroot, fun i p hp => ?_, hball⟩
          have hi : i < j := by have := (List.getElem?_eq_some_iff.1 hp).1; rw [HBS.out] at this; exact this
          have hbk := HPP.out i p hp
          unfold partK at hbk
          rw [if_pos hi] at hbk
          have hiS : i * S < d.length := by rw [HN.out, HL.out] at hi; exact (chunkN_lt (by omega)).1 hi
          exact part_at (y := chunkB a dc S d i) (HF.out i hi).2 HKX.out hb78 hbk ((rd_chunk ((HR.out.below hball).more hball.size) hiS)) (by show (chunkS S d i).length ≤ dc - i * S; rw [chunkS_len]; have := HL.out; omega) (fun ad e => by injection e with e; rw [← e, add_block]; exact Nat.lt_of_lt_of_le HAB.out hball.size)
end Go.Proofs.YtikikddkhikfkaaDoor

set_option linter.all false
namespace Go.Proofs.YtikikddkhikfkaaDoor
open Go.RowKit

section
variable {P : Program} {md : Region.Mode} {ops : Array Oper} {Q : Exit → Act → World → Prop} {S : World → Prop} {s : Nat}
/-- one of two may come up: the operations open -/
theorem wpAnyL_pair (i j : Nat) {fuel : Nat} {listed : Array Bool} {a : Act} {w : World} (hr : Region.ready md ops listed = [i, j]) (hi : ∃ oi, ops[i]? = some oi) (hj : ∃ oj, ops[j]? = some oj) (g1 : ∀ oi, ops[i]? = some oi → oi.guard = none) (g2 : ∀ oj, ops[j]? = some oj → oj.guard = none)
    (h1 : ∀ oi, ops[i]? = some oi → oi.wp P a w (fun a' w' => (i ≠ s → S w') ∧ wpAnyL P md ops Q S s fuel (listed.setIfInBounds i true) a' w') Q)
    (h2 : ∀ oj, ops[j]? = some oj → oj.wp P a w (fun a' w' => (j ≠ s → S w') ∧ wpAnyL P md ops Q S s fuel (listed.setIfInBounds j true) a' w') Q) : wpAnyL P md ops Q S s (fuel + 1) listed a w := by
  obtain ⟨oi, hi⟩ := hi
  obtain ⟨oj, hj⟩ := hj
  exact wpAnyL_two i j hi hj hr (g1 oi hi) (g2 oj hj) (h1 oi hi) (h2 oj hj)
/-- one may come up: the operation open -/
theorem wpAnyL_the (i : Nat) {fuel : Nat} {listed : Array Bool} {a : Act} {w : World} (hr : Region.ready md ops listed = [i]) (hi : ∃ oi, ops[i]? = some oi) (g1 : ∀ oi, ops[i]? = some oi → oi.guard = none)
    (h1 : ∀ oi, ops[i]? = some oi → oi.wp P a w (fun a' w' => (i ≠ s → S w') ∧ wpAnyL P md ops Q S s fuel (listed.setIfInBounds i true) a' w') Q) : wpAnyL P md ops Q S s (fuel + 1) listed a w := by
  obtain ⟨oi, hi⟩ := hi
  exact wpAnyL_one i hi hr (g1 oi hi) (h1 oi hi)
theorem wp_make {o : Oper} {a : Act} {K : Act → World → Prop} {Q : Exit → Act → World → Prop} {w w2 : World} (ty : TypeId) (x y : Operand) (d : Option Nat) (ho : o.op = .makeSlice ty x y) (hd : o.dst = d) (u1 u2 : Value) (hx : a.eval x = u1) (hy : a.eval y = u2) (v : Value) (hrun : (Instr.makeSlice ty u1 u2).run P w = .ok v w2) (h : K (a.put d v) w2) : o.wp P a w K Q := by
  unfold Oper.wp execOp
  subst hd
  simp only [ho, hx, hy, Sem.run_bind, Sem.run_pure, Sem.run_map, Result.andThen_ok, hrun]
  exact h
end
theorem BitsOk.lower {w : World} {lo lo' gb n : Nat} (h : BitsOk w lo gb n) (hl : lo' ≤ lo) : BitsOk w lo' gb n := by
  obtain ⟨k, e, xs, h1, h2, h3, h4, h5⟩ := h
  exact ⟨k, e, xs, Nat.le_trans hl h1, Nat.le_trans hl h2, h3, own_more h4 hl, h5⟩
theorem header_end {w V : World} {gb P n rc : Nat} {RA : Addr} (hlo : w.heap.size ≤ P) (hV : Below w.heap.size w V) (hrow : V.ownsRow w.heap.size 117 1 (.slice (some ⟨P, 0, none⟩) n n) n (List.replicate n (.pointer none))) (hb : BitsOk V w.heap.size gb n) :
    Got (V.alloc (.cells #[.int .u32 (n : Int), .slice (some RA) 32 rc, .slice (some ⟨P, 0, none⟩) n n, .pointer (some ⟨gb, 0, none⟩), .int .u32 0, .int .i64 0] 169)) w.heap.size V.heap.size n RA rc (List.replicate n none) 0 ∧ Below w.heap.size w (V.alloc (.cells #[.int .u32 (n : Int), .slice (some RA) 32 rc, .slice (some ⟨P, 0, none⟩) n n, .pointer (some ⟨gb, 0, none⟩), .int .u32 0, .int .i64 0] 169)) := by
  have h1 : Below V.heap.size V (V.alloc (.cells #[.int .u32 (n : Int), .slice (some RA) 32 rc, .slice (some ⟨P, 0, none⟩) n n, .pointer (some ⟨gb, 0, none⟩), .int .u32 0, .int .i64 0] 169)) := (Below.refl _ _).alloc (Nat.le_refl _) _
  refine ⟨⟨some ⟨P, 0, none⟩, n, gb, 0, hV.size, Blk.new _ _ _, ?_, hb.below h1⟩, hV.trans (h1.mono hV.size)⟩
  rw [List.map_replicate]
  exact own_below hrow h1 (Nat.le_refl _)
set_option maxRecDepth 100000 in
set_option maxHeartbeats 6400000 in
theorem fromHd_any (n rc : Nat) (RA : Addr) (w : World) (hn : 1 ≤ n) (h6 : n ≤ 1000000) :
    Calls Tryd.prog 53 #[.agg #[.int .u32 (n : Int), .slice (some RA) 32 rc]] w fun e w' => ∃ g, e = .returned (.pointer (some ⟨g, 0, none⟩)) ∧ Got w' w.heap.size g n RA rc (List.replicate n none) 0 ∧ Below w.heap.size w w' := by
  obtain ⟨i0, hi0, hz0, hz1, hz2⟩ := info_parts infoPPt
  obtain ⟨W0, hW0⟩ : ∃ W0, W0 = w.alloc (.cells #[.int .u32 (n : Int), .slice (some RA) 32 rc] 92) := ⟨_, rfl⟩
  have hb0 : Below w.heap.size w W0.drew := by rw [hW0]; exact ((Below.refl _ _).alloc (Nat.le_refl _) _).drew
  have hS0 : Hid (Blk W0.drew w.heap.size 92 #[.int .u32 (n : Int), .slice (some RA) 32 rc]) := Lib.hid (by rw [hW0]; exact (Blk.new _ _ _).drew)
  have HB0 := Lib.hid hb0
  have KM := Lib.hid (fun (W : World) => run_make_full (P := Tryd.prog) (w := W) W.heap.size 159 117 i0 _ 1 Tryd.underlying159 hi0 hz0 hz1 .u32 .u32 n (by rw [hz2]; omega) (by simp only [maxLen]; omega) (Nat.le_refl _))
  have hwr : IntKind.i64.wrap (n : Int) = (n : Int) := by rw [IntKind.wrap_i64]; omega
  clear hb0
  go_enter Tryd.func53, Tryd.ntmps53
  go_wp2_with fail
  rw [← hW0]
  clear hW0 hi0 hz0 hz1 hz2
  refine wp_region_L (fun w' : World => Blk w' w.heap.size 92 #[.int .u32 (n : Int), .slice (some RA) 32 rc]) 13 (by kernel_rfl) ?_
  refine wpAnyL_take 0 (v := .pointer (some ⟨w.heap.size, 0, none⟩)) rfl (by kernel_rfl) (fun _ _ _ h => h) (yields_on (by kernel_rfl) (fun w' hw' => by go_simp)) hS0.out ?_
  simp only [Act.put, List.setIfInBounds_toArray, List.set_cons_zero, List.set_cons_succ]
  refine wpAnyL_take 1 (v := .int .u32 (n : Int)) rfl (by kernel_rfl) (fun _ _ _ h => h) (yields_on (by kernel_rfl) (fun w' hw' => by have r : ∀ j, w'.cell? ⟨w.heap.size, j, none⟩ = (#[.int .u32 (n : Int), .slice (some RA) 32 rc] : Array Value)[j]? := (fun j => Blk.cell hw' j); go_simp)) hS0.out ?_
  simp only [Act.put, List.setIfInBounds_toArray, List.set_cons_zero, List.set_cons_succ]
  refine wpAnyL_take 2 (v := .pointer (some ⟨w.heap.size, 1, none⟩)) rfl (by kernel_rfl) (fun _ _ _ h => h) (yields_on (by kernel_rfl) (fun w' hw' => by go_simp)) hS0.out ?_
  simp only [Act.put, List.setIfInBounds_toArray, List.set_cons_zero, List.set_cons_succ]
  refine wpAnyL_take 3 (v := .slice (some RA) 32 rc) rfl (by kernel_rfl) (fun _ _ _ h => h) (yields_on (by kernel_rfl) (fun w' hw' => by have r : ∀ j, w'.cell? ⟨w.heap.size, j, none⟩ = (#[.int .u32 (n : Int), .slice (some RA) 32 rc] : Array Value)[j]? := (fun j => Blk.cell hw' j); go_simp)) hS0.out ?_
  simp only [Act.put, List.setIfInBounds_toArray, List.set_cons_zero, List.set_cons_succ]
  refine wpAnyL_take 4 (v := .pointer (some ⟨w.heap.size, 0, none⟩)) rfl (by kernel_rfl) (fun _ _ _ h => h) (yields_on (by kernel_rfl) (fun w' hw' => by go_simp)) hS0.out ?_
  simp only [Act.put, List.setIfInBounds_toArray, List.set_cons_zero, List.set_cons_succ]
  refine wpAnyL_take 5 (v := .int .u32 (n : Int)) rfl (by kernel_rfl) (fun _ _ _ h => h) (yields_on (by kernel_rfl) (fun w' hw' => by have r : ∀ j, w'.cell? ⟨w.heap.size, j, none⟩ = (#[.int .u32 (n : Int), .slice (some RA) 32 rc] : Array Value)[j]? := (fun j => Blk.cell hw' j); go_simp)) hS0.out ?_
  simp only [Act.put, List.setIfInBounds_toArray, List.set_cons_zero, List.set_cons_succ]
  refine wpAnyL_take 7 (v := .pointer (some ⟨w.heap.size, 0, none⟩)) rfl (by kernel_rfl) (fun _ _ _ h => h) (yields_on (by kernel_rfl) (fun w' hw' => by go_simp)) hS0.out ?_
  simp only [Act.put, List.setIfInBounds_toArray, List.set_cons_zero, List.set_cons_succ]
  refine wpAnyL_take 8 (v := .int .u32 (n : Int)) rfl (by kernel_rfl) (fun _ _ _ h => h) (yields_on (by kernel_rfl) (fun w' hw' => by have r : ∀ j, w'.cell? ⟨w.heap.size, j, none⟩ = (#[.int .u32 (n : Int), .slice (some RA) 32 rc] : Array Value)[j]? := (fun j => Blk.cell hw' j); go_simp)) hS0.out ?_
  simp only [Act.put, List.setIfInBounds_toArray, List.set_cons_zero, List.set_cons_succ]
  refine wpAnyL_take 9 (v := .int .i64 (n : Int)) rfl (by kernel_rfl) (fun _ _ _ h => h) (yields_on (by kernel_rfl) (fun w' hw' => by go_simp)) hS0.out ?_
  simp only [Act.put, List.setIfInBounds_toArray, List.set_cons_zero, List.set_cons_succ]
  go_simp
  refine wpAnyL_pair 6 10 ?hr ⟨_, rfl⟩ ⟨_, rfl⟩ (fun o ho => by obtain rfl := Option.some.inj ho; rfl) (fun o ho => by obtain rfl := Option.some.inj ho; rfl) ?h6 ?h10
  case hr => kernel_rfl
  case h6 =>
    intro o ho
    obtain ⟨w2, hmk, how, hg⟩ := KM.out W0.drew
    rw [made_one _ rfl] at how
    have hb2 : Below W0.drew.heap.size W0.drew w2 := (Below.refl _ _).grown hg (Nat.le_refl _) (fun k e => by cases e)
    have HB2 := Lib.hid (HB0.out.trans (hb2.mono HB0.out.size))
    have HO2 := Lib.hid (own_more how (base' := w.heap.size) HB0.out.size)
    have HS2 := Lib.hid (hS0.out.belowS hb2)
    have hP := hb2.size
    clear how hg hb2
    have o1 : o.op = .makeSlice 159 (.tmp 8) (.tmp 8) := by obtain rfl := Option.some.inj ho; rfl
    have o2 : o.dst = some 9 := by obtain rfl := Option.some.inj ho; rfl
    refine wp_make 159 (.tmp 8) (.tmp 8) (some 9) o1 o2 _ _ rfl rfl _ hmk ?_
    clear o1 o2 ho hmk
    refine ⟨fun _ => HS2.out, ?_⟩
    simp only [Act.put, List.setIfInBounds_toArray, List.set_cons_zero, List.set_cons_succ]
    refine wpAnyL_one 10 rfl (by kernel_rfl) rfl ?_
    go_simp
    refine (newBits_any n hn h6 _).mono ?_
    rintro e V ⟨gb, rfl, hbt, hb3⟩
    have HSV := Lib.hid (HS2.out.belowS hb3)
    have HEND := Lib.hid (header_end (P := W0.drew.heap.size) (rc := rc) (RA := RA) HB0.out.size (HB2.out.trans (hb3.mono HB2.out.size)) (own_below HO2.out hb3 (Nat.le_refl _)) (hbt.lower HB2.out.size))
    clear hbt hb3
    refine ⟨HSV.out, ?_⟩
    refine wpAnyL_take 11 (v := .agg #[.int .u32 (n : Int), .slice (some RA) 32 rc, .slice (some ⟨W0.drew.heap.size, 0, none⟩) n n, .pointer (some ⟨gb, 0, none⟩), .int .u32 0, .int .i64 0]) rfl (by kernel_rfl) (fun _ _ _ h => h) (yields_on (by kernel_rfl) (fun w' hw' => by go_simp)) HSV.out ?_
    simp only [Act.put, List.setIfInBounds_toArray, List.set_cons_zero, List.set_cons_succ]
    have hsv : ∀ o, Blk (V.alloc o) w.heap.size 92 #[.int .u32 (n : Int), .slice (some RA) 32 rc] := fun o => HSV.out.alloc o
    refine wpAnyL_one 12 rfl (by kernel_rfl) rfl ?_
    go_simp
    refine wpAnyL_one 13 rfl (by kernel_rfl) rfl ?_
    go_simp
    refine wpAnyL_done (by kernel_rfl) ?_ _
    go_wp2_with fail
    go_ret
    exact ⟨_, rfl, HEND.out⟩
  case h10 =>
    intro o ho
    obtain rfl := Option.some.inj ho
    go_simp
    refine (newBits_any n hn h6 _).mono ?_
    rintro e w2 ⟨gb, rfl, hbt, hb3⟩
    have HB2 := Lib.hid (HB0.out.trans (hb3.mono HB0.out.size))
    have HS2 := Lib.hid (hS0.out.belowS hb3)
    obtain ⟨V, hmk, how, hg⟩ := KM.out w2
    rw [made_one _ rfl] at how
    have hb2 : Below w2.heap.size w2 V := (Below.refl _ _).grown hg (Nat.le_refl _) (fun k e => by cases e)
    have HSV := Lib.hid (HS2.out.belowS hb2)
    have HEND := Lib.hid (header_end (P := w2.heap.size) (rc := rc) (RA := RA) HB2.out.size (HB2.out.trans (hb2.mono HB2.out.size)) (own_more how HB2.out.size) ((hbt.lower HB0.out.size).below hb2))
    clear hbt hb3 how hg hb2
    refine ⟨HS2.out, ?_⟩
    refine wpAnyL_the 6 (by kernel_rfl) ⟨_, rfl⟩ (fun o ho => by obtain rfl := Option.some.inj ho; rfl) ?_
    intro o ho
    have o1 : o.op = .makeSlice 159 (.tmp 8) (.tmp 8) := by obtain rfl := Option.some.inj ho; rfl
    have o2 : o.dst = some 9 := by obtain rfl := Option.some.inj ho; rfl
    refine wp_make 159 (.tmp 8) (.tmp 8) (some 9) o1 o2 _ _ rfl rfl _ hmk ?_
    clear o1 o2 ho hmk
    refine ⟨fun _ => HSV.out, ?_⟩
    simp only [Act.put, List.setIfInBounds_toArray, List.set_cons_zero, List.set_cons_succ]
    refine wpAnyL_take 11 (v := .agg #[.int .u32 (n : Int), .slice (some RA) 32 rc, .slice (some ⟨w2.heap.size, 0, none⟩) n n, .pointer (some ⟨gb, 0, none⟩), .int .u32 0, .int .i64 0]) rfl (by kernel_rfl) (fun _ _ _ h => h) (yields_on (by kernel_rfl) (fun w' hw' => by go_simp)) HSV.out ?_
    simp only [Act.put, List.setIfInBounds_toArray, List.set_cons_zero, List.set_cons_succ]
    have hsv : ∀ o, Blk (V.alloc o) w.heap.size 92 #[.int .u32 (n : Int), .slice (some RA) 32 rc] := fun o => HSV.out.alloc o
    refine wpAnyL_one 12 rfl (by kernel_rfl) rfl ?_
    go_simp
    refine wpAnyL_one 13 rfl (by kernel_rfl) rfl ?_
    go_simp
    refine wpAnyL_done (by kernel_rfl) ?_ _
    go_wp2_with fail
    go_ret
    exact ⟨_, rfl, HEND.out⟩
end Go.Proofs.YtikikddkhikfkaaDoor

set_option linter.all false
namespace Go.Proofs.YtikikddkhikfkaaDoor
open Go.RowKit

/-- the parts that stand, when those of l have been put in -/
def psOf (bs : List Nat) (l : List Int) : List (Option Nat) := (List.range bs.length).map fun (j : Nat) => if (j : Int) ∈ l then bs[j]? else none
theorem psOf_len (bs : List Nat) (l : List Int) : (psOf bs l).length = bs.length := by unfold psOf; rw [List.length_map, List.length_range]
theorem psOf_get {bs : List Nat} {l : List Int} {j : Nat} (h : j < bs.length) : (psOf bs l)[j]? = some (if (j : Int) ∈ l then bs[j]? else none) := by
  unfold psOf; rw [List.getElem?_map, List.getElem?_range h]; rfl
theorem psOf_nil (bs : List Nat) : psOf bs [] = List.replicate bs.length none := by
  apply List.ext_getElem?
  intro j
  by_cases h : j < bs.length
  · rw [psOf_get h, List.getElem?_replicate, if_pos h]; simp
  · rw [List.getElem?_eq_none (by rw [psOf_len]; omega), List.getElem?_eq_none (by simp; omega)]
theorem psOf_again {bs : List Nat} {l : List Int} {x : Int} (h : x ∈ l) : psOf bs (l ++ [x]) = psOf bs l := by
  unfold psOf
  apply List.map_congr_left
  intro j _
  have e : (j : Int) ∈ l ++ [x] ↔ (j : Int) ∈ l := by
    rw [List.mem_append, List.mem_singleton]
    constructor
    · rintro (h1 | h1)
      · exact h1
      · rw [h1]; exact h
    · exact Or.inl
  by_cases h1 : (j : Int) ∈ l
  · rw [if_pos h1, if_pos (e.2 h1)]
  · rw [if_neg h1, if_neg (fun h2 => h1 (e.1 h2))]
theorem psOf_new {bs : List Nat} {l : List Int} {k p : Nat} (hp : bs[k]? = some p) : psOf bs (l ++ [(k : Int)]) = (psOf bs l).set k (some p) := by
  have hk : k < bs.length := (List.getElem?_eq_some_iff.1 hp).1
  apply List.ext_getElem?
  intro j
  by_cases h : j < bs.length
  · rw [psOf_get h, List.getElem?_set, psOf_len, if_pos hk]
    by_cases e : k = j
    · subst e
      rw [if_pos rfl, if_pos (by simp), hp]
    · rw [if_neg e, psOf_get h]
      have e2 : (j : Int) ∈ l ++ [(k : Int)] ↔ (j : Int) ∈ l := by
        rw [List.mem_append, List.mem_singleton]
        constructor
        · rintro (h1 | h1)
          · exact h1
          · exact absurd (Int.ofNat.inj h1).symm e
        · exact Or.inl
      by_cases h1 : (j : Int) ∈ l
      · rw [if_pos h1, if_pos (e2.2 h1)]
      · rw [if_neg h1, if_neg (fun h2 => h1 (e2.1 h2))]
  · rw [List.getElem?_eq_none (by rw [psOf_len]; omega), List.getElem?_eq_none (by rw [List.length_set, psOf_len]; omega)]
theorem freshL_snoc (l : List Int) (x : Int) : freshL (l ++ [x]) = freshL l ++ [decide (x ∉ l)] := by
  unfold freshL
  rw [List.length_append, List.length_singleton, List.range_succ, List.map_append]
  congr 1
  · apply List.map_congr_left
    intro j hj
    rw [List.mem_range] at hj
    have e1 : (l ++ [x]).getD j 0 = l.getD j 0 := by rw [List.getD_eq_getElem?_getD, List.getD_eq_getElem?_getD, List.getElem?_append_left hj]
    have e2 : (l ++ [x]).take j = l.take j := List.take_append_of_le_length (by omega)
    rw [e1, e2]
  · have e1 : (l ++ [x]).getD l.length 0 = x := by rw [List.getD_eq_getElem?_getD, List.getElem?_append_right (Nat.le_refl _)]; simp
    have e2 : (l ++ [x]).take l.length = l := List.take_left' rfl
    simp only [List.map_cons, List.map_nil]
    rw [e1, e2]
theorem freshL_len (l : List Int) : (freshL l).length = l.length := by unfold freshL; rw [List.length_map, List.length_range]
theorem freshL_get {l : List Int} {k : Nat} {x : Int} (hx : l[k]? = some x) : (freshL l)[k]? = some (decide (x ∉ l.take k)) := by
  have hk := (List.getElem?_eq_some_iff.1 hx).1
  unfold freshL
  rw [List.getElem?_map, List.getElem?_range hk]
  simp only [Option.map_some]
  rw [List.getD_eq_getElem?_getD, hx]; rfl
end Go.Proofs.YtikikddkhikfkaaDoor

set_option linter.all false
namespace Go.Proofs.YtikikddkhikfkaaDoor
open Go.RowKit

set_option maxRecDepth 100000 in
set_option maxHeartbeats 3200000 in
theorem psheader_any (g tot : Nat) (RA : Option Addr) (rn rc : Nat) (PA : Option Addr) (pn pc : Nat) (bits : Value) (cnt : Nat) (sz : Int) (w : World) (hb : Blk w g 169 (psC tot RA rn rc PA pn pc bits cnt sz)) :
    Calls Tryd.prog 54 #[ptrTo g] w fun e w' => e = .returned (.agg #[.int .u32 (tot : Int), .slice RA rn rc]) ∧ Below w.heap.size w w' := by
  unfold psC at hb
  have hl := hb.lt
  have r : ∀ j o, (w.alloc o).cell? ⟨g, j, none⟩ = (#[.int .u32 (tot : Int), .slice RA rn rc, .slice PA pn pc, bits, .int .u32 (cnt : Int), .int .i64 sz] : Array Value)[j]? := fun j o => (hb.alloc o).cell j
  clear hb
  unfold ptrTo
  go_enter Tryd.func54, Tryd.ntmps54
  go_wp2_with fail
  go_region
  go_wp2
  refine bodyPost_ret (results_cell_row rfl _ _ w.heap.size 92 #[.int .u32 (tot : Int), .slice RA rn rc] (0, 0) _ rfl ?hb Tryd.underlying92 rfl (by kernel_rfl)) rfl ?_
  · exact (Blk.new w 92 #[.int .u32 (tot : Int), .slice RA rn rc]).drew
  · exact ⟨rfl, ((Below.refl _ _).alloc (Nat.le_refl _) _).drew⟩
end Go.Proofs.YtikikddkhikfkaaDoor

set_option linter.all false
namespace Go.Proofs.YtikikddkhikfkaaDoor
open Go.RowKit

/-- ints as they lie -/
def ic (l : List Int) : List Value := l.map (Value.int .i64)
theorem ic_get {l : List Int} {k : Nat} {x : Int} (h : l[k]? = some x) : (ic l)[k]? = some (Value.int .i64 x) := by unfold ic; rw [List.getElem?_map, h]; rfl
set_option maxRecDepth 100000 in
theorem iindex_any (l : List Int) (A : Option Addr) (n c : Nat) (x : Int) (B : Nat) (w : World) (hr : Rd w B 1 A n (ic l)) (hn : n ≤ 1000000000) :
    Calls Tryd.prog 64 #[.slice A n c, .int .i64 x] w fun e w' => w = w' ∧ ((x ∈ l ∧ ∃ k : Nat, k ≤ 1000000000 ∧ e = .returned (.int .i64 (k : Int))) ∨ (x ∉ l ∧ e = .returned (.int .i64 (-1)))) := by
  have hl : n = l.length := by have := hr.1; unfold ic at this; rw [List.length_map] at this; omega
  have HR := Lib.hid hr; have HL := Lib.hid hl
  clear hr hl
  go_enter Tryd.func64, Tryd.ntmps64
  go_wp2
  go_loopw [5, 8] (fun _ i wr => ∃ k : Nat, k ≤ n ∧ i = .int .i64 k ∧ wr = w ∧ Hid (x ∉ l.take k)) (fun _ i _ => n - (intOf i).toNat)
  case atStart => exact ⟨0, Nat.zero_le _, rfl, rfl, Lib.hid (by simp)⟩
  case round =>
    obtain ⟨k, hk, rfl, rfl, HN⟩ := hrel
    by_cases hlt : k < n
    · obtain ⟨y, hy⟩ : ∃ y, l[k]? = some y := ⟨_, List.getElem?_eq_getElem (by have := HL.out; omega)⟩
      obtain ⟨ad, hA, _, hc⟩ := HR.out.2 k _ (ic_get hy)
      subst hA
      have HY := Lib.hid hy; clear hy
      have HT := Lib.hid (show l.take (k + 1) = l.take k ++ [y] by rw [List.take_succ, HY.out]; rfl)
      by_cases hxy : x = y
      · have hb : (x == y) = true := by simp [hxy]
        have HXY := Lib.hid hxy; clear hxy
        go_wp2
        go_ret
        exact ⟨rfl, .inl ⟨by rw [HXY.out]; exact List.mem_of_getElem? HY.out, k, by omega, rfl⟩⟩
      · have hb : (x == y) = false := by simp [hxy]
        have HXY := Lib.hid hxy; clear hxy
        go_wp2
        go_roundw
        case rel => exact ⟨k + 1, by omega, by go_num, (by first | rfl | trivial), Lib.hid (by rw [HT.out, List.mem_append, List.mem_singleton]; rintro (h | h); exact HN.out h; exact HXY.out h)⟩
        case measure => simp [intOf]; omega
    · obtain rfl : k = n := by omega
      go_wp2
      go_ret
      exact ⟨rfl, .inr ⟨by have := HN.out; rw [List.take_of_length_le (by have := HL.out; omega)] at this; exact this, rfl⟩⟩
set_option maxRecDepth 100000 in
theorem icontains_any (l : List Int) (A : Option Addr) (n c : Nat) (x : Int) (B : Nat) (w : World) (hr : Rd w B 1 A n (ic l)) (hn : n ≤ 1000000000) :
    Calls Tryd.prog 23 #[.slice A n c, .int .i64 x] w fun e w' => w = w' ∧ e = .returned (.bool (decide (x ∈ l))) := by
  have HI := Lib.hid (iindex_any l A n c x B w hr hn)
  clear hr hn
  go_enter Tryd.func23, Tryd.ntmps23
  go_wp2_with fail
  refine HI.out.mono ?_
  rintro e w1 ⟨rfl, ⟨h1, k, hk, rfl⟩ | ⟨h1, rfl⟩⟩
  · have HH := Lib.hid h1; clear h1
    go_wp2
    go_ret
    exact ⟨rfl, ret_bool (by simp [HH.out])⟩
  · have HH := Lib.hid h1; clear h1
    go_wp2
    go_ret
    exact ⟨rfl, ret_bool (by simp [HH.out])⟩
end Go.Proofs.YtikikddkhikfkaaDoor

set_option linter.all false
namespace Go.Proofs.YtikikddkhikfkaaDoor
open Go.RowKit

theorem infoB1 : (Tryd.prog.info? 4).map (fun i => (i.zero, i.size, i.bytes)) = some (some (.bool false), 1, 1) := by kernel_rfl
theorem Got.row {w w' : World} {lo g n rc cnt base e size m : Nat} {RA : Addr} {ps : List (Option Nat)} {v : Value} {xs : List Value} (h : Got w lo g n RA rc ps cnt) (hg : w.grownBy w' v.ownBlock) (ho : w.ownsRow base e size v m xs) (e1 : 169 ≠ e) (e2 : 117 ≠ e) (e3 : 199 ≠ e) (e4 : 84 ≠ e) (e5 : (0 : Nat) = 0) : Got w' lo g n RA rc ps cnt := by
  obtain ⟨PA, pc, gb, sz, h1, h2, h3, h4⟩ := h
  have kp : ∀ t, t ≠ e → ∀ q cs, Blk w q t cs → Blk w' q t cs := fun t ht q cs hb => hb.grown hg (own_ne_blk ho hb ht)
  obtain ⟨k, ee, xs', b1, b2, b3, b4, b5⟩ := h4
  exact ⟨PA, pc, gb, sz, h1, kp _ e1 _ _ h2, own_keepT h3 (kp _ e2), ⟨k, ee, xs', b1, b2, kp _ e3 _ _ b3, own_keepT b4 (kp _ e4), b5⟩⟩
theorem results_tmp5 {fn : Func} {a b c d e : Tmp} (h : fn.results = #[.tmp a, .tmp b, .tmp c, .tmp d, .tmp e]) (tmps : Array Value) (P : Program) (w : World) :
    (results fn tmps).run P w = .ok (.tuple #[tmps.getD a undef, tmps.getD b undef, tmps.getD c undef, tmps.getD d undef, tmps.getD e undef]) w := by
  simp [results, h]
def bv (l : List Bool) : List Value := l.map Value.bool
set_option maxRecDepth 100000 in
set_option maxHeartbeats 12800000 in
theorem parts_any (a : Addr) (dc S oc : Nat) (OA : Option Addr) (d : List UInt8) (ord : List Int) (w : World) (hr : Rd w w.heap.size 1 (some a) d.length (bc d)) (hdc : d.length ≤ dc) (hab : a.block < w.heap.size) (hd1 : 1 ≤ d.length) (hd : d.length ≤ 5000) (hS1 : 16 ≤ S) (hS : S ≤ 1015) (hK : Kw w) (herr : ∃ v, w.cell? ⟨1, 0, none⟩ = some v)
    (hro : Rd w w.heap.size 1 OA ord.length (ic ord)) (hol : ord.length ≤ 400) (hob : ∀ x ∈ ord, ∃ k : Nat, x = (k : Int) ∧ k < chunkN S d.length) :
    Calls Tryd.prog 21 #[.slice (some a) d.length dc, .int .i64 (S : Int), .slice OA ord.length oc] w fun e w' => ∃ (RA : Addr) (rc : Nat) (BA : Option Addr) (bcc : Nat), e = .returned (.tuple #[.int .i64 (chunkN S d.length : Nat), .slice (some RA) 32 rc, .slice BA ord.length bcc, .bool (decide ((seenL ord).length = chunkN S d.length)), .int .i64 ((seenL ord).length : Nat)]) ∧
      Rd w' w'.heap.size 1 (some RA) 32 (bc (rootL (chunksL S d))) ∧ Rd w' w'.heap.size 1 BA ord.length (bv (freshL ord)) ∧ Below w.heap.size w w' := by
  obtain ⟨L, hL⟩ : ∃ L, L = d.length := ⟨_, rfl⟩
  obtain ⟨n, hn⟩ : ∃ n, n = chunkN S L := ⟨_, rfl⟩
  have hnL : n ≤ L := by rw [hn]; exact chunkN_le (by omega)
  have hn1 : 1 ≤ n := by rw [hn]; exact chunkN_pos (by omega) (by omega)
  have KN := Lib.hid (newSet_any a dc S d w hr hdc hab hd1 hd hS1 hS hK)
  have hcl := chunksL_len S d
  rw [← hL] at KN hd1 hd hob hcl ⊢
  rw [← hn] at KN hob hcl ⊢
  have HK := Lib.hid hK; have HE := Lib.hid herr; have HRO := Lib.hid hro; have HOB := Lib.hid hob; have HN := Lib.hid (And.intro hn hL)
  obtain ⟨i0, hi0, hz0, hz1, hz2⟩ := info_parts infoB1
  have HI := Lib.hid hi0; have HZ0 := Lib.hid hz0; have HZ1 := Lib.hid hz1; have HZ2 := Lib.hid hz2
  clear hr hdc hab hK herr hro hob hi0 hz0 hz1 hz2 hn hL
  go_enter Tryd.func21, Tryd.ntmps21
  go_wp2_with fail
  refine KN.out.mono ?_
  rintro e w1 ⟨g, PA, pc, bs, RA, rc, bits, sz, rfl, hgs, hbs, hrt, hrb, hrc, hpt, hb1⟩
  have hbl : bs.length = n := by have := hbs.1; rw [List.length_map] at this; omega
  have HGS := Lib.hid hgs; have HBS := Lib.hid hbs; have HRT := Lib.hid hrt; have HPT := Lib.hid hpt; have HB1 := Lib.hid hb1; have HBL := Lib.hid hbl; have HRC := Lib.hid (And.intro hrb hrc)
  clear hgs hbs hrt hpt hb1 hbl hrb hrc
  go_wp2_with fail
  refine (psheader_any g n (some RA) 32 rc PA n pc bits n sz w1 HGS.out).mono ?_
  rintro e w2 ⟨rfl, hb2⟩
  have HB2 := Lib.hid hb2
  clear hb2
  go_wp2_with fail
  refine (fromHd_any n rc RA w2 hn1 (by omega)).mono ?_
  rintro e w3 ⟨g2, rfl, hgot, hb3⟩
  have HGT := Lib.hid hgot; have HB3 := Lib.hid (HB2.out.trans (hb3.mono HB2.out.size))
  have HS2 := Lib.hid HB2.out.size
  clear hgot hb3
  go_wp2_with fail
  go_loopw [8, 14, 15, 16, 26] (fun v _ _ _ i wr => ∃ (k : Nat) (A1 : Option Addr) (c1 : Nat), k ≤ ord.length ∧ i = .int .i64 k ∧ v = .slice A1 k c1 ∧ Hid (wr.ownsRow w1.heap.size 4 1 (.slice A1 k c1) k (bv (freshL (ord.take k)))) ∧ Hid (Got wr w2.heap.size g2 n RA rc (psOf bs (ord.take k)) (seenL (ord.take k)).length) ∧ Hid (Below w1.heap.size w1 wr)) (fun _ _ _ _ i _ => ord.length - (intOf i).toNat)
  case atStart => exact ⟨0, none, 0, Nat.zero_le _, rfl, rfl, Lib.hid (World.ownsRow_nil _ _ _ _), Lib.hid (by rw [List.take_zero, psOf_nil, HBL.out]; exact HGT.out), HB3.out⟩
  case round =>
    obtain ⟨k, A1, c1, hk, rfl, rfl, HO, HG, HB⟩ := hrel
    by_cases hlt : k < ord.length
    · obtain ⟨x, hx⟩ : ∃ x, ord[k]? = some x := ⟨_, List.getElem?_eq_getElem hlt⟩
      obtain ⟨j, rfl, hjn⟩ := HOB.out x (List.mem_of_getElem? hx)
      obtain ⟨p, hp⟩ : ∃ p, bs[j]? = some p := ⟨_, List.getElem?_eq_getElem (by have := HBL.out; omega)⟩
      obtain ⟨oa, hOA, hoab, hoc0⟩ := HRO.out.2 k _ (ic_get hx)
      subst hOA
      have hoc : wr.cell? (oa.add k) = some (.int .i64 (j : Int)) := ((HB1.out.trans (HB.out.mono HB1.out.size)).cell (by rw [add_block]; exact hoab)).trans hoc0
      obtain ⟨pa, hPA, hpab, hpc0⟩ := HBS.out.2 j (ptrTo p) (by rw [List.getElem?_map, hp]; rfl)
      have hpc : wr.cell? (pa.add j) = some (.pointer (some ⟨p, 0, none⟩)) := (HB.out.cell (by rw [add_block]; exact hpab)).trans hpc0
      have htk : ord.take (k + 1) = ord.take k ++ [(j : Int)] := by rw [List.take_succ, hx]; rfl
      have hpart := (HPT.out j p hp).below HB.out
      have hgd : (chunksL S d).getD j [] = chunkS S d j := chunksL_getD (by rw [← HN.out.2, ← HN.out.1]; exact hjn)
      have KG := Lib.hid (fun W (hW : W = wr) => getPart_any g n (some RA) 32 rc PA n pc bits n sz W (by rw [hW]; exact HGS.out.belowS HB.out) j hjn pa hPA (.pointer (some ⟨p, 0, none⟩)) (by rw [hW]; exact hpc))
      have HPP := Lib.hid hp; have HTK := Lib.hid htk; have HPRT := Lib.hid hpart; have HGD := Lib.hid hgd
      clear hpc0 hoc0 hpab hpc htk hpart hgd hx hp hPA
      go_wp2_with fail
      refine (KG.out _ rfl).mono ?_
      rintro e w9 ⟨rfl, rfl⟩
      go_wp2_with fail
      have hpsg : (psOf bs (ord.take k))[j]? = some (if (j : Int) ∈ ord.take k then some p else none) := by
        rw [psOf_get (by have := HBL.out; omega), HPP.out]
      have hseen : (seenL (ord.take k)).length ≤ 400 := by have h1 := seenL_len (ord.take k); rw [List.length_take] at h1; omega
      have HPS := Lib.hid hpsg
      refine (addPart_any w2.heap.size g2 n j p rc (seenL (ord.take k)).length RA (chunksL S d) (chunkS S d j) (psOf bs (ord.take k)) _ HG.out HPRT.out hcl hjn (by omega) (by omega) (by rw [chunkS_len]; omega) ((HRT.out.below HB.out).more HB.out.size) (by obtain ⟨v, hv⟩ := HE.out; exact ⟨v, ((HB1.out.trans (HB.out.mono HB1.out.size)).cell (p := ⟨1, 0, none⟩) (cell_lt hv)).trans hv⟩) (HK.out.belowS (HB1.out.trans (HB.out.mono HB1.out.size)))).mono ?_
      rintro e w5 ⟨ha1, ha2, hb5, hkp⟩
      have hex : ∃ v, e = .returned (.tuple #[.bool (decide ((j : Int) ∉ ord.take k)), v]) ∧ Got w5 w2.heap.size g2 n RA rc (psOf bs (ord.take (k + 1))) (seenL (ord.take (k + 1))).length := by
        by_cases hm : (j : Int) ∈ ord.take k
        · obtain ⟨v, he, hg5⟩ := ha2 (fun h => by rw [HPS.out, if_pos hm] at h; cases h.1)
          refine ⟨v, ?_, ?_⟩
          · rw [he, decide_eq_false (by simpa using hm)]
          · rw [HTK.out, psOf_again hm, seenL_snoc, if_pos ((seenL_mem _ _).2 hm)]; exact hg5
        · obtain ⟨v, he, hg5⟩ := ha1 ⟨by rw [HPS.out, if_neg hm], by rw [HGD.out]⟩
          refine ⟨v, ?_, ?_⟩
          · rw [he, decide_eq_true hm]
          · rw [HTK.out, psOf_new HPP.out, seenL_snoc, if_neg (fun h => hm ((seenL_mem _ _).1 h)), List.length_append]; exact hg5
      obtain ⟨v, rfl, hg5⟩ := hex
      have hro5 := own_keepT HO.out (fun q cs hb => hkp q _ cs (by decide) (by decide) (by decide) hb)
      have hbw5 : Below w1.heap.size w1 w5 := HB.out.trans (hb5.mono HS2.out)
      obtain ⟨bq, hbq⟩ : ∃ bq, bq = decide ((j : Int) ∉ ord.take k) := ⟨_, rfl⟩
      rw [← hbq]
      have hr7 := Rd.new w5 #[.bool bq] 4 1 1 w5.heap.size rfl rfl
      have hb67 : Below w5.heap.size w5 (w5.alloc (.cells #[.bool bq] 4)) := (Below.refl _ _).alloc (Nat.le_refl _) _
      have hro7 := own_below hro5 hb67 (Nat.le_refl _)
      have hb7 := hbw5.trans (hb67.mono hbw5.size)
      have HR7 := Lib.hid hr7; have HRO7 := Lib.hid hro7; have HB7 := Lib.hid hb7; have HG7 := Lib.hid (hg5.below hb67); have HBQ := Lib.hid hbq
      clear ha1 ha2 hb5 hkp hg5 hro5 hbw5 hr7 hb67 hro7 hb7 hbq hpsg hseen KG
      go_wp2_with (at_builtin; refine wpList_app _ rfl (.tmp 41) (.tmp 43) 63 rfl w1.heap.size 4 i0 _ 1 1 Tryd.underlying63 HI.out HZ0.out HZ1.out HZ2.out rfl (by decide) (.slice A1 k c1) k (bv (freshL (ord.take k))) rfl HRO7.out (w5.heap.size + 1) (some ⟨w5.heap.size, 0, none⟩) 1 1 [.bool bq] rfl HR7.out ?q0 ?q1 ?q2 HB7.out.size ?_; (case q0 => intro u hu; rw [List.mem_singleton] at hu; rw [hu]; rfl); (case q1 => simp only [maxLen]; omega); (case q2 => omega); intro A8 c8 W8 hown8 hg8 _)
      have HHO : Hid (W8.ownsRow w1.heap.size 4 1 (.slice A8 (k + 1) c8) (k + 1) (bv (freshL (ord.take (k + 1))))) := Lib.hid (by
        rw [HTK.out, freshL_snoc, ← HBQ.out]
        have e : bv (freshL (ord.take k) ++ [bq]) = bv (freshL (ord.take k)) ++ [.bool bq] := by unfold bv; rw [List.map_append]; rfl
        rw [e]; exact hown8)
      have HHG : Hid (Got W8 w2.heap.size g2 n RA rc (psOf bs (ord.take (k + 1))) (seenL (ord.take (k + 1))).length) := Lib.hid (HG7.out.row hg8 HRO7.out (by decide) (by decide) (by decide) (by decide) (by decide))
      have HHB := Lib.hid (HB7.out.grown hg8 HB7.out.size (own_base HRO7.out))
      clear hown8 hg8
      go_roundw
      case rel => exact ⟨k + 1, A8, c8, by omega, by go_num, rfl, HHO.out, HHG.out, HHB.out⟩
      case measure => simp [intOf]; omega
    · obtain rfl : k = ord.length := by omega
      rw [List.take_length] at HO HG
      obtain ⟨PA2, pc2, gb2, sz2, hlg2, hgb2, hown2, hbits2⟩ := HG.out
      have hgs := HGS.out.belowS HB.out
      have HGS2 := Lib.hid hgs; have HG2 := Lib.hid hgb2
      have hcnt : (seenL ord).length ≤ 400 := by have := seenL_len ord; omega
      clear hgs hgb2 hown2 hbits2 hlg2
      go_wp2_with fail
      refine (total_any g n (some RA) 32 rc PA n pc bits n sz _ HGS2.out).mono ?_
      rintro e w9 ⟨rfl, rfl⟩
      go_wp2_with fail
      refine (pshash_any g n (some RA) 32 rc PA n pc bits n sz _ HGS2.out).mono ?_
      rintro e w9 ⟨rfl, rfl⟩
      go_wp2_with fail
      refine (complete_any g2 n (some RA) 32 rc PA2 n pc2 (ptrTo gb2) (seenL ord).length sz2 _ HG2.out).mono ?_
      rintro e w9 ⟨rfl, hb9⟩
      have HB9 := Lib.hid hb9
      have HG9 := Lib.hid (HG2.out.belowS hb9)
      clear hb9
      go_wp2_with fail
      refine (count_any g2 n (some RA) 32 rc PA2 n pc2 (ptrTo gb2) (seenL ord).length sz2 _ HG9.out).mono ?_
      rintro e w10 ⟨rfl, rfl⟩
      go_wp2_with fail
      refine bodyPost_ret (results_tmp5 rfl _ _ _) rfl ?_
      exact ⟨RA, rc, A1, c1, rfl, (((HRT.out.below HB.out).more HB.out.size).below HB9.out).more HB9.out.size, (Rd.of_own (own_below HO.out HB9.out (Nat.le_refl _))), (HB1.out.trans (HB.out.mono HB1.out.size)).trans (HB9.out.mono (Nat.le_trans HB1.out.size HB.out.size))⟩
end Go.Proofs.YtikikddkhikfkaaDoor
