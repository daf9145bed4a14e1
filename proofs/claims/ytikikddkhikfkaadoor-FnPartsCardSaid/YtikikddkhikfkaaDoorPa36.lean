/-
  A set of parts: what is asked of it: Total, Count, Hash, GetPart, IsComplete, MinInt: walks. By the session. A bit array whose bits nobody reads: NewBitArray: the walk. By the session. A set of parts in memory: a part with its proof; a set that grows. By the session. The proofs of a tree of sums: ProofsFromByteSlices: the walk. Printed by gen_proofs.py. By the session. Data in parts of a size, in plain Lean and in memory. By the session. A bit array: setIndex, SetIndex, NewBitArrayFromFn (over a function that answers true): walks. By the session.
-/
import Derived.Test.YtikikddkhikfkaaDoorPa35
import Derived.Test.YtikikddkhikfkaaDoorPa27
import Derived.Test.YtikikddkhikfkaaDoorPa32
import Derived.Test.YtikikddkhikfkaaDoorPa28
set_option linter.all false
namespace Go.Proofs.YtikikddkhikfkaaDoor
open Go.RowKit

/-- the cells of a set of parts -/
def psC (tot : Nat) (RA : Option Addr) (rn rc : Nat) (PA : Option Addr) (pn pc : Nat) (bits : Value) (cnt : Nat) (sz : Int) : Array Value := #[.int .u32 (tot : Int), .slice RA rn rc, .slice PA pn pc, bits, .int .u32 (cnt : Int), .int .i64 sz]
section
variable (g tot : Nat) (RA : Option Addr) (rn rc : Nat) (PA : Option Addr) (pn pc : Nat) (bits : Value) (cnt : Nat) (sz : Int) (w : World) (hb : Blk w g 169 (psC tot RA rn rc PA pn pc bits cnt sz))
include hb
theorem total_any : Calls Tryd.prog 57 #[ptrTo g] w fun e w' => e = .returned (.int .u32 (tot : Int)) ∧ w = w' := by
  unfold psC at hb
  have r : ∀ j, w.cell? ⟨g, j, none⟩ = (#[.int .u32 (tot : Int), .slice RA rn rc, .slice PA pn pc, bits, .int .u32 (cnt : Int), .int .i64 sz] : Array Value)[j]? := fun j => hb.cell j
  clear hb
  unfold ptrTo
  go_enter Tryd.func57, Tryd.ntmps57
  go_wp2
  go_ret
  exact ⟨rfl, rfl⟩
theorem count_any : Calls Tryd.prog 60 #[ptrTo g] w fun e w' => e = .returned (.int .u32 (cnt : Int)) ∧ w = w' := by
  unfold psC at hb
  have r : ∀ j, w.cell? ⟨g, j, none⟩ = (#[.int .u32 (tot : Int), .slice RA rn rc, .slice PA pn pc, bits, .int .u32 (cnt : Int), .int .i64 sz] : Array Value)[j]? := fun j => hb.cell j
  clear hb
  unfold ptrTo
  go_enter Tryd.func60, Tryd.ntmps60
  go_wp2
  go_ret
  exact ⟨rfl, rfl⟩
theorem pshash_any : Calls Tryd.prog 58 #[ptrTo g] w fun e w' => e = .returned (.slice RA rn rc) ∧ w = w' := by
  unfold psC at hb
  have r : ∀ j, w.cell? ⟨g, j, none⟩ = (#[.int .u32 (tot : Int), .slice RA rn rc, .slice PA pn pc, bits, .int .u32 (cnt : Int), .int .i64 sz] : Array Value)[j]? := fun j => hb.cell j
  clear hb
  unfold ptrTo
  go_enter Tryd.func58, Tryd.ntmps58
  go_wp2
  go_ret
  exact ⟨rfl, rfl⟩
theorem getPart_any (i : Nat) (hi : i < pn) (a : Addr) (hPA : PA = some a) (v : Value) (hv : w.cell? (a.add i) = some v) : Calls Tryd.prog 55 #[ptrTo g, .int .i64 (i : Int)] w fun e w' => e = .returned v ∧ w = w' := by
  subst hPA
  unfold psC at hb
  have r : ∀ j, w.cell? ⟨g, j, none⟩ = (#[.int .u32 (tot : Int), .slice RA rn rc, .slice (some a) pn pc, bits, .int .u32 (cnt : Int), .int .i64 sz] : Array Value)[j]? := fun j => hb.cell j
  clear hb
  unfold ptrTo
  go_enter Tryd.func55, Tryd.ntmps55
  go_wp2
  go_ret
  exact ⟨rfl, rfl⟩
theorem complete_any : Calls Tryd.prog 59 #[ptrTo g] w fun e w' => e = .returned (.bool (decide (cnt = tot))) ∧ Below w.heap.size w w' := by
  unfold psC at hb
  have r : ∀ j, w.cell? ⟨g, j, none⟩ = (#[.int .u32 (tot : Int), .slice RA rn rc, .slice PA pn pc, bits, .int .u32 (cnt : Int), .int .i64 sz] : Array Value)[j]? := fun j => hb.cell j
  clear hb
  unfold ptrTo
  go_enter Tryd.func59, Tryd.ntmps59
  go_wp2_with fail
  go_region
  go_wp2
  go_ret
  exact ⟨ret_bool (by rw [Bool.eq_iff_iff]; simp; omega), (Below.refl _ _).drew⟩
end
theorem minInt_any (a b : Int) (w : World) : Calls Tryd.prog 82 #[.int .i64 a, .int .i64 b] w fun e w' => e = .returned (.int .i64 (min a b)) ∧ w = w' := by
  by_cases h : a < b
  · go_enter Tryd.func82, Tryd.ntmps82
    go_wp2
    go_ret
    exact ⟨by show Ending.returned (.int .i64 a) = _; rw [Int.min_eq_left (by omega)], rfl⟩
  · go_enter Tryd.func82, Tryd.ntmps82
    go_wp2
    go_ret
    exact ⟨by show Ending.returned (.int .i64 b) = _; rw [Int.min_eq_right (by omega)], rfl⟩
end Go.Proofs.YtikikddkhikfkaaDoor

set_option linter.all false
namespace Go.Proofs.YtikikddkhikfkaaDoor
open Go.RowKit

theorem infoU64 : (Tryd.prog.info? 84).map (fun i => (i.zero, i.size, i.bytes)) = some (some (.int .u64 0), 1, 8) := by kernel_rfl
/-- a bit array of n bits stands at gb, from block lo on -/
def BitsOk (w : World) (lo gb n : Nat) : Prop :=
  ∃ (k e : Nat) (xs : List Int), lo ≤ gb ∧ lo ≤ e ∧ Blk w gb 199 #[.int .i64 (n : Int), .slice (some ⟨e, 0, none⟩) k k] ∧ w.ownsRow lo 84 1 (.slice (some ⟨e, 0, none⟩) k k) k (xs.map (Value.int .u64)) ∧ n ≤ 64 * k
set_option maxRecDepth 100000 in
theorem newBits_any (n : Nat) (hn : 0 < n) (h31 : n ≤ 1000000) (w : World) : Calls Tryd.prog 86 #[.int .i64 (n : Int)] w fun e w' => ∃ gb, e = .returned (.pointer (some ⟨gb, 0, none⟩)) ∧ BitsOk w' w.heap.size gb n ∧ Below w.heap.size w w' := by
  obtain ⟨k, hk⟩ : ∃ k : Nat, k = (n + 63) / 64 := ⟨_, rfl⟩
  have hk2 : ((n : Int) + 63) / 64 = (k : Int) := by omega
  have hk3 : k ≤ 20000 := by omega
  obtain ⟨i0, hi0, hz0, hz1, hz2⟩ := info_parts infoU64
  obtain ⟨w1, hmk, how, hg⟩ := run_make_full (P := Tryd.prog) (w := w) w.heap.size 197 84 i0 _ 1 Tryd.underlying197 hi0 hz0 hz1 .i64 .i64 k (by rw [hz2]; omega) (by simp only [maxLen]; omega) (Nat.le_refl _)
  have HOW := Lib.hid how; have HG := Lib.hid hg
  have HK := Lib.hid hk
  clear how hg hk
  go_enter Tryd.func86, Tryd.ntmps86
  go_wp2
  go_ret
  have hb : Below w.heap.size w w1 := (Below.refl _ _).grown HG.out (Nat.le_refl _) (fun k e => by cases e)
  refine ⟨w1.heap.size, rfl, ⟨k, w.heap.size, List.replicate k 0, hb.size, Nat.le_refl _, Blk.new _ _ _, ?_, by have := HK.out; omega⟩, hb.alloc hb.size _⟩
  have e : (madeCells (Value.int .u64 0).cells (k * 1)).toList = (List.replicate k (0 : Int)).map (Value.int .u64) := by
    rw [Nat.mul_one, List.map_replicate]
    unfold madeCells
    apply List.ext_getElem
    · simp
    · intro j h1 h2
      simp only [Value.cells, Array.toList_map, List.getElem_map, List.getElem_replicate]
      simp [Nat.mod_one]
  rw [← e]
  exact HOW.out.alloc _
end Go.Proofs.YtikikddkhikfkaaDoor

set_option linter.all false
namespace Go.Proofs.YtikikddkhikfkaaDoor
open Go.RowKit

/-- part i of the leaves ls with the bytes data stands at p -/
def PartAt (w : World) (ls : List (List UInt8)) (i : Nat) (data : List UInt8) (p : Nat) : Prop :=
  ∃ (BA LA AA : Option Addr) (bcp lc c : Nat) (au : List Sb), Blk w p 131 (partC i BA data.length bcp ls.length i LA lc AA au.length c) ∧
    RdB w w.heap.size AA au.length au ∧ au.length ≤ c ∧ Rd w w.heap.size 1 LA 32 (bc (leafL (ls.getD i []))) ∧ 32 ≤ lc ∧ (∀ ad, LA = some ad → ad.block < w.heap.size) ∧
    Rd w w.heap.size 1 BA data.length (bc data) ∧ data.length ≤ bcp ∧ (∀ ad, BA = some ad → ad.block < w.heap.size) ∧ au.map Sb.s = auntsL ls i
theorem PartAt.lt {w : World} {ls : List (List UInt8)} {i p : Nat} {data : List UInt8} (h : PartAt w ls i data p) : p < w.heap.size := by
  obtain ⟨_, _, _, _, _, _, _, hb, _⟩ := h; exact hb.lt
theorem PartAt.below {w w' : World} {ls : List (List UInt8)} {i p : Nat} {data : List UInt8} (h : PartAt w ls i data p) (hb : Below w.heap.size w w') : PartAt w' ls i data p := by
  obtain ⟨BA, LA, AA, bcp, lc, c, au, h1, h2, h3, h4, h5, h6, h7, h8, h9, h10⟩ := h
  exact ⟨BA, LA, AA, bcp, lc, c, au, h1.belowS hb, (h2.below hb).sized hb.size, h3, (h4.below hb).more hb.size, h5, fun ad e => Nat.lt_of_lt_of_le (h6 ad e) hb.size, (h7.below hb).more hb.size, h8, fun ad e => Nat.lt_of_lt_of_le (h9 ad e) hb.size, h10⟩
/-- a set of parts that grows, all of it from block lo on -/
def Got (w : World) (lo g n : Nat) (RA : Addr) (rc : Nat) (ps : List (Option Nat)) (cnt : Nat) : Prop :=
  ∃ (PA : Option Addr) (pc gb : Nat) (sz : Int), lo ≤ g ∧ Blk w g 169 (psC n (some RA) 32 rc PA n pc (ptrTo gb) cnt sz) ∧ w.ownsRow lo 117 1 (.slice PA n pc) n (ps.map ptrO) ∧ BitsOk w lo gb n
theorem BitsOk.below {w w' : World} {lo gb n : Nat} (h : BitsOk w lo gb n) (hb : Below w.heap.size w w') : BitsOk w' lo gb n := by
  obtain ⟨k, e, xs, h1, h2, h3, h4, h5⟩ := h
  exact ⟨k, e, xs, h1, h2, h3.belowS hb, own_below h4 hb (Nat.le_refl _), h5⟩
theorem Got.below {w w' : World} {lo g n rc cnt : Nat} {RA : Addr} {ps : List (Option Nat)} (h : Got w lo g n RA rc ps cnt) (hb : Below w.heap.size w w') : Got w' lo g n RA rc ps cnt := by
  obtain ⟨PA, pc, gb, sz, h1, h2, h3, h4⟩ := h
  exact ⟨PA, pc, gb, sz, h1, h2.belowS hb, own_below h3 hb (Nat.le_refl _), h4.below hb⟩
theorem Got.len {w : World} {lo g n rc cnt : Nat} {RA : Addr} {ps : List (Option Nat)} (h : Got w lo g n RA rc ps cnt) : ps.length = n := by
  obtain ⟨PA, pc, gb, sz, h1, h2, h3, h4⟩ := h
  have := h3.1; rw [List.length_map] at this; omega
/-- all blocks but those of one type are as they were -/
def KeepX (x : TypeId) (w w' : World) : Prop := ∀ k t cs, t ≠ x → Blk w k t cs → Blk w' k t cs
theorem KeepX.below {x : TypeId} {w w' : World} (h : Below w.heap.size w w') : KeepX x w w' := fun _ _ _ _ hb => hb.belowS h
theorem KeepX.trans {x : TypeId} {a b c : World} (h : KeepX x a b) (k : KeepX x b c) : KeepX x a c := fun q t cs ht hb => k q t cs ht (h q t cs ht hb)
theorem KeepX.put {x : TypeId} {w : World} {g : Nat} {cs : Array Value} (hb : Blk w g x cs) (i : Nat) (u : Value) : KeepX x w (w.setCell ⟨g, i, none⟩ u) := fun q t cs' ht hq => hq.far (p := ⟨g, i, none⟩) (Blk.ne hq hb ht) u
theorem own_keepX {x : TypeId} {w w' : World} {base e size n : Nat} {v : Value} {xs : List Value} (h : w.ownsRow base e size v n xs) (hk : KeepX x w w') (he : e ≠ x) : w'.ownsRow base e size v n xs := by
  rcases h.2 with h1 | ⟨g, cap, cur, hv, hb, hh, hr⟩
  · exact ⟨h.1, .inl h1⟩
  · exact ⟨h.1, .inr ⟨g, cap, cur, hv, hb, hk g e cur he hh, hr⟩⟩
theorem own_block {w : World} {base e size g n c : Nat} {xs : List Value} (h : w.ownsRow base e size (.slice (some ⟨g, 0, none⟩) n c) n xs) : ∃ cs, Blk w g e cs := by
  rcases h.2 with ⟨h1, _⟩ | ⟨g', cap, cur, hv, _, hh, _⟩
  · cases h1
  · injection hv with h1 _ _; injection h1 with h1; injection h1 with h1; subst h1; exact ⟨cur, hh⟩
theorem KeepX.row {w : World} {base e size g n c : Nat} {xs : List Value} (h : w.ownsRow base e size (.slice (some ⟨g, 0, none⟩) n c) n xs) (i : Nat) (u : Value) : KeepX e w (w.setCell ⟨g, i, none⟩ u) := by
  obtain ⟨cs, hb⟩ := own_block h
  exact KeepX.put hb i u

/-- the numbers of a list, each once, in the order in which they come first -/
def seenL (l : List Int) : List Int := l.foldl (fun s k => if k ∈ s then s else s ++ [k]) []
theorem seenL_snoc (l : List Int) (k : Int) : seenL (l ++ [k]) = if k ∈ seenL l then seenL l else seenL l ++ [k] := by unfold seenL; rw [List.foldl_append]; rfl
theorem seenL_mem (k : Int) (l : List Int) : k ∈ seenL l ↔ k ∈ l := by
  suffices h : ∀ (m : Nat) (l : List Int), l.length = m → (k ∈ seenL l ↔ k ∈ l) from h _ l rfl
  intro m
  induction m with
  | zero => intro l hl; rw [List.eq_nil_of_length_eq_zero hl]; simp [seenL]
  | succ m ih =>
    intro l hl
    obtain ⟨l0, x, rfl⟩ : ∃ l0 x, l = l0 ++ [x] := ⟨l.dropLast, l.getLast (by intro e; rw [e] at hl; simp at hl), (List.dropLast_concat_getLast _).symm⟩
    have h0 := ih l0 (by simpa using hl)
    rw [seenL_snoc]
    split
    · rename_i hx
      rw [List.mem_append, List.mem_singleton, ← h0]
      constructor
      · exact Or.inl
      · rintro (h | h)
        · exact h
        · rw [h]; exact hx
    · rw [List.mem_append, List.mem_append, h0]
/-- of which numbers are first of their kind -/
def freshL (l : List Int) : List Bool := (List.range l.length).map fun j => decide (l.getD j 0 ∉ l.take j)
theorem seenL_len (l : List Int) : (seenL l).length ≤ l.length := by
  suffices h : ∀ (m : Nat) (l : List Int), l.length = m → (seenL l).length ≤ m from h _ l rfl
  intro m
  induction m with
  | zero => intro l hl; rw [List.eq_nil_of_length_eq_zero hl]; simp [seenL]
  | succ m ih =>
    intro l hl
    obtain ⟨l0, x, rfl⟩ : ∃ l0 x, l = l0 ++ [x] := ⟨l.dropLast, l.getLast (by intro e; rw [e] at hl; simp at hl), (List.dropLast_concat_getLast _).symm⟩
    have h0 := ih l0 (by simpa using hl)
    rw [seenL_snoc]
    split
    · omega
    · rw [List.length_append]; simp; omega
end Go.Proofs.YtikikddkhikfkaaDoor

set_option linter.all false
namespace Go.Proofs.YtikikddkhikfkaaDoor
open Go.RowKit

theorem infoPPr : (Tryd.prog.info? 164).map (fun i => (i.zero, i.size, i.bytes)) = some (some (.pointer none), 1, 8) := by kernel_rfl
theorem fill_next (xs : List Value) (k n : Nat) (u z : Value) (h : xs.length = k) (hk : k < n) : (xs ++ List.replicate (n - k) z).set k u = (xs ++ [u]) ++ List.replicate (n - (k + 1)) z := by
  obtain ⟨m, hm⟩ : ∃ m, n - k = m + 1 := ⟨n - k - 1, by omega⟩
  rw [hm, show n - (k + 1) = m by omega, List.set_append_right _ _ (by omega), h, Nat.sub_self, List.replicate_succ, List.set_cons_zero, List.append_assoc]; rfl
theorem own_more {w : World} {base base' e size n : Nat} {v : Value} {xs : List Value} (h : w.ownsRow base e size v n xs) (hb : base' ≤ base) : w.ownsRow base' e size v n xs := by
  rcases h.2 with h1 | ⟨g, cap, cur, hv, hg, hr⟩
  · exact ⟨h.1, .inl h1⟩
  · exact ⟨h.1, .inr ⟨g, cap, cur, hv, Nat.le_trans hb hg, hr⟩⟩
/-- proof i of the leaves ls stands at q -/
def PrOk (w : World) (lo : Nat) (ls : List (List UInt8)) (i q : Nat) : Prop :=
  ∃ (LA AA : Option Addr) (lc ac : Nat) (au : List Sb), Blk w q 129 #[.int .i64 (ls.length : Int), .int .i64 (i : Int), .slice LA 32 lc, .slice AA au.length ac] ∧ Own8 w lo LA 32 lc (leafL (ls.getD i [])) ∧ w.ownsRow lo 22 1 (.slice AA au.length ac) au.length (au.map Sb.cell) ∧ (∀ x ∈ au, SbO lo w x) ∧ au.map Sb.s = auntsL ls i
theorem PrOk.keepX {w w' : World} {lo i q : Nat} {ls : List (List UInt8)} {x : TypeId} (h : PrOk w lo ls i q) (k : KeepX x w w') (h1 : 129 ≠ x) (h2 : 5 ≠ x) (h3 : 22 ≠ x) : PrOk w' lo ls i q := by
  obtain ⟨LA, AA, lc, ac, au, g1, g2, g3, g4, g5⟩ := h
  exact ⟨LA, AA, lc, ac, au, k _ _ _ h1 g1, own_keepX g2 k h2, own_keepX g3 k h3, fun y hy => own_keepX (g4 y hy) k h2, g5⟩
set_option maxRecDepth 100000 in
set_option maxHeartbeats 6400000 in
theorem proofs_any (A : Option Addr) (c n : Nat) (l : List Sb) (w : World) (hr : RdB w w.heap.size A n l) (hc : n ≤ c) (hn1 : 1 ≤ n) (hn : n ≤ 1000000) (hbig : ∀ x ∈ l, x.s.length ≤ 35184372088832) (hK : Kw w) :
    Calls Tryd.prog 83 #[.slice A n c] w fun e w' => ∃ (RA PA : Option Addr) (rc pc : Nat) (qs : List Nat), e = .returned (.tuple #[.slice RA 32 rc, .slice PA n pc]) ∧ Own8 w' w.heap.size RA 32 rc (rootL (l.map Sb.s)) ∧ w'.ownsRow w.heap.size 164 1 (.slice PA n pc) n (qs.map ptrTo) ∧ (∀ i q, qs[i]? = some q → PrOk w' w.heap.size (l.map Sb.s) i q) ∧ Below w.heap.size w w' := by
  have hnl := hr.len
  obtain ⟨ls, hls⟩ : ∃ ls, ls = l.map Sb.s := ⟨_, rfl⟩
  have hlen : ls.length = n := by rw [hls, List.length_map]; exact hnl.symm
  have KT := Lib.hid (trails0_any A c n l w hr hc hn1 hn hbig hK)
  rw [← hls] at KT ⊢
  clear hr hc hbig hK hls hnl
  obtain ⟨i0, hi0, hz0, hz1, hz2⟩ := info_parts infoPPr
  go_enter Tryd.func83, Tryd.ntmps83
  go_wp2_with fail
  refine KT.out.mono ?_
  rintro e w1 ⟨A1, c1, r, bs, RA, rc, gd, w0, hs0, rfl, hT, hb1⟩
  have HT := Lib.hid hT; have HB1 := Lib.hid hb1; have HS0 := Lib.hid hs0
  have r0 : ∀ j, w1.cell? ⟨r, j, none⟩ = (#[.slice RA 32 rc, .pointer none, .pointer none, .pointer none] : Array Value)[j]? := fun j => by
    have h1 := hT.root.cell j
    unfold nodeC ptrO at h1
    rw [rootL_length] at h1
    exact h1
  obtain ⟨w2, hmk, how, hg⟩ := run_make_full (P := Tryd.prog) (w := w1) w1.heap.size 161 164 i0 _ 1 Tryd.underlying161 hi0 hz0 hz1 .i64 .i64 n (by rw [hz2]; omega) (by simp only [maxLen]; omega) (Nat.le_refl _)
  have hb2 : Below w1.heap.size w1 w2 := (Below.refl _ _).grown hg (Nat.le_refl _) (fun k e => by cases e)
  have hrow : w2.ownsRow w1.heap.size 164 1 (.slice (some ⟨w1.heap.size, 0, none⟩) n n) n (List.replicate n (.pointer none)) := by
    have e : (madeCells (Value.pointer none).cells (n * 1)).toList = List.replicate n (.pointer none) := by
      rw [Nat.mul_one]
      unfold madeCells
      apply List.ext_getElem
      · simp
      · intro j h1 h2
        simp only [Value.cells, Array.toList_map, List.getElem_map, List.getElem_replicate]
        simp [Nat.mod_one]
    rw [← e]; exact how
  have HB2 := Lib.hid hb2; have HROW := Lib.hid hrow
  clear hb1 hs0 hT how hg hb2 hrow hi0 hz0 hz1 hz2
  go_wp2_with fail
  clear hmk r0
  go_loopw [6, 7, 22] (fun _ _ i wr => ∃ k : Nat, k ≤ n ∧ i = .int .i64 k ∧ Hid (∃ qs : List Nat, qs.length = k ∧ wr.ownsRow w1.heap.size 164 1 (.slice (some ⟨w1.heap.size, 0, none⟩) n n) n (qs.map ptrTo ++ List.replicate (n - k) (.pointer none)) ∧ ∀ i q, qs[i]? = some q → PrOk wr w.heap.size ls i q) ∧ Hid (Below w1.heap.size w1 wr)) (fun _ _ i _ => n - (intOf i).toNat)
  case atStart => exact ⟨0, Nat.zero_le _, rfl, Lib.hid ⟨[], rfl, by simpa using HROW.out, fun i q h => by simp at h⟩, HB2.out⟩
  case round =>
    obtain ⟨k, hk, rfl, HQ, HB⟩ := hrel
    by_cases hlt : k < n
    · obtain ⟨p, hp⟩ : ∃ p, bs[k]? = some p := ⟨_, List.getElem?_eq_getElem (by have := HT.out.len; omega)⟩
      have hrow := Rd.of_own HT.out.row
      obtain ⟨ad, hA, hadb, hc0⟩ := hrow.2 k (ptrTo p) (by rw [List.getElem?_map, hp]; rfl)
      subst hA
      have hc1 : wr.cell? (ad.add k) = some (.pointer (some ⟨p, 0, none⟩)) := (HB.out.cell (by rw [add_block]; exact hadb)).trans hc0
      obtain ⟨_, ⟨LA, lc, NP, NL, NR, hnb, hno⟩, hway⟩ := HT.out.ways k p hp
      have hnbr := hnb.belowS HB.out
      have hplt := hnbr.lt
      have r1 : ∀ j, wr.cell? ⟨p, j, none⟩ = (#[.slice LA 32 lc, ptrO NP, ptrO NL, ptrO NR] : Array Value)[j]? := fun j => by
        have h1 := hnbr.cell j
        unfold nodeC at h1
        rw [leafL_length] at h1
        exact h1
      have hS : wr.drew.cell? ⟨p, 0, none⟩ = some (.slice LA 32 lc) := r1 0
      have hS0 := Lib.hid hS
      have HNO := Lib.hid hno
      have hal := auntsL_len n ls k hlen
      have KF := Lib.hid (flatten_any w0.heap.size w0.heap.size w1.heap.size r p (auntsL ls k) wr.drew (Way.keepN hway (KeepN.below HB.out.drew)) ⟨RA, rootL ls, rc, (HT.out.root.belowS HB.out).drew⟩ (by omega))
      clear hrow hc0 hadb hp hnb hno hway hnbr r1 hal
      go_wp2_with fail
      rename_i KK hKK
      refine wp_region_L (fun w' : World => w'.cell? ⟨p, 0, none⟩ = some (.slice LA 32 lc)) 14 (by kernel_rfl) ?_
      refine wpAnyL_take 0 (v := .slice (some ⟨w1.heap.size, 0, none⟩) n n) rfl (by kernel_rfl) (fun _ _ _ h => h) (yields_on (by kernel_rfl) (fun w' hw' => by go_simp)) hS0.out ?_
      simp only [Act.put, List.setIfInBounds_toArray, List.set_cons_zero, List.set_cons_succ]
      refine wpAnyL_take 1 (v := .int .i64 (k : Int)) rfl (by kernel_rfl) (fun _ _ _ h => h) (yields_on (by kernel_rfl) (fun w' hw' => by go_simp)) hS0.out ?_
      simp only [Act.put, List.setIfInBounds_toArray, List.set_cons_zero, List.set_cons_succ]
      refine wpAnyL_take 2 (v := .slice A n c) rfl (by kernel_rfl) (fun _ _ _ h => h) (yields_on (by kernel_rfl) (fun w' hw' => by go_simp)) hS0.out ?_
      simp only [Act.put, List.setIfInBounds_toArray, List.set_cons_zero, List.set_cons_succ]
      refine wpAnyL_take 3 (v := .int .i64 (n : Int)) rfl (by kernel_rfl) (fun _ _ _ h => h) (yields_on (by kernel_rfl) (fun w' hw' => by go_simp)) hS0.out ?_
      simp only [Act.put, List.setIfInBounds_toArray, List.set_cons_zero, List.set_cons_succ]
      refine wpAnyL_take 4 (v := .int .i64 (k : Int)) rfl (by kernel_rfl) (fun _ _ _ h => h) (yields_on (by kernel_rfl) (fun w' hw' => by go_simp)) hS0.out ?_
      simp only [Act.put, List.setIfInBounds_toArray, List.set_cons_zero, List.set_cons_succ]
      refine wpAnyL_take 5 (v := .pointer (some ⟨p, 0, none⟩)) rfl (by kernel_rfl) (fun _ _ _ h => h) (yields_on (by kernel_rfl) (fun w' hw' => by go_simp)) hS0.out ?_
      simp only [Act.put, List.setIfInBounds_toArray, List.set_cons_zero, List.set_cons_succ]
      refine wpAnyL_take 6 (v := .pointer (some ⟨p, 0, none⟩)) rfl (by kernel_rfl) (fun _ _ _ h => h) (yields_on (by kernel_rfl) (fun w' hw' => by go_simp)) hS0.out ?_
      simp only [Act.put, List.setIfInBounds_toArray, List.set_cons_zero, List.set_cons_succ]
      refine wpAnyL_take 7 (v := .pointer (some ⟨p, 0, none⟩)) rfl (by kernel_rfl) (fun _ _ _ h => h) (yields_on (by kernel_rfl) (fun w' hw' => by go_simp)) hS0.out ?_
      simp only [Act.put, List.setIfInBounds_toArray, List.set_cons_zero, List.set_cons_succ]
      refine wpAnyL_take 8 (v := .slice LA 32 lc) rfl (by kernel_rfl) (fun _ _ _ h => h) (yields_on (by kernel_rfl) (fun w' hw' => by have r := hw'; go_simp)) hS0.out ?_
      simp only [Act.put, List.setIfInBounds_toArray, List.set_cons_zero, List.set_cons_succ]
      refine wpAnyL_take 9 (v := .pointer (some ⟨p, 0, none⟩)) rfl (by kernel_rfl) (fun _ _ _ h => h) (yields_on (by kernel_rfl) (fun w' hw' => by go_simp)) hS0.out ?_
      simp only [Act.put, List.setIfInBounds_toArray, List.set_cons_zero, List.set_cons_succ]
      refine wpAnyL_one 10 rfl (by kernel_rfl) rfl ?_
      go_simp
      refine KF.out.mono ?_
      rintro e w5 ⟨A5, c5, au, rfl, hau, hro5, hsb5, hb5⟩
      have hS5 : Hid (w5.cell? ⟨p, 0, none⟩ = some (.slice LA 32 lc)) := Lib.hid ((hb5.cell (p := ⟨p, 0, none⟩) hplt).trans hS0.out)
      have hb5' : Below wr.heap.size wr w5 := (Below.refl _ _).drew.trans hb5
      have HB5 := Lib.hid hb5'; have HAU := Lib.hid hau; have HRO5 := Lib.hid hro5; have HSB5 := Lib.hid hsb5
      have hfz : ∀ o, (w5.alloc o).frozen? ⟨w1.heap.size, k, none⟩ = false := fun o => by
        obtain ⟨qs, _, h2, _⟩ := HQ.out
        exact ((own_below h2 hb5' (Nat.le_refl _)).alloc o).frozenAt k
      clear hau hro5 hsb5 hb5 hb5'
      refine ⟨hS5.out, ?_⟩
      have hS6 : ∀ o, (w5.alloc o).cell? ⟨p, 0, none⟩ = some (.slice LA 32 lc) := fun o => by
        have h9 : Below w5.heap.size w5 (w5.alloc o) := (Below.refl _ _).alloc (Nat.le_refl _) _
        exact (h9.cell (p := ⟨p, 0, none⟩) (Nat.lt_of_lt_of_le hplt HB5.out.size)).trans hS5.out
      have hcl : ∀ o, (w5.alloc o).cell? ⟨w1.heap.size, k, none⟩ = some (.pointer none) := fun o => by
        obtain ⟨qs, h1, h2, _⟩ := HQ.out
        rw [((own_below h2 HB5.out (Nat.le_refl _)).alloc o).cellAt k (by omega), List.getElem?_append_right (by rw [List.length_map, h1]; exact Nat.le_refl _), List.getElem?_replicate, if_pos (by rw [List.length_map, h1]; omega)]
      refine wpAnyL_take 11 (v := .agg #[.int .i64 (n : Int), .int .i64 (k : Int), .slice LA 32 lc, .slice A5 (auntsL ls k).length c5]) rfl (by kernel_rfl) (fun _ _ _ h => h) (yields_on (by kernel_rfl) (fun w' hw' => by go_simp)) hS5.out ?_
      simp only [Act.put, List.setIfInBounds_toArray, List.set_cons_zero, List.set_cons_succ]
      refine wpAnyL_one 12 rfl (by kernel_rfl) rfl ?_
      go_simp
      refine wpAnyL_one 13 rfl (by kernel_rfl) rfl ?_
      go_simp
      refine wpAnyL_one 14 rfl (by kernel_rfl) rfl ?_
      go_simp
      refine wpAnyL_done (by kernel_rfl) ?_ _
      refine hKK _ _ ?_
      clear hKK
      have HHQ : Hid (∃ qs : List Nat, qs.length = k + 1 ∧ ((w5.alloc (.cells #[.int .i64 (n : Int), .int .i64 (k : Int), .slice LA 32 lc, .slice A5 (auntsL ls k).length c5] 129)).setCell ⟨w1.heap.size, k, none⟩ (.pointer (some ⟨w5.heap.size, 0, none⟩))).ownsRow w1.heap.size 164 1 (.slice (some ⟨w1.heap.size, 0, none⟩) n n) n (qs.map ptrTo ++ List.replicate (n - (k + 1)) (.pointer none)) ∧ ∀ i q, qs[i]? = some q → PrOk ((w5.alloc (.cells #[.int .i64 (n : Int), .int .i64 (k : Int), .slice LA 32 lc, .slice A5 (auntsL ls k).length c5] 129)).setCell ⟨w1.heap.size, k, none⟩ (.pointer (some ⟨w5.heap.size, 0, none⟩))) w.heap.size ls i q) := Lib.hid (by
        obtain ⟨qs, h1, h2, h3⟩ := HQ.out
        have hb6 : Below w5.heap.size w5 (w5.alloc (.cells #[.int .i64 (n : Int), .int .i64 (k : Int), .slice LA 32 lc, .slice A5 (auntsL ls k).length c5] 129)) := (Below.refl _ _).alloc (Nat.le_refl _) _
        have h4 := own_below (own_below h2 HB5.out (Nat.le_refl _)) hb6 (Nat.le_refl _)
        have h5 := (h4.stored k (.pointer (some ⟨w5.heap.size, 0, none⟩))).1
        rw [fill_next _ k n _ _ (by rw [List.length_map]; exact h1) hlt] at h5
        have kx := KeepX.row h4 k (.pointer (some ⟨w5.heap.size, 0, none⟩))
        have s1 := HT.out.grown.size
        have s5 := HB5.out.size
        have sB := HB.out.size
        refine ⟨qs ++ [w5.heap.size], by rw [List.length_append, h1]; rfl, by rw [List.map_append]; exact h5, fun i q hq => ?_⟩
        rcases Nat.lt_or_ge i k with hik | hik
        · rw [List.getElem?_append_left (by omega)] at hq
          exact (((h3 i q hq).keepX (x := 164) (KeepX.below HB5.out) (by decide) (by decide) (by decide)).keepX (x := 164) (KeepX.below hb6) (by decide) (by decide) (by decide)).keepX kx (by decide) (by decide) (by decide)
        · have hi2 := (List.getElem?_eq_some_iff.1 hq).1
          rw [List.length_append, h1, List.length_singleton] at hi2
          obtain rfl : i = k := by omega
          rw [List.getElem?_append_right (by omega), h1, Nat.sub_self, List.getElem?_cons_zero] at hq
          injection hq with hq
          subst hq
          have al : au.length = (auntsL ls i).length := by rw [← HAU.out, List.length_map]
          have n1 : Own8 wr w0.heap.size LA 32 lc (leafL (ls.getD i [])) := HNO.out.keepN (KeepN.below HB.out).byte
          have n2 : Own8 w5 w0.heap.size LA 32 lc (leafL (ls.getD i [])) := n1.keepN (KeepN.below HB5.out).byte
          have n3 := (n2.keepN (KeepN.below hb6).byte).more (B' := w.heap.size) HS0.out
          refine ⟨LA, A5, lc, c5, au, ?_, own_keepX n3 kx (by decide), ?_, fun y hy => ?_, HAU.out⟩
          · rw [hlen, al]
            exact kx _ _ _ (by decide) (Blk.new _ _ _)
          · rw [al]
            exact own_keepX (own_more (own_below HRO5.out hb6 (Nat.le_refl _)) (by have := HB1.out.size; show w.heap.size ≤ wr.heap.size; omega)) kx (by decide)
          · have m1 : Own8 wr w0.heap.size y.a y.s.length y.c y.s := HSB5.out y hy
            have m2 := ((m1.keepN (KeepN.below HB5.out).byte).keepN (KeepN.below hb6).byte).more (B' := w.heap.size) HS0.out
            exact own_keepX m2 kx (by decide))
      have HHB : Hid (Below w1.heap.size w1 ((w5.alloc (.cells #[.int .i64 (n : Int), .int .i64 (k : Int), .slice LA 32 lc, .slice A5 (auntsL ls k).length c5] 129)).setCell ⟨w1.heap.size, k, none⟩ (.pointer (some ⟨w5.heap.size, 0, none⟩)))) := Lib.hid (((HB.out.trans (HB5.out.mono HB.out.size)).alloc (Nat.le_trans HB.out.size HB5.out.size) _).setCell (p := ⟨w1.heap.size, k, none⟩) (Nat.le_refl _) _)
      clear hcl hfz hS6
      go_wp2_with fail
      go_roundw
      case rel => exact ⟨k + 1, by omega, by go_num, HHQ.out, HHB.out⟩
      case measure => simp [intOf]; omega
    · obtain rfl : k = n := by omega
      go_wp2_with fail
      go_ret2
      obtain ⟨qs, h1, h2, h3⟩ := HQ.out
      have s1 := HB1.out.size
      have hsum : Own8 wr w.heap.size RA 32 rc (rootL ls) := (HT.out.sum.keepN (KeepN.below HB.out).byte).more HS0.out
      have hrow2 := own_more h2 s1
      rw [Nat.sub_self, List.replicate_zero, List.append_nil] at hrow2
      exact ⟨RA, some ⟨w1.heap.size, 0, none⟩, rc, _, qs, rfl, hsum, hrow2, h3, HB1.out.trans (HB.out.mono s1)⟩
end Go.Proofs.YtikikddkhikfkaaDoor

set_option linter.all false
namespace Go.Proofs.YtikikddkhikfkaaDoor
open Go.RowKit

def chunkS (S : Nat) (d : List UInt8) (i : Nat) : List UInt8 := (d.drop (i * S)).take S
def chunkN (S L : Nat) : Nat := (L + S - 1) / S
def chunksL (S : Nat) (d : List UInt8) : List (List UInt8) := (List.range (chunkN S d.length)).map (chunkS S d)
theorem chunksL_len (S : Nat) (d : List UInt8) : (chunksL S d).length = chunkN S d.length := by unfold chunksL; rw [List.length_map, List.length_range]
theorem chunksL_get {S : Nat} {d : List UInt8} {i : Nat} (h : i < chunkN S d.length) : (chunksL S d)[i]? = some (chunkS S d i) := by unfold chunksL; rw [List.getElem?_map, List.getElem?_range h]; rfl
theorem chunksL_getD {S : Nat} {d : List UInt8} {i : Nat} (h : i < chunkN S d.length) : (chunksL S d).getD i [] = chunkS S d i := by rw [List.getD_eq_getElem?_getD, chunksL_get h]; rfl
theorem chunkN_lt {S L i : Nat} (hS : 0 < S) : i < chunkN S L ↔ i * S < L := by
  unfold chunkN
  rw [Nat.lt_iff_add_one_le, Nat.le_div_iff_mul_le hS, Nat.add_mul]
  omega
theorem chunkN_pos {S L : Nat} (hS : 0 < S) (hL : 1 ≤ L) : 1 ≤ chunkN S L := (chunkN_lt (i := 0) hS).2 (by omega)
theorem chunkN_le {S L : Nat} (hS : 1 ≤ S) : chunkN S L ≤ L := by
  rcases Nat.lt_or_ge L (chunkN S L) with h | h
  · have := (chunkN_lt (i := L) (by omega)).1 h
    have h2 : L * 1 ≤ L * S := Nat.mul_le_mul_left L hS
    omega
  · exact h
theorem chunkS_len (S : Nat) (d : List UInt8) (i : Nat) : (chunkS S d i).length = min S (d.length - i * S) := by unfold chunkS; rw [List.length_take, List.length_drop]
/-- part i of data at a -/
def chunkB (a : Addr) (dc S : Nat) (d : List UInt8) (i : Nat) : Sb := ⟨some (a.add (i * S)), dc - i * S, chunkS S d i⟩
theorem rd_part {w : World} {B n : Nat} {a : Addr} {d : List UInt8} (h : Rd w B 1 (some a) n (bc d)) (i m : Nat) (hm : i + m ≤ n) : Rd w B 1 (some (a.add i)) m (bc ((d.drop i).take m)) := by
  have h1 := rd_drop h (q := i) (by omega) (some (a.add i)) (fun _ => rfl)
  have h2 := h1.take (k := m) (by omega)
  rw [Nat.mul_one] at h2
  unfold bc at h2 ⊢
  rw [List.map_take]
  exact h2
theorem rd_chunk {w : World} {B S i : Nat} {a : Addr} {d : List UInt8} (h : Rd w B 1 (some a) d.length (bc d)) (hi : i * S < d.length) : Rd w B 1 (some (a.add (i * S))) (chunkS S d i).length (bc (chunkS S d i)) := by
  have h1 := rd_part h (i * S) (min S (d.length - i * S)) (by omega)
  have e : (d.drop (i * S)).take (min S (d.length - i * S)) = chunkS S d i := by
    unfold chunkS
    rw [← List.length_drop, ← List.take_eq_take_min]
  rw [e, ← chunkS_len] at h1
  exact h1
theorem rdB_chunks {w : World} {B S n : Nat} {a : Addr} {dc : Nat} {d : List UInt8} {A : Option Addr} (hn : n = chunkN S d.length) (hS : 0 < S) (hr : Rd w B 1 (some a) d.length (bc d)) (hab : a.block < B) (hdc : d.length ≤ dc) (hrow : Rd w B 1 A n ((List.range n).map fun i => (chunkB a dc S d i).cell)) : RdB w B A n ((List.range n).map (chunkB a dc S d)) := by
  refine ⟨by rw [List.map_map]; exact hrow, fun x hx => ?_⟩
  obtain ⟨i, hi, rfl⟩ := List.mem_map.1 hx
  rw [List.mem_range, hn, chunkN_lt hS] at hi
  refine ⟨rd_chunk hr hi, ?_, fun ad e => ?_⟩
  · show (chunkS S d i).length ≤ dc - i * S
    rw [chunkS_len]; omega
  · injection e with e; rw [← e, add_block]; exact hab
theorem chunks_s (a : Addr) (dc S : Nat) (d : List UInt8) (n : Nat) (hn : n = chunkN S d.length) : ((List.range n).map (chunkB a dc S d)).map Sb.s = chunksL S d := by
  subst hn; unfold chunksL; rw [List.map_map]; rfl
end Go.Proofs.YtikikddkhikfkaaDoor

set_option linter.all false
namespace Go.Proofs.YtikikddkhikfkaaDoor
open Go.RowKit

/-- a store into the bits' row -/
theorem bits_put {w : World} {lo gb n k e j : Nat} {xs : List Int} (hlo : lo ≤ gb) (hle : lo ≤ e) (hb : Blk w gb 199 #[.int .i64 (n : Int), .slice (some ⟨e, 0, none⟩) k k]) (hown : w.ownsRow lo 84 1 (.slice (some ⟨e, 0, none⟩) k k) k (xs.map (Value.int .u64))) (h64 : n ≤ 64 * k) (hj : j < k) (y : Int) :
    BitsOk (w.setCell ⟨e, j, none⟩ (.int .u64 y)) lo gb n ∧ Below lo w (w.setCell ⟨e, j, none⟩ (.int .u64 y)) ∧ KeepX 84 w (w.setCell ⟨e, j, none⟩ (.int .u64 y)) := by
  obtain ⟨cs, hrb⟩ := own_block hown
  refine ⟨⟨k, e, xs.set j y, hlo, hle, hb.far (p := ⟨e, j, none⟩) (Blk.ne hb hrb (by decide)) _, ?_, h64⟩, (Below.refl lo w).setCell (p := ⟨e, j, none⟩) hle _, KeepX.put hrb j _⟩
  have h1 := (hown.stored j (.int .u64 y)).1
  rw [← List.map_set] at h1
  exact h1
set_option maxRecDepth 100000 in
set_option maxHeartbeats 3200000 in
theorem setIndex_any (lo gb n i : Nat) (hi : i < n) (hn : n ≤ 1000000) (w : World) (hb : BitsOk w lo gb n) :
    Calls Tryd.prog 111 #[.pointer (some ⟨gb, 0, none⟩), .int .i64 (i : Int), .bool true] w fun e w' => e = .returned (.bool true) ∧ BitsOk w' lo gb n ∧ Below lo w w' ∧ KeepX 84 w w' := by
  obtain ⟨k, ee, xs, hlo, hle, hblk, hown, h64⟩ := hb
  obtain ⟨j, hj⟩ : ∃ j : Nat, j = i / 64 := ⟨_, rfl⟩
  obtain ⟨m, hm⟩ : ∃ m : Nat, m = i % 64 := ⟨_, rfl⟩
  have hj2 : (i : Int) / 64 = (j : Int) := by omega
  have hm2 : (i : Int) % 64 = (m : Int) := by omega
  have hjk : j < k := by omega
  have hml : m < 64 := by omega
  have hxl : xs.length = k := by have := hown.1; rw [List.length_map] at this; omega
  obtain ⟨x, hx⟩ : ∃ x, xs[j]? = some x := ⟨_, List.getElem?_eq_getElem (by omega)⟩
  have hc : w.cell? ⟨ee, j, none⟩ = some (.int .u64 x) := by rw [hown.cellAt j (by omega), List.getElem?_map, hx]; rfl
  have hf : ∀ q, w.frozen? ⟨ee, q, none⟩ = false := fun q => hown.frozenAt q
  have r0 : ∀ q, w.cell? ⟨gb, q, none⟩ = (#[.int .i64 (n : Int), .slice (some ⟨ee, 0, none⟩) k k] : Array Value)[q]? := fun q => hblk.cell q
  have KP := Lib.hid (fun y => bits_put hlo hle hblk hown h64 hjk y)
  have hin : ¬ (n : Int) ≤ (i : Int) := by omega
  clear hj hm hlo hle hblk hown h64 hxl hx hi
  go_enter Tryd.func111, Tryd.ntmps111
  go_wp2_with fail
  go_ret
  exact ⟨rfl, KP.out _⟩
set_option maxRecDepth 100000 in
theorem SetIndex_any (lo gb n i : Nat) (hi : i < n) (hn : n ≤ 1000000) (w : World) (hb : BitsOk w lo gb n) :
    Calls Tryd.prog 88 #[.pointer (some ⟨gb, 0, none⟩), .int .i64 (i : Int), .bool true] w fun e w' => e = .returned (.bool true) ∧ BitsOk w' lo gb n ∧ Below lo w w' ∧ KeepX 84 w w' := by
  have KC := Lib.hid (setIndex_any lo gb n i hi hn w hb)
  clear hi hn hb
  go_enter Tryd.func88, Tryd.ntmps88
  go_wp2_with fail
  refine KC.out.mono ?_
  rintro e w1 ⟨rfl, h1, h2, h3⟩
  have H1 := Lib.hid h1; have H2 := Lib.hid h2; have H3 := Lib.hid h3
  clear h1 h2 h3
  go_wp2_with fail
  go_ret
  exact ⟨rfl, H1.out, H2.out, H3.out⟩
set_option maxRecDepth 100000 in
theorem true_any (i : Int) (w : World) : Calls Tryd.prog 85 #[.int .i64 i] w fun e w' => e = .returned (.bool true) ∧ w = w' := by
  go_enter Tryd.func85, Tryd.ntmps85
  go_wp2
  go_ret
  exact ⟨rfl, rfl⟩
set_option maxRecDepth 100000 in
set_option maxHeartbeats 6400000 in
theorem bitsFromFn_any (n : Nat) (hn : 0 < n) (h31 : n ≤ 1000000) (w : World) : Calls Tryd.prog 84 #[.int .i64 (n : Int), .func (.func 85) #[] #[]] w fun e w' => ∃ gb, e = .returned (.pointer (some ⟨gb, 0, none⟩)) ∧ BitsOk w' w.heap.size gb n ∧ Below w.heap.size w w' := by
  obtain ⟨k, hk⟩ : ∃ k : Nat, k = (n + 63) / 64 := ⟨_, rfl⟩
  have hk2 : ((n : Int) + 63) / 64 = (k : Int) := by omega
  have hz9 : ¬ n = 0 := by omega
  have hk3 : k ≤ 20000 := by omega
  obtain ⟨i0, hi0, hz0, hz1, hz2⟩ := info_parts infoU64
  obtain ⟨w1, hmk, how, hg⟩ := run_make_full (P := Tryd.prog) (w := w) w.heap.size 197 84 i0 _ 1 Tryd.underlying197 hi0 hz0 hz1 .i64 .i64 k (by rw [hz2]; omega) (by simp only [maxLen]; omega) (Nat.le_refl _)
  have HOW := Lib.hid how; have HG := Lib.hid hg
  have HK := Lib.hid hk
  clear how hg hk
  go_enter Tryd.func84, Tryd.ntmps84
  go_wp2_with fail
  have hb : Below w.heap.size w w1 := (Below.refl _ _).grown HG.out (Nat.le_refl _) (fun k e => by cases e)
  have e : (madeCells (Value.int .u64 0).cells (k * 1)).toList = (List.replicate k (0 : Int)).map (Value.int .u64) := by
    rw [Nat.mul_one, List.map_replicate]
    unfold madeCells
    apply List.ext_getElem
    · simp
    · intro j h1 h2
      simp only [Value.cells, Array.toList_map, List.getElem_map, List.getElem_replicate]
      simp [Nat.mod_one]
  have hbits : BitsOk (w1.alloc (.cells #[.int .i64 (n : Int), .slice (some ⟨w.heap.size, 0, none⟩) k k] 199)) w.heap.size w1.heap.size n :=
    ⟨k, w.heap.size, List.replicate k 0, hb.size, Nat.le_refl _, Blk.new _ _ _, by rw [← e]; exact HOW.out.alloc _, by have := HK.out; omega⟩
  have HB := Lib.hid (hb.alloc hb.size (.cells #[.int .i64 (n : Int), .slice (some ⟨w.heap.size, 0, none⟩) k k] 199))
  have HBT := Lib.hid hbits
  clear hb e hbits HOW HG hk2 hmk
  go_loopw [6, 7] (fun i _ wr => ∃ q : Nat, q ≤ n ∧ i = .int .i64 q ∧ Hid (BitsOk wr w.heap.size w1.heap.size n) ∧ Hid (Below w.heap.size w wr)) (fun i _ _ => n - (intOf i).toNat)
  case atStart => exact ⟨0, Nat.zero_le _, rfl, HBT.out, HB.out⟩
  case round =>
    obtain ⟨q, hq, rfl, HBK, HBB⟩ := hrel
    by_cases hlt : q < n
    · obtain ⟨k2, ee, xs, hlo, hle, hblk, hown, h64⟩ := HBK.out
      obtain ⟨j, hj⟩ : ∃ j : Nat, j = q / 64 := ⟨_, rfl⟩
      obtain ⟨m, hm⟩ : ∃ m : Nat, m = q % 64 := ⟨_, rfl⟩
      have hj2 : (q : Int) / 64 = (j : Int) := by omega
      have hm2 : (q : Int) % 64 = (m : Int) := by omega
      have hjk : j < k2 := by omega
      have hml : m < 64 := by omega
      have hxl : xs.length = k2 := by have := hown.1; rw [List.length_map] at this; omega
      obtain ⟨x, hx⟩ : ∃ x, xs[j]? = some x := ⟨_, List.getElem?_eq_getElem (by omega)⟩
      have hc : wr.cell? ⟨ee, j, none⟩ = some (.int .u64 x) := by rw [hown.cellAt j (by omega), List.getElem?_map, hx]; rfl
      have hf : ∀ q, wr.frozen? ⟨ee, q, none⟩ = false := fun q => hown.frozenAt q
      have r0 : ∀ q, wr.cell? ⟨w1.heap.size, q, none⟩ = (#[.int .i64 (n : Int), .slice (some ⟨ee, 0, none⟩) k2 k2] : Array Value)[q]? := fun q => hblk.cell q
      have KP := Lib.hid (fun y => bits_put hlo hle hblk hown h64 hjk y)
      clear hj hm hlo hle hblk hown h64 hxl hx
      go_wp2_with fail
      refine (true_any _ _).mono ?_
      rintro e w9 ⟨rfl, rfl⟩
      go_wp2_with fail
      go_roundw
      case rel => exact ⟨q + 1, by omega, by go_num, (KP.out _).1, HBB.out.trans (KP.out _).2.1⟩
      case measure => simp [intOf]; omega
    · obtain rfl : q = n := by omega
      go_wp2_with fail
      go_ret
      exact ⟨_, rfl, HBK.out, HBB.out⟩
end Go.Proofs.YtikikddkhikfkaaDoor
