/-
  The small functions of the reference's SHA-256 (begin, rounds, the turn of a word): walks. By the session. Words of four bytes, and the words of a block as they are made one by one: plain Lean. By the session.
-/
import Derived.Test.YtikikddkhikfkaaDoorPa2
import Derived.Deep.QuietTactic
import Derived.BigQuiet
import Derived.Handy
import Derived.Great.BuildSlice
import Derived.Deep.WholeRow
set_option linter.all false
namespace Go.Proofs.YtikikddkhikfkaaDoor
open Go.RowKit

/-- the cells of a state -/
def hC (l : List UInt32) : Array Value := (l.map uv).toArray
set_option maxRecDepth 100000 in
theorem begin_any (w : World) : Calls Tryd.prog 89 #[] w fun e w' => e = .returned (.agg (hC shaH.list)) ∧ Below w.heap.size w w' := by
  go_enter Tryd.func89, Tryd.ntmps89
  go_wp2
  go_returns
  exact ⟨by simp only [Ending.returned.injEq, Value.agg.injEq]; kernel_rfl, (Below.refl _ _).alloc (Nat.le_refl _) _⟩
def kCells : Array Value := (shaK.map uv).toArray
def zCells : Array Value := (List.replicate 64 (Value.int .u32 0)).toArray
def kNums : List Int := shaK.map fun x => (x.toNat : Int)
theorem kCells_eq : (kNums.map (Value.int .u32)).toArray = kCells := by kernel_rfl
theorem cells_all_one (k : IntKind) (l : List Int) : ((l.map (Value.int k)).toArray).all (·.oneCell') = true := by simp [Value.oneCell']
set_option maxRecDepth 100000 in
theorem rounds_any (w : World) : Calls Tryd.prog 90 #[] w fun e w' => e = .returned (.agg kCells) ∧ Below w.heap.size w w' := by
  rw [← kCells_eq]
  have hinfo : (Tryd.prog.info? 175).map (fun i => (i.zero, i.size)) = some (some (.agg zCells), 64) := by kernel_rfl
  go_enter Tryd.func90, Tryd.ntmps90
  go_wp2_with (refine wpList_buildFlatArrTo rfl 175 90 64 _ rfl .u32 kNums (some 1) rfl (by as_aux_lemma => kernel_rfl) (by as_aux_lemma => kernel_rfl) (by as_aux_lemma => kernel_rfl) (by as_aux_lemma => kernel_rfl) ?_; refine wpList_store_rowTo rfl 175 (.tmp 0) (.tmp 1) rfl rfl w.heap.size (kNums.map (Value.int .u32)).toArray rfl rfl 175 _ (heap_alloc_new _ _) (by kernel_rfl) (by kernel_rfl) (cells_all_one _ _) ?_; rw [World.setRow_alloc_new])
  refine bodyPost_ret (results_cell_row rfl _ _ w.heap.size 175 _ (0, 0) _ rfl (heap_alloc_new _ _) Tryd.underlying175 rfl (by kernel_rfl)) rfl ⟨rfl, (Below.refl _ _).alloc (Nat.le_refl _) _⟩
theorem turn_any (x : UInt32) (k : Nat) (w : World) (h : 1 ≤ k ∧ k ≤ 31) :
    Calls Tryd.prog 91 #[uv x, .int .i64 k] w fun e w' => e = .returned (uv (rotr x k)) ∧ ∃ n, w' = w.drewN n := by
  have hx := u32_lt x
  unfold uv
  go_enter Tryd.func91, Tryd.ntmps91
  go_wp2
  go_quiet (fail)
  have e1 := w_shr x k (by omega)
  have e2 := w_shl' x (32 - k) (by omega)
  go_wp2
  go_ret
  refine ⟨?_, _, rfl⟩
  rw [e1, e2, w_or]
  rfl
theorem app8w {ops : Array Oper} {rest : List Oper} {o : Oper} {a : Act} {Q : Exit → Act → World → Prop} (w : World) (hgd : o.guard = none) (s x : Operand)
    (ho : o.op = .call { callee := .builtin .append, args := #[s, x], argTypes := #[22, 22] })
    (B n c : Nat) (A : Option Addr) (l : List UInt8) (hs : a.eval s = .slice A n c) (hown : Own8 w B A n c l)
    (Bx m d : Nat) (X : Option Addr) (news : List UInt8) (hx : a.eval x = .slice X m d) (hr : Rd w Bx 1 X m (bc news)) (hlen : n + m ≤ 100000000000) (hbase : B ≤ w.heap.size)
    (h : ∀ A' c' w', Own8 w' B A' (n + m) c' (l ++ news) → Grew w w' (.slice A n c) (.slice A' (n + m) c') → wpList Tryd.prog ops Q rest (a.put o.dst (.slice A' (n + m) c')) w') : wpList Tryd.prog ops Q (o :: rest) a w := by
  obtain ⟨i0, hi0, hz0, hz1, hz2⟩ := info_parts infoU8
  refine wpList_app w hgd s x 22 ho B 5 i0 _ 1 1 Tryd.underlying22 hi0 hz0 hz1 hz2 rfl (by decide) (.slice A n c) n (bc l) hs hown Bx X m d (bc news) hx hr (bc_one _) (by simp only [maxLen]; omega) (by omega) hbase ?_
  intro A' c' w' h1 h2 h3
  refine h A' c' w' (by rw [← bc_append] at h1; exact h1) ⟨h2, fun k hk => ?_⟩
  rcases h3 with e | e
  · left; rw [← e]; exact hk
  · right; rw [e] at hk; cases hk; exact Nat.le_refl _
/-- the cells of a message's words so far -/
def wCells (l : List UInt32) : Array Value := ((l ++ List.replicate (64 - l.length) 0).map uv).toArray
theorem zLit : (#[Value.int .u32 0, Value.int .u32 0, Value.int .u32 0, Value.int .u32 0, Value.int .u32 0, Value.int .u32 0, Value.int .u32 0, Value.int .u32 0, Value.int .u32 0, Value.int .u32 0, Value.int .u32 0, Value.int .u32 0, Value.int .u32 0, Value.int .u32 0, Value.int .u32 0, Value.int .u32 0, Value.int .u32 0, Value.int .u32 0, Value.int .u32 0, Value.int .u32 0, Value.int .u32 0, Value.int .u32 0, Value.int .u32 0, Value.int .u32 0, Value.int .u32 0, Value.int .u32 0, Value.int .u32 0, Value.int .u32 0, Value.int .u32 0, Value.int .u32 0, Value.int .u32 0, Value.int .u32 0, Value.int .u32 0, Value.int .u32 0, Value.int .u32 0, Value.int .u32 0, Value.int .u32 0, Value.int .u32 0, Value.int .u32 0, Value.int .u32 0, Value.int .u32 0, Value.int .u32 0, Value.int .u32 0, Value.int .u32 0, Value.int .u32 0, Value.int .u32 0, Value.int .u32 0, Value.int .u32 0, Value.int .u32 0, Value.int .u32 0, Value.int .u32 0, Value.int .u32 0, Value.int .u32 0, Value.int .u32 0, Value.int .u32 0, Value.int .u32 0, Value.int .u32 0, Value.int .u32 0, Value.int .u32 0, Value.int .u32 0, Value.int .u32 0, Value.int .u32 0, Value.int .u32 0, Value.int .u32 0] : Array Value) = wCells [] := by kernel_rfl
theorem wCells_size (l : List UInt32) (h : l.length ≤ 64) : (wCells l).size = 64 := by simp [wCells]; omega
theorem wCells_nil : wCells [] = zCells := by kernel_rfl
theorem wCells_zero (l : List UInt32) (h : l.length < 64) : wCells (l ++ [0]) = wCells l := by
  unfold wCells
  have e : 64 - l.length = 64 - (l ++ [(0 : UInt32)]).length + 1 := by simp; omega
  rw [e, List.replicate_succ, List.append_assoc]
  rfl
theorem wCells_get (l : List UInt32) (i : Nat) (x : UInt32) (hx : l[i]? = some x) : (wCells l)[i]? = some (uv x) := by
  have hi := (List.getElem?_eq_some_iff.1 hx).1
  unfold wCells
  rw [List.getElem?_toArray, List.getElem?_map, List.getElem?_append_left hi, hx]
  rfl
theorem wCells_set (l : List UInt32) (x y : UInt32) (h : l.length < 64) : (wCells (l ++ [x])).setIfInBounds l.length (uv y) = wCells (l ++ [y]) := by
  unfold wCells
  apply Array.ext_getElem?
  intro j
  rw [Array.getElem?_setIfInBounds]
  simp only [List.getElem?_toArray, List.getElem?_map, List.length_append, List.length_singleton, List.append_assoc, List.singleton_append]
  by_cases hj : l.length = j
  · subst hj
    rw [if_pos rfl, if_pos (by simp), List.getElem?_append_right (Nat.le_refl _)]
    simp
  · rw [if_neg hj]
    by_cases h2 : j < l.length
    · rw [List.getElem?_append_left h2, List.getElem?_append_left h2]
    · rw [List.getElem?_append_right (by omega), List.getElem?_append_right (by omega)]
      have e : j - l.length = (j - l.length - 1) + 1 := by omega
      rw [e, List.getElem?_cons_succ, List.getElem?_cons_succ]
theorem kCells_get (i : Nat) (hi : i < 64) : kCells[i]? = some (uv (shaK.getD i 0)) := by
  have hl : i < shaK.length := hi
  unfold kCells
  rw [List.getElem?_toArray, List.getElem?_map, List.getD_eq_getElem?_getD, List.getElem?_eq_getElem hl]
  rfl
theorem hC_get (l : List UInt32) (i : Nat) (x : UInt32) (hx : l[i]? = some x) : (hC l)[i]? = some (uv x) := by
  unfold hC
  rw [List.getElem?_toArray, List.getElem?_map, hx]; rfl
theorem hC_set (l : List UInt32) (i : Nat) (x : UInt32) : (hC l).setIfInBounds i (uv x) = hC (l.set i x) := by
  unfold hC
  rw [List.map_set]
  simp
theorem hC_one (l : List UInt32) : (hC l).all (·.oneCell') = true := by
  simp [hC, uv, Value.oneCell']
theorem shl8 (x : UInt32) : (x.toNat : Int) * 256 % 4294967296 = ((x <<< 8).toNat : Int) := w_shl' x 8 (by decide)
theorem own8_byte {w : World} {B g n c : Nat} {l : List UInt8} (h : Own8 w B (some ⟨g, 0, none⟩) n c l) (q : Nat) (hq : q < l.length) : w.cell? ⟨g, q, none⟩ = some (.int .u8 ((l.getD q 0).toNat : Int)) := by
  have hx : l[q]? = some l[q] := List.getElem?_eq_getElem hq
  have := h.cells (g := g) rfl q _ (bc_get hx)
  rw [add_flat, Nat.zero_add] at this
  rw [this, List.getD_eq_getElem?_getD, hx]; rfl
theorem drop_getD (l : List UInt8) (k q : Nat) : (l.drop k).getD q 0 = l.getD (k + q) 0 := by
  simp [List.getD_eq_getElem?_getD, List.getElem?_drop]
theorem word_or (x : UInt32) (y : UInt8) : bits .or .u32 ((x <<< 8).toNat : Int) (y.toNat : Int) = ((x <<< 8 ||| y.toUInt32).toNat : Int) := by
  rw [w_byte y, w_or]
theorem word_next (x : UInt32) (y : UInt8) : bits .or .u32 ((x.toNat : Int) * (256 : Int) % (4294967296 : Int)) ((y.toNat : Int) % (4294967296 : Int)) = ((x <<< 8 ||| y.toUInt32).toNat : Int) := by
  have h1 : (x.toNat : Int) * (256 : Int) % (4294967296 : Int) = ((x <<< 8).toNat : Int) := shl8 x
  have h2 : (y.toNat : Int) % (4294967296 : Int) = (y.toNat : Int) := by have := y.toNat_lt; omega
  rw [h1, h2, word_or]
theorem turn_int (x : UInt32) (k : Int) (W : World) (h : 1 ≤ k ∧ k ≤ 31) : Calls Tryd.prog 91 #[.int .u32 (x.toNat : Int), .int .i64 k] W fun e w' => e = .returned (.int .u32 ((rotr x k.toNat).toNat : Int)) ∧ ∃ n, w' = W.drewN n := by
  have := turn_any x k.toNat W (by omega)
  rw [Int.toNat_of_nonneg (by omega)] at this
  exact this
theorem s0_eq (x : UInt32) : bits .xor .u32 (bits .xor .u32 ((rotr x 7).toNat : Int) ((rotr x 18).toNat : Int)) ((x.toNat : Int) / (8 : Int)) = ((rotr x 7 ^^^ rotr x 18 ^^^ x >>> 3).toNat : Int) := by
  have h : (x.toNat : Int) / (8 : Int) = ((x >>> 3).toNat : Int) := w_shr x 3 (by decide)
  rw [h, w_xor, w_xor]
theorem s1_eq (x : UInt32) : bits .xor .u32 (bits .xor .u32 ((rotr x 17).toNat : Int) ((rotr x 19).toNat : Int)) ((x.toNat : Int) / (1024 : Int)) = ((rotr x 17 ^^^ rotr x 19 ^^^ x >>> 10).toNat : Int) := by
  have h : (x.toNat : Int) / (1024 : Int) = ((x >>> 10).toNat : Int) := w_shr x 10 (by decide)
  rw [h, w_xor, w_xor]
theorem add2 (a b : UInt32) : ((a.toNat : Int) + (b.toNat : Int)) % (4294967296 : Int) = ((a + b).toNat : Int) := w_add a b
theorem add3 (a b c : UInt32) : ((a.toNat : Int) + (b.toNat : Int) + (c.toNat : Int)) % (4294967296 : Int) = ((a + b + c).toNat : Int) := by
  rw [← add2 (a + b) c, ← add2 a b]; omega
theorem add4 (a b c d : UInt32) : ((a.toNat : Int) + (b.toNat : Int) + (c.toNat : Int) + (d.toNat : Int)) % (4294967296 : Int) = ((a + b + c + d).toNat : Int) := by
  rw [← add2 (a + b + c) d, ← add3 a b c]; omega
theorem add5 (a b c d e : UInt32) : ((a.toNat : Int) + (b.toNat : Int) + (c.toNat : Int) + (d.toNat : Int) + (e.toNat : Int)) % (4294967296 : Int) = ((a + b + c + d + e).toNat : Int) := by
  rw [← add2 (a + b + c + d) e, ← add4 a b c d]; omega
theorem infoU32 : (Tryd.prog.info? 90).map (fun i => (i.zero, i.size, i.bytes)) = some (some (.int .u32 0), 1, 4) := by kernel_rfl
theorem Rd.of_blk {w : World} {g : Nat} {t : TypeId} {cs : Array Value} (h : Blk w g t cs) : Rd w (g + 1) 1 (some ⟨g, 0, none⟩) cs.size cs.toList :=
  ⟨by simp, fun j u hu => ⟨_, rfl, Nat.lt_succ_self _, by rw [add_flat, Nat.zero_add, h.cell j]; simpa using hu⟩⟩
theorem uv_one (l : List UInt32) : ∀ u ∈ l.map uv, u.oneCell' = true := by
  intro u hu
  obtain ⟨x, _, rfl⟩ := List.mem_map.1 hu
  rfl
theorem S1_eq (e : UInt32) : bits .xor .u32 (bits .xor .u32 ((rotr e 6).toNat : Int) ((rotr e 11).toNat : Int)) ((rotr e 25).toNat : Int) = ((rotr e 6 ^^^ rotr e 11 ^^^ rotr e 25).toNat : Int) := by rw [w_xor, w_xor]
theorem S0_eq (a : UInt32) : bits .xor .u32 (bits .xor .u32 ((rotr a 2).toNat : Int) ((rotr a 13).toNat : Int)) ((rotr a 22).toNat : Int) = ((rotr a 2 ^^^ rotr a 13 ^^^ rotr a 22).toNat : Int) := by rw [w_xor, w_xor]
theorem ch_eq (e f g : UInt32) : bits .xor .u32 (bits .and .u32 (e.toNat : Int) (f.toNat : Int)) (bits .and .u32 (bits .xor .u32 IntKind.u32.max (e.toNat : Int)) (g.toNat : Int)) = (((e &&& f) ^^^ (~~~e &&& g)).toNat : Int) := by rw [w_not, w_and, w_and, w_xor]
theorem maj_eq (a b c : UInt32) : bits .xor .u32 (bits .xor .u32 (bits .and .u32 (a.toNat : Int) (b.toNat : Int)) (bits .and .u32 (a.toNat : Int) (c.toNat : Int))) (bits .and .u32 (b.toNat : Int) (c.toNat : Int)) = (((a &&& b) ^^^ (a &&& c) ^^^ (b &&& c)).toNat : Int) := by rw [w_and, w_and, w_and, w_xor, w_xor]
theorem own_belowK {w w' : World} {base e size B : Nat} {v : Value} {n : Nat} {xs : List Value} (h : w.ownsRow base e size v n xs) (hb : Below B w w') (hv : ∀ k, v.ownBlock = some k → k < B) : w'.ownsRow base e size v n xs := by
  refine ⟨h.1, ?_⟩
  rcases h.2 with h2 | ⟨g, cap, cur, rfl, hg, hh, r⟩
  · exact Or.inl h2
  · exact Or.inr ⟨g, cap, cur, rfl, hg, (hb.block g (hv g rfl)).trans hh, r⟩
def zipTo (xs ys : List UInt32) (q : Nat) : List UInt32 := (List.zipWith (· + ·) xs ys).take q ++ xs.drop q
theorem zipTo_get {xs ys : List UInt32} {q : Nat} {x : UInt32} (hx : xs[q]? = some x) (hl : xs.length = ys.length) : (zipTo xs ys q)[q]? = some x := by
  have := (List.getElem?_eq_some_iff.1 hx).1
  unfold zipTo
  rw [List.getElem?_append_right (by simp; omega)]
  have e : (List.take q (List.zipWith (· + ·) xs ys)).length = q := by simp; omega
  rw [e, List.getElem?_drop, Nat.sub_self, Nat.add_zero, hx]
theorem zipTo_succ {xs ys : List UInt32} {q : Nat} {x y : UInt32} (hx : xs[q]? = some x) (hy : ys[q]? = some y) : (zipTo xs ys q).set q (x + y) = zipTo xs ys (q + 1) := by
  have h1 := List.getElem?_eq_some_iff.1 hx
  have h2 := List.getElem?_eq_some_iff.1 hy
  have hz : (List.zipWith (· + ·) xs ys)[q]? = some (x + y) := by simp [List.getElem?_zipWith, hx, hy]
  have hzl := (List.getElem?_eq_some_iff.1 hz)
  unfold zipTo
  have e : (List.take q (List.zipWith (· + ·) xs ys)).length = q := by rw [List.length_take]; exact Nat.min_eq_left (Nat.le_of_lt hzl.1)
  rw [List.set_append_right _ _ (by rw [e]; exact Nat.le_refl _), e, Nat.sub_self, List.drop_eq_getElem_cons h1.1, List.set_cons_zero, List.take_succ_eq_append_getElem hzl.1, hzl.2]
  simp
theorem zipTo_full {xs ys : List UInt32} (h : xs.length = ys.length) : zipTo xs ys xs.length = List.zipWith (· + ·) xs ys := by
  unfold zipTo
  rw [List.take_of_length_le (by simp; omega)]; simp
theorem St.add_list (s t : St) : (s.add t).list = List.zipWith (· + ·) s.list t.list := rfl
end Go.Proofs.YtikikddkhikfkaaDoor

set_option linter.all false
namespace Go.Proofs.YtikikddkhikfkaaDoor
open Go.RowKit

def w32 (b0 b1 b2 b3 : UInt8) : UInt32 := ((b0.toUInt32 <<< UInt32.ofNat 24 ||| b1.toUInt32 <<< UInt32.ofNat 16) ||| b2.toUInt32 <<< UInt32.ofNat 8) ||| b3.toUInt32
theorem byte_shl (b : UInt8) (k : Nat) (hk : k < 32) : (b.toNat : Int) % 4294967296 * 2 ^ k % 4294967296 = ((b.toUInt32 <<< UInt32.ofNat k).toNat : Int) := by
  have h2 : (b.toNat : Int) % (4294967296 : Int) = (b.toUInt32.toNat : Int) := by have := b.toNat_lt; rw [← w_byte]; omega
  rw [h2, w_shl' _ _ hk]
theorem be_word (b0 b1 b2 b3 : UInt8) : bits .or .u32 (bits .or .u32 (bits .or .u32 ((b0.toNat : Int) % 4294967296 * 16777216 % 4294967296) ((b1.toNat : Int) % 4294967296 * 65536 % 4294967296)) ((b2.toNat : Int) % 4294967296 * 256 % 4294967296)) ((b3.toNat : Int) % 4294967296) = ((w32 b0 b1 b2 b3).toNat : Int) := by
  have e0 := byte_shl b0 24 (by decide)
  have e1 := byte_shl b1 16 (by decide)
  have e2 := byte_shl b2 8 (by decide)
  have e3 : (b3.toNat : Int) % (4294967296 : Int) = (b3.toUInt32.toNat : Int) := by have := b3.toNat_lt; rw [← w_byte]; omega
  rw [show (16777216 : Int) = 2 ^ 24 from rfl, show (65536 : Int) = 2 ^ 16 from rfl, show (256 : Int) = 2 ^ 8 from rfl, e0, e1, e2, e3, w_or, w_or, w_or]
  rfl
theorem shl_or (a b : UInt32) : (a ||| b) <<< (8 : UInt32) = a <<< (8 : UInt32) ||| b <<< (8 : UInt32) := by
  apply UInt32.toBitVec_inj.1
  simp [BitVec.shiftLeft_or_distrib]
theorem wordAt_eq (p : List UInt8) (j : Nat) : wordAt p j = w32 (p.getD (4 * j) 0) (p.getD (4 * j + 1) 0) (p.getD (4 * j + 2) 0) (p.getD (4 * j + 3) 0) := by
  unfold wordAt w32 partW partW partW partW partW
  rw [shl_or, shl_or, shl_or, shl_or, shl_or, shl_or]
  have z : ((0 : UInt32) <<< (8 : UInt32)) = 0 := by decide
  have s16 : ∀ x : UInt32, (x <<< (8 : UInt32)) <<< (8 : UInt32) = x <<< UInt32.ofNat 16 := fun x => by
    apply UInt32.toBitVec_inj.1
    simp [← BitVec.shiftLeft_add]
  have s24 : ∀ x : UInt32, (x <<< UInt32.ofNat 16) <<< (8 : UInt32) = x <<< UInt32.ofNat 24 := fun x => by
    apply UInt32.toBitVec_inj.1
    simp [← BitVec.shiftLeft_add]
  simp only [z, s16, s24, UInt32.zero_or, Nat.add_zero]
  rfl
/-- a word of a block does not turn behind its making -/
theorem wordsN_get (p : List UInt8) (n i : Nat) (hi : i < n) : (wordsN p n).getD i 0 = (wordsN p (i + 1)).getD i 0 := by
  induction n with
  | zero => omega
  | succ n ih =>
    by_cases h : i = n
    · rw [h]
    · rw [← ih (by omega)]
      show (wordsN p n ++ _).getD i 0 = _
      rw [List.getD_eq_getElem?_getD, List.getD_eq_getElem?_getD, List.getElem?_append_left (by rw [wordsN_length]; omega)]
theorem take_set_next {ws : List UInt32} {j : Nat} {y : UInt32} (h : j < ws.length) : (ws.set j y).take (j + 1) = ws.take j ++ [y] := by
  have hl : j < (ws.set j y).length := by simpa using h
  rw [List.take_succ_eq_append_getElem hl, List.take_set_of_le (Nat.le_refl _), List.getElem_set_self]
theorem words_prev {ws : List UInt32} {p : List UInt8} {j i : Nat} (h : ws.take j = wordsN p j) (hi : i < j) : ws.getD i 0 = (wordsN p j).getD i 0 := by
  rw [← h, List.getD_eq_getElem?_getD, List.getD_eq_getElem?_getD, List.getElem?_take, if_pos hi]
end Go.Proofs.YtikikddkhikfkaaDoor
