/-
  What a digest has taken in: plain laws of SHA-256's state behind pieces of a message. By the session.
-/
import Derived.Test.YtikikddkhikfkaaDoorPa7
import Derived.Test.YtikikddkhikfkaaDoorPa3
import Derived.Laws.CopyOwn
set_option linter.all false
namespace Go.Proofs.YtikikddkhikfkaaDoor
open Go.RowKit

theorem getD_drop' (m : List UInt8) (k j : Nat) : (m.drop k).getD j 0 = m.getD (k + j) 0 := by
  rw [List.getD_eq_getElem?_getD, List.getD_eq_getElem?_getD, List.getElem?_drop]
theorem getD_left (m q : List UInt8) (j : Nat) (h : j < m.length) : (m ++ q).getD j 0 = m.getD j 0 := by
  rw [List.getD_eq_getElem?_getD, List.getD_eq_getElem?_getD, List.getElem?_append_left h]
theorem wordAt_congr {p q : List UInt8} (h : ∀ j, j < 64 → p.getD j 0 = q.getD j 0) {i : Nat} (hi : i < 16) : wordAt p i = wordAt q i := by
  rw [wordAt_eq, wordAt_eq, h _ (by omega), h _ (by omega), h _ (by omega), h _ (by omega)]
theorem wordsN_congr {p q : List UInt8} (h : ∀ j, j < 64 → p.getD j 0 = q.getD j 0) (n : Nat) : wordsN p n = wordsN q n := by
  induction n with
  | zero => rfl
  | succ n ih =>
    show wordsN p n ++ [if n < 16 then wordAt p n else nextW (wordsN p n)] = wordsN q n ++ [if n < 16 then wordAt q n else nextW (wordsN q n)]
    rw [ih]
    by_cases hn : n < 16
    · rw [if_pos hn, if_pos hn, wordAt_congr h hn]
    · rw [if_neg hn, if_neg hn]
theorem roundsN_congr {p q : List UInt8} (h : ∀ j, j < 64 → p.getD j 0 = q.getD j 0) (s : St) (n : Nat) : roundsN p s n = roundsN q s n := by
  induction n with
  | zero => rfl
  | succ n ih =>
    show (roundsN p s n).turn (shaK.getD n 0) ((wordsN p 64).getD n 0) = (roundsN q s n).turn (shaK.getD n 0) ((wordsN q 64).getD n 0)
    rw [ih, wordsN_congr h]
theorem blockL_congr {p q : List UInt8} (h : ∀ j, j < 64 → p.getD j 0 = q.getD j 0) (s : St) : blockL s p = blockL s q := by
  show s.add (roundsN p s 64) = s.add (roundsN q s 64)
  rw [roundsN_congr h]
theorem blocksN_congr {m q : List UInt8} {s : St} : ∀ k, (∀ j, j < 64 * k → m.getD j 0 = q.getD j 0) → blocksN m s k = blocksN q s k
  | 0, _ => rfl
  | k + 1, h => by
    show blockL (blocksN m s k) (m.drop (64 * k)) = blockL (blocksN q s k) (q.drop (64 * k))
    rw [blocksN_congr k (fun j hj => h j (by omega))]
    refine blockL_congr (fun j hj => ?_) _
    rw [getD_drop', getD_drop']
    exact h _ (by omega)
theorem blocksN_plus (m : List UInt8) (s : St) (a : Nat) : ∀ b, blocksN m s (a + b) = blocksN (m.drop (64 * a)) (blocksN m s a) b
  | 0 => rfl
  | b + 1 => by
    show blockL (blocksN m s (a + b)) (m.drop (64 * (a + b))) = blockL (blocksN (m.drop (64 * a)) (blocksN m s a) b) ((m.drop (64 * a)).drop (64 * b))
    rw [blocksN_plus m s a b, List.drop_drop, ← Nat.mul_add]
theorem blocksN_app (m q : List UInt8) (s : St) (a b : Nat) (hm : m.length = 64 * a) : blocksN (m ++ q) s (a + b) = blocksN q (blocksN m s a) b := by
  rw [blocksN_plus]
  have h1 : (m ++ q).drop (64 * a) = q := by rw [← hm]; exact List.drop_left
  have h2 : blocksN (m ++ q) s a = blocksN m s a := blocksN_congr a fun j hj => getD_left _ _ _ (by omega)
  rw [h1, h2]

/-- h, x and nx are a digest's that has taken m: the state behind m's whole blocks, and what is left of m -/
structure Took (m : List UInt8) (h : St) (x : List UInt8) (nx : Nat) : Prop where
  len : x.length = 64
  st : h = blocksN m shaH (m.length / 64)
  left : nx = m.length % 64
  rest : x.take nx = m.drop (64 * (m.length / 64))
theorem took_nil (x : List UInt8) (hx : x.length = 64) : Took [] shaH x 0 := ⟨hx, rfl, rfl, rfl⟩
theorem splice_len {x p : List UInt8} {k : Nat} (hx : x.length = 64) (h : k + p.length ≤ 64) : (splice x k p).length = 64 := by rw [length_splice _ _ _ (by omega), hx]
theorem splice_take {x p : List UInt8} {k : Nat} (hx : x.length = 64) (h : k + p.length ≤ 64) : (splice x k p).take (k + p.length) = x.take k ++ p := by
  unfold splice
  have e : (x.take k).length = k := by rw [List.length_take]; omega
  rw [← List.append_assoc, List.take_append_of_le_length (by rw [List.length_append, e]; omega), List.take_of_length_le (by rw [List.length_append, e]; omega)]
theorem took_part {m : List UInt8} {h : St} {x : List UInt8} {nx : Nat} (hk : Took m h x nx) (p : List UInt8) (hp : nx + p.length < 64) : Took (m ++ p) h (splice x nx p) (nx + p.length) := by
  have e1 := hk.left
  have e2 : (m ++ p).length / 64 = m.length / 64 := by rw [List.length_append]; omega
  refine ⟨splice_len hk.len (by omega), ?_, ?_, ?_⟩
  · rw [e2]
    refine hk.st.trans ?_
    exact blocksN_congr _ fun j hj => (getD_left _ _ _ (by omega)).symm
  · rw [List.length_append]; omega
  · rw [splice_take hk.len (by omega), hk.rest, e2, List.drop_append_of_le_length (by omega)]
theorem took_full {m : List UInt8} {h : St} {x : List UInt8} {nx : Nat} (hk : Took m h x nx) (p : List UInt8) (hp : nx + p.length = 64) (hpos : 0 < p.length) : Took (m ++ p) (blocksN (splice x nx p) h 1) (splice x nx p) 0 := by
  have e1 := hk.left
  have e2 : (m ++ p).length / 64 = m.length / 64 + 1 := by rw [List.length_append]; omega
  refine ⟨splice_len hk.len (by omega), ?_, ?_, ?_⟩
  · rw [e2, blocksN_plus]
    have h1 : blocksN (m ++ p) shaH (m.length / 64) = h := by
      rw [hk.st]
      exact blocksN_congr _ fun j hj => getD_left _ _ _ (by omega)
    have h2 : (m ++ p).drop (64 * (m.length / 64)) = splice x nx p := by
      rw [List.drop_append_of_le_length (by omega), ← hk.rest]
      have h3 := splice_take hk.len (k := nx) (p := p) (by omega)
      rw [hp, List.take_of_length_le (by rw [splice_len hk.len (by omega)]; omega)] at h3
      exact h3.symm
    rw [h1, h2]
  · rw [List.length_append]; omega
  · rw [e2, List.drop_eq_nil_of_le (by rw [List.length_append]; omega)]; rfl
theorem took_blocks {m : List UInt8} {h : St} {x : List UInt8} (hk : Took m h x 0) (q : List UInt8) (hq : q.length % 64 = 0) : Took (m ++ q) (blocksN q h (q.length / 64)) x 0 := by
  have e1 := hk.left
  have e2 : (m ++ q).length / 64 = m.length / 64 + q.length / 64 := by rw [List.length_append]; omega
  refine ⟨hk.len, ?_, ?_, ?_⟩
  · rw [e2, blocksN_app _ _ _ _ _ (by omega), hk.st]
  · rw [List.length_append]; omega
  · rw [e2, List.drop_eq_nil_of_le (by rw [List.length_append]; omega)]; rfl

theorem bc_splice (x p : List UInt8) (k : Nat) : bc (splice x k p) = splice (bc x) k (bc p) := by
  unfold splice bc
  simp [List.map_take, List.map_drop]
theorem bc_take' (s : List UInt8) (k : Nat) : bc (s.take k) = (bc s).take k := by unfold bc; rw [List.map_take]
theorem bc_drop' (s : List UInt8) (k : Nat) : bc (s.drop k) = (bc s).drop k := by unfold bc; rw [List.map_drop]
/-- a piece of bytes laid into a digest's buffer -/
theorem dgC_splice (h : St) (x p : List UInt8) (nx len k : Nat) (hx : x.length = 64) (hk : k + p.length ≤ 64) : (splice (dgC h x nx len).toList (8 + k) (bc p)).toArray = dgC h (splice x k p) nx len := by
  unfold dgC
  rw [bc_splice]
  generalize hT : [Value.int .i64 (nx : Int), Value.int .u64 (len : Int), Value.bool false] = T
  have e8 : (h.list.map uv).length = 8 := by simp [St.list]
  generalize h.list.map uv = H at *
  have ex : (bc x).length = 64 := by rw [bc_length, hx]
  have ep : (bc p).length = p.length := bc_length p
  generalize bc x = X at *
  generalize bc p = P at *
  unfold splice
  congr 1
  have t1 : (H ++ X ++ T).take (8 + k) = H ++ X.take k := by
    rw [List.append_assoc, ← e8, List.take_length_add_append, List.take_append_of_le_length (by omega)]
  have t2 : (H ++ X ++ T).drop (8 + k + P.length) = X.drop (k + P.length) ++ T := by
    rw [List.append_assoc, Nat.add_assoc, ← e8, List.drop_length_add_append, List.drop_append_of_le_length (by omega)]
  rw [t1, t2]
  simp only [List.append_assoc]
theorem dgC_nx (h : St) (x : List UInt8) (nx nx' len : Nat) (hx : x.length = 64) : (dgC h x nx len).setIfInBounds 72 (.int .i64 (nx' : Int)) = dgC h x nx' len := by
  have e8 : (h.list.map uv ++ bc x).length = 72 := by rw [List.length_append, bc_length, hx]; simp [St.list]
  unfold dgC
  rw [List.setIfInBounds_toArray, List.set_append_right _ _ (by omega), e8]; rfl
theorem dgC_len (h : St) (x : List UInt8) (nx len len' : Nat) (hx : x.length = 64) : (dgC h x nx len).setIfInBounds 73 (.int .u64 (len' : Int)) = dgC h x nx len' := by
  have e8 : (h.list.map uv ++ bc x).length = 72 := by rw [List.length_append, bc_length, hx]; simp [St.list]
  unfold dgC
  rw [List.setIfInBounds_toArray, List.set_append_right _ _ (by omega), e8]; rfl
theorem dgC_size (h : St) (x : List UInt8) (nx len : Nat) (hx : x.length = 64) : (dgC h x nx len).size = 75 := by
  unfold dgC
  rw [List.size_toArray, List.length_append, List.length_append, bc_length, hx]; simp [St.list]

/-- the digest in block g has taken m -/
def Dg (w : World) (g : Nat) (m : List UInt8) : Prop := ∃ h x nx, Took m h x nx ∧ Blk w g 215 (dgC h x nx m.length)
/-- the table of the rounds' constants stands where the program lays it -/
def Kw (w : World) : Prop := (∀ i, i < 64 → w.cell? ⟨3, i, none⟩ = some (uv (shaK.getD i 0))) ∧ 3 < w.heap.size
theorem Kw.grown {w w' : World} {r : Option Nat} (h : Kw w) (hg : w.grownBy w' r) (hr : r ≠ some 3) : Kw w' :=
  ⟨fun i hi => hg.cell (h.1 i hi) (fun e => hr e.symm), Nat.lt_of_lt_of_le h.2 hg.size⟩
theorem Kw.below {w w' : World} {B : Nat} (h : Kw w) (hb : Below B w w') (hB : 3 < B) : Kw w' :=
  ⟨fun i hi => (hb.cell (p := ⟨3, i, none⟩) hB).trans (h.1 i hi), Nat.lt_of_lt_of_le h.2 hb.size⟩
theorem Kw.belowS {w w' : World} (h : Kw w) (hb : Below w.heap.size w w') : Kw w' := h.below hb h.2

/-- the padding of a message of n bytes -/
def padT (n : Nat) : List UInt8 := [0x80] ++ List.replicate (zerosOf n) 0 ++ be8 (n * 8)
theorem padL_eq (b : List UInt8) : padL b = b ++ padT b.length := by unfold padL padT; simp only [List.append_assoc]
theorem padT_length (n : Nat) : (padT n).length = zerosOf n + 9 := by
  unfold padT be8; simp
/-- a digest that has taken a message and its padding holds the sum's words -/
theorem took_sum {m : List UInt8} {h : St} {x : List UInt8} {nx : Nat} (hk : Took (m ++ padT m.length) h x nx) : nx = 0 ∧ h.bytes = shaL m := by
  have h1 := hk.st; have h2 := hk.left
  rw [← padL_eq] at h1 h2
  have h3 := padL_length m
  refine ⟨by omega, ?_⟩
  unfold shaL
  rw [h1]
end Go.Proofs.YtikikddkhikfkaaDoor
