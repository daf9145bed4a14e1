/-
  Words for memory, used by all proofs of this seat: a slice's value that reads as a list of cells, in blocks below a bound; seats as cells; small laws of the frame. No function of the program is walked here. By the session.
-/
import Derived.WalkKit
import Derived.WalkSpells
import Derived.WalkLawsBesides
import Derived.Lib.Hide
import Derived.Deep.QuietTactic
import Derived.BigQuiet
import Derived.Laws.OwnMore
import Derived.Deep.Draws
import Derived.Deep.AppendLies
import Derived.Maps.AppendAt
import Derived.OwnWalk
import Derived.Laws.IdiomStrings
import Derived.Lib.BytesEntry
import Derived.Lib.Bytealg
namespace Go.Proofs.YtikikddkhikfkaaDoor
open Go.RowKit

theorem add_block (a : Addr) (n : Nat) : (a.add n).block = a.block := by unfold Addr.add; split <;> rfl
theorem add_add' (a : Addr) (i j : Nat) : (a.add i).add j = a.add (i + j) := by
  unfold Addr.add
  rcases Nat.eq_zero_or_pos i with rfl | hi
  · simp
  · rcases Nat.eq_zero_or_pos j with rfl | hj
    · simp
    · rw [if_neg (by omega), if_neg (by omega), if_neg (by omega)]; simp [Nat.add_assoc]
theorem add_flat (b o n : Nat) : (⟨b, o, none⟩ : Addr).add n = ⟨b, o + n, none⟩ := by
  unfold Addr.add
  rcases Nat.eq_zero_or_pos n with rfl | hn
  · simp
  · rw [if_neg (by omega)]

theorem ret_int {k : IntKind} {a b : Int} (h : a = b) : Ending.returned (.int k a) = .returned (.int k b) := by rw [h]
theorem ret_bool {a b : Bool} (h : a = b) : Ending.returned (.bool a) = .returned (.bool b) := by rw [h]
theorem ret_val {a b : Value} (h : a = b) : Ending.returned a = .returned b := by rw [h]

/-- the slice's value at A, of n elements of sz cells, reads as the cells xs; all of it lies below block B -/
def Rd (w : World) (B sz : Nat) (A : Option Addr) (n : Nat) (xs : List Value) : Prop :=
  xs.length = n * sz ∧ ∀ j u, xs[j]? = some u → ∃ ad, A = some ad ∧ ad.block < B ∧ w.cell? (ad.add j) = some u

section
variable {w w' : World} {B B' sz n : Nat} {A : Option Addr} {xs : List Value}
theorem Rd.nil (w : World) (B sz : Nat) (A : Option Addr) : Rd w B sz A 0 [] := ⟨by simp, fun j u h => by simp at h⟩
theorem Rd.keep (h : Rd w B sz A n xs) (hk : ∀ p : Addr, p.block < B → w'.cell? p = w.cell? p) : Rd w' B sz A n xs :=
  ⟨h.1, fun j u hu => by
    obtain ⟨ad, e, hb, hc⟩ := h.2 j u hu
    exact ⟨ad, e, hb, (hk _ (by rw [add_block]; exact hb)).trans hc⟩⟩
theorem Rd.more (h : Rd w B sz A n xs) (hB : B ≤ B') : Rd w B' sz A n xs :=
  ⟨h.1, fun j u hu => by
    obtain ⟨ad, e, hb, hc⟩ := h.2 j u hu
    exact ⟨ad, e, by omega, hc⟩⟩
theorem Rd.below (h : Rd w B sz A n xs) (hb : Below B w w') : Rd w' B sz A n xs := h.keep fun _ hp => hb.cell hp
theorem Rd.belowN {B0 : Nat} (h : Rd w B sz A n xs) (hb : Below B0 w w') (hB : B ≤ B0) : Rd w' B sz A n xs := h.below (hb.mono hB)
theorem Rd.drew (h : Rd w B sz A n xs) : Rd w.drew B sz A n xs := h
theorem Rd.drewN (h : Rd w B sz A n xs) (k : Nat) : Rd (w.drewN k) B sz A n xs := h
theorem Rd.alloc (h : Rd w B sz A n xs) (hB : B ≤ w.heap.size) (o : Obj) : Rd (w.alloc o) B sz A n xs := h.keep fun p hp => World.cell?_alloc_lt w o p (by omega)
theorem Rd.take {k : Nat} (h : Rd w B sz A n xs) (hk : k ≤ n) : Rd w B sz A k (xs.take (k * sz)) := by
  refine ⟨?_, fun j u hu => ?_⟩
  · rw [List.length_take, h.1]; exact Nat.min_eq_left (Nat.mul_le_mul_right _ hk)
  · rw [List.getElem?_take] at hu
    split at hu
    · exact h.2 j u hu
    · cases hu
theorem Rd.of_own {base : Nat} {e : TypeId} {c : Nat} (h : w.ownsRow base e sz (.slice A n c) n xs) : Rd w w.heap.size sz A n xs := by
  refine ⟨h.1, fun j u hu => ?_⟩
  have hn : 0 < n := by
    rcases Nat.eq_zero_or_pos n with rfl | h0
    · have := h.1; simp at this; subst this; simp at hu
    · exact h0
  obtain ⟨g, cap, hv, _, hlt⟩ := h.form hn
  have hA : A = some ⟨g, 0, none⟩ := by injection hv
  subst hA
  exact ⟨_, rfl, hlt, h.cells (g := g) rfl j u hu⟩
end

/-- A seat: its address, its key, its power, its priority. -/
structure Sd where
  adr : ByteArray
  key : ByteArray
  pow : Int
  pri : Int
def Sd.cells (s : Sd) : List Value := [.string s.adr, .string s.key, .int .i64 s.pow, .int .i64 s.pri]
def cellsOf (l : List Sd) : List Value := l.flatMap Sd.cells
theorem cellsOf_length (l : List Sd) : (cellsOf l).length = l.length * 4 := by
  induction l with
  | nil => rfl
  | cons x r ih => simp only [cellsOf, List.flatMap_cons, List.length_append, List.length_cons] at ih ⊢; rw [ih]; simp [Sd.cells]; omega
theorem cellsOf_append (l m : List Sd) : cellsOf (l ++ m) = cellsOf l ++ cellsOf m := by simp [cellsOf]
theorem cellsOf_take (l : List Sd) (k : Nat) : cellsOf (l.take k) = (cellsOf l).take (k * 4) := by
  induction l generalizing k with
  | nil => simp [cellsOf]
  | cons x r ih =>
    cases k with
    | zero => simp [cellsOf]
    | succ k =>
      have := ih k
      simp only [cellsOf, List.take_succ_cons, List.flatMap_cons] at this ⊢
      rw [this]
      have e : (k + 1) * 4 = x.cells.length + k * 4 := by simp [Sd.cells]; omega
      rw [e, List.take_length_add_append]
theorem cellsOf_get (l : List Sd) (k i : Nat) (x : Sd) (hx : l[k]? = some x) (hi : i < 4) : (cellsOf l)[k * 4 + i]? = x.cells[i]? := by
  induction l generalizing k with
  | nil => simp at hx
  | cons y r ih =>
    cases k with
    | zero =>
      simp at hx; subst hx
      simp only [cellsOf, List.flatMap_cons]
      rw [List.getElem?_append_left (by simp [Sd.cells]; omega)]; simp
    | succ k =>
      have := ih k (by simpa using hx)
      simp only [cellsOf, List.flatMap_cons] at this ⊢
      rw [List.getElem?_append_right (by simp [Sd.cells]; omega), ← this]
      congr 1; simp [Sd.cells]; omega
theorem cellsOf_one (l : List Sd) : ∀ u ∈ cellsOf l, u.oneCell' = true := by
  intro u hu
  simp only [cellsOf, List.mem_flatMap] at hu
  obtain ⟨x, _, hx⟩ := hu
  simp only [Sd.cells, List.mem_cons, List.not_mem_nil, or_false] at hx
  rcases hx with rfl | rfl | rfl | rfl <;> rfl

/-- the four cells of the k-th seat of a slice -/
theorem Rd.seat {w : World} {B n : Nat} {A : Option Addr} {l : List Sd} {k : Nat} {x : Sd} (h : Rd w B 4 A n (cellsOf l)) (hx : l[k]? = some x) :
    ∃ ad, A = some ad ∧ ad.block < B ∧ w.cell? (ad.add (k * 4)) = some (.string x.adr) ∧ w.cell? ⟨(ad.add (k * 4)).block, (ad.add (k * 4)).off + 1, none⟩ = some (.string x.key) ∧
      w.cell? ⟨(ad.add (k * 4)).block, (ad.add (k * 4)).off + 2, none⟩ = some (.int .i64 x.pow) ∧ w.cell? ⟨(ad.add (k * 4)).block, (ad.add (k * 4)).off + 3, none⟩ = some (.int .i64 x.pri) := by
  have g : ∀ i u, i < 4 → x.cells[i]? = some u → ∃ ad, A = some ad ∧ ad.block < B ∧ w.cell? (ad.add (k * 4 + i)) = some u := fun i u hi hu => h.2 _ _ ((cellsOf_get l k i x hx hi).trans hu)
  obtain ⟨ad, rfl, hb, c0⟩ := g 0 _ (by omega) rfl
  obtain ⟨_, e1, _, c1⟩ := g 1 _ (by omega) rfl
  obtain ⟨_, e2, _, c2⟩ := g 2 _ (by omega) rfl
  obtain ⟨_, e3, _, c3⟩ := g 3 _ (by omega) rfl
  cases e1; cases e2; cases e3
  have f : ∀ i, 0 < i → ad.add (k * 4 + i) = ⟨(ad.add (k * 4)).block, (ad.add (k * 4)).off + i, none⟩ := by
    intro i hi
    unfold Addr.add
    rw [if_neg (by omega)]
    split
    · rename_i h0; simp
    · simp [Nat.add_assoc]
  rw [f 1 (by omega)] at c1; rw [f 2 (by omega)] at c2; rw [f 3 (by omega)] at c3
  exact ⟨ad, rfl, hb, c0, c1, c2, c3⟩
theorem Rd.len {w : World} {B n : Nat} {A : Option Addr} {l : List Sd} (h : Rd w B 4 A n (cellsOf l)) : n = l.length := by
  have := h.1; rw [cellsOf_length] at this; omega

theorem cellsOf_set (l : List Sd) (k : Nat) (s : Sd) (hk : k < l.length) : cellsOf (l.set k s) = ((((cellsOf l).set (k * 4) (.string s.adr)).set (k * 4 + 1) (.string s.key)).set (k * 4 + 2) (.int .i64 s.pow)).set (k * 4 + 3) (.int .i64 s.pri) := by
  refine List.ext_getElem? fun i => ?_
  have hi : i = i / 4 * 4 + i % 4 := by omega
  have h4 : i % 4 < 4 := Nat.mod_lt _ (by omega)
  by_cases hl : i / 4 < l.length
  · have hx : l[i / 4]? = some l[i / 4] := List.getElem?_eq_getElem hl
    have hc := cellsOf_length l
    simp only [List.getElem?_set, List.length_set, hc]
    by_cases e : k = i / 4
    · subst e
      have h1 : (l.set (i / 4) s)[i / 4]? = some s := by simp [hl]
      have := cellsOf_get (l.set (i / 4) s) (i / 4) (i % 4) s h1 h4
      rw [← hi] at this
      rw [this]
      have h2 : i < l.length * 4 := by omega
      generalize hq : i / 4 = q at *
      generalize hr : i % 4 = r at *
      subst hi
      obtain rfl | rfl | rfl | rfl : r = 0 ∨ r = 1 ∨ r = 2 ∨ r = 3 := by omega
      all_goals simp [Sd.cells, h2] <;> omega
    · have h1 : (l.set k s)[i / 4]? = some l[i / 4] := by rw [List.getElem?_set, if_neg (by omega)]; exact hx
      have g1 := cellsOf_get (l.set k s) (i / 4) (i % 4) _ h1 h4
      have g2 := cellsOf_get l (i / 4) (i % 4) _ hx h4
      rw [← hi] at g1 g2
      rw [g1, if_neg (by omega), if_neg (by omega), if_neg (by omega), if_neg (by omega), g2]
  · rw [List.getElem?_eq_none (by rw [cellsOf_length]; simp; omega), List.getElem?_eq_none (by simp [cellsOf_length]; omega)]

theorem own_put {w : World} {base : Nat} {g n c e : Nat} {l : List Sd} {k : Nat} {s : Sd} (h : w.ownsRow base e 4 (.slice (some ⟨g, 0, none⟩) n c) n (cellsOf l)) (hk : k < l.length) :
    ((((w.setCell ⟨g, k * 4, none⟩ (.string s.adr)).setCell ⟨g, k * 4 + 1, none⟩ (.string s.key)).setCell ⟨g, k * 4 + 2, none⟩ (.int .i64 s.pow)).setCell ⟨g, k * 4 + 3, none⟩ (.int .i64 s.pri)).ownsRow base e 4 (.slice (some ⟨g, 0, none⟩) n c) n (cellsOf (l.set k s)) := by
  rw [cellsOf_set l k s hk]
  exact ((((h.stored _ _).1.stored _ _).1.stored _ _).1.stored _ _).1
theorem own_pri {w : World} {base : Nat} {g n c e : Nat} {l : List Sd} {k : Nat} {x : Sd} {q : Int} (h : w.ownsRow base e 4 (.slice (some ⟨g, 0, none⟩) n c) n (cellsOf l)) (hx : l[k]? = some x) :
    (w.setCell ⟨g, k * 4 + 3, none⟩ (.int .i64 q)).ownsRow base e 4 (.slice (some ⟨g, 0, none⟩) n c) n (cellsOf (l.set k { x with pri := q })) := by
  have hk : k < l.length := (List.getElem?_eq_some_iff.1 hx).1
  have e : cellsOf (l.set k { x with pri := q }) = (cellsOf l).set (k * 4 + 3) (.int .i64 q) := by
    rw [cellsOf_set l k _ hk]
    have same : ∀ (m : List Value) (i : Nat) (u : Value), m[i]? = some u → m.set i u = m := by
      intro m i u hu
      have hi := (List.getElem?_eq_some_iff.1 hu)
      rw [← hi.2]; exact List.set_getElem_self hi.1
    rw [same (cellsOf l) (k * 4) _ (cellsOf_get l k 0 x hx (by omega))]
    rw [same (cellsOf l) (k * 4 + 1) _ (cellsOf_get l k 1 x hx (by omega))]
    rw [same (cellsOf l) (k * 4 + 2) _ (cellsOf_get l k 2 x hx (by omega))]
  rw [e]
  exact (h.stored _ _).1
theorem below_put {B : Nat} {a w : World} {g k : Nat} {v0 v1 v2 v3 : Value} (h : Below B a w) (hg : B ≤ g) :
    Below B a ((((w.setCell ⟨g, k * 4, none⟩ v0).setCell ⟨g, k * 4 + 1, none⟩ v1).setCell ⟨g, k * 4 + 2, none⟩ v2).setCell ⟨g, k * 4 + 3, none⟩ v3) :=
  (((h.setCell (p := ⟨g, _, none⟩) hg _).setCell (p := ⟨g, _, none⟩) hg _).setCell (p := ⟨g, _, none⟩) hg _).setCell (p := ⟨g, _, none⟩) hg _
theorem below_drewN {B : Nat} {a w : World} (h : Below B a w) (n : Nat) : Below B a (w.drewN n) := ⟨h.os, h.tape, h.output, h.size, h.block⟩
theorem own_below {w w' : World} {base e size B : Nat} {v : Value} {n : Nat} {xs : List Value} (h : w.ownsRow base e size v n xs) (hb : Below B w w') (hB : w.heap.size ≤ B := by simp) : w'.ownsRow base e size v n xs := by
  refine ⟨h.1, ?_⟩
  rcases h.2 with h2 | ⟨g, cap, cur, hv, hg, hh, r⟩
  · exact Or.inl h2
  · have hlt : g < w.heap.size := by
      rcases Nat.lt_or_ge g w.heap.size with h' | h'
      · exact h'
      · rw [Array.getElem?_eq_none h'] at hh; cases hh
    exact Or.inr ⟨g, cap, cur, hv, hg, (hb.block g (by omega)).trans hh, r⟩
theorem own_base {w : World} {base e size : Nat} {v : Value} {n : Nat} {xs : List Value} (h : w.ownsRow base e size v n xs) : ∀ k, v.ownBlock = some k → base ≤ k := by
  intro k hk
  rcases h.2 with ⟨rfl, _⟩ | ⟨g, cap, cur, rfl, hg, _⟩
  · simp [Value.ownBlock] at hk
  · simp [Value.ownBlock] at hk; omega
theorem own_drewN {w : World} {base e size : Nat} {v : Value} {n : Nat} {xs : List Value} (h : w.ownsRow base e size v n xs) (k : Nat) : (w.drewN k).ownsRow base e size v n xs := h

theorem Rd.new (W : World) (cs : Array Value) (t : TypeId) (sz n N : Nat) (h : cs.toList.length = n * sz) (hN : W.heap.size = N) : Rd (W.alloc (.cells cs t)) (N + 1) sz (some ⟨N, 0, none⟩) n cs.toList := by
  subst hN
  refine ⟨h, fun j u hu => ⟨_, rfl, by simp, ?_⟩⟩
  rw [add_flat, Nat.zero_add]
  have hh := heap_alloc_new W (.cells cs t)
  rw [cell_of_row _ _ _ _ _ _ hh]
  simpa using hu
theorem cellsOf_snoc (l : List Sd) (x : Sd) : cellsOf l ++ x.cells = cellsOf (l ++ [x]) := by simp [cellsOf]
theorem Sd.cells_one (x : Sd) : ∀ u ∈ x.cells, u.oneCell' = true := fun u hu => cellsOf_one [x] u (by simpa [cellsOf] using hu)

/-! ### a block that is known whole -/
theorem lt_of_heap {w : World} {g : Nat} {o : Obj} (h : w.heap[g]? = some o) : g < w.heap.size := by
  rcases Nat.lt_or_ge g w.heap.size with h' | h'
  · exact h'
  · rw [Array.getElem?_eq_none h'] at h; cases h
def Blk (w : World) (g : Nat) (t : TypeId) (cs : Array Value) : Prop := w.heap[g]? = some (Obj.cells cs t (0, 0))
section
variable {w w' : World} {g : Nat} {t : TypeId} {cs : Array Value}
theorem Blk.lt (h : Blk w g t cs) : g < w.heap.size := by
  rcases Nat.lt_or_ge g w.heap.size with h' | h'
  · exact h'
  · unfold Blk at h; rw [Array.getElem?_eq_none h'] at h; cases h
theorem Blk.cell (h : Blk w g t cs) (i : Nat) : w.cell? ⟨g, i, none⟩ = cs[i]? := cell_of_row w g i cs t (0, 0) h
theorem Blk.free (h : Blk w g t cs) (i : Nat) : w.frozen? ⟨g, i, none⟩ = false := by unfold Blk at h; simp [World.frozen?, h]
theorem Blk.new (w : World) (t : TypeId) (cs : Array Value) : Blk (w.alloc (.cells cs t)) w.heap.size t cs := heap_alloc_new w _
theorem Blk.alloc (h : Blk w g t cs) (o : Obj) : Blk (w.alloc o) g t cs := (Below.heap_alloc w o g h.lt).trans h
theorem Blk.put (h : Blk w g t cs) (i : Nat) (u : Value) : Blk (w.setCell ⟨g, i, none⟩ u) g t (cs.setIfInBounds i u) := by
  unfold Blk at h ⊢
  simp [World.setCell, Array.getElem?_modify, h]
theorem Blk.far (h : Blk w g t cs) {p : Addr} (hp : g ≠ p.block) (u : Value) : Blk (w.setCell p u) g t cs := (Below.heap_setCell w p u g hp).trans h
theorem Blk.below {B : Nat} (h : Blk w g t cs) (hb : Below B w w') (hg : g < B) : Blk w' g t cs := (hb.block g hg).trans h
theorem Blk.belowS (h : Blk w g t cs) (hb : Below w.heap.size w w') : Blk w' g t cs := h.below hb h.lt
theorem Blk.drewN (h : Blk w g t cs) (k : Nat) : Blk (w.drewN k) g t cs := h
theorem Blk.drew (h : Blk w g t cs) : Blk w.drew g t cs := h
theorem Blk.grown {row : Option Nat} (h : Blk w g t cs) (hb : w.grownBy w' row) (hg : some g ≠ row) : Blk w' g t cs := (hb.block g h.lt hg).trans h
theorem Blk.ne {g' : Nat} {t' : TypeId} {cs' : Array Value} (h : Blk w g t cs) (h' : Blk w g' t' cs') (hne : t ≠ t') : g ≠ g' := by
  rintro rfl
  unfold Blk at h h'
  rw [h] at h'
  injection h' with h'
  injection h' with _ ht
  exact hne ht
theorem own_ne_blk {base e size n : Nat} {v : Value} {xs : List Value} (h : w.ownsRow base e size v n xs) (hg : Blk w g t cs) (hne : t ≠ e) : some g ≠ v.ownBlock := by
  rcases h.2 with ⟨rfl, _⟩ | ⟨g', cap, cur, rfl, _, hh, _⟩
  · simp [Value.ownBlock]
  · intro he
    have : g = g' := by simpa [Value.ownBlock] using he
    subst this
    exact Blk.ne (t' := e) hg hh hne rfl
end

/-! ### bytes that a conversion has laid; seats and validators of the package -/
/-- at A lie the bytes of s, at the head of a block of bytes -/
def Byt (w : World) (A : Option Addr) (s : ByteArray) : Prop :=
  ∃ (g : Nat) (cs : Array Value) (m : Nat × Nat), A = some ⟨g, 0, none⟩ ∧ w.heap[g]? = some (Obj.cells cs 5 m) ∧ ∀ j (hj : j < s.data.toList.length), cs[j]? = some (.int .u8 ((s.data.toList[j]).toNat : Int))
/-- all blocks of bytes are as they were -/
def KeepB (w w' : World) : Prop := ∀ (g : Nat) (cs : Array Value) (m : Nat × Nat), w.heap[g]? = some (Obj.cells cs 5 m) → w'.heap[g]? = w.heap[g]?
theorem KeepB.refl (w : World) : KeepB w w := fun _ _ _ _ => rfl
theorem KeepB.trans {a b c : World} (h : KeepB a b) (k : KeepB b c) : KeepB a c := fun g cs m e => (k g cs m ((h g cs m e).trans e)).trans (h g cs m e)
theorem KeepB.of_below {w w' : World} (h : Below w.heap.size w w') : KeepB w w' := fun g _ _ e => h.block g (lt_of_heap e)
theorem KeepB.of_belowN {w w' : World} {B : Nat} (h : Below B w w') (hB : w.heap.size ≤ B) : KeepB w w' := fun g _ _ e => h.block g (Nat.lt_of_lt_of_le (lt_of_heap e) hB)
theorem KeepB.alloc (w : World) (o : Obj) : KeepB w (w.alloc o) := fun g _ _ e => Below.heap_alloc w o g (lt_of_heap e)
theorem KeepB.drewN (w : World) (n : Nat) : KeepB w (w.drewN n) := fun _ _ _ _ => rfl
theorem KeepB.setCell {w : World} {p : Addr} {cs : Array Value} {t : TypeId} {m : Nat × Nat} (h : w.heap[p.block]? = some (.cells cs t m)) (ht : t ≠ 5) (v : Value) : KeepB w (w.setCell p v) := fun g cs' m' e => by
  refine Below.heap_setCell w p v g fun hg => ?_
  subst hg
  rw [h] at e
  injection e with e; injection e with _ e
  exact ht e
theorem KeepB.of_grown {w w' : World} {row : Option Nat} (h : w.grownBy w' row) (hr : ∀ (g : Nat) (cs : Array Value) (m : Nat × Nat), row = some g → w.heap[g]? ≠ some (Obj.cells cs 5 m)) : KeepB w w' := fun g cs m e => h.block g (lt_of_heap e) fun hg => hr g cs m hg.symm e
/-- an owned row of another type is no block of bytes, in a later world neither -/
theorem own_block_ne {w : World} {base e size : Nat} {v : Value} {n : Nat} {xs : List Value} (h : w.ownsRow base e size v n xs) (he : e ≠ 5) {w' : World} (hk : ∀ k, k < w.heap.size → w'.heap[k]? = w.heap[k]?) :
    ∀ (g : Nat) (cs : Array Value) (m : Nat × Nat), v.ownBlock = some g → w'.heap[g]? ≠ some (Obj.cells cs 5 m) := by
  intro g cs m hg e1
  rcases h.2 with ⟨rfl, _⟩ | ⟨g', cap, cur, rfl, _, hh, _⟩
  · simp [Value.ownBlock] at hg
  · simp [Value.ownBlock] at hg
    subst hg
    rw [hk _ (lt_of_heap hh), hh] at e1
    injection e1 with e1; injection e1 with _ e1
    exact he e1
theorem Byt.keep {w w' : World} {A : Option Addr} {s : ByteArray} (h : Byt w A s) (k : KeepB w w') : Byt w' A s := by
  obtain ⟨g, cs, m, e, hh, hc⟩ := h
  exact ⟨g, cs, m, e, (k g cs m hh).trans hh, hc⟩
/-- the block that a conversion to bytes lays -/
def bObj (s : ByteArray) (cap : Nat) : Obj := .cells (bytesRow s cap) 5 ((bytesRow s cap).size, (bytesRow s cap).size + 1)
theorem run_conv {P : Program} (src dst : TypeId) (hs : P.underlying src = some .string) (hd : P.underlying dst = some (.slice 5)) (he : P.underlying 5 = some (.int .u8)) (s : ByteArray) :
    ∃ f : World → Nat, ∀ W : World, (convert src dst (.string s)).run P W = .ok (.slice (some ⟨W.heap.size, 0, none⟩) s.size (f W)) (W.drew.alloc (bObj s (f W))) :=
  ⟨fun W => grownCap W s.size 0 5, fun W => run_bytes_of_string W src dst 5 s hs hd he⟩
theorem Byt.conv (W : World) (s : ByteArray) (cap : Nat) (N : Nat) (hN : W.heap.size = N) : Byt (W.alloc (bObj s cap)) (some ⟨N, 0, none⟩) s := by
  subst hN
  refine ⟨_, _, _, rfl, heap_alloc_new W _, fun j hj => ?_⟩
  have h1 : j < s.data.size := by simpa using hj
  have h2 : j < s.size := h1
  simp [bytesRow, Array.getElem?_append, h2]
/-- the cells of the bytes -/
theorem Byt.cells {w : World} {A : Option Addr} {s : ByteArray} (h : Byt w A s) : ∃ g, A = some ⟨g, 0, none⟩ ∧ g < w.heap.size ∧ ∀ j (hj : j < s.data.toList.length), w.cell? ⟨g, j, none⟩ = some (.int .u8 ((s.data.toList[j]).toNat : Int)) := by
  obtain ⟨g, cs, m, e, hh, hc⟩ := h
  exact ⟨g, e, lt_of_heap hh, fun j hj => (cell_of_row w g j cs _ _ hh).trans (hc j hj)⟩

theorem toList_data (s : ByteArray) : s.toList = s.data.toList := ByteArray.toList_eq s
/-- '[]byte' back to a string -/
theorem Byt.back {P : Program} {w : World} {A : Option Addr} {s : ByteArray} (h : Byt w A s) (src dst c : Nat) (hs : P.underlying src = some (.slice 5)) (he : P.underlying 5 = some (.int .u8)) (hd : P.underlying dst = some .string) :
    (convert src dst (.slice A s.size c)).run P w = .ok (.string s) w := by
  obtain ⟨g, rfl, _, hc⟩ := h.cells
  have := run_convert_bytes_back (P := P) w src dst 5 ⟨g, 0, none⟩ c s.data.toList hs he hd (fun j hj => by rw [add_flat, Nat.zero_add]; exact hc j hj)
  simpa using this

theorem bytesOf_nums (l : List UInt8) : Lib.bytesOf (l.map fun x => (x.toNat : Int)) = l := by
  unfold Lib.bytesOf
  rw [List.map_map]
  conv => rhs; rw [← List.map_id l]
  apply List.map_congr_left
  intro x _
  simp
/-- the library's compare, of two slices that hold bytes -/
theorem Byt.load {P : Program} {w : World} {A : Option Addr} {s : ByteArray} (h : Byt w A s) (c : Nat) : (Extern.Bytes.bytesOf (.slice A s.size c)).run P w = .ok s w := by
  obtain ⟨g, rfl, _, hc⟩ := h.cells
  have e : s.size = (s.data.toList.map fun x => (x.toNat : Int)).length := by rw [List.length_map]; simp
  simp only [Extern.Bytes.bytesOf]
  rw [e, Lib.run_loadBytesX w (s.data.toList.map fun x => (x.toNat : Int)) ⟨g, 0, none⟩ .empty (fun j x hx => by
    simp only [List.getElem?_map] at hx
    cases hy : s.data.toList[j]? with
    | none => rw [hy] at hx; simp at hx
    | some y =>
      rw [hy] at hx
      simp only [Option.map_some, Option.some.injEq] at hx
      have hj := List.getElem?_eq_some_iff.1 hy
      rw [add_flat, Nat.zero_add, hc j hj.1, hj.2, hx]), bytesOf_nums]
  congr 1
  apply ByteArray.ext
  simp
theorem run_compare {P : Program} {w : World} {A B : Option Addr} {a b : ByteArray} (ha : Byt w A a) (hb : Byt w B b) (c d : Nat) :
    (Extern.BytealgCompare.compare #[.slice A a.size c, .slice B b.size d]).run P w = .ok (.int .i64 (Lib.compareBytes a.data.toList b.data.toList)) w := by
  show (do pure (goInt (Extern.BytealgCompare.cmp (← Extern.Bytes.bytesOf (.slice A a.size c)) (← Extern.Bytes.bytesOf (.slice B b.size d)))) : Sem Value).run P w = _
  simp only [Sem.run_bind, ha.load, hb.load, Result.andThen, Sem.run_pure, Lib.cmp_eq]
  rfl

/-- A seat of the package: a seat, and where its address and its key lie. -/
structure Tv where
  x : Sd
  A : Option Addr
  c : Nat
  K : Option Addr
  d : Nat
def Tv.seat (t : Tv) : List Value := [.slice t.A t.x.adr.size t.c, .slice t.K t.x.key.size t.d, .int .i64 t.x.pow, .int .i64 t.x.pri]
/-- a validator's cells -/
def Tv.val (t : Tv) : Array Value := #[.slice t.A t.x.adr.size t.c, .iface 153 (.agg #[.slice t.K t.x.key.size t.d, .slice t.A t.x.adr.size t.c, .bool false]), .int .i64 t.x.pow, .int .i64 t.x.pri]
def Tv.ok (w : World) (t : Tv) : Prop := Byt w t.A t.x.adr ∧ Byt w t.K t.x.key
theorem Tv.ok.keep {w w' : World} {t : Tv} (h : t.ok w) (k : KeepB w w') : t.ok w' := ⟨h.1.keep k, h.2.keep k⟩
theorem flat_length {α : Type} (f : α → List Value) (sz : Nat) (h : ∀ x, (f x).length = sz) (l : List α) : (l.flatMap f).length = l.length * sz := by
  induction l with
  | nil => simp
  | cons x r ih => simp only [List.flatMap_cons, List.length_append, List.length_cons, ih, h, Nat.add_mul]; omega
theorem flat_get {α : Type} (f : α → List Value) (sz : Nat) (h : ∀ x, (f x).length = sz) (l : List α) (k i : Nat) (x : α) (hx : l[k]? = some x) (hi : i < sz) : (l.flatMap f)[k * sz + i]? = (f x)[i]? := by
  induction l generalizing k with
  | nil => simp at hx
  | cons y r ih =>
    cases k with
    | zero =>
      simp at hx; subst hx
      simp only [List.flatMap_cons]
      rw [List.getElem?_append_left (by simp [h]; omega)]; simp
    | succ k =>
      have := ih k (by simpa using hx)
      simp only [List.flatMap_cons]
      rw [List.getElem?_append_right (by rw [h, Nat.add_mul]; omega), ← this, h]
      congr 1; rw [Nat.add_mul]; omega
theorem Tv.seat_one (t : Tv) : ∀ u ∈ t.seat, u.oneCell' = true := by
  intro u hu
  simp only [Tv.seat, List.mem_cons, List.not_mem_nil, or_false] at hu
  rcases hu with rfl | rfl | rfl | rfl <;> rfl
theorem flat_snoc {α : Type} (f : α → List Value) (l : List α) (x : α) : l.flatMap f ++ f x = (l ++ [x]).flatMap f := by simp
/-- the four cells of the k-th element of a slice of elements of four cells -/
theorem Rd.four {α : Type} {f : α → List Value} (h4 : ∀ x, (f x).length = 4) {w : World} {B n : Nat} {A : Option Addr} {l : List α} {k : Nat} {x : α} (h : Rd w B 4 A n (l.flatMap f)) (hx : l[k]? = some x) :
    ∃ ad, A = some ad ∧ ad.block < B ∧ w.cell? (ad.add (k * 4)) = (f x)[0]? ∧ w.cell? ⟨(ad.add (k * 4)).block, (ad.add (k * 4)).off + 1, none⟩ = (f x)[1]? ∧
      w.cell? ⟨(ad.add (k * 4)).block, (ad.add (k * 4)).off + 2, none⟩ = (f x)[2]? ∧ w.cell? ⟨(ad.add (k * 4)).block, (ad.add (k * 4)).off + 3, none⟩ = (f x)[3]? := by
  have g : ∀ i, i < 4 → ∃ ad, A = some ad ∧ ad.block < B ∧ w.cell? (ad.add (k * 4 + i)) = (f x)[i]? := fun i hi => by
    have hi' : i < (f x).length := by rw [h4]; exact hi
    have hl : (f x)[i]? = some (f x)[i] := List.getElem?_eq_getElem hi'
    rw [hl]
    exact h.2 (k * 4 + i) _ ((flat_get f 4 h4 l k i x hx hi).trans hl)
  obtain ⟨ad, rfl, hb, c0⟩ := g 0 (by omega)
  obtain ⟨_, e1, _, c1⟩ := g 1 (by omega)
  obtain ⟨_, e2, _, c2⟩ := g 2 (by omega)
  obtain ⟨_, e3, _, c3⟩ := g 3 (by omega)
  cases e1; cases e2; cases e3
  have f : ∀ i, 0 < i → ad.add (k * 4 + i) = ⟨(ad.add (k * 4)).block, (ad.add (k * 4)).off + i, none⟩ := by
    intro i hi
    unfold Addr.add
    rw [if_neg (by omega)]
    split
    · rename_i h0; simp
    · simp [Nat.add_assoc]
  rw [f 1 (by omega)] at c1; rw [f 2 (by omega)] at c2; rw [f 3 (by omega)] at c3
  exact ⟨ad, rfl, hb, c0, c1, c2, c3⟩

def ptrTo (b : Nat) : Value := .pointer (some ⟨b, 0, none⟩)

/-! ### append onto a row of the call's own, out of a slice that reads as cells -/
theorem own_shape {w : World} {base : Nat} {e : TypeId} {size : Nat} {v : Value} {n : Nat} {xs : List Value} (h : w.ownsRow base e size v n xs) : ∃ A c, v = .slice A n c := by
  rcases h.2 with ⟨rfl, rfl⟩ | ⟨g, cap, cur, rfl, _⟩
  · exact ⟨_, _, rfl⟩
  · exact ⟨_, _, rfl⟩
section
variable {P : Program} (w : World)
theorem run_app (base : Nat) (t ty e : TypeId) (i : TypeInfo) (z : Value) (size bytes : Nat) (ht : P.underlying t = some (.slice e)) (hi : P.info? e = some i) (hz : i.zero = some z)
    (hsize : i.size = size) (hby : i.bytes = bytes) (hzs : z.cells.size = size) (hsz : 0 < size)
    (v : Value) (n : Nat) (xs : List Value) (hown : w.ownsRow base e size v n xs)
    (B : Nat) (A : Option Addr) (m c : Nat) (news : List Value) (hr : Rd w B size A m news) (h1 : ∀ u ∈ news, u.oneCell' = true)
    (h63 : n + m ≤ maxLen) (hbytes : (n + m) * bytes ≤ 140737488355328) (hbase : base ≤ w.heap.size) :
    ∃ A' c' w', (Builtin.append_ #[t, t] ty #[v, .slice A m c]).run P w = .ok (.slice A' (n + m) c') w' ∧ w'.ownsRow base e size (.slice A' (n + m) c') (n + m) (xs ++ news) ∧ w.grownBy w' v.ownBlock ∧
      ((Value.slice A' (n + m) c').ownBlock = v.ownBlock ∨ (Value.slice A' (n + m) c').ownBlock = some w.heap.size) := by
  cases A with
  | none =>
    have hm : m = 0 := by
      rcases Nat.eq_zero_or_pos m with h0 | h0
      · exact h0
      · have hl : 0 < news.length := by rw [hr.1]; exact Nat.mul_pos h0 hsz
        obtain ⟨ad, h, _⟩ := hr.2 0 _ (List.getElem?_eq_getElem hl)
        cases h
    subst hm
    have hn : news = [] := List.eq_nil_of_length_eq_zero (by simpa using hr.1)
    subst hn
    obtain ⟨A', c', rfl⟩ := own_shape hown
    refine ⟨A', c', w, ?_, by simpa using hown, World.grownBy.refl w _, .inl rfl⟩
    rcases hown.2 with ⟨e1, rfl⟩ | ⟨g, cap, cur, e1, _, _, hnc, _⟩
    · cases e1
      simp [Builtin.append_, run_underlying ht, sizeOf, typeInfo, hi, Builtin.lenOf, Builtin.firstCells]
    · cases e1
      simp [Builtin.append_, run_underlying ht, sizeOf, typeInfo, hi, Builtin.lenOf, Builtin.firstCells, hnc, storeCells]
  | some ad =>
    obtain ⟨v', w', hrun, h2, h3, _, h5⟩ := run_append_own_at (P := P) w base t ty e i z size bytes ht hi hz hsize hby hzs hsz v n xs hown ad m c news hr.1 (fun j u hu => by
      obtain ⟨_, e1, _, hc⟩ := hr.2 j u hu
      cases e1; exact hc) h1 h63 hbytes hbase
    obtain ⟨A', c', rfl⟩ := own_shape h2
    exact ⟨A', c', w', hrun, h2, h3, h5⟩

theorem wp_app {o : Oper} {a : Act} {K : Act → World → Prop} {Q : Exit → Act → World → Prop} (s x : Operand) (t : TypeId)
    (ho : o.op = .call { callee := .builtin .append, args := #[s, x], argTypes := #[t, t] })
    (base : Nat) (e : TypeId) (i : TypeInfo) (z : Value) (size bytes : Nat) (ht : P.underlying t = some (.slice e)) (hi : P.info? e = some i) (hz : i.zero = some z)
    (hsize : i.size = size) (hby : i.bytes = bytes) (hzs : z.cells.size = size) (hsz : 0 < size)
    (v : Value) (n : Nat) (xs : List Value) (hs : a.eval s = v) (hown : w.ownsRow base e size v n xs)
    (B : Nat) (A : Option Addr) (m c : Nat) (news : List Value) (hx : a.eval x = .slice A m c) (hr : Rd w B size A m news) (h1 : ∀ u ∈ news, u.oneCell' = true)
    (h63 : n + m ≤ maxLen) (hbytes : (n + m) * bytes ≤ 140737488355328) (hbase : base ≤ w.heap.size)
    (h : ∀ A' c' w', w'.ownsRow base e size (.slice A' (n + m) c') (n + m) (xs ++ news) → w.grownBy w' v.ownBlock → ((Value.slice A' (n + m) c').ownBlock = v.ownBlock ∨ (Value.slice A' (n + m) c').ownBlock = some w.heap.size) → K (a.put o.dst (.slice A' (n + m) c')) w') : o.wp P a w K Q := by
  obtain ⟨A', c', w', hrun, h2, h3, h4⟩ := run_app (P := P) w base t o.type e i z size bytes ht hi hz hsize hby hzs hsz v n xs hown B A m c news hr h1 h63 hbytes hbase
  unfold Oper.wp execOp
  simp only [ho, resolve, invoke, builtin, Sem.run_bind, Sem.run_pure, Result.andThen_ok, List.map_toArray, List.map_cons, List.map_nil, hs, hx, hrun]
  exact h A' c' w' h2 h3 h4
theorem wpList_app {ops : Array Oper} {rest : List Oper} {o : Oper} {a : Act} {Q : Exit → Act → World → Prop} (hgd : o.guard = none) (s x : Operand) (t : TypeId)
    (ho : o.op = .call { callee := .builtin .append, args := #[s, x], argTypes := #[t, t] })
    (base : Nat) (e : TypeId) (i : TypeInfo) (z : Value) (size bytes : Nat) (ht : P.underlying t = some (.slice e)) (hi : P.info? e = some i) (hz : i.zero = some z)
    (hsize : i.size = size) (hby : i.bytes = bytes) (hzs : z.cells.size = size) (hsz : 0 < size)
    (v : Value) (n : Nat) (xs : List Value) (hs : a.eval s = v) (hown : w.ownsRow base e size v n xs)
    (B : Nat) (A : Option Addr) (m c : Nat) (news : List Value) (hx : a.eval x = .slice A m c) (hr : Rd w B size A m news) (h1 : ∀ u ∈ news, u.oneCell' = true)
    (h63 : n + m ≤ maxLen) (hbytes : (n + m) * bytes ≤ 140737488355328) (hbase : base ≤ w.heap.size)
    (h : ∀ A' c' w', w'.ownsRow base e size (.slice A' (n + m) c') (n + m) (xs ++ news) → w.grownBy w' v.ownBlock → ((Value.slice A' (n + m) c').ownBlock = v.ownBlock ∨ (Value.slice A' (n + m) c').ownBlock = some w.heap.size) → wpList P ops Q rest (a.put o.dst (.slice A' (n + m) c')) w') : wpList P ops Q (o :: rest) a w :=
  wpList_plain hgd fun _ hK => wp_app w s x t ho base e i z size bytes ht hi hz hsize hby hzs hsz v n xs hs hown B A m c news hx hr h1 h63 hbytes hbase fun A' c' w' h2 h3 h4 => hK _ _ (h A' c' w' h2 h3 h4)
theorem step_app {ops : Array Oper} {o : Oper} {a : Act} {K : Act → World → Prop} {Q : Exit → Act → World → Prop} {E : Prop} (hgd : o.guard = none) (s x : Operand) (t : TypeId)
    (ho : o.op = .call { callee := .builtin .append, args := #[s, x], argTypes := #[t, t] })
    (base : Nat) (e : TypeId) (i : TypeInfo) (z : Value) (size bytes : Nat) (ht : P.underlying t = some (.slice e)) (hi : P.info? e = some i) (hz : i.zero = some z)
    (hsize : i.size = size) (hby : i.bytes = bytes) (hzs : z.cells.size = size) (hsz : 0 < size)
    (v : Value) (n : Nat) (xs : List Value) (hs : a.eval s = v) (hown : w.ownsRow base e size v n xs)
    (B : Nat) (A : Option Addr) (m c : Nat) (news : List Value) (hx : a.eval x = .slice A m c) (hr : Rd w B size A m news) (h1 : ∀ u ∈ news, u.oneCell' = true)
    (h63 : n + m ≤ maxLen) (hbytes : (n + m) * bytes ≤ 140737488355328) (hbase : base ≤ w.heap.size)
    (h : ∀ A' c' w', w'.ownsRow base e size (.slice A' (n + m) c') (n + m) (xs ++ news) → w.grownBy w' v.ownBlock → ((Value.slice A' (n + m) c').ownBlock = v.ownBlock ∨ (Value.slice A' (n + m) c').ownBlock = some w.heap.size) → K (a.put o.dst (.slice A' (n + m) c')) w') :
    if Region.wanted o (yielded ops a.tmps) = true then Oper.wp P o a w K Q else E := by
  have hw : Region.wanted o (yielded ops a.tmps) = true := by simp [Region.wanted, hgd]
  rw [if_pos hw]
  exact wp_app w s x t ho base e i z size bytes ht hi hz hsize hby hzs hsz v n xs hs hown B A m c news hx hr h1 h63 hbytes hbase h
end
theorem own_far {w : World} {base e size : Nat} {v : Value} {n : Nat} {xs : List Value} (h : w.ownsRow base e size v n xs) {p : Addr} (hp : some p.block ≠ v.ownBlock) (u : Value) : (w.setCell p u).ownsRow base e size v n xs := by
  refine ⟨h.1, ?_⟩
  rcases h.2 with h2 | ⟨g, cap, cur, hv, hg, hh, r⟩
  · exact Or.inl h2
  · refine Or.inr ⟨g, cap, cur, hv, hg, ?_, r⟩
    exact (Below.heap_setCell w p u g (fun e => hp (by subst hv; rw [← e]; rfl))).trans hh
/-! ### a set of validators -/
/-- At block g stands a set: its validators are the blocks bs, which hold ts; all of it was made at or behind block lo. -/
structure VSet (w : World) (lo g : Nat) (A : Option Addr) (c : Nat) (bs : List Nat) (ts : List Tv) (prop : Value) (tot : Int) (same : Bool) : Prop where
  head : Blk w g 149 #[.slice A bs.length c, prop, .int .i64 tot, .bool same]
  row : w.ownsRow lo 147 1 (.slice A bs.length c) bs.length (bs.map ptrTo)
  len : ts.length = bs.length
  nodup : bs.Nodup
  vals : ∀ (j b : Nat) (t : Tv), bs[j]? = some b → ts[j]? = some t → lo ≤ b ∧ Blk w b 157 t.val ∧ t.ok w
  log : lo ≤ g
/-- all blocks of sets, rows and validators from lo on, and all bytes, are as they were -/
def KeepV (lo : Nat) (w w' : World) : Prop := KeepB w w' ∧ ∀ k, lo ≤ k → k < w.heap.size → w'.heap[k]? = w.heap[k]?
theorem KeepV.of_below {w w' : World} {B : Nat} (lo : Nat) (h : Below B w w') (hB : w.heap.size ≤ B) : KeepV lo w w' := ⟨KeepB.of_belowN h hB, fun k _ hk => h.block k (by omega)⟩
theorem KeepV.drewN (lo : Nat) (w : World) (n : Nat) : KeepV lo w (w.drewN n) := ⟨KeepB.drewN w n, fun _ _ _ => rfl⟩
theorem VSet.keep {w w' : World} {lo g : Nat} {A : Option Addr} {c : Nat} {bs : List Nat} {ts : List Tv} {prop : Value} {tot : Int} {same : Bool} (h : VSet w lo g A c bs ts prop tot same) (k : KeepV lo w w') : VSet w' lo g A c bs ts prop tot same := by
  refine ⟨(k.2 g h.log h.head.lt).trans h.head, ?_, h.len, h.nodup, fun j b t hb ht => ?_, h.log⟩
  · refine ⟨h.row.1, ?_⟩
    rcases h.row.2 with h2 | ⟨g', cap, cur, hv, hg, hh, r⟩
    · exact Or.inl h2
    · exact Or.inr ⟨g', cap, cur, hv, hg, (k.2 g' hg (lt_of_heap hh)).trans hh, r⟩
  · obtain ⟨h1, h2, h3⟩ := h.vals j b t hb ht
    exact ⟨h1, (k.2 b h1 h2.lt).trans h2, h3.keep k.1⟩
theorem VSet.ptr {w : World} {lo g : Nat} {A : Option Addr} {c : Nat} {bs : List Nat} {ts : List Tv} {prop : Value} {tot : Int} {same : Bool} (h : VSet w lo g A c bs ts prop tot same) {j b : Nat} (hb : bs[j]? = some b) :
    ∃ r, A = some ⟨r, 0, none⟩ ∧ r < w.heap.size ∧ w.cell? ⟨r, j, none⟩ = some (.pointer (some ⟨b, 0, none⟩)) := by
  have hj := (List.getElem?_eq_some_iff.1 hb).1
  obtain ⟨r, cap, hv, _, hlt⟩ := h.row.form (by omega)
  have hA : A = some ⟨r, 0, none⟩ := by injection hv
  subst hA
  have := h.row.cells (g := r) rfl j (ptrTo b) (by rw [List.getElem?_map, hb]; rfl)
  rw [add_flat, Nat.zero_add] at this
  exact ⟨r, rfl, hlt, this⟩
theorem VSet.at_ {w : World} {lo g : Nat} {A : Option Addr} {c : Nat} {bs : List Nat} {ts : List Tv} {prop : Value} {tot : Int} {same : Bool} (h : VSet w lo g A c bs ts prop tot same) {j : Nat} (hj : j < bs.length) :
    ∃ b t, bs[j]? = some b ∧ ts[j]? = some t := ⟨_, _, List.getElem?_eq_getElem hj, List.getElem?_eq_getElem (by rw [h.len]; exact hj)⟩
theorem Tv.val_cells (t : Tv) {w : World} {b : Nat} (h : Blk w b 157 t.val) : w.cell? ⟨b, 0, none⟩ = some (.slice t.A t.x.adr.size t.c) ∧ w.cell? ⟨b, 1, none⟩ = some (.iface 153 (.agg #[.slice t.K t.x.key.size t.d, .slice t.A t.x.adr.size t.c, .bool false])) ∧ w.cell? ⟨b, 2, none⟩ = some (.int .i64 t.x.pow) ∧ w.cell? ⟨b, 3, none⟩ = some (.int .i64 t.x.pri) := ⟨h.cell 0, h.cell 1, h.cell 2, h.cell 3⟩

theorem grownAny_of {w w' : World} (h : Below w.heap.size w w') (row : Option Nat) : w.grownBy w' row := ⟨h.os, h.tape, h.output, h.size, fun i hi _ => h.block i hi⟩
theorem grown_put (w : World) (g i : Nat) (v : Value) : w.grownBy (w.setCell ⟨g, i, none⟩ v) (some g) := ⟨rfl, rfl, rfl, by simp [World.setCell], fun k _ hk => Below.heap_setCell w ⟨g, i, none⟩ v k (fun e => hk (by rw [e]))⟩
/-- one cell of the head written -/
theorem VSet.headPut {w : World} {lo g : Nat} {A : Option Addr} {c : Nat} {bs : List Nat} {ts : List Tv} {prop : Value} {tot : Int} {same : Bool} (h : VSet w lo g A c bs ts prop tot same) (i : Nat) (v : Value) (prop' : Value) (tot' : Int) (same' : Bool)
    (he : (#[Value.slice A bs.length c, prop, .int .i64 tot, .bool same] : Array Value).setIfInBounds i v = #[.slice A bs.length c, prop', .int .i64 tot', .bool same']) : VSet (w.setCell ⟨g, i, none⟩ v) lo g A c bs ts prop' tot' same' := by
  refine ⟨by rw [← he]; exact h.head.put i v, ?_, h.len, h.nodup, fun j b t hb ht => ?_, h.log⟩
  · refine ⟨h.row.1, ?_⟩
    rcases h.row.2 with h2 | ⟨g', cap, cur, hv, hg, hh, r⟩
    · exact Or.inl h2
    · refine Or.inr ⟨g', cap, cur, hv, hg, ?_, r⟩
      have hne : g' ≠ g := Blk.ne (t := 147) (cs := cur) hh h.head (by decide)
      exact (Below.heap_setCell w ⟨g, i, none⟩ v g' hne).trans hh
  · obtain ⟨h1, h2, h3⟩ := h.vals j b t hb ht
    have hne : b ≠ g := Blk.ne h2 h.head (by decide)
    exact ⟨h1, h2.far (p := ⟨g, i, none⟩) hne v, h3.keep (KeepB.setCell (p := ⟨g, i, none⟩) h.head (by decide) v)⟩
theorem VSet.mark {w : World} {lo g : Nat} {A : Option Addr} {c : Nat} {bs : List Nat} {ts : List Tv} {prop : Value} {tot : Int} {same : Bool} (h : VSet w lo g A c bs ts prop tot same) : VSet (w.setCell ⟨g, 3, none⟩ (.bool true)) lo g A c bs ts prop tot true := h.headPut 3 _ _ _ _ rfl
theorem VSet.setProp {w : World} {lo g : Nat} {A : Option Addr} {c : Nat} {bs : List Nat} {ts : List Tv} {prop : Value} {tot : Int} {same : Bool} (h : VSet w lo g A c bs ts prop tot same) (p : Value) : VSet (w.setCell ⟨g, 1, none⟩ p) lo g A c bs ts p tot same := h.headPut 1 _ _ _ _ rfl
theorem VSet.setTot {w : World} {lo g : Nat} {A : Option Addr} {c : Nat} {bs : List Nat} {ts : List Tv} {prop : Value} {tot : Int} {same : Bool} (h : VSet w lo g A c bs ts prop tot same) (q : Int) : VSet (w.setCell ⟨g, 2, none⟩ (.int .i64 q)) lo g A c bs ts prop q same := h.headPut 2 _ _ _ _ rfl

/-- only the set's head, its validators, and what is new have turned -/
structure OnlyV (g : Nat) (bs : List Nat) (w w' : World) : Prop where
  os : w'.os = w.os
  tape : w'.tape = w.tape
  output : w'.output = w.output
  size : w.heap.size ≤ w'.heap.size
  block : ∀ k, k < w.heap.size → k ≠ g → k ∉ bs → w'.heap[k]? = w.heap[k]?
theorem OnlyV.refl (g : Nat) (bs : List Nat) (w : World) : OnlyV g bs w w := ⟨rfl, rfl, rfl, Nat.le_refl _, fun _ _ _ _ => rfl⟩
theorem OnlyV.trans {g : Nat} {bs : List Nat} {a b c : World} (h : OnlyV g bs a b) (k : OnlyV g bs b c) : OnlyV g bs a c :=
  ⟨k.os.trans h.os, k.tape.trans h.tape, k.output.trans h.output, Nat.le_trans h.size k.size, fun i hi hg hb => (k.block i (Nat.lt_of_lt_of_le hi h.size) hg hb).trans (h.block i hi hg hb)⟩
theorem OnlyV.of_below {g : Nat} {bs : List Nat} {w w' : World} (h : Below w.heap.size w w') : OnlyV g bs w w' := ⟨h.os, h.tape, h.output, h.size, fun k hk _ _ => h.block k hk⟩
theorem OnlyV.of_grown {g : Nat} {bs : List Nat} {w w' : World} (h : w.grownBy w' (some g)) : OnlyV g bs w w' := ⟨h.os, h.tape, h.output, h.size, fun k hk hg _ => h.block k hk (fun e => hg (by cases e; rfl))⟩
theorem OnlyV.drewN {g : Nat} {bs : List Nat} (w : World) (n : Nat) : OnlyV g bs w (w.drewN n) := ⟨rfl, rfl, rfl, Nat.le_refl _, fun _ _ _ _ => rfl⟩
theorem OnlyV.putHead {g : Nat} {bs : List Nat} (w : World) (i : Nat) (v : Value) : OnlyV g bs w (w.setCell ⟨g, i, none⟩ v) := .of_grown (grown_put w g i v)
theorem OnlyV.putVal {g : Nat} {bs : List Nat} (w : World) {b : Nat} (hb : b ∈ bs) (i : Nat) (v : Value) : OnlyV g bs w (w.setCell ⟨b, i, none⟩ v) :=
  ⟨rfl, rfl, rfl, by simp [World.setCell], fun k _ _ hk => Below.heap_setCell w ⟨b, i, none⟩ v k (fun e => hk (by rw [e]; exact hb))⟩
section
variable {w w' : World} {lo g : Nat} {A : Option Addr} {c : Nat} {bs : List Nat} {ts : List Tv} {prop : Value} {tot : Int} {same : Bool}
theorem VSet.mem_lo (h : VSet w lo g A c bs ts prop tot same) {b : Nat} (hb : b ∈ bs) : lo ≤ b ∧ b < w.heap.size := by
  obtain ⟨j, hj, rfl⟩ := List.getElem_of_mem hb
  have := h.vals j _ (ts[j]'(by rw [h.len]; exact hj)) (List.getElem?_eq_getElem hj) (List.getElem?_eq_getElem _)
  exact ⟨this.1, this.2.1.lt⟩
theorem VSet.below (h : VSet w lo g A c bs ts prop tot same) (k : OnlyV g bs w w') : Below lo w w' :=
  ⟨k.os, k.tape, k.output, k.size, fun i hi => k.block i (Nat.lt_of_lt_of_le hi (Nat.le_trans h.log (Nat.le_of_lt h.head.lt))) (by have := h.log; omega) (fun hb => by have := (h.mem_lo hb).1; omega)⟩
theorem VSet.setPri (h : VSet w lo g A c bs ts prop tot same) {j b : Nat} {t : Tv} (hb : bs[j]? = some b) (ht : ts[j]? = some t) (q : Int) :
    VSet (w.setCell ⟨b, 3, none⟩ (.int .i64 q)) lo g A c bs (ts.set j { t with x := { t.x with pri := q } }) prop tot same := by
  obtain ⟨h1, h2, h3⟩ := h.vals j b t hb ht
  have hj := (List.getElem?_eq_some_iff.1 ht).1
  refine ⟨h.head.far (p := ⟨b, 3, none⟩) (h.head.ne h2 (by decide)) _, own_far h.row (p := ⟨b, 3, none⟩) (own_ne_blk h.row h2 (by decide)) _, by rw [List.length_set]; exact h.len, h.nodup, fun j' b' t' hb' ht' => ?_, h.log⟩
  have kb : KeepB w (w.setCell ⟨b, 3, none⟩ (.int .i64 q)) := KeepB.setCell (p := ⟨b, 3, none⟩) h2 (by decide) _
  rw [List.getElem?_set] at ht'
  by_cases e : j = j'
  · subst e
    rw [if_pos rfl, if_pos hj] at ht'
    cases ht'
    rw [hb] at hb'; cases hb'
    exact ⟨h1, h2.put 3 _, h3.keep kb⟩
  · rw [if_neg e] at ht'
    obtain ⟨g1, g2, g3⟩ := h.vals j' b' t' hb' ht'
    have hne : b' ≠ b := by
      rintro rfl
      have hj1 := List.getElem?_eq_some_iff.1 hb
      have hj2 := List.getElem?_eq_some_iff.1 hb'
      exact e ((List.getElem_inj h.nodup).1 (hj1.2.trans hj2.2.symm))
    exact ⟨g1, g2.far (p := ⟨b, 3, none⟩) hne _, g3.keep kb⟩
end
/-- the first k turned by f -/
def mapTo {α : Type} (f : α → α) (l : List α) (k : Nat) : List α := (l.take k).map f ++ l.drop k
theorem mapTo_zero {α : Type} (f : α → α) (l : List α) : mapTo f l 0 = l := by simp [mapTo]
theorem mapTo_full {α : Type} (f : α → α) (l : List α) (k : Nat) (hk : l.length ≤ k) : mapTo f l k = l.map f := by simp [mapTo, List.take_of_length_le hk, List.drop_of_length_le hk]
theorem mapTo_get {α : Type} (f : α → α) (l : List α) (k : Nat) (x : α) (hx : l[k]? = some x) : (mapTo f l k)[k]? = some x := by
  have h := List.getElem?_eq_some_iff.1 hx
  unfold mapTo
  rw [List.getElem?_append_right (by simp; omega)]
  simp [Nat.min_eq_left (Nat.le_of_lt h.1), hx]
theorem mapTo_succ {α : Type} (f : α → α) (l : List α) (k : Nat) (x : α) (hx : l[k]? = some x) : (mapTo f l k).set k (f x) = mapTo f l (k + 1) := by
  have h := List.getElem?_eq_some_iff.1 hx
  unfold mapTo
  have hk := h.1
  have hl : ((l.take k).map f).length = k := by simp; omega
  rw [List.set_append_right _ _ (by omega), hl, Nat.sub_self, List.drop_eq_getElem_cons h.1, h.2, List.take_succ_eq_append_getElem h.1, h.2]
  simp

/-! ### a quiet call behind draws -/
theorem quietL {P : Program} {f : FuncId} {args : Array Value} {w : World} {n : Nat} {v : Value} (h : Calls P f args (w.drewN n) fun e w' => e = .returned v ∧ w.drewN n = w') :
    Calls P f args (w.drewN n) fun e w'' => e = .returned v ∧ ∃ m, w'' = w.drewN m := h.mono fun _ _ ⟨he, hm⟩ => ⟨he, n, hm.symm⟩
theorem quietA {P : Program} {f : FuncId} {args : Array Value} {w : World} {a n : Nat} {v : Value} (h : Calls P f args (w.drewN (a + n)) fun e w' => e = .returned v ∧ w.drewN (a + n) = w') :
    Calls P f args (w.drewN (a + n)) fun e w'' => e = .returned v ∧ ∃ m, w'' = w.drewN (a + m) := h.mono fun _ _ ⟨he, hm⟩ => ⟨he, n, hm.symm⟩
theorem quietLN {P : Program} {f : FuncId} {args : Array Value} {w : World} {n : Nat} {v : Value} (h : Calls P f args (w.drewN n) fun e w' => e = .returned v ∧ ∃ k, w' = (w.drewN n).drewN k) :
    Calls P f args (w.drewN n) fun e w'' => e = .returned v ∧ ∃ m, w'' = w.drewN m := h.mono fun _ _ ⟨he, k, hm⟩ => ⟨he, n + k, by rw [hm, World.drewN_drewN]⟩
theorem quietAN {P : Program} {f : FuncId} {args : Array Value} {w : World} {a n : Nat} {v : Value} (h : Calls P f args (w.drewN (a + n)) fun e w' => e = .returned v ∧ ∃ k, w' = (w.drewN (a + n)).drewN k) :
    Calls P f args (w.drewN (a + n)) fun e w'' => e = .returned v ∧ ∃ m, w'' = w.drewN (a + m) := h.mono fun _ _ ⟨he, k, hm⟩ => ⟨he, n + k, by rw [hm, World.drewN_drewN, Nat.add_assoc]⟩
theorem Tv.ok.drewN {w : World} {t : Tv} (h : t.ok w) (n : Nat) : t.ok (w.drewN n) := h
end Go.Proofs.YtikikddkhikfkaaDoor
