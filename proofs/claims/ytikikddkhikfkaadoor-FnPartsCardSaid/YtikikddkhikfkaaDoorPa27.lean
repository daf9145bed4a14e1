/-
  The trails of a tree of sums in memory: a node is four cells (its sum, its parent, its brother on the left, on the right); the way from a node by parents to the root. By the session.
-/
import Derived.Test.YtikikddkhikfkaaDoorPa14
import Derived.Test.YtikikddkhikfkaaDoorPa2
import Derived.Test.YtikikddkhikfkaaDoorPa26
set_option linter.all false
namespace Go.Proofs.YtikikddkhikfkaaDoor
open Go.RowKit

/-- a pointer to a block, or none -/
def ptrO : Option Nat → Value
  | none => .pointer none
  | some q => .pointer (some ⟨q, 0, none⟩)
def nodeC (A : Option Addr) (s : List UInt8) (c : Nat) (P L R : Option Nat) : Array Value := #[.slice A s.length c, ptrO P, ptrO L, ptrO R]
/-- blocks of nodes and of bytes stay as they were -/
structure KeepN (w w' : World) : Prop where
  node : ∀ k cs, Blk w k 195 cs → Blk w' k 195 cs
  byte : ∀ k cs, Blk w k 5 cs → Blk w' k 5 cs
theorem KeepN.below {w w' : World} (h : Below w.heap.size w w') : KeepN w w' := ⟨fun _ _ k => k.belowS h, fun _ _ k => k.belowS h⟩
theorem KeepN.trans {a b c : World} (h : KeepN a b) (k : KeepN b c) : KeepN a c := ⟨fun _ _ x => k.node _ _ (h.node _ _ x), fun _ _ x => k.byte _ _ (h.byte _ _ x)⟩
theorem KeepN.grown {w w' : World} {g : Nat} {t : TypeId} {cs : Array Value} (h : w.grownBy w' (some g)) (hb : Blk w g t cs) (h1 : t ≠ 195) (h2 : t ≠ 5) : KeepN w w' :=
  ⟨fun k cs x => x.grown h (by intro e; injection e with e; exact Blk.ne hb x h1 e.symm), fun k cs x => x.grown h (by intro e; injection e with e; exact Blk.ne hb x h2 e.symm)⟩
theorem KeepN.dg {w w' : World} {g : Nat} (h : w.grownBy w' (some g)) (hd : DgAny w g) : KeepN w w' := by
  obtain ⟨h0, x, nx, len, hx, hb⟩ := hd
  exact KeepN.grown h hb (by decide) (by decide)
theorem KeepN.row {w w' : World} {base e size n : Nat} {v : Value} {xs : List Value} (h : w.grownBy w' v.ownBlock) (ho : w.ownsRow base e size v n xs) (h1 : 195 ≠ e) (h2 : 5 ≠ e) : KeepN w w' :=
  ⟨fun k cs x => x.grown h (own_ne_blk ho x h1), fun k cs x => x.grown h (own_ne_blk ho x h2)⟩
theorem Own8.keepN {w w' : World} {B n c : Nat} {A : Option Addr} {s : List UInt8} (h : Own8 w B A n c s) (hk : ∀ k cs, Blk w k 5 cs → Blk w' k 5 cs) : Own8 w' B A n c s := by
  rcases h.2 with h1 | ⟨g, cap, cur, hv, hb, hh, hr⟩
  · exact ⟨h.1, .inl h1⟩
  · exact ⟨h.1, .inr ⟨g, cap, cur, hv, hb, hk _ _ hh, hr⟩⟩
/-- block p is a node whose sum reads s; the sum's bytes lie from block b on -/
def NodeSum (w : World) (b p : Nat) (s : List UInt8) : Prop :=
  ∃ (A : Option Addr) (c : Nat) (P L R : Option Nat), Blk w p 195 (nodeC A s c P L R) ∧ Own8 w b A 32 c s
theorem NodeSum.lt {w : World} {b p : Nat} {s : List UInt8} (h : NodeSum w b p s) : p < w.heap.size := by obtain ⟨_, _, _, _, _, hb, _⟩ := h; exact hb.lt
theorem NodeSum.keep {w w' : World} {b p : Nat} {s : List UInt8} (h : NodeSum w b p s) (k : KeepN w w') : NodeSum w' b p s := by
  obtain ⟨A, c, P, L, R, hb, ho⟩ := h
  exact ⟨A, c, P, L, R, k.node _ _ hb, ho.keepN k.byte⟩
theorem NodeSum.less {w : World} {b b' p : Nat} {s : List UInt8} (h : NodeSum w b p s) (hb : b' ≤ b) : NodeSum w b' p s := by
  obtain ⟨A, c, P, L, R, h1, ho⟩ := h
  exact ⟨A, c, P, L, R, h1, ho.more hb⟩
/-- a store into a node's cell other than its sum's leaves all nodes' sums -/
theorem NodeSum.set {w : World} {b p r : Nat} {s : List UInt8} {A0 : Option Addr} {s0 : List UInt8} {c0 : Nat} {P0 L0 R0 : Option Nat} (h : NodeSum w b p s) (hr0 : Blk w r 195 (nodeC A0 s0 c0 P0 L0 R0)) (o : Nat) (ho : o = 1 ∨ o = 2 ∨ o = 3) (q : Option Nat) :
    NodeSum (w.setCell ⟨r, o, none⟩ (ptrO q)) b p s := by
  obtain ⟨A, c, P, L, R, hb, hk⟩ := h
  have hrd : Own8 (w.setCell ⟨r, o, none⟩ (ptrO q)) b A 32 c s := hk.keepN fun k cs hx => hx.far (p := ⟨r, o, none⟩) (Blk.ne hx hr0 (by decide)) _
  by_cases hp : p = r
  · subst hp
    rcases ho with rfl | rfl | rfl
    · exact ⟨A, c, q, L, R, hb.put 1 _, hrd⟩
    · exact ⟨A, c, P, q, R, hb.put 2 _, hrd⟩
    · exact ⟨A, c, P, L, q, hb.put 3 _, hrd⟩
  · exact ⟨A, c, P, L, R, hb.far (p := ⟨r, o, none⟩) hp _, hrd⟩
/-- the way from node p by parents to node r: the brothers' sums; every node but r lies in lo .. hi -/
def Way (w : World) (b lo hi r : Nat) : Nat → List (List UInt8) → Prop
  | p, [] => p = r
  | p, x :: t => lo ≤ p ∧ p < hi ∧ p ≠ r ∧ ∃ (A : Option Addr) (s : List UInt8) (c q k : Nat) (L R : Option Nat), Blk w p 195 (nodeC A s c (some q) L R) ∧ (L = some k ∨ (L = none ∧ R = some k)) ∧ NodeSum w b k x ∧ Way w b lo hi r q t
theorem Way.keep {w w' : World} {b b' lo hi r : Nat} (hk : ∀ k cs, lo ≤ k → k < hi → k ≠ r → Blk w k 195 cs → Blk w' k 195 cs) (hn : ∀ k s, NodeSum w b k s → NodeSum w' b' k s) : ∀ {l : List (List UInt8)} {p : Nat}, Way w b lo hi r p l → Way w' b' lo hi r p l
  | [], _, h => h
  | x :: t, p, ⟨h1, h2, h3, A, s, c, q, k, L, R, hb, hLR, hs, ht⟩ => ⟨h1, h2, h3, A, s, c, q, k, L, R, hk p _ h1 h2 h3 hb, hLR, hn _ _ hs, Way.keep hk hn ht⟩
theorem Way.keepN {w w' : World} {b lo hi r p : Nat} {l : List (List UInt8)} (h : Way w b lo hi r p l) (k : KeepN w w') : Way w' b lo hi r p l :=
  Way.keep (fun _ _ _ _ _ x => k.node _ _ x) (fun _ _ x => x.keep k) h
theorem Way.wide {w : World} {b lo hi hi' r : Nat} (hh : hi ≤ hi') : ∀ {l : List (List UInt8)} {p : Nat}, Way w b lo hi r p l → Way w b lo hi' r p l
  | [], _, h => h
  | x :: t, p, ⟨h1, h2, h3, A, s, c, q, k, L, R, hb, hLR, hs, ht⟩ => ⟨h1, Nat.lt_of_lt_of_le h2 hh, h3, A, s, c, q, k, L, R, hb, hLR, hs, Way.wide hh ht⟩
/-- the way goes on from r1 to its parent r -/
theorem Way.join {w w' : World} {b b' lo hi lo' hi' r1 r k : Nat} {A : Option Addr} {s : List UInt8} {c : Nat} {L R : Option Nat} {x : List UInt8} (hk : ∀ k cs, lo ≤ k → k < hi → k ≠ r1 → Blk w k 195 cs → Blk w' k 195 cs) (hn : ∀ k s, NodeSum w b k s → NodeSum w' b' k s)
    (hlo : lo' ≤ lo) (hhi : hi ≤ hi') (h1 : lo' ≤ r1) (h2 : r1 < hi') (hr : hi ≤ r) (hne : r1 ≠ r) (hb : Blk w' r1 195 (nodeC A s c (some r) L R)) (hLR : L = some k ∨ (L = none ∧ R = some k)) (hs : NodeSum w' b' k x) :
    ∀ {l : List (List UInt8)} {p : Nat}, Way w b lo hi r1 p l → Way w' b' lo' hi' r p (l ++ [x])
  | [], p, h => by
    have h0 : p = r1 := h
    subst h0
    exact ⟨h1, h2, hne, A, s, c, r, k, L, R, hb, hLR, hs, rfl⟩
  | y :: t, p, ⟨g1, g2, g3, A0, s0, c0, q0, k0, L0, R0, gb, gLR, gs, gt⟩ => ⟨Nat.le_trans hlo g1, Nat.lt_of_lt_of_le g2 hhi, by omega, A0, s0, c0, q0, k0, L0, R0, hk p _ g1 g2 g3 gb, gLR, hn _ _ gs, Way.join hk hn hlo hhi h1 h2 hr hne hb hLR hs gt⟩
/-- leaf i's trail: a node with its sum, and its way to the root -/
def Trail (w : World) (b lo hi r : Nat) (l : List (List UInt8)) (i p : Nat) : Prop := lo ≤ p ∧ NodeSum w b p (leafL (l.getD i [])) ∧ Way w b lo hi r p (auntsL l i)
theorem Trail.keepN {w w' : World} {b lo hi r i p : Nat} {l : List (List UInt8)} (h : Trail w b lo hi r l i p) (k : KeepN w w') : Trail w' b lo hi r l i p := ⟨h.1, h.2.1.keep k, h.2.2.keepN k⟩
/-- both halves' trails joined: the four stores -/
theorem trail_join {w : World} {lo hi1 hi2 r1 r2 r k : Nat} {l : List (List UInt8)} {RA1 RA2 : Option Addr} {rc1 rc2 : Nat} {bs1 bs2 : List Nat}
    (hl : 2 ≤ l.length) (hk : k = splitN l.length) (hb1 : bs1.length = k) 
    (t1 : ∀ i p, bs1[i]? = some p → Trail w lo lo hi1 r1 (l.take k) i p) (t2 : ∀ i p, bs2[i]? = some p → Trail w hi1 hi1 hi2 r2 (l.drop k) i p)
    (b1 : Blk w r1 195 (nodeC RA1 (rootL (l.take k)) rc1 none none none)) (o1 : Own8 w lo RA1 32 rc1 (rootL (l.take k)))
    (b2 : Blk w r2 195 (nodeC RA2 (rootL (l.drop k)) rc2 none none none)) (o2 : Own8 w hi1 RA2 32 rc2 (rootL (l.drop k)))
    (h1 : lo ≤ r1) (h2 : r1 < hi1) (h3 : hi1 ≤ r2) (h4 : r2 < hi2) (h5 : hi2 ≤ r) :
    ∀ i p, (bs1 ++ bs2)[i]? = some p → Trail ((((w.setCell ⟨r1, 1, none⟩ (ptrO (some r))).setCell ⟨r1, 3, none⟩ (ptrO (some r2))).setCell ⟨r2, 1, none⟩ (ptrO (some r))).setCell ⟨r2, 2, none⟩ (ptrO (some r1))) lo lo (r + 1) r l i p := by
  intro i p hp
  have hne : r1 ≠ r2 := by omega
  have a1 : Blk (w.setCell ⟨r1, 1, none⟩ (ptrO (some r))) r1 195 (nodeC RA1 (rootL (l.take k)) rc1 (some r) none none) := b1.put 1 _
  have a2 : Blk ((w.setCell ⟨r1, 1, none⟩ (ptrO (some r))).setCell ⟨r1, 3, none⟩ (ptrO (some r2))) r1 195 (nodeC RA1 (rootL (l.take k)) rc1 (some r) none (some r2)) := a1.put 3 _
  have c2 : Blk ((w.setCell ⟨r1, 1, none⟩ (ptrO (some r))).setCell ⟨r1, 3, none⟩ (ptrO (some r2))) r2 195 (nodeC RA2 (rootL (l.drop k)) rc2 none none none) := (b2.far (p := ⟨r1, 1, none⟩) (Ne.symm hne) _).far (p := ⟨r1, 3, none⟩) (Ne.symm hne) _
  have c3 : Blk (((w.setCell ⟨r1, 1, none⟩ (ptrO (some r))).setCell ⟨r1, 3, none⟩ (ptrO (some r2))).setCell ⟨r2, 1, none⟩ (ptrO (some r))) r2 195 (nodeC RA2 (rootL (l.drop k)) rc2 (some r) none none) := c2.put 1 _
  have c4 : Blk ((((w.setCell ⟨r1, 1, none⟩ (ptrO (some r))).setCell ⟨r1, 3, none⟩ (ptrO (some r2))).setCell ⟨r2, 1, none⟩ (ptrO (some r))).setCell ⟨r2, 2, none⟩ (ptrO (some r1))) r2 195 (nodeC RA2 (rootL (l.drop k)) rc2 (some r) (some r1) none) := c3.put 2 _
  have a4 : Blk ((((w.setCell ⟨r1, 1, none⟩ (ptrO (some r))).setCell ⟨r1, 3, none⟩ (ptrO (some r2))).setCell ⟨r2, 1, none⟩ (ptrO (some r))).setCell ⟨r2, 2, none⟩ (ptrO (some r1))) r1 195 (nodeC RA1 (rootL (l.take k)) rc1 (some r) none (some r2)) := (a2.far (p := ⟨r2, 1, none⟩) hne _).far (p := ⟨r2, 2, none⟩) hne _
  have hn : ∀ b j s, NodeSum w b j s → NodeSum ((((w.setCell ⟨r1, 1, none⟩ (ptrO (some r))).setCell ⟨r1, 3, none⟩ (ptrO (some r2))).setCell ⟨r2, 1, none⟩ (ptrO (some r))).setCell ⟨r2, 2, none⟩ (ptrO (some r1))) b j s := fun b j s h =>
    (((h.set b1 1 (.inl rfl) _).set a1 3 (.inr (.inr rfl)) _).set c2 1 (.inl rfl) _).set c3 2 (.inr (.inl rfl)) _
  have hkp : ∀ j cs, j ≠ r1 → j ≠ r2 → Blk w j 195 cs → Blk ((((w.setCell ⟨r1, 1, none⟩ (ptrO (some r))).setCell ⟨r1, 3, none⟩ (ptrO (some r2))).setCell ⟨r2, 1, none⟩ (ptrO (some r))).setCell ⟨r2, 2, none⟩ (ptrO (some r1))) j 195 cs := fun j cs e1 e2 h =>
    (((h.far (p := ⟨r1, 1, none⟩) e1 _).far (p := ⟨r1, 3, none⟩) e1 _).far (p := ⟨r2, 1, none⟩) e2 _).far (p := ⟨r2, 2, none⟩) e2 _
  have n1 := hn lo r1 _ ⟨RA1, rc1, none, none, none, b1, o1⟩
  have n2 := hn lo r2 _ ⟨RA2, rc2, none, none, none, b2, o2.more (by omega)⟩
  by_cases hi : i < k
  · rw [List.getElem?_append_left (by omega)] at hp
    obtain ⟨g1, g2, g3⟩ := t1 i p hp
    have e1 : (l.take k).getD i [] = l.getD i [] := by
      rw [List.getD_eq_getElem?_getD, List.getD_eq_getElem?_getD, List.getElem?_take_of_lt hi]
    rw [e1] at g2
    refine ⟨g1, hn _ _ _ g2, ?_⟩
    rw [auntsL_left hl (by rw [← hk]; exact hi), ← hk]
    exact Way.join (fun j cs _ j2 j3 hb => hkp j cs j3 (by omega) hb) (fun j s hs => hn _ _ _ hs) (Nat.le_refl _) (by omega) h1 (by omega) (by omega) (by omega) a4 (.inr ⟨rfl, rfl⟩) n2 g3
  · rw [List.getElem?_append_right (by omega), hb1] at hp
    obtain ⟨g1, g2, g3⟩ := t2 (i - k) p hp
    have e1 : (l.drop k).getD (i - k) [] = l.getD i [] := by
      rw [List.getD_eq_getElem?_getD, List.getD_eq_getElem?_getD, List.getElem?_drop, show k + (i - k) = i by omega]
    rw [e1] at g2
    refine ⟨by omega, (hn _ _ _ g2).less (by omega), ?_⟩
    rw [auntsL_right hl (by rw [← hk]; exact hi), ← hk]
    exact Way.join (fun j cs j1 _ j3 hb => hkp j cs (by omega) j3 hb) (fun j s hs => (hn _ _ _ hs).less (by omega)) (by omega) (by omega) (by omega) (by omega) (by omega) (by omega) c4 (.inl rfl) n1 g3
end Go.Proofs.YtikikddkhikfkaaDoor
