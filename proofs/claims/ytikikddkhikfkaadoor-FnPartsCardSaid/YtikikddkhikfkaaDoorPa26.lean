/-
  For every name of a chain, every commit and every place: FnMessage answers true, and all read behind the call as they did before. By the session.
-/
import Derived.Test.YtikikddkhikfkaaDoorPa22
import Derived.Test.YtikikddkhikfkaaDoorPa20
import Derived.Test.YtikikddkhikfkaaDoorPa25
import Derived.Test.YtikikddkhikfkaaDoorPa24
set_option linter.all false
namespace Go.Proofs.YtikikddkhikfkaaDoor
open Go.ChangeShapes Go.WideShapes Go.ChangeAt Go.RowKit

/-- the world behind the stores of the two commits -/
def storedW (w : World) (t : TypeId) (g : Nat) (u0 u1 u2 u3 u4 u5 v0 v1 v2 v3 v4 v5 : Value) : World :=
  ((((((w.setCell ⟨g, 0, none⟩ u0).setCell ⟨g, 1, none⟩ u1).setCell ⟨g, 2, none⟩ u2).setCell ⟨g, 3, none⟩ u3).setCell ⟨g, 4, none⟩ u4).setCell ⟨g, 5, none⟩ u5).alloc (.cells #[v0, v1, v2, v3, v4, v5] t)
theorem storedW_facts {w w0 : World} {t t' : TypeId} {a0 a1 a2 a3 a4 a5 u0 u1 u2 u3 u4 u5 v0 v1 v2 v3 v4 v5 : Value} (h : SB w0.heap.size w0 t' #[a0, a1, a2, a3, a4, a5] w) :
    Blk (storedW w t w0.heap.size u0 u1 u2 u3 u4 u5 v0 v1 v2 v3 v4 v5) w0.heap.size t' #[u0, u1, u2, u3, u4, u5] ∧ Blk (storedW w t w0.heap.size u0 u1 u2 u3 u4 u5 v0 v1 v2 v3 v4 v5) w.heap.size t #[v0, v1, v2, v3, v4, v5] ∧
    Below w0.heap.size w0 (storedW w t w0.heap.size u0 u1 u2 u3 u4 u5 v0 v1 v2 v3 v4 v5) ∧ Other w0.heap.size w (storedW w t w0.heap.size u0 u1 u2 u3 u4 u5 v0 v1 v2 v3 v4 v5) := by
  have hlt := h.1.lt
  unfold storedW
  refine ⟨(Blk.fill6 h.1).alloc _, by simpa using Blk.new ((((((w.setCell ⟨w0.heap.size, 0, none⟩ u0).setCell ⟨w0.heap.size, 1, none⟩ u1).setCell ⟨w0.heap.size, 2, none⟩ u2).setCell ⟨w0.heap.size, 3, none⟩ u3).setCell ⟨w0.heap.size, 4, none⟩ u4).setCell ⟨w0.heap.size, 5, none⟩ u5) t #[v0, v1, v2, v3, v4, v5], (Below.far6 h.2 (Nat.le_refl _)).alloc (by simp; omega) _, ?_⟩
  have h2 := ((((((Other.refl w0.heap.size w).set 0 u0).set 1 u1).set 2 u2).set 3 u3).set 4 u4).set 5 u5
  have h3 : Other w0.heap.size _ (((((((w.setCell ⟨w0.heap.size, 0, none⟩ u0).setCell ⟨w0.heap.size, 1, none⟩ u1).setCell ⟨w0.heap.size, 2, none⟩ u2).setCell ⟨w0.heap.size, 3, none⟩ u3).setCell ⟨w0.heap.size, 4, none⟩ u4).setCell ⟨w0.heap.size, 5, none⟩ u5).alloc (.cells #[v0, v1, v2, v3, v4, v5] t)) := Other.of_below ((Below.refl _ _).alloc (Nat.le_refl _) _)
  exact ⟨Nat.le_trans h2.1 h3.1, fun k hk hn => (h3.2 k (by simpa using hk) hn).trans (h2.2 k hk hn)⟩
/-- a row with a cell that block g has not does not lie in block g -/
theorem Rd.not_in {w : World} {B g size n : Nat} {A : Option Addr} {xs : List Value} {t : TypeId} {cs : Array Value} (h : Rd w B size A n xs) (hb : Blk w g t cs) {j : Nat} {u : Value} (hj : 0 < j) (hu : xs[j]? = some u) (hne : ∀ i : Nat, cs[i]? ≠ some u) : ∀ ad, A = some ad → ad.block ≠ g := by
  intro ad hA he
  obtain ⟨ad', hA', _, hc⟩ := h.2 j u hu
  rw [hA] at hA'
  obtain rfl := Option.some.inj hA'
  have e : ad.add j = ⟨g, ad.off + j, none⟩ := by
    unfold Addr.add
    rw [if_neg (by omega), ← he]
  rw [e, hb.cell] at hc
  exact hne _ hc
/-- a row that does not lie in block g reads on -/
theorem Rd.other {w w' : World} {B g size n : Nat} {A : Option Addr} {xs : List Value} (h : Rd w B size A n xs) (ho : Other g w w') (hB : B ≤ w.heap.size) (hg : ∀ ad, A = some ad → ad.block ≠ g) : Rd w' w'.heap.size size A n xs :=
  ⟨h.1, fun j u hu => by
    obtain ⟨ad, hA, hb, hc⟩ := h.2 j u hu
    have e : (ad.add j).block = ad.block := block_add ad j
    exact ⟨ad, hA, by have := ho.1; omega, by rw [World.cell?_of_block (w := w) (by rw [e]; exact ho.2 ad.block (by omega) (hg ad hA))]; exact hc⟩⟩
/-- the signs' row does not lie in the commit's block -/
theorem signs_not_in {w : World} {B g n : Nat} {A A' : Option Addr} {l : List Sg} {t : TypeId} {h r p : Int} {S R : Option Addr} {a b c d e f : Nat} (hr : Rd w B 5 A n (signsOf l)) (hb : Blk w g t #[.int .i64 h, .int .i64 r, .slice S a b, .int .i64 p, .slice R c d, .slice A' e f]) (hn : 0 < n) : ∀ ad, A = some ad → ad.block ≠ g := by
  have hl := Rd.slen hr
  obtain ⟨x, hx⟩ : ∃ x, l[0]? = some x := ⟨_, List.getElem?_eq_getElem (by omega)⟩
  have hu : (signsOf l)[1]? = some (.string x.adr) := (flat_get Sg.cells 5 Sg.cells_length l 0 1 x hx (by omega)).trans rfl
  refine Rd.not_in hr hb (by omega) hu fun i hi => ?_
  match i with
  | 0 | 1 | 2 | 3 | 4 | 5 => simp at hi
  | k + 6 => simp at hi
/-- a row of at least two bytes does not lie in the commit's block -/
theorem bytes_not_in {w : World} {B g n : Nat} {A A' : Option Addr} {l : List UInt8} {t : TypeId} {h r p : Int} {S R : Option Addr} {a b c d e f : Nat} (hr : Rd w B 1 A n (bc l)) (hb : Blk w g t #[.int .i64 h, .int .i64 r, .slice S a b, .int .i64 p, .slice R c d, .slice A' e f]) (hn : 1 < l.length) : ∀ ad, A = some ad → ad.block ≠ g := by
  have hx : l[1]? = some l[1] := List.getElem?_eq_getElem hn
  refine Rd.not_in hr hb (by omega) (bc_get hx) fun i hi => ?_
  match i with
  | 0 | 1 | 2 | 3 | 4 | 5 => simp at hi
  | k + 6 => simp at hi
/-- what names the block reads behind the stores -/
theorem Bk.ok.other {w w' : World} {g : Nat} {x : Bk} {t : TypeId} {h r p : Int} {S R A' : Option Addr} {a b c d e f : Nat} (hx : x.ok w w.heap.size) (hb : Blk w g t #[.int .i64 h, .int .i64 r, .slice S a b, .int .i64 p, .slice R c d, .slice A' e f]) (hw : (x.sum.length = 0 ∧ x.parts = 0 ∧ x.root.length = 0) ∨ (x.sum.length = 32 ∧ x.root.length = 32 ∧ 1 ≤ x.parts ∧ x.parts ≤ 100000)) (ho : Other g w w') : x.ok w' w'.heap.size := by
  have key : ∀ (A : Option Addr) (l : List UInt8), Rd8 w w.heap.size A l → (l.length = 0 ∨ l.length = 32) → Rd8 w' w'.heap.size A l := by
    intro A l hr hl
    rcases hl with hl | hl
    · obtain rfl := List.eq_nil_of_length_eq_zero hl
      exact Rd.nil _ _ _ _
    · exact Rd.other hr ho (Nat.le_refl _) (bytes_not_in hr hb (by omega))
  rcases hw with hw | hw
  · exact ⟨key _ _ hx.1 (.inl hw.1), key _ _ hx.2 (.inl hw.2.2)⟩
  · exact ⟨key _ _ hx.1 (.inr hw.1), key _ _ hx.2 (.inr hw.2.1)⟩

theorem mag_mod (x m : Int) (h : 0 < m) : 0 ≤ mag x % m ∧ mag x % m < m := ⟨Int.emod_nonneg _ (by omega), Int.emod_lt_of_pos _ h⟩
theorem norm_all (l : List Sg) : ∀ s ∈ l.map normG, (s.flag = 1 ∨ s.flag = 2 ∨ s.flag = 3) ∧ (-4611686018427387904 ≤ s.sec ∧ s.sec ≤ 4611686018427387904) ∧ (0 ≤ s.nan ∧ s.nan ≤ 2147483647) := by
  intro s hs
  obtain ⟨y, _, rfl⟩ := List.mem_map.1 hs
  have h1 := mag_mod y.flag 3 (by decide)
  have h2 := mag_mod y.nan 1000000000 (by decide)
  have h3 := Int.tmod_lt_of_pos y.sec (b := 1099511627776) (by decide)
  have h4 := Int.lt_tmod_of_pos y.sec (b := 1099511627776) (by decide)
  simp only [normG]
  omega
/-- what is fixed while both messages are made -/
structure MsgK (HR : Int × Int) (chain : ByteArray) (k m : Nat) (ls : List Sg) (b : Bk) : Prop where
  hh : 0 ≤ HR.1 ∧ HR.1 < 1152921504606846976
  rr : 0 ≤ HR.2 ∧ HR.2 < 1073741824
  m60 : m ≤ 60
  cc : chain.size ≤ 1000
  good : b.good
  all : ∀ s ∈ ls, (s.flag = 1 ∨ s.flag = 2 ∨ s.flag = 3) ∧ (-4611686018427387904 ≤ s.sec ∧ s.sec ≤ 4611686018427387904) ∧ (0 ≤ s.nan ∧ s.nan ≤ 2147483647)
  km : k < m
/-- what the region keeps -/
structure MsgS (w : World) (g7 : Nat) (x : Sg) (HR : Int × Int) (k : Nat) (A1 : Option Addr) (c1 : Nat) (A2 : Option Addr) (c2 m : Nat) (ls : List Sg) (b : Bk) (w' : World) : Prop where
  com : Blk w' w.heap.size 27 #[.int .i64 HR.1, .int .i64 HR.2, .slice b.S b.sum.length b.sc, .int .i64 b.parts, .slice b.R b.root.length b.rc, .slice A1 m c1]
  ref : Blk w' g7 38 #[.int .i64 HR.1, .int .i64 HR.2, .slice b.S b.sum.length b.sc, .int .i64 b.parts, .slice b.R b.root.length b.rc, .slice A2 m c2]
  below : Below w.heap.size w w'
  row : Rd w' w'.heap.size 5 A1 m (signsOf ls)
  row2 : Rd w' w'.heap.size 5 A2 m (signsOf ls)
  blk : b.ok w' w'.heap.size
  at_ : ls[k]? = some x
theorem MsgS.call {w : World} {g7 : Nat} {x : Sg} {HR : Int × Int} {k : Nat} {A1 : Option Addr} {c1 : Nat} {A2 : Option Addr} {c2 m : Nat} {ls : List Sg} {b : Bk} {w1 w2 : World} (h : MsgS w g7 x HR k A1 c1 A2 c2 m ls b w1) (hb : Below w1.heap.size w1 w2) : MsgS w g7 x HR k A1 c1 A2 c2 m ls b w2 :=
  ⟨h.com.belowS hb, h.ref.belowS hb, h.below.trans (hb.mono (Nat.le_of_lt h.com.lt)), (h.row.below hb).more hb.size, (h.row2.below hb).more hb.size, h.blk.below hb, h.at_⟩
theorem msgOf_pos (l : List UInt8) : 0 < (msgOf l).length := by
  unfold msgOf
  rw [List.length_append]
  have : 0 < (vi l.length).length := by
    rw [vi]; split <;> simp
  omega
theorem good_parts {b : Bk} (h : b.good) : in64' b.parts := by
  unfold in64'
  rcases h with h | h <;> omega
theorem good_sum {b : Bk} (h : b.good) : b.sum.length ≤ 1000 := by rcases h with h | h <;> omega
theorem good_root {b : Bk} (h : b.good) : b.root.length ≤ 1000 := by rcases h with h | h <;> omega
theorem MsgS.drew {w : World} {g7 : Nat} {x : Sg} {HR : Int × Int} {k : Nat} {A1 : Option Addr} {c1 : Nat} {A2 : Option Addr} {c2 m : Nat} {ls : List Sg} {b : Bk} {w1 : World} (h : MsgS w g7 x HR k A1 c1 A2 c2 m ls b w1) : MsgS w g7 x HR k A1 c1 A2 c2 m ls b w1.drew := h.call (Below.refl _ _).drew
/-- a row of bytes as a string -/
theorem rd_back {w : World} {B m c : Nat} {A : Option Addr} {l : List UInt8} (h : Rd w B 1 A m (bc l)) (hl : 0 < l.length) : (convert 22 9 (.slice A m c)).run Tryd.prog w = .ok (.string ⟨l.toArray⟩) w := by
  have hm := h.len1
  subst hm
  have h0 : l[0]? = some l[0] := List.getElem?_eq_getElem hl
  obtain ⟨ad, rfl, _, _⟩ := h.2 0 _ (bc_get h0)
  refine run_convert_bytes_back w _ _ 5 ad c l Tryd.underlying22 Tryd.underlying5 Tryd.underlying9 fun j hj => ?_
  obtain ⟨ad', e, _, hc⟩ := h.2 j _ (bc_get (List.getElem?_eq_getElem hj))
  obtain rfl := Option.some.inj e
  exact hc

end Go.Proofs.YtikikddkhikfkaaDoor
