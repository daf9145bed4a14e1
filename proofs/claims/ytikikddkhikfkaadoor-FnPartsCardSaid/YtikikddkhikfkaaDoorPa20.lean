/-
  Words for the rows: a law of plain data that answers true and leaves what it read, and the opening of a slice of seats. By the session. What a validator says, and a commit, in memory; and how an argument that is a commit reads. By the session. How an argument that is a commit opens. By the session.
-/
import Derived.Test.YtikikddkhikfkaaDoorRows
import Derived.Test.YtikikddkhikfkaaDoorPa1
import Derived.ProofKit
import Derived.Deep.Slices
import Derived.Deep.Fields
import Derived.Test.YtikikddkhikfkaaDoorPa2
import Derived.ChangeSlices
import Derived.WideShapes
import Derived.ChangeMaps5
set_option linter.unusedSimpArgs false
namespace Go.Proofs.YtikikddkhikfkaaDoor
open Go.ChangeShapes Go.WideShapes Go.ChangeAt Go.RowKit

theorem Tryd.own : ownKnob Tryd.prog.godebug = none := by kernel_rfl
theorem Tryd.laidOut : laidOutB Tryd.prog = true := by kernel_rfl

section
variable {H : Type} {enc : TypeId × Value → H} {P : Program}
def rowsReadable (P : Program) (ts : List TypeId) : Bool := ts.all fun t => P.readableRec t && decide (t < P.types.size)
theorem trodAll_stays (hl : laidOutB P = true) {W W' : World} (hb : Below W.heap.size W W') : ∀ {ts : List TypeId} {vs : List Value} {ds : List (DataW H)} {ps : List MemPlace}, rowsReadable P ts = true → (∀ x ∈ ps, x.block < W.heap.size) →
    DataW.TrodAll enc P W 0 (fun _ => true) true ts vs ds ps → DataW.TrodAll enc P W' 0 (fun b => decide (b < W.heap.size)) true ts vs ds ps
  | [], [], [], _, _, _, h => h
  | t :: ts, v :: vs, d :: ds, ps, hr, hlt, h => by
    obtain ⟨p, q, h1, h2, rfl⟩ := h
    simp only [rowsReadable, List.all_cons, Bool.and_eq_true, decide_eq_true_eq] at hr
    exact ⟨p, q, Below.trod hl hr.1.1 hr.1.2 h1 hb (fun x hx => hlt x (List.mem_append_left _ hx)),
      trodAll_stays hl hb (by simpa [rowsReadable] using hr.2) (fun x hx => hlt x (List.mem_append_right _ hx)) h2, rfl⟩
/-- what a law of plain data leaves: true, and every argument reads as it did -/
theorem post_true {f : Func} {s : ChangeSpec} {tb : TypeId} {W W' : World} {args : Array Value} {ds : List (DataW H)} {p : List MemPlace} (hl : laidOutB P = true) (hf : f.resultTypes = #[tb]) (htb : P.underlying tb = some .bool) (hv : s.vars = [])
    (hs : s.fn H (ds ++ []) = { results := [.lit (.bool true)], args := ds }) (hr : rowsReadable P f.params.toList = true) (hW : DataW.Whole enc P f.params.toList s.vars false W args.toList ds [] p)
    (hA : DataW.TrodAll enc P W 0 (fun _ => true) true f.params.toList args.toList ds p) (hb : Below W.heap.size W W') : s.post enc P f false true false false W args (.bool true) W' := by
  refine ⟨ds, [], p, [], p, [], hW, ?_, ?_, ?_, hb.frame _, fun h => by cases h⟩
  · rw [hs, hf]
    exact trodAll_mk1 (p := []) ⟨1, by simp [DataW.trod, htb, Value.cells]⟩
  · rw [hs]
    exact trodAll_stays hl hb hr (fun x hx => by simpa using hW.lt x hx) hA
  · rw [hs, hv]
    rfl

/-- a reading's cells of one seat -/
theorem seat_reads {w : World} {base : Nat} {spare : Nat → Bool} {held : Bool} {t : TypeId} {f0 f1 f2 f3 : Field} (he : P.underlying t = some (.struct #[f0, f1, f2, f3])) (hc : P.cellsOf t = 4)
    (k0 : f0.offset = 0 ∧ P.cellsOf f0.type = 1 ∧ P.underlying f0.type = some .string) (k1 : f1.offset = 1 ∧ P.cellsOf f1.type = 1 ∧ P.underlying f1.type = some .string)
    (k2 : f2.offset = 2 ∧ P.cellsOf f2.type = 1 ∧ P.underlying f2.type = some (.int .i64)) (k3 : f3.offset = 3 ∧ P.cellsOf f3.type = 1 ∧ P.underlying f3.type = some (.int .i64))
    {n : Nat} {cs : List Value} {x : DataW H × List MemPlace} (h : DataW.trod enc P w base spare held n t cs = some x) :
    ∃ s : Sd, cs = s.cells ∧ s.adr.size ≤ maxLen ∧ s.key.size ≤ maxLen ∧ (Lit.int .i64 s.pow).wf = true ∧ (Lit.int .i64 s.pri).wf = true := by
  obtain ⟨xs, m, _, _, hlen, hxs, hf⟩ := DataW.trod_struct he h
  rw [hc] at hlen
  match cs, hlen with
  | [c0, c1, c2, c3], _ =>
    match xs, hxs with
    | [y0, y1, y2, y3], _ =>
      have g0 := hf 0 f0 rfl
      have g1 := hf 1 f1 rfl
      have g2 := hf 2 f2 rfl
      have g3 := hf 3 f3 rfl
      simp only [k0.1, k0.2.1, List.drop_zero, List.take_succ_cons, List.take_zero, List.getElem?_cons_zero] at g0
      simp only [k1.1, k1.2.1, List.drop_succ_cons, List.drop_zero, List.take_succ_cons, List.take_zero, List.getElem?_cons_succ, List.getElem?_cons_zero] at g1
      simp only [k2.1, k2.2.1, List.drop_succ_cons, List.drop_zero, List.take_succ_cons, List.take_zero, List.getElem?_cons_succ, List.getElem?_cons_zero] at g2
      simp only [k3.1, k3.2.1, List.drop_succ_cons, List.drop_zero, List.take_succ_cons, List.take_zero, List.getElem?_cons_succ, List.getElem?_cons_zero] at g3
      obtain ⟨a, ha, _, ha2⟩ := DataW.trod_string k0.2.2 g0
      obtain ⟨b, hb, _, hb2⟩ := DataW.trod_string k1.2.2 g1
      obtain ⟨c, hc', _, hc2⟩ := DataW.trod_int k2.2.2 g2
      obtain ⟨d, hd, _, hd2⟩ := DataW.trod_int k3.2.2 g3
      cases ha; cases hb; cases hc'; cases hd
      exact ⟨⟨a, b, c, d⟩, rfl, ha2, hb2, hc2, hd2⟩
end

/-- the numbers of a seat are what Go's kinds hold -/
def Sd.fits (s : Sd) : Prop := s.adr.size ≤ maxLen ∧ s.key.size ≤ maxLen ∧ (-9223372036854775808 ≤ s.pow ∧ s.pow ≤ 9223372036854775807) ∧ (-9223372036854775808 ≤ s.pri ∧ s.pri ≤ 9223372036854775807)
theorem wf64 {n : Int} (h : (Lit.int .i64 n).wf = true) : -9223372036854775808 ≤ n ∧ n ≤ 9223372036854775807 := by
  simp only [Lit.wf, Bool.and_eq_true, decide_eq_true_eq] at h
  exact h
theorem Rd.of_seats {w : World} {a : Addr} {n : Nat} (h : ∀ i, i < n → ∃ s : Sd, s.fits ∧ ∀ j, j < 4 → w.cell? (a.add (i * 4 + j)) = s.cells[j]?) (hb : a.block < w.heap.size) :
    ∃ l : List Sd, Rd w w.heap.size 4 (some a) n (cellsOf l) ∧ ∀ s ∈ l, s.fits := by
  have h' : ∀ i, ∃ s : Sd, i < n → s.fits ∧ ∀ j, j < 4 → w.cell? (a.add (i * 4 + j)) = s.cells[j]? := fun i => by
    by_cases hi : i < n
    · obtain ⟨s, hs⟩ := h i hi
      exact ⟨s, fun _ => hs⟩
    · exact ⟨⟨.empty, .empty, 0, 0⟩, fun h => absurd h hi⟩
  obtain ⟨f, hf⟩ := Classical.axiomOfChoice h'
  refine ⟨(List.range n).map f, ⟨by rw [cellsOf_length]; simp, fun j u hu => ⟨a, rfl, hb, ?_⟩⟩, fun s hs => ?_⟩
  · have hj : j < n * 4 := by
      have := (List.getElem?_eq_some_iff.1 hu).1
      rw [cellsOf_length] at this; simpa using this
    have hx : ((List.range n).map f)[j / 4]? = some (f (j / 4)) := by
      rw [List.getElem?_map, List.getElem?_range (by omega)]; rfl
    have e := cellsOf_get ((List.range n).map f) (j / 4) (j % 4) (f (j / 4)) hx (Nat.mod_lt _ (by omega))
    have ej : j / 4 * 4 + j % 4 = j := by omega
    rw [ej] at e
    have := (hf (j / 4) (by omega)).2 (j % 4) (Nat.mod_lt _ (by omega))
    rw [ej] at this
    rw [this, ← e, hu]
  · simp only [List.mem_map, List.mem_range] at hs
    obtain ⟨i, hi, rfl⟩ := hs
    exact (hf i hi).1
section
variable {H : Type} {enc : TypeId × Value → H}
/-- an argument that is a slice of seats -/
theorem open_seats {W : World} {v : Value} {d : DataW H} {p : List MemPlace} (hv : ∃ A n c, v = .slice A n c) (h : DataW.Trod enc Tryd.prog W 0 (fun _ => true) true 49 v d p) :
    ∃ (A : Option Addr) (n c : Nat) (l : List Sd), v = .slice A n c ∧ n ≤ c ∧ c ≤ maxLen ∧ Rd W W.heap.size 4 A n (cellsOf l) ∧ ∀ s ∈ l, s.fits := by
  obtain ⟨A, n, c, rfl⟩ := hv
  obtain ⟨fuel, h⟩ := h
  rcases Go.Deep.open_slice Tryd.underlying49 h with ⟨h0, _⟩ | ⟨a, len, cap, m, k, D, Pl, hcs, _, hl, hm, hmm, hx, hi⟩
  · cases h0
    exact ⟨none, 0, 0, [], rfl, Nat.le_refl _, by decide, Rd.nil _ _ _ _, by simp⟩
  · cases hcs
    refine ⟨some a, n, c, ?_⟩
    have hC : Tryd.prog.cellsOf 101 = 4 := by kernel_rfl
    rw [hC] at hx hi
    by_cases hn : n = 0
    · subst hn
      exact ⟨[], rfl, hl, hm, Rd.nil _ _ _ _, by simp⟩
    · have hb : a.block < W.heap.size := by
        obtain ⟨cs', hc, ht'⟩ := hi 0 (by rw [hmm]; simp; omega)
        obtain ⟨_, hcl, hat⟩ := World.cells?_some hc
        have h0 := hat 0 (by omega)
        have hlt0 := World.block_lt_of_cell? W _ (h0.trans (List.getElem?_eq_getElem (by omega)))
        rwa [add_block, add_block] at hlt0
      obtain ⟨l, h1, h2⟩ := Rd.of_seats (w := W) (a := a) (n := n) (fun i hin => by
        obtain ⟨cs', hc, ht'⟩ := hi i (by rw [hmm]; simp; omega)
        obtain ⟨s, rfl, g1, g2, g3, g4⟩ := seat_reads Tryd.underlying101 hC ⟨rfl, by kernel_rfl, Tryd.underlying9⟩ ⟨rfl, by kernel_rfl, Tryd.underlying9⟩ ⟨rfl, by kernel_rfl, Tryd.underlying3⟩ ⟨rfl, by kernel_rfl, Tryd.underlying3⟩ ht'
        obtain ⟨_, hcl, hat⟩ := World.cells?_some hc
        exact ⟨s, ⟨g1, g2, wf64 g3, wf64 g4⟩, fun j hj => by rw [← Go.Deep.add_add]; exact hat j hj⟩) hb
      exact ⟨l, rfl, hl, hm, h1, h2⟩
end
end Go.Proofs.YtikikddkhikfkaaDoor

set_option linter.all false
namespace Go.Proofs.YtikikddkhikfkaaDoor
open Go.ChangeShapes Go.WideShapes Go.ChangeAt Go.RowKit

/-- what a validator says: its flag, its address, the time, the signature and where that lies -/
structure Sg where
  flag : Int
  adr : ByteArray
  sec : Int
  nan : Int
  S : Option Addr
  sc : Nat
  sig : List UInt8
def Sg.cells (s : Sg) : List Value := [.int .i64 s.flag, .string s.adr, .int .i64 s.sec, .int .i64 s.nan, .slice s.S s.sig.length s.sc]
theorem Sg.cells_length (s : Sg) : s.cells.length = 5 := rfl
theorem Sg.cells_one (s : Sg) : ∀ u ∈ s.cells, u.oneCell' = true := by
  intro u hu
  simp only [Sg.cells, List.mem_cons, List.not_mem_nil, or_false] at hu
  rcases hu with rfl | rfl | rfl | rfl | rfl <;> rfl
def signsOf (l : List Sg) : List Value := l.flatMap Sg.cells
theorem signsOf_length (l : List Sg) : (signsOf l).length = l.length * 5 := flat_length Sg.cells 5 Sg.cells_length l
/-- the signature lies below B -/
def Sg.ok (w : World) (B : Nat) (s : Sg) : Prop := Rd8 w B s.S s.sig
/-- the numbers are what Go's kinds hold, the lengths too -/
structure Sg.fits (s : Sg) : Prop where
  flag : -9223372036854775808 ≤ s.flag ∧ s.flag ≤ 9223372036854775807
  sec : -9223372036854775808 ≤ s.sec ∧ s.sec ≤ 9223372036854775807
  nan : -9223372036854775808 ≤ s.nan ∧ s.nan ≤ 9223372036854775807
  adr : s.adr.size ≤ maxLen
  sig : s.sig.length ≤ s.sc ∧ s.sc ≤ maxLen

/-- the five cells of the k-th element of a slice of elements of five cells -/
theorem Rd.five {α : Type} {f : α → List Value} (h5 : ∀ x, (f x).length = 5) {w : World} {B n : Nat} {A : Option Addr} {l : List α} {k : Nat} {x : α} (h : Rd w B 5 A n (l.flatMap f)) (hx : l[k]? = some x) :
    ∃ ad, A = some ad ∧ ad.block < B ∧ w.cell? (ad.add (k * 5)) = (f x)[0]? ∧ w.cell? ⟨(ad.add (k * 5)).block, (ad.add (k * 5)).off + 1, none⟩ = (f x)[1]? ∧
      w.cell? ⟨(ad.add (k * 5)).block, (ad.add (k * 5)).off + 2, none⟩ = (f x)[2]? ∧ w.cell? ⟨(ad.add (k * 5)).block, (ad.add (k * 5)).off + 3, none⟩ = (f x)[3]? ∧
      w.cell? ⟨(ad.add (k * 5)).block, (ad.add (k * 5)).off + 4, none⟩ = (f x)[4]? := by
  have g : ∀ i, i < 5 → ∃ ad, A = some ad ∧ ad.block < B ∧ w.cell? (ad.add (k * 5 + i)) = (f x)[i]? := fun i hi => by
    have hi' : i < (f x).length := by rw [h5]; exact hi
    have hl : (f x)[i]? = some (f x)[i] := List.getElem?_eq_getElem hi'
    rw [hl]
    exact h.2 (k * 5 + i) _ ((flat_get f 5 h5 l k i x hx hi).trans hl)
  obtain ⟨ad, rfl, hb, c0⟩ := g 0 (by omega)
  obtain ⟨_, e1, _, c1⟩ := g 1 (by omega)
  obtain ⟨_, e2, _, c2⟩ := g 2 (by omega)
  obtain ⟨_, e3, _, c3⟩ := g 3 (by omega)
  obtain ⟨_, e4, _, c4⟩ := g 4 (by omega)
  cases e1; cases e2; cases e3; cases e4
  have f : ∀ i, 0 < i → ad.add (k * 5 + i) = ⟨(ad.add (k * 5)).block, (ad.add (k * 5)).off + i, none⟩ := by
    intro i hi
    unfold Addr.add
    rw [if_neg (by omega)]
    split
    · rename_i h0; simp
    · simp [Nat.add_assoc]
  rw [f 1 (by omega)] at c1; rw [f 2 (by omega)] at c2; rw [f 3 (by omega)] at c3; rw [f 4 (by omega)] at c4
  exact ⟨ad, rfl, hb, c0, c1, c2, c3, c4⟩
theorem Rd.sign {w : World} {B n : Nat} {A : Option Addr} {l : List Sg} {k : Nat} {x : Sg} (h : Rd w B 5 A n (signsOf l)) (hx : l[k]? = some x) :
    ∃ ad, A = some ad ∧ ad.block < B ∧ w.cell? (ad.add (k * 5)) = some (.int .i64 x.flag) ∧ w.cell? ⟨(ad.add (k * 5)).block, (ad.add (k * 5)).off + 1, none⟩ = some (.string x.adr) ∧
      w.cell? ⟨(ad.add (k * 5)).block, (ad.add (k * 5)).off + 2, none⟩ = some (.int .i64 x.sec) ∧ w.cell? ⟨(ad.add (k * 5)).block, (ad.add (k * 5)).off + 3, none⟩ = some (.int .i64 x.nan) ∧
      w.cell? ⟨(ad.add (k * 5)).block, (ad.add (k * 5)).off + 4, none⟩ = some (.slice x.S x.sig.length x.sc) := h.five Sg.cells_length hx
theorem Rd.slen {w : World} {B n : Nat} {A : Option Addr} {l : List Sg} (h : Rd w B 5 A n (signsOf l)) : n = l.length := by
  have := h.1; rw [signsOf_length] at this; omega

/-! how arguments read -/
section
variable {H : Type} {enc : TypeId × Value → H} {P : Program}
/-- a slice of bytes -/
theorem bytes_read {W : World} {spare : Nat → Bool} {held : Bool} {t e : TypeId} (ht : P.underlying t = some (.slice e)) (he : P.underlying e = some (.int .u8)) (hc : P.cellsOf e = 1) {n : Nat} {cs : List Value} {x : DataW H × List MemPlace} (h : DataW.trod enc P W 0 spare held n t cs = some x) :
    ∃ (A : Option Addr) (c : Nat) (s : List UInt8), cs = [.slice A s.length c] ∧ s.length ≤ c ∧ c ≤ maxLen ∧ Rd8 W W.heap.size A s := by
  rcases open_ints ht he hc h with ⟨rfl, _⟩ | ⟨a, len, cap, zs, rfl, _, hl, hm, hz, _, hcell, hwf⟩
  · exact ⟨none, 0, [], rfl, Nat.le_refl _, by decide, Rd.nil _ _ _ _⟩
  · have hlen : len ≤ zs.length := by rw [hz]; split <;> omega
    have hb : ∀ i, i < len → 0 ≤ zs.getD i 0 ∧ zs.getD i 0 < 256 := fun i hi => by
      have hg : zs[i]? = some zs[i] := List.getElem?_eq_getElem (by omega)
      have := hwf zs[i] (List.getElem_mem (by omega))
      rw [List.getD_eq_getElem?_getD, hg]
      simp only [Lit.wf, Bool.and_eq_true, decide_eq_true_eq] at this
      have h1 : (0 : Int) ≤ zs[i] := this.1
      have h2 : zs[i] ≤ (255 : Int) := this.2
      simp only [Option.getD_some]
      omega
    have hcs : ((List.range len).map fun i => UInt8.ofNat (zs.getD i 0).toNat).length = len := by simp
    refine ⟨some a, cap, (List.range len).map fun i => UInt8.ofNat (zs.getD i 0).toNat, by rw [hcs], by rw [hcs]; exact hl, hm, ?_, ?_⟩
    · rw [bc_length]; simp
    · intro j u hu
      have hj : j < len := by
        have := (List.getElem?_eq_some_iff.1 hu).1
        rw [bc_length, hcs] at this; exact this
      have h1 : ((List.range len).map fun i => UInt8.ofNat (zs.getD i 0).toNat)[j]? = some (UInt8.ofNat (zs.getD j 0).toNat) := by
        rw [List.getElem?_map, List.getElem?_range hj]; rfl
      have h2 := bc_get h1
      rw [hu] at h2
      have h3 := hcell j (by omega)
      have hbj := hb j hj
      have e : ((UInt8.ofNat (zs.getD j 0).toNat).toNat : Int) = zs.getD j 0 := by
        have e1 : (zs.getD j 0).toNat < 256 := by omega
        rw [UInt8.toNat_ofNat_of_lt' (by simpa using e1)]; omega
      refine ⟨a, rfl, (block_add a j) ▸ (World.block_lt_of_cell? W (a.add j) (hcell j (by omega))), ?_⟩
      rw [h3, Option.some.inj h2, e]
/-- a time -/
theorem moment_reads {w : World} {base : Nat} {spare : Nat → Bool} {held : Bool} {t : TypeId} {f0 f1 : Field} (he : P.underlying t = some (.struct #[f0, f1])) (hc : P.cellsOf t = 2)
    (k0 : f0.offset = 0 ∧ P.cellsOf f0.type = 1 ∧ P.underlying f0.type = some (.int .i64)) (k1 : f1.offset = 1 ∧ P.cellsOf f1.type = 1 ∧ P.underlying f1.type = some (.int .i64))
    {n : Nat} {cs : List Value} {x : DataW H × List MemPlace} (h : DataW.trod enc P w base spare held n t cs = some x) :
    ∃ a b : Int, cs = [.int .i64 a, .int .i64 b] ∧ (-9223372036854775808 ≤ a ∧ a ≤ 9223372036854775807) ∧ (-9223372036854775808 ≤ b ∧ b ≤ 9223372036854775807) := by
  obtain ⟨xs, m, _, _, hlen, hxs, hf⟩ := DataW.trod_struct he h
  rw [hc] at hlen
  match cs, hlen with
  | [c0, c1], _ =>
    match xs, hxs with
    | [y0, y1], _ =>
      have g0 := hf 0 f0 rfl
      have g1 := hf 1 f1 rfl
      simp only [k0.1, k0.2.1, List.drop_zero, List.take_succ_cons, List.take_zero, List.getElem?_cons_zero] at g0
      simp only [k1.1, k1.2.1, List.drop_succ_cons, List.drop_zero, List.take_succ_cons, List.take_zero, List.getElem?_cons_succ, List.getElem?_cons_zero] at g1
      obtain ⟨a, ha, _, ha2⟩ := DataW.trod_int k0.2.2 g0
      obtain ⟨b, hb, _, hb2⟩ := DataW.trod_int k1.2.2 g1
      cases ha; cases hb
      exact ⟨a, b, rfl, wf64 ha2, wf64 hb2⟩
end
section
variable {H : Type} {enc : TypeId × Value → H}
set_option maxRecDepth 100000 in
/-- what a validator says -/
theorem sign_reads {W : World} {spare : Nat → Bool} {held : Bool} {n : Nat} {cs : List Value} {x : DataW H × List MemPlace} (h : DataW.trod enc Tryd.prog W 0 spare held n 76 cs = some x) :
    ∃ s : Sg, cs = s.cells ∧ s.fits ∧ s.ok W W.heap.size := by
  obtain ⟨xs, m, _, _, hlen, hxs, hf⟩ := DataW.trod_struct Tryd.underlying76 h
  have hC : Tryd.prog.cellsOf 76 = 5 := by kernel_rfl
  have d0 : Tryd.prog.cellsOf 3 = 1 := by kernel_rfl
  have d1 : Tryd.prog.cellsOf 9 = 1 := by kernel_rfl
  have d2 : Tryd.prog.cellsOf 29 = 2 := by kernel_rfl
  have d3 : Tryd.prog.cellsOf 22 = 1 := by kernel_rfl
  rw [hC] at hlen
  match cs, hlen with
  | [c0, c1, c2, c3, c4], _ =>
    match xs, hxs with
    | [y0, y1, y2, y3], _ =>
      have g0 := hf 0 _ rfl
      have g1 := hf 1 _ rfl
      have g2 := hf 2 _ rfl
      have g3 := hf 3 _ rfl
      simp only [d0, List.drop_zero, List.take_succ_cons, List.take_zero, List.getElem?_cons_zero] at g0
      simp only [d1, List.drop_succ_cons, List.drop_zero, List.take_succ_cons, List.take_zero, List.getElem?_cons_succ, List.getElem?_cons_zero] at g1
      simp only [d2, List.drop_succ_cons, List.drop_zero, List.take_succ_cons, List.take_zero, List.getElem?_cons_succ, List.getElem?_cons_zero] at g2
      simp only [d3, List.drop_succ_cons, List.drop_zero, List.take_succ_cons, List.take_zero, List.getElem?_cons_succ, List.getElem?_cons_zero] at g3
      obtain ⟨a, ha, _, ha2⟩ := DataW.trod_int Tryd.underlying3 g0
      obtain ⟨b, hb, _, hb2⟩ := DataW.trod_string Tryd.underlying9 g1
      obtain ⟨s1, s2, hs, q1, q2⟩ := moment_reads Tryd.underlying29 d2 ⟨rfl, d0, Tryd.underlying3⟩ ⟨rfl, d0, Tryd.underlying3⟩ g2
      obtain ⟨A, c, sg, hsg, l1, l2, hr⟩ := bytes_read Tryd.underlying22 Tryd.underlying5 (by kernel_rfl) g3
      cases ha; cases hb; cases hs; cases hsg
      exact ⟨⟨a, b, s1, s2, A, c, sg⟩, rfl, ⟨wf64 ha2, q1, q2, hb2, l1, l2⟩, hr⟩

theorem Rd.of_signs {w : World} {a : Addr} {n : Nat} (h : ∀ i, i < n → ∃ s : Sg, (s.fits ∧ s.ok w w.heap.size) ∧ ∀ j, j < 5 → w.cell? (a.add (i * 5 + j)) = s.cells[j]?) (hb : a.block < w.heap.size) :
    ∃ l : List Sg, Rd w w.heap.size 5 (some a) n (signsOf l) ∧ ∀ s ∈ l, s.fits ∧ s.ok w w.heap.size := by
  have h' : ∀ i, ∃ s : Sg, i < n → (s.fits ∧ s.ok w w.heap.size) ∧ ∀ j, j < 5 → w.cell? (a.add (i * 5 + j)) = s.cells[j]? := fun i => by
    by_cases hi : i < n
    · obtain ⟨s, hs⟩ := h i hi
      exact ⟨s, fun _ => hs⟩
    · exact ⟨⟨0, .empty, 0, 0, none, 0, []⟩, fun h => absurd h hi⟩
  obtain ⟨f, hf⟩ := Classical.axiomOfChoice h'
  refine ⟨(List.range n).map f, ⟨by rw [signsOf_length]; simp, fun j u hu => ⟨a, rfl, hb, ?_⟩⟩, fun s hs => ?_⟩
  · have hj : j < n * 5 := by
      have := (List.getElem?_eq_some_iff.1 hu).1
      rw [signsOf_length] at this; simpa using this
    have hx : ((List.range n).map f)[j / 5]? = some (f (j / 5)) := by
      rw [List.getElem?_map, List.getElem?_range (by omega)]; rfl
    have e := flat_get Sg.cells 5 Sg.cells_length ((List.range n).map f) (j / 5) (j % 5) (f (j / 5)) hx (Nat.mod_lt _ (by omega))
    have ej : j / 5 * 5 + j % 5 = j := by omega
    rw [ej] at e
    have := (hf (j / 5) (by omega)).2 (j % 5) (Nat.mod_lt _ (by omega))
    rw [ej] at this
    rw [this, ← e]; exact hu
  · simp only [List.mem_map, List.mem_range] at hs
    obtain ⟨i, hi, rfl⟩ := hs
    exact (hf i hi).1
/-- a slice of what validators say -/
theorem signs_read {W : World} {spare : Nat → Bool} {held : Bool} {n : Nat} {cs : List Value} {x : DataW H × List MemPlace} (h : DataW.trod enc Tryd.prog W 0 spare held n 25 cs = some x) :
    ∃ (A : Option Addr) (n c : Nat) (l : List Sg), cs = [.slice A n c] ∧ n ≤ c ∧ c ≤ maxLen ∧ Rd W W.heap.size 5 A n (signsOf l) ∧ ∀ s ∈ l, s.fits ∧ s.ok W W.heap.size := by
  rcases Go.Deep.open_slice Tryd.underlying25 h with ⟨rfl, _⟩ | ⟨a, len, cap, m, k, D, Pl, rfl, _, hl, hm, hmm, hx, hi⟩
  · exact ⟨none, 0, 0, [], rfl, Nat.le_refl _, by decide, Rd.nil _ _ _ _, by simp⟩
  · refine ⟨some a, len, cap, ?_⟩
    have hC : Tryd.prog.cellsOf 76 = 5 := by kernel_rfl
    rw [hC] at hx hi
    have hlm : len ≤ m := by rw [hmm]; split <;> omega
    by_cases hn : len = 0
    · subst hn
      exact ⟨[], rfl, hl, hm, Rd.nil _ _ _ _, by simp⟩
    · have hb : a.block < W.heap.size := by
        obtain ⟨cs', hc, ht'⟩ := hi 0 (by omega)
        obtain ⟨_, hcl, hat⟩ := World.cells?_some hc
        have h0 := hat 0 (by omega)
        have hlt0 := World.block_lt_of_cell? W _ (h0.trans (List.getElem?_eq_getElem (by omega)))
        rwa [add_block, add_block] at hlt0
      obtain ⟨l, h1, h2⟩ := Rd.of_signs (w := W) (a := a) (n := len) (fun i hin => by
        obtain ⟨cs', hc, ht'⟩ := hi i (by omega)
        obtain ⟨s, rfl, g1, g2⟩ := sign_reads ht'
        obtain ⟨_, hcl, hat⟩ := World.cells?_some hc
        exact ⟨s, ⟨g1, g2⟩, fun j hj => by rw [← Go.Deep.add_add]; exact hat j hj⟩) hb
      exact ⟨l, rfl, hl, hm, h1, h2⟩
end

/-- what names a block, and where its sums lie -/
structure Bk where
  S : Option Addr
  sc : Nat
  sum : List UInt8
  parts : Int
  R : Option Addr
  rc : Nat
  root : List UInt8
def Bk.cells (b : Bk) : List Value := [.slice b.S b.sum.length b.sc, .int .i64 b.parts, .slice b.R b.root.length b.rc]
def Bk.ok (w : World) (B : Nat) (b : Bk) : Prop := Rd8 w B b.S b.sum ∧ Rd8 w B b.R b.root
theorem Bk.ok.below {w w' : World} {b : Bk} (h : b.ok w w.heap.size) (hb : Below w.heap.size w w') : b.ok w' w'.heap.size := ⟨(Rd.below h.1 hb).more hb.size, (Rd.below h.2 hb).more hb.size⟩
structure Bk.fits (b : Bk) : Prop where
  parts : -9223372036854775808 ≤ b.parts ∧ b.parts ≤ 9223372036854775807
  sum : b.sum.length ≤ b.sc ∧ b.sc ≤ maxLen
  root : b.root.length ≤ b.rc ∧ b.rc ≤ maxLen
/-- a commit -/
structure Cm where
  height : Int
  round : Int
  blk : Bk
  A : Option Addr
  n : Nat
  c : Nat
  signs : List Sg
def Cm.cells (x : Cm) : List Value := .int .i64 x.height :: .int .i64 x.round :: (x.blk.cells ++ [.slice x.A x.n x.c])
structure Cm.ok (w : World) (B : Nat) (x : Cm) : Prop where
  blk : x.blk.ok w B
  row : Rd w B 5 x.A x.n (signsOf x.signs)
  signs : ∀ s ∈ x.signs, s.ok w B
structure Cm.fits (x : Cm) : Prop where
  height : -9223372036854775808 ≤ x.height ∧ x.height ≤ 9223372036854775807
  round : -9223372036854775808 ≤ x.round ∧ x.round ≤ 9223372036854775807
  blk : x.blk.fits
  cap : x.n ≤ x.c ∧ x.c ≤ maxLen
  signs : ∀ s ∈ x.signs, s.fits
section
variable {H : Type} {enc : TypeId × Value → H}
set_option maxRecDepth 100000 in
theorem block_reads {W : World} {spare : Nat → Bool} {held : Bool} {n : Nat} {cs : List Value} {x : DataW H × List MemPlace} (h : DataW.trod enc Tryd.prog W 0 spare held n 24 cs = some x) :
    ∃ b : Bk, cs = b.cells ∧ b.fits ∧ b.ok W W.heap.size := by
  obtain ⟨xs, m, _, _, hlen, hxs, hf⟩ := DataW.trod_struct Tryd.underlying24 h
  have hC : Tryd.prog.cellsOf 24 = 3 := by kernel_rfl
  have d0 : Tryd.prog.cellsOf 3 = 1 := by kernel_rfl
  have d3 : Tryd.prog.cellsOf 22 = 1 := by kernel_rfl
  rw [hC] at hlen
  match cs, hlen with
  | [c0, c1, c2], _ =>
    match xs, hxs with
    | [y0, y1, y2], _ =>
      have g0 := hf 0 _ rfl
      have g1 := hf 1 _ rfl
      have g2 := hf 2 _ rfl
      simp only [d3, List.drop_zero, List.take_succ_cons, List.take_zero, List.getElem?_cons_zero] at g0
      simp only [d0, List.drop_succ_cons, List.drop_zero, List.take_succ_cons, List.take_zero, List.getElem?_cons_succ, List.getElem?_cons_zero] at g1
      simp only [d3, List.drop_succ_cons, List.drop_zero, List.take_succ_cons, List.take_zero, List.getElem?_cons_succ, List.getElem?_cons_zero] at g2
      obtain ⟨A, c, s, hs, l1, l2, hr⟩ := bytes_read Tryd.underlying22 Tryd.underlying5 (by kernel_rfl) g0
      obtain ⟨a, ha, _, ha2⟩ := DataW.trod_int Tryd.underlying3 g1
      obtain ⟨A', c', s', hs', l1', l2', hr'⟩ := bytes_read Tryd.underlying22 Tryd.underlying5 (by kernel_rfl) g2
      cases hs; cases ha; cases hs'
      exact ⟨⟨A, c, s, a, A', c', s'⟩, rfl, ⟨wf64 ha2, ⟨l1, l2⟩, ⟨l1', l2'⟩⟩, hr, hr'⟩
set_option maxRecDepth 100000 in
theorem commit_reads {W : World} {spare : Nat → Bool} {held : Bool} {n : Nat} {cs : List Value} {x : DataW H × List MemPlace} (h : DataW.trod enc Tryd.prog W 0 spare held n 27 cs = some x) :
    ∃ b : Cm, cs = b.cells ∧ b.fits ∧ b.ok W W.heap.size := by
  obtain ⟨xs, m, _, _, hlen, hxs, hf⟩ := DataW.trod_struct Tryd.underlying27 h
  have hC : Tryd.prog.cellsOf 27 = 6 := by kernel_rfl
  have d0 : Tryd.prog.cellsOf 3 = 1 := by kernel_rfl
  have d2 : Tryd.prog.cellsOf 24 = 3 := by kernel_rfl
  have d3 : Tryd.prog.cellsOf 25 = 1 := by kernel_rfl
  rw [hC] at hlen
  match cs, hlen with
  | [c0, c1, c2, c3, c4, c5], _ =>
    match xs, hxs with
    | [y0, y1, y2, y3], _ =>
      have g0 := hf 0 _ rfl
      have g1 := hf 1 _ rfl
      have g2 := hf 2 _ rfl
      have g3 := hf 3 _ rfl
      simp only [d0, List.drop_zero, List.take_succ_cons, List.take_zero, List.getElem?_cons_zero] at g0
      simp only [d0, List.drop_succ_cons, List.drop_zero, List.take_succ_cons, List.take_zero, List.getElem?_cons_succ, List.getElem?_cons_zero] at g1
      simp only [d2, List.drop_succ_cons, List.drop_zero, List.take_succ_cons, List.take_zero, List.getElem?_cons_succ, List.getElem?_cons_zero] at g2
      simp only [d3, List.drop_succ_cons, List.drop_zero, List.take_succ_cons, List.take_zero, List.getElem?_cons_succ, List.getElem?_cons_zero] at g3
      obtain ⟨a, ha, _, ha2⟩ := DataW.trod_int Tryd.underlying3 g0
      obtain ⟨b, hb, _, hb2⟩ := DataW.trod_int Tryd.underlying3 g1
      obtain ⟨k, hk, k1, k2⟩ := block_reads g2
      obtain ⟨A, n, c, l, hl, l1, l2, hr, hs⟩ := signs_read g3
      cases ha; cases hb; cases hl
      refine ⟨⟨a, b, k, A, n, c, l⟩, ?_, ⟨wf64 ha2, wf64 hb2, k1, ⟨l1, l2⟩, fun s h => (hs s h).1⟩, ⟨k2, hr, fun s h => (hs s h).2⟩⟩
      simp only [Cm.cells, ← hk]
      rfl
end
end Go.Proofs.YtikikddkhikfkaaDoor

set_option linter.all false
namespace Go.Proofs.YtikikddkhikfkaaDoor
open Go.ChangeShapes Go.WideShapes Go.ChangeAt Go.RowKit

def comAgg (x : Cm) : Value := .agg #[.int .i64 x.height, .int .i64 x.round, .slice x.blk.S x.blk.sum.length x.blk.sc, .int .i64 x.blk.parts, .slice x.blk.R x.blk.root.length x.blk.rc, .slice x.A x.n x.c]
set_option maxRecDepth 100000 in
theorem open_commit {H : Type} {enc : TypeId × Value → H} {W : World} {r : Reach} {b0 : Nat} {v : Value} {d : DataW H} {p : List MemPlace} (hv : Value.okWide Tryd.prog W r b0 27 v) (h : DataW.Trod enc Tryd.prog W 0 (fun _ => true) true 27 v d p) :
    ∃ x : Cm, v = comAgg x ∧ x.fits ∧ x.ok W W.heap.size := by
  obtain ⟨cs, rfl, hsz⟩ := okWide_struct Tryd.underlying27 hv
  obtain ⟨fuel, h⟩ := h
  obtain ⟨x, h1, h2, h3⟩ := commit_reads h
  refine ⟨x, ?_, h2, h3⟩
  have e : cs.toList = x.cells := h1
  have e2 : cs = x.cells.toArray := by rw [← e]
  rw [e2]
  rfl
end Go.Proofs.YtikikddkhikfkaaDoor
