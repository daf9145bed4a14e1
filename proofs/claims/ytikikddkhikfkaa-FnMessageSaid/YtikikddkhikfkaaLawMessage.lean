/-
  For every name of a chain, every commit and every place: FnMessage answers true, and all read behind the call as they did before. By the session.
-/
import Derived.Test.YtikikddkhikfkaaWhole
import Derived.Test.YtikikddkhikfkaaOpen
import Derived.Test.YtikikddkhikfkaaLcom
import Derived.Test.YtikikddkhikfkaaMsg
import Derived.Test.YtikikddkhikfkaaRow
set_option linter.all false
namespace Go.Proofs.Ytikikddkhikfkaa
open Go.ChangeShapes Go.WideShapes Go.ChangeAt Go.RowKit

/-- the world behind the stores of the two commits -/
def storedW (w : World) (t : TypeId) (g : Nat) (u0 u1 u2 u3 u4 u5 v0 v1 v2 v3 v4 v5 : Value) : World :=
  ((((((w.setCell ⟨g, 0, none⟩ u0).setCell ⟨g, 1, none⟩ u1).setCell ⟨g, 2, none⟩ u2).setCell ⟨g, 3, none⟩ u3).setCell ⟨g, 4, none⟩ u4).setCell ⟨g, 5, none⟩ u5).alloc (.cells #[v0, v1, v2, v3, v4, v5] t)
theorem storedW_facts {w w0 : World} {t t' : TypeId} {a0 a1 a2 a3 a4 a5 u0 u1 u2 u3 u4 u5 v0 v1 v2 v3 v4 v5 : Value} (h : SB w0.heap.size w0 t' #[a0, a1, a2, a3, a4, a5] w) :
    Blk (storedW w t w0.heap.size u0 u1 u2 u3 u4 u5 v0 v1 v2 v3 v4 v5) w0.heap.size t' #[u0, u1, u2, u3, u4, u5] ∧ Blk (storedW w t w0.heap.size u0 u1 u2 u3 u4 u5 v0 v1 v2 v3 v4 v5) w.heap.size t #[v0, v1, v2, v3, v4, v5] ∧
    Below w0.heap.size w0 (storedW w t w0.heap.size u0 u1 u2 u3 u4 u5 v0 v1 v2 v3 v4 v5) ∧ Other w0.heap.size w (storedW w t w0.heap.size u0 u1 u2 u3 u4 u5 v0 v1 v2 v3 v4 v5) := by
  have hlt := h.1.lt
  unfold storedW
  refine ⟨(Blk.fill6 h.1).alloc _, by simpa using Blk.new ((((((w.setCell ⟨w0.heap.size, 0, none⟩ u0).setCell ⟨w0.heap.size, 1, none⟩ u1).setCell ⟨w0.heap.size, 2, none⟩ u2).setCell ⟨w0.heap.size, 3, none⟩ u3).setCell ⟨w0.heap.size, 4, none⟩ u4).setCell ⟨w0.heap.size, 5, none⟩ u5) t #[v0, v1, v2, v3, v4, v5], (Below.far6 h.2 (Nat.le_refl _)).alloc (by simp; omega) _, ?_⟩
  have h2 := ((((((Other.refl w0.heap.size w).set 0 u0).set 1 u1).set 2 u2).set 3 u3).set 4 u4).set 5 u5
  have h3 : Other w0.heap.size _ (((((((w.setCell ⟨w0.heap.size, 0, none⟩ u0).setCell ⟨w0.heap.size, 1, none⟩ u1).setCell ⟨w0.heap.size, 2, none⟩ u2).setCell ⟨w0.heap.size, 3, none⟩ u3).setCell ⟨w0.heap.size, 4, none⟩ u4).setCell ⟨w0.heap.size, 5, none⟩ u5).alloc (.cells #[v0, v1, v2, v3, v4, v5] t)) := Other.of_below ((Below.refl _ _).alloc (Nat.le_refl _) _)
  exact ⟨Nat.le_trans h2.1 h3.1, fun k hk hn => (h3.2 k (by simpa using hk) hn).trans (h2.2 k hk hn)⟩
/-- a row with a cell that block g has not does not lie in block g -/
theorem Rd.not_in {w : World} {B g size n : Nat} {A : Option Addr} {xs : List Value} {t : TypeId} {cs : Array Value} (h : Rd w B size A n xs) (hb : Blk w g t cs) {j : Nat} {u : Value} (hj : 0 < j) (hu : xs[j]? = some u) (hne : ∀ i : Nat, cs[i]? ≠ some u) : ∀ ad, A = some ad → ad.block ≠ g := by
  intro ad hA he
  obtain ⟨ad', hA', _, hc⟩ := h.2 j u hu
  rw [hA] at hA'
  obtain rfl := Option.some.inj hA'
  have e : ad.add j = ⟨g, ad.off + j, none⟩ := by
    unfold Addr.add
    rw [if_neg (by omega), ← he]
  rw [e, hb.cell] at hc
  exact hne _ hc
/-- a row that does not lie in block g reads on -/
theorem Rd.other {w w' : World} {B g size n : Nat} {A : Option Addr} {xs : List Value} (h : Rd w B size A n xs) (ho : Other g w w') (hB : B ≤ w.heap.size) (hg : ∀ ad, A = some ad → ad.block ≠ g) : Rd w' w'.heap.size size A n xs :=
  ⟨h.1, fun j u hu => by
    obtain ⟨ad, hA, hb, hc⟩ := h.2 j u hu
    have e : (ad.add j).block = ad.block := block_add ad j
    exact ⟨ad, hA, by have := ho.1; omega, by rw [World.cell?_of_block (w := w) (by rw [e]; exact ho.2 ad.block (by omega) (hg ad hA))]; exact hc⟩⟩
/-- the signs' row does not lie in the commit's block -/
theorem signs_not_in {w : World} {B g n : Nat} {A A' : Option Addr} {l : List Sg} {t : TypeId} {h r p : Int} {S R : Option Addr} {a b c d e f : Nat} (hr : Rd w B 5 A n (signsOf l)) (hb : Blk w g t #[.int .i64 h, .int .i64 r, .slice S a b, .int .i64 p, .slice R c d, .slice A' e f]) (hn : 0 < n) : ∀ ad, A = some ad → ad.block ≠ g := by
  have hl := Rd.slen hr
  obtain ⟨x, hx⟩ : ∃ x, l[0]? = some x := ⟨_, List.getElem?_eq_getElem (by omega)⟩
  have hu : (signsOf l)[1]? = some (.string x.adr) := (flat_get Sg.cells 5 Sg.cells_length l 0 1 x hx (by omega)).trans rfl
  refine Rd.not_in hr hb (by omega) hu fun i hi => ?_
  match i with
  | 0 | 1 | 2 | 3 | 4 | 5 => simp at hi
  | k + 6 => simp at hi
/-- a row of at least two bytes does not lie in the commit's block -/
theorem bytes_not_in {w : World} {B g n : Nat} {A A' : Option Addr} {l : List UInt8} {t : TypeId} {h r p : Int} {S R : Option Addr} {a b c d e f : Nat} (hr : Rd w B 1 A n (bc l)) (hb : Blk w g t #[.int .i64 h, .int .i64 r, .slice S a b, .int .i64 p, .slice R c d, .slice A' e f]) (hn : 1 < l.length) : ∀ ad, A = some ad → ad.block ≠ g := by
  have hx : l[1]? = some l[1] := List.getElem?_eq_getElem hn
  refine Rd.not_in hr hb (by omega) (bc_get hx) fun i hi => ?_
  match i with
  | 0 | 1 | 2 | 3 | 4 | 5 => simp at hi
  | k + 6 => simp at hi
/-- what names the block reads behind the stores -/
theorem Bk.ok.other {w w' : World} {g : Nat} {x : Bk} {t : TypeId} {h r p : Int} {S R A' : Option Addr} {a b c d e f : Nat} (hx : x.ok w w.heap.size) (hb : Blk w g t #[.int .i64 h, .int .i64 r, .slice S a b, .int .i64 p, .slice R c d, .slice A' e f]) (hw : (x.sum.length = 0 ∧ x.parts = 0 ∧ x.root.length = 0) ∨ (x.sum.length = 32 ∧ x.root.length = 32 ∧ 1 ≤ x.parts ∧ x.parts ≤ 100000)) (ho : Other g w w') : x.ok w' w'.heap.size := by
  have key : ∀ (A : Option Addr) (l : List UInt8), Rd8 w w.heap.size A l → (l.length = 0 ∨ l.length = 32) → Rd8 w' w'.heap.size A l := by
    intro A l hr hl
    rcases hl with hl | hl
    · obtain rfl := List.eq_nil_of_length_eq_zero hl
      exact Rd.nil _ _ _ _
    · exact Rd.other hr ho (Nat.le_refl _) (bytes_not_in hr hb (by omega))
  rcases hw with hw | hw
  · exact ⟨key _ _ hx.1 (.inl hw.1), key _ _ hx.2 (.inl hw.2.2)⟩
  · exact ⟨key _ _ hx.1 (.inr hw.1), key _ _ hx.2 (.inr hw.2.1)⟩

theorem mag_mod (x m : Int) (h : 0 < m) : 0 ≤ mag x % m ∧ mag x % m < m := ⟨Int.emod_nonneg _ (by omega), Int.emod_lt_of_pos _ h⟩
theorem norm_all (l : List Sg) : ∀ s ∈ l.map normG, (s.flag = 1 ∨ s.flag = 2 ∨ s.flag = 3) ∧ (-4611686018427387904 ≤ s.sec ∧ s.sec ≤ 4611686018427387904) ∧ (0 ≤ s.nan ∧ s.nan ≤ 2147483647) := by
  intro s hs
  obtain ⟨y, _, rfl⟩ := List.mem_map.1 hs
  have h1 := mag_mod y.flag 3 (by decide)
  have h2 := mag_mod y.nan 1000000000 (by decide)
  have h3 := Int.tmod_lt_of_pos y.sec (b := 1099511627776) (by decide)
  have h4 := Int.lt_tmod_of_pos y.sec (b := 1099511627776) (by decide)
  simp only [normG]
  omega
/-- what is fixed while both messages are made -/
structure MsgK (HR : Int × Int) (chain : ByteArray) (k m : Nat) (ls : List Sg) (b : Bk) : Prop where
  hh : 0 ≤ HR.1 ∧ HR.1 < 1152921504606846976
  rr : 0 ≤ HR.2 ∧ HR.2 < 1073741824
  m60 : m ≤ 60
  cc : chain.size ≤ 1000
  good : b.good
  all : ∀ s ∈ ls, (s.flag = 1 ∨ s.flag = 2 ∨ s.flag = 3) ∧ (-4611686018427387904 ≤ s.sec ∧ s.sec ≤ 4611686018427387904) ∧ (0 ≤ s.nan ∧ s.nan ≤ 2147483647)
  km : k < m
/-- what the region keeps -/
structure MsgS (w : World) (g7 : Nat) (x : Sg) (HR : Int × Int) (k : Nat) (A1 : Option Addr) (c1 : Nat) (A2 : Option Addr) (c2 m : Nat) (ls : List Sg) (b : Bk) (w' : World) : Prop where
  com : Blk w' w.heap.size 27 #[.int .i64 HR.1, .int .i64 HR.2, .slice b.S b.sum.length b.sc, .int .i64 b.parts, .slice b.R b.root.length b.rc, .slice A1 m c1]
  ref : Blk w' g7 33 #[.int .i64 HR.1, .int .i64 HR.2, .slice b.S b.sum.length b.sc, .int .i64 b.parts, .slice b.R b.root.length b.rc, .slice A2 m c2]
  below : Below w.heap.size w w'
  row : Rd w' w'.heap.size 5 A1 m (signsOf ls)
  row2 : Rd w' w'.heap.size 5 A2 m (signsOf ls)
  blk : b.ok w' w'.heap.size
  at_ : ls[k]? = some x
theorem MsgS.call {w : World} {g7 : Nat} {x : Sg} {HR : Int × Int} {k : Nat} {A1 : Option Addr} {c1 : Nat} {A2 : Option Addr} {c2 m : Nat} {ls : List Sg} {b : Bk} {w1 w2 : World} (h : MsgS w g7 x HR k A1 c1 A2 c2 m ls b w1) (hb : Below w1.heap.size w1 w2) : MsgS w g7 x HR k A1 c1 A2 c2 m ls b w2 :=
  ⟨h.com.belowS hb, h.ref.belowS hb, h.below.trans (hb.mono (Nat.le_of_lt h.com.lt)), (h.row.below hb).more hb.size, (h.row2.below hb).more hb.size, h.blk.below hb, h.at_⟩
theorem msgOf_pos (l : List UInt8) : 0 < (msgOf l).length := by
  unfold msgOf
  rw [List.length_append]
  have : 0 < (vi l.length).length := by
    rw [vi]; split <;> simp
  omega
theorem good_parts {b : Bk} (h : b.good) : in64' b.parts := by
  unfold in64'
  rcases h with h | h <;> omega
theorem good_sum {b : Bk} (h : b.good) : b.sum.length ≤ 1000 := by rcases h with h | h <;> omega
theorem good_root {b : Bk} (h : b.good) : b.root.length ≤ 1000 := by rcases h with h | h <;> omega
theorem MsgS.drew {w : World} {g7 : Nat} {x : Sg} {HR : Int × Int} {k : Nat} {A1 : Option Addr} {c1 : Nat} {A2 : Option Addr} {c2 m : Nat} {ls : List Sg} {b : Bk} {w1 : World} (h : MsgS w g7 x HR k A1 c1 A2 c2 m ls b w1) : MsgS w g7 x HR k A1 c1 A2 c2 m ls b w1.drew := h.call (Below.refl _ _).drew
/-- a row of bytes as a string -/
theorem rd_back {w : World} {B m c : Nat} {A : Option Addr} {l : List UInt8} (h : Rd w B 1 A m (bc l)) (hl : 0 < l.length) : (convert 22 9 (.slice A m c)).run Try.prog w = .ok (.string ⟨l.toArray⟩) w := by
  have hm := h.len1
  subst hm
  have h0 : l[0]? = some l[0] := List.getElem?_eq_getElem hl
  obtain ⟨ad, rfl, _, _⟩ := h.2 0 _ (bc_get h0)
  refine run_convert_bytes_back w _ _ 5 ad c l Try.underlying22 Try.underlying5 Try.underlying9 fun j hj => ?_
  obtain ⟨ad', e, _, hc⟩ := h.2 j _ (bc_get (List.getElem?_eq_getElem hj))
  obtain rfl := Option.some.inj e
  exact hc

set_option maxRecDepth 100000 in
set_option maxHeartbeats 6400000 in
theorem fnMessage_any (chain : ByteArray) (hgt rnd : Int) (b : Bk) (A : Option Addr) (n c : Nat) (l : List Sg) (place : Int) (w : World) (hcl : chain.size ≤ maxLen) (hx : (⟨hgt, rnd, b, A, n, c, l⟩ : Cm).ok w w.heap.size) (hf : (⟨hgt, rnd, b, A, n, c, l⟩ : Cm).fits) (hp : -9223372036854775808 ≤ place ∧ place ≤ 9223372036854775807) :
    Calls Try.prog 3 #[.string chain, .agg #[.int .i64 hgt, .int .i64 rnd, .slice b.S b.sum.length b.sc, .int .i64 b.parts, .slice b.R b.root.length b.rc, .slice A n c], .int .i64 place] w fun e w' => e = .returned (.bool true) ∧ Below w.heap.size w w' := by
  simp only [maxLen] at hcl
  have hr : Rd w w.heap.size 5 A n (signsOf l) := hx.row
  have hbk : b.ok w w.heap.size := hx.blk
  have hln := hr.slen
  have hcap := hf.cap; have hbf := hf.blk; have hsg := hf.signs
  simp only [maxLen] at hcap
  have hs1 := hbf.sum; have hs2 := hbf.root
  simp only [maxLen] at hs1 hs2
  have HR := Lib.hid hr; have HBK := Lib.hid hbk; have HF := Lib.hid hf; have HP := Lib.hid hp; have HLN := Lib.hid hln
  have hs0 := SB.start w 27 #[.int .i64 hgt, .int .i64 rnd, .slice b.S b.sum.length b.sc, .int .i64 b.parts, .slice b.R b.root.length b.rc, .slice A n c]
  have K1 := Lib.hid (fits3_any hgt rnd b l A n c _ ((HR.out.below hs0.2).more hs0.2.size) (by omega) (fun x hx => ⟨by have := (hsg x hx).adr; simp only [maxLen] at this; omega, by have := (hsg x hx).sig; simp only [maxLen] at this; omega⟩) (by omega) (by omega))
  have HS0 := Lib.hid hs0
  clear hs0 hr hbk hf hx hp hln hsg hbf
  by_cases hc31 : (chain.size : Int) > 2147483647
  · go_enter Try.func3, Try.ntmps3
    go_wp2
    go_ret
    exact ⟨rfl, HS0.out.2⟩
  · cases hf3 : fit3 b l with
    | false =>
      rw [hf3] at K1
      go_enter Try.func3, Try.ntmps3
      go_wp2_with fail
      refine K1.out.mono ?_
      rintro e w1 ⟨rfl, hb1⟩
      have HS1 := Lib.hid (HS0.out.call hb1); clear hb1
      go_wp2
      go_ret
      exact ⟨rfl, HS1.out.2⟩
    | true =>
      rw [hf3] at K1
      have hn31 : b.sum.length ≤ 2147483647 ∧ b.root.length ≤ 2147483647 ∧ n ≤ 2147483647 := by
        have hln := HLN.out
        unfold fit3 fit4 fit5 at hf3
        simp only [Bool.and_eq_true, Bool.not_eq_true', decide_eq_false_iff_not] at hf3
        omega
      have HN31 := Lib.hid hn31; clear hn31 hf3
      go_enter Try.func3, Try.ntmps3
      go_wp2_with fail
      refine K1.out.mono ?_
      rintro e w1 ⟨rfl, hb1⟩
      have hs1' := HS0.out.call hb1
      have q0 : w1.cell? ⟨w.heap.size, 0, none⟩ = some (.int .i64 hgt) := hs1'.1.cell 0
      have q1 : w1.cell? ⟨w.heap.size, 1, none⟩ = some (.int .i64 rnd) := hs1'.1.cell 1
      have q2 : w1.cell? ⟨w.heap.size, 2, none⟩ = some (.slice b.S b.sum.length b.sc) := hs1'.1.cell 2
      have q3 : w1.cell? ⟨w.heap.size, 3, none⟩ = some (.int .i64 b.parts) := hs1'.1.cell 3
      have q4 : w1.cell? ⟨w.heap.size, 4, none⟩ = some (.slice b.R b.root.length b.rc) := hs1'.1.cell 4
      have q5 : w1.cell? ⟨w.heap.size, 5, none⟩ = some (.slice A n c) := hs1'.1.cell 5
      have HS1 := Lib.hid hs1'; clear hb1 hs1' HS0
      by_cases hz : b.sum.length = 0 ∧ b.parts = 0 ∧ b.root.length = 0
      · have e1 : ¬ 0 < b.sum.length := by omega
        have e2 : (b.parts != 0) = false := by rw [hz.2.1]; rfl
        have e3 : ¬ 0 < b.root.length := by omega
        have HZ := Lib.hid hz; clear hz
        go_wp2_with fail
        have HS5 := HS1; have HBB := Lib.hid (HBK.out.below HS1.out.2)
        have HW : Hid ((b.sum.length = 0 ∧ b.parts = 0 ∧ b.root.length = 0) ∨ (b.sum.length = 32 ∧ b.root.length = 32 ∧ 1 ≤ b.parts ∧ b.parts ≤ 100000)) := .inl HZ.out
        clear q0 q1 q2 q3 q4 q5 e1 e2 e3 HZ HS1
        have KL := Lib.hid (lcommit_any hgt rnd b A n c l w1 ((HR.out.below HS5.out.2).more HS5.out.2.size) hcap.1 HN31.out.2.2 HF.out.height HF.out.round (by rcases HW.out with h | h <;> omega) HF.out.signs)
        refine KL.out.mono ?_
        rintro e w6 ⟨A1, c1, A2, c2, m, rfl, hm60, hr1, hr2, hb6⟩
        have hs6 := HS5.out.call hb6
        have HS6 := Lib.hid hs6; have HR1 := Lib.hid hr1; have HR2 := Lib.hid hr2; have HBB6 := Lib.hid (HBB.out.below hb6); have HM := Lib.hid hm60
        have r : ∀ i, w6.cell? ⟨w.heap.size, i, none⟩ = (#[.int .i64 hgt, .int .i64 rnd, .slice b.S b.sum.length b.sc, .int .i64 b.parts, .slice b.R b.root.length b.rc, .slice A n c] : Array Value)[i]? := fun i => hs6.1.cell i
        have f : ∀ i, w6.frozen? ⟨w.heap.size, i, none⟩ = false := fun i => hs6.1.free i
        have hl6 : w.heap.size < w6.heap.size := hs6.1.lt
        clear hr1 hr2 hb6 hs6 HS5 HBB KL
        go_upto_region 6 with fail
        have hst := storedW_facts (t := 33) (u0 := .int .i64 (mag hgt % 1152921504606846976)) (u1 := .int .i64 (mag rnd % 1073741824)) (u2 := .slice b.S b.sum.length b.sc) (u3 := .int .i64 (mag b.parts % 1073741824)) (u4 := .slice b.R b.root.length b.rc) (u5 := .slice A1 m c1) (v0 := .int .i64 (mag hgt % 1152921504606846976)) (v1 := .int .i64 (mag rnd % 1073741824)) (v2 := .slice b.S b.sum.length b.sc) (v3 := .int .i64 (mag b.parts % 1073741824)) (v4 := .slice b.R b.root.length b.rc) (v5 := .slice A2 m c2) HS6.out
        change Code.wp _ _ _ _ (storedW w6 33 w.heap.size (.int .i64 (mag hgt % 1152921504606846976)) (.int .i64 (mag rnd % 1073741824)) (.slice b.S b.sum.length b.sc) (.int .i64 (mag b.parts % 1073741824)) (.slice b.R b.root.length b.rc) (.slice A1 m c1) (.int .i64 (mag hgt % 1152921504606846976)) (.int .i64 (mag rnd % 1073741824)) (.slice b.S b.sum.length b.sc) (.int .i64 (mag b.parts % 1073741824)) (.slice b.R b.root.length b.rc) (.slice A2 m c2))
        have hbb7 := Bk.ok.other HBB6.out HS6.out.1 HW.out hst.2.2.2
        have hr1 : 0 < m → Rd _ _ 5 A1 m (signsOf ((l.take 60).map normG)) := fun h => Rd.other HR1.out hst.2.2.2 (Nat.le_refl _) (signs_not_in HR1.out HS6.out.1 h)
        have hr2 : 0 < m → Rd _ _ 5 A2 m (signsOf ((l.take 60).map normG)) := fun h => Rd.other HR2.out hst.2.2.2 (Nat.le_refl _) (signs_not_in HR2.out HS6.out.1 h)
        have hlen6 := HR1.out.slen
        have HST := Lib.hid hst; have HBB7 := Lib.hid hbb7; have HR71 := Lib.hid hr1; have HR72 := Lib.hid hr2; have HL6 := Lib.hid hlen6
        have hl67 : w6.heap.size < (storedW w6 33 w.heap.size (.int .i64 (mag hgt % 1152921504606846976)) (.int .i64 (mag rnd % 1073741824)) (.slice b.S b.sum.length b.sc) (.int .i64 (mag b.parts % 1073741824)) (.slice b.R b.root.length b.rc) (.slice A1 m c1) (.int .i64 (mag hgt % 1152921504606846976)) (.int .i64 (mag rnd % 1073741824)) (.slice b.S b.sum.length b.sc) (.int .i64 (mag b.parts % 1073741824)) (.slice b.R b.root.length b.rc) (.slice A2 m c2)).heap.size := hst.2.1.lt
        clear hst hbb7 hr1 hr2 hlen6 HR1 HR2 HBB6 HS6 r f
        generalize (storedW w6 33 w.heap.size (.int .i64 (mag hgt % 1152921504606846976)) (.int .i64 (mag rnd % 1073741824)) (.slice b.S b.sum.length b.sc) (.int .i64 (mag b.parts % 1073741824)) (.slice b.R b.root.length b.rc) (.slice A1 m c1) (.int .i64 (mag hgt % 1152921504606846976)) (.int .i64 (mag rnd % 1073741824)) (.slice b.S b.sum.length b.sc) (.int .i64 (mag b.parts % 1073741824)) (.slice b.R b.root.length b.rc) (.slice A2 m c2)) = w7 at *
        generalize w6.heap.size = g7 at *
        have s5 : w7.cell? ⟨w.heap.size, 5, none⟩ = some (.slice A1 m c1) := HST.out.1.cell 5
        by_cases hm0 : m = 0
        · have d1 : ((m : Int) == 0) = true := by simp [hm0]
          go_wp2
          go_ret
          exact ⟨rfl, HST.out.2.2.1⟩
        · have d1 : ((m : Int) == 0) = false := by simp [hm0]
          by_cases hc200 : chain.size > 200
          · go_wp2
            go_ret
            exact ⟨rfl, HST.out.2.2.1⟩
          · have hmp := mag_pos place
            have hmm := mag_max HP.out
            obtain ⟨k, hkm, hk1⟩ : ∃ k : Nat, k < m ∧ mag place % (m : Int) = k := by
              have h1 := Int.emod_nonneg (mag place) (b := (m : Int)) (by omega)
              have h2 := Int.emod_lt_of_pos (mag place) (b := (m : Int)) (by omega)
              exact ⟨(mag place % (m : Int)).toNat, by omega, by omega⟩
            have hk2 : (mag place).tmod (m : Int) = k := by rw [Int.tmod_eq_emod_of_nonneg hmp]; exact hk1
            have hr71 := HR71.out (by omega); have hr72 := HR72.out (by omega)
            have hks : k < ((l.take 60).map normG).length := by have := HL6.out; omega
            obtain ⟨x, hx⟩ : ∃ x, ((l.take 60).map normG)[k]? = some x := ⟨_, List.getElem?_eq_getElem hks⟩
            have hall := norm_all (l.take 60)
            generalize (l.take 60).map normG = ls at *
            have hH := mag_mod hgt 1152921504606846976 (by decide)
            have hR := mag_mod rnd 1073741824 (by decide)
            have hPt := mag_mod b.parts 1073741824 (by decide)
            generalize mag hgt % 1152921504606846976 = H at *
            generalize mag rnd % 1073741824 = R at *
            have hgood : Bk.good ⟨b.S, b.sc, b.sum, mag b.parts % 1073741824, b.R, b.rc, b.root⟩ := by
              rcases HW.out with ⟨h1, h2, h3⟩ | ⟨h1, h2, h3⟩
              · exact .inl ⟨h1, by show mag b.parts % 1073741824 = 0; rw [h2]; rfl, h3⟩
              · exact .inr ⟨h1, h2, by show 0 ≤ mag b.parts % 1073741824; omega, by show mag b.parts % 1073741824 ≤ 4294967295; omega⟩
            have hw7 : MsgS w g7 x (H, R) k A1 c1 A2 c2 m ls ⟨b.S, b.sc, b.sum, mag b.parts % 1073741824, b.R, b.rc, b.root⟩ w7 := ⟨HST.out.1, HST.out.2.1, HST.out.2.2.1, hr71, hr72, HBB7.out, hx⟩
            have hfacts : MsgK (H, R) chain k m ls ⟨b.S, b.sc, b.sum, mag b.parts % 1073741824, b.R, b.rc, b.root⟩ := ⟨by omega, by omega, by omega, by omega, hgood, hall, hkm⟩
            generalize mag b.parts % 1073741824 = PT at *
            have HW7 := Lib.hid hw7; have HFK := Lib.hid hfacts
            clear hw7 hfacts hgood hall hx hr71 hr72 HST HR71 HR72 HBB7 HL6 hH hR hPt
            go_upto_region 9 with fail
            clear s5 hl6 hl67 hmp hmm hk1 hk2 d1
            refine wp_region_facts [.is (.string chain), .is (.agg #[.int .i64 H, .int .i64 R, .slice b.S b.sum.length b.sc, .int .i64 PT, .slice b.R b.root.length b.rc, .slice A1 m c1]), .is (.int .i64 k), .row (msgOf (bodyOf chain.data.toList H R (idOf x.flag ⟨b.S, b.sc, b.sum, PT, b.R, b.rc, b.root⟩) x.sec x.nan)), .is (.string ⟨(msgOf (bodyOf chain.data.toList H R (idOf x.flag ⟨b.S, b.sc, b.sum, PT, b.R, b.rc, b.root⟩) x.sec x.nan)).toArray⟩), .is (.string chain), .is (.agg #[.int .i64 H, .int .i64 R, .slice b.S b.sum.length b.sc, .int .i64 PT, .slice b.R b.root.length b.rc, .slice A2 m c2]), .is (.int .i64 k), .row (msgOf (bodyOf chain.data.toList H R (idOf x.flag ⟨b.S, b.sc, b.sum, PT, b.R, b.rc, b.root⟩) x.sec x.nan)), .is (.string ⟨(msgOf (bodyOf chain.data.toList H R (idOf x.flag ⟨b.S, b.sc, b.sum, PT, b.R, b.rc, b.root⟩) x.sec x.nan)).toArray⟩), .is (.bool true), .is (.bool true)] (MsgS w g7 x (H, R) k A1 c1 A2 c2 m ls ⟨b.S, b.sc, b.sum, PT, b.R, b.rc, b.root⟩) (by kernel_rfl) (by kernel_rfl) HW7.out.drew ?_ ?_
            · intro i o
              match i with
              | 0 =>
                intro ho vs w4 hS4 hD
                obtain rfl := Option.some.inj ho
                simp only [putL, Act.put, List.setIfInBounds_toArray, List.set_cons_zero, List.set_cons_succ, Nat.zero_add, Nat.reduceAdd]
                go_simp
                exact Step.of _ rfl (rfl) hS4 (Below.refl _ _)
              | 1 =>
                intro ho vs w4 hS4 hD
                obtain rfl := Option.some.inj ho
                have q : ∀ i, w4.cell? ⟨w.heap.size, i, none⟩ = (#[.int .i64 H, .int .i64 R, .slice b.S b.sum.length b.sc, .int .i64 PT, .slice b.R b.root.length b.rc, .slice A1 m c1] : Array Value)[i]? := fun i => hS4.com.cell i
                simp only [putL, Act.put, List.setIfInBounds_toArray, List.set_cons_zero, List.set_cons_succ, Nat.zero_add, Nat.reduceAdd]
                go_simp
                exact Step.of _ rfl (rfl) hS4 (Below.refl _ _)
              | 2 =>
                intro ho vs w4 hS4 hD
                obtain rfl := Option.some.inj ho
                simp only [putL, Act.put, List.setIfInBounds_toArray, List.set_cons_zero, List.set_cons_succ, Nat.zero_add, Nat.reduceAdd]
                go_simp
                exact Step.of _ rfl (rfl) hS4 (Below.refl _ _)
              | 3 =>
                intro ho vs w4 hS4 hD
                obtain rfl := Option.some.inj ho
                have d0 := hD 0 (by kernel_rfl) (by kernel_rfl)
                change vs 0 = _ at d0
                have d1 := hD 1 (by kernel_rfl) (by kernel_rfl)
                change vs 1 = _ at d1
                have d2 := hD 2 (by kernel_rfl) (by kernel_rfl)
                change vs 2 = _ at d2
                simp only [putL, Act.put, List.setIfInBounds_toArray, List.set_cons_zero, List.set_cons_succ, Nat.zero_add, Nat.reduceAdd]
                go_simp
                refine (imessage_any chain H R ⟨b.S, b.sc, b.sum, PT, b.R, b.rc, b.root⟩ A1 m c1 ls k x w4 hS4.row (by have := HFK.out.m60; omega) hS4.at_ (by have := HFK.out.rr; simp only at this; omega) HFK.out.all HFK.out.good hS4.blk (by have := HFK.out.hh; simp only at this; unfold in64'; omega) HFK.out.cc).mono ?_
                rintro e w5 ⟨A', m', c', rfl, ho', hb'⟩
                exact Step.of _ rfl ⟨A', m', c', rfl, ho'.rd⟩ (hS4.call hb') hb'
              | 4 =>
                intro ho vs w4 hS4 hD
                obtain rfl := Option.some.inj ho
                have d3 := hD 3 (by kernel_rfl) (by kernel_rfl)
                refine Shut.out ?_
                obtain ⟨A3', m3', c3', e3, r3⟩ : ∃ A m c, vs 3 = .slice A m c ∧ Rd w4 w4.heap.size 1 A m (bc (msgOf (bodyOf chain.data.toList H R (idOf x.flag ⟨b.S, b.sc, b.sum, PT, b.R, b.rc, b.root⟩) x.sec x.nan))) := d3
                refine ⟨?_⟩
                have hcv := rd_back (c := c3') r3 (msgOf_pos _)
                simp only [putL, Act.put, List.setIfInBounds_toArray, List.set_cons_zero, List.set_cons_succ, Nat.zero_add, Nat.reduceAdd]
                go_simp
                exact Step.of _ rfl (rfl) hS4 (Below.refl _ _)
              | 5 =>
                intro ho vs w4 hS4 hD
                obtain rfl := Option.some.inj ho
                simp only [putL, Act.put, List.setIfInBounds_toArray, List.set_cons_zero, List.set_cons_succ, Nat.zero_add, Nat.reduceAdd]
                go_simp
                exact Step.of _ rfl (rfl) hS4 (Below.refl _ _)
              | 6 =>
                intro ho vs w4 hS4 hD
                obtain rfl := Option.some.inj ho
                have q : ∀ i, w4.cell? ⟨g7, i, none⟩ = (#[.int .i64 H, .int .i64 R, .slice b.S b.sum.length b.sc, .int .i64 PT, .slice b.R b.root.length b.rc, .slice A2 m c2] : Array Value)[i]? := fun i => hS4.ref.cell i
                simp only [putL, Act.put, List.setIfInBounds_toArray, List.set_cons_zero, List.set_cons_succ, Nat.zero_add, Nat.reduceAdd]
                go_simp
                exact Step.of _ rfl (rfl) hS4 (Below.refl _ _)
              | 7 =>
                intro ho vs w4 hS4 hD
                obtain rfl := Option.some.inj ho
                simp only [putL, Act.put, List.setIfInBounds_toArray, List.set_cons_zero, List.set_cons_succ, Nat.zero_add, Nat.reduceAdd]
                go_simp
                exact Step.of _ rfl (rfl) hS4 (Below.refl _ _)
              | 8 =>
                intro ho vs w4 hS4 hD
                obtain rfl := Option.some.inj ho
                have d5 := hD 5 (by kernel_rfl) (by kernel_rfl)
                change vs 5 = _ at d5
                have d6 := hD 6 (by kernel_rfl) (by kernel_rfl)
                change vs 6 = _ at d6
                have d7 := hD 7 (by kernel_rfl) (by kernel_rfl)
                change vs 7 = _ at d7
                have hx := HFK.out.all _ (List.mem_of_getElem? hS4.at_)
                simp only [putL, Act.put, List.setIfInBounds_toArray, List.set_cons_zero, List.set_cons_succ, Nat.zero_add, Nat.reduceAdd]
                go_simp
                refine (smessage_any chain H R ⟨b.S, b.sc, b.sum, PT, b.R, b.rc, b.root⟩ A2 m c2 ls k x w4 hS4.blk hS4.row2 hS4.at_ (by have := HFK.out.hh; simp only at this; unfold in64'; omega) (by have := HFK.out.rr; simp only at this; unfold in64'; omega) (good_parts HFK.out.good) (by unfold in64'; omega) (by unfold in64'; omega) (good_sum HFK.out.good) (good_root HFK.out.good) HFK.out.cc HFK.out.km (by have := HFK.out.m60; omega)).mono ?_
                rintro e w5 ⟨A', m', c', rfl, ho', hb'⟩
                exact Step.of _ rfl ⟨A', m', c', rfl, ho'.rd⟩ (hS4.call hb') hb'
              | 9 =>
                intro ho vs w4 hS4 hD
                obtain rfl := Option.some.inj ho
                have d8 := hD 8 (by kernel_rfl) (by kernel_rfl)
                refine Shut.out ?_
                obtain ⟨A8', m8', c8', e8, r8⟩ : ∃ A m c, vs 8 = .slice A m c ∧ Rd w4 w4.heap.size 1 A m (bc (msgOf (bodyOf chain.data.toList H R (idOf x.flag ⟨b.S, b.sc, b.sum, PT, b.R, b.rc, b.root⟩) x.sec x.nan))) := d8
                refine ⟨?_⟩
                have hcv := rd_back (c := c8') r8 (msgOf_pos _)
                simp only [putL, Act.put, List.setIfInBounds_toArray, List.set_cons_zero, List.set_cons_succ, Nat.zero_add, Nat.reduceAdd]
                go_simp
                exact Step.of _ rfl (rfl) hS4 (Below.refl _ _)
              | 10 =>
                intro ho vs w4 hS4 hD
                obtain rfl := Option.some.inj ho
                have d4 := hD 4 (by kernel_rfl) (by kernel_rfl)
                change vs 4 = _ at d4
                have d9 := hD 9 (by kernel_rfl) (by kernel_rfl)
                change vs 9 = _ at d9
                simp only [putL, Act.put, List.setIfInBounds_toArray, List.set_cons_zero, List.set_cons_succ, Nat.zero_add, Nat.reduceAdd]
                go_simp
                exact Step.of _ rfl (rfl) hS4 (Below.refl _ _)
              | 11 =>
                intro ho vs w4 hS4 hD
                obtain rfl := Option.some.inj ho
                have d10 := hD 10 (by kernel_rfl) (by kernel_rfl)
                change vs 10 = _ at d10
                simp only [putL, Act.put, List.setIfInBounds_toArray, List.set_cons_zero, List.set_cons_succ, Nat.zero_add, Nat.reduceAdd]
                go_simp
                exact Step.of _ rfl (rfl) hS4 (Below.refl _ _)
              | j + 12 => intro ho; simp at ho
            · intro vs w4 hS4 hF
              have d11 := hF 11 _ _ rfl rfl
              change vs 11 = _ at d11
              simp only [putL, Act.put, List.setIfInBounds_toArray, List.set_cons_zero, List.set_cons_succ, Nat.zero_add, Nat.reduceAdd]
              rw [d11]
              have HS4 := Lib.hid hS4; clear hS4 hF d11
              go_wp2
              go_ret
              exact ⟨rfl, HS4.out.below⟩
      · have he : (0 < b.sum.length) ∨ ((¬ 0 < b.sum.length) ∧ (b.parts != 0) = true) ∨ ((¬ 0 < b.sum.length) ∧ (b.parts != 0) = false ∧ 0 < b.root.length) := by
          by_cases h1 : 0 < b.sum.length
          · exact .inl h1
          · by_cases h2 : b.parts = 0
            · exact .inr (.inr ⟨h1, by rw [h2]; rfl, by omega⟩)
            · exact .inr (.inl ⟨h1, by rw [bne_iff_ne]; exact h2⟩)
        have KW := Lib.hid (fun W hb => whole_any b W hb HN31.out.1 HN31.out.2.1 HF.out.blk.parts)
        clear hz
        rcases he with e1 | ⟨e1, e2⟩ | ⟨e1, e2, e3⟩
        all_goals
          go_wp2_with fail
          refine (KW.out _ (HBK.out.below HS1.out.2)).mono ?_
          rintro e w2 ⟨bb, rfl, g1, g2, g3, hbb, hb2⟩
          have hmg := mag_pos b.parts
          have HW : Hid ((bb.sum.length = 0 ∧ bb.parts = 0 ∧ bb.root.length = 0) ∨ (bb.sum.length = 32 ∧ bb.root.length = 32 ∧ 1 ≤ bb.parts ∧ bb.parts ≤ 100000)) := .inr ⟨g1, g2, by omega, by omega⟩
          have hs2 := HS1.out.call hb2
          have r : ∀ i, w2.cell? ⟨w.heap.size, i, none⟩ = (#[.int .i64 hgt, .int .i64 rnd, .slice b.S b.sum.length b.sc, .int .i64 b.parts, .slice b.R b.root.length b.rc, .slice A n c] : Array Value)[i]? := fun i => hs2.1.cell i
          have f : ∀ i, w2.frozen? ⟨w.heap.size, i, none⟩ = false := fun i => hs2.1.free i
          have HS2 := Lib.hid hs2; have HBB2 := Lib.hid hbb
          clear q0 q1 q2 q3 q4 q5 g1 g2 g3 hmg hbb hb2 hs2 KW HS1
          go_upto_region 5 with fail
          have hs5 : SB w.heap.size w 27 #[.int .i64 hgt, .int .i64 rnd, .slice bb.S bb.sum.length bb.sc, .int .i64 bb.parts, .slice bb.R bb.root.length bb.rc, .slice A n c] (((w2.setCell ⟨w.heap.size, 2, none⟩ (.slice bb.S bb.sum.length bb.sc)).setCell ⟨w.heap.size, 3, none⟩ (.int .i64 bb.parts)).setCell ⟨w.heap.size, 4, none⟩ (.slice bb.R bb.root.length bb.rc)) :=
            ⟨by simpa using ((HS2.out.1.put 2 (.slice bb.S bb.sum.length bb.sc)).put 3 (.int .i64 bb.parts)).put 4 (.slice bb.R bb.root.length bb.rc), ((HS2.out.2.setCell (p := ⟨w.heap.size, 2, none⟩) (Nat.le_refl _) _).setCell (p := ⟨w.heap.size, 3, none⟩) (Nat.le_refl _) _).setCell (p := ⟨w.heap.size, 4, none⟩) (Nat.le_refl _) _⟩
          have ho5 : Other w.heap.size w2 (((w2.setCell ⟨w.heap.size, 2, none⟩ (.slice bb.S bb.sum.length bb.sc)).setCell ⟨w.heap.size, 3, none⟩ (.int .i64 bb.parts)).setCell ⟨w.heap.size, 4, none⟩ (.slice bb.R bb.root.length bb.rc)) := (((Other.refl _ _).set 2 _).set 3 _).set 4 _
          have HBB := Lib.hid (Bk.ok.other HBB2.out HS2.out.1 HW.out ho5)
          have HS5 := Lib.hid hs5
          clear hs5 ho5 r f
          generalize (((w2.setCell ⟨w.heap.size, 2, none⟩ (.slice bb.S bb.sum.length bb.sc)).setCell ⟨w.heap.size, 3, none⟩ (.int .i64 bb.parts)).setCell ⟨w.heap.size, 4, none⟩ (.slice bb.R bb.root.length bb.rc)) = w5 at HBB HS5 ⊢
          have h5 := HS5.out.1
          have r : ∀ i, w5.cell? ⟨w.heap.size, i, none⟩ = (#[.int .i64 hgt, .int .i64 rnd, .slice bb.S bb.sum.length bb.sc, .int .i64 bb.parts, .slice bb.R bb.root.length bb.rc, .slice A n c] : Array Value)[i]? := fun i => h5.cell i
          clear h5 HS2 HBB2
          have KL := Lib.hid (lcommit_any hgt rnd bb A n c l w5 ((HR.out.below HS5.out.2).more HS5.out.2.size) hcap.1 HN31.out.2.2 HF.out.height HF.out.round (by rcases HW.out with h | h <;> omega) HF.out.signs)
          go_wp2_with fail
          refine KL.out.mono ?_
          rintro e w6 ⟨A1, c1, A2, c2, m, rfl, hm60, hr1, hr2, hb6⟩
          have hs6 := HS5.out.call hb6
          have HS6 := Lib.hid hs6; have HR1 := Lib.hid hr1; have HR2 := Lib.hid hr2; have HBB6 := Lib.hid (HBB.out.below hb6); have HM := Lib.hid hm60
          have r : ∀ i, w6.cell? ⟨w.heap.size, i, none⟩ = (#[.int .i64 hgt, .int .i64 rnd, .slice bb.S bb.sum.length bb.sc, .int .i64 bb.parts, .slice bb.R bb.root.length bb.rc, .slice A n c] : Array Value)[i]? := fun i => hs6.1.cell i
          have f : ∀ i, w6.frozen? ⟨w.heap.size, i, none⟩ = false := fun i => hs6.1.free i
          have hl6 : w.heap.size < w6.heap.size := hs6.1.lt
          clear hr1 hr2 hb6 hs6 HS5 HBB KL
          go_upto_region 6 with fail
          have hst := storedW_facts (t := 33) (u0 := .int .i64 (mag hgt % 1152921504606846976)) (u1 := .int .i64 (mag rnd % 1073741824)) (u2 := .slice bb.S bb.sum.length bb.sc) (u3 := .int .i64 (mag bb.parts % 1073741824)) (u4 := .slice bb.R bb.root.length bb.rc) (u5 := .slice A1 m c1) (v0 := .int .i64 (mag hgt % 1152921504606846976)) (v1 := .int .i64 (mag rnd % 1073741824)) (v2 := .slice bb.S bb.sum.length bb.sc) (v3 := .int .i64 (mag bb.parts % 1073741824)) (v4 := .slice bb.R bb.root.length bb.rc) (v5 := .slice A2 m c2) HS6.out
          change Code.wp _ _ _ _ (storedW w6 33 w.heap.size (.int .i64 (mag hgt % 1152921504606846976)) (.int .i64 (mag rnd % 1073741824)) (.slice bb.S bb.sum.length bb.sc) (.int .i64 (mag bb.parts % 1073741824)) (.slice bb.R bb.root.length bb.rc) (.slice A1 m c1) (.int .i64 (mag hgt % 1152921504606846976)) (.int .i64 (mag rnd % 1073741824)) (.slice bb.S bb.sum.length bb.sc) (.int .i64 (mag bb.parts % 1073741824)) (.slice bb.R bb.root.length bb.rc) (.slice A2 m c2))
          have hbb7 := Bk.ok.other HBB6.out HS6.out.1 HW.out hst.2.2.2
          have hr1 : 0 < m → Rd _ _ 5 A1 m (signsOf ((l.take 60).map normG)) := fun h => Rd.other HR1.out hst.2.2.2 (Nat.le_refl _) (signs_not_in HR1.out HS6.out.1 h)
          have hr2 : 0 < m → Rd _ _ 5 A2 m (signsOf ((l.take 60).map normG)) := fun h => Rd.other HR2.out hst.2.2.2 (Nat.le_refl _) (signs_not_in HR2.out HS6.out.1 h)
          have hlen6 := HR1.out.slen
          have HST := Lib.hid hst; have HBB7 := Lib.hid hbb7; have HR71 := Lib.hid hr1; have HR72 := Lib.hid hr2; have HL6 := Lib.hid hlen6
          have hl67 : w6.heap.size < (storedW w6 33 w.heap.size (.int .i64 (mag hgt % 1152921504606846976)) (.int .i64 (mag rnd % 1073741824)) (.slice bb.S bb.sum.length bb.sc) (.int .i64 (mag bb.parts % 1073741824)) (.slice bb.R bb.root.length bb.rc) (.slice A1 m c1) (.int .i64 (mag hgt % 1152921504606846976)) (.int .i64 (mag rnd % 1073741824)) (.slice bb.S bb.sum.length bb.sc) (.int .i64 (mag bb.parts % 1073741824)) (.slice bb.R bb.root.length bb.rc) (.slice A2 m c2)).heap.size := hst.2.1.lt
          clear hst hbb7 hr1 hr2 hlen6 HR1 HR2 HBB6 HS6 r f
          generalize (storedW w6 33 w.heap.size (.int .i64 (mag hgt % 1152921504606846976)) (.int .i64 (mag rnd % 1073741824)) (.slice bb.S bb.sum.length bb.sc) (.int .i64 (mag bb.parts % 1073741824)) (.slice bb.R bb.root.length bb.rc) (.slice A1 m c1) (.int .i64 (mag hgt % 1152921504606846976)) (.int .i64 (mag rnd % 1073741824)) (.slice bb.S bb.sum.length bb.sc) (.int .i64 (mag bb.parts % 1073741824)) (.slice bb.R bb.root.length bb.rc) (.slice A2 m c2)) = w7 at *
          generalize w6.heap.size = g7 at *
          have s5 : w7.cell? ⟨w.heap.size, 5, none⟩ = some (.slice A1 m c1) := HST.out.1.cell 5
          by_cases hm0 : m = 0
          · have d1 : ((m : Int) == 0) = true := by simp [hm0]
            go_wp2
            go_ret
            exact ⟨rfl, HST.out.2.2.1⟩
          · have d1 : ((m : Int) == 0) = false := by simp [hm0]
            by_cases hc200 : chain.size > 200
            · go_wp2
              go_ret
              exact ⟨rfl, HST.out.2.2.1⟩
            · have hmp := mag_pos place
              have hmm := mag_max HP.out
              obtain ⟨k, hkm, hk1⟩ : ∃ k : Nat, k < m ∧ mag place % (m : Int) = k := by
                have h1 := Int.emod_nonneg (mag place) (b := (m : Int)) (by omega)
                have h2 := Int.emod_lt_of_pos (mag place) (b := (m : Int)) (by omega)
                exact ⟨(mag place % (m : Int)).toNat, by omega, by omega⟩
              have hk2 : (mag place).tmod (m : Int) = k := by rw [Int.tmod_eq_emod_of_nonneg hmp]; exact hk1
              have hr71 := HR71.out (by omega); have hr72 := HR72.out (by omega)
              have hks : k < ((l.take 60).map normG).length := by have := HL6.out; omega
              obtain ⟨x, hx⟩ : ∃ x, ((l.take 60).map normG)[k]? = some x := ⟨_, List.getElem?_eq_getElem hks⟩
              have hall := norm_all (l.take 60)
              generalize (l.take 60).map normG = ls at *
              have hH := mag_mod hgt 1152921504606846976 (by decide)
              have hR := mag_mod rnd 1073741824 (by decide)
              have hPt := mag_mod bb.parts 1073741824 (by decide)
              generalize mag hgt % 1152921504606846976 = H at *
              generalize mag rnd % 1073741824 = R at *
              have hgood : Bk.good ⟨bb.S, bb.sc, bb.sum, mag bb.parts % 1073741824, bb.R, bb.rc, bb.root⟩ := by
                rcases HW.out with ⟨h1, h2, h3⟩ | ⟨h1, h2, h3⟩
                · exact .inl ⟨h1, by show mag bb.parts % 1073741824 = 0; rw [h2]; rfl, h3⟩
                · exact .inr ⟨h1, h2, by show 0 ≤ mag bb.parts % 1073741824; omega, by show mag bb.parts % 1073741824 ≤ 4294967295; omega⟩
              have hw7 : MsgS w g7 x (H, R) k A1 c1 A2 c2 m ls ⟨bb.S, bb.sc, bb.sum, mag bb.parts % 1073741824, bb.R, bb.rc, bb.root⟩ w7 := ⟨HST.out.1, HST.out.2.1, HST.out.2.2.1, hr71, hr72, HBB7.out, hx⟩
              have hfacts : MsgK (H, R) chain k m ls ⟨bb.S, bb.sc, bb.sum, mag bb.parts % 1073741824, bb.R, bb.rc, bb.root⟩ := ⟨by omega, by omega, by omega, by omega, hgood, hall, hkm⟩
              generalize mag bb.parts % 1073741824 = PT at *
              have HW7 := Lib.hid hw7; have HFK := Lib.hid hfacts
              clear hw7 hfacts hgood hall hx hr71 hr72 HST HR71 HR72 HBB7 HL6 hH hR hPt
              go_upto_region 9 with fail
              clear s5 hl6 hl67 hmp hmm hk1 hk2 d1
              refine wp_region_facts [.is (.string chain), .is (.agg #[.int .i64 H, .int .i64 R, .slice bb.S bb.sum.length bb.sc, .int .i64 PT, .slice bb.R bb.root.length bb.rc, .slice A1 m c1]), .is (.int .i64 k), .row (msgOf (bodyOf chain.data.toList H R (idOf x.flag ⟨bb.S, bb.sc, bb.sum, PT, bb.R, bb.rc, bb.root⟩) x.sec x.nan)), .is (.string ⟨(msgOf (bodyOf chain.data.toList H R (idOf x.flag ⟨bb.S, bb.sc, bb.sum, PT, bb.R, bb.rc, bb.root⟩) x.sec x.nan)).toArray⟩), .is (.string chain), .is (.agg #[.int .i64 H, .int .i64 R, .slice bb.S bb.sum.length bb.sc, .int .i64 PT, .slice bb.R bb.root.length bb.rc, .slice A2 m c2]), .is (.int .i64 k), .row (msgOf (bodyOf chain.data.toList H R (idOf x.flag ⟨bb.S, bb.sc, bb.sum, PT, bb.R, bb.rc, bb.root⟩) x.sec x.nan)), .is (.string ⟨(msgOf (bodyOf chain.data.toList H R (idOf x.flag ⟨bb.S, bb.sc, bb.sum, PT, bb.R, bb.rc, bb.root⟩) x.sec x.nan)).toArray⟩), .is (.bool true), .is (.bool true)] (MsgS w g7 x (H, R) k A1 c1 A2 c2 m ls ⟨bb.S, bb.sc, bb.sum, PT, bb.R, bb.rc, bb.root⟩) (by kernel_rfl) (by kernel_rfl) HW7.out.drew ?_ ?_
              · intro i o
                match i with
                | 0 =>
                  intro ho vs w4 hS4 hD
                  obtain rfl := Option.some.inj ho
                  simp only [putL, Act.put, List.setIfInBounds_toArray, List.set_cons_zero, List.set_cons_succ, Nat.zero_add, Nat.reduceAdd]
                  go_simp
                  exact Step.of _ rfl (rfl) hS4 (Below.refl _ _)
                | 1 =>
                  intro ho vs w4 hS4 hD
                  obtain rfl := Option.some.inj ho
                  have q : ∀ i, w4.cell? ⟨w.heap.size, i, none⟩ = (#[.int .i64 H, .int .i64 R, .slice bb.S bb.sum.length bb.sc, .int .i64 PT, .slice bb.R bb.root.length bb.rc, .slice A1 m c1] : Array Value)[i]? := fun i => hS4.com.cell i
                  simp only [putL, Act.put, List.setIfInBounds_toArray, List.set_cons_zero, List.set_cons_succ, Nat.zero_add, Nat.reduceAdd]
                  go_simp
                  exact Step.of _ rfl (rfl) hS4 (Below.refl _ _)
                | 2 =>
                  intro ho vs w4 hS4 hD
                  obtain rfl := Option.some.inj ho
                  simp only [putL, Act.put, List.setIfInBounds_toArray, List.set_cons_zero, List.set_cons_succ, Nat.zero_add, Nat.reduceAdd]
                  go_simp
                  exact Step.of _ rfl (rfl) hS4 (Below.refl _ _)
                | 3 =>
                  intro ho vs w4 hS4 hD
                  obtain rfl := Option.some.inj ho
                  have d0 := hD 0 (by kernel_rfl) (by kernel_rfl)
                  change vs 0 = _ at d0
                  have d1 := hD 1 (by kernel_rfl) (by kernel_rfl)
                  change vs 1 = _ at d1
                  have d2 := hD 2 (by kernel_rfl) (by kernel_rfl)
                  change vs 2 = _ at d2
                  simp only [putL, Act.put, List.setIfInBounds_toArray, List.set_cons_zero, List.set_cons_succ, Nat.zero_add, Nat.reduceAdd]
                  go_simp
                  refine (imessage_any chain H R ⟨bb.S, bb.sc, bb.sum, PT, bb.R, bb.rc, bb.root⟩ A1 m c1 ls k x w4 hS4.row (by have := HFK.out.m60; omega) hS4.at_ (by have := HFK.out.rr; simp only at this; omega) HFK.out.all HFK.out.good hS4.blk (by have := HFK.out.hh; simp only at this; unfold in64'; omega) HFK.out.cc).mono ?_
                  rintro e w5 ⟨A', m', c', rfl, ho', hb'⟩
                  exact Step.of _ rfl ⟨A', m', c', rfl, ho'.rd⟩ (hS4.call hb') hb'
                | 4 =>
                  intro ho vs w4 hS4 hD
                  obtain rfl := Option.some.inj ho
                  have d3 := hD 3 (by kernel_rfl) (by kernel_rfl)
                  refine Shut.out ?_
                  obtain ⟨A3', m3', c3', e3, r3⟩ : ∃ A m c, vs 3 = .slice A m c ∧ Rd w4 w4.heap.size 1 A m (bc (msgOf (bodyOf chain.data.toList H R (idOf x.flag ⟨bb.S, bb.sc, bb.sum, PT, bb.R, bb.rc, bb.root⟩) x.sec x.nan))) := d3
                  refine ⟨?_⟩
                  have hcv := rd_back (c := c3') r3 (msgOf_pos _)
                  simp only [putL, Act.put, List.setIfInBounds_toArray, List.set_cons_zero, List.set_cons_succ, Nat.zero_add, Nat.reduceAdd]
                  go_simp
                  exact Step.of _ rfl (rfl) hS4 (Below.refl _ _)
                | 5 =>
                  intro ho vs w4 hS4 hD
                  obtain rfl := Option.some.inj ho
                  simp only [putL, Act.put, List.setIfInBounds_toArray, List.set_cons_zero, List.set_cons_succ, Nat.zero_add, Nat.reduceAdd]
                  go_simp
                  exact Step.of _ rfl (rfl) hS4 (Below.refl _ _)
                | 6 =>
                  intro ho vs w4 hS4 hD
                  obtain rfl := Option.some.inj ho
                  have q : ∀ i, w4.cell? ⟨g7, i, none⟩ = (#[.int .i64 H, .int .i64 R, .slice bb.S bb.sum.length bb.sc, .int .i64 PT, .slice bb.R bb.root.length bb.rc, .slice A2 m c2] : Array Value)[i]? := fun i => hS4.ref.cell i
                  simp only [putL, Act.put, List.setIfInBounds_toArray, List.set_cons_zero, List.set_cons_succ, Nat.zero_add, Nat.reduceAdd]
                  go_simp
                  exact Step.of _ rfl (rfl) hS4 (Below.refl _ _)
                | 7 =>
                  intro ho vs w4 hS4 hD
                  obtain rfl := Option.some.inj ho
                  simp only [putL, Act.put, List.setIfInBounds_toArray, List.set_cons_zero, List.set_cons_succ, Nat.zero_add, Nat.reduceAdd]
                  go_simp
                  exact Step.of _ rfl (rfl) hS4 (Below.refl _ _)
                | 8 =>
                  intro ho vs w4 hS4 hD
                  obtain rfl := Option.some.inj ho
                  have d5 := hD 5 (by kernel_rfl) (by kernel_rfl)
                  change vs 5 = _ at d5
                  have d6 := hD 6 (by kernel_rfl) (by kernel_rfl)
                  change vs 6 = _ at d6
                  have d7 := hD 7 (by kernel_rfl) (by kernel_rfl)
                  change vs 7 = _ at d7
                  have hx := HFK.out.all _ (List.mem_of_getElem? hS4.at_)
                  simp only [putL, Act.put, List.setIfInBounds_toArray, List.set_cons_zero, List.set_cons_succ, Nat.zero_add, Nat.reduceAdd]
                  go_simp
                  refine (smessage_any chain H R ⟨bb.S, bb.sc, bb.sum, PT, bb.R, bb.rc, bb.root⟩ A2 m c2 ls k x w4 hS4.blk hS4.row2 hS4.at_ (by have := HFK.out.hh; simp only at this; unfold in64'; omega) (by have := HFK.out.rr; simp only at this; unfold in64'; omega) (good_parts HFK.out.good) (by unfold in64'; omega) (by unfold in64'; omega) (good_sum HFK.out.good) (good_root HFK.out.good) HFK.out.cc HFK.out.km (by have := HFK.out.m60; omega)).mono ?_
                  rintro e w5 ⟨A', m', c', rfl, ho', hb'⟩
                  exact Step.of _ rfl ⟨A', m', c', rfl, ho'.rd⟩ (hS4.call hb') hb'
                | 9 =>
                  intro ho vs w4 hS4 hD
                  obtain rfl := Option.some.inj ho
                  have d8 := hD 8 (by kernel_rfl) (by kernel_rfl)
                  refine Shut.out ?_
                  obtain ⟨A8', m8', c8', e8, r8⟩ : ∃ A m c, vs 8 = .slice A m c ∧ Rd w4 w4.heap.size 1 A m (bc (msgOf (bodyOf chain.data.toList H R (idOf x.flag ⟨bb.S, bb.sc, bb.sum, PT, bb.R, bb.rc, bb.root⟩) x.sec x.nan))) := d8
                  refine ⟨?_⟩
                  have hcv := rd_back (c := c8') r8 (msgOf_pos _)
                  simp only [putL, Act.put, List.setIfInBounds_toArray, List.set_cons_zero, List.set_cons_succ, Nat.zero_add, Nat.reduceAdd]
                  go_simp
                  exact Step.of _ rfl (rfl) hS4 (Below.refl _ _)
                | 10 =>
                  intro ho vs w4 hS4 hD
                  obtain rfl := Option.some.inj ho
                  have d4 := hD 4 (by kernel_rfl) (by kernel_rfl)
                  change vs 4 = _ at d4
                  have d9 := hD 9 (by kernel_rfl) (by kernel_rfl)
                  change vs 9 = _ at d9
                  simp only [putL, Act.put, List.setIfInBounds_toArray, List.set_cons_zero, List.set_cons_succ, Nat.zero_add, Nat.reduceAdd]
                  go_simp
                  exact Step.of _ rfl (rfl) hS4 (Below.refl _ _)
                | 11 =>
                  intro ho vs w4 hS4 hD
                  obtain rfl := Option.some.inj ho
                  have d10 := hD 10 (by kernel_rfl) (by kernel_rfl)
                  change vs 10 = _ at d10
                  simp only [putL, Act.put, List.setIfInBounds_toArray, List.set_cons_zero, List.set_cons_succ, Nat.zero_add, Nat.reduceAdd]
                  go_simp
                  exact Step.of _ rfl (rfl) hS4 (Below.refl _ _)
                | j + 12 => intro ho; simp at ho
              · intro vs w4 hS4 hF
                have d11 := hF 11 _ _ rfl rfl
                change vs 11 = _ at d11
                simp only [putL, Act.put, List.setIfInBounds_toArray, List.set_cons_zero, List.set_cons_succ, Nat.zero_add, Nat.reduceAdd]
                rw [d11]
                have HS4 := Lib.hid hS4; clear hS4 hF d11
                go_wp2
                go_ret
                exact ⟨rfl, HS4.out.below⟩
end Go.Proofs.Ytikikddkhikfkaa
