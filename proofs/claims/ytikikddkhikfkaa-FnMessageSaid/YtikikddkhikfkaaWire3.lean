/-
  What is signed, as the reference has it (spec.Message): the walk. By the session.
-/
import Derived.Test.YtikikddkhikfkaaWire2
import Derived.Test.YtikikddkhikfkaaFacts
set_option linter.all false
namespace Go.Proofs.Ytikikddkhikfkaa
open Go.RowKit

/-- the world behind so much: two boxed variables, one behind the other, hold what they held -/
def SB2 (N : Nat) (w : World) (t : TypeId) (cs : Array Value) (t2 : TypeId) (cs2 : Array Value) (w' : World) : Prop := Blk w' N t cs ∧ Blk w' (N + 1) t2 cs2 ∧ Below N w w'
theorem SB2.call {N : Nat} {w w1 w2 : World} {t t2 : TypeId} {cs cs2 : Array Value} (h : SB2 N w t cs t2 cs2 w1) (hb : Below w1.heap.size w1 w2) : SB2 N w t cs t2 cs2 w2 := ⟨h.1.belowS hb, h.2.1.belowS hb, h.2.2.trans (hb.mono (Nat.le_of_lt h.1.lt))⟩
theorem SB2.drew {N : Nat} {w w1 : World} {t t2 : TypeId} {cs cs2 : Array Value} (h : SB2 N w t cs t2 cs2 w1) : SB2 N w t cs t2 cs2 w1.drew := ⟨h.1.drew, h.2.1.drew, h.2.2.drew⟩
/-- slices put together -/
theorem joined_fact (ss : List (List UInt8)) (A : Option Addr) (c : Nat) (l : List Bs) (w : World) (h1 : l.map Bs.s = ss) (h2 : Rd w w.heap.size 1 A l.length (l.map Bs.val)) (h3 : ∀ b ∈ l, b.ok w) (hn : ss.length ≤ 100) (hs : ∀ s ∈ ss, s.length ≤ 2000000) :
    Calls Try.prog 32 #[.slice A l.length c] w fun e w' => ∃ A m c, e = .returned (.slice A m c) ∧ Own8 w' w.heap.size A m c ss.flatten ∧ Below w.heap.size w w' := by
  have hl : l.length = ss.length := by rw [← h1]; simp
  have h := joined_any l A l.length c w h2 h3 (by omega) (fun k => by
    have hb : ∀ (l : List Bs), (∀ b ∈ l, b.s.length ≤ 2000000) → (l.flatMap Bs.s).length ≤ l.length * 2000000 := by
      intro l
      induction l with
      | nil => intro _; simp
      | cons x r ih =>
        intro h
        have a := ih fun b hb => h b (List.mem_cons_of_mem _ hb)
        have b := h x (List.mem_cons_self ..)
        simp only [List.flatMap_cons, List.length_append, List.length_cons]; omega
    have h4 := hb (l.take k) (fun b hb => hs _ (by rw [← h1]; exact List.mem_map_of_mem (List.mem_of_mem_take hb)))
    have h5 := List.length_take_le k l
    have h6 : (l.take k).length ≤ l.length := List.length_take_le' k l
    omega)
  have e : joinB l = ss.flatten := by rw [← h1]; rfl
  rw [e] at h
  exact h
/-- the block that a conversion lays reads as the bytes -/
theorem Rd.conv (W : World) (s : ByteArray) (cap : Nat) (N : Nat) (hN : W.heap.size = N) : Rd (W.alloc (bObj s cap)) (N + 1) 1 (some ⟨N, 0, none⟩) s.size (bc s.data.toList) := by
  obtain ⟨g, e, _, hc⟩ := (Byt.conv W s cap N hN).cells
  cases e
  refine ⟨by rw [bc_length, Array.length_toList, Nat.mul_one]; rfl, fun j u hu => ⟨_, rfl, Nat.lt_succ_self _, ?_⟩⟩
  have hj : j < s.data.toList.length := by
    have := (List.getElem?_eq_some_iff.1 hu).1
    rw [bc_length] at this; exact this
  rw [add_flat, Nat.zero_add, hc j hj, ← hu]
  exact (bc_get (List.getElem?_eq_getElem hj)).symm

/-- what is signed, but for the number of bytes ahead of it -/
def bodyOf (chain : List UInt8) (h r : Int) (id : List UInt8) (sec nan : Int) : List UInt8 := [numB 1 2, fixB 2 (u64 h), fixB 3 (u64 r), id, msgB 5 (timeB sec nan), txtB 6 chain].flatten
theorem bodyOf_length (chain : List UInt8) (h r : Int) (id : List UInt8) (sec nan : Int) (h1 : chain.length ≤ 1000) (h2 : id.length ≤ 2100) : (bodyOf chain h r id sec nan).length ≤ 5000 := by
  have a := numB_length 1 2 (by omega)
  have b := fixB_length 2 (u64 h)
  have c := fixB_length 3 (u64 r)
  have t := timeB_length sec nan
  have d := msgB_length 5 (timeB sec nan) (by omega)
  have e := txtB_length 6 chain (by omega)
  unfold bodyOf
  simp only [List.flatten_cons, List.flatten_nil, List.length_append, List.length_nil]
  omega
def idOf (flag : Int) (b : Bk) : List UInt8 := if flag = 2 ∧ ¬ (b.sum.length = 0 ∧ b.parts = 0 ∧ b.root.length = 0) then msgB 4 (blockB b.sum b.parts b.root) else []
def msgOf (body : List UInt8) : List UInt8 := vi body.length ++ body
set_option maxRecDepth 100000 in
set_option maxHeartbeats 6400000 in
theorem smessage_any (chain : ByteArray) (hgt rnd : Int) (b : Bk) (A : Option Addr) (n c : Nat) (signs : List Sg) (k : Nat) (s : Sg) (w : World) (hxb : b.ok w w.heap.size) (hrow : Rd w w.heap.size 5 A n (signsOf signs)) (hk : signs[k]? = some s) (hh : in64' hgt) (hrd : in64' rnd) (hp : in64' b.parts) (ht : in64' s.sec) (hna : in64' s.nan)
    (hl1 : b.sum.length ≤ 1000) (hl2 : b.root.length ≤ 1000) (hl3 : chain.size ≤ 1000) (hkn : k < n) (hn60 : n ≤ 1000) :
    Calls Try.prog 11 #[.string chain, .agg #[.int .i64 hgt, .int .i64 rnd, .slice b.S b.sum.length b.sc, .int .i64 b.parts, .slice b.R b.root.length b.rc, .slice A n c], .int .i64 k] w fun e w' => ∃ A m c, e = .returned (.slice A m c) ∧ Own8 w' w.heap.size A m c (msgOf (bodyOf chain.data.toList hgt rnd (idOf s.flag b) s.sec s.nan)) ∧ Below w.heap.size w w' := by
  obtain ⟨f, kc⟩ := run_conv (P := Try.prog) 9 22 Try.underlying9 Try.underlying22 Try.underlying5 chain
  have hcl : chain.data.toList.length ≤ 1000 := by have : chain.data.toList.length = chain.size := by rw [Array.length_toList]; rfl
                                                   omega
  obtain ⟨ad, rfl, hadb, _⟩ := hrow.sign hk
  obtain ⟨_, hA, _, c0, c1, c2, c3, c4⟩ := (Rd.alloc hrow (Nat.le_refl _) (.cells #[.int .i64 hgt, .int .i64 rnd, .slice b.S b.sum.length b.sc, .int .i64 b.parts, .slice b.R b.root.length b.rc, .slice (some ad) n c] 33)).sign hk
  cases hA
  have hst : SB2 w.heap.size w 33 #[.int .i64 hgt, .int .i64 rnd, .slice b.S b.sum.length b.sc, .int .i64 b.parts, .slice b.R b.root.length b.rc, .slice (some ad) n c] 69 #[.int .i64 s.flag, .string s.adr, .int .i64 s.sec, .int .i64 s.nan, .slice s.S s.sig.length s.sc] ((w.alloc (.cells #[.int .i64 hgt, .int .i64 rnd, .slice b.S b.sum.length b.sc, .int .i64 b.parts, .slice b.R b.root.length b.rc, .slice (some ad) n c] 33)).alloc (.cells #[.int .i64 s.flag, .string s.adr, .int .i64 s.sec, .int .i64 s.nan, .slice s.S s.sig.length s.sc] 69)) := ⟨(Blk.new _ _ _).alloc _, by have := Blk.new (w.alloc (.cells #[.int .i64 hgt, .int .i64 rnd, .slice b.S b.sum.length b.sc, .int .i64 b.parts, .slice b.R b.root.length b.rc, .slice (some ad) n c] 33)) 69 #[.int .i64 s.flag, .string s.adr, .int .i64 s.sec, .int .i64 s.nan, .slice s.S s.sig.length s.sc]; simpa using this, ((Below.refl _ _).alloc (Nat.le_refl _) _).alloc (by simp) _⟩
  have HST := Lib.hid hst; clear hst
  by_cases h2 : s.flag = 2
  · have KN := Lib.hid (fun W => snone_any b W)
    have hz : (s.flag == 2) = true := by rw [h2]; rfl
    have HXB := Lib.hid hxb
    by_cases hno : b.sum.length = 0 ∧ b.parts = 0 ∧ b.root.length = 0
    · have hid : Hid (idOf s.flag b = []) := by show _ = _; unfold idOf; rw [if_neg (fun h => h.2 hno)]
      have hlid : ([] : List UInt8).length ≤ 2100 := by simp
      rw [decide_eq_true hno] at KN
      rw [hid.out]
      clear hno hxb h2
      go_enter Try.func11, Try.ntmps11
      go_wp2_with fail
      refine (KN.out _).mono ?_
      rintro e w3 ⟨rfl, hb3⟩
      have HS3 := Lib.hid (HST.out.call hb3); clear hb3
      go_wp2_with fail
      refine wp_region_facts [.row (numB 1 2), .is (.pointer (some ⟨w.heap.size, 0, none⟩)), .is (.int .i64 hgt), .row (fixB 2 (u64 hgt)), .is (.pointer (some ⟨w.heap.size, 1, none⟩)), .is (.int .i64 rnd), .row (fixB 3 (u64 rnd)), .row ([]), .is (.pointer (some ⟨w.heap.size + 1, 2, none⟩)), .is (.agg #[.int .i64 s.sec, .int .i64 s.nan]), .row (timeB s.sec s.nan), .row (msgB 5 (timeB s.sec s.nan)), .is (.string chain), .row chain.data.toList, .row (txtB 6 chain.data.toList), .slices [numB 1 2, fixB 2 (u64 hgt), fixB 3 (u64 rnd), [], msgB 5 (timeB s.sec s.nan), txtB 6 chain.data.toList], .row (bodyOf chain.data.toList hgt rnd ([]) s.sec s.nan), .row (bodyOf chain.data.toList hgt rnd ([]) s.sec s.nan)] (fun w' => SB2 w.heap.size w 33 #[.int .i64 hgt, .int .i64 rnd, .slice b.S b.sum.length b.sc, .int .i64 b.parts, .slice b.R b.root.length b.rc, .slice (some ad) n c] 69 #[.int .i64 s.flag, .string s.adr, .int .i64 s.sec, .int .i64 s.nan, .slice s.S s.sig.length s.sc] w' ∧ Bs.ok w' ⟨none, 0, 0, []⟩) (by kernel_rfl) (by kernel_rfl) ⟨HS3.out.drew, Rd.nil _ _ _ _⟩ ?_ ?_
      · intro i o
        match i with
        | 0 =>
               intro ho vs w4 hS4 hD
               obtain rfl := Option.some.inj ho
               simp only [putL, Act.put, List.setIfInBounds_toArray, List.set_cons_zero, List.set_cons_succ, Nat.zero_add, Nat.reduceAdd]
               go_simp
               refine (number_any 1 2 w4 (by omega) (by unfold in64'; omega)).mono ?_
               rintro e w5 ⟨A', m', c', rfl, ho', hb'⟩
               exact Step.of _ rfl ⟨A', m', c', rfl, ho'.rd⟩ ⟨hS4.1.call hb', hS4.2.below hb'⟩ hb'
        | 1 =>
               intro ho vs w4 hS4 hD
               obtain rfl := Option.some.inj ho
               simp only [putL, Act.put, List.setIfInBounds_toArray, List.set_cons_zero, List.set_cons_succ, Nat.zero_add, Nat.reduceAdd]
               go_simp
               exact Step.of _ rfl (rfl) hS4 (Below.refl _ _)
        | 2 =>
               intro ho vs w4 hS4 hD
               obtain rfl := Option.some.inj ho
               have d1 := hD 1 (by kernel_rfl) (by kernel_rfl)
               change vs 1 = _ at d1
               have q0 : w4.cell? ⟨w.heap.size, 0, none⟩ = some (.int .i64 hgt) := hS4.1.1.cell 0
               simp only [putL, Act.put, List.setIfInBounds_toArray, List.set_cons_zero, List.set_cons_succ, Nat.zero_add, Nat.reduceAdd]
               go_simp
               exact Step.of _ rfl (rfl) hS4 (Below.refl _ _)
        | 3 =>
               intro ho vs w4 hS4 hD
               obtain rfl := Option.some.inj ho
               have d2 := hD 2 (by kernel_rfl) (by kernel_rfl)
               change vs 2 = _ at d2
               simp only [putL, Act.put, List.setIfInBounds_toArray, List.set_cons_zero, List.set_cons_succ, Nat.zero_add, Nat.reduceAdd]
               go_simp
               refine (fixed_any 2 hgt w4 (by omega) hh).mono ?_
               rintro e w5 ⟨A', m', c', rfl, ho', hb'⟩
               exact Step.of _ rfl ⟨A', m', c', rfl, ho'.rd⟩ ⟨hS4.1.call hb', hS4.2.below hb'⟩ hb'
        | 4 =>
               intro ho vs w4 hS4 hD
               obtain rfl := Option.some.inj ho
               simp only [putL, Act.put, List.setIfInBounds_toArray, List.set_cons_zero, List.set_cons_succ, Nat.zero_add, Nat.reduceAdd]
               go_simp
               exact Step.of _ rfl (rfl) hS4 (Below.refl _ _)
        | 5 =>
               intro ho vs w4 hS4 hD
               obtain rfl := Option.some.inj ho
               have d4 := hD 4 (by kernel_rfl) (by kernel_rfl)
               change vs 4 = _ at d4
               have q0 : w4.cell? ⟨w.heap.size, 1, none⟩ = some (.int .i64 rnd) := hS4.1.1.cell 1
               simp only [putL, Act.put, List.setIfInBounds_toArray, List.set_cons_zero, List.set_cons_succ, Nat.zero_add, Nat.reduceAdd]
               go_simp
               exact Step.of _ rfl (rfl) hS4 (Below.refl _ _)
        | 6 =>
               intro ho vs w4 hS4 hD
               obtain rfl := Option.some.inj ho
               have d5 := hD 5 (by kernel_rfl) (by kernel_rfl)
               change vs 5 = _ at d5
               simp only [putL, Act.put, List.setIfInBounds_toArray, List.set_cons_zero, List.set_cons_succ, Nat.zero_add, Nat.reduceAdd]
               go_simp
               refine (fixed_any 3 rnd w4 (by omega) hrd).mono ?_
               rintro e w5 ⟨A', m', c', rfl, ho', hb'⟩
               exact Step.of _ rfl ⟨A', m', c', rfl, ho'.rd⟩ ⟨hS4.1.call hb', hS4.2.below hb'⟩ hb'
        | 7 =>
               intro ho vs w4 hS4 hD
               obtain rfl := Option.some.inj ho
               simp only [putL, Act.put, List.setIfInBounds_toArray, List.set_cons_zero, List.set_cons_succ, Nat.zero_add, Nat.reduceAdd]
               go_simp
               exact Step.of _ rfl (⟨none, 0, 0, rfl, hS4.2⟩) hS4 (Below.refl _ _)
        | 8 =>
               intro ho vs w4 hS4 hD
               obtain rfl := Option.some.inj ho
               simp only [putL, Act.put, List.setIfInBounds_toArray, List.set_cons_zero, List.set_cons_succ, Nat.zero_add, Nat.reduceAdd]
               go_simp
               exact Step.of _ rfl (rfl) hS4 (Below.refl _ _)
        | 9 =>
               intro ho vs w4 hS4 hD
               obtain rfl := Option.some.inj ho
               have d8 := hD 8 (by kernel_rfl) (by kernel_rfl)
               change vs 8 = _ at d8
               have q0 : w4.cell? ⟨w.heap.size + 1, 2, none⟩ = some (.int .i64 s.sec) := hS4.1.2.1.cell 2
               have q1 : w4.cell? ⟨w.heap.size + 1, 3, none⟩ = some (.int .i64 s.nan) := hS4.1.2.1.cell 3
               simp only [putL, Act.put, List.setIfInBounds_toArray, List.set_cons_zero, List.set_cons_succ, Nat.zero_add, Nat.reduceAdd]
               go_simp
               exact Step.of _ rfl (rfl) hS4 (Below.refl _ _)
        | 10 =>
               intro ho vs w4 hS4 hD
               obtain rfl := Option.some.inj ho
               have d9 := hD 9 (by kernel_rfl) (by kernel_rfl)
               change vs 9 = _ at d9
               simp only [putL, Act.put, List.setIfInBounds_toArray, List.set_cons_zero, List.set_cons_succ, Nat.zero_add, Nat.reduceAdd]
               go_simp
               refine (stime_any s.sec s.nan w4 ht hna).mono ?_
               rintro e w5 ⟨A', m', c', rfl, ho', hb'⟩
               exact Step.of _ rfl ⟨A', m', c', rfl, ho'.rd⟩ ⟨hS4.1.call hb', hS4.2.below hb'⟩ hb'
        | 11 =>
               intro ho vs w4 hS4 hD
               obtain rfl := Option.some.inj ho
               obtain ⟨A10, m10, c10, d10, r10⟩ := hD 10 (by kernel_rfl) (by kernel_rfl)
               simp only [putL, Act.put, List.setIfInBounds_toArray, List.set_cons_zero, List.set_cons_succ, Nat.zero_add, Nat.reduceAdd]
               go_simp
               refine (within_any 5 A10 m10 c10 _ w4 (by omega) r10 (by have := r10.len1; have := timeB_length s.sec s.nan; omega)).mono ?_
               rintro e w5 ⟨A', m', c', rfl, ho', hb'⟩
               exact Step.of _ rfl ⟨A', m', c', rfl, ho'.rd⟩ ⟨hS4.1.call hb', hS4.2.below hb'⟩ hb'
        | 12 =>
               intro ho vs w4 hS4 hD
               obtain rfl := Option.some.inj ho
               simp only [putL, Act.put, List.setIfInBounds_toArray, List.set_cons_zero, List.set_cons_succ, Nat.zero_add, Nat.reduceAdd]
               go_simp
               exact Step.of _ rfl (rfl) hS4 (Below.refl _ _)
        | 13 =>
               intro ho vs w4 hS4 hD
               obtain rfl := Option.some.inj ho
               have d12 := hD 12 (by kernel_rfl) (by kernel_rfl)
               change vs 12 = _ at d12
               simp only [putL, Act.put, List.setIfInBounds_toArray, List.set_cons_zero, List.set_cons_succ, Nat.zero_add, Nat.reduceAdd]
               go_simp
               have hb' : Below w4.heap.size w4 (w4.alloc (bObj chain (f w4))).drew := ((Below.refl _ _).alloc (Nat.le_refl _) _).drew
               exact Step.of _ rfl ⟨_, _, _, rfl, (Rd.conv w4 chain (f w4) _ rfl).drew.more (by simp)⟩ ⟨hS4.1.call hb', hS4.2.below hb'⟩ hb'
        | 14 =>
               intro ho vs w4 hS4 hD
               obtain rfl := Option.some.inj ho
               obtain ⟨A13, m13, c13, d13, r13⟩ := hD 13 (by kernel_rfl) (by kernel_rfl)
               simp only [putL, Act.put, List.setIfInBounds_toArray, List.set_cons_zero, List.set_cons_succ, Nat.zero_add, Nat.reduceAdd]
               go_simp
               refine (some_any 6 A13 m13 c13 _ w4 (by omega) r13 (by have := r13.len1; have := hcl; omega)).mono ?_
               rintro e w5 ⟨A', m', c', rfl, ho', hb'⟩
               exact Step.of _ rfl ⟨A', m', c', rfl, ho'.rd⟩ ⟨hS4.1.call hb', hS4.2.below hb'⟩ hb'
        | 15 =>
               intro ho vs w4 hS4 hD
               obtain rfl := Option.some.inj ho
               obtain ⟨A0, m0, c0, d0, r0⟩ := hD 0 (by kernel_rfl) (by kernel_rfl)
               obtain ⟨A3, m3, c3, d3, r3⟩ := hD 3 (by kernel_rfl) (by kernel_rfl)
               obtain ⟨A6, m6, c6, d6, r6⟩ := hD 6 (by kernel_rfl) (by kernel_rfl)
               obtain ⟨A7, m7, c7, d7, r7⟩ := hD 7 (by kernel_rfl) (by kernel_rfl)
               obtain ⟨A11, m11, c11, d11, r11⟩ := hD 11 (by kernel_rfl) (by kernel_rfl)
               obtain ⟨A14, m14, c14, d14, r14⟩ := hD 14 (by kernel_rfl) (by kernel_rfl)
               simp only [putL, Act.put, List.setIfInBounds_toArray, List.set_cons_zero, List.set_cons_succ, Nat.zero_add, Nat.reduceAdd]
               go_simp
               have hb' : Below w4.heap.size w4 (w4.alloc (.cells #[.slice A0 m0 c0, .slice A3 m3 c3, .slice A6 m6 c6, .slice A7 m7 c7, .slice A11 m11 c11, .slice A14 m14 c14] 22)) := (Below.refl _ _).alloc (Nat.le_refl _) _
               have hrow := Rd.new w4 #[.slice A0 m0 c0, .slice A3 m3 c3, .slice A6 m6 c6, .slice A7 m7 c7, .slice A11 m11 c11, .slice A14 m14 c14] 22 1 6 w4.heap.size rfl rfl
               refine Step.of _ rfl ⟨some ⟨w4.heap.size, 0, none⟩, 6, [⟨A0, m0, c0, numB 1 2⟩, ⟨A3, m3, c3, fixB 2 (u64 hgt)⟩, ⟨A6, m6, c6, fixB 3 (u64 rnd)⟩, ⟨A7, m7, c7, []⟩, ⟨A11, m11, c11, msgB 5 (timeB s.sec s.nan)⟩, ⟨A14, m14, c14, txtB 6 chain.data.toList⟩], rfl, rfl, hrow.more (by simp), ?_⟩ ⟨hS4.1.call hb', hS4.2.below hb'⟩ hb'
               intro b hb
               simp only [List.mem_cons, List.not_mem_nil, or_false] at hb
               rcases hb with rfl | rfl | rfl | rfl | rfl | rfl
               · exact Bs.ok.below (b := ⟨A0, m0, c0, _⟩) r0 hb'
               · exact Bs.ok.below (b := ⟨A3, m3, c3, _⟩) r3 hb'
               · exact Bs.ok.below (b := ⟨A6, m6, c6, _⟩) r6 hb'
               · exact Bs.ok.below (b := ⟨A7, m7, c7, _⟩) r7 hb'
               · exact Bs.ok.below (b := ⟨A11, m11, c11, _⟩) r11 hb'
               · exact Bs.ok.below (b := ⟨A14, m14, c14, _⟩) r14 hb'
        | 16 =>
               intro ho vs w4 hS4 hD
               obtain rfl := Option.some.inj ho
               obtain ⟨A15, c15, l15, d15, e15, r15, k15⟩ := hD 15 (by kernel_rfl) (by kernel_rfl)
               simp only [putL, Act.put, List.setIfInBounds_toArray, List.set_cons_zero, List.set_cons_succ, Nat.zero_add, Nat.reduceAdd]
               go_simp
               refine (joined_fact _ A15 c15 l15 w4 e15 r15 k15 (by simp) ?_).mono ?_
               · intro y hy
                 simp only [List.mem_cons, List.not_mem_nil, or_false] at hy
                 rcases hy with rfl | rfl | rfl | rfl | rfl | rfl
                 all_goals (first | (have := hlid; omega) | (have := numB_length 1 2 (by omega); omega) | (have := fixB_length 2 (u64 hgt); omega) | (have := fixB_length 3 (u64 rnd); omega) | (have := msgB_length 5 (timeB s.sec s.nan) (by have := timeB_length s.sec s.nan; omega); have := timeB_length s.sec s.nan; omega) | (have := txtB_length 6 chain.data.toList (by have := hcl; omega); have := hcl; omega))
               · rintro e w5 ⟨A', m', c', rfl, ho', hb'⟩
                 exact Step.of _ rfl ⟨A', m', c', rfl, ho'.rd⟩ ⟨hS4.1.call hb', hS4.2.below hb'⟩ hb'
        | 17 =>
               intro ho vs w4 hS4 hD
               obtain rfl := Option.some.inj ho
               obtain ⟨A16, m16, c16, d16, r16⟩ := hD 16 (by kernel_rfl) (by kernel_rfl)
               simp only [putL, Act.put, List.setIfInBounds_toArray, List.set_cons_zero, List.set_cons_succ, Nat.zero_add, Nat.reduceAdd]
               go_simp
               exact Step.of _ rfl ⟨A16, m16, c16, rfl, r16⟩ hS4 (Below.refl _ _)
        | k + 18 =>
               intro ho; simp at ho
      · intro vs w4 hS4 hF
        obtain ⟨A17, m17, c17, e17, r17⟩ := hF 17 _ _ rfl rfl
        simp only [putL, Act.put, List.setIfInBounds_toArray, List.set_cons_zero, List.set_cons_succ, Nat.zero_add, Nat.reduceAdd]
        rw [e17]
        have HS4 := Lib.hid hS4; have HR17 := Lib.hid r17; clear hS4 r17 hF
        have hm17 := HR17.out.len1
        have hbl : (bodyOf chain.data.toList hgt rnd ([]) s.sec s.nan).length ≤ 5000 := bodyOf_length _ _ _ _ _ _ hcl hlid
        have hC := counted_any (m17 : Int) w4
        rw [u64_nat (show m17 < 18446744073709551616 by omega)] at hC
        have hl17 := vi_ten (show m17 < 18446744073709551616 by omega)
        have HC := Lib.hid hC; have HM := Lib.hid hm17; have HL := Lib.hid hl17; have HBL := Lib.hid hbl; clear hC hm17 hl17 hbl
        go_wp2_with fail
        refine HC.out.mono ?_
        rintro e w5 ⟨A5, m5, c5, rfl, ho5, hb5⟩
        have HO5 := Lib.hid ho5; have HB5 := Lib.hid hb5; clear ho5 hb5
        go_wp2_with (at_builtin; refine app8 _ rfl (.tmp 47) (.tmp 48) rfl w4.heap.size m5 c5 A5 _ rfl HO5.out w4.heap.size m17 c17 A17 _ rfl (Rd.below HR17.out HB5.out) (by have := HO5.out.len; have := HL.out; have := HM.out; have := HBL.out; omega) HB5.out.size ?_; intro A6 c6 w6 ho6 hg6)
        go_ret
        refine ⟨A6, m5 + m17, c6, rfl, ?_, HS4.out.1.2.2.trans ((HB5.out.grown hg6.1 HB5.out.size (fun k hk => (HO5.out.at_ k hk).1)).mono (by have := HS4.out.1.1.lt; omega))⟩
        rw [HM.out] at ho6
        have hmsg : msgOf (bodyOf chain.data.toList hgt rnd ([]) s.sec s.nan) = vi (bodyOf chain.data.toList hgt rnd ([]) s.sec s.nan).length ++ bodyOf chain.data.toList hgt rnd ([]) s.sec s.nan := rfl
        rw [hmsg, HM.out]
        exact Own8.more ho6 (by have := HS4.out.1.1.lt; omega)
    · have hid : Hid (idOf s.flag b = msgB 4 (blockB b.sum b.parts b.root)) := by show _ = _; unfold idOf; rw [if_pos ⟨h2, hno⟩]
      have hbl0 := blockB_length b.sum b.parts b.root (by omega) (by omega)
      have hlid : (msgB 4 (blockB b.sum b.parts b.root)).length ≤ 2100 := by have := msgB_length 4 (blockB b.sum b.parts b.root) (by omega); omega
      rw [decide_eq_false hno] at KN
      rw [hid.out]
      clear hno hxb h2
      go_enter Try.func11, Try.ntmps11
      go_wp2_with fail
      refine (KN.out _).mono ?_
      rintro e w3 ⟨rfl, hb3⟩
      have hs3 := HST.out.call hb3
      have HS3 := Lib.hid hs3
      have q2 : w3.cell? ⟨w.heap.size, 2, none⟩ = some (.slice b.S b.sum.length b.sc) := hs3.1.cell 2
      have q3 : w3.cell? ⟨w.heap.size, 3, none⟩ = some (.int .i64 b.parts) := hs3.1.cell 3
      have q4 : w3.cell? ⟨w.heap.size, 4, none⟩ = some (.slice b.R b.root.length b.rc) := hs3.1.cell 4
      have KB := Lib.hid (sblock_any b w3 (HXB.out.below hs3.2.2) hp (by omega) (by omega))
      clear hb3 hs3
      go_wp2_with fail
      refine KB.out.mono ?_
      rintro e wa ⟨Aa, ma, ca, rfl, hoa, hba⟩
      have HSa := Lib.hid (HS3.out.call hba)
      have KW := Lib.hid (within_any 4 Aa ma ca _ wa (by omega) hoa.rd (by have := hoa.len; omega))
      clear hoa hba
      go_wp2_with fail
      refine KW.out.mono ?_
      rintro e wb ⟨Ab, mb, cb, rfl, hob, hbb⟩
      have HSb := Lib.hid (HSa.out.call hbb)
      have HOb := Lib.hid hob
      clear hob hbb
      go_wp2_with fail
      refine wp_region_facts [.row (numB 1 2), .is (.pointer (some ⟨w.heap.size, 0, none⟩)), .is (.int .i64 hgt), .row (fixB 2 (u64 hgt)), .is (.pointer (some ⟨w.heap.size, 1, none⟩)), .is (.int .i64 rnd), .row (fixB 3 (u64 rnd)), .row (msgB 4 (blockB b.sum b.parts b.root)), .is (.pointer (some ⟨w.heap.size + 1, 2, none⟩)), .is (.agg #[.int .i64 s.sec, .int .i64 s.nan]), .row (timeB s.sec s.nan), .row (msgB 5 (timeB s.sec s.nan)), .is (.string chain), .row chain.data.toList, .row (txtB 6 chain.data.toList), .slices [numB 1 2, fixB 2 (u64 hgt), fixB 3 (u64 rnd), msgB 4 (blockB b.sum b.parts b.root), msgB 5 (timeB s.sec s.nan), txtB 6 chain.data.toList], .row (bodyOf chain.data.toList hgt rnd (msgB 4 (blockB b.sum b.parts b.root)) s.sec s.nan), .row (bodyOf chain.data.toList hgt rnd (msgB 4 (blockB b.sum b.parts b.root)) s.sec s.nan)] (fun w' => SB2 w.heap.size w 33 #[.int .i64 hgt, .int .i64 rnd, .slice b.S b.sum.length b.sc, .int .i64 b.parts, .slice b.R b.root.length b.rc, .slice (some ad) n c] 69 #[.int .i64 s.flag, .string s.adr, .int .i64 s.sec, .int .i64 s.nan, .slice s.S s.sig.length s.sc] w' ∧ Bs.ok w' ⟨Ab, mb, cb, msgB 4 (blockB b.sum b.parts b.root)⟩) (by kernel_rfl) (by kernel_rfl) ⟨HSb.out.drew, HOb.out.rd⟩ ?_ ?_
      · intro i o
        match i with
        | 0 =>
               intro ho vs w4 hS4 hD
               obtain rfl := Option.some.inj ho
               simp only [putL, Act.put, List.setIfInBounds_toArray, List.set_cons_zero, List.set_cons_succ, Nat.zero_add, Nat.reduceAdd]
               go_simp
               refine (number_any 1 2 w4 (by omega) (by unfold in64'; omega)).mono ?_
               rintro e w5 ⟨A', m', c', rfl, ho', hb'⟩
               exact Step.of _ rfl ⟨A', m', c', rfl, ho'.rd⟩ ⟨hS4.1.call hb', hS4.2.below hb'⟩ hb'
        | 1 =>
               intro ho vs w4 hS4 hD
               obtain rfl := Option.some.inj ho
               simp only [putL, Act.put, List.setIfInBounds_toArray, List.set_cons_zero, List.set_cons_succ, Nat.zero_add, Nat.reduceAdd]
               go_simp
               exact Step.of _ rfl (rfl) hS4 (Below.refl _ _)
        | 2 =>
               intro ho vs w4 hS4 hD
               obtain rfl := Option.some.inj ho
               have d1 := hD 1 (by kernel_rfl) (by kernel_rfl)
               change vs 1 = _ at d1
               have q0 : w4.cell? ⟨w.heap.size, 0, none⟩ = some (.int .i64 hgt) := hS4.1.1.cell 0
               simp only [putL, Act.put, List.setIfInBounds_toArray, List.set_cons_zero, List.set_cons_succ, Nat.zero_add, Nat.reduceAdd]
               go_simp
               exact Step.of _ rfl (rfl) hS4 (Below.refl _ _)
        | 3 =>
               intro ho vs w4 hS4 hD
               obtain rfl := Option.some.inj ho
               have d2 := hD 2 (by kernel_rfl) (by kernel_rfl)
               change vs 2 = _ at d2
               simp only [putL, Act.put, List.setIfInBounds_toArray, List.set_cons_zero, List.set_cons_succ, Nat.zero_add, Nat.reduceAdd]
               go_simp
               refine (fixed_any 2 hgt w4 (by omega) hh).mono ?_
               rintro e w5 ⟨A', m', c', rfl, ho', hb'⟩
               exact Step.of _ rfl ⟨A', m', c', rfl, ho'.rd⟩ ⟨hS4.1.call hb', hS4.2.below hb'⟩ hb'
        | 4 =>
               intro ho vs w4 hS4 hD
               obtain rfl := Option.some.inj ho
               simp only [putL, Act.put, List.setIfInBounds_toArray, List.set_cons_zero, List.set_cons_succ, Nat.zero_add, Nat.reduceAdd]
               go_simp
               exact Step.of _ rfl (rfl) hS4 (Below.refl _ _)
        | 5 =>
               intro ho vs w4 hS4 hD
               obtain rfl := Option.some.inj ho
               have d4 := hD 4 (by kernel_rfl) (by kernel_rfl)
               change vs 4 = _ at d4
               have q0 : w4.cell? ⟨w.heap.size, 1, none⟩ = some (.int .i64 rnd) := hS4.1.1.cell 1
               simp only [putL, Act.put, List.setIfInBounds_toArray, List.set_cons_zero, List.set_cons_succ, Nat.zero_add, Nat.reduceAdd]
               go_simp
               exact Step.of _ rfl (rfl) hS4 (Below.refl _ _)
        | 6 =>
               intro ho vs w4 hS4 hD
               obtain rfl := Option.some.inj ho
               have d5 := hD 5 (by kernel_rfl) (by kernel_rfl)
               change vs 5 = _ at d5
               simp only [putL, Act.put, List.setIfInBounds_toArray, List.set_cons_zero, List.set_cons_succ, Nat.zero_add, Nat.reduceAdd]
               go_simp
               refine (fixed_any 3 rnd w4 (by omega) hrd).mono ?_
               rintro e w5 ⟨A', m', c', rfl, ho', hb'⟩
               exact Step.of _ rfl ⟨A', m', c', rfl, ho'.rd⟩ ⟨hS4.1.call hb', hS4.2.below hb'⟩ hb'
        | 7 =>
               intro ho vs w4 hS4 hD
               obtain rfl := Option.some.inj ho
               simp only [putL, Act.put, List.setIfInBounds_toArray, List.set_cons_zero, List.set_cons_succ, Nat.zero_add, Nat.reduceAdd]
               go_simp
               exact Step.of _ rfl (⟨Ab, mb, cb, rfl, hS4.2⟩) hS4 (Below.refl _ _)
        | 8 =>
               intro ho vs w4 hS4 hD
               obtain rfl := Option.some.inj ho
               simp only [putL, Act.put, List.setIfInBounds_toArray, List.set_cons_zero, List.set_cons_succ, Nat.zero_add, Nat.reduceAdd]
               go_simp
               exact Step.of _ rfl (rfl) hS4 (Below.refl _ _)
        | 9 =>
               intro ho vs w4 hS4 hD
               obtain rfl := Option.some.inj ho
               have d8 := hD 8 (by kernel_rfl) (by kernel_rfl)
               change vs 8 = _ at d8
               have q0 : w4.cell? ⟨w.heap.size + 1, 2, none⟩ = some (.int .i64 s.sec) := hS4.1.2.1.cell 2
               have q1 : w4.cell? ⟨w.heap.size + 1, 3, none⟩ = some (.int .i64 s.nan) := hS4.1.2.1.cell 3
               simp only [putL, Act.put, List.setIfInBounds_toArray, List.set_cons_zero, List.set_cons_succ, Nat.zero_add, Nat.reduceAdd]
               go_simp
               exact Step.of _ rfl (rfl) hS4 (Below.refl _ _)
        | 10 =>
               intro ho vs w4 hS4 hD
               obtain rfl := Option.some.inj ho
               have d9 := hD 9 (by kernel_rfl) (by kernel_rfl)
               change vs 9 = _ at d9
               simp only [putL, Act.put, List.setIfInBounds_toArray, List.set_cons_zero, List.set_cons_succ, Nat.zero_add, Nat.reduceAdd]
               go_simp
               refine (stime_any s.sec s.nan w4 ht hna).mono ?_
               rintro e w5 ⟨A', m', c', rfl, ho', hb'⟩
               exact Step.of _ rfl ⟨A', m', c', rfl, ho'.rd⟩ ⟨hS4.1.call hb', hS4.2.below hb'⟩ hb'
        | 11 =>
               intro ho vs w4 hS4 hD
               obtain rfl := Option.some.inj ho
               obtain ⟨A10, m10, c10, d10, r10⟩ := hD 10 (by kernel_rfl) (by kernel_rfl)
               simp only [putL, Act.put, List.setIfInBounds_toArray, List.set_cons_zero, List.set_cons_succ, Nat.zero_add, Nat.reduceAdd]
               go_simp
               refine (within_any 5 A10 m10 c10 _ w4 (by omega) r10 (by have := r10.len1; have := timeB_length s.sec s.nan; omega)).mono ?_
               rintro e w5 ⟨A', m', c', rfl, ho', hb'⟩
               exact Step.of _ rfl ⟨A', m', c', rfl, ho'.rd⟩ ⟨hS4.1.call hb', hS4.2.below hb'⟩ hb'
        | 12 =>
               intro ho vs w4 hS4 hD
               obtain rfl := Option.some.inj ho
               simp only [putL, Act.put, List.setIfInBounds_toArray, List.set_cons_zero, List.set_cons_succ, Nat.zero_add, Nat.reduceAdd]
               go_simp
               exact Step.of _ rfl (rfl) hS4 (Below.refl _ _)
        | 13 =>
               intro ho vs w4 hS4 hD
               obtain rfl := Option.some.inj ho
               have d12 := hD 12 (by kernel_rfl) (by kernel_rfl)
               change vs 12 = _ at d12
               simp only [putL, Act.put, List.setIfInBounds_toArray, List.set_cons_zero, List.set_cons_succ, Nat.zero_add, Nat.reduceAdd]
               go_simp
               have hb' : Below w4.heap.size w4 (w4.alloc (bObj chain (f w4))).drew := ((Below.refl _ _).alloc (Nat.le_refl _) _).drew
               exact Step.of _ rfl ⟨_, _, _, rfl, (Rd.conv w4 chain (f w4) _ rfl).drew.more (by simp)⟩ ⟨hS4.1.call hb', hS4.2.below hb'⟩ hb'
        | 14 =>
               intro ho vs w4 hS4 hD
               obtain rfl := Option.some.inj ho
               obtain ⟨A13, m13, c13, d13, r13⟩ := hD 13 (by kernel_rfl) (by kernel_rfl)
               simp only [putL, Act.put, List.setIfInBounds_toArray, List.set_cons_zero, List.set_cons_succ, Nat.zero_add, Nat.reduceAdd]
               go_simp
               refine (some_any 6 A13 m13 c13 _ w4 (by omega) r13 (by have := r13.len1; have := hcl; omega)).mono ?_
               rintro e w5 ⟨A', m', c', rfl, ho', hb'⟩
               exact Step.of _ rfl ⟨A', m', c', rfl, ho'.rd⟩ ⟨hS4.1.call hb', hS4.2.below hb'⟩ hb'
        | 15 =>
               intro ho vs w4 hS4 hD
               obtain rfl := Option.some.inj ho
               obtain ⟨A0, m0, c0, d0, r0⟩ := hD 0 (by kernel_rfl) (by kernel_rfl)
               obtain ⟨A3, m3, c3, d3, r3⟩ := hD 3 (by kernel_rfl) (by kernel_rfl)
               obtain ⟨A6, m6, c6, d6, r6⟩ := hD 6 (by kernel_rfl) (by kernel_rfl)
               obtain ⟨A7, m7, c7, d7, r7⟩ := hD 7 (by kernel_rfl) (by kernel_rfl)
               obtain ⟨A11, m11, c11, d11, r11⟩ := hD 11 (by kernel_rfl) (by kernel_rfl)
               obtain ⟨A14, m14, c14, d14, r14⟩ := hD 14 (by kernel_rfl) (by kernel_rfl)
               simp only [putL, Act.put, List.setIfInBounds_toArray, List.set_cons_zero, List.set_cons_succ, Nat.zero_add, Nat.reduceAdd]
               go_simp
               have hb' : Below w4.heap.size w4 (w4.alloc (.cells #[.slice A0 m0 c0, .slice A3 m3 c3, .slice A6 m6 c6, .slice A7 m7 c7, .slice A11 m11 c11, .slice A14 m14 c14] 22)) := (Below.refl _ _).alloc (Nat.le_refl _) _
               have hrow := Rd.new w4 #[.slice A0 m0 c0, .slice A3 m3 c3, .slice A6 m6 c6, .slice A7 m7 c7, .slice A11 m11 c11, .slice A14 m14 c14] 22 1 6 w4.heap.size rfl rfl
               refine Step.of _ rfl ⟨some ⟨w4.heap.size, 0, none⟩, 6, [⟨A0, m0, c0, numB 1 2⟩, ⟨A3, m3, c3, fixB 2 (u64 hgt)⟩, ⟨A6, m6, c6, fixB 3 (u64 rnd)⟩, ⟨A7, m7, c7, msgB 4 (blockB b.sum b.parts b.root)⟩, ⟨A11, m11, c11, msgB 5 (timeB s.sec s.nan)⟩, ⟨A14, m14, c14, txtB 6 chain.data.toList⟩], rfl, rfl, hrow.more (by simp), ?_⟩ ⟨hS4.1.call hb', hS4.2.below hb'⟩ hb'
               intro b hb
               simp only [List.mem_cons, List.not_mem_nil, or_false] at hb
               rcases hb with rfl | rfl | rfl | rfl | rfl | rfl
               · exact Bs.ok.below (b := ⟨A0, m0, c0, _⟩) r0 hb'
               · exact Bs.ok.below (b := ⟨A3, m3, c3, _⟩) r3 hb'
               · exact Bs.ok.below (b := ⟨A6, m6, c6, _⟩) r6 hb'
               · exact Bs.ok.below (b := ⟨A7, m7, c7, _⟩) r7 hb'
               · exact Bs.ok.below (b := ⟨A11, m11, c11, _⟩) r11 hb'
               · exact Bs.ok.below (b := ⟨A14, m14, c14, _⟩) r14 hb'
        | 16 =>
               intro ho vs w4 hS4 hD
               obtain rfl := Option.some.inj ho
               obtain ⟨A15, c15, l15, d15, e15, r15, k15⟩ := hD 15 (by kernel_rfl) (by kernel_rfl)
               simp only [putL, Act.put, List.setIfInBounds_toArray, List.set_cons_zero, List.set_cons_succ, Nat.zero_add, Nat.reduceAdd]
               go_simp
               refine (joined_fact _ A15 c15 l15 w4 e15 r15 k15 (by simp) ?_).mono ?_
               · intro y hy
                 simp only [List.mem_cons, List.not_mem_nil, or_false] at hy
                 rcases hy with rfl | rfl | rfl | rfl | rfl | rfl
                 all_goals (first | (have := hlid; omega) | (have := numB_length 1 2 (by omega); omega) | (have := fixB_length 2 (u64 hgt); omega) | (have := fixB_length 3 (u64 rnd); omega) | (have := msgB_length 5 (timeB s.sec s.nan) (by have := timeB_length s.sec s.nan; omega); have := timeB_length s.sec s.nan; omega) | (have := txtB_length 6 chain.data.toList (by have := hcl; omega); have := hcl; omega))
               · rintro e w5 ⟨A', m', c', rfl, ho', hb'⟩
                 exact Step.of _ rfl ⟨A', m', c', rfl, ho'.rd⟩ ⟨hS4.1.call hb', hS4.2.below hb'⟩ hb'
        | 17 =>
               intro ho vs w4 hS4 hD
               obtain rfl := Option.some.inj ho
               obtain ⟨A16, m16, c16, d16, r16⟩ := hD 16 (by kernel_rfl) (by kernel_rfl)
               simp only [putL, Act.put, List.setIfInBounds_toArray, List.set_cons_zero, List.set_cons_succ, Nat.zero_add, Nat.reduceAdd]
               go_simp
               exact Step.of _ rfl ⟨A16, m16, c16, rfl, r16⟩ hS4 (Below.refl _ _)
        | k + 18 =>
               intro ho; simp at ho
      · intro vs w4 hS4 hF
        obtain ⟨A17, m17, c17, e17, r17⟩ := hF 17 _ _ rfl rfl
        simp only [putL, Act.put, List.setIfInBounds_toArray, List.set_cons_zero, List.set_cons_succ, Nat.zero_add, Nat.reduceAdd]
        rw [e17]
        have HS4 := Lib.hid hS4; have HR17 := Lib.hid r17; clear hS4 r17 hF
        have hm17 := HR17.out.len1
        have hbl : (bodyOf chain.data.toList hgt rnd (msgB 4 (blockB b.sum b.parts b.root)) s.sec s.nan).length ≤ 5000 := bodyOf_length _ _ _ _ _ _ hcl hlid
        have hC := counted_any (m17 : Int) w4
        rw [u64_nat (show m17 < 18446744073709551616 by omega)] at hC
        have hl17 := vi_ten (show m17 < 18446744073709551616 by omega)
        have HC := Lib.hid hC; have HM := Lib.hid hm17; have HL := Lib.hid hl17; have HBL := Lib.hid hbl; clear hC hm17 hl17 hbl
        go_wp2_with fail
        refine HC.out.mono ?_
        rintro e w5 ⟨A5, m5, c5, rfl, ho5, hb5⟩
        have HO5 := Lib.hid ho5; have HB5 := Lib.hid hb5; clear ho5 hb5
        go_wp2_with (at_builtin; refine app8 _ rfl (.tmp 47) (.tmp 48) rfl w4.heap.size m5 c5 A5 _ rfl HO5.out w4.heap.size m17 c17 A17 _ rfl (Rd.below HR17.out HB5.out) (by have := HO5.out.len; have := HL.out; have := HM.out; have := HBL.out; omega) HB5.out.size ?_; intro A6 c6 w6 ho6 hg6)
        go_ret
        refine ⟨A6, m5 + m17, c6, rfl, ?_, HS4.out.1.2.2.trans ((HB5.out.grown hg6.1 HB5.out.size (fun k hk => (HO5.out.at_ k hk).1)).mono (by have := HS4.out.1.1.lt; omega))⟩
        rw [HM.out] at ho6
        have hmsg : msgOf (bodyOf chain.data.toList hgt rnd (msgB 4 (blockB b.sum b.parts b.root)) s.sec s.nan) = vi (bodyOf chain.data.toList hgt rnd (msgB 4 (blockB b.sum b.parts b.root)) s.sec s.nan).length ++ bodyOf chain.data.toList hgt rnd (msgB 4 (blockB b.sum b.parts b.root)) s.sec s.nan := rfl
        rw [hmsg, HM.out]
        exact Own8.more ho6 (by have := HS4.out.1.1.lt; omega)
  · have hz : (s.flag == 2) = false := by rw [beq_eq_false_iff_ne]; exact h2
    have hid : Hid (idOf s.flag b = []) := by show _ = _; unfold idOf; rw [if_neg (fun h => h2 h.1)]
    have hlid : ([] : List UInt8).length ≤ 2100 := by simp
    rw [hid.out]
    go_enter Try.func11, Try.ntmps11
    go_wp2_with fail
    refine wp_region_facts [.row (numB 1 2), .is (.pointer (some ⟨w.heap.size, 0, none⟩)), .is (.int .i64 hgt), .row (fixB 2 (u64 hgt)), .is (.pointer (some ⟨w.heap.size, 1, none⟩)), .is (.int .i64 rnd), .row (fixB 3 (u64 rnd)), .row ([]), .is (.pointer (some ⟨w.heap.size + 1, 2, none⟩)), .is (.agg #[.int .i64 s.sec, .int .i64 s.nan]), .row (timeB s.sec s.nan), .row (msgB 5 (timeB s.sec s.nan)), .is (.string chain), .row chain.data.toList, .row (txtB 6 chain.data.toList), .slices [numB 1 2, fixB 2 (u64 hgt), fixB 3 (u64 rnd), [], msgB 5 (timeB s.sec s.nan), txtB 6 chain.data.toList], .row (bodyOf chain.data.toList hgt rnd ([]) s.sec s.nan), .row (bodyOf chain.data.toList hgt rnd ([]) s.sec s.nan)] (fun w' => SB2 w.heap.size w 33 #[.int .i64 hgt, .int .i64 rnd, .slice b.S b.sum.length b.sc, .int .i64 b.parts, .slice b.R b.root.length b.rc, .slice (some ad) n c] 69 #[.int .i64 s.flag, .string s.adr, .int .i64 s.sec, .int .i64 s.nan, .slice s.S s.sig.length s.sc] w' ∧ Bs.ok w' ⟨none, 0, 0, []⟩) (by kernel_rfl) (by kernel_rfl) ⟨HST.out.drew, Rd.nil _ _ _ _⟩ ?_ ?_
    · intro i o
      match i with
      | 0 =>
             intro ho vs w4 hS4 hD
             obtain rfl := Option.some.inj ho
             simp only [putL, Act.put, List.setIfInBounds_toArray, List.set_cons_zero, List.set_cons_succ, Nat.zero_add, Nat.reduceAdd]
             go_simp
             refine (number_any 1 2 w4 (by omega) (by unfold in64'; omega)).mono ?_
             rintro e w5 ⟨A', m', c', rfl, ho', hb'⟩
             exact Step.of _ rfl ⟨A', m', c', rfl, ho'.rd⟩ ⟨hS4.1.call hb', hS4.2.below hb'⟩ hb'
      | 1 =>
             intro ho vs w4 hS4 hD
             obtain rfl := Option.some.inj ho
             simp only [putL, Act.put, List.setIfInBounds_toArray, List.set_cons_zero, List.set_cons_succ, Nat.zero_add, Nat.reduceAdd]
             go_simp
             exact Step.of _ rfl (rfl) hS4 (Below.refl _ _)
      | 2 =>
             intro ho vs w4 hS4 hD
             obtain rfl := Option.some.inj ho
             have d1 := hD 1 (by kernel_rfl) (by kernel_rfl)
             change vs 1 = _ at d1
             have q0 : w4.cell? ⟨w.heap.size, 0, none⟩ = some (.int .i64 hgt) := hS4.1.1.cell 0
             simp only [putL, Act.put, List.setIfInBounds_toArray, List.set_cons_zero, List.set_cons_succ, Nat.zero_add, Nat.reduceAdd]
             go_simp
             exact Step.of _ rfl (rfl) hS4 (Below.refl _ _)
      | 3 =>
             intro ho vs w4 hS4 hD
             obtain rfl := Option.some.inj ho
             have d2 := hD 2 (by kernel_rfl) (by kernel_rfl)
             change vs 2 = _ at d2
             simp only [putL, Act.put, List.setIfInBounds_toArray, List.set_cons_zero, List.set_cons_succ, Nat.zero_add, Nat.reduceAdd]
             go_simp
             refine (fixed_any 2 hgt w4 (by omega) hh).mono ?_
             rintro e w5 ⟨A', m', c', rfl, ho', hb'⟩
             exact Step.of _ rfl ⟨A', m', c', rfl, ho'.rd⟩ ⟨hS4.1.call hb', hS4.2.below hb'⟩ hb'
      | 4 =>
             intro ho vs w4 hS4 hD
             obtain rfl := Option.some.inj ho
             simp only [putL, Act.put, List.setIfInBounds_toArray, List.set_cons_zero, List.set_cons_succ, Nat.zero_add, Nat.reduceAdd]
             go_simp
             exact Step.of _ rfl (rfl) hS4 (Below.refl _ _)
      | 5 =>
             intro ho vs w4 hS4 hD
             obtain rfl := Option.some.inj ho
             have d4 := hD 4 (by kernel_rfl) (by kernel_rfl)
             change vs 4 = _ at d4
             have q0 : w4.cell? ⟨w.heap.size, 1, none⟩ = some (.int .i64 rnd) := hS4.1.1.cell 1
             simp only [putL, Act.put, List.setIfInBounds_toArray, List.set_cons_zero, List.set_cons_succ, Nat.zero_add, Nat.reduceAdd]
             go_simp
             exact Step.of _ rfl (rfl) hS4 (Below.refl _ _)
      | 6 =>
             intro ho vs w4 hS4 hD
             obtain rfl := Option.some.inj ho
             have d5 := hD 5 (by kernel_rfl) (by kernel_rfl)
             change vs 5 = _ at d5
             simp only [putL, Act.put, List.setIfInBounds_toArray, List.set_cons_zero, List.set_cons_succ, Nat.zero_add, Nat.reduceAdd]
             go_simp
             refine (fixed_any 3 rnd w4 (by omega) hrd).mono ?_
             rintro e w5 ⟨A', m', c', rfl, ho', hb'⟩
             exact Step.of _ rfl ⟨A', m', c', rfl, ho'.rd⟩ ⟨hS4.1.call hb', hS4.2.below hb'⟩ hb'
      | 7 =>
             intro ho vs w4 hS4 hD
             obtain rfl := Option.some.inj ho
             simp only [putL, Act.put, List.setIfInBounds_toArray, List.set_cons_zero, List.set_cons_succ, Nat.zero_add, Nat.reduceAdd]
             go_simp
             exact Step.of _ rfl (⟨none, 0, 0, rfl, hS4.2⟩) hS4 (Below.refl _ _)
      | 8 =>
             intro ho vs w4 hS4 hD
             obtain rfl := Option.some.inj ho
             simp only [putL, Act.put, List.setIfInBounds_toArray, List.set_cons_zero, List.set_cons_succ, Nat.zero_add, Nat.reduceAdd]
             go_simp
             exact Step.of _ rfl (rfl) hS4 (Below.refl _ _)
      | 9 =>
             intro ho vs w4 hS4 hD
             obtain rfl := Option.some.inj ho
             have d8 := hD 8 (by kernel_rfl) (by kernel_rfl)
             change vs 8 = _ at d8
             have q0 : w4.cell? ⟨w.heap.size + 1, 2, none⟩ = some (.int .i64 s.sec) := hS4.1.2.1.cell 2
             have q1 : w4.cell? ⟨w.heap.size + 1, 3, none⟩ = some (.int .i64 s.nan) := hS4.1.2.1.cell 3
             simp only [putL, Act.put, List.setIfInBounds_toArray, List.set_cons_zero, List.set_cons_succ, Nat.zero_add, Nat.reduceAdd]
             go_simp
             exact Step.of _ rfl (rfl) hS4 (Below.refl _ _)
      | 10 =>
             intro ho vs w4 hS4 hD
             obtain rfl := Option.some.inj ho
             have d9 := hD 9 (by kernel_rfl) (by kernel_rfl)
             change vs 9 = _ at d9
             simp only [putL, Act.put, List.setIfInBounds_toArray, List.set_cons_zero, List.set_cons_succ, Nat.zero_add, Nat.reduceAdd]
             go_simp
             refine (stime_any s.sec s.nan w4 ht hna).mono ?_
             rintro e w5 ⟨A', m', c', rfl, ho', hb'⟩
             exact Step.of _ rfl ⟨A', m', c', rfl, ho'.rd⟩ ⟨hS4.1.call hb', hS4.2.below hb'⟩ hb'
      | 11 =>
             intro ho vs w4 hS4 hD
             obtain rfl := Option.some.inj ho
             obtain ⟨A10, m10, c10, d10, r10⟩ := hD 10 (by kernel_rfl) (by kernel_rfl)
             simp only [putL, Act.put, List.setIfInBounds_toArray, List.set_cons_zero, List.set_cons_succ, Nat.zero_add, Nat.reduceAdd]
             go_simp
             refine (within_any 5 A10 m10 c10 _ w4 (by omega) r10 (by have := r10.len1; have := timeB_length s.sec s.nan; omega)).mono ?_
             rintro e w5 ⟨A', m', c', rfl, ho', hb'⟩
             exact Step.of _ rfl ⟨A', m', c', rfl, ho'.rd⟩ ⟨hS4.1.call hb', hS4.2.below hb'⟩ hb'
      | 12 =>
             intro ho vs w4 hS4 hD
             obtain rfl := Option.some.inj ho
             simp only [putL, Act.put, List.setIfInBounds_toArray, List.set_cons_zero, List.set_cons_succ, Nat.zero_add, Nat.reduceAdd]
             go_simp
             exact Step.of _ rfl (rfl) hS4 (Below.refl _ _)
      | 13 =>
             intro ho vs w4 hS4 hD
             obtain rfl := Option.some.inj ho
             have d12 := hD 12 (by kernel_rfl) (by kernel_rfl)
             change vs 12 = _ at d12
             simp only [putL, Act.put, List.setIfInBounds_toArray, List.set_cons_zero, List.set_cons_succ, Nat.zero_add, Nat.reduceAdd]
             go_simp
             have hb' : Below w4.heap.size w4 (w4.alloc (bObj chain (f w4))).drew := ((Below.refl _ _).alloc (Nat.le_refl _) _).drew
             exact Step.of _ rfl ⟨_, _, _, rfl, (Rd.conv w4 chain (f w4) _ rfl).drew.more (by simp)⟩ ⟨hS4.1.call hb', hS4.2.below hb'⟩ hb'
      | 14 =>
             intro ho vs w4 hS4 hD
             obtain rfl := Option.some.inj ho
             obtain ⟨A13, m13, c13, d13, r13⟩ := hD 13 (by kernel_rfl) (by kernel_rfl)
             simp only [putL, Act.put, List.setIfInBounds_toArray, List.set_cons_zero, List.set_cons_succ, Nat.zero_add, Nat.reduceAdd]
             go_simp
             refine (some_any 6 A13 m13 c13 _ w4 (by omega) r13 (by have := r13.len1; have := hcl; omega)).mono ?_
             rintro e w5 ⟨A', m', c', rfl, ho', hb'⟩
             exact Step.of _ rfl ⟨A', m', c', rfl, ho'.rd⟩ ⟨hS4.1.call hb', hS4.2.below hb'⟩ hb'
      | 15 =>
             intro ho vs w4 hS4 hD
             obtain rfl := Option.some.inj ho
             obtain ⟨A0, m0, c0, d0, r0⟩ := hD 0 (by kernel_rfl) (by kernel_rfl)
             obtain ⟨A3, m3, c3, d3, r3⟩ := hD 3 (by kernel_rfl) (by kernel_rfl)
             obtain ⟨A6, m6, c6, d6, r6⟩ := hD 6 (by kernel_rfl) (by kernel_rfl)
             obtain ⟨A7, m7, c7, d7, r7⟩ := hD 7 (by kernel_rfl) (by kernel_rfl)
             obtain ⟨A11, m11, c11, d11, r11⟩ := hD 11 (by kernel_rfl) (by kernel_rfl)
             obtain ⟨A14, m14, c14, d14, r14⟩ := hD 14 (by kernel_rfl) (by kernel_rfl)
             simp only [putL, Act.put, List.setIfInBounds_toArray, List.set_cons_zero, List.set_cons_succ, Nat.zero_add, Nat.reduceAdd]
             go_simp
             have hb' : Below w4.heap.size w4 (w4.alloc (.cells #[.slice A0 m0 c0, .slice A3 m3 c3, .slice A6 m6 c6, .slice A7 m7 c7, .slice A11 m11 c11, .slice A14 m14 c14] 22)) := (Below.refl _ _).alloc (Nat.le_refl _) _
             have hrow := Rd.new w4 #[.slice A0 m0 c0, .slice A3 m3 c3, .slice A6 m6 c6, .slice A7 m7 c7, .slice A11 m11 c11, .slice A14 m14 c14] 22 1 6 w4.heap.size rfl rfl
             refine Step.of _ rfl ⟨some ⟨w4.heap.size, 0, none⟩, 6, [⟨A0, m0, c0, numB 1 2⟩, ⟨A3, m3, c3, fixB 2 (u64 hgt)⟩, ⟨A6, m6, c6, fixB 3 (u64 rnd)⟩, ⟨A7, m7, c7, []⟩, ⟨A11, m11, c11, msgB 5 (timeB s.sec s.nan)⟩, ⟨A14, m14, c14, txtB 6 chain.data.toList⟩], rfl, rfl, hrow.more (by simp), ?_⟩ ⟨hS4.1.call hb', hS4.2.below hb'⟩ hb'
             intro b hb
             simp only [List.mem_cons, List.not_mem_nil, or_false] at hb
             rcases hb with rfl | rfl | rfl | rfl | rfl | rfl
             · exact Bs.ok.below (b := ⟨A0, m0, c0, _⟩) r0 hb'
             · exact Bs.ok.below (b := ⟨A3, m3, c3, _⟩) r3 hb'
             · exact Bs.ok.below (b := ⟨A6, m6, c6, _⟩) r6 hb'
             · exact Bs.ok.below (b := ⟨A7, m7, c7, _⟩) r7 hb'
             · exact Bs.ok.below (b := ⟨A11, m11, c11, _⟩) r11 hb'
             · exact Bs.ok.below (b := ⟨A14, m14, c14, _⟩) r14 hb'
      | 16 =>
             intro ho vs w4 hS4 hD
             obtain rfl := Option.some.inj ho
             obtain ⟨A15, c15, l15, d15, e15, r15, k15⟩ := hD 15 (by kernel_rfl) (by kernel_rfl)
             simp only [putL, Act.put, List.setIfInBounds_toArray, List.set_cons_zero, List.set_cons_succ, Nat.zero_add, Nat.reduceAdd]
             go_simp
             refine (joined_fact _ A15 c15 l15 w4 e15 r15 k15 (by simp) ?_).mono ?_
             · intro y hy
               simp only [List.mem_cons, List.not_mem_nil, or_false] at hy
               rcases hy with rfl | rfl | rfl | rfl | rfl | rfl
               all_goals (first | (have := hlid; omega) | (have := numB_length 1 2 (by omega); omega) | (have := fixB_length 2 (u64 hgt); omega) | (have := fixB_length 3 (u64 rnd); omega) | (have := msgB_length 5 (timeB s.sec s.nan) (by have := timeB_length s.sec s.nan; omega); have := timeB_length s.sec s.nan; omega) | (have := txtB_length 6 chain.data.toList (by have := hcl; omega); have := hcl; omega))
             · rintro e w5 ⟨A', m', c', rfl, ho', hb'⟩
               exact Step.of _ rfl ⟨A', m', c', rfl, ho'.rd⟩ ⟨hS4.1.call hb', hS4.2.below hb'⟩ hb'
      | 17 =>
             intro ho vs w4 hS4 hD
             obtain rfl := Option.some.inj ho
             obtain ⟨A16, m16, c16, d16, r16⟩ := hD 16 (by kernel_rfl) (by kernel_rfl)
             simp only [putL, Act.put, List.setIfInBounds_toArray, List.set_cons_zero, List.set_cons_succ, Nat.zero_add, Nat.reduceAdd]
             go_simp
             exact Step.of _ rfl ⟨A16, m16, c16, rfl, r16⟩ hS4 (Below.refl _ _)
      | k + 18 =>
             intro ho; simp at ho
    · intro vs w4 hS4 hF
      obtain ⟨A17, m17, c17, e17, r17⟩ := hF 17 _ _ rfl rfl
      simp only [putL, Act.put, List.setIfInBounds_toArray, List.set_cons_zero, List.set_cons_succ, Nat.zero_add, Nat.reduceAdd]
      rw [e17]
      have HS4 := Lib.hid hS4; have HR17 := Lib.hid r17; clear hS4 r17 hF
      have hm17 := HR17.out.len1
      have hbl : (bodyOf chain.data.toList hgt rnd ([]) s.sec s.nan).length ≤ 5000 := bodyOf_length _ _ _ _ _ _ hcl hlid
      have hC := counted_any (m17 : Int) w4
      rw [u64_nat (show m17 < 18446744073709551616 by omega)] at hC
      have hl17 := vi_ten (show m17 < 18446744073709551616 by omega)
      have HC := Lib.hid hC; have HM := Lib.hid hm17; have HL := Lib.hid hl17; have HBL := Lib.hid hbl; clear hC hm17 hl17 hbl
      go_wp2_with fail
      refine HC.out.mono ?_
      rintro e w5 ⟨A5, m5, c5, rfl, ho5, hb5⟩
      have HO5 := Lib.hid ho5; have HB5 := Lib.hid hb5; clear ho5 hb5
      go_wp2_with (at_builtin; refine app8 _ rfl (.tmp 47) (.tmp 48) rfl w4.heap.size m5 c5 A5 _ rfl HO5.out w4.heap.size m17 c17 A17 _ rfl (Rd.below HR17.out HB5.out) (by have := HO5.out.len; have := HL.out; have := HM.out; have := HBL.out; omega) HB5.out.size ?_; intro A6 c6 w6 ho6 hg6)
      go_ret
      refine ⟨A6, m5 + m17, c6, rfl, ?_, HS4.out.1.2.2.trans ((HB5.out.grown hg6.1 HB5.out.size (fun k hk => (HO5.out.at_ k hk).1)).mono (by have := HS4.out.1.1.lt; omega))⟩
      rw [HM.out] at ho6
      have hmsg : msgOf (bodyOf chain.data.toList hgt rnd ([]) s.sec s.nan) = vi (bodyOf chain.data.toList hgt rnd ([]) s.sec s.nan).length ++ bodyOf chain.data.toList hgt rnd ([]) s.sec s.nan := rfl
      rw [hmsg, HM.out]
      exact Own8.more ho6 (by have := HS4.out.1.1.lt; omega)
end Go.Proofs.Ytikikddkhikfkaa
