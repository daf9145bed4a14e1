/-
  impl.Message, and the laws' tests of sizes for a commit: walks. By the session.
-/
import Derived.Test.YtikikddkhikfkaaCom
set_option linter.all false
namespace Go.Proofs.Ytikikddkhikfkaa
open Go.RowKit

set_option maxRecDepth 100000 in
set_option maxHeartbeats 1600000 in
theorem imessage_any (chain : ByteArray) (hgt rnd : Int) (b : Bk) (A : Option Addr) (n c : Nat) (l : List Sg) (k : Nat) (s : Sg) (w : World) (hr : Rd w w.heap.size 5 A n (signsOf l)) (hn : n ≤ 1000) (hk : l[k]? = some s) (hrd : -2147483648 ≤ rnd ∧ rnd ≤ 2147483647)
    (hl : ∀ s ∈ l, (s.flag = 1 ∨ s.flag = 2 ∨ s.flag = 3) ∧ (-4611686018427387904 ≤ s.sec ∧ s.sec ≤ 4611686018427387904) ∧ (0 ≤ s.nan ∧ s.nan ≤ 2147483647)) (hb : b.good) (hbok : b.ok w w.heap.size) (hh : in64' hgt) (hcl : chain.size ≤ 1000) :
    Calls Try.prog 10 #[.string chain, .agg #[.int .i64 hgt, .int .i64 rnd, .slice b.S b.sum.length b.sc, .int .i64 b.parts, .slice b.R b.root.length b.rc, .slice A n c], .int .i64 k] w fun e w' => ∃ A m c, e = .returned (.slice A m c) ∧ Own8 w' w.heap.size A m c (msgOf (bodyOf chain.data.toList hgt rnd (idOf s.flag b) s.sec s.nan)) ∧ Below w.heap.size w w' := by
  have hkn : k < n := by have := hr.slen; have := (List.getElem?_eq_some_iff.1 hk).1; omega
  have hwk : IntKind.i32.wrap (k : Int) = k := by rw [IntKind.wrap_i32]; omega
  have hp : 0 ≤ b.parts ∧ b.parts ≤ 4294967295 := by rcases hb with h | h <;> omega
  have hls := hl s (List.mem_of_getElem? hk)
  have hb1 := (Below.refl w.heap.size w).alloc (Nat.le_refl _) (.cells #[.int .i64 hgt, .int .i64 rnd, .slice b.S b.sum.length b.sc, .int .i64 b.parts, .slice b.R b.root.length b.rc, .slice A n c] 27)
  have K := Lib.hid (icommit_any hgt rnd b A n c l _ ((Rd.below hr hb1).more hb1.size) hn hp hrd hl)
  have HBK := Lib.hid hbok; have HGOOD := Lib.hid hb; have HB1 := Lib.hid hb1; have HK := Lib.hid hk; have HLS := Lib.hid hls
  clear hr hl hbok hb hb1 hk hls
  unfold ptrTo comCells at K
  go_enter Try.func10, Try.ntmps10
  go_wp2_with fail
  refine K.out.mono ?_
  rintro e w1 ⟨g, A1, c1, l', rfl, hg, hrow, hrel, hb2⟩
  obtain ⟨s', hs', hcs⟩ := hrel.2 k s HK.out
  have hbw := HB1.out.trans (hb2.mono HB1.out.size)
  have K2 := comsign_any g hgt rnd b A1 n c1 l' k s' chain w1 hg hrow hs' hkn hn (by rw [hcs.flag]; exact HLS.out.1) HGOOD.out (HBK.out.below hbw) hrd hh (by rw [hcs.sec]; exact HLS.out.2.1) (by rw [hcs.nan]; exact HLS.out.2.2) hcl
  rw [hcs.flag, hcs.sec, hcs.nan] at K2
  unfold ptrTo at K2
  have K2 := Lib.hid K2; have HBW := Lib.hid hbw
  clear hg hrow hrel hs' hcs hb2 hbw
  go_wp2_with fail
  refine K2.out.mono ?_
  rintro e w2 ⟨A2, m2, c2, rfl, ho2, hb3⟩
  have HO2 := Lib.hid (ho2.more HBW.out.size); have HB3 := Lib.hid (HBW.out.trans (hb3.mono HBW.out.size)); clear ho2 hb3
  go_wp2
  go_ret
  exact ⟨A2, m2, c2, rfl, HO2.out, HB3.out⟩

/-! sizes -/
def fit6 (s : Sg) : Bool := !(decide (2147483647 < s.adr.size)) && !(decide (2147483647 < s.sig.length))
set_option maxHeartbeats 800000 in
theorem fits6_any (s : Sg) (w : World) (h1 : s.adr.size ≤ 9223372036854775807) (h2 : s.sig.length ≤ 9223372036854775807) :
    Calls Try.prog 53 #[.agg #[.int .i64 s.flag, .string s.adr, .int .i64 s.sec, .int .i64 s.nan, .slice s.S s.sig.length s.sc]] w fun e w' => e = .returned (.bool (fit6 s)) ∧ Below w.heap.size w w' := by
  by_cases h3 : 2147483647 < s.adr.size
  · go_enter Try.func53, Try.ntmps53
    go_wp2
    go_ret
    exact ⟨ret_bool (by simp [fit6, h3]), (Below.refl _ _).alloc (Nat.le_refl _) _⟩
  · by_cases h4 : 2147483647 < s.sig.length
    · go_enter Try.func53, Try.ntmps53
      go_wp2
      go_ret
      exact ⟨ret_bool (by simp [fit6, h4]), (Below.refl _ _).alloc (Nat.le_refl _) _⟩
    · go_enter Try.func53, Try.ntmps53
      go_wp2
      go_ret
      exact ⟨ret_bool (by simp [fit6]; omega), (Below.refl _ _).alloc (Nat.le_refl _) _⟩
def fit4 (b : Bk) : Bool := !(decide (2147483647 < b.sum.length)) && !(decide (2147483647 < b.root.length))
set_option maxHeartbeats 800000 in
theorem fits4_any (b : Bk) (w : World) (h1 : b.sum.length ≤ 9223372036854775807) (h2 : b.root.length ≤ 9223372036854775807) :
    Calls Try.prog 23 #[.agg #[.slice b.S b.sum.length b.sc, .int .i64 b.parts, .slice b.R b.root.length b.rc]] w fun e w' => e = .returned (.bool (fit4 b)) ∧ Below w.heap.size w w' := by
  by_cases h3 : 2147483647 < b.sum.length
  · go_enter Try.func23, Try.ntmps23
    go_wp2
    go_ret
    exact ⟨ret_bool (by simp [fit4, h3]), (Below.refl _ _).alloc (Nat.le_refl _) _⟩
  · by_cases h4 : 2147483647 < b.root.length
    · go_enter Try.func23, Try.ntmps23
      go_wp2
      go_ret
      exact ⟨ret_bool (by simp [fit4, h4]), (Below.refl _ _).alloc (Nat.le_refl _) _⟩
    · go_enter Try.func23, Try.ntmps23
      go_wp2
      go_ret
      exact ⟨ret_bool (by simp [fit4]; omega), (Below.refl _ _).alloc (Nat.le_refl _) _⟩
def fit5 (l : List Sg) : Bool := !(decide (2147483647 < l.length)) && l.all fit6
set_option maxHeartbeats 800000 in
theorem fits5_any (l : List Sg) (A : Option Addr) (n c : Nat) (w : World) (hr : Rd w w.heap.size 5 A n (signsOf l)) (hn : n ≤ 9223372036854775807) (hs : ∀ x ∈ l, x.adr.size ≤ 9223372036854775807 ∧ x.sig.length ≤ 9223372036854775807) :
    Calls Try.prog 24 #[.slice A n c] w fun e w' => e = .returned (.bool (fit5 l)) ∧ Below w.heap.size w w' := by
  have HL := Lib.hid hr.slen
  have HR := Lib.hid hr; clear hr
  have HS := Lib.hid hs; clear hs
  by_cases hbig : 2147483647 < n
  · have HF : Hid (fit5 l = false) := by
      have := HL.out
      show _ = _
      simp [fit5]; omega
    go_enter Try.func24, Try.ntmps24
    go_wp2
    go_ret
    exact ⟨ret_bool HF.out.symm, Below.refl _ _⟩
  · have hbig' : n ≤ 2147483647 := by omega
    have HF : Hid (fit5 l = l.all fit6) := by
      have := HL.out
      show _ = _
      have e : decide (2147483647 < l.length) = false := by simp; omega
      simp [fit5, e]
    clear hbig
    go_enter Try.func24, Try.ntmps24
    go_wp2
    go_loopw [10] (fun i wr => ∃ k : Nat, k ≤ n ∧ i = .int .i64 k ∧ Hid ((l.take k).all fit6 = true) ∧ Hid (Below w.heap.size w wr)) (fun i _ => n - (intOf i).toNat)
    case atStart => exact ⟨0, Nat.zero_le _, rfl, rfl, Below.refl _ _⟩
    case round =>
      obtain ⟨k, hk, rfl, HA, hb⟩ := hrel
      have hz := hb.out.size
      by_cases hlt : k < n
      · have hk' : k < l.length := by have := HL.out; omega
        have hx : l[k]? = some l[k] := List.getElem?_eq_getElem hk'
        obtain ⟨ad, rfl, _, c0, c1, c2, c3, c4⟩ := (HR.out.below hb.out).sign hx
        have hbx := HS.out _ (List.getElem_mem hk')
        have hst : (l.take (k + 1)).all fit6 = fit6 l[k] := by
          rw [List.take_succ_eq_append_getElem hk', List.all_append, HA.out]; simp
        have hmem : l[k] ∈ l := List.getElem_mem hk'
        generalize l[k] = x at *
        have HST := Lib.hid hst; have HX := Lib.hid hx; have HMEM := Lib.hid hmem
        clear hst hx hmem
        have KC := Lib.hid (fun W => fits6_any x W hbx.1 hbx.2)
        cases hf : fit6 x with
        | false =>
          rw [hf] at KC HST
          go_wp2_with fail
          refine (KC.out _).mono ?_
          rintro e w1 ⟨rfl, hb1⟩
          have HB1 := Lib.hid ((hb.out.alloc hz (.cells #[.int .i64 x.flag, .string x.adr, .int .i64 x.sec, .int .i64 x.nan, .slice x.S x.sig.length x.sc] 66)).trans (hb1.mono (by simp; omega)))
          clear hb1
          go_wp2
          go_ret
          exact ⟨ret_bool (by rw [HF.out]; symm; rw [List.all_eq_false]; exact ⟨x, HMEM.out, by rw [hf]; simp⟩), HB1.out⟩
        | true =>
          rw [hf] at KC HST
          go_wp2_with fail
          refine (KC.out _).mono ?_
          rintro e w1 ⟨rfl, hb1⟩
          have HB1 := Lib.hid ((hb.out.alloc hz (.cells #[.int .i64 x.flag, .string x.adr, .int .i64 x.sec, .int .i64 x.nan, .slice x.S x.sig.length x.sc] 66)).trans (hb1.mono (by simp; omega)))
          clear hb1
          go_wp2
          go_roundw
          case rel => exact ⟨k + 1, by omega, by go_num, HST.out, HB1.out⟩
          case measure => simp [intOf]; omega
      · obtain rfl : k = n := by omega
        have hall : l.all fit6 = true := by
          have := HA.out
          rwa [List.take_of_length_le (by have := HL.out; omega)] at this
        have HALL := Lib.hid hall; clear hall
        go_wp2
        go_ret
        exact ⟨ret_bool (by rw [HF.out, HALL.out]), hb.out⟩
def fit3 (b : Bk) (l : List Sg) : Bool := fit4 b && fit5 l
set_option maxHeartbeats 800000 in
theorem fits3_any (hgt rnd : Int) (b : Bk) (l : List Sg) (A : Option Addr) (n c : Nat) (w : World) (hr : Rd w w.heap.size 5 A n (signsOf l)) (hn : n ≤ 9223372036854775807) (hs : ∀ x ∈ l, x.adr.size ≤ 9223372036854775807 ∧ x.sig.length ≤ 9223372036854775807) (h1 : b.sum.length ≤ 9223372036854775807) (h2 : b.root.length ≤ 9223372036854775807) :
    Calls Try.prog 7 #[.agg #[.int .i64 hgt, .int .i64 rnd, .slice b.S b.sum.length b.sc, .int .i64 b.parts, .slice b.R b.root.length b.rc, .slice A n c]] w fun e w' => e = .returned (.bool (fit3 b l)) ∧ Below w.heap.size w w' := by
  have K1 := Lib.hid (fun W => fits4_any b W h1 h2)
  have hs0 := SB.start w 27 #[.int .i64 hgt, .int .i64 rnd, .slice b.S b.sum.length b.sc, .int .i64 b.parts, .slice b.R b.root.length b.rc, .slice A n c]
  have HS0 := Lib.hid hs0; have HR := Lib.hid hr; have HSS := Lib.hid hs
  clear hs0 hr hs
  cases hf : fit4 b with
  | false =>
    rw [hf] at K1
    have hf3 : Hid (fit3 b l = false) := by show _ = _; unfold fit3; rw [hf]; rfl
    go_enter Try.func7, Try.ntmps7
    go_wp2_with fail
    refine (K1.out _).mono ?_
    rintro e w1 ⟨rfl, hb1⟩
    have HS1 := Lib.hid (HS0.out.call hb1); clear hb1
    go_wp2
    go_ret
    exact ⟨ret_bool hf3.out.symm, HS1.out.2⟩
  | true =>
    rw [hf] at K1
    have hf3 : Hid (fit3 b l = fit5 l) := by show _ = _; unfold fit3; rw [hf]; rfl
    go_enter Try.func7, Try.ntmps7
    go_wp2_with fail
    refine (K1.out _).mono ?_
    rintro e w1 ⟨rfl, hb1⟩
    have hs1 := HS0.out.call hb1
    have q5 : w1.cell? ⟨w.heap.size, 5, none⟩ = some (.slice A n c) := hs1.1.cell 5
    have K2 := Lib.hid (fits5_any l A n c w1 ((HR.out.below hs1.2).more hs1.2.size) hn HSS.out)
    have HS1 := Lib.hid hs1; clear hb1 hs1
    cases hf5 : fit5 l with
    | false =>
      rw [hf5] at K2 hf3
      go_wp2_with fail
      refine K2.out.mono ?_
      rintro e w2 ⟨rfl, hb2⟩
      have HS2 := Lib.hid (HS1.out.call hb2); clear hb2
      go_wp2
      go_ret
      exact ⟨ret_bool hf3.out.symm, HS2.out.2⟩
    | true =>
      rw [hf5] at K2 hf3
      go_wp2_with fail
      refine K2.out.mono ?_
      rintro e w2 ⟨rfl, hb2⟩
      have HS2 := Lib.hid (HS1.out.call hb2); clear hb2
      go_wp2
      go_ret
      exact ⟨ret_bool hf3.out.symm, HS2.out.2⟩
end Go.Proofs.Ytikikddkhikfkaa
