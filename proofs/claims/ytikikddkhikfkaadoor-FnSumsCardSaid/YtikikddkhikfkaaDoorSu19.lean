/-
  Where the tree splits: walks of getSplitPoint (with the shelf's contract of bits.Len) and of the specification's Split. By the session. The package's tree of sums: hashFromByteSlices, HashFromByteSlices: walks. By the session. The specification's tree of sums: LeafSum, InnerSum, Split, Root: walks. By the session.
-/
import Derived.Test.YtikikddkhikfkaaDoorSu18
import Derived.Shelf.Small.Bits
import Derived.Test.YtikikddkhikfkaaDoorSu9
set_option linter.all false
namespace Go.Proofs.YtikikddkhikfkaaDoor
open Go.RowKit

def Tryd.lb_ren : Go.Shelf.Ren := ⟨fun | 125 => 123 | 128 => 127 | 129 => 128 | n => n, fun | 3 => 3 | 4 => 4 | 5 => 5 | 9 => 9 | 46 => 144 | 51 => 90 | 53 => 84 | n => n, fun n => n⟩
theorem Tryd.lb125 : Go.Proofs.Lays.n125 Tryd.prog Tryd.lb_ren := {
  mixed := by kernel_rfl
  f125 := Tryd.func123.trans (congrArg some (by kernel_rfl))
  f128 := Tryd.func127.trans (congrArg some (by kernel_rfl))
  f129 := Tryd.func128.trans (congrArg some (by kernel_rfl))
  t3 := Tryd.underlying3
  a3 := Tryd.isAgg3
  z3 := Tryd.sizeOf3
  v3 := Tryd.zeroValue3
  t4 := Tryd.underlying4
  a4 := Tryd.isAgg4
  z4 := Tryd.sizeOf4
  v4 := Tryd.zeroValue4
  t5 := Tryd.underlying5
  a5 := Tryd.isAgg5
  z5 := Tryd.sizeOf5
  v5 := Tryd.zeroValue5
  t9 := Tryd.underlying9
  a9 := Tryd.isAgg9
  z9 := Tryd.sizeOf9
  v9 := Tryd.zeroValue9
  t46 := Tryd.underlying144
  a46 := Tryd.isAgg144
  z46 := Tryd.sizeOf144
  v46 := Tryd.zeroValue144
  t51 := Tryd.underlying90
  a51 := Tryd.isAgg90
  z51 := Tryd.sizeOf90
  v51 := Tryd.zeroValue90
  t53 := Tryd.underlying84
  a53 := Tryd.isAgg84
  z53 := Tryd.sizeOf84
  v53 := Tryd.zeroValue84
}
theorem bitsLen_any (n : Nat) (w : World) (h : n ≤ 18446744073709551615) : Calls Tryd.prog 123 #[.int .u64 (n : Int)] w fun e w' => e = .returned (.int .i64 (Lib.bitLen n)) ∧ w' = w :=
  Any.bits_Len Tryd.lb125 (n : Int) w (by omega) (by omega)
theorem bitLen_log : ∀ (k n : Nat), 0 < n → n < 2 ^ k → k ≤ 64 → Lib.bitLen n = n.log2 + 1
  | 0, n, h0, h, _ => by simp at h; omega
  | k + 1, n, h0, h, hk => by
    have h64 : n < 2 ^ 64 := Nat.lt_of_lt_of_le h (Nat.pow_le_pow_right (by decide) hk)
    rw [Lib.bitLen_half n (by omega) h64, Nat.log2_def]
    by_cases h2 : 2 ≤ n
    · rw [if_pos h2, bitLen_log k (n / 2) (by omega) (by rw [Nat.pow_succ] at h; omega) (by omega)]; omega
    · have : n = 1 := by omega
      subst this; rfl
theorem split_pow {n : Nat} (h : 2 ≤ n) : (if 2 ^ n.log2 = n then 2 ^ n.log2 / 2 else 2 ^ n.log2) = splitN n := by
  have h1 : 2 ^ n.log2 ≤ n := Nat.log2_self_le (by omega)
  have h2 : n < 2 ^ (n.log2 + 1) := Nat.lt_log2_self
  rw [Nat.pow_succ] at h2
  split
  · rename_i he
    obtain ⟨b, hb⟩ : ∃ b, n.log2 = b + 1 := by
      rcases Nat.eq_zero_or_pos n.log2 with h0 | h0
      · rw [h0] at he; simp at he; omega
      · exact ⟨n.log2 - 1, by omega⟩
    rw [hb, Nat.pow_succ] at he ⊢
    rw [Nat.mul_div_cancel _ (by decide)]
    exact splitN_eq h (by have := Nat.one_le_two_pow (n := b); omega) (by omega)
  · exact splitN_eq h (by omega) (by omega)
set_option maxRecDepth 100000 in
set_option maxHeartbeats 1600000 in
theorem split_any (n : Nat) (w : World) (h2 : 2 ≤ n) (hn : n ≤ 1099511627776) : Calls Tryd.prog 114 #[.int .i64 (n : Int)] w fun e w' => e = .returned (.int .i64 (splitN n : Int)) ∧ w' = w := by
  have hs := split_pow h2
  have hl := bitLen_log 64 n (by omega) (by omega) (Nat.le_refl _)
  have h1 : 2 ^ n.log2 ≤ n := Nat.log2_self_le (by omega)
  have hlg : n.log2 ≤ 40 := by
    rcases Nat.lt_or_ge 40 n.log2 with h | h
    · have := Nat.pow_le_pow_right (n := 2) (by decide) h
      omega
    · exact h
  obtain ⟨j, hj⟩ : ∃ j, j = n.log2 := ⟨_, rfl⟩
  rw [← hj] at hs hl h1 hlg
  obtain ⟨q, hq⟩ : ∃ q, q = 2 ^ j := ⟨_, rfl⟩
  rw [← hq] at hs h1
  have e1 : IntKind.i64.wrap ((Lib.bitLen n : Nat) - 1 : Int) = (j : Int) := by rw [hl, IntKind.wrap_i64]; omega
  have HB := Lib.hid (bitsLen_any n)
  have HS := Lib.hid hs; have HQ := Lib.hid hq; have HL := Lib.hid hl; have HH := Lib.hid (And.intro h1 (And.intro hlg hn))
  have hn1 : 1 ≤ n := by omega
  clear hs hq hl hj
  go_enter Tryd.func114, Tryd.ntmps114
  go_wp2_with fail
  refine (HB.out w (by have := HH.out.2.2; omega)).mono ?_
  rintro e w1 ⟨rfl, rfl⟩
  have e2 : (j : Int) % 18446744073709551616 = (j : Int) := by have := HH.out.2.1; omega
  have hsh : (2 : Int) ^ j = (q : Int) := by rw [HQ.out]; simp
  have hq63 : (q : Int) ≤ 1099511627776 := by have := HH.out; omega
  by_cases hqn : q = n
  · go_wp2_with fail
    go_ret
    refine ⟨ret_int ?_, rfl⟩
    have h9 := HS.out
    rw [if_pos hqn] at h9
    omega
  · go_wp2_with fail
    go_ret
    refine ⟨ret_int ?_, rfl⟩
    have h9 := HS.out
    rw [if_neg hqn] at h9
    omega
end Go.Proofs.YtikikddkhikfkaaDoor

set_option linter.all false
namespace Go.Proofs.YtikikddkhikfkaaDoor
open Go.RowKit

/-- bytes as they lie in a list of slices -/
structure Sb where
  a : Option Addr
  c : Nat
  s : List UInt8
def Sb.cell (x : Sb) : Value := .slice x.a x.s.length x.c
/-- the slice's value at A, of n slices of bytes, reads as l; all of it lies below block B -/
def RdB (w : World) (B : Nat) (A : Option Addr) (n : Nat) (l : List Sb) : Prop :=
  Rd w B 1 A n (l.map Sb.cell) ∧ ∀ x ∈ l, Rd w B 1 x.a x.s.length (bc x.s) ∧ x.s.length ≤ x.c ∧ ∀ ad, x.a = some ad → ad.block < B
section
variable {w w' : World} {B n : Nat} {A : Option Addr} {l : List Sb}
theorem RdB.len (h : RdB w B A n l) : n = l.length := by have := h.1.1; rw [List.length_map] at this; omega
theorem RdB.keep (h : RdB w B A n l) (hk : ∀ p : Addr, p.block < B → w'.cell? p = w.cell? p) : RdB w' B A n l :=
  ⟨h.1.keep hk, fun x hx => ⟨(h.2 x hx).1.keep hk, (h.2 x hx).2⟩⟩
theorem RdB.grown {g : Nat} (h : RdB w B A n l) (hg : w.grownBy w' (some g)) (hB : B ≤ g) (hw : B ≤ w.heap.size) : RdB w' B A n l := by
  refine h.keep fun p hp => ?_
  have h1 := hg.block p.block (by omega) (by intro e; injection e with e; omega)
  unfold World.cell?
  rw [h1]
theorem RdB.below (h : RdB w B A n l) (hb : Below B w w') : RdB w' B A n l := h.keep fun _ hp => hb.cell hp
theorem RdB.take {k : Nat} (h : RdB w B A n l) (hk : k ≤ n) : RdB w B A k (l.take k) := by
  refine ⟨?_, fun x hx => h.2 x (List.mem_of_mem_take hx)⟩
  have h1 := h.1.take hk
  rw [Nat.mul_one, ← List.map_take] at h1
  exact h1
theorem RdB.drop {k : Nat} (h : RdB w B A n l) (hk : k ≤ n) (A' : Option Addr) (hA : k < n → A' = A.map (fun a => a.add k)) : RdB w B A' (n - k) (l.drop k) := by
  have hl := h.len
  refine ⟨⟨by rw [List.length_map, List.length_drop]; omega, fun j u hu => ?_⟩, fun x hx => h.2 x (List.mem_of_mem_drop hx)⟩
  have hj : j < l.length - k := by have := (List.getElem?_eq_some_iff.1 hu).1; rw [List.length_map, List.length_drop] at this; exact this
  rw [List.map_drop, List.getElem?_drop] at hu
  obtain ⟨ad, rfl, hb, hc⟩ := h.1.2 _ _ hu
  rw [hA (by omega)]
  exact ⟨_, rfl, by rw [add_block]; exact hb, by rw [add_add']; exact hc⟩
theorem RdB.sized {N : Nat} (h : RdB w B A n l) (hN : B ≤ N) : RdB w N A n l :=
  ⟨h.1.more hN, fun x hx => ⟨(h.2 x hx).1.more hN, (h.2 x hx).2.1, fun ad e => Nat.lt_of_lt_of_le ((h.2 x hx).2.2 ad e) hN⟩⟩
end
theorem DgAny.lt {w : World} {g : Nat} (h : DgAny w g) : g < w.heap.size := by obtain ⟨_, _, _, _, _, hb⟩ := h; exact hb.lt
theorem DgAny.belowS {w w' : World} {g : Nat} (h : DgAny w g) (hb : Below w.heap.size w w') : DgAny w' g := by
  obtain ⟨h0, x, nx, len, hx, hk⟩ := h
  exact ⟨h0, x, nx, len, hx, hk.belowS hb⟩
theorem Fresh32.then {w w1 w' : World} {A : Option Addr} {c g : Nat} {s : List UInt8} (h : Fresh32 w w1 A c s) (hg : w1.grownBy w' (some g)) (hgw : g < w.heap.size) : Fresh32 w w' A c s := by
  refine ⟨(h.1.grew hg ?_).sized, h.2.1, h.2.2⟩
  intro ad e e2
  injection e2 with e2
  have := h.2.1 ad e
  omega
theorem Fresh32.more {w w1 w' : World} {A : Option Addr} {c : Nat} {s : List UInt8} (h : Fresh32 w1 w' A c s) (hw : w.heap.size ≤ w1.heap.size) : Fresh32 w w' A c s :=
  ⟨h.1, fun ad e => Nat.le_trans hw (h.2.1 ad e), h.2.2⟩
/-- what a call on the tree leaves -/
def TreeQ (w : World) (gd : Nat) (s : List UInt8) (e : Ending) (w' : World) : Prop := ∃ A' c', e = .returned (.slice A' 32 c') ∧ Fresh32 w w' A' c' s ∧ DgAny w' gd ∧ w.grownBy w' (some gd)
set_option maxRecDepth 100000 in
set_option maxHeartbeats 6400000 in
theorem tree_any (gd B : Nat) (hB : B ≤ gd) (hgK : some gd ≠ some 3) (n : Nat) : ∀ (l : List Sb), n = l.length → n ≤ 1099511627776 → (∀ x ∈ l, x.s.length ≤ 35184372088832) → ∀ (A : Option Addr) (c : Nat) (w : World), RdB w B A n l → n ≤ c → DgAny w gd → Kw w →
    Calls Tryd.prog 95 #[.iface 182 (.pointer (some ⟨gd, 0, none⟩)), .slice A n c] w (TreeQ w gd (rootL (l.map Sb.s))) := by
  induction n using Nat.strongRecOn with
  | ind n ih =>
    intro l hn hk40 hbig A c w hr hc hd hK
    have IH := Lib.hid ih
    clear ih
    have HR := Lib.hid hr; have HD := Lib.hid hd; have HK := Lib.hid hK; have HBG := Lib.hid hbig
    have hgl := hd.lt
    have HN := Lib.hid (And.intro hn (And.intro hk40 (And.intro hc hgl)))
    clear hr hd hK hbig hgl hn hc
    by_cases h0 : n = 0
    · subst h0
      have hl : l = [] := List.eq_nil_of_length_eq_zero HN.out.1.symm
      have HL := Lib.hid hl
      clear hl
      go_enter Tryd.func95, Tryd.ntmps95
      go_wp2_with fail
      refine (emptyHash_any w HK.out).mono ?_
      rintro e w1 ⟨A1, c1, rfl, hf1, hb1⟩
      have HF := Lib.hid hf1; have HB1 := Lib.hid hb1
      clear hf1 hb1
      go_wp2_with fail
      go_ret
      refine ⟨A1, c1, rfl, ?_, HD.out.belowS HB1.out, grownAny_of HB1.out _⟩
      rw [HL.out, List.map_nil, rootL_nil]
      exact HF.out
    · by_cases h1 : n = 1
      · subst h1
        obtain ⟨x, hx⟩ : ∃ x, l = [x] := by
          have h2 := HN.out.1
          match l, h2 with
          | [x], _ => exact ⟨x, rfl⟩
        obtain ⟨ad, hA, hadB, hc0⟩ := HR.out.1.2 0 x.cell (by rw [hx]; rfl)
        subst hA
        have e0 : ad.add 0 = ad := by unfold Addr.add; simp
        rw [e0] at hc0
        unfold Sb.cell at hc0
        obtain ⟨hxr, hxc, hxb⟩ := HR.out.2 x (by rw [hx]; exact List.mem_cons_self ..)
        have HX := Lib.hid hx; have HXR := Lib.hid hxr.sized; have HXC := Lib.hid hxc; have HXB := Lib.hid hxb
        clear hx hxr hxc hxb h0
        go_enter Tryd.func95, Tryd.ntmps95
        go_wp2_with fail
        refine (leafOpt_any gd x.a x.s.length x.c x.s w HD.out HK.out hgK HXR.out HXC.out (HBG.out x (by rw [HX.out]; exact List.mem_cons_self ..)) (by intro ad e e2; injection e2 with e2; have := HXB.out ad e; omega)).mono ?_
        rintro e w1 ⟨A1, c1, rfl, hf1, hd1, hg1⟩
        have HF := Lib.hid hf1; have HD1 := Lib.hid hd1; have HG1 := Lib.hid hg1
        clear hf1 hd1 hg1
        go_wp2_with fail
        go_ret
        refine ⟨A1, c1, rfl, ?_, HD1.out, HG1.out⟩
        rw [HX.out]
        show Fresh32 _ _ _ _ (rootL [x.s])
        rw [rootL_one]
        exact HF.out
      · have hk1 := splitN_lt (n := n) (by omega)
        have hk2 := splitN_pos n
        have hroot := rootL_more (l := l.map Sb.s) (by rw [List.length_map, ← HN.out.1]; omega)
        rw [List.length_map, ← HN.out.1, ← List.map_take, ← List.map_drop] at hroot
        have HSP := Lib.hid (split_any n)
        obtain ⟨k, hk⟩ : ∃ k, k = splitN n := ⟨_, rfl⟩
        rw [← hk] at HSP hk1 hk2 hroot
        have hkc : (k : Int) ≤ (c : Int) := by have := HN.out; omega
        have hkn : (k : Int) ≤ (n : Int) := by omega
        have hck : ¬ c = k := by have := HN.out; omega
        have HKN := Lib.hid (And.intro hk1 hk2); have HRT := Lib.hid hroot
        clear hk hk1 hk2 hroot
        go_enter Tryd.func95, Tryd.ntmps95
        go_wp2_with fail
        refine (HSP.out w (by omega) HN.out.2.1).mono ?_
        rintro e w0 ⟨rfl, rfl⟩
        go_wp2_with fail
        refine (IH.out k HKN.out.1 (l.take k) (by rw [List.length_take]; have := HN.out.1; have := HKN.out; omega) (by have := HKN.out; omega) (fun x hx => HBG.out x (List.mem_of_mem_take hx)) A c w0 (HR.out.take (by have := HKN.out; omega)) (by have := HKN.out; have := HN.out; omega) HD.out HK.out).mono ?_
        rintro e w1 ⟨A1, c1, rfl, hf1, hd1, hg1⟩
        have HF1 := Lib.hid hf1; have HD1 := Lib.hid hd1; have HG1 := Lib.hid hg1
        have HK1 := Lib.hid (HK.out.grown hg1 hgK)
        have HR1 := Lib.hid (HR.out.grown hg1 hB (by have := HN.out; omega))
        clear hf1 hd1 hg1
        go_wp2_with fail
        refine (IH.out (n - k) (by have := HKN.out; omega) (l.drop k) (by rw [List.length_drop]; have := HN.out.1; omega) (by omega) (fun x hx => HBG.out x (List.mem_of_mem_drop hx)) _ (c - k) w1 (HR1.out.drop (by have := HKN.out; omega) _ (fun _ => rfl)) (by have := HN.out; omega) HD1.out HK1.out).mono ?_
        rintro e w2 ⟨A2, c2, rfl, hf2, hd2, hg2⟩
        have HF1' := Lib.hid (HF1.out.then hg2 HN.out.2.2.2)
        have HF2 := Lib.hid hf2; have HD2 := Lib.hid hd2; have HG2 := Lib.hid (HG1.out.trans hg2)
        have HK2 := Lib.hid (HK1.out.grown hg2 hgK)
        have HS1 := Lib.hid HG1.out.size
        clear hf2 hd2 hg2
        go_wp2_with fail
        refine (innerOpt_any gd A1 A2 32 c1 32 c2 _ _ w2 HD2.out HK2.out hgK HF1'.out.1 HF1'.out.2.2 (by decide) (by intro ad e e2; injection e2 with e2; have := HF1'.out.2.1 ad e; have := HN.out; omega) HF2.out.1 HF2.out.2.2 (by decide) (by intro ad e e2; injection e2 with e2; have := HF2.out.2.1 ad e; have := HN.out; have := HS1.out; omega)).mono ?_
        rintro e w3 ⟨A3, c3, rfl, hf3, hd3, hg3⟩
        have HF3 := Lib.hid hf3; have HD3 := Lib.hid hd3; have HG3 := Lib.hid (HG2.out.trans hg3)
        have HS2 := Lib.hid HG2.out.size
        clear hf3 hd3 hg3
        go_wp2_with fail
        go_ret
        refine ⟨A3, c3, rfl, ?_, HD3.out, HG3.out⟩
        rw [HRT.out]
        exact HF3.out.more HS2.out
set_option maxRecDepth 100000 in
theorem treeRoot_any (A : Option Addr) (c n : Nat) (l : List Sb) (w : World) (hr : RdB w w.heap.size A n l) (hc : n ≤ c) (hn : n ≤ 1099511627776) (hbig : ∀ x ∈ l, x.s.length ≤ 35184372088832) (hK : Kw w) :
    Calls Tryd.prog 67 #[.slice A n c] w fun e w' => ∃ A' c', e = .returned (.slice A' 32 c') ∧ Fresh32 w w' A' c' (rootL (l.map Sb.s)) ∧ Below w.heap.size w w' := by
  have HR := Lib.hid hr; have HN := Lib.hid (And.intro hc (And.intro hn hbig)); have HK := Lib.hid hK
  clear hr hc hn hbig hK
  go_enter Tryd.func67, Tryd.ntmps67
  go_wp2_with fail
  refine (new_any w).mono ?_
  rintro e w1 ⟨rfl, hd1, hb1⟩
  have HD1 := Lib.hid hd1; have HB1 := Lib.hid hb1
  clear hd1 hb1
  go_wp2_with fail
  refine (tree_any w.heap.size w.heap.size (Nat.le_refl _) (by intro e; injection e with e; have := HK.out.2; omega) n l HR.out.len HN.out.2.1 HN.out.2.2 A c w1 (HR.out.below HB1.out) HN.out.1 HD1.out.any (HK.out.belowS HB1.out)).mono ?_
  rintro e w2 ⟨A2, c2, rfl, hf2, hd2, hg2⟩
  have HF2 := Lib.hid (hf2.more HB1.out.size); have HB2 := Lib.hid (HB1.out.grown hg2 HB1.out.size (by intro k e; cases e; exact Nat.le_refl _))
  clear hf2 hd2 hg2
  go_wp2_with fail
  go_ret
  exact ⟨A2, c2, rfl, HF2.out, HB2.out⟩
end Go.Proofs.YtikikddkhikfkaaDoor

set_option linter.all false
namespace Go.Proofs.YtikikddkhikfkaaDoor
open Go.RowKit

theorem own_new1 (w : World) (b : UInt8) : Own8 (w.alloc (.cells (bc [b]).toArray 5)) w.heap.size (some ⟨w.heap.size, 0, none⟩) 1 1 [b] :=
  ⟨rfl, .inr ⟨w.heap.size, 1, (bc [b]).toArray, rfl, Nat.le_refl _, heap_alloc_new _ _, Nat.le_refl _, by decide, rfl, rfl⟩⟩
/-- bytes that a call has made -/
def MadeQ (w : World) (s : List UInt8) (e : Ending) (w' : World) : Prop := ∃ A' m c', e = .returned (.slice A' m c') ∧ Own8 w' w.heap.size A' m c' s ∧ Below w.heap.size w w'
set_option maxRecDepth 100000 in
set_option maxHeartbeats 1600000 in
theorem leafSum_any (A : Option Addr) (n c : Nat) (p : List UInt8) (w : World) (hr : Rd w w.heap.size 1 A n (bc p)) (hn : n ≤ 30000000000) :
    Calls Tryd.prog 25 #[.slice A n c] w (MadeQ w (leafL p)) := by
  have HR := Lib.hid hr; have HN := Lib.hid hn
  have hb0 : Below w.heap.size w (w.alloc (.cells (bc [0]).toArray 5)) := (Below.refl _ _).alloc (Nat.le_refl _) _
  have HB0 := Lib.hid hb0; have HO0 := Lib.hid (own_new1 w 0)
  have HR0 := Lib.hid (hr.below hb0)
  clear hr hn hb0
  go_enter Tryd.func25, Tryd.ntmps25
  go_wp2_with (at_builtin; refine app8w _ rfl (.tmp 3) (.tmp 4) rfl w.heap.size 1 1 (some ⟨w.heap.size, 0, none⟩) [0] rfl HO0.out w.heap.size n c A p rfl HR0.out (by have := HN.out; omega) HB0.out.size ?_; intro A2 c2 w2 hown2 hg2; have HO2 := Lib.hid hown2; have HB2 := Lib.hid (HB0.out.grown hg2.1 HB0.out.size (by intro k e; cases e; exact Nat.le_refl _)); clear hown2 hg2)
  refine (sum_any A2 (1 + n) c2 ([0] ++ p) w2 HO2.out.rd (by have := HN.out; omega)).mono ?_
  rintro e w3 ⟨A3, m3, c3, rfl, ho3, hb3⟩
  have HO3 := Lib.hid (ho3.more HB2.out.size); have HB3 := Lib.hid (HB2.out.trans (hb3.mono HB2.out.size))
  clear ho3 hb3
  go_wp2_with fail
  go_ret
  exact ⟨A3, m3, c3, rfl, HO3.out, HB3.out⟩
set_option maxRecDepth 100000 in
set_option maxHeartbeats 1600000 in
theorem innerSum_any (A : Option Addr) (n c : Nat) (p : List UInt8) (A' : Option Addr) (n' c' : Nat) (p' : List UInt8) (w : World) (hr : Rd w w.heap.size 1 A n (bc p)) (hn : n ≤ 1000000) (hr' : Rd w w.heap.size 1 A' n' (bc p')) (hn' : n' ≤ 1000000) :
    Calls Tryd.prog 63 #[.slice A n c, .slice A' n' c'] w (MadeQ w (innerL p p')) := by
  have HN := Lib.hid (And.intro hn hn')
  have hb0 : Below w.heap.size w (w.alloc (.cells (bc [1]).toArray 5)) := (Below.refl _ _).alloc (Nat.le_refl _) _
  have HB0 := Lib.hid hb0; have HO0 := Lib.hid (own_new1 w 1)
  have HR0 := Lib.hid (hr.below hb0); have HR0' := Lib.hid hr'
  clear hr hn hr' hn' hb0
  go_enter Tryd.func63, Tryd.ntmps63
  go_wp2_with (at_builtin; first
    | (refine app8w _ rfl (.tmp 5) (.tmp 6) rfl w.heap.size 1 1 (some ⟨w.heap.size, 0, none⟩) [1] rfl HO0.out w.heap.size n c A p rfl HR0.out (by have := HN.out; omega) HB0.out.size ?_; intro A2 c2 w2 hown2 hg2; have HO2 := Lib.hid hown2; have HB2 := Lib.hid (HB0.out.grown hg2.1 HB0.out.size (by intro k e; cases e; exact Nat.le_refl _)); clear hown2 hg2)
    | (refine app8w _ rfl (.tmp 7) (.tmp 8) rfl w.heap.size (1 + n) c2 A2 ([1] ++ p) rfl HO2.out w.heap.size n' c' A' p' rfl (HR0'.out.below HB2.out) (by have := HN.out; omega) HB2.out.size ?_; intro A4 c4 w4 hown4 hg4; have HO4 := Lib.hid hown4; have HB4 := Lib.hid (HB2.out.grown hg4.1 HB2.out.size (fun k e => (HO2.out.at_ k e).1)); clear hown4 hg4))
  refine (sum_any A4 (1 + n + n') c4 ([1] ++ p ++ p') w4 HO4.out.rd (by have := HN.out; omega)).mono ?_
  rintro e w3 ⟨A3, m3, c3, rfl, ho3, hb3⟩
  have HO3 := Lib.hid (ho3.more HB4.out.size); have HB3 := Lib.hid (HB4.out.trans (hb3.mono HB4.out.size))
  clear ho3 hb3
  go_wp2_with fail
  go_ret
  exact ⟨A3, m3, c3, rfl, HO3.out, HB3.out⟩
set_option maxRecDepth 100000 in
set_option maxHeartbeats 1600000 in
theorem ssplit_any (n : Nat) (w : World) (h2 : 2 ≤ n) (hn : n ≤ 1099511627776) : Calls Tryd.prog 62 #[.int .i64 (n : Int)] w fun e w' => e = .returned (.int .i64 (splitN n : Int)) ∧ w' = w := by
  have HN := Lib.hid (And.intro h2 hn)
  clear h2 hn
  go_enter Tryd.func62, Tryd.ntmps62
  go_wp2_with fail
  go_loopw [3] (fun k wr => ∃ (j q : Nat), k = .int .i64 (q : Int) ∧ Hid (q = 2 ^ j ∧ q < n) ∧ wr = w) (fun k _ => n - (intOf k).toNat)
  case atStart => exact ⟨0, 1, rfl, Lib.hid ⟨rfl, by have := HN.out; omega⟩, rfl⟩
  case round =>
    obtain ⟨j, q, rfl, hq, rfl⟩ := hrel
    have HQ := hq
    obtain ⟨q2, hq2⟩ : ∃ q2, q2 = q * 2 := ⟨_, rfl⟩
    have e1 : (q : Int) * 2 = (q2 : Int) := by omega
    have e2 : IntKind.i64.wrap (q2 : Int) = (q2 : Int) := by have := HN.out; have := HQ.out.2; rw [IntKind.wrap_i64]; omega
    have hq0 : 0 < q := by rw [HQ.out.1]; exact Nat.one_le_two_pow
    have HQ2 := Lib.hid hq2; have HQ0 := Lib.hid hq0
    clear hq hq2 hq0
    by_cases hlt : q2 < n
    · go_wp2_with fail
      refine ⟨⟨j + 1, q2, rfl, Lib.hid ⟨by rw [HQ2.out, HQ.out.1, Nat.pow_succ], hlt⟩, trivial⟩, ?_⟩
      have := HQ2.out; have := HQ0.out; have := HQ.out.2
      simp [intOf]; omega
    · go_wp2_with fail
      go_ret
      refine ⟨ret_int ?_, rfl⟩
      have h1 := HQ.out; have h2 := HN.out; have h3 := HQ2.out
      have h5 : q = splitN n := HQ.out.1.trans (splitN_eq (n := n) (a := j) h2.1 (by rw [← HQ.out.1]; exact HQ.out.2) (by rw [← HQ.out.1]; omega))
      rw [← h5]
theorem MadeQ.more {w w1 : World} {s : List UInt8} {e : Ending} {w' : World} (h : MadeQ w1 s e w') (hb : Below w.heap.size w w1) : MadeQ w s e w' := by
  obtain ⟨A, m, c, he, ho, hb1⟩ := h
  exact ⟨A, m, c, he, ho.more hb.size, hb.trans (hb1.mono hb.size)⟩
set_option maxRecDepth 100000 in
set_option maxHeartbeats 6400000 in
theorem sroot_any (n : Nat) : ∀ (l : List Sb), n = l.length → n ≤ 1099511627776 → (∀ x ∈ l, x.s.length ≤ 30000000000) → ∀ (A : Option Addr) (c : Nat) (w : World), RdB w w.heap.size A n l → n ≤ c →
    Calls Tryd.prog 22 #[.slice A n c] w (MadeQ w (rootL (l.map Sb.s))) := by
  induction n using Nat.strongRecOn with
  | ind n ih =>
    intro l hn hk40 hbig A c w hr hc
    have IH := Lib.hid ih
    clear ih
    have HR := Lib.hid hr; have HBG := Lib.hid hbig
    have HN := Lib.hid (And.intro hn (And.intro hk40 hc))
    clear hr hbig hn hc
    by_cases h0 : n = 0
    · subst h0
      have hl : l = [] := List.eq_nil_of_length_eq_zero HN.out.1.symm
      have HL := Lib.hid hl
      clear hl
      go_enter Tryd.func22, Tryd.ntmps22
      go_wp2_with fail
      refine (sum_any none 0 0 [] w (Rd.nil _ _ _ _) (by decide)).mono ?_
      rintro e w1 ⟨A1, m1, c1, rfl, ho1, hb1⟩
      have HO := Lib.hid ho1; have HB1 := Lib.hid hb1
      clear ho1 hb1
      go_wp2_with fail
      go_ret
      refine ⟨A1, m1, c1, rfl, ?_, HB1.out⟩
      rw [HL.out, List.map_nil, rootL_nil]
      exact HO.out
    · by_cases h1 : n = 1
      · subst h1
        obtain ⟨x, hx⟩ : ∃ x, l = [x] := by
          have h2 := HN.out.1
          match l, h2 with
          | [x], _ => exact ⟨x, rfl⟩
        obtain ⟨ad, hA, hadB, hc0⟩ := HR.out.1.2 0 x.cell (by rw [hx]; rfl)
        subst hA
        have e0 : ad.add 0 = ad := by unfold Addr.add; simp
        rw [e0] at hc0
        unfold Sb.cell at hc0
        obtain ⟨hxr, hxc, hxb⟩ := HR.out.2 x (by rw [hx]; exact List.mem_cons_self ..)
        have HX := Lib.hid hx; have HXR := Lib.hid hxr.sized
        clear hx hxr hxc hxb h0
        go_enter Tryd.func22, Tryd.ntmps22
        go_wp2_with fail
        refine (leafSum_any x.a x.s.length x.c x.s w HXR.out (HBG.out x (by rw [HX.out]; exact List.mem_cons_self ..))).mono ?_
        rintro e w1 ⟨A1, m1, c1, rfl, ho1, hb1⟩
        have HO := Lib.hid ho1; have HB1 := Lib.hid hb1
        clear ho1 hb1
        go_wp2_with fail
        go_ret
        refine ⟨A1, m1, c1, rfl, ?_, HB1.out⟩
        rw [HX.out]
        show Own8 _ _ _ _ _ (rootL [x.s])
        rw [rootL_one]
        exact HO.out
      · have hk1 := splitN_lt (n := n) (by omega)
        have hk2 := splitN_pos n
        have hroot := rootL_more (l := l.map Sb.s) (by rw [List.length_map, ← HN.out.1]; omega)
        rw [List.length_map, ← HN.out.1, ← List.map_take, ← List.map_drop] at hroot
        have HSP := Lib.hid (ssplit_any n)
        obtain ⟨k, hk⟩ : ∃ k, k = splitN n := ⟨_, rfl⟩
        rw [← hk] at HSP hk1 hk2 hroot
        have hkc : (k : Int) ≤ (c : Int) := by have := HN.out; omega
        have hkn : (k : Int) ≤ (n : Int) := by omega
        have hck : ¬ c = k := by have := HN.out; omega
        have HKN := Lib.hid (And.intro hk1 hk2); have HRT := Lib.hid hroot
        have hcl : ∀ W, Below w.heap.size w W → Calls Tryd.prog 22 #[.slice A k c] W (MadeQ W (rootL ((l.take k).map Sb.s))) := fun W hW =>
          IH.out k HKN.out.1 (l.take k) (by rw [List.length_take]; have := HN.out.1; have := HKN.out; omega) (by have := HKN.out; omega) (fun x hx => HBG.out x (List.mem_of_mem_take hx)) A c W (((HR.out.take (by have := HKN.out; omega)).below hW).sized hW.size) (by have := HKN.out; have := HN.out; omega)
        have hcr : ∀ W, Below w.heap.size w W → Calls Tryd.prog 22 #[.slice (A.map fun x => x.add k) (n - k) (c - k)] W (MadeQ W (rootL ((l.drop k).map Sb.s))) := fun W hW =>
          IH.out (n - k) (by have := HKN.out; omega) (l.drop k) (by rw [List.length_drop]; have := HN.out.1; omega) (by omega) (fun x hx => HBG.out x (List.mem_of_mem_drop hx)) _ (c - k) W (((HR.out.drop (by have := HKN.out; omega) _ (fun _ => rfl)).below hW).sized hW.size) (by have := HN.out; omega)
        have HCL := Lib.hid hcl; have HCR := Lib.hid hcr
        have hB0 : Below w.heap.size w w.drew := (Below.refl _ _).drew
        have HB0 := Lib.hid hB0
        clear hk hk1 hk2 hroot hcl hcr hB0
        go_enter Tryd.func22, Tryd.ntmps22
        go_wp2_with fail
        refine (HSP.out w (by omega) HN.out.2.1).mono ?_
        rintro e w0 ⟨rfl, rfl⟩
        go_wp2_with fail
        go_region_with (first
          | (go_at_call_of 22 (Value.slice A k c); refine (HCL.out _ ?qb).mono ?_; (case qb => first | exact HBR.out | exact HB0.out); rintro e wl ⟨A1, m1, c1, rfl, ho1, hb1⟩; have HO1 := Lib.hid ho1; have HB1 := Lib.hid hb1; have HBL := Lib.hid ((by first | exact HBR.out | exact HB0.out : Below _ _ _).trans (hb1.mono (by first | exact HBR.out.size | exact HB0.out.size))); clear ho1 hb1)
          | (go_at_call_of 22 (Value.slice (A.map fun x => x.add k) (n - k) (c - k)); refine (HCR.out _ ?qb).mono ?_; (case qb => first | exact HBL.out | exact HB0.out); rintro e wr ⟨A2, m2, c2, rfl, ho2, hb2⟩; have HO2 := Lib.hid ho2; have HB2 := Lib.hid hb2; have HBR := Lib.hid ((by first | exact HBL.out | exact HB0.out : Below _ _ _).trans (hb2.mono (by first | exact HBL.out.size | exact HB0.out.size))); clear ho2 hb2)
          | (go_at_call 63; refine (innerSum_any A1 m1 c1 (rootL ((l.take k).map Sb.s)) A2 m2 c2 (rootL ((l.drop k).map Sb.s)) _ ?qx ?qm ?qy ?qn).mono ?_; (case qx => first | exact HO1.out.rd | exact (HO1.out.below HB2.out (Nat.le_refl _)).rd); (case qy => first | exact HO2.out.rd | exact (HO2.out.below HB1.out (Nat.le_refl _)).rd); (case qm => rw [HO1.out.len, rootL_length]; decide); (case qn => rw [HO2.out.len, rootL_length]; decide); rintro e w5 ⟨A5, m5, c5, rfl, ho5, hb5⟩))
        all_goals
          have hbb : Below w0.heap.size w0 w5 := by first | exact HBR.out.trans (hb5.mono HBR.out.size) | exact HBL.out.trans (hb5.mono HBL.out.size)
          have HO5 := Lib.hid ho5; have HBB := Lib.hid hbb
          clear ho5 hb5 hbb
          go_wp2_with fail
          go_ret
          refine ⟨A5, m5, c5, rfl, ?_, HBB.out⟩
          rw [HRT.out]
          exact HO5.out.more (by first | exact HBR.out.size | exact HBL.out.size)
end Go.Proofs.YtikikddkhikfkaaDoor
