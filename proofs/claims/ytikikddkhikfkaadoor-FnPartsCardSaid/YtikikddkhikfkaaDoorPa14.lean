/-
  Where the tree splits: walks of getSplitPoint (with the shelf's contract of bits.Len) and of the specification's Split. By the session. The package's tree of sums: hashFromByteSlices, HashFromByteSlices: walks. By the session. From a leaf up to the root with the sums beside the way: computeHashFromAunts: the walk. Printed by gen_climb.py. By the session.
-/
import Derived.Test.YtikikddkhikfkaaDoorPa13
import Derived.Shelf.Small.Bits
import Derived.Test.YtikikddkhikfkaaDoorPa2
set_option linter.all false
namespace Go.Proofs.YtikikddkhikfkaaDoor
open Go.RowKit

def Tryd.lb_ren : Go.Shelf.Ren := ⟨fun | 125 => 123 | 128 => 127 | 129 => 128 | n => n, fun | 3 => 3 | 4 => 4 | 5 => 5 | 9 => 9 | 46 => 144 | 51 => 90 | 53 => 84 | n => n, fun n => n⟩
theorem Tryd.lb125 : Go.Proofs.Lays.n125 Tryd.prog Tryd.lb_ren := {
  mixed := by kernel_rfl
  f125 := Tryd.func123.trans (congrArg some (by kernel_rfl))
  f128 := Tryd.func127.trans (congrArg some (by kernel_rfl))
  f129 := Tryd.func128.trans (congrArg some (by kernel_rfl))
  t3 := Tryd.underlying3
  a3 := Tryd.isAgg3
  z3 := Tryd.sizeOf3
  v3 := Tryd.zeroValue3
  t4 := Tryd.underlying4
  a4 := Tryd.isAgg4
  z4 := Tryd.sizeOf4
  v4 := Tryd.zeroValue4
  t5 := Tryd.underlying5
  a5 := Tryd.isAgg5
  z5 := Tryd.sizeOf5
  v5 := Tryd.zeroValue5
  t9 := Tryd.underlying9
  a9 := Tryd.isAgg9
  z9 := Tryd.sizeOf9
  v9 := Tryd.zeroValue9
  t46 := Tryd.underlying144
  a46 := Tryd.isAgg144
  z46 := Tryd.sizeOf144
  v46 := Tryd.zeroValue144
  t51 := Tryd.underlying90
  a51 := Tryd.isAgg90
  z51 := Tryd.sizeOf90
  v51 := Tryd.zeroValue90
  t53 := Tryd.underlying84
  a53 := Tryd.isAgg84
  z53 := Tryd.sizeOf84
  v53 := Tryd.zeroValue84
}
theorem bitsLen_any (n : Nat) (w : World) (h : n ≤ 18446744073709551615) : Calls Tryd.prog 123 #[.int .u64 (n : Int)] w fun e w' => e = .returned (.int .i64 (Lib.bitLen n)) ∧ w' = w :=
  Any.bits_Len Tryd.lb125 (n : Int) w (by omega) (by omega)
theorem bitLen_log : ∀ (k n : Nat), 0 < n → n < 2 ^ k → k ≤ 64 → Lib.bitLen n = n.log2 + 1
  | 0, n, h0, h, _ => by simp at h; omega
  | k + 1, n, h0, h, hk => by
    have h64 : n < 2 ^ 64 := Nat.lt_of_lt_of_le h (Nat.pow_le_pow_right (by decide) hk)
    rw [Lib.bitLen_half n (by omega) h64, Nat.log2_def]
    by_cases h2 : 2 ≤ n
    · rw [if_pos h2, bitLen_log k (n / 2) (by omega) (by rw [Nat.pow_succ] at h; omega) (by omega)]; omega
    · have : n = 1 := by omega
      subst this; rfl
theorem split_pow {n : Nat} (h : 2 ≤ n) : (if 2 ^ n.log2 = n then 2 ^ n.log2 / 2 else 2 ^ n.log2) = splitN n := by
  have h1 : 2 ^ n.log2 ≤ n := Nat.log2_self_le (by omega)
  have h2 : n < 2 ^ (n.log2 + 1) := Nat.lt_log2_self
  rw [Nat.pow_succ] at h2
  split
  · rename_i he
    obtain ⟨b, hb⟩ : ∃ b, n.log2 = b + 1 := by
      rcases Nat.eq_zero_or_pos n.log2 with h0 | h0
      · rw [h0] at he; simp at he; omega
      · exact ⟨n.log2 - 1, by omega⟩
    rw [hb, Nat.pow_succ] at he ⊢
    rw [Nat.mul_div_cancel _ (by decide)]
    exact splitN_eq h (by have := Nat.one_le_two_pow (n := b); omega) (by omega)
  · exact splitN_eq h (by omega) (by omega)
set_option maxRecDepth 100000 in
set_option maxHeartbeats 1600000 in
theorem split_any (n : Nat) (w : World) (h2 : 2 ≤ n) (hn : n ≤ 1099511627776) : Calls Tryd.prog 114 #[.int .i64 (n : Int)] w fun e w' => e = .returned (.int .i64 (splitN n : Int)) ∧ w' = w := by
  have hs := split_pow h2
  have hl := bitLen_log 64 n (by omega) (by omega) (Nat.le_refl _)
  have h1 : 2 ^ n.log2 ≤ n := Nat.log2_self_le (by omega)
  have hlg : n.log2 ≤ 40 := by
    rcases Nat.lt_or_ge 40 n.log2 with h | h
    · have := Nat.pow_le_pow_right (n := 2) (by decide) h
      omega
    · exact h
  obtain ⟨j, hj⟩ : ∃ j, j = n.log2 := ⟨_, rfl⟩
  rw [← hj] at hs hl h1 hlg
  obtain ⟨q, hq⟩ : ∃ q, q = 2 ^ j := ⟨_, rfl⟩
  rw [← hq] at hs h1
  have e1 : IntKind.i64.wrap ((Lib.bitLen n : Nat) - 1 : Int) = (j : Int) := by rw [hl, IntKind.wrap_i64]; omega
  have HB := Lib.hid (bitsLen_any n)
  have HS := Lib.hid hs; have HQ := Lib.hid hq; have HL := Lib.hid hl; have HH := Lib.hid (And.intro h1 (And.intro hlg hn))
  have hn1 : 1 ≤ n := by omega
  clear hs hq hl hj
  go_enter Tryd.func114, Tryd.ntmps114
  go_wp2_with fail
  refine (HB.out w (by have := HH.out.2.2; omega)).mono ?_
  rintro e w1 ⟨rfl, rfl⟩
  have e2 : (j : Int) % 18446744073709551616 = (j : Int) := by have := HH.out.2.1; omega
  have hsh : (2 : Int) ^ j = (q : Int) := by rw [HQ.out]; simp
  have hq63 : (q : Int) ≤ 1099511627776 := by have := HH.out; omega
  by_cases hqn : q = n
  · go_wp2_with fail
    go_ret
    refine ⟨ret_int ?_, rfl⟩
    have h9 := HS.out
    rw [if_pos hqn] at h9
    omega
  · go_wp2_with fail
    go_ret
    refine ⟨ret_int ?_, rfl⟩
    have h9 := HS.out
    rw [if_neg hqn] at h9
    omega
end Go.Proofs.YtikikddkhikfkaaDoor

set_option linter.all false
namespace Go.Proofs.YtikikddkhikfkaaDoor
open Go.RowKit

/-- bytes as they lie in a list of slices -/
structure Sb where
  a : Option Addr
  c : Nat
  s : List UInt8
def Sb.cell (x : Sb) : Value := .slice x.a x.s.length x.c
/-- the slice's value at A, of n slices of bytes, reads as l; all of it lies below block B -/
def RdB (w : World) (B : Nat) (A : Option Addr) (n : Nat) (l : List Sb) : Prop :=
  Rd w B 1 A n (l.map Sb.cell) ∧ ∀ x ∈ l, Rd w B 1 x.a x.s.length (bc x.s) ∧ x.s.length ≤ x.c ∧ ∀ ad, x.a = some ad → ad.block < B
section
variable {w w' : World} {B n : Nat} {A : Option Addr} {l : List Sb}
theorem RdB.len (h : RdB w B A n l) : n = l.length := by have := h.1.1; rw [List.length_map] at this; omega
theorem RdB.keep (h : RdB w B A n l) (hk : ∀ p : Addr, p.block < B → w'.cell? p = w.cell? p) : RdB w' B A n l :=
  ⟨h.1.keep hk, fun x hx => ⟨(h.2 x hx).1.keep hk, (h.2 x hx).2⟩⟩
theorem RdB.grown {g : Nat} (h : RdB w B A n l) (hg : w.grownBy w' (some g)) (hB : B ≤ g) (hw : B ≤ w.heap.size) : RdB w' B A n l := by
  refine h.keep fun p hp => ?_
  have h1 := hg.block p.block (by omega) (by intro e; injection e with e; omega)
  unfold World.cell?
  rw [h1]
theorem RdB.below (h : RdB w B A n l) (hb : Below B w w') : RdB w' B A n l := h.keep fun _ hp => hb.cell hp
theorem RdB.take {k : Nat} (h : RdB w B A n l) (hk : k ≤ n) : RdB w B A k (l.take k) := by
  refine ⟨?_, fun x hx => h.2 x (List.mem_of_mem_take hx)⟩
  have h1 := h.1.take hk
  rw [Nat.mul_one, ← List.map_take] at h1
  exact h1
theorem RdB.drop {k : Nat} (h : RdB w B A n l) (hk : k ≤ n) (A' : Option Addr) (hA : k < n → A' = A.map (fun a => a.add k)) : RdB w B A' (n - k) (l.drop k) := by
  have hl := h.len
  refine ⟨⟨by rw [List.length_map, List.length_drop]; omega, fun j u hu => ?_⟩, fun x hx => h.2 x (List.mem_of_mem_drop hx)⟩
  have hj : j < l.length - k := by have := (List.getElem?_eq_some_iff.1 hu).1; rw [List.length_map, List.length_drop] at this; exact this
  rw [List.map_drop, List.getElem?_drop] at hu
  obtain ⟨ad, rfl, hb, hc⟩ := h.1.2 _ _ hu
  rw [hA (by omega)]
  exact ⟨_, rfl, by rw [add_block]; exact hb, by rw [add_add']; exact hc⟩
theorem RdB.sized {N : Nat} (h : RdB w B A n l) (hN : B ≤ N) : RdB w N A n l :=
  ⟨h.1.more hN, fun x hx => ⟨(h.2 x hx).1.more hN, (h.2 x hx).2.1, fun ad e => Nat.lt_of_lt_of_le ((h.2 x hx).2.2 ad e) hN⟩⟩
end
theorem DgAny.lt {w : World} {g : Nat} (h : DgAny w g) : g < w.heap.size := by obtain ⟨_, _, _, _, _, hb⟩ := h; exact hb.lt
theorem DgAny.belowS {w w' : World} {g : Nat} (h : DgAny w g) (hb : Below w.heap.size w w') : DgAny w' g := by
  obtain ⟨h0, x, nx, len, hx, hk⟩ := h
  exact ⟨h0, x, nx, len, hx, hk.belowS hb⟩
theorem Fresh32.then {w w1 w' : World} {A : Option Addr} {c g : Nat} {s : List UInt8} (h : Fresh32 w w1 A c s) (hg : w1.grownBy w' (some g)) (hgw : g < w.heap.size) : Fresh32 w w' A c s := by
  refine ⟨(h.1.grew hg ?_).sized, h.2.1, h.2.2⟩
  intro ad e e2
  injection e2 with e2
  have := h.2.1 ad e
  omega
theorem Fresh32.more {w w1 w' : World} {A : Option Addr} {c : Nat} {s : List UInt8} (h : Fresh32 w1 w' A c s) (hw : w.heap.size ≤ w1.heap.size) : Fresh32 w w' A c s :=
  ⟨h.1, fun ad e => Nat.le_trans hw (h.2.1 ad e), h.2.2⟩
/-- what a call on the tree leaves -/
def TreeQ (w : World) (gd : Nat) (s : List UInt8) (e : Ending) (w' : World) : Prop := ∃ A' c', e = .returned (.slice A' 32 c') ∧ Fresh32 w w' A' c' s ∧ DgAny w' gd ∧ w.grownBy w' (some gd)
set_option maxRecDepth 100000 in
set_option maxHeartbeats 6400000 in
theorem tree_any (gd B : Nat) (hB : B ≤ gd) (hgK : some gd ≠ some 3) (n : Nat) : ∀ (l : List Sb), n = l.length → n ≤ 1099511627776 → (∀ x ∈ l, x.s.length ≤ 35184372088832) → ∀ (A : Option Addr) (c : Nat) (w : World), RdB w B A n l → n ≤ c → DgAny w gd → Kw w →
    Calls Tryd.prog 95 #[.iface 182 (.pointer (some ⟨gd, 0, none⟩)), .slice A n c] w (TreeQ w gd (rootL (l.map Sb.s))) := by
  induction n using Nat.strongRecOn with
  | ind n ih =>
    intro l hn hk40 hbig A c w hr hc hd hK
    have IH := Lib.hid ih
    clear ih
    have HR := Lib.hid hr; have HD := Lib.hid hd; have HK := Lib.hid hK; have HBG := Lib.hid hbig
    have hgl := hd.lt
    have HN := Lib.hid (And.intro hn (And.intro hk40 (And.intro hc hgl)))
    clear hr hd hK hbig hgl hn hc
    by_cases h0 : n = 0
    · subst h0
      have hl : l = [] := List.eq_nil_of_length_eq_zero HN.out.1.symm
      have HL := Lib.hid hl
      clear hl
      go_enter Tryd.func95, Tryd.ntmps95
      go_wp2_with fail
      refine (emptyHash_any w HK.out).mono ?_
      rintro e w1 ⟨A1, c1, rfl, hf1, hb1⟩
      have HF := Lib.hid hf1; have HB1 := Lib.hid hb1
      clear hf1 hb1
      go_wp2_with fail
      go_ret
      refine ⟨A1, c1, rfl, ?_, HD.out.belowS HB1.out, grownAny_of HB1.out _⟩
      rw [HL.out, List.map_nil, rootL_nil]
      exact HF.out
    · by_cases h1 : n = 1
      · subst h1
        obtain ⟨x, hx⟩ : ∃ x, l = [x] := by
          have h2 := HN.out.1
          match l, h2 with
          | [x], _ => exact ⟨x, rfl⟩
        obtain ⟨ad, hA, hadB, hc0⟩ := HR.out.1.2 0 x.cell (by rw [hx]; rfl)
        subst hA
        have e0 : ad.add 0 = ad := by unfold Addr.add; simp
        rw [e0] at hc0
        unfold Sb.cell at hc0
        obtain ⟨hxr, hxc, hxb⟩ := HR.out.2 x (by rw [hx]; exact List.mem_cons_self ..)
        have HX := Lib.hid hx; have HXR := Lib.hid hxr.sized; have HXC := Lib.hid hxc; have HXB := Lib.hid hxb
        clear hx hxr hxc hxb h0
        go_enter Tryd.func95, Tryd.ntmps95
        go_wp2_with fail
        refine (leafOpt_any gd x.a x.s.length x.c x.s w HD.out HK.out hgK HXR.out HXC.out (HBG.out x (by rw [HX.out]; exact List.mem_cons_self ..)) (by intro ad e e2; injection e2 with e2; have := HXB.out ad e; omega)).mono ?_
        rintro e w1 ⟨A1, c1, rfl, hf1, hd1, hg1⟩
        have HF := Lib.hid hf1; have HD1 := Lib.hid hd1; have HG1 := Lib.hid hg1
        clear hf1 hd1 hg1
        go_wp2_with fail
        go_ret
        refine ⟨A1, c1, rfl, ?_, HD1.out, HG1.out⟩
        rw [HX.out]
        show Fresh32 _ _ _ _ (rootL [x.s])
        rw [rootL_one]
        exact HF.out
      · have hk1 := splitN_lt (n := n) (by omega)
        have hk2 := splitN_pos n
        have hroot := rootL_more (l := l.map Sb.s) (by rw [List.length_map, ← HN.out.1]; omega)
        rw [List.length_map, ← HN.out.1, ← List.map_take, ← List.map_drop] at hroot
        have HSP := Lib.hid (split_any n)
        obtain ⟨k, hk⟩ : ∃ k, k = splitN n := ⟨_, rfl⟩
        rw [← hk] at HSP hk1 hk2 hroot
        have hkc : (k : Int) ≤ (c : Int) := by have := HN.out; omega
        have hkn : (k : Int) ≤ (n : Int) := by omega
        have hck : ¬ c = k := by have := HN.out; omega
        have HKN := Lib.hid (And.intro hk1 hk2); have HRT := Lib.hid hroot
        clear hk hk1 hk2 hroot
        go_enter Tryd.func95, Tryd.ntmps95
        go_wp2_with fail
        refine (HSP.out w (by omega) HN.out.2.1).mono ?_
        rintro e w0 ⟨rfl, rfl⟩
        go_wp2_with fail
        refine (IH.out k HKN.out.1 (l.take k) (by rw [List.length_take]; have := HN.out.1; have := HKN.out; omega) (by have := HKN.out; omega) (fun x hx => HBG.out x (List.mem_of_mem_take hx)) A c w0 (HR.out.take (by have := HKN.out; omega)) (by have := HKN.out; have := HN.out; omega) HD.out HK.out).mono ?_
        rintro e w1 ⟨A1, c1, rfl, hf1, hd1, hg1⟩
        have HF1 := Lib.hid hf1; have HD1 := Lib.hid hd1; have HG1 := Lib.hid hg1
        have HK1 := Lib.hid (HK.out.grown hg1 hgK)
        have HR1 := Lib.hid (HR.out.grown hg1 hB (by have := HN.out; omega))
        clear hf1 hd1 hg1
        go_wp2_with fail
        refine (IH.out (n - k) (by have := HKN.out; omega) (l.drop k) (by rw [List.length_drop]; have := HN.out.1; omega) (by omega) (fun x hx => HBG.out x (List.mem_of_mem_drop hx)) _ (c - k) w1 (HR1.out.drop (by have := HKN.out; omega) _ (fun _ => rfl)) (by have := HN.out; omega) HD1.out HK1.out).mono ?_
        rintro e w2 ⟨A2, c2, rfl, hf2, hd2, hg2⟩
        have HF1' := Lib.hid (HF1.out.then hg2 HN.out.2.2.2)
        have HF2 := Lib.hid hf2; have HD2 := Lib.hid hd2; have HG2 := Lib.hid (HG1.out.trans hg2)
        have HK2 := Lib.hid (HK1.out.grown hg2 hgK)
        have HS1 := Lib.hid HG1.out.size
        clear hf2 hd2 hg2
        go_wp2_with fail
        refine (innerOpt_any gd A1 A2 32 c1 32 c2 _ _ w2 HD2.out HK2.out hgK HF1'.out.1 HF1'.out.2.2 (by decide) (by intro ad e e2; injection e2 with e2; have := HF1'.out.2.1 ad e; have := HN.out; omega) HF2.out.1 HF2.out.2.2 (by decide) (by intro ad e e2; injection e2 with e2; have := HF2.out.2.1 ad e; have := HN.out; have := HS1.out; omega)).mono ?_
        rintro e w3 ⟨A3, c3, rfl, hf3, hd3, hg3⟩
        have HF3 := Lib.hid hf3; have HD3 := Lib.hid hd3; have HG3 := Lib.hid (HG2.out.trans hg3)
        have HS2 := Lib.hid HG2.out.size
        clear hf3 hd3 hg3
        go_wp2_with fail
        go_ret
        refine ⟨A3, c3, rfl, ?_, HD3.out, HG3.out⟩
        rw [HRT.out]
        exact HF3.out.more HS2.out
set_option maxRecDepth 100000 in
theorem treeRoot_any (A : Option Addr) (c n : Nat) (l : List Sb) (w : World) (hr : RdB w w.heap.size A n l) (hc : n ≤ c) (hn : n ≤ 1099511627776) (hbig : ∀ x ∈ l, x.s.length ≤ 35184372088832) (hK : Kw w) :
    Calls Tryd.prog 67 #[.slice A n c] w fun e w' => ∃ A' c', e = .returned (.slice A' 32 c') ∧ Fresh32 w w' A' c' (rootL (l.map Sb.s)) ∧ Below w.heap.size w w' := by
  have HR := Lib.hid hr; have HN := Lib.hid (And.intro hc (And.intro hn hbig)); have HK := Lib.hid hK
  clear hr hc hn hbig hK
  go_enter Tryd.func67, Tryd.ntmps67
  go_wp2_with fail
  refine (new_any w).mono ?_
  rintro e w1 ⟨rfl, hd1, hb1⟩
  have HD1 := Lib.hid hd1; have HB1 := Lib.hid hb1
  clear hd1 hb1
  go_wp2_with fail
  refine (tree_any w.heap.size w.heap.size (Nat.le_refl _) (by intro e; injection e with e; have := HK.out.2; omega) n l HR.out.len HN.out.2.1 HN.out.2.2 A c w1 (HR.out.below HB1.out) HN.out.1 HD1.out.any (HK.out.belowS HB1.out)).mono ?_
  rintro e w2 ⟨A2, c2, rfl, hf2, hd2, hg2⟩
  have HF2 := Lib.hid (hf2.more HB1.out.size); have HB2 := Lib.hid (HB1.out.grown hg2 HB1.out.size (by intro k e; cases e; exact Nat.le_refl _))
  clear hf2 hd2 hg2
  go_wp2_with fail
  go_ret
  exact ⟨A2, c2, rfl, HF2.out, HB2.out⟩
end Go.Proofs.YtikikddkhikfkaaDoor

set_option linter.all false
namespace Go.Proofs.YtikikddkhikfkaaDoor
open Go.RowKit

/-- what the climb leaves -/
def ClimbQ (w : World) (gd : Nat) (s : List UInt8) (e : Ending) (w' : World) : Prop := ∃ A' c', e = .returned (.tuple #[.slice A' 32 c', .nilIface]) ∧ Rd w' w'.heap.size 1 A' 32 (bc s) ∧ 32 ≤ c' ∧ (∀ ad, A' = some ad → ad.block ≠ gd) ∧ DgAny w' gd ∧ w.grownBy w' (some gd)
theorem snoc_of_map {au : List Sb} {xs : List (List UInt8)} {y : List UInt8} (h : au.map Sb.s = xs ++ [y]) : ∃ au1 z, au = au1 ++ [z] ∧ au1.map Sb.s = xs ∧ z.s = y := by
  obtain ⟨l1, l2, e, h1, h2⟩ := List.map_eq_append_iff.1 h
  match l2, h2 with
  | [z], h2 => exact ⟨l1, z, e, h1, by simpa using h2⟩
theorem getD_take {l : List (List UInt8)} {i k : Nat} (h : i < k) : (l.take k).getD i [] = l.getD i [] := by
  rw [List.getD_eq_getElem?_getD, List.getD_eq_getElem?_getD, List.getElem?_take_of_lt h]
theorem getD_drop {l : List (List UInt8)} {i k : Nat} (h : k ≤ i) : (l.drop k).getD (i - k) [] = l.getD i [] := by
  rw [List.getD_eq_getElem?_getD, List.getD_eq_getElem?_getD, List.getElem?_drop]
  rw [show k + (i - k) = i by omega]
set_option maxRecDepth 100000 in
set_option maxHeartbeats 12800000 in
theorem climb_any (gd B : Nat) (hB : B ≤ gd) (hgK : some gd ≠ some 3) (n : Nat) : ∀ (l : List (List UInt8)) (i : Nat), n = l.length → i < n → n ≤ 1099511627776 → ∀ (au : List Sb), au.map Sb.s = auntsL l i → ∀ (A LA : Option Addr) (m c lc : Nat) (w : World), RdB w B A m au → m ≤ c → Rd w B 1 LA 32 (bc (leafL (l.getD i []))) → 32 ≤ lc → (∀ ad, LA = some ad → ad.block < B) → DgAny w gd → Kw w →
    Calls Tryd.prog 121 #[.iface 182 (.pointer (some ⟨gd, 0, none⟩)), .int .i64 (i : Int), .int .i64 (n : Int), .slice LA 32 lc, .slice A m c] w (ClimbQ w gd (rootL l)) := by
  induction n using Nat.strongRecOn with
  | ind n ih =>
    intro l i hn hi h40 au has A LA m c lc w hr hmc hla hlc hlb hd hK
    have IH := Lib.hid ih
    clear ih
    have hgl := hd.lt
    have hm := hr.len
    have hml := auntsL_len n l i hn.symm
    have hm2 : m ≤ n := by rw [← has, List.length_map] at hml; omega
    have HR := Lib.hid hr; have HD := Lib.hid hd; have HK := Lib.hid hK
    have HLA := Lib.hid (And.intro hla (And.intro hlc hlb))
    clear hr hd hK hla hlc hlb hml
    by_cases h1 : n = 1
    · subst h1
      obtain rfl : i = 0 := by omega
      have has0 : au = [] := by rw [auntsL_one (by omega)] at has; exact List.map_eq_nil_iff.1 has
      obtain rfl : m = 0 := by rw [hm, has0]; rfl
      have hroot : rootL l = leafL (l.getD 0 []) := by rw [rootL, if_neg (by omega), if_pos (by omega)]
      have HRT := Lib.hid hroot; have HBG := Lib.hid (And.intro hB hgl)
      clear hroot has has0 hm hn
      go_enter Tryd.func121, Tryd.ntmps121
      go_wp2_with fail
      go_ret2
      exact ⟨LA, lc, rfl, by rw [HRT.out]; exact HLA.out.1.more (by have := HBG.out; omega), HLA.out.2.1, fun ad e => by have := HLA.out.2.2 ad e; have := HBG.out; omega, HD.out, World.grownBy.refl _ _⟩
    · have hk1 := splitN_lt (n := n) (by omega)
      have hk2 := splitN_pos n
      have hroot := rootL_more (l := l) (by omega)
      rw [← hn] at hroot
      have HSP := Lib.hid (split_any n)
      by_cases hik : i < splitN n
      · have ha := auntsL_left (l := l) (i := i) (by omega) (by rw [← hn]; exact hik)
        rw [← hn] at ha
        rw [ha] at has
        obtain ⟨au1, z, hz, has1, hzs⟩ := snoc_of_map has
        obtain ⟨m1, hm1⟩ : ∃ m1, au1.length = m1 := ⟨_, rfl⟩
        obtain rfl : m = m1 + 1 := by rw [hm, hz, List.length_append, hm1]; rfl
        have hlast := HR.out.1.2 m1 z.cell (by rw [hz, List.map_append, List.getElem?_append_right (by rw [List.length_map]; omega), List.length_map, hm1]; simp)
        obtain ⟨ad, rfl, hadb, hcz⟩ := hlast
        obtain ⟨hzr, hzc, hzb⟩ := HR.out.2 z (by rw [hz]; simp)
        have hrt := HR.out.take (k := m1) (by omega)
        rw [hz, List.take_left' hm1] at hrt
        obtain ⟨k, hk⟩ : ∃ k, k = splitN n := ⟨_, rfl⟩
        rw [← hk] at HSP hk1 hk2 hroot hik has1 hzs
        have hz32 : z.s.length = 32 := by rw [hzs]; exact rootL_length _
        have HX := Lib.hid (And.intro has1 (And.intro hzs (And.intro hz32 (And.intro hzr (And.intro hzc (And.intro hzb hrt))))))
        have HN := Lib.hid (And.intro hn (And.intro h40 (And.intro hB hgl))); have HKN := Lib.hid (And.intro hk1 (And.intro hk2 (And.intro hik hi))); have HRT := Lib.hid hroot
        have HCZ := Lib.hid hcz; have HADB := Lib.hid hadb
        have hmc1 : (m1 : Int) ≤ (c : Int) := by omega
        have hmc2 : m1 ≤ c := by omega
        have hm40 : m1 + 1 ≤ 1099511627776 := by omega
        clear hk has has1 hz hm1 hm ha hzs hz32 hzr hzc hzb hrt hroot hcz hadb hn hB
        go_enter Tryd.func121, Tryd.ntmps121
        go_wp2_with fail
        refine (HSP.out w (by omega) HN.out.2.1).mono ?_
        rintro e w0 ⟨rfl, rfl⟩
        go_wp2_with fail
        refine (IH.out k HKN.out.1 (l.take k) i (by rw [List.length_take]; have := HN.out.1; have := HKN.out; omega) HKN.out.2.2.1 (by have := HKN.out; have := HN.out; omega) au1 HX.out.1 (some ad) LA m1 c lc w0 HX.out.2.2.2.2.2.2 hmc2 (by rw [getD_take HKN.out.2.2.1]; exact HLA.out.1) HLA.out.2.1 HLA.out.2.2 HD.out HK.out).mono ?_
        rintro e w1 ⟨A1, c1, rfl, hr1, hc1, ha1, hd1, hg1⟩
        have hcz1 : w1.cell? (ad.add m1) = some (.slice z.a z.s.length z.c) := by
          have h5 := HX.out.2.2.2.1
          unfold World.cell?
          rw [hg1.block (ad.add m1).block (by rw [add_block]; have := HADB.out; have := HN.out; omega) (by intro e; injection e with e; rw [add_block] at e; have := HADB.out; have := HN.out; omega)]
          exact HCZ.out
        have hzr1 : Rd w1 w1.heap.size 1 z.a 32 (bc z.s) := by
          have h5 := HX.out.2.2.2.1
          rw [HX.out.2.2.1] at h5
          exact (h5.grew hg1 (by intro ad e e2; injection e2 with e2; have := HX.out.2.2.2.2.2.1 ad e; have := HN.out; omega)).sized
        have hzc1 := HX.out.2.2.2.2.1
        rw [HX.out.2.2.1] at hcz1 hzc1
        have HR1 := Lib.hid (And.intro hr1 (And.intro hc1 ha1)); have HD1 := Lib.hid hd1; have HG1 := Lib.hid hg1; have HZ1 := Lib.hid (And.intro hzr1 hzc1); have HK1 := Lib.hid (HK.out.grown hg1 hgK)
        clear hr1 hc1 ha1 hd1 hg1 hzr1 hzc1
        go_wp2_with fail
        refine (innerOpt_any gd A1 z.a 32 c1 32 z.c _ _ w1 HD1.out HK1.out hgK HR1.out.1 HR1.out.2.1 (by decide) (by intro ad e e2; injection e2 with e2; exact HR1.out.2.2 ad e e2) HZ1.out.1 HZ1.out.2 (by decide) (by intro ad e e2; injection e2 with e2; have := HX.out.2.2.2.2.2.1 ad e; have := HN.out; omega)).mono ?_
        rintro e w2 ⟨A2, c2, rfl, hf2, hd2, hg2⟩
        have HF2 := Lib.hid hf2; have HD2 := Lib.hid hd2; have HG2 := Lib.hid (HG1.out.trans hg2); have HS1 := Lib.hid HG1.out.size
        clear hf2 hd2 hg2
        go_wp2_with fail
        go_ret2
        refine ⟨A2, c2, rfl, ?_, HF2.out.2.2, fun ad e => by have := HF2.out.2.1 ad e; have := HS1.out; have := HN.out; omega, HD2.out, HG2.out⟩
        rw [HRT.out, ← HX.out.2.1]
        exact HF2.out.1
      · have ha := auntsL_right (l := l) (i := i) (by omega) (by rw [← hn]; exact hik)
        rw [← hn] at ha
        rw [ha] at has
        obtain ⟨au1, z, hz, has1, hzs⟩ := snoc_of_map has
        obtain ⟨m1, hm1⟩ : ∃ m1, au1.length = m1 := ⟨_, rfl⟩
        obtain rfl : m = m1 + 1 := by rw [hm, hz, List.length_append, hm1]; rfl
        have hlast := HR.out.1.2 m1 z.cell (by rw [hz, List.map_append, List.getElem?_append_right (by rw [List.length_map]; omega), List.length_map, hm1]; simp)
        obtain ⟨ad, rfl, hadb, hcz⟩ := hlast
        obtain ⟨hzr, hzc, hzb⟩ := HR.out.2 z (by rw [hz]; simp)
        have hrt := HR.out.take (k := m1) (by omega)
        rw [hz, List.take_left' hm1] at hrt
        obtain ⟨k, hk⟩ : ∃ k, k = splitN n := ⟨_, rfl⟩
        rw [← hk] at HSP hk1 hk2 hroot hik has1 hzs
        obtain ⟨i2, hi2⟩ : ∃ i2, i2 = i - k := ⟨_, rfl⟩
        obtain ⟨n2, hn2⟩ : ∃ n2, n2 = n - k := ⟨_, rfl⟩
        rw [← hi2] at has1
        have e1 : (i : Int) - (k : Int) = (i2 : Int) := by omega
        have e2 : (n : Int) - (k : Int) = (n2 : Int) := by omega
        have HIN := Lib.hid (And.intro hi2 hn2)
        clear hi2 hn2
        have hz32 : z.s.length = 32 := by rw [hzs]; exact rootL_length _
        have HX := Lib.hid (And.intro has1 (And.intro hzs (And.intro hz32 (And.intro hzr (And.intro hzc (And.intro hzb hrt))))))
        have HN := Lib.hid (And.intro hn (And.intro h40 (And.intro hB hgl))); have HKN := Lib.hid (And.intro hk1 (And.intro hk2 (And.intro hik hi))); have HRT := Lib.hid hroot
        have HCZ := Lib.hid hcz; have HADB := Lib.hid hadb
        have hmc1 : (m1 : Int) ≤ (c : Int) := by omega
        have hmc2 : m1 ≤ c := by omega
        have hm40 : m1 + 1 ≤ 1099511627776 := by omega
        clear hk has has1 hz hm1 hm ha hzs hz32 hzr hzc hzb hrt hroot hcz hadb hn hB
        go_enter Tryd.func121, Tryd.ntmps121
        go_wp2_with fail
        refine (HSP.out w (by omega) HN.out.2.1).mono ?_
        rintro e w0 ⟨rfl, rfl⟩
        go_wp2_with fail
        refine (IH.out n2 (by have := HKN.out; have := HIN.out; omega) (l.drop k) i2 (by rw [List.length_drop]; have := HN.out.1; have := HIN.out; omega) (by have := HKN.out; have := HIN.out; omega) (by have := HN.out; have := HIN.out; omega) au1 HX.out.1 (some ad) LA m1 c lc w0 HX.out.2.2.2.2.2.2 hmc2 (by rw [HIN.out.1, getD_drop (by have := HKN.out; omega)]; exact HLA.out.1) HLA.out.2.1 HLA.out.2.2 HD.out HK.out).mono ?_
        rintro e w1 ⟨A1, c1, rfl, hr1, hc1, ha1, hd1, hg1⟩
        have hcz1 : w1.cell? (ad.add m1) = some (.slice z.a z.s.length z.c) := by
          have h5 := HX.out.2.2.2.1
          unfold World.cell?
          rw [hg1.block (ad.add m1).block (by rw [add_block]; have := HADB.out; have := HN.out; omega) (by intro e; injection e with e; rw [add_block] at e; have := HADB.out; have := HN.out; omega)]
          exact HCZ.out
        have hzr1 : Rd w1 w1.heap.size 1 z.a 32 (bc z.s) := by
          have h5 := HX.out.2.2.2.1
          rw [HX.out.2.2.1] at h5
          exact (h5.grew hg1 (by intro ad e e2; injection e2 with e2; have := HX.out.2.2.2.2.2.1 ad e; have := HN.out; omega)).sized
        have hzc1 := HX.out.2.2.2.2.1
        rw [HX.out.2.2.1] at hcz1 hzc1
        have HR1 := Lib.hid (And.intro hr1 (And.intro hc1 ha1)); have HD1 := Lib.hid hd1; have HG1 := Lib.hid hg1; have HZ1 := Lib.hid (And.intro hzr1 hzc1); have HK1 := Lib.hid (HK.out.grown hg1 hgK)
        clear hr1 hc1 ha1 hd1 hg1 hzr1 hzc1
        go_wp2_with fail
        refine (innerOpt_any gd z.a A1 32 z.c 32 c1 _ _ w1 HD1.out HK1.out hgK HZ1.out.1 HZ1.out.2 (by decide) (by intro ad e e2; injection e2 with e2; have := HX.out.2.2.2.2.2.1 ad e; have := HN.out; omega) HR1.out.1 HR1.out.2.1 (by decide) (by intro ad e e2; injection e2 with e2; exact HR1.out.2.2 ad e e2)).mono ?_
        rintro e w2 ⟨A2, c2, rfl, hf2, hd2, hg2⟩
        have HF2 := Lib.hid hf2; have HD2 := Lib.hid hd2; have HG2 := Lib.hid (HG1.out.trans hg2); have HS1 := Lib.hid HG1.out.size
        clear hf2 hd2 hg2
        go_wp2_with fail
        go_ret2
        refine ⟨A2, c2, rfl, ?_, HF2.out.2.2, fun ad e => by have := HF2.out.2.1 ad e; have := HS1.out; have := HN.out; omega, HD2.out, HG2.out⟩
        rw [HRT.out, ← HX.out.2.1]
        exact HF2.out.1
end Go.Proofs.YtikikddkhikfkaaDoor
