/-
  The package's SHA-256: Write: walks. By the session. The package's SHA-256: bePutUint32, bePutUint64: walks. By the session.
-/
import Derived.Test.YtikikddkhikfkaaDoorPa8
import Derived.Test.YtikikddkhikfkaaDoorPa9
import Derived.Deep.RegionLaw
set_option linter.all false
namespace Go.Proofs.YtikikddkhikfkaaDoor
open Go.RowKit

theorem andNot63 (n : Nat) (h : n < 9223372036854775808) : bits .andNot .i64 (n : Int) 63 = ((n / 64 * 64 : Nat) : Int) := by
  simp only [bits]
  have h1 : BitVec.ofInt 64 (n : Int) &&& ~~~ BitVec.ofInt 64 63 = (BitVec.ofNat 64 n >>> 6) <<< 6 := by
    apply BitVec.eq_of_getLsbD_eq
    intro i hi
    have key : ∀ i : Fin 64, (~~~ BitVec.ofInt 64 63).getLsbD i.val = decide (6 ≤ i.val) := by decide
    have hk := key ⟨i, hi⟩
    have e : BitVec.ofInt 64 (n : Int) = BitVec.ofNat 64 n := by simp
    rw [e, BitVec.getLsbD_and, hk, BitVec.getLsbD_shiftLeft, BitVec.getLsbD_ushiftRight]
    by_cases h6 : 6 ≤ i
    · simp [hi, h6]
    · simp [hi, h6]
  have h2 : (BitVec.ofInt 64 (n : Int) &&& ~~~ BitVec.ofInt 64 63).toNat = n / 64 * 64 := by
    rw [h1, BitVec.toNat_shiftLeft, BitVec.toNat_ushiftRight, BitVec.toNat_ofNat, Nat.shiftRight_eq_div_pow, Nat.shiftLeft_eq]
    omega
  show IntKind.i64.wrap ((BitVec.ofInt 64 (n : Int) &&& ~~~ BitVec.ofInt 64 63).toNat : Int) = _
  rw [h2, IntKind.wrap_i64]; omega
theorem grown_setRow (w : World) (g : Nat) (cs : Array Value) : w.grownBy (w.setRow g cs) (some g) :=
  ⟨rfl, rfl, rfl, by simp [World.setRow], fun i _ hne => setRow_other w g i cs (fun e => hne (by rw [e]))⟩
theorem run_copy_dig {w : World} {ty : TypeId} (dp sp : Option Addr) (dLen dCap sLen sCap : Nat) (g k : Nat) (h : St) (x p : List UInt8) (nx len : Nat) (hb : Blk w g 215 (dgC h x nx len)) (hx : x.length = 64) (hn : p.length = Nat.min sLen dLen)
    (hpos : 0 < p.length → dp = some ⟨g, 8 + k, none⟩ ∧ ∃ ad, sp = some ad ∧ ∀ j v, (bc p)[j]? = some v → w.cell? (ad.add j) = some v) (hfit : k + p.length ≤ 64) :
    ∃ w', (Builtin.copy_ #[22, 22] ty #[.slice dp dLen dCap, .slice sp sLen sCap]).run Tryd.prog w = .ok (goInt p.length) w' ∧ Blk w' g 215 (dgC h (splice x k p) nx len) ∧ w.grownBy w' (some g) := by
  obtain ⟨i0, hi0, hz0, hz1, hz2⟩ := info_parts infoU8
  have hsz : (Tryd.prog.info? 5).map (·.size) = some 1 := by rw [hi0]; simp [hz1]
  by_cases h0 : p.length = 0
  · obtain rfl : p = [] := List.eq_nil_of_length_eq_zero h0
    refine ⟨w, run_copy_none (P := Tryd.prog) w _ _ ty 5 dp sp dLen dCap sLen sCap Tryd.underlying22 hsz (by simpa using hn.symm), ?_, World.grownBy.refl w _⟩
    have e : splice x k [] = x := by simp [splice]
    rw [e]; exact hb
  · obtain ⟨rfl, ad, rfl, hsrc⟩ := hpos (by omega)
    have hr := run_copy_row (P := Tryd.prog) w 22 22 ty 5 g (8 + k) dLen dCap ad sLen sCap (dgC h x nx len) 215 (bc p) Tryd.underlying22 hsz hb (by rw [bc_length]; exact hn) hsrc
      (by rw [bc_length, dgC_size _ _ _ _ hx]; omega) (bc_one _)
    rw [bc_length] at hr
    refine ⟨_, hr, ?_, grown_setRow _ _ _⟩
    have e := dgC_splice h x p nx len k hx hfit
    unfold splice at e
    rw [bc_length] at e
    rw [List.append_assoc, e]
    exact setRow_heap w g _ _ _ _ hb
/-- copy into a digest's buffer, as a step of a region that draws its order -/
theorem step_copy_dig {ops : Array Oper} {o : Oper} {a : Act} {w : World} {K : Act → World → Prop} {Q : Exit → Act → World → Prop} {E : Prop} (hgd : o.guard = none) (d s : Operand)
    (ho : o.op = .call { callee := .builtin .copy, args := #[d, s], argTypes := #[22, 22] })
    (dp sp : Option Addr) (dLen dCap sLen sCap : Nat) (hd : a.eval d = .slice dp dLen dCap) (hs : a.eval s = .slice sp sLen sCap)
    (g k : Nat) (h : St) (x p : List UInt8) (nx len : Nat) (hb : Blk w g 215 (dgC h x nx len)) (hx : x.length = 64) (hn : p.length = Nat.min sLen dLen)
    (hpos : 0 < p.length → dp = some ⟨g, 8 + k, none⟩ ∧ ∃ ad, sp = some ad ∧ ∀ j v, (bc p)[j]? = some v → w.cell? (ad.add j) = some v) (hfit : k + p.length ≤ 64)
    (hK : ∀ w', Hid (Blk w' g 215 (dgC h (splice x k p) nx len)) → Hid (w.grownBy w' (some g)) → K (a.put o.dst (goInt p.length)) w') :
    if Region.wanted o (yielded ops a.tmps) = true then Oper.wp Tryd.prog o a w K Q else E := by
  have hw : Region.wanted o (yielded ops a.tmps) = true := by simp [Region.wanted, hgd]
  rw [if_pos hw]
  obtain ⟨w', hrun, h1, h2⟩ := run_copy_dig (ty := o.type) dp sp dLen dCap sLen sCap g k h x p nx len hb hx hn hpos hfit
  unfold Oper.wp
  simp [execOp, ho, resolve, invoke, builtin, hd, hs, hrun, Result.andThen]
  exact hK w' h1 h2
theorem wpList_copy_dig {ops : Array Oper} {rest : List Oper} {o : Oper} {a : Act} {w : World} {Q : Exit → Act → World → Prop} (hgd : o.guard = none) (d s : Operand)
    (ho : o.op = .call { callee := .builtin .copy, args := #[d, s], argTypes := #[22, 22] })
    (dp sp : Option Addr) (dLen dCap sLen sCap : Nat) (hd : a.eval d = .slice dp dLen dCap) (hs : a.eval s = .slice sp sLen sCap)
    (g k : Nat) (h : St) (x p : List UInt8) (nx len : Nat) (hb : Blk w g 215 (dgC h x nx len)) (hx : x.length = 64) (hn : p.length = Nat.min sLen dLen)
    (hpos : 0 < p.length → dp = some ⟨g, 8 + k, none⟩ ∧ ∃ ad, sp = some ad ∧ ∀ j v, (bc p)[j]? = some v → w.cell? (ad.add j) = some v) (hfit : k + p.length ≤ 64)
    (hK : ∀ w', Hid (Blk w' g 215 (dgC h (splice x k p) nx len)) → Hid (w.grownBy w' (some g)) → wpList Tryd.prog ops Q rest (a.put o.dst (goInt p.length)) w') :
    wpList Tryd.prog ops Q (o :: rest) a w := by
  refine wpList_plain hgd fun K hK2 => ?_
  obtain ⟨w', hrun, h1, h2⟩ := run_copy_dig (ty := o.type) dp sp dLen dCap sLen sCap g k h x p nx len hb hx hn hpos hfit
  unfold Oper.wp
  simp [execOp, ho, resolve, invoke, builtin, hd, hs, hrun, Result.andThen]
  exact hK2 _ _ (hK w' h1 h2)

/-- the source of a copy: a piece at the head of what reads as bytes -/
theorem rd_src {w : World} {B n q : Nat} {A : Option Addr} {p p1 : List UInt8} (h : Rd w B 1 A n (bc p)) (hp : p1 = p.take q) (h0 : 0 < p1.length) : ∃ ad, A = some ad ∧ ∀ j v, (bc p1)[j]? = some v → w.cell? (ad.add j) = some v := by
  have hl : ∀ j v, (bc p1)[j]? = some v → (bc p)[j]? = some v := fun j v hj => by
    rw [hp, bc_take', List.getElem?_take] at hj
    split at hj
    · exact hj
    · cases hj
  have hx : p1[0]? = some p1[0] := List.getElem?_eq_getElem h0
  obtain ⟨ad, rfl, _, _⟩ := h.2 0 _ (hl 0 _ (bc_get hx))
  refine ⟨ad, rfl, fun j v hj => ?_⟩
  obtain ⟨ad', e, _, hc⟩ := h.2 j v (hl j v hj)
  cases e
  exact hc
/-- the rest of a slice behind its first q bytes -/
theorem rd_drop {w : World} {B n q : Nat} {A : Option Addr} {p : List UInt8} (h : Rd w B 1 A n (bc p)) (hq : q ≤ n) (A' : Option Addr) (hA : q < n → A' = A.map (fun a => a.add q)) : Rd w B 1 A' (n - q) (bc (p.drop q)) := by
  have hl := h.len1
  refine ⟨by rw [bc_length, List.length_drop]; omega, fun j u hu => ?_⟩
  have hj : j < p.length - q := by have := (List.getElem?_eq_some_iff.1 hu).1; rw [bc_length, List.length_drop] at this; exact this
  rw [bc_drop', List.getElem?_drop] at hu
  obtain ⟨ad, rfl, hb, hc⟩ := h.2 _ _ hu
  rw [hA (by omega)]
  exact ⟨_, rfl, by rw [add_block]; exact hb, by rw [add_add']; exact hc⟩
/-- a digest's buffer reads as bytes -/
theorem rd_buf {w : World} {g : Nat} {h : St} {x : List UInt8} {nx len : Nat} (hb : Blk w g 215 (dgC h x nx len)) (hx : x.length = 64) : Rd w w.heap.size 1 (some ⟨g, 8, none⟩) 64 (bc x) := by
  refine ⟨by rw [bc_length, hx], fun j u hu => ?_⟩
  unfold bc at hu
  rw [List.getElem?_map] at hu
  cases hy : x[j]? with
  | none => rw [hy] at hu; cases hu
  | some y =>
    rw [hy] at hu
    simp only [Option.map_some, Option.some.injEq] at hu
    subst hu
    refine ⟨_, rfl, hb.lt, ?_⟩
    rw [add_flat, hb.cell, dgC_x _ _ _ _ _ _ hy]
theorem apart_map {A : Option Addr} {q : Nat} {r : Option Nat} (h : ∀ ad, A = some ad → some ad.block ≠ r) : ∀ ad, A.map (fun a => a.add q) = some ad → some ad.block ≠ r := by
  intro ad e
  cases A with
  | none => cases e
  | some a => cases e; rw [add_block]; exact h a rfl
theorem took_next {m1 p1 : List UInt8} {q i : Nat} {h : St} {x : List UInt8} (hk : Took (m1 ++ p1.take q) h x 0) (hi : i % 64 = 0) (hq : q + i ≤ p1.length) : Took (m1 ++ p1.take (q + i)) (blocksN ((p1.drop q).take i) h (i / 64)) x 0 := by
  have hl : ((p1.drop q).take i).length = i := by rw [List.length_take, List.length_drop]; omega
  have h1 := took_blocks hk ((p1.drop q).take i) (by rw [hl]; exact hi)
  rw [hl, List.append_assoc, ← List.take_add] at h1
  exact h1
theorem undrew {W w : World} {r : Option Nat} (h : W.drew.grownBy w r) : W.grownBy w r := ⟨h.os, h.tape, h.output, h.size, h.block⟩
/-- what reads lies in the world's blocks -/
theorem Rd.sized {w : World} {B sz n : Nat} {A : Option Addr} {xs : List Value} (h : Rd w B sz A n xs) : Rd w w.heap.size sz A n xs :=
  ⟨h.1, fun j u hu => by
    obtain ⟨ad, e, _, hc⟩ := h.2 j u hu
    have h1 := World.block_lt_of_cell? w _ hc
    rw [add_block] at h1
    exact ⟨ad, e, h1, hc⟩⟩

theorem rd_piece {w : World} {B n i : Nat} {A : Option Addr} {p : List UInt8} (h : Rd w B 1 A n (bc p)) (hi : i ≤ n) : Rd w w.heap.size 1 A i (bc (p.take i)) := by
  have h1 := (h.take hi).sized
  rw [Nat.mul_one, ← bc_take'] at h1
  exact h1

/-- block: the same as blockGeneric -/
theorem block_any (g : Nat) (h0 : St) (x : List UInt8) (nx len : Nat) (l : List UInt8) (A : Option Addr) (n c : Nat) (w : World) (hb : Blk w g 215 (dgC h0 x nx len)) (hx : x.length = 64)
    (hr : Rd w w.heap.size 1 A n (bc l)) (hn : n ≤ 140737488355328) (hnc : n ≤ c) (hm : n % 64 = 0) (hK : Kw w) :
    Calls Tryd.prog 131 #[.pointer (some ⟨g, 0, none⟩), .slice A n c] w fun e w' => e = .returned (.tuple #[]) ∧ Blk w' g 215 (dgC (blocksN l h0 (n / 64)) x nx len) ∧ w.grownBy w' (some g) := by
  have HC := Lib.hid (bg_any g h0 x nx len l A n c w hb hx hr hn hnc hm hK.1 hK.2)
  clear hb hr hK
  go_enter Tryd.func131, Tryd.ntmps131
  go_wp2_with fail
  refine HC.out.mono ?_
  rintro e w1 ⟨rfl, hb1, hg1⟩
  have HB := Lib.hid hb1; have HG := Lib.hid hg1; clear hb1 hg1
  go_wp2
  exact ⟨rfl, .tuple #[], results_none rfl _ _ _, rfl, HB.out, HG.out⟩
set_option maxRecDepth 100000 in
set_option maxHeartbeats 6400000 in
theorem write_any (g : Nat) (m p : List UInt8) (A : Option Addr) (n c : Nat) (w : World) (hd : Dg w g m) (hK : Kw w) (hgK : some g ≠ some 3) (hr : Rd w w.heap.size 1 A n (bc p)) (hA : ∀ ad, A = some ad → some ad.block ≠ some g) (hnc : n ≤ c) (hm : m.length + p.length ≤ 140737488355328) :
    Calls Tryd.prog 129 #[.pointer (some ⟨g, 0, none⟩), .slice A n c] w fun e w' => e = .returned (.tuple #[.int .i64 (n : Int), .nilIface]) ∧ Dg w' g (m ++ p) ∧ w.grownBy w' (some g) := by
  obtain ⟨hs, x, nx, hk, hb⟩ := hd
  have hpl := hr.len1
  obtain ⟨L, hL⟩ : ∃ L, L = m.length + p.length := ⟨_, rfl⟩
  have hc := dgC_r hs x nx m.length hk.len
  have c72 := (hb.cell 72).trans hc.1
  have c73 := (hb.cell 73).trans hc.2.1
  have hf := hb.free
  obtain ⟨l0, hl0⟩ : ∃ l0, l0 = m.length := ⟨_, rfl⟩
  have hput : ∀ W : World, W = w.setCell ⟨g, 73, none⟩ (.int .u64 (((l0 : Int) + (n : Int) % 18446744073709551616) % 18446744073709551616)) → Blk W g 215 (dgC hs x nx L) ∧ w.grownBy W (some g) := by
    rintro W rfl
    have e : ((l0 : Int) + (n : Int) % 18446744073709551616) % 18446744073709551616 = (L : Int) := by omega
    rw [e]
    refine ⟨?_, grown_put w g 73 _⟩
    have h1 := hb.put 73 (.int .u64 (L : Int))
    rw [dgC_len _ _ _ _ _ hk.len] at h1
    exact h1
  rw [← hl0] at c73
  have HK := Lib.hid hk; have HKW := Lib.hid hK; have HR := Lib.hid hr; have HA := Lib.hid hA; have HL := Lib.hid (And.intro hL hm); have HPUT := Lib.hid hput
  have HPL := Lib.hid hpl; have HL0 := Lib.hid hl0
  have hf73 := hf 73
  have HKC := Lib.hid hgK
  clear hc hb hk hK hr hA hL hm hput hf hgK hpl hl0
  go_enter Tryd.func129, Tryd.ntmps129
  go_upto_if 23 with fail
  generalize hW : w.setCell _ _ = W
  have hW2 := HPUT.out W hW.symm
  have HB := Lib.hid hW2.1; have HG := Lib.hid hW2.2
  clear hW hW2 HPUT c72 c73 hf73
  go_cut [1, 6, 8] from 23 to 58 (fun v v6 v8 wx => ∃ (q : Nat) (A' : Option Addr) (d : Nat), v = .slice A' (n - q) d ∧ Hid (q ≤ n) ∧ Hid (n - q ≤ d) ∧ Hid (Rd wx w.heap.size 1 A' (n - q) (bc (p.drop q))) ∧ Hid (∀ ad, A' = some ad → some ad.block ≠ some g) ∧ Hid (∃ h x nx, Took (m ++ p.take q) h x nx ∧ Blk wx g 215 (dgC h x nx L) ∧ (nx = 0 ∨ q = n)) ∧ Hid (w.grownBy wx (some g)))
  case first =>
    by_cases hnx : 0 < nx
    · have hlt : nx < 64 := by have := HK.out.left; omega
      have hle : (nx : Int) ≤ 64 := by omega
      obtain ⟨q, hq⟩ : ∃ q, q = Nat.min n (64 - nx) := ⟨_, rfl⟩
      obtain ⟨p1, hp1⟩ : ∃ p1, p1 = p.take q := ⟨_, rfl⟩
      have hq1 : q ≤ n ∧ q ≤ 64 - nx := by rw [hq]; exact ⟨Nat.min_le_left _ _, Nat.min_le_right _ _⟩
      have hp1l : p1.length = q := by rw [hp1, List.length_take]; have := HPL.out; omega
      have HP1 := Lib.hid hp1; have HQ := Lib.hid hq; have HQ1 := Lib.hid hq1; have HP1L := Lib.hid hp1l
      have c72 : W.cell? ⟨g, 72, none⟩ = some (.int .i64 (nx : Int)) := (HB.out.cell 72).trans (dgC_r _ _ _ _ HK.out.len).1
      clear hq hp1 hq1 hp1l
      have hsrc : 0 < p1.length → some (if 64 = nx then (⟨g, 8, none⟩ : Addr) else ⟨g, 8 + nx, none⟩) = some ⟨g, 8 + nx, none⟩ ∧ ∃ ad, A = some ad ∧ ∀ j v, (bc p1)[j]? = some v → W.drew.cell? (ad.add j) = some v := fun h0 =>
        ⟨by rw [if_neg (by omega)], rd_src (w := W.drew) (Rd.grew HR.out HG.out HA.out : Rd W w.heap.size 1 A n (bc p)).drew HP1.out h0⟩
      have HSRC := Lib.hid hsrc
      clear hsrc
      go_wp2_with fail
      go_region_law (refine step_copy_dig rfl (.tmp 31) (.tmp 32) rfl _ _ _ _ _ _ rfl rfl g nx hs x p1 nx L HB.out HK.out.len (HP1L.out.trans HQ.out) HSRC.out (by have := HQ1.out; have := HP1L.out; omega) ?_; intro w4 hb4 hg4; have c724 : w4.cell? ⟨g, 72, none⟩ = some (.int .i64 (nx : Int)) := (hb4.out.cell 72).trans (dgC_r _ _ _ _ (splice_len HK.out.len (by have := HQ1.out; have := HP1L.out; omega))).1; rw [HP1L.out])
      have hf4 := hb4.out.free 72
      obtain ⟨r, hr⟩ : ∃ r, r = nx + q := ⟨_, rfl⟩
      have er : (nx : Int) + (q : Int) = (r : Int) := by omega
      have ez : IntKind.i64.wrap (r : Int) = (r : Int) := by have := HQ1.out; rw [IntKind.wrap_i64]; omega
      have HRR := Lib.hid hr
      clear hr
      go_upto_if 46 with fail
      have hLL := HL.out
      have hx4 := splice_len HK.out.len (p := p1) (k := nx) (by have := HQ1.out; have := HP1L.out; omega)
      have HX4 := Lib.hid hx4
      have HG4 := Lib.hid (HG.out.trans (undrew hg4.out))
      have HB5 : Hid (Blk (w4.setCell ⟨g, 72, none⟩ (.int .i64 (r : Int))) g 215 (dgC hs (splice x nx p1) r L)) := Lib.hid (by
        have h1 := hb4.out.put 72 (.int .i64 (r : Int))
        rw [dgC_nx _ _ _ _ _ hx4] at h1; exact h1)
      have HG5 := Lib.hid (HG4.out.trans (grown_put w4 g 72 (.int .i64 (r : Int))))
      clear hLL hx4
      generalize hW5 : w4.setCell _ _ = W5 at *
      clear hW5
      have hqn : q ≤ n := HQ1.out.1
      have hqi : (q : Int) ≤ (n : Int) := by omega
      by_cases hrf : r = 64
      · subst hrf
        have HB5f := HB5.out.free 72
        go_wp2_with fail
        refine (block_any g hs (splice x nx p1) 64 L (splice x nx p1) (some ⟨g, 8, none⟩) 64 64 W5 HB5.out HX4.out (rd_buf HB5.out HX4.out) (by decide) (Nat.le_refl _) rfl (HKW.out.grown HG5.out HKC.out)).mono ?_
        rintro e w6 ⟨rfl, hb6, hg6⟩
        have HG6 := Lib.hid (HG5.out.trans hg6)
        have HB7 : Hid (Blk (w6.setCell ⟨g, 72, none⟩ (.int .i64 0)) g 215 (dgC (blocksN (splice x nx p1) hs 1) (splice x nx p1) 0 L)) := Lib.hid (by
          have h1 := hb6.put 72 (.int .i64 ((0 : Nat) : Int))
          rw [dgC_nx _ _ _ _ _ HX4.out] at h1; exact h1)
        have hf6 := hb6.free 72
        have c6 : w6.cell? ⟨g, 72, none⟩ = some (.int .i64 ((64 : Nat) : Int)) := (hb6.cell 72).trans (dgC_r _ _ _ _ HX4.out).1
        clear hb6 hg6
        go_wp2_with fail
        all_goals
          go_meet
          case rel => exact ⟨q, _, _, rfl, Lib.hid hqn, Lib.hid (by omega), Lib.hid (rd_drop (HR.out.grew (HG6.out.trans (grown_put w6 g 72 _)) HA.out) hqn _ (fun h => by first | rfl | (exfalso; omega))), Lib.hid (by first | exact HA.out | exact apart_map HA.out),
            Lib.hid ⟨_, _, 0, by rw [← HP1.out]; exact took_full HK.out p1 (by rw [HP1L.out]; exact HRR.out.symm) (by have := HP1L.out; have := HRR.out; omega), HB7.out, .inl rfl⟩, Lib.hid (HG6.out.trans (grown_put w6 g 72 _))⟩
      · have hqe : q = n := by
          have h1 := HQ.out; have h2 := HRR.out
          rw [show Nat.min n (64 - nx) = min n (64 - nx) from rfl] at h1
          omega
        have HQE := Lib.hid hqe
        clear hqe
        go_wp2_with fail
        all_goals
          go_meet
          case rel => exact ⟨q, _, _, rfl, Lib.hid hqn, Lib.hid (by omega), Lib.hid (rd_drop (HR.out.grew HG5.out HA.out) hqn _ (fun h => by first | rfl | (exfalso; omega))), Lib.hid (by first | exact HA.out | exact apart_map HA.out),
            Lib.hid ⟨_, _, r, by rw [← HP1.out, HRR.out, ← HP1L.out]; exact took_part HK.out p1 (by have := HP1L.out; have := HRR.out; have := HQ1.out; omega), HB5.out, .inr HQE.out⟩, HG5⟩
    · have h0 : nx = 0 := by omega
      subst h0
      go_wp2_with fail
      all_goals
        go_meet
        case rel => exact ⟨0, A, c, rfl, Lib.hid (Nat.zero_le _), Lib.hid hnc, Lib.hid (HR.out.grew HG.out HA.out), HA, Lib.hid ⟨hs, x, 0, by rw [List.take_zero, List.append_nil]; exact HK.out, HB.out, .inl rfl⟩, HG⟩
  case rest =>
    obtain ⟨q, A1, d, rfl, hqn, hnd, HR1, HA1, HD1, HG1⟩ := hcut
    obtain ⟨m1, hm1⟩ : ∃ m1, m1 = m ++ p.take q := ⟨_, rfl⟩
    obtain ⟨p1, hp1⟩ : ∃ p1, p1 = p.drop q := ⟨_, rfl⟩
    obtain ⟨k, hk1⟩ : ∃ k, k = n - q := ⟨_, rfl⟩
    have hmm : m ++ p = m1 ++ p1 := by rw [hm1, hp1, List.append_assoc, List.take_append_drop]
    have hql : k = p1.length := by rw [hp1, List.length_drop, ← HPL.out, hk1]
    obtain ⟨h1, x1, y1, hD1, hB1, hor⟩ := HD1.out
    rw [← hm1] at hD1
    rw [← hk1] at hnd
    have hkb : k ≤ 140737488355328 := by have := HL.out; have := HPL.out; omega
    have HR2 : Hid (Rd wc w.heap.size 1 A1 k (bc p1)) := Lib.hid (by rw [hk1, hp1]; exact HR1.out)
    have HMM := Lib.hid hmm; have HQL := Lib.hid hql; have HOR := Lib.hid (show y1 = 0 ∨ k = 0 from hor.imp id (fun h => by omega))
    have HD2 := Lib.hid hD1; have HB2 := Lib.hid hB1; have HKB := Lib.hid hkb; have HND := hnd
    have HLN : Hid (L = (m ++ p).length) := Lib.hid (by rw [List.length_append]; exact HL.out.1)
    rw [← hk1]
    clear hm1 hp1 hk1 hmm hql hD1 hB1 hor HR1 HD1 hkb hnd HL0 HK HB hqn
    go_upto_if 61 with fail
    go_cut [1, 7] from 59 to 82 (fun v v7 wx => ∃ (q : Nat) (A' : Option Addr) (d : Nat), v = .slice A' (k - q) d ∧ Hid (q ≤ k ∧ k - q < 64) ∧ Hid (k - q ≤ d) ∧ Hid (Rd wx w.heap.size 1 A' (k - q) (bc (p1.drop q))) ∧ Hid (∀ ad, A' = some ad → some ad.block ≠ some g) ∧ Hid (∃ h x nx, Took (m1 ++ p1.take q) h x nx ∧ Blk wx g 215 (dgC h x nx L) ∧ (nx = 0 ∨ q = k)) ∧ Hid (w.grownBy wx (some g)))
    case first =>
      by_cases hk64 : 64 ≤ k
      · have hy0 : y1 = 0 := HOR.out.elim id (fun h => by omega)
        subst hy0
        obtain ⟨r, hr⟩ : ∃ r, r = k / 64 * 64 := ⟨_, rfl⟩
        have ea : bits .andNot .i64 (k : Int) 63 = (r : Int) := by rw [andNot63 k (by have := HKB.out; omega), hr]
        have HRR := Lib.hid (show r ≤ k ∧ r % 64 = 0 ∧ k - r < 64 ∧ 0 < r by omega)
        have HK64 := Lib.hid hk64
        clear hr
        go_wp2_with fail
        go_loopw [1, 7] (fun v v7 wr => ∃ (q i : Nat) (A' : Option Addr) (d' : Nat), v = .slice A' (k - q) d' ∧ v7 = .int .i64 (i : Int) ∧ Hid (q + i = r ∧ i % 64 = 0) ∧ Hid (k - q ≤ d') ∧ Hid (Rd wr w.heap.size 1 A' (k - q) (bc (p1.drop q))) ∧ Hid (∀ ad, A' = some ad → some ad.block ≠ some g) ∧ Hid (∃ h x, Took (m1 ++ p1.take q) h x 0 ∧ Blk wr g 215 (dgC h x 0 L)) ∧ Hid (w.grownBy wr (some g))) (fun _ i _ => (intOf i).toNat)
        case atStart => exact ⟨0, r, A1, d, rfl, rfl, Lib.hid ⟨Nat.zero_add _, HRR.out.2.1⟩, HND, HR2, HA1, Lib.hid ⟨h1, x1, by rw [List.take_zero, List.append_nil]; exact HD2.out, HB2.out⟩, HG1⟩
        case round =>
          obtain ⟨q, i, A2, d2, rfl, rfl, HQI, HND2, HR3, HA2, HD3, HG3⟩ := hrel
          obtain ⟨h3, x3, hD3, hB3⟩ := HD3.out
          have HD4 := Lib.hid hD3; have HB4 := Lib.hid hB3
          clear hD3 hB3 HD3
          have hqi := HQI.out; have hrr := HRR.out; have hnd2 := HND2.out
          have HI64 := Lib.hid hqi.2
          have HKL : Hid (k = p1.length) := HQL
          by_cases hi : 65536 < i
          · have u1 : (65536 : Int) ≤ (d2 : Int) := by omega
            have u2 : ¬ d2 = 65536 := by omega
            have u3 : 65536 ≤ k - q := by omega
            obtain ⟨i2, hi2⟩ : ∃ i2 : Nat, i2 = i - 65536 := ⟨_, rfl⟩
            have u4 : (i : Int) - 65536 = (i2 : Int) := by omega
            have u5 : IntKind.i64.wrap (i2 : Int) = (i2 : Int) := by have := HKB.out; rw [IntKind.wrap_i64]; omega
            have HI2 := Lib.hid hi2
            have HU3 := Lib.hid u3
            clear hqi hrr hnd2 hi2
            go_wp2_with fail
            refine (block_any g h3 x3 0 L ((p1.drop q).take 65536) A2 65536 d2 wr HB4.out HD4.out.len (rd_piece HR3.out HU3.out) (by decide) (by omega) rfl (HKW.out.grown HG3.out HKC.out)).mono ?_
            rintro e w6 ⟨rfl, hb6, hg6⟩
            have HB6 := Lib.hid hb6; have HG6 := Lib.hid hg6
            clear hb6 hg6
            go_wp2_with fail
            go_roundw
            case rel =>
              have hqi := HQI.out; have hrr := HRR.out; have hnd2 := HND2.out; have hi2 := HI2.out; have hkl := HKL.out
              refine ⟨q + 65536, i2, A2.map (fun x => x.add 65536), d2 - 65536, (by rw [Nat.sub_sub]; rfl), rfl, Lib.hid ⟨by omega, by omega⟩, Lib.hid (by omega), Lib.hid ?_, Lib.hid (apart_map HA2.out), Lib.hid ⟨_, _, took_next HD4.out (by decide) (by omega), HB6.out⟩, Lib.hid (HG3.out.trans HG6.out)⟩
              have h9 := rd_drop (HR3.out.grew HG6.out HA2.out) HU3.out _ (fun _ => rfl)
              rw [List.drop_drop, Nat.sub_sub] at h9
              exact h9
            case measure => have hi2 := HI2.out; simp [intOf]; omega
          · have u1 : (i : Int) ≤ (d2 : Int) := by omega
            have u3 : i ≤ k - q := by omega
            have u4 : (i : Int) ≤ ((k - q : Nat) : Int) := by omega
            have HU3 := Lib.hid u3
            clear hqi hrr hnd2
            go_wp2_with fail
            refine (block_any g h3 x3 0 L ((p1.drop q).take i) A2 i d2 wr HB4.out HD4.out.len (rd_piece HR3.out HU3.out) (by have := HKB.out; omega) (by omega) HI64.out (HKW.out.grown HG3.out HKC.out)).mono ?_
            rintro e w6 ⟨rfl, hb6, hg6⟩
            have HB6 := Lib.hid hb6; have HG6 := Lib.hid hg6
            clear hb6 hg6
            go_wp2_with fail
            all_goals
              go_meet
              case rel =>
                have hqi := HQI.out; have hrr := HRR.out; have hnd2 := HND2.out; have hkl := HKL.out; have hu3 := HU3.out
                refine ⟨q + i, _, _, by rw [Nat.sub_sub], Lib.hid ⟨by omega, by omega⟩, Lib.hid (by omega), Lib.hid ?_, Lib.hid (by first | exact HA2.out | exact apart_map HA2.out), Lib.hid ⟨_, _, 0, took_next HD4.out HI64.out (by omega), HB6.out, .inl rfl⟩, Lib.hid (HG3.out.trans HG6.out)⟩
                first
                  | (have h9 := rd_drop (HR3.out.grew HG6.out HA2.out) HU3.out _ (fun _ => rfl)
                     rw [List.drop_drop, Nat.sub_sub] at h9
                     exact h9)
                  | (have h9 := rd_drop (HR3.out.grew HG6.out HA2.out) HU3.out A2 (fun h => by exfalso; omega)
                     rw [List.drop_drop, Nat.sub_sub] at h9
                     exact h9)
      · go_wp2_with fail
        all_goals
          go_meet
          case rel => exact ⟨0, A1, d, rfl, Lib.hid ⟨Nat.zero_le _, by omega⟩, HND, HR2, HA1, Lib.hid ⟨h1, x1, y1, by rw [List.take_zero, List.append_nil]; exact HD2.out, HB2.out, HOR.out.imp id Eq.symm⟩, HG1⟩
    case rest =>
      obtain ⟨q, A2, d2, rfl, hqk, hnd2, HR3, HA2, HD3, HG3⟩ := hcut
      obtain ⟨p2, hp2⟩ : ∃ p2, p2 = p1.drop q := ⟨_, rfl⟩
      obtain ⟨m2, hm2⟩ : ∃ m2, m2 = m1 ++ p1.take q := ⟨_, rfl⟩
      obtain ⟨r, hr⟩ : ∃ r, r = k - q := ⟨_, rfl⟩
      have hmm : m ++ p = m2 ++ p2 := by rw [HMM.out, hm2, hp2, List.append_assoc, List.take_append_drop]
      obtain ⟨h3, x3, y3, hD3, hB3, hor⟩ := HD3.out
      rw [← hm2] at hD3
      have hrl : r = p2.length := by rw [hp2, List.length_drop, ← HQL.out, hr]
      have HR4 : Hid (Rd wc w.heap.size 1 A2 r (bc p2)) := Lib.hid (by rw [hr, hp2]; exact HR3.out)
      have hr64 : r < 64 := by rw [hr]; exact hqk.out.2
      have HOR3 := Lib.hid (show y3 = 0 ∨ r = 0 from hor.imp id (fun h => by omega))
      have HD4 := Lib.hid hD3; have HB4 := Lib.hid hB3; have HMM2 := Lib.hid hmm; have HRL := Lib.hid hrl
      have HR64 := Lib.hid hr64
      rw [← hr]
      clear hp2 hm2 hr hmm hD3 hB3 hor hrl HR3 HD3 HMM HR2 HD2 HB2 HOR hr64 hqk hnd2
      have hf := HB4.out.free 72
      by_cases hr0 : 0 < r
      · have hy3 : y3 = 0 := HOR3.out.elim id (fun h => by omega)
        subst hy3
        obtain ⟨L2, hL2⟩ : ∃ l : List UInt8, l = p2 := ⟨_, rfl⟩
        have hsrc : 0 < p2.length → some (⟨g, 8, none⟩ : Addr) = some ⟨g, 8 + 0, none⟩ ∧ ∃ ad, A2 = some ad ∧ ∀ j v, (bc p2)[j]? = some v → wc.cell? (ad.add j) = some v := fun h0 =>
          ⟨rfl, rd_src (q := p2.length) HR4.out (by rw [List.take_length]) h0⟩
        have hmin : p2.length = Nat.min r 64 := by have h1 := HRL.out; have := HR64.out; rw [show Nat.min r 64 = min r 64 from rfl]; omega
        have HSRC := Lib.hid hsrc; have HMIN := Lib.hid hmin
        have HP64 : Hid (0 + p2.length ≤ 64) := Lib.hid (by have := HRL.out; have := HR64.out; omega)
        clear hsrc hmin hL2 hf
        go_wp2_with (refine wpList_copy_dig rfl (.tmp 90) (.tmp 91) rfl _ _ _ _ _ _ rfl rfl g 0 h3 x3 p2 0 L HB4.out HD4.out.len HMIN.out HSRC.out HP64.out ?_; intro w4 hb4 hg4; have hf4 := hb4.out.free 72; have hc4 : w4.cell? ⟨g, 72, none⟩ = some (.int .i64 ((0 : Nat) : Int)) := (hb4.out.cell 72).trans (dgC_r _ _ _ _ (splice_len HD4.out.len HP64.out)).1)
        have hx4 := splice_len HD4.out.len HP64.out
        have hb5 := hb4.out.put 72 (.int .i64 (p2.length : Int))
        rw [dgC_nx _ _ _ _ _ hx4] at hb5
        go_ret2
        refine ⟨rfl, ⟨h3, splice x3 0 p2, p2.length, ?_, ?_⟩, (HG3.out.trans hg4.out).trans (grown_put w4 g 72 _)⟩
        · have h1 := took_part HD4.out p2 (by have := HRL.out; have := HR64.out; omega)
          rw [Nat.zero_add, ← HMM2.out] at h1
          exact h1
        · rw [← HLN.out]; exact hb5
      · have hr00 : r = 0 := by omega
        have hp20 : p2 = [] := List.eq_nil_of_length_eq_zero (by have := HRL.out; omega)
        go_wp2_with fail
        go_ret2
        refine ⟨rfl, ⟨h3, x3, y3, ?_, ?_⟩, HG3.out⟩
        · rw [HMM2.out, hp20, List.append_nil]; exact HD4.out
        · rw [← HLN.out]; exact HB4.out
end Go.Proofs.YtikikddkhikfkaaDoor

set_option linter.all false
namespace Go.Proofs.YtikikddkhikfkaaDoor
open Go.RowKit

theorem bc_set (l : List UInt8) (k : Nat) (b : UInt8) : (bc l).toArray.setIfInBounds k (.int .u8 (b.toNat : Int)) = (bc (l.set k b)).toArray := by
  rw [List.setIfInBounds_toArray]; unfold bc; rw [List.map_set]
theorem Blk.bytes {w : World} {g : Nat} {t : TypeId} {l : List UInt8} (h : Blk w g t (bc l).toArray) (k : Nat) (hk : k < l.length) : ∃ v, w.cell? ⟨g, k, none⟩ = some v := by
  rw [h.cell, List.getElem?_toArray]
  exact ⟨_, bc_get (List.getElem?_eq_getElem hk)⟩
/-- four bytes of a word laid at a place -/
def put4 (l : List UInt8) (off : Nat) (x : UInt32) : List UInt8 :=
  (((l.set off (UInt8.ofNat (x.toNat / 2 ^ 24))).set (off + 1) (UInt8.ofNat (x.toNat / 2 ^ 16))).set (off + 2) (UInt8.ofNat (x.toNat / 2 ^ 8))).set (off + 3) (UInt8.ofNat x.toNat)
theorem put4_length (l : List UInt8) (off : Nat) (x : UInt32) : (put4 l off x).length = l.length := by unfold put4; simp
theorem byte_sh (x : UInt32) (d k : Nat) (hd : d = 2 ^ k) : (x.toNat : Int) / (d : Int) % 256 = ((UInt8.ofNat (x.toNat / 2 ^ k)).toNat : Int) := by
  subst hd; rw [← byte_of]; omega
set_option maxRecDepth 100000 in
set_option maxHeartbeats 1600000 in
theorem put32_any (g off n c : Nat) (t : TypeId) (l : List UInt8) (x : UInt32) (w : World) (hb : Blk w g t (bc l).toArray) (h4 : 4 ≤ n) (hl : off + 4 ≤ l.length) :
    Calls Tryd.prog 135 #[.slice (some ⟨g, off, none⟩) n c, .int .u32 (x.toNat : Int)] w fun e w' => e = .returned (.tuple #[]) ∧ Blk w' g t (bc (put4 l off x)).toArray ∧ w.grownBy w' (some g) := by
  obtain ⟨v0, c0⟩ := hb.bytes off (by omega)
  obtain ⟨v1, c1⟩ := hb.bytes (off + 1) (by omega)
  obtain ⟨v2, c2⟩ := hb.bytes (off + 2) (by omega)
  obtain ⟨v3, c3⟩ := hb.bytes (off + 3) (by omega)
  obtain ⟨y3, hy3⟩ : ∃ y3 : UInt8, v3 = .int .u8 (y3.toNat : Int) := by
    rw [hb.cell, List.getElem?_toArray, bc_get (List.getElem?_eq_getElem (show off + 3 < l.length by omega))] at c3
    exact ⟨_, (Option.some.inj c3).symm⟩
  subst hy3
  have f0 := hb.free off
  have f1 := hb.free (off + 1)
  have f2 := hb.free (off + 2)
  have f3 := hb.free (off + 3)
  have HB := Lib.hid hb
  have HX := Lib.hid (And.intro (show (x.toNat : Int) / 16777216 % 256 = _ from byte_sh x 16777216 24 rfl) (And.intro (show (x.toNat : Int) / 65536 % 256 = _ from byte_sh x 65536 16 rfl) (And.intro (show (x.toNat : Int) / 256 % 256 = _ from byte_sh x 256 8 rfl) (byte_of x.toNat))))
  have hn0 : 0 < n := by omega
  have hn1 : 1 < n := by omega
  have hn2 : 2 < n := by omega
  have hn3 : 3 < n := by omega
  clear hb hl h4
  go_enter Tryd.func135, Tryd.ntmps135
  go_wp2_with fail
  rw [HX.out.1, HX.out.2.1, HX.out.2.2.1, HX.out.2.2.2]
  have h1 := (((HB.out.put off (.int .u8 ((UInt8.ofNat (x.toNat / 2 ^ 24)).toNat : Int))).put (off + 1) (.int .u8 ((UInt8.ofNat (x.toNat / 2 ^ 16)).toNat : Int))).put (off + 2) (.int .u8 ((UInt8.ofNat (x.toNat / 2 ^ 8)).toNat : Int))).put (off + 3) (.int .u8 ((UInt8.ofNat x.toNat).toNat : Int))
  rw [bc_set, bc_set, bc_set, bc_set] at h1
  exact ⟨rfl, .tuple #[], results_none rfl _ _ _, rfl, h1, (((grown_put w g _ _).trans (grown_put _ g _ _)).trans (grown_put _ g _ _)).trans (grown_put _ g _ _)⟩

theorem be8_length (n : Nat) : (be8 n).length = 8 := by simp [be8]
theorem be8_get (n k : Nat) (hk : k < 8) : (be8 n)[k]? = some (UInt8.ofNat (n / 2 ^ (56 - 8 * k))) := by
  unfold be8
  rw [List.getElem?_map, List.getElem?_range hk]; rfl
theorem splice_next {l xs : List UInt8} {off k : Nat} {b : UInt8} (hl : off + xs.length ≤ l.length) (hk : xs[k]? = some b) : (splice l off (xs.take k)).set (off + k) b = splice l off (xs.take (k + 1)) := by
  have hkl := (List.getElem?_eq_some_iff.1 hk).1
  have e1 : (xs.take k).length = k := by rw [List.length_take]; omega
  have e2 : (xs.take (k + 1)).length = k + 1 := by rw [List.length_take]; omega
  have e3 : (l.take off).length = off := by rw [List.length_take]; omega
  unfold splice
  rw [e1, e2, List.set_append_right _ _ (by omega), e3, List.set_append_right _ _ (by omega), e1]
  have e4 : off + k - off - k = 0 := by omega
  have h4 : off + k < l.length := by omega
  rw [e4, List.drop_eq_getElem_cons h4, List.set_cons_zero, List.take_succ_eq_append_getElem hkl, (List.getElem?_eq_some_iff.1 hk).2]
  simp [Nat.add_assoc]
theorem splice_zero (l : List UInt8) (off : Nat) : splice l off ([] : List UInt8) = l := by simp [splice]
set_option maxRecDepth 100000 in
set_option maxHeartbeats 1600000 in
theorem put64_any (g off n c : Nat) (t : TypeId) (l : List UInt8) (N : Nat) (w : World) (hb : Blk w g t (bc l).toArray) (h8 : 8 ≤ n) (hl : off + 8 ≤ l.length) (hN : N < 18446744073709551616) :
    Calls Tryd.prog 134 #[.slice (some ⟨g, off, none⟩) n c, .int .u64 (N : Int)] w fun e w' => e = .returned (.tuple #[]) ∧ Blk w' g t (bc (splice l off (be8 N))).toArray ∧ w.grownBy w' (some g) := by
  obtain ⟨v7, c7⟩ := hb.bytes (off + 7) (by omega)
  obtain ⟨y7, hy7⟩ : ∃ y7 : UInt8, v7 = .int .u8 (y7.toNat : Int) := by
    rw [hb.cell, List.getElem?_toArray, bc_get (List.getElem?_eq_getElem (show off + 7 < l.length by omega))] at c7
    exact ⟨_, (Option.some.inj c7).symm⟩
  subst hy7
  have HB := Lib.hid hb; have HL := Lib.hid hl
  have hn7 : 7 < n := by omega
  clear hb hl
  go_enter Tryd.func134, Tryd.ntmps134
  go_wp2_with fail
  go_loopw [4] (fun i wr => ∃ k : Nat, k ≤ 8 ∧ i = .int .i64 (k : Int) ∧ Hid (Blk wr g t (bc (splice l off ((be8 N).take k))).toArray) ∧ Hid (w.grownBy wr (some g))) (fun i _ => 8 - (intOf i).toNat)
  case atStart => exact ⟨0, Nat.zero_le _, rfl, by show Blk _ _ _ _; rw [List.take_zero, splice_zero]; exact HB.out, World.grownBy.refl w _⟩
  case round =>
    obtain ⟨k, hk, rfl, HBK, HGK⟩ := hrel
    have hlen : (splice l off ((be8 N).take k)).length = l.length := length_splice _ _ _ (by rw [List.length_take, be8_length]; have := HL.out; omega)
    by_cases hlt : k < 8
    · obtain ⟨vk, ck⟩ := HBK.out.bytes (off + k) (by have := HL.out; omega)
      have fk := HBK.out.free (off + k)
      obtain ⟨d, hd⟩ : ∃ d, d = 56 - 8 * k := ⟨_, rfl⟩
      have e1 : IntKind.i64.wrap (56 - IntKind.i64.wrap (8 * (k : Int))) = (d : Int) := by rw [IntKind.wrap_i64, IntKind.wrap_i64]; omega
      have hkn : k < n := by omega
      have hbv : (N : Int) / 2 ^ (56 - 8 * k) % 256 = ((UInt8.ofNat (N / 2 ^ (56 - 8 * k))).toNat : Int) := by rw [← byte_of]; simp
      have HST := Lib.hid (splice_next (l := l) (off := off) (k := k) (by rw [be8_length]; exact HL.out) (be8_get N k hlt))
      have HD := Lib.hid hd; have HBV := Lib.hid hbv
      clear hlen hd hbv
      go_wp2_with fail
      rw [HBV.out]
      refine ⟨⟨k + 1, by omega, rfl, ?_, HGK.out.trans (grown_put _ g _ _)⟩, by simp [intOf]; omega⟩
      have h1 := HBK.out.put (off + k) (.int .u8 ((UInt8.ofNat (N / 2 ^ (56 - 8 * k))).toNat : Int))
      rw [bc_set, HST.out] at h1
      exact h1
    · obtain rfl : k = 8 := by omega
      have e8 : (be8 N).take 8 = be8 N := List.take_of_length_le (by rw [be8_length]; omega)
      have h1 := HBK.out
      rw [e8] at h1
      have HB8 := Lib.hid h1
      clear h1 e8 hlen
      go_wp2
      exact ⟨rfl, .tuple #[], results_none rfl _ _ _, rfl, HB8.out, HGK.out⟩
end Go.Proofs.YtikikddkhikfkaaDoor
