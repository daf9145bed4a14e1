/-
  Bytes of the wire format, and words for rows of bytes that a call owns: no function of the program is walked here. By the session.
-/
import Derived.Test.YtikikddkhikfkaaRows
import Derived.Test.YtikikddkhikfkaaMem
import Derived.RegionTactic
import Derived.ChangeAlike
import Derived.BigRegion
import Derived.Laws.BitsLemmas
import Derived.Laws.Bits64b
set_option linter.all false
namespace Go.Proofs.Ytikikddkhikfkaa
open Go.RowKit

/-- bytes as cells -/
def bc (s : List UInt8) : List Value := s.map fun b => .int .u8 (b.toNat : Int)
theorem bc_length (s : List UInt8) : (bc s).length = s.length := by simp [bc]
theorem bc_append (s t : List UInt8) : bc (s ++ t) = bc s ++ bc t := by simp [bc]
theorem bc_one (s : List UInt8) : ∀ u ∈ bc s, u.oneCell' = true := by
  intro u hu
  obtain ⟨b, _, rfl⟩ := List.mem_map.1 hu
  rfl
theorem bc_get {s : List UInt8} {j : Nat} {b : UInt8} (h : s[j]? = some b) : (bc s)[j]? = some (.int .u8 (b.toNat : Int)) := by simp [bc, h]

/-- a number in sevens of bits -/
def vi (n : Nat) : List UInt8 := if n < 128 then [UInt8.ofNat n] else UInt8.ofNat (n % 128 + 128) :: vi (n / 128)
  termination_by n
  decreasing_by omega
theorem vi_small {n : Nat} (h : n < 128) : vi n = [UInt8.ofNat n] := by rw [vi, if_pos h]
theorem vi_step {n : Nat} (h : ¬ n < 128) : vi n = UInt8.ofNat (n % 128 + 128) :: vi (n / 128) := by rw [vi, if_neg h]
theorem vi_length : ∀ (k n : Nat), n < 128 ^ (k + 1) → (vi n).length ≤ k + 1
  | 0, n => fun h => by rw [vi_small (by omega)]; simp
  | k + 1, n => fun h => by
    by_cases h1 : n < 128
    · rw [vi_small h1]; simp
    · rw [vi_step h1]
      have := vi_length k (n / 128) (by rw [Nat.div_lt_iff_lt_mul (by omega)]; rw [Nat.pow_succ] at h; exact h)
      simp; omega
theorem vi_ten {n : Nat} (h : n < 18446744073709551616) : (vi n).length ≤ 10 := vi_length 9 n (by omega)

/-- uint64(n) -/
def u64 (n : Int) : Nat := (n % 18446744073709551616).toNat
theorem u64_lt (n : Int) : u64 n < 18446744073709551616 := by unfold u64; omega
theorem u64_cast (n : Int) : ((u64 n : Nat) : Int) = n % 18446744073709551616 := by unfold u64; omega
theorem u64_nat {n : Nat} (h : n < 18446744073709551616) : u64 (n : Int) = n := by unfold u64; omega

def in64' (x : Int) : Prop := -9223372036854775808 ≤ x ∧ x ≤ 9223372036854775807
/-- fields of messages -/
def numB (f n : Nat) : List UInt8 := if n = 0 then [] else UInt8.ofNat (f * 8) :: vi n
def le8 (n : Nat) : List UInt8 := (List.range 8).map fun i => UInt8.ofNat (n / 2 ^ (8 * i))
def fixB (f n : Nat) : List UInt8 := if n = 0 then [] else UInt8.ofNat (f * 8 + 1) :: le8 n
def msgB (f : Nat) (x : List UInt8) : List UInt8 := UInt8.ofNat (f * 8 + 2) :: (vi x.length ++ x)
def txtB (f : Nat) (x : List UInt8) : List UInt8 := if x.length = 0 then [] else msgB f x
theorem numB_length (f n : Nat) (h : n < 18446744073709551616) : (numB f n).length ≤ 11 := by
  unfold numB; have := vi_ten h; split <;> simp <;> omega
theorem fixB_length (f n : Nat) : (fixB f n).length ≤ 9 := by unfold fixB le8; split <;> simp
theorem msgB_length (f : Nat) (x : List UInt8) (h : x.length < 18446744073709551616) : (msgB f x).length ≤ 11 + x.length := by
  unfold msgB; have := vi_ten h; simp; omega
theorem txtB_length (f : Nat) (x : List UInt8) (h : x.length < 18446744073709551616) : (txtB f x).length ≤ 11 + x.length := by
  unfold txtB; have := msgB_length f x h; split <;> simp <;> omega

/-! ### a row of bytes that the call owns -/
def Own8 (w : World) (B : Nat) (A : Option Addr) (n c : Nat) (s : List UInt8) : Prop := w.ownsRow B 5 1 (.slice A n c) n (bc s)
/-- what reads as bytes, in a block below B -/
def Rd8 (w : World) (B : Nat) (A : Option Addr) (s : List UInt8) : Prop := Rd w B 1 A s.length (bc s)
theorem Own8.len {w : World} {B n c : Nat} {A : Option Addr} {s : List UInt8} (h : Own8 w B A n c s) : n = s.length := by
  have := h.1; rw [bc_length] at this; omega
theorem Own8.rd {w : World} {B n c : Nat} {A : Option Addr} {s : List UInt8} (h : Own8 w B A n c s) : Rd w w.heap.size 1 A n (bc s) := Rd.of_own h
theorem Own8.rd8 {w : World} {B n c : Nat} {A : Option Addr} {s : List UInt8} (h : Own8 w B A n c s) : Rd8 w w.heap.size A s := by
  have := h.rd; rw [h.len] at this; exact this
theorem Own8.nil (w : World) (B : Nat) : Own8 w B none 0 0 [] := World.ownsRow_nil w B _ _
theorem Own8.below {w w' : World} {B K n c : Nat} {A : Option Addr} {s : List UInt8} (h : Own8 w B A n c s) (hb : Below K w w') (hK : w.heap.size ≤ K) : Own8 w' B A n c s := own_below h hb hK
theorem Own8.more {w : World} {B B' n c : Nat} {A : Option Addr} {s : List UInt8} (h : Own8 w B A n c s) (hB : B' ≤ B) : Own8 w B' A n c s := by
  refine ⟨h.1, ?_⟩
  rcases h.2 with h2 | ⟨g, cap, cur, hv, hg, r⟩
  · exact Or.inl h2
  · exact Or.inr ⟨g, cap, cur, hv, Nat.le_trans hB hg, r⟩
theorem Own8.at_ {w : World} {B n c : Nat} {A : Option Addr} {s : List UInt8} (h : Own8 w B A n c s) : ∀ k, (Value.slice A n c).ownBlock = some k → B ≤ k ∧ k < w.heap.size := h.lt
/-- w' is w with new blocks and writes to v's row alone; v' lies in v's row or in a new one -/
def Grew (w w' : World) (v v' : Value) : Prop := w.grownBy w' v.ownBlock ∧ ∀ k, v'.ownBlock = some k → v.ownBlock = some k ∨ w.heap.size ≤ k
theorem Grew.refl (w : World) (v : Value) : Grew w w v v := ⟨World.grownBy.refl w _, fun _ h => .inl h⟩
theorem grown_trans {w w1 w2 : World} {r r1 : Option Nat} (h : w.grownBy w1 r) (k : w1.grownBy w2 r1) (hr : ∀ b, r1 = some b → r = some b ∨ w.heap.size ≤ b) : w.grownBy w2 r := by
  refine ⟨k.os.trans h.os, k.tape.trans h.tape, k.output.trans h.output, Nat.le_trans h.size k.size, fun i hi hne => ?_⟩
  have h1 := h.block i hi hne
  rw [← h1]
  refine k.block i (Nat.lt_of_lt_of_le hi h.size) fun e => ?_
  rcases hr i e.symm with h2 | h2
  · exact hne h2.symm
  · omega
theorem Grew.trans {w w1 w2 : World} {v v1 v2 : Value} (h : Grew w w1 v v1) (k : Grew w1 w2 v1 v2) : Grew w w2 v v2 :=
  ⟨grown_trans h.1 k.1 h.2, fun b hb => by
    rcases k.2 b hb with h1 | h1
    · exact h.2 b h1
    · right; have := h.1.size; omega⟩
theorem Grew.below {w w' : World} {v v' : Value} {B : Nat} (h : Grew w w' v v') (hB : B ≤ w.heap.size) (hv : ∀ k, v.ownBlock = some k → B ≤ k) : Below B w w' :=
  (Below.refl B w).grown h.1 hB hv
theorem Grew.of_below {w w1 w2 : World} {v v1 : Value} (h : Grew w w1 v v1) (k : Below w1.heap.size w1 w2) : Grew w w2 v v1 :=
  ⟨grown_trans h.1 (grownAny_of k none) (fun _ e => by cases e), h.2⟩
theorem Below.grew {w w1 w2 : World} {v v1 : Value} (k : Below w.heap.size w w1) (h : Grew w1 w2 v v1) : Grew w w2 v v1 :=
  ⟨⟨h.1.os.trans k.os, h.1.tape.trans k.tape, h.1.output.trans k.output, Nat.le_trans k.size h.1.size, fun i hi hne => (h.1.block i (Nat.lt_of_lt_of_le hi k.size) hne).trans (k.block i hi)⟩, fun b hb => (h.2 b hb).imp id (fun h1 => Nat.le_trans k.size h1)⟩
/-- what reads as bytes does so still, if it lies in another row -/
theorem Rd.grew {w w' : World} {B sz n : Nat} {A : Option Addr} {xs : List Value} {r : Option Nat} (h : Rd w B sz A n xs) (hg : w.grownBy w' r) (ha : ∀ ad, A = some ad → some ad.block ≠ r) : Rd w' B sz A n xs :=
  ⟨h.1, fun j u hu => by
    obtain ⟨ad, e, hb, hc⟩ := h.2 j u hu
    exact ⟨ad, e, hb, hg.cell hc (by rw [add_block]; exact ha ad e)⟩⟩
/-- A's row is none of v's -/
def Apart8 (v : Value) (A : Option Addr) : Prop := ∀ ad, A = some ad → some ad.block ≠ v.ownBlock
theorem Apart8.grew {w w' : World} {v v' : Value} {A : Option Addr} (h : Apart8 v A) (hA : ∀ ad, A = some ad → ad.block < w.heap.size) (hg : Grew w w' v v') : Apart8 v' A := fun ad e hk => by
  rcases hg.2 _ hk.symm with h1 | h1
  · exact h ad e h1.symm
  · have := hA ad e; omega
theorem Apart8.of_lt {v : Value} {A : Option Addr} {B : Nat} (hv : ∀ k, v.ownBlock = some k → B ≤ k) (hA : ∀ ad, A = some ad → ad.block < B) : Apart8 v A := fun ad e hk => by
  have := hv _ hk.symm; have := hA ad e; omega
theorem Apart8.nil (A : Option Addr) (n c : Nat) : Apart8 (.slice none n c) A := fun _ _ h => by simp [Value.ownBlock] at h

theorem infoU8 : (Try.prog.info? 5).map (fun i => (i.zero, i.size, i.bytes)) = some (some (.int .u8 0), 1, 1) := by kernel_rfl
/-- append of bytes to a row of the call's own -/
theorem app8 {ops : Array Oper} {rest : List Oper} {o : Oper} {a : Act} {Q : Exit → Act → World → Prop} (w : World) (hgd : o.guard = none) (s x : Operand)
    (ho : o.op = .call { callee := .builtin .append, args := #[s, x], argTypes := #[22, 22] })
    (B n c : Nat) (A : Option Addr) (l : List UInt8) (hs : a.eval s = .slice A n c) (hown : Own8 w B A n c l)
    (Bx m d : Nat) (X : Option Addr) (news : List UInt8) (hx : a.eval x = .slice X m d) (hr : Rd w Bx 1 X m (bc news)) (hlen : n + m ≤ 1000000000) (hbase : B ≤ w.heap.size)
    (h : ∀ A' c' w', Own8 w' B A' (n + m) c' (l ++ news) → Grew w w' (.slice A n c) (.slice A' (n + m) c') → wpList Try.prog ops Q rest (a.put o.dst (.slice A' (n + m) c')) w') : wpList Try.prog ops Q (o :: rest) a w := by
  obtain ⟨i0, hi0, hz0, hz1, hz2⟩ := info_parts infoU8
  refine wpList_app w hgd s x 22 ho B 5 i0 _ 1 1 Try.underlying22 hi0 hz0 hz1 hz2 rfl (by decide) (.slice A n c) n (bc l) hs hown Bx X m d (bc news) hx hr (bc_one _) (by simp only [maxLen]; omega) (by omega) hbase ?_
  intro A' c' w' h1 h2 h3
  refine h A' c' w' (by rw [← bc_append] at h1; exact h1) ⟨h2, fun k hk => ?_⟩
  rcases h3 with e | e
  · left; rw [← e]; exact hk
  · right; rw [e] at hk; cases hk; exact Nat.le_refl _
/-- a new block of one byte -/
theorem Rd.byte (W : World) (v : Int) (b : UInt8) (t : TypeId) (N : Nat) (hv : v = (b.toNat : Int)) (hN : W.heap.size = N) : Rd (W.alloc (.cells #[.int .u8 v] t)) (N + 1) 1 (some ⟨N, 0, none⟩) 1 (bc [b]) := by
  have h := Rd.new W #[.int .u8 v] t 1 1 N rfl hN
  have e : (#[Value.int .u8 v]).toList = bc [b] := by simp [bc, hv]
  rw [e] at h
  exact h

theorem or_128 {x : Nat} (hx : x < 256) : bits .or .u8 (x : Int) 128 = ((UInt8.ofNat (x % 128 + 128)).toNat : Int) := by
  have h := (bits_nat .u8 8 (by decide) wraps_u8 x 128 (by simpa using hx) (by decide)).2
  have e : ((128 : Nat) : Int) = 128 := rfl
  rw [e] at h
  rw [h]
  have h2 : ∀ y : Fin 256, (y.val ||| 128) = (UInt8.ofNat (y.val % 128 + 128)).toNat := by decide +kernel
  exact congrArg Nat.cast (h2 ⟨x, hx⟩)
theorem and_127 {x : Nat} (hx : x < 18446744073709551616) : bits .and .u64 (x : Int) 127 = ((x % 128 : Nat) : Int) := by
  have h := bits_and_u64_nat x 127 hx (by omega)
  have e : ((127 : Nat) : Int) = 127 := rfl
  rw [e] at h
  rw [h]
  have := Nat.and_two_pow_sub_one_eq_mod x 7
  simp only [Nat.reducePow, Nat.reduceSub] at this
  rw [this]
theorem vi_acc {N : Nat} {acc : List UInt8} {x : Nat} (h : vi N = acc ++ vi x) (hN : N < 18446744073709551616) : acc.length ≤ 10 := by
  have := vi_ten hN
  rw [h] at this; simp at this; omega
theorem vi_next {N : Nat} {acc : List UInt8} {x : Nat} (h : vi N = acc ++ vi x) (hx : 127 < x) : vi N = (acc ++ [UInt8.ofNat (x % 128 + 128)]) ++ vi (x / 128) := by
  rw [h, vi_step (by omega)]; simp
theorem vi_last {N : Nat} {acc : List UInt8} {x : Nat} (h : vi N = acc ++ vi x) (hx : x ≤ 127) : vi N = acc ++ [UInt8.ofNat x] := by
  rw [h, vi_small (by omega)]
theorem wraps_i64 (n : Int) (h₀ : 0 ≤ n) (h₁ : n < 2 ^ 63) : IntKind.i64.wrap n = n := by rw [IntKind.wrap_i64]; omega
theorem le8_take (N k : Nat) (hk : k < 8) : (le8 N).take (k + 1) = (le8 N).take k ++ [UInt8.ofNat (N / 2 ^ (8 * k))] := by
  have hl : k < (le8 N).length := by simp [le8]; omega
  rw [List.take_succ_eq_append_getElem hl]
  simp [le8]
theorem byte_of (x : Nat) : (x : Int) % 256 = ((UInt8.ofNat x).toNat : Int) := by
  have : (UInt8.ofNat x).toNat = x % 256 := UInt8.toNat_ofNat'
  rw [this]; omega
theorem byte_at (N k : Nat) : (N : Int) / 2 ^ (8 * k) % 256 = ((UInt8.ofNat (N / 2 ^ (8 * k))).toNat : Int) := by
  rw [← byte_of]; simp
theorem Rd.len1 {w : World} {B n : Nat} {A : Option Addr} {s : List UInt8} (h : Rd w B 1 A n (bc s)) : n = s.length := by
  have := h.1; rw [bc_length] at this; omega
end Go.Proofs.Ytikikddkhikfkaa
