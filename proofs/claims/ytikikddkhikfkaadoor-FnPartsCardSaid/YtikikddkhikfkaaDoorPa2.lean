/-
  Bytes of the wire format, and words for rows of bytes that a call owns: no function of the program is walked here. By the session. SHA-256 in plain Lean, and how its words' operations read in the model: no function of the program is walked here. By the session. The reference's words of the wire format: walks. By the session. The tree of sums (RFC 6962) in plain Lean: the split, the root. By the session. The way from a leaf to the root in plain Lean: the sums beside it. By the session. The set that a law makes of a list of seats (laws.set without its last call), and what it calls: walks. By the session.
-/
import Derived.Test.YtikikddkhikfkaaDoorRows
import Derived.Test.YtikikddkhikfkaaDoorPa1
import Derived.RegionTactic
import Derived.ChangeAlike
import Derived.BigRegion
import Derived.Laws.BitsLemmas
import Derived.Laws.Bits64b
import Derived.Laws.BitsAllLaws
set_option linter.all false
namespace Go.Proofs.YtikikddkhikfkaaDoor
open Go.RowKit

/-- bytes as cells -/
def bc (s : List UInt8) : List Value := s.map fun b => .int .u8 (b.toNat : Int)
theorem bc_length (s : List UInt8) : (bc s).length = s.length := by simp [bc]
theorem bc_append (s t : List UInt8) : bc (s ++ t) = bc s ++ bc t := by simp [bc]
theorem bc_one (s : List UInt8) : ∀ u ∈ bc s, u.oneCell' = true := by
  intro u hu
  obtain ⟨b, _, rfl⟩ := List.mem_map.1 hu
  rfl
theorem bc_get {s : List UInt8} {j : Nat} {b : UInt8} (h : s[j]? = some b) : (bc s)[j]? = some (.int .u8 (b.toNat : Int)) := by simp [bc, h]

/-- a number in sevens of bits -/
def vi (n : Nat) : List UInt8 := if n < 128 then [UInt8.ofNat n] else UInt8.ofNat (n % 128 + 128) :: vi (n / 128)
  termination_by n
  decreasing_by omega
theorem vi_small {n : Nat} (h : n < 128) : vi n = [UInt8.ofNat n] := by rw [vi, if_pos h]
theorem vi_step {n : Nat} (h : ¬ n < 128) : vi n = UInt8.ofNat (n % 128 + 128) :: vi (n / 128) := by rw [vi, if_neg h]
theorem vi_length : ∀ (k n : Nat), n < 128 ^ (k + 1) → (vi n).length ≤ k + 1
  | 0, n => fun h => by rw [vi_small (by omega)]; simp
  | k + 1, n => fun h => by
    by_cases h1 : n < 128
    · rw [vi_small h1]; simp
    · rw [vi_step h1]
      have := vi_length k (n / 128) (by rw [Nat.div_lt_iff_lt_mul (by omega)]; rw [Nat.pow_succ] at h; exact h)
      simp; omega
theorem vi_ten {n : Nat} (h : n < 18446744073709551616) : (vi n).length ≤ 10 := vi_length 9 n (by omega)

/-- uint64(n) -/
def u64 (n : Int) : Nat := (n % 18446744073709551616).toNat
theorem u64_lt (n : Int) : u64 n < 18446744073709551616 := by unfold u64; omega
theorem u64_cast (n : Int) : ((u64 n : Nat) : Int) = n % 18446744073709551616 := by unfold u64; omega
theorem u64_nat {n : Nat} (h : n < 18446744073709551616) : u64 (n : Int) = n := by unfold u64; omega

def in64' (x : Int) : Prop := -9223372036854775808 ≤ x ∧ x ≤ 9223372036854775807
/-- fields of messages -/
def numB (f n : Nat) : List UInt8 := if n = 0 then [] else UInt8.ofNat (f * 8) :: vi n
def le8 (n : Nat) : List UInt8 := (List.range 8).map fun i => UInt8.ofNat (n / 2 ^ (8 * i))
def fixB (f n : Nat) : List UInt8 := if n = 0 then [] else UInt8.ofNat (f * 8 + 1) :: le8 n
def msgB (f : Nat) (x : List UInt8) : List UInt8 := UInt8.ofNat (f * 8 + 2) :: (vi x.length ++ x)
def txtB (f : Nat) (x : List UInt8) : List UInt8 := if x.length = 0 then [] else msgB f x
theorem numB_length (f n : Nat) (h : n < 18446744073709551616) : (numB f n).length ≤ 11 := by
  unfold numB; have := vi_ten h; split <;> simp <;> omega
theorem fixB_length (f n : Nat) : (fixB f n).length ≤ 9 := by unfold fixB le8; split <;> simp
theorem msgB_length (f : Nat) (x : List UInt8) (h : x.length < 18446744073709551616) : (msgB f x).length ≤ 11 + x.length := by
  unfold msgB; have := vi_ten h; simp; omega
theorem txtB_length (f : Nat) (x : List UInt8) (h : x.length < 18446744073709551616) : (txtB f x).length ≤ 11 + x.length := by
  unfold txtB; have := msgB_length f x h; split <;> simp <;> omega

/-! ### a row of bytes that the call owns -/
def Own8 (w : World) (B : Nat) (A : Option Addr) (n c : Nat) (s : List UInt8) : Prop := w.ownsRow B 5 1 (.slice A n c) n (bc s)
/-- what reads as bytes, in a block below B -/
def Rd8 (w : World) (B : Nat) (A : Option Addr) (s : List UInt8) : Prop := Rd w B 1 A s.length (bc s)
theorem Own8.len {w : World} {B n c : Nat} {A : Option Addr} {s : List UInt8} (h : Own8 w B A n c s) : n = s.length := by
  have := h.1; rw [bc_length] at this; omega
theorem Own8.rd {w : World} {B n c : Nat} {A : Option Addr} {s : List UInt8} (h : Own8 w B A n c s) : Rd w w.heap.size 1 A n (bc s) := Rd.of_own h
theorem Own8.rd8 {w : World} {B n c : Nat} {A : Option Addr} {s : List UInt8} (h : Own8 w B A n c s) : Rd8 w w.heap.size A s := by
  have := h.rd; rw [h.len] at this; exact this
theorem Own8.nil (w : World) (B : Nat) : Own8 w B none 0 0 [] := World.ownsRow_nil w B _ _
theorem Own8.below {w w' : World} {B K n c : Nat} {A : Option Addr} {s : List UInt8} (h : Own8 w B A n c s) (hb : Below K w w') (hK : w.heap.size ≤ K) : Own8 w' B A n c s := own_below h hb hK
theorem Own8.more {w : World} {B B' n c : Nat} {A : Option Addr} {s : List UInt8} (h : Own8 w B A n c s) (hB : B' ≤ B) : Own8 w B' A n c s := by
  refine ⟨h.1, ?_⟩
  rcases h.2 with h2 | ⟨g, cap, cur, hv, hg, r⟩
  · exact Or.inl h2
  · exact Or.inr ⟨g, cap, cur, hv, Nat.le_trans hB hg, r⟩
theorem Own8.at_ {w : World} {B n c : Nat} {A : Option Addr} {s : List UInt8} (h : Own8 w B A n c s) : ∀ k, (Value.slice A n c).ownBlock = some k → B ≤ k ∧ k < w.heap.size := h.lt
/-- w' is w with new blocks and writes to v's row alone; v' lies in v's row or in a new one -/
def Grew (w w' : World) (v v' : Value) : Prop := w.grownBy w' v.ownBlock ∧ ∀ k, v'.ownBlock = some k → v.ownBlock = some k ∨ w.heap.size ≤ k
theorem Grew.refl (w : World) (v : Value) : Grew w w v v := ⟨World.grownBy.refl w _, fun _ h => .inl h⟩
theorem grown_trans {w w1 w2 : World} {r r1 : Option Nat} (h : w.grownBy w1 r) (k : w1.grownBy w2 r1) (hr : ∀ b, r1 = some b → r = some b ∨ w.heap.size ≤ b) : w.grownBy w2 r := by
  refine ⟨k.os.trans h.os, k.tape.trans h.tape, k.output.trans h.output, Nat.le_trans h.size k.size, fun i hi hne => ?_⟩
  have h1 := h.block i hi hne
  rw [← h1]
  refine k.block i (Nat.lt_of_lt_of_le hi h.size) fun e => ?_
  rcases hr i e.symm with h2 | h2
  · exact hne h2.symm
  · omega
theorem Grew.trans {w w1 w2 : World} {v v1 v2 : Value} (h : Grew w w1 v v1) (k : Grew w1 w2 v1 v2) : Grew w w2 v v2 :=
  ⟨grown_trans h.1 k.1 h.2, fun b hb => by
    rcases k.2 b hb with h1 | h1
    · exact h.2 b h1
    · right; have := h.1.size; omega⟩
theorem Grew.below {w w' : World} {v v' : Value} {B : Nat} (h : Grew w w' v v') (hB : B ≤ w.heap.size) (hv : ∀ k, v.ownBlock = some k → B ≤ k) : Below B w w' :=
  (Below.refl B w).grown h.1 hB hv
theorem Grew.of_below {w w1 w2 : World} {v v1 : Value} (h : Grew w w1 v v1) (k : Below w1.heap.size w1 w2) : Grew w w2 v v1 :=
  ⟨grown_trans h.1 (grownAny_of k none) (fun _ e => by cases e), h.2⟩
theorem Below.grew {w w1 w2 : World} {v v1 : Value} (k : Below w.heap.size w w1) (h : Grew w1 w2 v v1) : Grew w w2 v v1 :=
  ⟨⟨h.1.os.trans k.os, h.1.tape.trans k.tape, h.1.output.trans k.output, Nat.le_trans k.size h.1.size, fun i hi hne => (h.1.block i (Nat.lt_of_lt_of_le hi k.size) hne).trans (k.block i hi)⟩, fun b hb => (h.2 b hb).imp id (fun h1 => Nat.le_trans k.size h1)⟩
/-- what reads as bytes does so still, if it lies in another row -/
theorem Rd.grew {w w' : World} {B sz n : Nat} {A : Option Addr} {xs : List Value} {r : Option Nat} (h : Rd w B sz A n xs) (hg : w.grownBy w' r) (ha : ∀ ad, A = some ad → some ad.block ≠ r) : Rd w' B sz A n xs :=
  ⟨h.1, fun j u hu => by
    obtain ⟨ad, e, hb, hc⟩ := h.2 j u hu
    exact ⟨ad, e, hb, hg.cell hc (by rw [add_block]; exact ha ad e)⟩⟩
/-- A's row is none of v's -/
def Apart8 (v : Value) (A : Option Addr) : Prop := ∀ ad, A = some ad → some ad.block ≠ v.ownBlock
theorem Apart8.grew {w w' : World} {v v' : Value} {A : Option Addr} (h : Apart8 v A) (hA : ∀ ad, A = some ad → ad.block < w.heap.size) (hg : Grew w w' v v') : Apart8 v' A := fun ad e hk => by
  rcases hg.2 _ hk.symm with h1 | h1
  · exact h ad e h1.symm
  · have := hA ad e; omega
theorem Apart8.of_lt {v : Value} {A : Option Addr} {B : Nat} (hv : ∀ k, v.ownBlock = some k → B ≤ k) (hA : ∀ ad, A = some ad → ad.block < B) : Apart8 v A := fun ad e hk => by
  have := hv _ hk.symm; have := hA ad e; omega
theorem Apart8.nil (A : Option Addr) (n c : Nat) : Apart8 (.slice none n c) A := fun _ _ h => by simp [Value.ownBlock] at h

theorem infoU8 : (Tryd.prog.info? 5).map (fun i => (i.zero, i.size, i.bytes)) = some (some (.int .u8 0), 1, 1) := by kernel_rfl
/-- append of bytes to a row of the call's own -/
theorem app8 {ops : Array Oper} {rest : List Oper} {o : Oper} {a : Act} {Q : Exit → Act → World → Prop} (w : World) (hgd : o.guard = none) (s x : Operand)
    (ho : o.op = .call { callee := .builtin .append, args := #[s, x], argTypes := #[22, 22] })
    (B n c : Nat) (A : Option Addr) (l : List UInt8) (hs : a.eval s = .slice A n c) (hown : Own8 w B A n c l)
    (Bx m d : Nat) (X : Option Addr) (news : List UInt8) (hx : a.eval x = .slice X m d) (hr : Rd w Bx 1 X m (bc news)) (hlen : n + m ≤ 100000000000) (hbase : B ≤ w.heap.size)
    (h : ∀ A' c' w', Own8 w' B A' (n + m) c' (l ++ news) → Grew w w' (.slice A n c) (.slice A' (n + m) c') → wpList Tryd.prog ops Q rest (a.put o.dst (.slice A' (n + m) c')) w') : wpList Tryd.prog ops Q (o :: rest) a w := by
  obtain ⟨i0, hi0, hz0, hz1, hz2⟩ := info_parts infoU8
  refine wpList_app w hgd s x 22 ho B 5 i0 _ 1 1 Tryd.underlying22 hi0 hz0 hz1 hz2 rfl (by decide) (.slice A n c) n (bc l) hs hown Bx X m d (bc news) hx hr (bc_one _) (by simp only [maxLen]; omega) (by omega) hbase ?_
  intro A' c' w' h1 h2 h3
  refine h A' c' w' (by rw [← bc_append] at h1; exact h1) ⟨h2, fun k hk => ?_⟩
  rcases h3 with e | e
  · left; rw [← e]; exact hk
  · right; rw [e] at hk; cases hk; exact Nat.le_refl _
/-- a new block of one byte -/
theorem Rd.byte (W : World) (v : Int) (b : UInt8) (t : TypeId) (N : Nat) (hv : v = (b.toNat : Int)) (hN : W.heap.size = N) : Rd (W.alloc (.cells #[.int .u8 v] t)) (N + 1) 1 (some ⟨N, 0, none⟩) 1 (bc [b]) := by
  have h := Rd.new W #[.int .u8 v] t 1 1 N rfl hN
  have e : (#[Value.int .u8 v]).toList = bc [b] := by simp [bc, hv]
  rw [e] at h
  exact h

theorem or_128 {x : Nat} (hx : x < 256) : bits .or .u8 (x : Int) 128 = ((UInt8.ofNat (x % 128 + 128)).toNat : Int) := by
  have h := (bits_nat .u8 8 (by decide) wraps_u8 x 128 (by simpa using hx) (by decide)).2
  have e : ((128 : Nat) : Int) = 128 := rfl
  rw [e] at h
  rw [h]
  have h2 : ∀ y : Fin 256, (y.val ||| 128) = (UInt8.ofNat (y.val % 128 + 128)).toNat := by decide +kernel
  exact congrArg Nat.cast (h2 ⟨x, hx⟩)
theorem and_127 {x : Nat} (hx : x < 18446744073709551616) : bits .and .u64 (x : Int) 127 = ((x % 128 : Nat) : Int) := by
  have h := bits_and_u64_nat x 127 hx (by omega)
  have e : ((127 : Nat) : Int) = 127 := rfl
  rw [e] at h
  rw [h]
  have := Nat.and_two_pow_sub_one_eq_mod x 7
  simp only [Nat.reducePow, Nat.reduceSub] at this
  rw [this]
theorem vi_acc {N : Nat} {acc : List UInt8} {x : Nat} (h : vi N = acc ++ vi x) (hN : N < 18446744073709551616) : acc.length ≤ 10 := by
  have := vi_ten hN
  rw [h] at this; simp at this; omega
theorem vi_next {N : Nat} {acc : List UInt8} {x : Nat} (h : vi N = acc ++ vi x) (hx : 127 < x) : vi N = (acc ++ [UInt8.ofNat (x % 128 + 128)]) ++ vi (x / 128) := by
  rw [h, vi_step (by omega)]; simp
theorem vi_last {N : Nat} {acc : List UInt8} {x : Nat} (h : vi N = acc ++ vi x) (hx : x ≤ 127) : vi N = acc ++ [UInt8.ofNat x] := by
  rw [h, vi_small (by omega)]
theorem wraps_i64 (n : Int) (h₀ : 0 ≤ n) (h₁ : n < 2 ^ 63) : IntKind.i64.wrap n = n := by rw [IntKind.wrap_i64]; omega
theorem le8_take (N k : Nat) (hk : k < 8) : (le8 N).take (k + 1) = (le8 N).take k ++ [UInt8.ofNat (N / 2 ^ (8 * k))] := by
  have hl : k < (le8 N).length := by simp [le8]; omega
  rw [List.take_succ_eq_append_getElem hl]
  simp [le8]
theorem byte_of (x : Nat) : (x : Int) % 256 = ((UInt8.ofNat x).toNat : Int) := by
  have : (UInt8.ofNat x).toNat = x % 256 := UInt8.toNat_ofNat'
  rw [this]; omega
theorem byte_at (N k : Nat) : (N : Int) / 2 ^ (8 * k) % 256 = ((UInt8.ofNat (N / 2 ^ (8 * k))).toNat : Int) := by
  rw [← byte_of]; simp
theorem Rd.len1 {w : World} {B n : Nat} {A : Option Addr} {s : List UInt8} (h : Rd w B 1 A n (bc s)) : n = s.length := by
  have := h.1; rw [bc_length] at this; omega
end Go.Proofs.YtikikddkhikfkaaDoor

set_option linter.all false
namespace Go.Proofs.YtikikddkhikfkaaDoor
open Go.RowKit

/-! words of 32 bits, as the model has them -/
def uv (x : UInt32) : Value := .int .u32 (x.toNat : Int)
theorem u32_lt (x : UInt32) : x.toNat < 4294967296 := x.toNat_lt
theorem w_xor (x y : UInt32) : bits .xor .u32 (x.toNat : Int) (y.toNat : Int) = ((x ^^^ y).toNat : Int) := by
  rw [u32_xor_nat _ _ (u32_lt x) (u32_lt y), UInt32.toNat_xor]
theorem w_and (x y : UInt32) : bits .and .u32 (x.toNat : Int) (y.toNat : Int) = ((x &&& y).toNat : Int) := by
  rw [u32_and_nat _ _ (u32_lt x) (u32_lt y), UInt32.toNat_and]
theorem w_or (x y : UInt32) : bits .or .u32 (x.toNat : Int) (y.toNat : Int) = ((x ||| y).toNat : Int) := by
  rw [u32_or_nat _ _ (u32_lt x) (u32_lt y), UInt32.toNat_or]
theorem w_add (x y : UInt32) : ((x.toNat : Int) + (y.toNat : Int)) % 4294967296 = ((x + y).toNat : Int) := by
  rw [UInt32.toNat_add]; omega
theorem w_add' (x y : UInt32) : IntKind.u32.wrap ((x.toNat : Int) + (y.toNat : Int)) = ((x + y).toNat : Int) := by
  rw [IntKind.wrap_u32, w_add]
theorem w_shr (x : UInt32) (k : Nat) (hk : k < 32) : (x.toNat : Int) / 2 ^ k = ((x >>> UInt32.ofNat k).toNat : Int) := by
  rw [UInt32.toNat_shiftRight, Nat.shiftRight_eq_div_pow, UInt32.toNat_ofNat_of_lt' (by show k < 4294967296; omega), Nat.mod_eq_of_lt hk]
  simp
theorem w_shl (x : UInt32) (k : Nat) (hk : k < 32) : IntKind.u32.wrap ((x.toNat : Int) * 2 ^ k) = ((x <<< UInt32.ofNat k).toNat : Int) := by
  rw [UInt32.toNat_shiftLeft, Nat.shiftLeft_eq, UInt32.toNat_ofNat_of_lt' (by show k < 4294967296; omega), Nat.mod_eq_of_lt hk, IntKind.wrap_u32]
  simp
theorem w_shl' (x : UInt32) (k : Nat) (hk : k < 32) : (x.toNat : Int) * 2 ^ k % 4294967296 = ((x <<< UInt32.ofNat k).toNat : Int) := by
  rw [← w_shl x k hk, IntKind.wrap_u32]
theorem w_not (x : UInt32) : bits .xor .u32 IntKind.u32.max (x.toNat : Int) = ((~~~x).toNat : Int) := by
  have h : IntKind.u32.max = ((UInt32.ofNat 4294967295).toNat : Int) := by decide
  rw [h, w_xor]
  have : UInt32.ofNat 4294967295 ^^^ x = ~~~x := by
    have : UInt32.ofNat 4294967295 = -1 := by decide
    rw [this]
    simp
  rw [this]
theorem w_byte (b : UInt8) : (b.toNat : Int) = (b.toUInt32.toNat : Int) := by simp

/-! SHA-256 -/
def rotr (x : UInt32) (k : Nat) : UInt32 := x >>> UInt32.ofNat k ||| x <<< UInt32.ofNat (32 - k)
structure St where
  a : UInt32
  b : UInt32
  c : UInt32
  d : UInt32
  e : UInt32
  f : UInt32
  g : UInt32
  h : UInt32
def St.list (s : St) : List UInt32 := [s.a, s.b, s.c, s.d, s.e, s.f, s.g, s.h]
def shaH : St := ⟨0x6a09e667, 0xbb67ae85, 0x3c6ef372, 0xa54ff53a, 0x510e527f, 0x9b05688c, 0x1f83d9ab, 0x5be0cd19⟩
def shaK : List UInt32 := [
  0x428a2f98, 0x71374491, 0xb5c0fbcf, 0xe9b5dba5, 0x3956c25b, 0x59f111f1, 0x923f82a4, 0xab1c5ed5,
  0xd807aa98, 0x12835b01, 0x243185be, 0x550c7dc3, 0x72be5d74, 0x80deb1fe, 0x9bdc06a7, 0xc19bf174,
  0xe49b69c1, 0xefbe4786, 0x0fc19dc6, 0x240ca1cc, 0x2de92c6f, 0x4a7484aa, 0x5cb0a9dc, 0x76f988da,
  0x983e5152, 0xa831c66d, 0xb00327c8, 0xbf597fc7, 0xc6e00bf3, 0xd5a79147, 0x06ca6351, 0x14292967,
  0x27b70a85, 0x2e1b2138, 0x4d2c6dfc, 0x53380d13, 0x650a7354, 0x766a0abb, 0x81c2c92e, 0x92722c85,
  0xa2bfe8a1, 0xa81a664b, 0xc24b8b70, 0xc76c51a3, 0xd192e819, 0xd6990624, 0xf40e3585, 0x106aa070,
  0x19a4c116, 0x1e376c08, 0x2748774c, 0x34b0bcb5, 0x391c0cb3, 0x4ed8aa4a, 0x5b9cca4f, 0x682e6ff3,
  0x748f82ee, 0x78a5636f, 0x84c87814, 0x8cc70208, 0x90befffa, 0xa4506ceb, 0xbef9a3f7, 0xc67178f2]
/-- one turn of the state, with the sum of the round's constant and the message's word -/
def St.turn (s : St) (k w : UInt32) : St :=
  let s1 := rotr s.e 6 ^^^ rotr s.e 11 ^^^ rotr s.e 25
  let ch := (s.e &&& s.f) ^^^ (~~~s.e &&& s.g)
  let t1 := s.h + s1 + ch + k + w
  let s0 := rotr s.a 2 ^^^ rotr s.a 13 ^^^ rotr s.a 22
  let maj := ((s.a &&& s.b) ^^^ (s.a &&& s.c)) ^^^ (s.b &&& s.c)
  ⟨t1 + s0 + maj, s.a, s.b, s.c, s.d + t1, s.e, s.f, s.g⟩
def St.add (s t : St) : St := ⟨s.a + t.a, s.b + t.b, s.c + t.c, s.d + t.d, s.e + t.e, s.f + t.f, s.g + t.g, s.h + t.h⟩
/-- the first c bytes of word i of a block of bytes -/
def partW (p : List UInt8) (i : Nat) : Nat → UInt32
  | 0 => 0
  | c + 1 => partW p i c <<< 8 ||| (p.getD (4 * i + c) 0).toUInt32
/-- word i of a block of bytes -/
def wordAt (p : List UInt8) (i : Nat) : UInt32 := partW p i 4
/-- the next word of a message's words -/
def nextW (l : List UInt32) : UInt32 :=
  let x := l.getD (l.length - 15) 0
  let y := l.getD (l.length - 2) 0
  l.getD (l.length - 16) 0 + (rotr x 7 ^^^ rotr x 18 ^^^ x >>> 3) + l.getD (l.length - 7) 0 + (rotr y 17 ^^^ rotr y 19 ^^^ y >>> 10)
/-- the first n words of a block -/
def wordsN (p : List UInt8) : Nat → List UInt32
  | 0 => []
  | n + 1 => wordsN p n ++ [if n < 16 then wordAt p n else nextW (wordsN p n)]
theorem wordsN_length (p : List UInt8) (n : Nat) : (wordsN p n).length = n := by
  induction n with
  | zero => rfl
  | succ n ih => simp [wordsN, ih]
/-- the state behind n rounds of a block -/
def roundsN (p : List UInt8) (s : St) : Nat → St
  | 0 => s
  | n + 1 => (roundsN p s n).turn (shaK.getD n 0) ((wordsN p 64).getD n 0)
def blockL (s : St) (p : List UInt8) : St := s.add (roundsN p s 64)
/-- the state behind the first n blocks -/
def blocksN (m : List UInt8) (s : St) : Nat → St
  | 0 => s
  | n + 1 => blockL (blocksN m s n) (m.drop (64 * n))
def be8 (n : Nat) : List UInt8 := (List.range 8).map fun i => UInt8.ofNat (n / 2 ^ (56 - 8 * i))
def zerosOf (n : Nat) : Nat := (119 - n % 64) % 64
def padL (b : List UInt8) : List UInt8 := b ++ [0x80] ++ List.replicate (zerosOf b.length) 0 ++ be8 (b.length * 8)
def out4 (x : UInt32) : List UInt8 := [UInt8.ofNat (x.toNat / 2 ^ 24), UInt8.ofNat (x.toNat / 2 ^ 16), UInt8.ofNat (x.toNat / 2 ^ 8), UInt8.ofNat x.toNat]
def St.bytes (s : St) : List UInt8 := s.list.flatMap out4
def shaL (b : List UInt8) : List UInt8 := (blocksN (padL b) shaH ((padL b).length / 64)).bytes
theorem shaL_length (b : List UInt8) : (shaL b).length = 32 := rfl
theorem padL_length (b : List UInt8) : (padL b).length % 64 = 0 := by
  simp only [padL, be8, zerosOf, List.length_append, List.length_cons, List.length_nil, List.length_replicate, List.length_map, List.length_range]
  omega
end Go.Proofs.YtikikddkhikfkaaDoor

set_option linter.all false
namespace Go.Proofs.YtikikddkhikfkaaDoor
open Go.RowKit

set_option maxHeartbeats 800000 in
theorem counted_any (n : Int) (w : World) :
    Calls Tryd.prog 75 #[.int .i64 n] w fun e w' => ∃ A m c, e = .returned (.slice A m c) ∧ Own8 w' w.heap.size A m c (vi (u64 n)) ∧ Below w.heap.size w w' := by
  have hu : IntKind.u64.wrap n = ((u64 n : Nat) : Int) := by rw [u64_cast]; simp [IntKind.wrap, IntKind.bits, IntKind.signed]
  have hN := u64_lt n
  generalize u64 n = N at *
  go_enter Tryd.func75, Tryd.ntmps75
  go_wp2
  go_loopw [3, 4] (fun v u wr => ∃ (acc : List UInt8) (x : Nat) (A : Option Addr) (m c : Nat), u = .int .u64 x ∧ v = .slice A m c ∧ x < 18446744073709551616 ∧ Hid (vi N = acc ++ vi x) ∧ Hid (Own8 wr w.heap.size A m c acc) ∧ Hid (Below w.heap.size w wr)) (fun _ u _ => (intOf u).toNat)
  case atStart => exact ⟨[], N, none, 0, 0, by first | rfl | rw [hu], rfl, hN, rfl, Own8.nil _ _, Below.refl _ _⟩
  case round =>
    obtain ⟨acc, x, A, m, c, rfl, rfl, hx, HV, HO, HB⟩ := hrel
    have hz := HB.out.size
    have hacc := vi_acc HV.out hN
    have HM := Lib.hid HO.out.len
    by_cases hlt : 127 < x
    · have hb1 := and_127 hx
      have hb2 : bits .or .u8 ((x : Int) % 128) 128 = ((UInt8.ofNat (x % 128 + 128)).toNat : Int) := by
        have := or_128 (x := x % 128) (by omega)
        rw [Nat.mod_mod] at this
        rw [← this]; rfl
      have hnx := vi_next HV.out hlt
      have HNX := Lib.hid hnx; have HB2 := Lib.hid hb2; clear hnx hb2
      go_wp2_with (at_builtin; refine app8 _ rfl (.tmp 9) (.tmp 14) rfl w.heap.size m c A acc rfl ?ho (wr.heap.size + 1) 1 1 (some ⟨wr.heap.size, 0, none⟩) [UInt8.ofNat (x % 128 + 128)] rfl ?hr ?q1 ?hb ?_; (case hr => exact Rd.byte _ _ _ _ _ HB2.out (by simp)); (case q1 => have := HM.out; omega); (case ho => exact World.ownsRow.alloc HO.out _); (case hb => simp; omega); intro A2 c2 w2 hown2 hg2)
      go_roundw
      case rel => exact ⟨acc ++ [UInt8.ofNat (x % 128 + 128)], x / 128, A2, m + 1, c2, by first | rfl | go_num, rfl, by omega, HNX.out, hown2, (HB.out.alloc hz _).grown hg2.1 (by simp; omega) (fun k hk => (HO.out.at_ k hk).1)⟩
      case measure => simp [intOf]; omega
    · have hlast := vi_last HV.out (by omega)
      have hb2 : (x : Int) % 256 = ((UInt8.ofNat x).toNat : Int) := by
        rw [UInt8.toNat_ofNat_of_lt' (show x < 256 by omega)]; omega
      have HL := Lib.hid hlast; have HB2 := Lib.hid hb2; clear hlast hb2
      go_wp2_with (at_builtin; refine app8 _ rfl (.tmp 18) (.tmp 21) rfl w.heap.size m c A acc rfl ?ho (wr.heap.size + 1) 1 1 (some ⟨wr.heap.size, 0, none⟩) [UInt8.ofNat x] rfl ?hr ?q1 ?hb ?_; (case hr => refine Rd.byte _ _ _ _ _ ?_ (by simp); have := HB2.out; omega); (case q1 => have := HM.out; omega); (case ho => exact World.ownsRow.alloc HO.out _); (case hb => simp; omega); intro A2 c2 w2 hown2 hg2)
      go_ret
      exact ⟨A2, m + 1, c2, rfl, by rw [HL.out]; exact hown2, (HB.out.alloc hz _).grown hg2.1 (by simp; omega) (fun k hk => (HO.out.at_ k hk).1)⟩

theorem u64_zero {n : Int} (h : in64' n) : u64 n = 0 ↔ n = 0 := by unfold u64 in64' at *; omega
set_option maxHeartbeats 800000 in
theorem number_any (f : Nat) (n : Int) (w : World) (hf : f < 16) (hn : in64' n) :
    Calls Tryd.prog 37 #[.int .i64 f, .int .i64 n] w fun e w' => ∃ A m c, e = .returned (.slice A m c) ∧ Own8 w' w.heap.size A m c (numB f (u64 n)) ∧ Below w.heap.size w w' := by
  by_cases h0 : n = 0
  · subst h0
    go_enter Tryd.func37, Tryd.ntmps37
    go_wp2
    go_ret
    exact ⟨none, 0, 0, rfl, Own8.nil _ _, Below.refl _ _⟩
  · have hz : (n == 0) = false := by rw [beq_eq_false_iff_ne]; exact h0
    have hu : u64 n ≠ 0 := fun h => h0 ((u64_zero hn).1 h)
    have hC1 := counted_any (f * 8) w
    have hl := vi_ten (u64_lt n)
    have e1 : u64 ((f : Int) * 8) = f * 8 := by unfold u64; omega
    rw [e1, vi_small (by omega)] at hC1
    have HC1 := Lib.hid hC1; have HL := Lib.hid hl; clear hC1 hl
    have hB : Hid (numB f (u64 n) = [UInt8.ofNat (f * 8)] ++ vi (u64 n)) := by show _ = _; unfold numB; rw [if_neg hu]; rfl
    clear hu e1
    go_enter Tryd.func37, Tryd.ntmps37
    go_wp2_with fail
    refine HC1.out.mono ?_
    rintro e w1 ⟨A1, m1, c1, rfl, ho1, hb1⟩
    have HC2 := Lib.hid (counted_any n w1)
    have HO1 := Lib.hid ho1; have HB1 := Lib.hid hb1; clear ho1 hb1
    have z1 := HB1.out.size
    go_wp2_with fail
    refine HC2.out.mono ?_
    rintro e w2 ⟨A2, m2, c2, rfl, ho2, hb2⟩
    have HO2 := Lib.hid ho2; have HB2 := Lib.hid hb2; clear ho2 hb2
    have z2 := HB2.out.size
    have hm1 := HO1.out.len; have hm2 := HO2.out.len
    have HM : Hid (m1 + m2 ≤ 100000000000) := by show _ ≤ _; have := HL.out; simp at hm1; omega
    clear hm1 hm2
    go_wp2_with (at_builtin; refine app8 _ rfl (.tmp 9) (.tmp 11) rfl w.heap.size m1 c1 A1 _ rfl (HO1.out.below HB2.out (Nat.le_refl _)) _ m2 c2 A2 _ rfl HO2.out.rd HM.out (by omega) ?_; intro A3 c3 w3 ho3 hg3)
    go_ret
    exact ⟨A3, m1 + m2, c3, rfl, by rw [hB.out]; exact ho3, (HB1.out.trans (HB2.out.mono z1)).grown hg3.1 (by omega) (fun k hk => (HO1.out.at_ k hk).1)⟩


set_option maxHeartbeats 1600000 in
theorem within_any (f : Nat) (A : Option Addr) (n c : Nat) (b : List UInt8) (w : World) (hf : f < 15) (hr : Rd w w.heap.size 1 A n (bc b)) (hn : n ≤ 50000000000) :
    Calls Tryd.prog 50 #[.int .i64 f, .slice A n c] w fun e w' => ∃ A m c, e = .returned (.slice A m c) ∧ Own8 w' w.heap.size A m c (msgB f b) ∧ Below w.heap.size w w' := by
  have hnb : n = b.length := by have := hr.1; rw [bc_length] at this; omega
  have htag : bits .or .i64 ((f : Int) * 8) 2 = ((f * 8 + 2 : Nat) : Int) := by
    have := bits_join .i64 63 (by decide) wraps_i64 3 ((f : Int) * 8) 2 (by omega) (by omega) (by omega) (by omega) (by omega) (by omega)
    rw [this]; omega
  have hC1 := counted_any ((f * 8 + 2 : Nat) : Int) w
  have e1 : u64 ((f * 8 + 2 : Nat) : Int) = f * 8 + 2 := u64_nat (by omega)
  rw [e1, vi_small (by omega)] at hC1
  have hl := vi_ten (show n < 18446744073709551616 by omega)
  have HC1 := Lib.hid hC1; have HR := Lib.hid hr; have HL := Lib.hid hl
  have hB : Hid (msgB f b = ([UInt8.ofNat (f * 8 + 2)] ++ vi n) ++ b) := by show _ = _; unfold msgB; rw [← hnb]; simp
  clear e1 hC1 hr hl hnb
  go_enter Tryd.func50, Tryd.ntmps50
  go_wp2_with fail
  refine HC1.out.mono ?_
  rintro e w1 ⟨A1, m1, c1, rfl, ho1, hb1⟩
  have hC2 := counted_any (n : Int) w1
  rw [u64_nat (show n < 18446744073709551616 by omega)] at hC2
  have HC2 := Lib.hid hC2; clear hC2
  have HO1 := Lib.hid ho1; have HB1 := Lib.hid hb1; clear ho1 hb1
  have z1 := HB1.out.size
  go_wp2_with fail
  refine HC2.out.mono ?_
  rintro e w2 ⟨A2, m2, c2, rfl, ho2, hb2⟩
  have HO2 := Lib.hid ho2; have HB2 := Lib.hid hb2; clear ho2 hb2
  have z2 := HB2.out.size
  have hm1 := HO1.out.len; have hm2 := HO2.out.len
  have HM : Hid (m1 + m2 ≤ 11) := by show _ ≤ _; have := HL.out; simp at hm1; omega
  have HA : Hid (Below w.heap.size w w2) := HB1.out.trans (HB2.out.mono z1)
  clear hm1 hm2
  go_wp2_with (first | (at_builtin; refine app8 _ rfl (.tmp 8) (.tmp 11) rfl w.heap.size m1 c1 A1 _ rfl (HO1.out.below HB2.out (Nat.le_refl _)) _ m2 c2 A2 _ rfl HO2.out.rd (by have := HM.out; omega) (by omega) ?_; intro A3 c3 w3 ho3 hg3; have HO3 := Lib.hid ho3; have HB3 := Lib.hid (HA.out.grown hg3.1 (by omega) (fun k hk => (HO1.out.at_ k hk).1)); have HS3 := Lib.hid hg3.1.size; clear ho3 hg3) | (at_builtin; refine app8 _ rfl (.tmp 12) (.tmp 13) rfl w.heap.size (m1 + m2) c3 A3 _ rfl HO3.out w.heap.size n c A b rfl (HR.out.below HB3.out) (by have := HM.out; omega) (by have := HS3.out; omega) ?_; intro A4 c4 w4 ho4 hg4))
  go_ret
  exact ⟨A4, m1 + m2 + n, c4, rfl, by rw [hB.out]; exact ho4, HB3.out.grown hg4.1 (by have := HS3.out; omega) (fun k hk => (HO3.out.at_ k hk).1)⟩

set_option maxHeartbeats 800000 in
theorem some_any (f : Nat) (A : Option Addr) (n c : Nat) (b : List UInt8) (w : World) (hf : f < 15) (hr : Rd w w.heap.size 1 A n (bc b)) (hn : n ≤ 50000000000) :
    Calls Tryd.prog 38 #[.int .i64 f, .slice A n c] w fun e w' => ∃ A m c, e = .returned (.slice A m c) ∧ Own8 w' w.heap.size A m c (txtB f b) ∧ Below w.heap.size w w' := by
  have hnb : n = b.length := by have := hr.1; rw [bc_length] at this; omega
  by_cases h0 : n = 0
  · have hB : Hid (txtB f b = []) := by show _ = _; unfold txtB; rw [if_pos (by omega)]
    subst h0
    clear hr hnb
    go_enter Tryd.func38, Tryd.ntmps38
    go_wp2
    go_ret
    exact ⟨none, 0, 0, rfl, by rw [hB.out]; exact Own8.nil _ _, Below.refl _ _⟩
  · have hz : ((n : Int) == 0) = false := by rw [beq_eq_false_iff_ne]; omega
    have HC := Lib.hid (within_any f A n c b w hf hr hn)
    have hB : Hid (txtB f b = msgB f b) := by show _ = _; unfold txtB; rw [if_neg (by omega)]
    clear hr hnb
    go_enter Tryd.func38, Tryd.ntmps38
    go_wp2_with fail
    refine HC.out.mono ?_
    rintro e w1 ⟨A1, m1, c1, rfl, ho1, hb1⟩
    have HO1 := Lib.hid ho1; have HB1 := Lib.hid hb1; clear ho1 hb1
    go_wp2
    go_ret
    exact ⟨A1, m1, c1, rfl, by rw [hB.out]; exact HO1.out, HB1.out⟩

/-- bytes and where they lie -/
structure Bs where
  A : Option Addr
  n : Nat
  c : Nat
  s : List UInt8
def Bs.val (b : Bs) : Value := .slice b.A b.n b.c
def Bs.ok (w : World) (b : Bs) : Prop := Rd w w.heap.size 1 b.A b.n (bc b.s)
theorem Bs.ok.below {w w' : World} {b : Bs} (h : b.ok w) (hb : Below w.heap.size w w') : b.ok w' := (Rd.below h hb).more hb.size
def joinB (l : List Bs) : List UInt8 := l.flatMap Bs.s
theorem Rd.at1 {w : World} {B n : Nat} {A : Option Addr} {xs : List Value} {k : Nat} {x : Value} (h : Rd w B 1 A n xs) (hx : xs[k]? = some x) : ∃ ad, A = some ad ∧ ad.block < B ∧ w.cell? (ad.add k) = some x := h.2 k x hx
set_option maxHeartbeats 1600000 in
theorem joined_any (l : List Bs) (A : Option Addr) (n c : Nat) (w : World) (hr : Rd w w.heap.size 1 A n (l.map Bs.val)) (hl : ∀ b ∈ l, b.ok w) (hn : n ≤ 1000) (hs : ∀ k, ((l.take k).flatMap Bs.s).length ≤ 50000000000) :
    Calls Tryd.prog 36 #[.slice A n c] w fun e w' => ∃ A m c, e = .returned (.slice A m c) ∧ Own8 w' w.heap.size A m c (joinB l) ∧ Below w.heap.size w w' := by
  have hln : n = l.length := by have := hr.1; simp at this; omega
  have HL := Lib.hid hln; have HR := Lib.hid hr; have HO := Lib.hid hl; have HS := Lib.hid hs
  clear hln hr hl hs
  go_enter Tryd.func36, Tryd.ntmps36
  go_wp2
  go_loopw [3, 8] (fun v i wr => ∃ (k : Nat) (A1 : Option Addr) (m1 c1 : Nat), k ≤ n ∧ i = .int .i64 k ∧ v = .slice A1 m1 c1 ∧ Hid (Own8 wr w.heap.size A1 m1 c1 ((l.take k).flatMap Bs.s)) ∧ Hid (Below w.heap.size w wr)) (fun _ i _ => n - (intOf i).toNat)
  case atStart => exact ⟨0, none, 0, 0, Nat.zero_le _, rfl, rfl, Own8.nil _ _, Below.refl _ _⟩
  case round =>
    obtain ⟨k, A1, m1, c1, hk, rfl, rfl, HW, HB⟩ := hrel
    have hz := HB.out.size
    have HM := Lib.hid HW.out.len
    by_cases hlt : k < n
    · have hk' : k < l.length := by have := HL.out; omega
      have hx : l[k]? = some l[k] := List.getElem?_eq_getElem hk'
      obtain ⟨ad, rfl, _, c0⟩ := (HR.out.below HB.out).at1 (by rw [List.getElem?_map, hx]; rfl)
      have hst : (l.take (k + 1)).flatMap Bs.s = (l.take k).flatMap Bs.s ++ l[k].s := by
        rw [List.take_succ_eq_append_getElem hk', List.flatMap_append, List.flatMap_singleton]
      have hbd := HS.out (k + 1)
      rw [hst] at hbd
      have hok := HO.out _ (List.getElem_mem hk')
      generalize l[k] = x at *
      obtain ⟨xA, xn, xc, xs⟩ := x
      have hxn : xn = xs.length := by have := Rd.len1 hok; exact this
      have HX := Lib.hid hok; have HST := Lib.hid hst; have HBD := Lib.hid hbd; have HXN := Lib.hid hxn
      clear hok hst hbd hxn hx
      simp only [Bs.val] at c0
      go_wp2_with (at_builtin; refine app8 _ rfl (.tmp 12) (.tmp 13) rfl w.heap.size m1 c1 A1 _ rfl HW.out w.heap.size xn xc xA xs rfl (Rd.below HX.out HB.out) (by have := HM.out; have := HBD.out; have := HXN.out; simp only [List.length_append] at *; omega) (by omega) ?_; intro A2 c2 w2 ho2 hg2)
      go_roundw
      case rel => exact ⟨k + 1, A2, m1 + xn, c2, by omega, by go_num, rfl, by rw [HST.out]; exact ho2, HB.out.grown hg2.1 hz (fun k hk => (HW.out.at_ k hk).1)⟩
      case measure => simp [intOf]; omega
    · obtain rfl : k = n := by omega
      have h1 := HW.out
      rw [List.take_of_length_le (by have := HL.out; omega)] at h1
      have H1 := Lib.hid h1; clear h1
      go_wp2
      go_ret
      exact ⟨A1, m1, c1, rfl, H1.out, HB.out⟩
end Go.Proofs.YtikikddkhikfkaaDoor

set_option linter.all false
namespace Go.Proofs.YtikikddkhikfkaaDoor
open Go.RowKit

/-- how many of n leaves (two or more) stand on the left: the greatest power of two below n -/
def splitN (n : Nat) : Nat := 2 ^ (n - 1).log2
theorem splitN_pos (n : Nat) : 1 ≤ splitN n := Nat.one_le_two_pow
theorem splitN_lt {n : Nat} (h : 2 ≤ n) : splitN n < n := by
  have h1 : 2 ^ (n - 1).log2 ≤ n - 1 := Nat.log2_self_le (by omega)
  unfold splitN; omega
theorem splitN_ge {n : Nat} (h : 2 ≤ n) : n ≤ 2 * splitN n := by
  have h1 : n - 1 < 2 ^ ((n - 1).log2 + 1) := Nat.lt_log2_self
  rw [Nat.pow_succ] at h1
  unfold splitN; omega
theorem pow_between {a b n : Nat} (h1 : 2 ^ a < n) (h2 : n ≤ 2 * 2 ^ a) (h3 : 2 ^ b < n) (h4 : n ≤ 2 * 2 ^ b) : a = b := by
  rcases Nat.lt_trichotomy a b with h | h | h
  · have : 2 ^ (a + 1) ≤ 2 ^ b := Nat.pow_le_pow_right (by decide) h
    rw [Nat.pow_succ] at this; omega
  · exact h
  · have : 2 ^ (b + 1) ≤ 2 ^ a := Nat.pow_le_pow_right (by decide) h
    rw [Nat.pow_succ] at this; omega
theorem splitN_eq {n a : Nat} (h : 2 ≤ n) (h1 : 2 ^ a < n) (h2 : n ≤ 2 * 2 ^ a) : 2 ^ a = splitN n := by
  unfold splitN
  rw [pow_between h1 h2 (splitN_lt h) (splitN_ge h)]

def leafL (x : List UInt8) : List UInt8 := shaL (0 :: x)
def innerL (a b : List UInt8) : List UInt8 := shaL (1 :: (a ++ b))
/-- the sum of a tree of leaves -/
def rootL (l : List (List UInt8)) : List UInt8 :=
  if l.length = 0 then shaL [] else if l.length = 1 then leafL (l.getD 0 []) else innerL (rootL (l.take (splitN l.length))) (rootL (l.drop (splitN l.length)))
  termination_by l.length
  decreasing_by
    · have := splitN_lt (n := l.length) (by omega); rw [List.length_take]; omega
    · have := splitN_pos l.length; rw [List.length_drop]; omega
theorem rootL_nil : rootL [] = shaL [] := by rw [rootL]; rfl
theorem rootL_one (x : List UInt8) : rootL [x] = leafL x := by rw [rootL]; rfl
theorem rootL_more {l : List (List UInt8)} (h : 2 ≤ l.length) : rootL l = innerL (rootL (l.take (splitN l.length))) (rootL (l.drop (splitN l.length))) := by
  rw [rootL, if_neg (by omega), if_neg (by omega)]
theorem leafL_length (x : List UInt8) : (leafL x).length = 32 := rfl
theorem innerL_length (a b : List UInt8) : (innerL a b).length = 32 := rfl
theorem rootL_length (l : List (List UInt8)) : (rootL l).length = 32 := by
  rw [rootL]; split
  · rfl
  · split <;> rfl
end Go.Proofs.YtikikddkhikfkaaDoor

set_option linter.all false
namespace Go.Proofs.YtikikddkhikfkaaDoor
open Go.RowKit

/-- the sums beside the way from leaf i up, the deepest first -/
def auntsL (l : List (List UInt8)) (i : Nat) : List (List UInt8) :=
  if l.length ≤ 1 then [] else
    if i < splitN l.length then auntsL (l.take (splitN l.length)) i ++ [rootL (l.drop (splitN l.length))]
    else auntsL (l.drop (splitN l.length)) (i - splitN l.length) ++ [rootL (l.take (splitN l.length))]
  termination_by l.length
  decreasing_by
    · have := splitN_lt (n := l.length) (by omega); rw [List.length_take]; omega
    · have := splitN_pos l.length; rw [List.length_drop]; omega
theorem auntsL_one {l : List (List UInt8)} (h : l.length ≤ 1) (i : Nat) : auntsL l i = [] := by rw [auntsL, if_pos h]
theorem auntsL_left {l : List (List UInt8)} {i : Nat} (h : 2 ≤ l.length) (hi : i < splitN l.length) : auntsL l i = auntsL (l.take (splitN l.length)) i ++ [rootL (l.drop (splitN l.length))] := by
  rw [auntsL, if_neg (by omega), if_pos hi]
theorem auntsL_right {l : List (List UInt8)} {i : Nat} (h : 2 ≤ l.length) (hi : ¬ i < splitN l.length) : auntsL l i = auntsL (l.drop (splitN l.length)) (i - splitN l.length) ++ [rootL (l.take (splitN l.length))] := by
  rw [auntsL, if_neg (by omega), if_neg hi]
theorem auntsL_len (n : Nat) : ∀ (l : List (List UInt8)) (i : Nat), l.length = n → (auntsL l i).length ≤ n := by
  induction n using Nat.strongRecOn with
  | ind n ih =>
    intro l i hl
    by_cases h : l.length ≤ 1
    · rw [auntsL_one h]; exact Nat.zero_le _
    · have h1 := splitN_lt (n := l.length) (by omega)
      have h2 := splitN_pos l.length
      by_cases hi : i < splitN l.length
      · rw [auntsL_left (by omega) hi, List.length_append]
        have := ih (splitN l.length) (by omega) (l.take (splitN l.length)) i (by rw [List.length_take]; omega)
        simp only [List.length_cons, List.length_nil]; omega
      · rw [auntsL_right (by omega) hi, List.length_append]
        have := ih (l.length - splitN l.length) (by omega) (l.drop (splitN l.length)) (i - splitN l.length) (by rw [List.length_drop])
        simp only [List.length_cons, List.length_nil]; omega
theorem auntsL_32 (n : Nat) : ∀ (l : List (List UInt8)) (i : Nat), l.length = n → ∀ x ∈ auntsL l i, x.length = 32 := by
  induction n using Nat.strongRecOn with
  | ind n ih =>
    intro l i hl x hx
    by_cases h : l.length ≤ 1
    · rw [auntsL_one h] at hx; simp at hx
    · have h1 := splitN_lt (n := l.length) (by omega)
      have h2 := splitN_pos l.length
      by_cases hi : i < splitN l.length
      · rw [auntsL_left (by omega) hi, List.mem_append, List.mem_singleton] at hx
        rcases hx with hx | hx
        · exact ih (splitN l.length) (by omega) (l.take (splitN l.length)) i (by rw [List.length_take]; omega) x hx
        · rw [hx]; exact rootL_length _
      · rw [auntsL_right (by omega) hi, List.mem_append, List.mem_singleton] at hx
        rcases hx with hx | hx
        · exact ih (l.length - splitN l.length) (by omega) (l.drop (splitN l.length)) (i - splitN l.length) (by rw [List.length_drop]) x hx
        · rw [hx]; exact rootL_length _
end Go.Proofs.YtikikddkhikfkaaDoor

namespace Go.Proofs.YtikikddkhikfkaaDoor
open Go.RowKit

/-- are a seat's address or key those of another? -/
def sameB (x s : Sd) : Bool := x.adr.toList == s.adr.toList || x.key.toList == s.key.toList

set_option maxHeartbeats 400000 in
theorem cl_set (x s : Sd) (sb : Nat) (w : World) (h0 : w.cell? ⟨sb, 0, none⟩ = some (.string s.adr)) (h1 : w.cell? ⟨sb, 1, none⟩ = some (.string s.key)) (hsb : sb < w.heap.size) :
    Calls Tryd.prog 43 #[.agg #[.string x.adr, .string x.key, .int .i64 x.pow, .int .i64 x.pri], .pointer (some ⟨sb, 0, none⟩)] w fun e w' => e = .returned (.bool (sameB x s)) ∧ Below w.heap.size w w' := by
  by_cases ha : x.adr.toList = s.adr.toList
  · go_enter Tryd.func43, Tryd.ntmps43
    go_wp2
    go_ret
    exact ⟨by simp [sameB, ha], (Below.refl _ _).alloc (Nat.le_refl _) _⟩
  · have ha' : (x.adr.toList == s.adr.toList) = false := by simpa using ha
    go_enter Tryd.func43, Tryd.ntmps43
    go_wp2
    go_ret
    exact ⟨by simp [sameB, ha'], (Below.refl _ _).alloc (Nat.le_refl _) _⟩

/-- the first place in a list for which p holds, from k on -/
def findAt {α : Type} (p : α → Bool) : List α → Nat → Int
  | [], _ => -1
  | x :: r, k => if p x then k else findAt p r (k + 1)
theorem findAt_drop {α : Type} (p : α → Bool) (l : List α) (k : Nat) (x : α) (hx : l[k]? = some x) : findAt p (l.drop k) k = if p x then (k : Int) else findAt p (l.drop (k + 1)) (k + 1) := by
  have hk : k < l.length := (List.getElem?_eq_some_iff.1 hx).1
  rw [List.drop_eq_getElem_cons hk]
  have : l[k] = x := (List.getElem?_eq_some_iff.1 hx).2
  simp only [findAt, this]
theorem findAt_any {α : Type} (p : α → Bool) (l : List α) : ∀ k : Nat, decide (0 ≤ findAt p l k) = l.any p := by
  induction l with
  | nil => intro k; simp [findAt]
  | cons x r ih =>
    intro k
    simp only [findAt, List.any_cons]
    by_cases h : p x = true
    · simp only [h, if_true, Bool.true_or]; simp
    · simp only [h, Bool.false_or]; exact ih (k + 1)

set_option maxHeartbeats 800000 in
theorem index_set (l : List Sd) (A : Option Addr) (n c : Nat) (s : Sd) (sb : Nat) (w : World) (hr : Rd w w.heap.size 4 A n (cellsOf l)) (hn : n ≤ 1000000)
    (h0 : w.cell? ⟨sb, 0, none⟩ = some (.string s.adr)) (h1 : w.cell? ⟨sb, 1, none⟩ = some (.string s.key)) (hsb : sb < w.heap.size) :
    Calls Tryd.prog 76 #[.slice A n c, .func (.func 43) #[] #[.pointer (some ⟨sb, 0, none⟩)]] w fun e w' => e = .returned (.int .i64 (findAt (fun x => sameB x s) l 0)) ∧ Below w.heap.size w w' := by
  have hl := hr.len
  have HR := Lib.hid hr; clear hr
  have HL := Lib.hid hl; clear hl
  have H0 := Lib.hid h0; have H1 := Lib.hid h1; clear h0 h1
  go_enter Tryd.func76, Tryd.ntmps76
  go_wp2
  go_loopw [5, 8] (fun _ i wr => ∃ k : Nat, k ≤ n ∧ i = .int .i64 k ∧ Hid (findAt (fun x => sameB x s) (l.drop k) k = findAt (fun x => sameB x s) l 0) ∧ Below w.heap.size w wr) (fun _ i _ => n - (intOf i).toNat)
  case atStart => exact ⟨0, Nat.zero_le _, rfl, rfl, Below.refl _ _⟩
  case round =>
    obtain ⟨k, hk, rfl, HF, hb⟩ := hrel
    have hz := hb.size
    have h0 : wr.cell? ⟨sb, 0, none⟩ = some (.string s.adr) := (hb.cell (p := ⟨sb, 0, none⟩) hsb).trans H0.out
    have h1 : wr.cell? ⟨sb, 1, none⟩ = some (.string s.key) := (hb.cell (p := ⟨sb, 1, none⟩) hsb).trans H1.out
    have hs' : sb < wr.heap.size := by omega
    by_cases hlt : k < n
    · have hk' : k < l.length := by have := HL.out; omega
      have hx : l[k]? = some l[k] := List.getElem?_eq_getElem hk'
      obtain ⟨ad, rfl, _, c0, c1, c2, c3⟩ := (HR.out.below hb).seat hx
      have hd := findAt_drop (fun x => sameB x s) l k _ hx
      rw [HF.out] at hd
      clear HF
      generalize l[k] = x at *
      have HX := Lib.hid hx; clear hx
      cases hp : sameB x s with
      | true =>
        rw [hp, if_pos rfl] at hd
        have HD := Lib.hid hd; clear hd
        have HP := Lib.hid hp; clear hp
        go_wp2_with (go_at_call 43; refine (cl_set x s sb _ h0 h1 hs').mono ?_; rw [HP.out]; rintro e w1 ⟨rfl, hb1⟩)
        go_ret
        exact ⟨ret_int HD.out.symm, hb.trans (hb1.mono hz)⟩
      | false =>
        rw [hp, if_neg (by simp)] at hd
        have HD := Lib.hid hd; clear hd
        have HP := Lib.hid hp; clear hp
        go_wp2_with (go_at_call 43; refine (cl_set x s sb _ h0 h1 hs').mono ?_; rw [HP.out]; rintro e w1 ⟨rfl, hb1⟩)
        go_roundw
        case rel => exact ⟨k + 1, by omega, by go_num, HD.out.symm, hb.trans (hb1.mono hz)⟩
        case measure => simp [intOf]; omega
    · have e : k = n := by omega
      have hd : findAt (fun x => sameB x s) l 0 = -1 := by rw [← HF.out, List.drop_of_length_le (by have := HL.out; omega)]; rfl
      have HD := Lib.hid hd; clear hd
      have HE := Lib.hid e; clear e
      go_wp2
      go_ret
      exact ⟨ret_int HD.out.symm, hb⟩

theorem contains_set (l : List Sd) (A : Option Addr) (n c : Nat) (s : Sd) (sb : Nat) (w : World) (hr : Rd w w.heap.size 4 A n (cellsOf l)) (hn : n ≤ 1000000)
    (h0 : w.cell? ⟨sb, 0, none⟩ = some (.string s.adr)) (h1 : w.cell? ⟨sb, 1, none⟩ = some (.string s.key)) (hsb : sb < w.heap.size) :
    Calls Tryd.prog 42 #[.slice A n c, .func (.func 43) #[] #[.pointer (some ⟨sb, 0, none⟩)]] w fun e w' => e = .returned (.bool (l.any fun x => sameB x s)) ∧ Below w.heap.size w w' := by
  have HI := Lib.hid (index_set l A n c s sb w hr hn h0 h1 hsb)
  have HA := Lib.hid (findAt_any (fun x => sameB x s) l 0)
  clear hr h0 h1
  go_enter Tryd.func42, Tryd.ntmps42
  go_wp2_with (go_at_call 76; refine HI.out.mono ?_; rintro e w1 ⟨rfl, hb1⟩)
  go_ret
  exact ⟨ret_bool HA.out, hb1⟩
end Go.Proofs.YtikikddkhikfkaaDoor
