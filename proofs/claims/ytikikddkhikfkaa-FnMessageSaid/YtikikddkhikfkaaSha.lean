/-
  SHA-256 in plain Lean, and how its words' operations read in the model: no function of the program is walked here. By the session.
-/
import Derived.Test.YtikikddkhikfkaaWire
import Derived.Laws.BitsAllLaws
set_option linter.all false
namespace Go.Proofs.Ytikikddkhikfkaa
open Go.RowKit

/-! words of 32 bits, as the model has them -/
def uv (x : UInt32) : Value := .int .u32 (x.toNat : Int)
theorem u32_lt (x : UInt32) : x.toNat < 4294967296 := x.toNat_lt
theorem w_xor (x y : UInt32) : bits .xor .u32 (x.toNat : Int) (y.toNat : Int) = ((x ^^^ y).toNat : Int) := by
  rw [u32_xor_nat _ _ (u32_lt x) (u32_lt y), UInt32.toNat_xor]
theorem w_and (x y : UInt32) : bits .and .u32 (x.toNat : Int) (y.toNat : Int) = ((x &&& y).toNat : Int) := by
  rw [u32_and_nat _ _ (u32_lt x) (u32_lt y), UInt32.toNat_and]
theorem w_or (x y : UInt32) : bits .or .u32 (x.toNat : Int) (y.toNat : Int) = ((x ||| y).toNat : Int) := by
  rw [u32_or_nat _ _ (u32_lt x) (u32_lt y), UInt32.toNat_or]
theorem w_add (x y : UInt32) : ((x.toNat : Int) + (y.toNat : Int)) % 4294967296 = ((x + y).toNat : Int) := by
  rw [UInt32.toNat_add]; omega
theorem w_add' (x y : UInt32) : IntKind.u32.wrap ((x.toNat : Int) + (y.toNat : Int)) = ((x + y).toNat : Int) := by
  rw [IntKind.wrap_u32, w_add]
theorem w_shr (x : UInt32) (k : Nat) (hk : k < 32) : (x.toNat : Int) / 2 ^ k = ((x >>> UInt32.ofNat k).toNat : Int) := by
  rw [UInt32.toNat_shiftRight, Nat.shiftRight_eq_div_pow, UInt32.toNat_ofNat_of_lt' (by show k < 4294967296; omega), Nat.mod_eq_of_lt hk]
  simp
theorem w_shl (x : UInt32) (k : Nat) (hk : k < 32) : IntKind.u32.wrap ((x.toNat : Int) * 2 ^ k) = ((x <<< UInt32.ofNat k).toNat : Int) := by
  rw [UInt32.toNat_shiftLeft, Nat.shiftLeft_eq, UInt32.toNat_ofNat_of_lt' (by show k < 4294967296; omega), Nat.mod_eq_of_lt hk, IntKind.wrap_u32]
  simp
theorem w_shl' (x : UInt32) (k : Nat) (hk : k < 32) : (x.toNat : Int) * 2 ^ k % 4294967296 = ((x <<< UInt32.ofNat k).toNat : Int) := by
  rw [← w_shl x k hk, IntKind.wrap_u32]
theorem w_not (x : UInt32) : bits .xor .u32 IntKind.u32.max (x.toNat : Int) = ((~~~x).toNat : Int) := by
  have h : IntKind.u32.max = ((UInt32.ofNat 4294967295).toNat : Int) := by decide
  rw [h, w_xor]
  have : UInt32.ofNat 4294967295 ^^^ x = ~~~x := by
    have : UInt32.ofNat 4294967295 = -1 := by decide
    rw [this]
    simp
  rw [this]
theorem w_byte (b : UInt8) : (b.toNat : Int) = (b.toUInt32.toNat : Int) := by simp

/-! SHA-256 -/
def rotr (x : UInt32) (k : Nat) : UInt32 := x >>> UInt32.ofNat k ||| x <<< UInt32.ofNat (32 - k)
structure St where
  a : UInt32
  b : UInt32
  c : UInt32
  d : UInt32
  e : UInt32
  f : UInt32
  g : UInt32
  h : UInt32
def St.list (s : St) : List UInt32 := [s.a, s.b, s.c, s.d, s.e, s.f, s.g, s.h]
def shaH : St := ⟨0x6a09e667, 0xbb67ae85, 0x3c6ef372, 0xa54ff53a, 0x510e527f, 0x9b05688c, 0x1f83d9ab, 0x5be0cd19⟩
def shaK : List UInt32 := [
  0x428a2f98, 0x71374491, 0xb5c0fbcf, 0xe9b5dba5, 0x3956c25b, 0x59f111f1, 0x923f82a4, 0xab1c5ed5,
  0xd807aa98, 0x12835b01, 0x243185be, 0x550c7dc3, 0x72be5d74, 0x80deb1fe, 0x9bdc06a7, 0xc19bf174,
  0xe49b69c1, 0xefbe4786, 0x0fc19dc6, 0x240ca1cc, 0x2de92c6f, 0x4a7484aa, 0x5cb0a9dc, 0x76f988da,
  0x983e5152, 0xa831c66d, 0xb00327c8, 0xbf597fc7, 0xc6e00bf3, 0xd5a79147, 0x06ca6351, 0x14292967,
  0x27b70a85, 0x2e1b2138, 0x4d2c6dfc, 0x53380d13, 0x650a7354, 0x766a0abb, 0x81c2c92e, 0x92722c85,
  0xa2bfe8a1, 0xa81a664b, 0xc24b8b70, 0xc76c51a3, 0xd192e819, 0xd6990624, 0xf40e3585, 0x106aa070,
  0x19a4c116, 0x1e376c08, 0x2748774c, 0x34b0bcb5, 0x391c0cb3, 0x4ed8aa4a, 0x5b9cca4f, 0x682e6ff3,
  0x748f82ee, 0x78a5636f, 0x84c87814, 0x8cc70208, 0x90befffa, 0xa4506ceb, 0xbef9a3f7, 0xc67178f2]
/-- one turn of the state, with the sum of the round's constant and the message's word -/
def St.turn (s : St) (k w : UInt32) : St :=
  let s1 := rotr s.e 6 ^^^ rotr s.e 11 ^^^ rotr s.e 25
  let ch := (s.e &&& s.f) ^^^ (~~~s.e &&& s.g)
  let t1 := s.h + s1 + ch + k + w
  let s0 := rotr s.a 2 ^^^ rotr s.a 13 ^^^ rotr s.a 22
  let maj := ((s.a &&& s.b) ^^^ (s.a &&& s.c)) ^^^ (s.b &&& s.c)
  ⟨t1 + s0 + maj, s.a, s.b, s.c, s.d + t1, s.e, s.f, s.g⟩
def St.add (s t : St) : St := ⟨s.a + t.a, s.b + t.b, s.c + t.c, s.d + t.d, s.e + t.e, s.f + t.f, s.g + t.g, s.h + t.h⟩
/-- the first c bytes of word i of a block of bytes -/
def partW (p : List UInt8) (i : Nat) : Nat → UInt32
  | 0 => 0
  | c + 1 => partW p i c <<< 8 ||| (p.getD (4 * i + c) 0).toUInt32
/-- word i of a block of bytes -/
def wordAt (p : List UInt8) (i : Nat) : UInt32 := partW p i 4
/-- the next word of a message's words -/
def nextW (l : List UInt32) : UInt32 :=
  let x := l.getD (l.length - 15) 0
  let y := l.getD (l.length - 2) 0
  l.getD (l.length - 16) 0 + (rotr x 7 ^^^ rotr x 18 ^^^ x >>> 3) + l.getD (l.length - 7) 0 + (rotr y 17 ^^^ rotr y 19 ^^^ y >>> 10)
/-- the first n words of a block -/
def wordsN (p : List UInt8) : Nat → List UInt32
  | 0 => []
  | n + 1 => wordsN p n ++ [if n < 16 then wordAt p n else nextW (wordsN p n)]
theorem wordsN_length (p : List UInt8) (n : Nat) : (wordsN p n).length = n := by
  induction n with
  | zero => rfl
  | succ n ih => simp [wordsN, ih]
/-- the state behind n rounds of a block -/
def roundsN (p : List UInt8) (s : St) : Nat → St
  | 0 => s
  | n + 1 => (roundsN p s n).turn (shaK.getD n 0) ((wordsN p 64).getD n 0)
def blockL (s : St) (p : List UInt8) : St := s.add (roundsN p s 64)
/-- the state behind the first n blocks -/
def blocksN (m : List UInt8) (s : St) : Nat → St
  | 0 => s
  | n + 1 => blockL (blocksN m s n) (m.drop (64 * n))
def be8 (n : Nat) : List UInt8 := (List.range 8).map fun i => UInt8.ofNat (n / 2 ^ (56 - 8 * i))
def zerosOf (n : Nat) : Nat := (119 - n % 64) % 64
def padL (b : List UInt8) : List UInt8 := b ++ [0x80] ++ List.replicate (zerosOf b.length) 0 ++ be8 (b.length * 8)
def out4 (x : UInt32) : List UInt8 := [UInt8.ofNat (x.toNat / 2 ^ 24), UInt8.ofNat (x.toNat / 2 ^ 16), UInt8.ofNat (x.toNat / 2 ^ 8), UInt8.ofNat x.toNat]
def St.bytes (s : St) : List UInt8 := s.list.flatMap out4
def shaL (b : List UInt8) : List UInt8 := (blocksN (padL b) shaH ((padL b).length / 64)).bytes
theorem shaL_length (b : List UInt8) : (shaL b).length = 32 := rfl
theorem padL_length (b : List UInt8) : (padL b).length % 64 = 0 := by
  simp only [padL, be8, zerosOf, List.length_append, List.length_cons, List.length_nil, List.length_replicate, List.length_map, List.length_range]
  omega
end Go.Proofs.Ytikikddkhikfkaa
