/-
  Proved: plain laws of words of 32 bits as the walks spell them (and, or, exclusive or, the complement, sums, shifts), and SHA-1's rounds and blocks as functions of such words.
  Conditions: each law's own.
-/
import Derived.Test.YtdlimgghcpbkcaaMem
namespace Go.Proofs.Ytdlimgghcpbkcaa.sha
open Go.RowKit Mem
set_option linter.unusedVariables false

/-- A word as a number. -/
def iv (x : BitVec 32) : Int := (x.toNat : Int)
theorem iv_lo (x : BitVec 32) : 0 ≤ iv x := Int.natCast_nonneg _
theorem iv_hi (x : BitVec 32) : iv x ≤ 4294967295 := by have := x.isLt; unfold iv; omega
theorem iv_ofInt (x : BitVec 32) : BitVec.ofInt 32 (iv x) = x := by simp [iv]
theorem wrap_nat (n : Nat) (h : n < 4294967296) : IntKind.u32.wrap (n : Int) = (n : Int) := by rw [IntKind.wrap_u32]; omega
theorem wrap_iv (x : BitVec 32) : IntKind.u32.wrap (iv x) = iv x := wrap_nat _ x.isLt
theorem iv_and (x y : BitVec 32) : bits .and .u32 (iv x) (iv y) = iv (x &&& y) := by
  show IntKind.u32.wrap ((BitVec.ofInt 32 (iv x) &&& BitVec.ofInt 32 (iv y)).toNat : Int) = _
  rw [iv_ofInt, iv_ofInt]; exact wrap_iv _
theorem iv_or (x y : BitVec 32) : bits .or .u32 (iv x) (iv y) = iv (x ||| y) := by
  show IntKind.u32.wrap ((BitVec.ofInt 32 (iv x) ||| BitVec.ofInt 32 (iv y)).toNat : Int) = _
  rw [iv_ofInt, iv_ofInt]; exact wrap_iv _
theorem iv_xor (x y : BitVec 32) : bits .xor .u32 (iv x) (iv y) = iv (x ^^^ y) := by
  show IntKind.u32.wrap ((BitVec.ofInt 32 (iv x) ^^^ BitVec.ofInt 32 (iv y)).toNat : Int) = _
  rw [iv_ofInt, iv_ofInt]; exact wrap_iv _
theorem iv_not (x : BitVec 32) : bits .xor .u32 (iv x) 4294967295 = iv (~~~ x) := by
  show bits .xor .u32 (iv x) (iv (BitVec.allOnes 32)) = _
  rw [iv_xor, BitVec.xor_allOnes]
theorem iv_not' (x : BitVec 32) : bits .xor .u32 4294967295 (iv x) = iv (~~~ x) := by
  show bits .xor .u32 (iv (BitVec.allOnes 32)) (iv x) = _
  rw [iv_xor, BitVec.allOnes_xor]
theorem iv_add (x y : BitVec 32) : (iv x + iv y) % 4294967296 = iv (x + y) := by
  unfold iv; rw [BitVec.toNat_add]; show _ = (((x.toNat + y.toNat) % 4294967296 : Nat) : Int); omega
theorem iv_addw (x y : BitVec 32) : IntKind.u32.wrap (iv x + iv y) = iv (x + y) := by rw [IntKind.wrap_u32, iv_add]
theorem iv_shl (x : BitVec 32) (n : Nat) : IntKind.u32.wrap (iv x * 2 ^ n) = iv (x <<< n) := by
  unfold iv; rw [IntKind.wrap_u32, BitVec.toNat_shiftLeft, Nat.shiftLeft_eq]
  show _ = ((x.toNat * 2 ^ n % 4294967296 : Nat) : Int)
  rw [Int.natCast_emod, Int.natCast_mul, Int.natCast_pow]; rfl
theorem iv_shr (x : BitVec 32) (n : Nat) : (iv x).fdiv (2 ^ n) = iv (x >>> n) := by
  unfold iv; rw [BitVec.toNat_ushiftRight, Nat.shiftRight_eq_div_pow]; rw [Int.natCast_ediv, Int.natCast_pow]; exact Int.fdiv_eq_ediv_of_nonneg _ (Int.le_of_lt (Int.pow_pos (by decide)))

/-- A word turned to the left, as the walks spell it. -/
def rotI (x : Int) (k : Nat) : Int := bits .or .u32 (IntKind.u32.wrap (x * 2 ^ k)) (x.fdiv (2 ^ (32 - k)))
def rot (x : BitVec 32) (k : Nat) : BitVec 32 := x <<< k ||| x >>> (32 - k)
theorem rotI_iv (x : BitVec 32) (k : Nat) : rotI (iv x) k = iv (rot x k) := by unfold rotI rot; rw [iv_shl, iv_shr, iv_or]

/-- The five words of the state. -/
structure S5 where
  a : BitVec 32
  b : BitVec 32
  c : BitVec 32
  d : BitVec 32
  e : BitVec 32
def S5.l (s : S5) : List (BitVec 32) := [s.a, s.b, s.c, s.d, s.e]
def S5.add (s t : S5) : S5 := ⟨s.a + t.a, s.b + t.b, s.c + t.c, s.d + t.d, s.e + t.e⟩
def init : S5 := ⟨0x67452301#32, 0xefcdab89#32, 0x98badcfe#32, 0x10325476#32, 0xc3d2e1f0#32⟩
def fch (b c d : BitVec 32) : BitVec 32 := (b &&& c) ^^^ (~~~b &&& d)
def fpar (b c d : BitVec 32) : BitVec 32 := b ^^^ c ^^^ d
def fmaj (b c d : BitVec 32) : BitVec 32 := ((b &&& c) ^^^ (b &&& d)) ^^^ (c &&& d)
theorem fch_or (b c d : BitVec 32) : (b &&& c) ||| (~~~b &&& d) = fch b c d := by
  unfold fch; ext i; simp; cases b[i] <;> cases c[i] <;> cases d[i] <;> rfl
theorem fmaj_or (b c d : BitVec 32) : ((b ||| c) &&& d) ||| (b &&& c) = fmaj b c d := by
  unfold fmaj; ext i; simp; cases b[i] <;> cases c[i] <;> cases d[i] <;> rfl
/-- One round, the function's word and the constant given. -/
def step (s : S5) (f k x : BitVec 32) : S5 := ⟨rot s.a 5 + f + s.e + k + x, s.a, rot s.b 30, s.c, s.d⟩
theorem sum_other (r f e x k : BitVec 32) : r + f + e + x + k = r + f + e + k + x := by rw [BitVec.add_assoc, BitVec.add_comm x k, ← BitVec.add_assoc]
def mixF (t : Nat) (b c d : BitVec 32) : BitVec 32 := if t < 20 then fch b c d else if t < 40 then fpar b c d else if t < 60 then fmaj b c d else fpar b c d
def mixK (t : Nat) : BitVec 32 := if t < 20 then 0x5a827999#32 else if t < 40 then 0x6ed9eba1#32 else if t < 60 then 0x8f1bbcdc#32 else 0xca62c1d6#32
/-- Four bytes as a word. -/
def word (b : Nat → BitVec 32) (t : Nat) : BitVec 32 := ((b (4 * t) <<< 24 ||| b (4 * t + 1) <<< 16) ||| b (4 * t + 2) <<< 8) ||| b (4 * t + 3)
/-- The words of a block's schedule. -/
def W (b : Nat → BitVec 32) (t : Nat) : BitVec 32 :=
  if h : t < 16 then word b t else rot (((W b (t - 3) ^^^ W b (t - 8)) ^^^ W b (t - 14)) ^^^ W b (t - 16)) 1
termination_by t
theorem W_lo (b : Nat → BitVec 32) (t : Nat) (h : t < 16) : W b t = word b t := by rw [W, dif_pos h]
theorem W_hi (b : Nat → BitVec 32) (t : Nat) (h : 16 ≤ t) : W b t = rot (((W b (t - 3) ^^^ W b (t - 8)) ^^^ W b (t - 14)) ^^^ W b (t - 16)) 1 := by rw [W, dif_neg (by omega)]
/-- The state behind the first t rounds. -/
def rounds (s : S5) (b : Nat → BitVec 32) : Nat → S5
  | 0 => s
  | t + 1 => let v := rounds s b t; step v (mixF t v.b v.c v.d) (mixK t) (W b t)
def block (s : S5) (b : Nat → BitVec 32) : S5 := s.add (rounds s b 80)
/-- The state behind the blocks of a text. -/
def blocks (s : S5) (b : Nat → BitVec 32) : Nat → S5
  | 0 => s
  | n + 1 => block (blocks s b n) (fun i => b (64 * n + i))
theorem word_congr (b b' : Nat → BitVec 32) (t : Nat) (ht : t < 16) (h : ∀ i, i < 64 → b i = b' i) : word b t = word b' t := by
  unfold word; rw [h _ (by omega), h _ (by omega), h _ (by omega), h _ (by omega)]
theorem W_congr (b b' : Nat → BitVec 32) (h : ∀ i, i < 64 → b i = b' i) : ∀ t, W b t = W b' t := by
  intro t
  induction t using Nat.strongRecOn with
  | _ t ih =>
    by_cases ht : t < 16
    · rw [W_lo _ _ ht, W_lo _ _ ht, word_congr b b' t ht h]
    · rw [W_hi _ _ (by omega), W_hi b' _ (by omega), ih (t - 3) (by omega), ih (t - 8) (by omega), ih (t - 14) (by omega), ih (t - 16) (by omega)]
theorem rounds_congr (s : S5) (b b' : Nat → BitVec 32) (h : ∀ i, i < 64 → b i = b' i) : ∀ t, rounds s b t = rounds s b' t
  | 0 => rfl
  | t + 1 => by simp only [rounds, rounds_congr s b b' h t, W_congr b b' h t]
theorem block_congr (s : S5) (b b' : Nat → BitVec 32) (h : ∀ i, i < 64 → b i = b' i) : block s b = block s b' := by
  unfold block; rw [rounds_congr s b b' h 80]
theorem blocks_congr (s : S5) (b b' : Nat → BitVec 32) : ∀ n, (∀ i, i < 64 * n → b i = b' i) → blocks s b n = blocks s b' n
  | 0, _ => rfl
  | n + 1, h => by
    simp only [blocks]
    rw [blocks_congr s b b' n (fun i hi => h i (by omega)), block_congr _ _ _ (fun i hi => h (64 * n + i) (by omega))]
theorem blocks_add (s : S5) (b : Nat → BitVec 32) (m : Nat) : ∀ n, blocks s b (m + n) = blocks (blocks s b m) (fun i => b (64 * m + i)) n
  | 0 => rfl
  | n + 1 => by
    show block (blocks s b (m + n)) _ = block _ _
    rw [blocks_add s b m n]
    exact block_congr _ _ _ (fun i _ => by show b _ = b _; congr 1; show 64 * (m + n) + _ = _; omega)

/-- The bytes of a text as words. -/
def wb (l : List UInt8) (i : Nat) : BitVec 32 := BitVec.ofNat 32 (l.getD i 0).toNat
theorem iv_wb (l : List UInt8) (i : Nat) : iv (wb l i) = ((l.getD i 0).toNat : Int) := by
  have := (l.getD i 0).toNat_lt
  unfold iv wb; rw [BitVec.toNat_ofNat, Nat.mod_eq_of_lt (by omega)]
/-- The state behind the whole blocks of a text. -/
def hs (l : List UInt8) : S5 := blocks init (wb l) (l.length / 64)
theorem wb_append_lo (l p : List UInt8) (i : Nat) (h : i < l.length) : wb (l ++ p) i = wb l i := by
  unfold wb; congr 2; simp [List.getD, List.getElem?_append_left h]
theorem wb_append_hi (l p : List UInt8) (i : Nat) : wb (l ++ p) (l.length + i) = wb p i := by
  unfold wb; congr 2; rw [List.getD, List.getD, List.getElem?_append_right (by omega), Nat.add_sub_cancel_left]
/-- Blocks behind whole blocks. -/
theorem hs_blocks (l p : List UInt8) (hl : l.length % 64 = 0) : hs (l ++ p) = blocks (hs l) (wb p) (p.length / 64) := by
  have e : (l ++ p).length / 64 = l.length / 64 + p.length / 64 := by rw [List.length_append]; omega
  unfold hs
  rw [e, blocks_add, blocks_congr init (wb (l ++ p)) (wb l) _ (fun i hi => wb_append_lo l p i (by omega))]
  exact blocks_congr _ _ _ _ (fun i _ => by
    show wb (l ++ p) (64 * (l.length / 64) + i) = _
    rw [show 64 * (l.length / 64) + i = l.length + i by omega, wb_append_hi])
/-- No block more. -/
theorem hs_short (l p : List UInt8) (h : l.length % 64 + p.length < 64) : hs (l ++ p) = hs l := by
  have e : (l ++ p).length / 64 = l.length / 64 := by rw [List.length_append]; omega
  unfold hs
  rw [e, blocks_congr init (wb (l ++ p)) (wb l) _ (fun i hi => wb_append_lo l p i (by omega))]
/-- One block is full. -/
theorem hs_full (l p : List UInt8) (h : l.length % 64 + p.length = 64) (b : Nat → BitVec 32) (hb : ∀ j, j < 64 → b j = wb (l ++ p) (64 * (l.length / 64) + j)) : hs (l ++ p) = block (hs l) b := by
  have e : (l ++ p).length / 64 = l.length / 64 + 1 := by rw [List.length_append]; omega
  unfold hs
  rw [e]
  show block _ _ = _
  rw [blocks_congr init (wb (l ++ p)) (wb l) _ (fun i hi => wb_append_lo l p i (by omega))]
  exact block_congr _ _ _ (fun j hj => (hb j hj).symm)
/-- What stands behind a text: a one bit, zeros, and how many bits it has. -/
def tailZ (n : Nat) : Nat := if n % 64 < 56 then 55 - n % 64 else 119 - n % 64
def be64 (n : Nat) : List UInt8 := [UInt8.ofNat (n / 2 ^ 56), UInt8.ofNat (n / 2 ^ 48), UInt8.ofNat (n / 2 ^ 40), UInt8.ofNat (n / 2 ^ 32), UInt8.ofNat (n / 2 ^ 24), UInt8.ofNat (n / 2 ^ 16), UInt8.ofNat (n / 2 ^ 8), UInt8.ofNat n]
def tail (n : Nat) : List UInt8 := 0x80 :: (List.replicate (tailZ n) 0 ++ be64 (8 * n))
theorem tail_length (n : Nat) : (tail n).length = 9 + tailZ n := by simp [tail, be64]; omega
theorem tail_whole (n : Nat) : (n + (tail n).length) % 64 = 0 := by rw [tail_length]; unfold tailZ; split <;> omega
def be32 (x : BitVec 32) : List UInt8 := [UInt8.ofNat (x >>> 24).toNat, UInt8.ofNat (x >>> 16).toNat, UInt8.ofNat (x >>> 8).toNat, UInt8.ofNat x.toNat]
/-- The sum of a text. -/
def sum (l : List UInt8) : List UInt8 := (hs (l ++ tail l.length)).l.flatMap be32
end Go.Proofs.Ytdlimgghcpbkcaa.sha
