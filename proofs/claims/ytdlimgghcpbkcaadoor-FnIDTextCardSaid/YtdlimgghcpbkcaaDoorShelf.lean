/-
  DERIVED: THE SHELF's CONTRACTS AT THIS DUMP, IN PLAIN WORDS (tools/lay-plain.mjs out of 'TrydShelf.lean', which tools/lay-shelf.mjs wrote): THE SAME DECLARATIONS UNDER THE SAME NAMES: 'import', 'namespace', 'open', 'def', 'theorem' AND NOTHING ELSE: no command of the shelf's: FOR A HAND-IN. Each laying: the table of numbers ('.._ren') and one theorem, a field a fact of the dump's own or the kernel's comparison; each contract: ONE APPLICATION.
-/
import Derived.Shelf.Strconv.Itoa0
import Derived.Shelf.Strconv.Itoa1
import Derived.Shelf.LaysM
import Derived.Shelf.Strconv.Itoa2
import Derived.Shelf.Bytes.Len
import Derived.Shelf.Bytes.TryGrow
import Derived.Shelf.Bytes.GrowSliceCatch
import Derived.Shelf.Bytes.GrowSlice
import Derived.Shelf.Bytes.String
import Derived.Shelf.Bytes.Reset
import Derived.Shelf.Bytes.ResetKept
import Derived.Shelf.Strconv.AppendUint10
import Derived.Shelf.Strconv.AppendInt10
import Derived.Shelf.Strconv.AppendIntPublic10
import Derived.Shelf.Bytes.LenAt
import Derived.Shelf.Bytes.StringAt
import Derived.Shelf.Bytes.TryGrowAt
import Derived.Shelf.Bytes.GrowRow0At
import Derived.Shelf.Bytes.GrowRowAt
import Derived.Shelf.Bytes.GrowNilAt
import Derived.Shelf.Bytes.GrowAt
import Derived.Shelf.Bytes.WriteAt
import Derived.Test.YtdlimgghcpbkcaaDoorProg
namespace Go.Proofs
open Go.Shelf
def Tryd.lays129_ren : Go.Shelf.Ren := ⟨fun | 129 => 56 | n => n, fun | 53 => 29 | 3 => 3 | 4 => 4 | 46 => 148 | 5 => 5 | 9 => 9 | n => n, fun | n => n⟩
theorem Tryd.lays129 : Go.Proofs.Lays.n129 Tryd.prog Tryd.lays129_ren := {
  mixed := by kernel_rfl
  f129 := Tryd.func56.trans (congrArg some (by kernel_rfl))
  t3 := Tryd.underlying3
  a3 := Tryd.isAgg3
  z3 := Tryd.sizeOf3
  v3 := Tryd.zeroValue3
  t4 := Tryd.underlying4
  a4 := Tryd.isAgg4
  z4 := Tryd.sizeOf4
  v4 := Tryd.zeroValue4
  t5 := Tryd.underlying5
  a5 := Tryd.isAgg5
  z5 := Tryd.sizeOf5
  v5 := Tryd.zeroValue5
  t9 := Tryd.underlying9
  a9 := Tryd.isAgg9
  z9 := Tryd.sizeOf9
  v9 := Tryd.zeroValue9
  t46 := Tryd.underlying148
  a46 := Tryd.isAgg148
  z46 := Tryd.sizeOf148
  v46 := Tryd.zeroValue148
  t53 := Tryd.underlying29
  a53 := Tryd.isAgg29
  z53 := Tryd.sizeOf29
  v53 := Tryd.zeroValue29 }
/-- bits.Len64: "Len64 returns the minimum number of bits required to represent x; the result is 0 for x == 0.": IT RETURNS 'Lib.bitLen x'; the world is as it was. ('h0', 'h1': x is a uint64.) (LAID: no walk: one application.) -/
theorem Tryd.bits_Len64 (x : Int) (w : World) (h0 : 0 ≤ x) (h1 : x ≤ 18446744073709551615) :
    Calls Tryd.prog 56 #[.int .u64 x] w fun e w' => e = .returned (.int .i64 (Lib.bitLen x.toNat)) ∧ w' = w := Any.bits_Len64 Tryd.lays129 x w h0 h1
def Tryd.lays317_ren : Go.Shelf.Ren := ⟨fun | 317 => 55 | n => n, fun | 3 => 3 | 46 => 148 | n => n, fun | n => n⟩
theorem Tryd.lays317 : Go.Proofs.Lays.n317 Tryd.prog Tryd.lays317_ren := {
  mixed := by kernel_rfl
  f317 := Tryd.func55.trans (congrArg some (by kernel_rfl))
  t3 := Tryd.underlying3
  a3 := Tryd.isAgg3
  z3 := Tryd.sizeOf3
  v3 := Tryd.zeroValue3
  t46 := Tryd.underlying148
  a46 := Tryd.isAgg148
  z46 := Tryd.sizeOf148
  v46 := Tryd.zeroValue148 }
open Go.Lib in
/-- internal/strconv.log10Pow2: "log10Pow2(x) returns ⌊log₁₀ 2**x⌋ = ⌊x * log₁₀ 2⌋.": '(x * 78913) >> 18', at an x up to 64 (a length in bits). The world is as it was. (LAID: no walk: one application.) -/
theorem Tryd.internal_strconv_log10Pow2 (x : Nat) (h : x ≤ 64) (w : World) :
    Calls Tryd.prog 55 #[.int .i64 x] w fun e w' => e = .returned (.int .i64 (Lib.l10 x)) ∧ w' = w := Any.internal_strconv_log10Pow2 Tryd.lays317 x h w
def Tryd.lays318_ren : Go.Shelf.Ren := ⟨fun | 318 => 57 | n => n, fun | 3 => 3 | 4 => 4 | n => n, fun | n => n⟩
theorem Tryd.lays318 : Go.Proofs.Lays.n318 Tryd.prog Tryd.lays318_ren := {
  mixed := by kernel_rfl
  f318 := Tryd.func57.trans (congrArg some (by kernel_rfl))
  t3 := Tryd.underlying3
  a3 := Tryd.isAgg3
  z3 := Tryd.sizeOf3
  v3 := Tryd.zeroValue3
  t4 := Tryd.underlying4
  a4 := Tryd.isAgg4
  z4 := Tryd.sizeOf4
  v4 := Tryd.zeroValue4 }
open Go.Lib in
/-- internal/strconv.bool2: "bool2 converts b to an integer: 1 for true, 0 for false." The world is as it was. (LAID: no walk: one application.) -/
theorem Tryd.internal_strconv_bool2_int (b : Bool) (w : World) :
    Calls Tryd.prog 57 #[.bool b] w fun e w' => e = .returned (.int .i64 (if b then 1 else 0)) ∧ w' = w := Any.internal_strconv_bool2_int Tryd.lays318 b w
def Tryd.lays283_ren : Go.Shelf.Ren := ⟨fun | 283 => 51 | n => n, fun | 3 => 3 | 9 => 9 | 4 => 4 | n => n, fun | n => n⟩
theorem Tryd.lays283 : Go.Proofs.Lays.n283 Tryd.prog Tryd.lays283_ren := {
  mixed := by kernel_rfl
  f283 := Tryd.func51.trans (congrArg some (by kernel_rfl))
  t3 := Tryd.underlying3
  a3 := Tryd.isAgg3
  z3 := Tryd.sizeOf3
  v3 := Tryd.zeroValue3
  t4 := Tryd.underlying4
  a4 := Tryd.isAgg4
  z4 := Tryd.sizeOf4
  v4 := Tryd.zeroValue4
  t9 := Tryd.underlying9
  a9 := Tryd.isAgg9
  z9 := Tryd.sizeOf9
  v9 := Tryd.zeroValue9 }
open Go.Lib in
/-- internal/strconv.small: "small returns the string for an i with 0 <= i < nSmalls.": i's decimal numeral. The world is as it was. (LAID: no walk: one application.) -/
theorem Tryd.internal_strconv_small (i : Nat) (h : i < 100) (w : World) :
    Calls Tryd.prog 51 #[.int .i64 i] w fun e w' => e = .returned (.string ⟨(Lib.decDigits i).toArray⟩) ∧ w' = w := Any.internal_strconv_small Tryd.lays283 i h w
def Tryd.laysM284_ren : Go.Shelf.Ren := ⟨fun | 284 => 52 | 129 => 56 | 317 => 55 | 318 => 57 | n => n, fun | 53 => 29 | 3 => 3 | 212 => 144 | 0 => 0 | 4 => 4 | 46 => 148 | 5 => 5 | 9 => 9 | n => n, fun | 17 => 3 | n => n⟩
theorem Tryd.laysM284 : Go.Proofs.LaysM.n284 Tryd.prog Tryd.laysM284_ren := {
  mixed := by kernel_rfl
  f129 := Tryd.func56.trans (congrArg some (by kernel_rfl))
  f284 := Tryd.func52.trans (congrArg some (by kernel_rfl))
  f317 := Tryd.func55.trans (congrArg some (by kernel_rfl))
  f318 := Tryd.func57.trans (congrArg some (by kernel_rfl))
  t0 := Tryd.underlying0
  a0 := Tryd.isAgg0
  z0 := Tryd.sizeOf0
  v0 := Tryd.zeroValue0
  t3 := Tryd.underlying3
  a3 := Tryd.isAgg3
  z3 := Tryd.sizeOf3
  v3 := Tryd.zeroValue3
  t4 := Tryd.underlying4
  a4 := Tryd.isAgg4
  z4 := Tryd.sizeOf4
  v4 := Tryd.zeroValue4
  t5 := Tryd.underlying5
  a5 := Tryd.isAgg5
  z5 := Tryd.sizeOf5
  v5 := Tryd.zeroValue5
  t9 := Tryd.underlying9
  a9 := Tryd.isAgg9
  z9 := Tryd.sizeOf9
  v9 := Tryd.zeroValue9
  t46 := Tryd.underlying148
  a46 := Tryd.isAgg148
  z46 := Tryd.sizeOf148
  v46 := Tryd.zeroValue148
  t53 := Tryd.underlying29
  a53 := Tryd.isAgg29
  z53 := Tryd.sizeOf29
  v53 := Tryd.zeroValue29
  t212 := Tryd.underlying144
  a212 := Tryd.isAgg144
  z212 := Tryd.sizeOf144
  v212 := Tryd.zeroValue144
  g17 := by kernel_rfl
  i0 := by kernel_rfl
  i3 := by kernel_rfl
  i4 := by kernel_rfl
  i5 := by kernel_rfl
  i9 := by kernel_rfl
  i46 := by kernel_rfl
  i53 := by kernel_rfl
  i212 := by kernel_rfl
  m17 := by kernel_rfl }
open Go.Lib in
/-- internal/strconv.numDigits, at a d that is not 0: THE NUMBER OF d's DECIMAL DIGITS. The world is as it was. (LAID: no walk: one application.) -/
theorem Tryd.internal_strconv_numDigits (u : Nat) (h1 : 1 ≤ u) (h2 : u < 18446744073709551616) (w : World) (htab : Lib.TabIs Tryd.prog w "internal/strconv.uint64pow10" .u64 Lib.pow10Tab) :
    Calls Tryd.prog 52 #[.int .u64 u] w fun e w' => e = .returned (.int .i64 (Lib.nDigits u)) ∧ w' = w := Any.internal_strconv_numDigits Tryd.laysM284 u h1 h2 w htab
def Tryd.lays285_ren : Go.Shelf.Ren := ⟨fun | 285 => 53 | n => n, fun | 37 => 45 | 53 => 29 | 3 => 3 | 4 => 4 | 51 => 145 | 9 => 9 | 5 => 5 | 0 => 0 | n => n, fun | n => n⟩
theorem Tryd.lays285 : Go.Proofs.Lays.n285 Tryd.prog Tryd.lays285_ren := {
  mixed := by kernel_rfl
  f285 := Tryd.func53.trans (congrArg some (by kernel_rfl))
  t0 := Tryd.underlying0
  a0 := Tryd.isAgg0
  z0 := Tryd.sizeOf0
  v0 := Tryd.zeroValue0
  t3 := Tryd.underlying3
  a3 := Tryd.isAgg3
  z3 := Tryd.sizeOf3
  v3 := Tryd.zeroValue3
  t4 := Tryd.underlying4
  a4 := Tryd.isAgg4
  z4 := Tryd.sizeOf4
  v4 := Tryd.zeroValue4
  t5 := Tryd.underlying5
  a5 := Tryd.isAgg5
  z5 := Tryd.sizeOf5
  v5 := Tryd.zeroValue5
  t9 := Tryd.underlying9
  a9 := Tryd.isAgg9
  z9 := Tryd.sizeOf9
  v9 := Tryd.zeroValue9
  t37 := Tryd.underlying45
  a37 := Tryd.isAgg45
  z37 := Tryd.sizeOf45
  v37 := Tryd.zeroValue45
  t51 := Tryd.underlying145
  a51 := Tryd.isAgg145
  z51 := Tryd.sizeOf145
  v51 := Tryd.zeroValue145
  t53 := Tryd.underlying29
  a53 := Tryd.isAgg29
  z53 := Tryd.sizeOf29
  v53 := Tryd.zeroValue29 }
open Go.RowKit Go.Sort Go.Lib in
/-- internal/strconv.formatBase10: "formatBase10 formats the decimal representation of u into a. The caller is responsible for ensuring that a is big enough to hold u. If a is too big, leading zeros will be filled in as needed.": THE ROW HOLDS u's DIGITS ('FmtInv .. 0 ..': every place t holds 'dg u (len - 1 - t)'); all else is as it was but for the count of draws. (LAID: no walk: one application.) -/
theorem Tryd.internal_strconv_formatBase10 (blk off cap : Nat) (u : Nat) (d : Array UInt8) (w : World) (hH : Holds (fun (b : UInt8) => Value.int .u8 (b.toNat : Int)) w blk off d) (hu : u < 10 ^ d.size) (hu64 : u < 18446744073709551616) (hsz : d.size < 4611686018427387904) :
    Calls Tryd.prog 53 #[.slice (some ⟨blk, off, none⟩) d.size cap, .int .u64 u] w fun e w' =>
      e = .returned (.tuple #[]) ∧ ∃ (n v' : Nat) (dk : Array UInt8), w' = (putRow (fun (b : UInt8) => Value.int .u8 (b.toNat : Int)) w blk off dk).drewN n ∧ FmtInv d.size u 0 v' dk := Any.internal_strconv_formatBase10 Tryd.lays285 blk off cap u d w hH hu hu64 hsz
def Tryd.laysM181_ren : Go.Shelf.Ren := ⟨fun | 181 => 85 | n => n, fun | 130 => 64 | 3 => 3 | 0 => 0 | 93 => 61 | 37 => 45 | 91 => 59 | 5 => 5 | n => n, fun | n => n⟩
theorem Tryd.laysM181 : Go.Proofs.LaysM.n181 Tryd.prog Tryd.laysM181_ren := {
  mixed := by kernel_rfl
  f181 := Tryd.func85.trans (congrArg some (by kernel_rfl))
  t0 := Tryd.underlying0
  a0 := Tryd.isAgg0
  z0 := Tryd.sizeOf0
  v0 := Tryd.zeroValue0
  t3 := Tryd.underlying3
  a3 := Tryd.isAgg3
  z3 := Tryd.sizeOf3
  v3 := Tryd.zeroValue3
  t37 := Tryd.underlying45
  a37 := Tryd.isAgg45
  z37 := Tryd.sizeOf45
  v37 := Tryd.zeroValue45
  t93 := Tryd.underlying61
  a93 := Tryd.isAgg61
  z93 := Tryd.sizeOf61
  v93 := Tryd.zeroValue61
  t130 := Tryd.underlying64
  a130 := Tryd.isAgg64
  z130 := Tryd.sizeOf64
  v130 := Tryd.zeroValue64
  t5 := Tryd.underlying5
  a5 := Tryd.isAgg5
  z5 := Tryd.sizeOf5
  v5 := Tryd.zeroValue5
  t91 := Tryd.underlying59
  a91 := Tryd.isAgg59
  z91 := Tryd.sizeOf59
  v91 := Tryd.zeroValue59
  i0 := by kernel_rfl
  i3 := by kernel_rfl
  i5 := by kernel_rfl
  i37 := by kernel_rfl
  i91 := by kernel_rfl
  i93 := by kernel_rfl
  i130 := by kernel_rfl }
open Go.RowKit in
/-- (*bytes.Buffer).Len: "Len returns the number of bytes of the unread portion of the buffer; b.Len() == len(b.Bytes()).": the world is as it was but for the count of draws (the statement has two reads: its order is drawn). (LAID: no walk: one application.) -/
theorem Tryd.Buffer_Len (B b : Nat) (bs : List Value) (w : World) (h : Lib.IsBuffer 61 5 B b bs w) :
    Calls Tryd.prog 85 #[.pointer (some ⟨b, 0, none⟩)] w fun e w' => e = .returned (.int .i64 bs.length) ∧ ∃ n, w' = w.drewN n := Any.Buffer_Len Tryd.laysM181 B b bs w h
def Tryd.laysM251_ren : Go.Shelf.Ren := ⟨fun | 251 => 83 | n => n, fun | 130 => 64 | 3 => 3 | 4 => 4 | 0 => 0 | 93 => 61 | 37 => 45 | 91 => 59 | 5 => 5 | n => n, fun | n => n⟩
theorem Tryd.laysM251 : Go.Proofs.LaysM.n251 Tryd.prog Tryd.laysM251_ren := {
  mixed := by kernel_rfl
  f251 := Tryd.func83.trans (congrArg some (by kernel_rfl))
  t0 := Tryd.underlying0
  a0 := Tryd.isAgg0
  z0 := Tryd.sizeOf0
  v0 := Tryd.zeroValue0
  t3 := Tryd.underlying3
  a3 := Tryd.isAgg3
  z3 := Tryd.sizeOf3
  v3 := Tryd.zeroValue3
  t4 := Tryd.underlying4
  a4 := Tryd.isAgg4
  z4 := Tryd.sizeOf4
  v4 := Tryd.zeroValue4
  t37 := Tryd.underlying45
  a37 := Tryd.isAgg45
  z37 := Tryd.sizeOf45
  v37 := Tryd.zeroValue45
  t93 := Tryd.underlying61
  a93 := Tryd.isAgg61
  z93 := Tryd.sizeOf61
  v93 := Tryd.zeroValue61
  t130 := Tryd.underlying64
  a130 := Tryd.isAgg64
  z130 := Tryd.sizeOf64
  v130 := Tryd.zeroValue64
  t5 := Tryd.underlying5
  a5 := Tryd.isAgg5
  z5 := Tryd.sizeOf5
  v5 := Tryd.zeroValue5
  t91 := Tryd.underlying59
  a91 := Tryd.isAgg59
  z91 := Tryd.sizeOf59
  v91 := Tryd.zeroValue59
  i0 := by kernel_rfl
  i3 := by kernel_rfl
  i4 := by kernel_rfl
  i5 := by kernel_rfl
  i37 := by kernel_rfl
  i91 := by kernel_rfl
  i93 := by kernel_rfl
  i130 := by kernel_rfl }
open Go.RowKit in
/-- (*bytes.Buffer).tryGrowByReslice: "tryGrowByReslice is an inlineable version of grow for the fast-case where the internal buffer only needs to be resliced. It returns the index where bytes should be written and whether it succeeded.": THERE IS ROOM: 'buf' is resliced to l + n. (LAID: no walk: one application.) -/
theorem Tryd.Buffer_tryGrow_room (b : Nat) (ao : Option Addr) (l cap n : Nat) (w : World) (c0 : w.cell? ⟨b, 0, none⟩ = some (.slice ao l cap)) (f0 : w.frozen? ⟨b, 0, none⟩ = false) (hlc : l ≤ cap) (hcap : cap ≤ maxLen) (hn : n ≤ cap - l) :
    Calls Tryd.prog 83 #[.pointer (some ⟨b, 0, none⟩), .int .i64 n] w fun e w' => e = .returned (.tuple #[.int .i64 l, .bool true]) ∧ w' = w.setCell ⟨b, 0, none⟩ (.slice ao (l + n) cap) := Any.Buffer_tryGrow_room Tryd.laysM251 b ao l cap n w c0 f0 hlc hcap hn
open Go.RowKit in
/-- .. THERE IS NONE: nothing turns. (LAID: no walk: one application.) -/
theorem Tryd.Buffer_tryGrow_none (b : Nat) (ao : Option Addr) (l cap n : Nat) (w : World) (c0 : w.cell? ⟨b, 0, none⟩ = some (.slice ao l cap)) (hlc : l ≤ cap) (hcap : cap ≤ maxLen) (hn : cap - l < n) :
    Calls Tryd.prog 83 #[.pointer (some ⟨b, 0, none⟩), .int .i64 n] w fun e w' => e = .returned (.tuple #[.int .i64 0, .bool false]) ∧ w' = w := Any.Buffer_tryGrow_none Tryd.laysM251 b ao l cap n w c0 hlc hcap hn
def Tryd.laysM324_ren : Go.Shelf.Ren := ⟨fun | 324 => 87 | n => n, fun | 20 => 20 | 4 => 4 | 75 => 47 | 0 => 0 | 80 => 33 | 9 => 9 | n => n, fun | 14 => 7 | n => n⟩
theorem Tryd.laysM324 : Go.Proofs.LaysM.n324 Tryd.prog Tryd.laysM324_ren := {
  mixed := by kernel_rfl
  f324 := Tryd.func87.trans (congrArg some (by kernel_rfl))
  t0 := Tryd.underlying0
  a0 := Tryd.isAgg0
  z0 := Tryd.sizeOf0
  v0 := Tryd.zeroValue0
  t4 := Tryd.underlying4
  a4 := Tryd.isAgg4
  z4 := Tryd.sizeOf4
  v4 := Tryd.zeroValue4
  t20 := Tryd.underlying20
  a20 := Tryd.isAgg20
  z20 := Tryd.sizeOf20
  v20 := Tryd.zeroValue20
  t75 := Tryd.underlying47
  a75 := Tryd.isAgg47
  z75 := Tryd.sizeOf47
  v75 := Tryd.zeroValue47
  g14 := by kernel_rfl
  t9 := Tryd.underlying9
  a9 := Tryd.isAgg9
  z9 := Tryd.sizeOf9
  v9 := Tryd.zeroValue9
  t80 := Tryd.underlying33
  a80 := Tryd.isAgg33
  z80 := Tryd.sizeOf33
  v80 := Tryd.zeroValue33
  i0 := by kernel_rfl
  i4 := by kernel_rfl
  i9 := by kernel_rfl
  i20 := by kernel_rfl
  i75 := by kernel_rfl
  i80 := by kernel_rfl
  m14 := by kernel_rfl }
theorem Tryd.growSlice_catch_idle (w : World) :
    CallsD Tryd.prog 87 #[] .returning w fun e u' w' => e = .returned (.tuple #[]) ∧ u' = .returning ∧ w' = w := Any.growSlice_catch_idle Tryd.laysM324 w
def Tryd.laysM290_ren : Go.Shelf.Ren := ⟨fun | 290 => 86 | 324 => 87 | n => n, fun | 37 => 45 | 3 => 3 | 0 => 0 | 4 => 4 | 20 => 20 | 75 => 47 | 5 => 5 | 80 => 33 | 9 => 9 | n => n, fun | 14 => 7 | n => n⟩
theorem Tryd.laysM290 : Go.Proofs.LaysM.n290 Tryd.prog Tryd.laysM290_ren := {
  mixed := by kernel_rfl
  f290 := Tryd.func86.trans (congrArg some (by kernel_rfl))
  f324 := Tryd.func87.trans (congrArg some (by kernel_rfl))
  t0 := Tryd.underlying0
  a0 := Tryd.isAgg0
  z0 := Tryd.sizeOf0
  v0 := Tryd.zeroValue0
  t3 := Tryd.underlying3
  a3 := Tryd.isAgg3
  z3 := Tryd.sizeOf3
  v3 := Tryd.zeroValue3
  t4 := Tryd.underlying4
  a4 := Tryd.isAgg4
  z4 := Tryd.sizeOf4
  v4 := Tryd.zeroValue4
  t20 := Tryd.underlying20
  a20 := Tryd.isAgg20
  z20 := Tryd.sizeOf20
  v20 := Tryd.zeroValue20
  t37 := Tryd.underlying45
  a37 := Tryd.isAgg45
  z37 := Tryd.sizeOf45
  v37 := Tryd.zeroValue45
  t75 := Tryd.underlying47
  a75 := Tryd.isAgg47
  z75 := Tryd.sizeOf47
  v75 := Tryd.zeroValue47
  g14 := by kernel_rfl
  t5 := Tryd.underlying5
  a5 := Tryd.isAgg5
  z5 := Tryd.sizeOf5
  v5 := Tryd.zeroValue5
  t9 := Tryd.underlying9
  a9 := Tryd.isAgg9
  z9 := Tryd.sizeOf9
  v9 := Tryd.zeroValue9
  t80 := Tryd.underlying33
  a80 := Tryd.isAgg33
  z80 := Tryd.sizeOf33
  v80 := Tryd.zeroValue33
  i0 := by kernel_rfl
  i3 := by kernel_rfl
  i4 := by kernel_rfl
  i5 := by kernel_rfl
  i9 := by kernel_rfl
  i20 := by kernel_rfl
  i37 := by kernel_rfl
  i75 := by kernel_rfl
  i80 := by kernel_rfl
  m14 := by kernel_rfl }
open Go.RowKit in
/-- bytes.growSlice: "growSlice grows b by n, preserving the original content of b.": OF A SLICE THAT LIES AT THE HEAD OF A ROW: a new row, number 'w.heap.size': it begins with b's l cells; its capacity has room for n more; whatever lay below is as it was. (LAID: no walk: one application.) -/
theorem Tryd.bytes_growSlice_row (g l c n : Nat) (cur : Array Value) (w : World) (hg : w.heap[g]? = some (.cells cur 5 (0, 0))) (hcs : cur.size = c) (hlc : l ≤ c) (hn : 1 ≤ n) (hlim : l + n ≤ 140737488355328) (hc2 : c ≤ 140737488355328) (h1 : ∀ v ∈ cur.toList.take l, v.oneCell' = true) :
    Calls Tryd.prog 86 #[.slice (some ⟨g, 0, none⟩) l c, .int .i64 n] w fun e w' => ∃ cap2 cells, e = .returned (.slice (some ⟨w.heap.size, 0, none⟩) l cap2) ∧ w'.heap[w.heap.size]? = some (.cells cells 5 (0, 0)) ∧
      cells.size = cap2 ∧ cells.toList.take l = cur.toList.take l ∧ l + n ≤ cap2 ∧ cap2 ≤ maxLen ∧ Below w.heap.size w w' := Any.bytes_growSlice_row Tryd.laysM290 g l c n cur w hg hcs hlc hn hlim hc2 h1
open Go.RowKit in
/-- .. OF THE NIL SLICE: a new row with room for n. (LAID: no walk: one application.) -/
theorem Tryd.bytes_growSlice_nil (n : Nat) (w : World) (hn : 1 ≤ n) (hlim : n ≤ 140737488355328) :
    Calls Tryd.prog 86 #[.slice none 0 0, .int .i64 n] w fun e w' => ∃ cap2 cells, e = .returned (.slice (some ⟨w.heap.size, 0, none⟩) 0 cap2) ∧ w'.heap[w.heap.size]? = some (.cells cells 5 (0, 0)) ∧
      cells.size = cap2 ∧ n ≤ cap2 ∧ cap2 ≤ maxLen ∧ Below w.heap.size w w' := Any.bytes_growSlice_nil Tryd.laysM290 n w hn hlim
def Tryd.laysM182_ren : Go.Shelf.Ren := ⟨fun | 182 => 24 | n => n, fun | 130 => 64 | 9 => 9 | 4 => 4 | 0 => 0 | 93 => 61 | 37 => 45 | 3 => 3 | 91 => 59 | 5 => 5 | n => n, fun | n => n⟩
theorem Tryd.laysM182 : Go.Proofs.LaysM.n182 Tryd.prog Tryd.laysM182_ren := {
  mixed := by kernel_rfl
  f182 := Tryd.func24.trans (congrArg some (by kernel_rfl))
  t0 := Tryd.underlying0
  a0 := Tryd.isAgg0
  z0 := Tryd.sizeOf0
  v0 := Tryd.zeroValue0
  t3 := Tryd.underlying3
  a3 := Tryd.isAgg3
  z3 := Tryd.sizeOf3
  v3 := Tryd.zeroValue3
  t4 := Tryd.underlying4
  a4 := Tryd.isAgg4
  z4 := Tryd.sizeOf4
  v4 := Tryd.zeroValue4
  t9 := Tryd.underlying9
  a9 := Tryd.isAgg9
  z9 := Tryd.sizeOf9
  v9 := Tryd.zeroValue9
  t37 := Tryd.underlying45
  a37 := Tryd.isAgg45
  z37 := Tryd.sizeOf45
  v37 := Tryd.zeroValue45
  t93 := Tryd.underlying61
  a93 := Tryd.isAgg61
  z93 := Tryd.sizeOf61
  v93 := Tryd.zeroValue61
  t130 := Tryd.underlying64
  a130 := Tryd.isAgg64
  z130 := Tryd.sizeOf64
  v130 := Tryd.zeroValue64
  t5 := Tryd.underlying5
  a5 := Tryd.isAgg5
  z5 := Tryd.sizeOf5
  v5 := Tryd.zeroValue5
  t91 := Tryd.underlying59
  a91 := Tryd.isAgg59
  z91 := Tryd.sizeOf59
  v91 := Tryd.zeroValue59
  i0 := by kernel_rfl
  i3 := by kernel_rfl
  i4 := by kernel_rfl
  i5 := by kernel_rfl
  i9 := by kernel_rfl
  i37 := by kernel_rfl
  i91 := by kernel_rfl
  i93 := by kernel_rfl
  i130 := by kernel_rfl }
open Go.RowKit in
/-- (*bytes.Buffer).String: "String returns the contents of the unread portion of the buffer as a string.": THE BYTES THAT WERE WRITTEN. The world is as it was but for the count of draws (the statement has two reads: its order is drawn). (LAID: no walk: one application.) -/
theorem Tryd.Buffer_String (B b : Nat) (l : List UInt8) (w : World) (h : Lib.IsBuffer 61 5 B b (Lib.byteCells l) w) :
    Calls Tryd.prog 24 #[.pointer (some ⟨b, 0, none⟩)] w fun e w' => e = .returned (.string ⟨l.toArray⟩) ∧ ∃ n, w' = w.drewN n := Any.Buffer_String Tryd.laysM182 B b l w h
def Tryd.laysM184_ren : Go.Shelf.Ren := ⟨fun | 184 => 80 | n => n, fun | 130 => 64 | 0 => 0 | 93 => 61 | 37 => 45 | 3 => 3 | 91 => 59 | 5 => 5 | n => n, fun | n => n⟩
theorem Tryd.laysM184 : Go.Proofs.LaysM.n184 Tryd.prog Tryd.laysM184_ren := {
  mixed := by kernel_rfl
  f184 := Tryd.func80.trans (congrArg some (by kernel_rfl))
  t0 := Tryd.underlying0
  a0 := Tryd.isAgg0
  z0 := Tryd.sizeOf0
  v0 := Tryd.zeroValue0
  t3 := Tryd.underlying3
  a3 := Tryd.isAgg3
  z3 := Tryd.sizeOf3
  v3 := Tryd.zeroValue3
  t37 := Tryd.underlying45
  a37 := Tryd.isAgg45
  z37 := Tryd.sizeOf45
  v37 := Tryd.zeroValue45
  t91 := Tryd.underlying59
  a91 := Tryd.isAgg59
  z91 := Tryd.sizeOf59
  v91 := Tryd.zeroValue59
  t93 := Tryd.underlying61
  a93 := Tryd.isAgg61
  z93 := Tryd.sizeOf61
  v93 := Tryd.zeroValue61
  t130 := Tryd.underlying64
  a130 := Tryd.isAgg64
  z130 := Tryd.sizeOf64
  v130 := Tryd.zeroValue64
  t5 := Tryd.underlying5
  a5 := Tryd.isAgg5
  z5 := Tryd.sizeOf5
  v5 := Tryd.zeroValue5
  i0 := by kernel_rfl
  i3 := by kernel_rfl
  i5 := by kernel_rfl
  i37 := by kernel_rfl
  i91 := by kernel_rfl
  i93 := by kernel_rfl
  i130 := by kernel_rfl }
open Go.RowKit in
/-- (*bytes.Buffer).Reset: "Reset resets the buffer to be empty, but it retains the underlying storage for use by future writes." (LAID: no walk: one application.) -/
theorem Tryd.Buffer_Reset (B b : Nat) (bs : List Value) (w : World) (h : Lib.IsBuffer 61 5 B b bs w) :
    Calls Tryd.prog 80 #[.pointer (some ⟨b, 0, none⟩)] w fun e w' => e = .returned (.tuple #[]) ∧ Lib.IsBuffer 61 5 B b [] w' ∧ Below B w w' := Any.Buffer_Reset Tryd.laysM184 B b bs w h
open Go.RowKit in
/-- (*bytes.Buffer).Reset: "Reset resets the buffer to be empty, but it retains the underlying storage for use by future writes." (LAID: no walk: one application.) -/
theorem Tryd.Buffer_Reset_kept (B b : Nat) (bs : List Value) (w : World) (h : Lib.IsBuffer 61 5 B b bs w) :
    Calls Tryd.prog 80 #[.pointer (some ⟨b, 0, none⟩)] w fun e w' => e = .returned (.tuple #[]) ∧ Lib.IsBuffer 61 5 B b [] w' ∧ Below B w w' ∧ Lib.OthersKept 5 (some b) w w' := Any.Buffer_Reset_kept Tryd.laysM184 B b bs w h
def Tryd.laysM288_ren : Go.Shelf.Ren := ⟨fun | 288 => 48 | 283 => 51 | 284 => 52 | 285 => 53 | 286 => 54 | 129 => 56 | 317 => 55 | 318 => 57 | 319 => 58 | 320 => 59 | 337 => 60 | 338 => 61 | n => n, fun | 37 => 45 | 53 => 29 | 3 => 3 | 4 => 4 | 9 => 9 | 171 => 137 | 0 => 0 | 173 => 140 | 212 => 144 | 51 => 145 | 5 => 5 | 20 => 20 | 213 => 146 | 46 => 148 | 232 => 151 | 233 => 152 | n => n, fun | 17 => 3 | 18 => 4 | 19 => 5 | n => n⟩
theorem Tryd.laysM288 : Go.Proofs.LaysM.n288 Tryd.prog Tryd.laysM288_ren := {
  mixed := by kernel_rfl
  f129 := Tryd.func56.trans (congrArg some (by kernel_rfl))
  f283 := Tryd.func51.trans (congrArg some (by kernel_rfl))
  f284 := Tryd.func52.trans (congrArg some (by kernel_rfl))
  f285 := Tryd.func53.trans (congrArg some (by kernel_rfl))
  f286 := Tryd.func54.trans (congrArg some (by kernel_rfl))
  f288 := Tryd.func48.trans (congrArg some (by kernel_rfl))
  f317 := Tryd.func55.trans (congrArg some (by kernel_rfl))
  f318 := Tryd.func57.trans (congrArg some (by kernel_rfl))
  f319 := Tryd.func58.trans (congrArg some (by kernel_rfl))
  f320 := Tryd.func59.trans (congrArg some (by kernel_rfl))
  f337 := Tryd.func60.trans (congrArg some (by kernel_rfl))
  f338 := Tryd.func61.trans (congrArg some (by kernel_rfl))
  t0 := Tryd.underlying0
  a0 := Tryd.isAgg0
  z0 := Tryd.sizeOf0
  v0 := Tryd.zeroValue0
  t3 := Tryd.underlying3
  a3 := Tryd.isAgg3
  z3 := Tryd.sizeOf3
  v3 := Tryd.zeroValue3
  t4 := Tryd.underlying4
  a4 := Tryd.isAgg4
  z4 := Tryd.sizeOf4
  v4 := Tryd.zeroValue4
  t5 := Tryd.underlying5
  a5 := Tryd.isAgg5
  z5 := Tryd.sizeOf5
  v5 := Tryd.zeroValue5
  t9 := Tryd.underlying9
  a9 := Tryd.isAgg9
  z9 := Tryd.sizeOf9
  v9 := Tryd.zeroValue9
  t20 := Tryd.underlying20
  a20 := Tryd.isAgg20
  z20 := Tryd.sizeOf20
  v20 := Tryd.zeroValue20
  t37 := Tryd.underlying45
  a37 := Tryd.isAgg45
  z37 := Tryd.sizeOf45
  v37 := Tryd.zeroValue45
  t46 := Tryd.underlying148
  a46 := Tryd.isAgg148
  z46 := Tryd.sizeOf148
  v46 := Tryd.zeroValue148
  t51 := Tryd.underlying145
  a51 := Tryd.isAgg145
  z51 := Tryd.sizeOf145
  v51 := Tryd.zeroValue145
  t53 := Tryd.underlying29
  a53 := Tryd.isAgg29
  z53 := Tryd.sizeOf29
  v53 := Tryd.zeroValue29
  t171 := Tryd.underlying137
  a171 := Tryd.isAgg137
  z171 := Tryd.sizeOf137
  v171 := Tryd.zeroValue137
  t173 := Tryd.underlying140
  a173 := Tryd.isAgg140
  z173 := Tryd.sizeOf140
  v173 := Tryd.zeroValue140
  t212 := Tryd.underlying144
  a212 := Tryd.isAgg144
  z212 := Tryd.sizeOf144
  v212 := Tryd.zeroValue144
  t213 := Tryd.underlying146
  a213 := Tryd.isAgg146
  z213 := Tryd.sizeOf146
  t232 := Tryd.underlying151
  a232 := Tryd.isAgg151
  z232 := Tryd.sizeOf151
  v232 := Tryd.zeroValue151
  t233 := Tryd.underlying152
  a233 := Tryd.isAgg152
  z233 := Tryd.sizeOf152
  v233 := Tryd.zeroValue152
  g17 := by kernel_rfl
  g18 := by kernel_rfl
  g19 := by kernel_rfl
  i0 := by kernel_rfl
  i3 := by kernel_rfl
  i4 := by kernel_rfl
  i5 := by kernel_rfl
  i9 := by kernel_rfl
  i20 := by kernel_rfl
  i37 := by kernel_rfl
  i46 := by kernel_rfl
  i51 := by kernel_rfl
  i53 := by kernel_rfl
  i171 := by kernel_rfl
  i173 := by kernel_rfl
  i212 := by kernel_rfl
  i232 := by kernel_rfl
  i233 := by kernel_rfl
  m17 := by kernel_rfl
  m18 := by kernel_rfl
  m19 := by kernel_rfl }
open Go.RowKit Go.Sort Go.Lib in
/-- internal/strconv.AppendUint(dst, i, 10), i BELOW 100: WHAT COMES BACK OWNS dst's CELLS AND, BEHIND THEM, i's DECIMAL NUMERAL. No table is read. Below the call's own blocks nothing has turned. (LAID: no walk: one application.) -/
theorem Tryd.internal_strconv_AppendUint_10_small (B n u : Nat) (hu : u < 100) (sv : Value) (xs : List Value) (w : World) (hown : w.ownsRow B 5 1 sv n xs) (hBw : B ≤ w.heap.size) (hlim : n + 20 ≤ 140737488355328) :
    Calls Tryd.prog 48 #[sv, .int .u64 u, .int .i64 10] w fun e w' => ∃ v', e = .returned v' ∧ w'.ownsRow B 5 1 v' (n + (Lib.decDigits u).length) (xs ++ Lib.byteCells (Lib.decDigits u)) ∧ Below B w w' ∧ Lib.OthersKept 5 none w w' := Any.internal_strconv_AppendUint_10_small Tryd.laysM288 B n u hu sv xs w hown hBw hlim
open Go.RowKit Go.Sort Go.Lib in
/-- internal/strconv.AppendUint(dst, i, 10), i FROM 100 ON: likewise; the digits are laid in an array of the call's own and appended. (LAID: no walk: one application.) -/
theorem Tryd.internal_strconv_AppendUint_10_big (B n u : Nat) (hu : 100 ≤ u) (hu64 : u < 18446744073709551616) (sv : Value) (xs : List Value) (w : World) (hown : w.ownsRow B 5 1 sv n xs) (hBw : B ≤ w.heap.size) (hlim : n + 20 ≤ 140737488355328) (htab : Lib.TabIs Tryd.prog w "internal/strconv.uint64pow10" .u64 Lib.pow10Tab) :
    Calls Tryd.prog 48 #[sv, .int .u64 u, .int .i64 10] w fun e w' => ∃ v', e = .returned v' ∧ w'.ownsRow B 5 1 v' (n + (Lib.decDigits u).length) (xs ++ Lib.byteCells (Lib.decDigits u)) ∧ Below B w w' ∧ Lib.OthersKept 5 none w w' := Any.internal_strconv_AppendUint_10_big Tryd.laysM288 B n u hu hu64 sv xs w hown hBw hlim htab
open Go.RowKit Go.Sort Go.Lib in
/-- internal/strconv.AppendUint(dst, i, 10): the two contracts as one. NO WALK. (LAID: no walk: one application.) -/
theorem Tryd.internal_strconv_AppendUint_10 (B n u : Nat) (hu64 : u < 18446744073709551616) (sv : Value) (xs : List Value) (w : World) (hown : w.ownsRow B 5 1 sv n xs) (hBw : B ≤ w.heap.size) (hlim : n + 20 ≤ 140737488355328) (htab : Lib.TabIs Tryd.prog w "internal/strconv.uint64pow10" .u64 Lib.pow10Tab) :
    Calls Tryd.prog 48 #[sv, .int .u64 u, .int .i64 10] w fun e w' => ∃ v', e = .returned v' ∧ w'.ownsRow B 5 1 v' (n + (Lib.decDigits u).length) (xs ++ Lib.byteCells (Lib.decDigits u)) ∧ Below B w w' ∧ Lib.OthersKept 5 none w w' := Any.internal_strconv_AppendUint_10 Tryd.laysM288 B n u hu64 sv xs w hown hBw hlim htab
def Tryd.laysM249_ren : Go.Shelf.Ren := ⟨fun | 249 => 49 | 288 => 48 | 283 => 51 | 284 => 52 | 285 => 53 | 286 => 54 | 129 => 56 | 317 => 55 | 318 => 57 | 319 => 58 | 320 => 59 | 337 => 60 | 338 => 61 | n => n, fun | 37 => 45 | 2 => 2 | 3 => 3 | 53 => 29 | 4 => 4 | 9 => 9 | 171 => 137 | 0 => 0 | 173 => 140 | 212 => 144 | 51 => 145 | 5 => 5 | 20 => 20 | 213 => 146 | 46 => 148 | 232 => 151 | 233 => 152 | n => n, fun | 17 => 3 | 18 => 4 | 19 => 5 | n => n⟩
theorem Tryd.laysM249 : Go.Proofs.LaysM.n249 Tryd.prog Tryd.laysM249_ren := {
  mixed := by kernel_rfl
  f129 := Tryd.func56.trans (congrArg some (by kernel_rfl))
  f249 := Tryd.func49.trans (congrArg some (by kernel_rfl))
  f283 := Tryd.func51.trans (congrArg some (by kernel_rfl))
  f284 := Tryd.func52.trans (congrArg some (by kernel_rfl))
  f285 := Tryd.func53.trans (congrArg some (by kernel_rfl))
  f286 := Tryd.func54.trans (congrArg some (by kernel_rfl))
  f288 := Tryd.func48.trans (congrArg some (by kernel_rfl))
  f317 := Tryd.func55.trans (congrArg some (by kernel_rfl))
  f318 := Tryd.func57.trans (congrArg some (by kernel_rfl))
  f319 := Tryd.func58.trans (congrArg some (by kernel_rfl))
  f320 := Tryd.func59.trans (congrArg some (by kernel_rfl))
  f337 := Tryd.func60.trans (congrArg some (by kernel_rfl))
  f338 := Tryd.func61.trans (congrArg some (by kernel_rfl))
  t0 := Tryd.underlying0
  a0 := Tryd.isAgg0
  z0 := Tryd.sizeOf0
  v0 := Tryd.zeroValue0
  t2 := Tryd.underlying2
  a2 := Tryd.isAgg2
  z2 := Tryd.sizeOf2
  v2 := Tryd.zeroValue2
  t3 := Tryd.underlying3
  a3 := Tryd.isAgg3
  z3 := Tryd.sizeOf3
  v3 := Tryd.zeroValue3
  t4 := Tryd.underlying4
  a4 := Tryd.isAgg4
  z4 := Tryd.sizeOf4
  v4 := Tryd.zeroValue4
  t5 := Tryd.underlying5
  a5 := Tryd.isAgg5
  z5 := Tryd.sizeOf5
  v5 := Tryd.zeroValue5
  t9 := Tryd.underlying9
  a9 := Tryd.isAgg9
  z9 := Tryd.sizeOf9
  v9 := Tryd.zeroValue9
  t20 := Tryd.underlying20
  a20 := Tryd.isAgg20
  z20 := Tryd.sizeOf20
  v20 := Tryd.zeroValue20
  t37 := Tryd.underlying45
  a37 := Tryd.isAgg45
  z37 := Tryd.sizeOf45
  v37 := Tryd.zeroValue45
  t46 := Tryd.underlying148
  a46 := Tryd.isAgg148
  z46 := Tryd.sizeOf148
  v46 := Tryd.zeroValue148
  t51 := Tryd.underlying145
  a51 := Tryd.isAgg145
  z51 := Tryd.sizeOf145
  v51 := Tryd.zeroValue145
  t53 := Tryd.underlying29
  a53 := Tryd.isAgg29
  z53 := Tryd.sizeOf29
  v53 := Tryd.zeroValue29
  t171 := Tryd.underlying137
  a171 := Tryd.isAgg137
  z171 := Tryd.sizeOf137
  v171 := Tryd.zeroValue137
  t173 := Tryd.underlying140
  a173 := Tryd.isAgg140
  z173 := Tryd.sizeOf140
  v173 := Tryd.zeroValue140
  t212 := Tryd.underlying144
  a212 := Tryd.isAgg144
  z212 := Tryd.sizeOf144
  v212 := Tryd.zeroValue144
  t213 := Tryd.underlying146
  a213 := Tryd.isAgg146
  z213 := Tryd.sizeOf146
  t232 := Tryd.underlying151
  a232 := Tryd.isAgg151
  z232 := Tryd.sizeOf151
  v232 := Tryd.zeroValue151
  t233 := Tryd.underlying152
  a233 := Tryd.isAgg152
  z233 := Tryd.sizeOf152
  v233 := Tryd.zeroValue152
  g17 := by kernel_rfl
  g18 := by kernel_rfl
  g19 := by kernel_rfl
  i0 := by kernel_rfl
  i2 := by kernel_rfl
  i3 := by kernel_rfl
  i4 := by kernel_rfl
  i5 := by kernel_rfl
  i9 := by kernel_rfl
  i20 := by kernel_rfl
  i37 := by kernel_rfl
  i46 := by kernel_rfl
  i51 := by kernel_rfl
  i53 := by kernel_rfl
  i171 := by kernel_rfl
  i173 := by kernel_rfl
  i212 := by kernel_rfl
  i232 := by kernel_rfl
  i233 := by kernel_rfl
  m17 := by kernel_rfl
  m18 := by kernel_rfl
  m19 := by kernel_rfl }
open Go.RowKit Go.Sort Go.Lib in
/-- internal/strconv.AppendInt: "AppendInt appends the string form of the integer i, as generated by FormatInt, to dst and returns the extended buffer.": AT BASE 10: WHAT COMES BACK OWNS dst's CELLS AND, BEHIND THEM, i's DECIMAL NUMERAL ('Lib.itoa i': at most 20 bytes), for every int64. Below the call's own blocks nothing has turned. (LAID: no walk: one application.) -/
theorem Tryd.internal_strconv_AppendInt_10 (B n : Nat) (i : Int) (h0 : -9223372036854775808 ≤ i) (h1 : i ≤ 9223372036854775807) (sv : Value) (xs : List Value) (w : World) (hown : w.ownsRow B 5 1 sv n xs) (hBw : B ≤ w.heap.size) (hlim : n + 21 ≤ 140737488355328) (htab : Lib.TabBelow Tryd.prog B w "internal/strconv.uint64pow10" .u64 Lib.pow10Tab) :
    Calls Tryd.prog 49 #[sv, .int .i64 i, .int .i64 10] w fun e w' => ∃ v', e = .returned v' ∧ w'.ownsRow B 5 1 v' (n + (Lib.itoa i).length) (xs ++ Lib.byteCells (Lib.itoa i)) ∧ Below B w w' ∧ Lib.OthersKept 5 none w w' := Any.internal_strconv_AppendInt_10 Tryd.laysM249 B n i h0 h1 sv xs w hown hBw hlim htab
def Tryd.laysM176_ren : Go.Shelf.Ren := ⟨fun | 176 => 44 | 249 => 49 | 288 => 48 | 283 => 51 | 284 => 52 | 285 => 53 | 286 => 54 | 129 => 56 | 317 => 55 | 318 => 57 | 319 => 58 | 320 => 59 | 337 => 60 | 338 => 61 | n => n, fun | 37 => 45 | 2 => 2 | 3 => 3 | 53 => 29 | 4 => 4 | 9 => 9 | 171 => 137 | 0 => 0 | 173 => 140 | 212 => 144 | 51 => 145 | 5 => 5 | 20 => 20 | 213 => 146 | 46 => 148 | 232 => 151 | 233 => 152 | n => n, fun | 17 => 3 | 18 => 4 | 19 => 5 | n => n⟩
theorem Tryd.laysM176 : Go.Proofs.LaysM.n176 Tryd.prog Tryd.laysM176_ren := {
  mixed := by kernel_rfl
  f129 := Tryd.func56.trans (congrArg some (by kernel_rfl))
  f176 := Tryd.func44.trans (congrArg some (by kernel_rfl))
  f249 := Tryd.func49.trans (congrArg some (by kernel_rfl))
  f283 := Tryd.func51.trans (congrArg some (by kernel_rfl))
  f284 := Tryd.func52.trans (congrArg some (by kernel_rfl))
  f285 := Tryd.func53.trans (congrArg some (by kernel_rfl))
  f286 := Tryd.func54.trans (congrArg some (by kernel_rfl))
  f288 := Tryd.func48.trans (congrArg some (by kernel_rfl))
  f317 := Tryd.func55.trans (congrArg some (by kernel_rfl))
  f318 := Tryd.func57.trans (congrArg some (by kernel_rfl))
  f319 := Tryd.func58.trans (congrArg some (by kernel_rfl))
  f320 := Tryd.func59.trans (congrArg some (by kernel_rfl))
  f337 := Tryd.func60.trans (congrArg some (by kernel_rfl))
  f338 := Tryd.func61.trans (congrArg some (by kernel_rfl))
  t0 := Tryd.underlying0
  a0 := Tryd.isAgg0
  z0 := Tryd.sizeOf0
  v0 := Tryd.zeroValue0
  t2 := Tryd.underlying2
  a2 := Tryd.isAgg2
  z2 := Tryd.sizeOf2
  v2 := Tryd.zeroValue2
  t3 := Tryd.underlying3
  a3 := Tryd.isAgg3
  z3 := Tryd.sizeOf3
  v3 := Tryd.zeroValue3
  t4 := Tryd.underlying4
  a4 := Tryd.isAgg4
  z4 := Tryd.sizeOf4
  v4 := Tryd.zeroValue4
  t5 := Tryd.underlying5
  a5 := Tryd.isAgg5
  z5 := Tryd.sizeOf5
  v5 := Tryd.zeroValue5
  t9 := Tryd.underlying9
  a9 := Tryd.isAgg9
  z9 := Tryd.sizeOf9
  v9 := Tryd.zeroValue9
  t20 := Tryd.underlying20
  a20 := Tryd.isAgg20
  z20 := Tryd.sizeOf20
  v20 := Tryd.zeroValue20
  t37 := Tryd.underlying45
  a37 := Tryd.isAgg45
  z37 := Tryd.sizeOf45
  v37 := Tryd.zeroValue45
  t46 := Tryd.underlying148
  a46 := Tryd.isAgg148
  z46 := Tryd.sizeOf148
  v46 := Tryd.zeroValue148
  t51 := Tryd.underlying145
  a51 := Tryd.isAgg145
  z51 := Tryd.sizeOf145
  v51 := Tryd.zeroValue145
  t53 := Tryd.underlying29
  a53 := Tryd.isAgg29
  z53 := Tryd.sizeOf29
  v53 := Tryd.zeroValue29
  t171 := Tryd.underlying137
  a171 := Tryd.isAgg137
  z171 := Tryd.sizeOf137
  v171 := Tryd.zeroValue137
  t173 := Tryd.underlying140
  a173 := Tryd.isAgg140
  z173 := Tryd.sizeOf140
  v173 := Tryd.zeroValue140
  t212 := Tryd.underlying144
  a212 := Tryd.isAgg144
  z212 := Tryd.sizeOf144
  v212 := Tryd.zeroValue144
  t213 := Tryd.underlying146
  a213 := Tryd.isAgg146
  z213 := Tryd.sizeOf146
  t232 := Tryd.underlying151
  a232 := Tryd.isAgg151
  z232 := Tryd.sizeOf151
  v232 := Tryd.zeroValue151
  t233 := Tryd.underlying152
  a233 := Tryd.isAgg152
  z233 := Tryd.sizeOf152
  v233 := Tryd.zeroValue152
  g17 := by kernel_rfl
  g18 := by kernel_rfl
  g19 := by kernel_rfl
  i0 := by kernel_rfl
  i2 := by kernel_rfl
  i3 := by kernel_rfl
  i4 := by kernel_rfl
  i5 := by kernel_rfl
  i9 := by kernel_rfl
  i20 := by kernel_rfl
  i37 := by kernel_rfl
  i46 := by kernel_rfl
  i51 := by kernel_rfl
  i53 := by kernel_rfl
  i171 := by kernel_rfl
  i173 := by kernel_rfl
  i212 := by kernel_rfl
  i232 := by kernel_rfl
  i233 := by kernel_rfl
  m17 := by kernel_rfl
  m18 := by kernel_rfl
  m19 := by kernel_rfl }
open Go.RowKit Go.Sort Go.Lib in
/-- strconv.AppendInt: "AppendInt appends the string form of the integer i, as generated by FormatInt, to dst and returns the extended buffer.": AT BASE 10: WHAT COMES BACK OWNS dst's CELLS AND, BEHIND THEM, i's DECIMAL NUMERAL ('Lib.itoa i': at most 20 bytes), for every int64. Below the call's own blocks nothing has turned. (LAID: no walk: one application.) -/
theorem Tryd.strconv_AppendInt_10 (B n : Nat) (i : Int) (h0 : -9223372036854775808 ≤ i) (h1 : i ≤ 9223372036854775807) (sv : Value) (xs : List Value) (w : World) (hown : w.ownsRow B 5 1 sv n xs) (hBw : B ≤ w.heap.size) (hlim : n + 21 ≤ 140737488355328) (htab : Lib.TabBelow Tryd.prog B w "internal/strconv.uint64pow10" .u64 Lib.pow10Tab) :
    Calls Tryd.prog 44 #[sv, .int .i64 i, .int .i64 10] w fun e w' => ∃ v', e = .returned v' ∧ w'.ownsRow B 5 1 v' (n + (Lib.itoa i).length) (xs ++ Lib.byteCells (Lib.itoa i)) ∧ Below B w w' ∧ Lib.OthersKept 5 none w w' := Any.strconv_AppendInt_10 Tryd.laysM176 B n i h0 h1 sv xs w hown hBw hlim htab
open Go.RowKit in
/-- (*bytes.Buffer).Len: "Len returns the number of bytes of the unread portion of the buffer; b.Len() == len(b.Bytes()).": the world is as it was but for the count of draws (the statement has two reads: its order is drawn). (LAID: no walk: one application.) -/
theorem Tryd.Buffer_Len_at (T : TypeId) (R : Nat → Option Value) (B b q : Nat) (bs : List Value) (w : World) (h : LibA.IsBuffer T R 5 B b q bs w) :
    Calls Tryd.prog 85 #[.pointer (some ⟨b, q, none⟩)] w fun e w' => e = .returned (.int .i64 bs.length) ∧ ∃ n, w' = w.drewN n := Any.Buffer_Len_at Tryd.laysM181 T R B b q bs w h
open Go.RowKit in
/-- (*bytes.Buffer).String: "String returns the contents of the unread portion of the buffer as a string.": THE BYTES THAT WERE WRITTEN. The world is as it was but for the count of draws (the statement has two reads: its order is drawn). (LAID: no walk: one application.) -/
theorem Tryd.Buffer_String_at (T : TypeId) (R : Nat → Option Value) (B b q : Nat) (l : List UInt8) (w : World) (h : LibA.IsBuffer T R 5 B b q (Lib.byteCells l) w) :
    Calls Tryd.prog 24 #[.pointer (some ⟨b, q, none⟩)] w fun e w' => e = .returned (.string ⟨l.toArray⟩) ∧ ∃ n, w' = w.drewN n := Any.Buffer_String_at Tryd.laysM182 T R B b q l w h
open Go.RowKit in
/-- (*bytes.Buffer).tryGrowByReslice: "tryGrowByReslice is an inlineable version of grow for the fast-case where the internal buffer only needs to be resliced. It returns the index where bytes should be written and whether it succeeded.": THERE IS ROOM: 'buf' is resliced to l + n. (LAID: no walk: one application.) -/
theorem Tryd.Buffer_tryGrow_room_at (b q : Nat) (ao : Option Addr) (l cap n : Nat) (w : World) (c0 : w.cell? ⟨b, q, none⟩ = some (.slice ao l cap)) (f0 : w.frozen? ⟨b, q, none⟩ = false) (hlc : l ≤ cap) (hcap : cap ≤ maxLen) (hn : n ≤ cap - l) :
    Calls Tryd.prog 83 #[.pointer (some ⟨b, q, none⟩), .int .i64 n] w fun e w' => e = .returned (.tuple #[.int .i64 l, .bool true]) ∧ w' = w.setCell ⟨b, q, none⟩ (.slice ao (l + n) cap) := Any.Buffer_tryGrow_room_at Tryd.laysM251 b q ao l cap n w c0 f0 hlc hcap hn
open Go.RowKit in
/-- .. THERE IS NONE: nothing turns. (LAID: no walk: one application.) -/
theorem Tryd.Buffer_tryGrow_none_at (b q : Nat) (ao : Option Addr) (l cap n : Nat) (w : World) (c0 : w.cell? ⟨b, q, none⟩ = some (.slice ao l cap)) (hlc : l ≤ cap) (hcap : cap ≤ maxLen) (hn : cap - l < n) :
    Calls Tryd.prog 83 #[.pointer (some ⟨b, q, none⟩), .int .i64 n] w fun e w' => e = .returned (.tuple #[.int .i64 0, .bool false]) ∧ w' = w := Any.Buffer_tryGrow_none_at Tryd.laysM251 b q ao l cap n w c0 hlc hcap hn
def Tryd.laysM252_ren : Go.Shelf.Ren := ⟨fun | 252 => 84 | 181 => 85 | 184 => 80 | 251 => 83 | 290 => 86 | 324 => 87 | n => n, fun | 130 => 64 | 3 => 3 | 4 => 4 | 0 => 0 | 93 => 61 | 131 => 172 | 37 => 45 | 75 => 47 | 91 => 59 | 20 => 20 | 5 => 5 | 80 => 33 | 9 => 9 | n => n, fun | 14 => 7 | n => n⟩
theorem Tryd.laysM252 : Go.Proofs.LaysM.n252 Tryd.prog Tryd.laysM252_ren := {
  mixed := by kernel_rfl
  f181 := Tryd.func85.trans (congrArg some (by kernel_rfl))
  f184 := Tryd.func80.trans (congrArg some (by kernel_rfl))
  f251 := Tryd.func83.trans (congrArg some (by kernel_rfl))
  f252 := Tryd.func84.trans (congrArg some (by kernel_rfl))
  f290 := Tryd.func86.trans (congrArg some (by kernel_rfl))
  f324 := Tryd.func87.trans (congrArg some (by kernel_rfl))
  t0 := Tryd.underlying0
  a0 := Tryd.isAgg0
  z0 := Tryd.sizeOf0
  v0 := Tryd.zeroValue0
  t3 := Tryd.underlying3
  a3 := Tryd.isAgg3
  z3 := Tryd.sizeOf3
  v3 := Tryd.zeroValue3
  t4 := Tryd.underlying4
  a4 := Tryd.isAgg4
  z4 := Tryd.sizeOf4
  v4 := Tryd.zeroValue4
  t20 := Tryd.underlying20
  a20 := Tryd.isAgg20
  z20 := Tryd.sizeOf20
  v20 := Tryd.zeroValue20
  t37 := Tryd.underlying45
  a37 := Tryd.isAgg45
  z37 := Tryd.sizeOf45
  v37 := Tryd.zeroValue45
  t75 := Tryd.underlying47
  a75 := Tryd.isAgg47
  z75 := Tryd.sizeOf47
  v75 := Tryd.zeroValue47
  t91 := Tryd.underlying59
  a91 := Tryd.isAgg59
  z91 := Tryd.sizeOf59
  v91 := Tryd.zeroValue59
  t93 := Tryd.underlying61
  a93 := Tryd.isAgg61
  z93 := Tryd.sizeOf61
  v93 := Tryd.zeroValue61
  t130 := Tryd.underlying64
  a130 := Tryd.isAgg64
  z130 := Tryd.sizeOf64
  v130 := Tryd.zeroValue64
  t131 := Tryd.underlying172
  a131 := Tryd.isAgg172
  z131 := Tryd.sizeOf172
  v131 := Tryd.zeroValue172
  g14 := by kernel_rfl
  t5 := Tryd.underlying5
  a5 := Tryd.isAgg5
  z5 := Tryd.sizeOf5
  v5 := Tryd.zeroValue5
  t9 := Tryd.underlying9
  a9 := Tryd.isAgg9
  z9 := Tryd.sizeOf9
  v9 := Tryd.zeroValue9
  t80 := Tryd.underlying33
  a80 := Tryd.isAgg33
  z80 := Tryd.sizeOf33
  v80 := Tryd.zeroValue33
  i0 := by kernel_rfl
  i3 := by kernel_rfl
  i4 := by kernel_rfl
  i5 := by kernel_rfl
  i9 := by kernel_rfl
  i20 := by kernel_rfl
  i37 := by kernel_rfl
  i75 := by kernel_rfl
  i80 := by kernel_rfl
  i91 := by kernel_rfl
  i93 := by kernel_rfl
  i130 := by kernel_rfl
  i131 := by kernel_rfl
  m14 := by kernel_rfl }
open Go.RowKit in
/-- grow, WHERE THE BUFFER HOLDS A ROW, NO BYTE IN IT (behind a Reset), AND THE ROW HAS NO ROOM: growSlice. (THE TEXT OF 'Buffer_grow_row' WITH 0 FOR l, BY PROGRAM: the walk parts on 'm == 0' and writes 0 for l throughout the goal: facts that still say l then do not strike: so l is laid in ahead of the walk.) (LAID: no walk: one application.) -/
theorem Tryd.Buffer_grow_row0_at (T : TypeId) (R : Nat → Option Value) (B b q g cap n : Nat) (lr : Int) (cur : Array Value) (bs : List Value) (w : World) (hB : B ≤ b) (hBw : B ≤ w.heap.size) (hbk : LibA.Three w b q T R (.slice (some ⟨g, 0, none⟩) 0 cap) (.int .i64 0) (.int .i8 lr)) (hl : bs.length = 0) (hBg : B ≤ g) (hg : w.heap[g]? = some (.cells cur 5 (0, 0))) (hlc : 0 ≤ cap) (hcm : cap ≤ maxLen) (hcs : cur.size = cap) (htake : cur.toList.take 0 = bs) (hgb : g ≠ b) (h1 : ∀ v ∈ bs, v.oneCell' = true) (hn : 1 ≤ n) (hroom : cap - 0 < n) (hlim : 0 + n ≤ 140737488355328) :
    Calls Tryd.prog 84 #[.pointer (some ⟨b, q, none⟩), .int .i64 n] w fun e w' => e = .returned (.int .i64 0) ∧ ∃ xs, xs.length = n ∧ LibA.IsBuffer T R 5 B b q (bs ++ xs) w' ∧ Below B w w' ∧ Lib.OthersKept 5 (some b) w w' ∧ w.grownBy w' (some b) := Any.Buffer_grow_row0_at Tryd.laysM252 T R B b q g cap n lr cur bs w hB hBw hbk hl hBg hg hlc hcm hcs htake hgb h1 hn hroom hlim
open Go.RowKit in
/-- grow, WHERE THE BUFFER HOLDS A ROW THAT HAS NO ROOM: growSlice. (LAID: no walk: one application.) -/
theorem Tryd.Buffer_grow_row_at (T : TypeId) (R : Nat → Option Value) (B b q g l cap n : Nat) (lr : Int) (cur : Array Value) (bs : List Value) (w : World) (hB : B ≤ b) (hBw : B ≤ w.heap.size) (hbk : LibA.Three w b q T R (.slice (some ⟨g, 0, none⟩) l cap) (.int .i64 0) (.int .i8 lr)) (hl : bs.length = l) (hBg : B ≤ g) (hg : w.heap[g]? = some (.cells cur 5 (0, 0))) (hlc : l ≤ cap) (hcm : cap ≤ maxLen) (hcs : cur.size = cap) (htake : cur.toList.take l = bs) (hgb : g ≠ b) (h1 : ∀ v ∈ bs, v.oneCell' = true) (hn : 1 ≤ n) (hroom : cap - l < n) (hlim : l + n ≤ 140737488355328) :
    Calls Tryd.prog 84 #[.pointer (some ⟨b, q, none⟩), .int .i64 n] w fun e w' => e = .returned (.int .i64 l) ∧ ∃ xs, xs.length = n ∧ LibA.IsBuffer T R 5 B b q (bs ++ xs) w' ∧ Below B w w' ∧ Lib.OthersKept 5 (some b) w w' ∧ w.grownBy w' (some b) := Any.Buffer_grow_row_at Tryd.laysM252 T R B b q g l cap n lr cur bs w hB hBw hbk hl hBg hg hlc hcm hcs htake hgb h1 hn hroom hlim
open Go.RowKit in
/-- grow, 'buf' nil, n AT MOST 64: 'b.buf = make([]byte, n, smallBufferSize)'. (LAID: no walk: one application.) -/
theorem Tryd.Buffer_grow_nil_small_at (T : TypeId) (R : Nat → Option Value) (B b q n : Nat) (lr : Int) (w : World) (hB : B ≤ b) (hBw : B ≤ w.heap.size) (hbk : LibA.Three w b q T R (.slice none 0 0) (.int .i64 0) (.int .i8 lr)) (hn : 1 ≤ n) (h64 : n ≤ 64) :
    Calls Tryd.prog 84 #[.pointer (some ⟨b, q, none⟩), .int .i64 n] w fun e w' => e = .returned (.int .i64 0) ∧ ∃ xs, xs.length = n ∧ LibA.IsBuffer T R 5 B b q xs w' ∧ Below B w w' ∧ Lib.OthersKept 5 (some b) w w' ∧ w.grownBy w' (some b) := Any.Buffer_grow_nil_small_at Tryd.laysM252 T R B b q n lr w hB hBw hbk hn h64
open Go.RowKit in
/-- grow, 'buf' nil, n ABOVE 64: growSlice of the nil slice. (LAID: no walk: one application.) -/
theorem Tryd.Buffer_grow_nil_big_at (T : TypeId) (R : Nat → Option Value) (B b q n : Nat) (lr : Int) (w : World) (hB : B ≤ b) (hBw : B ≤ w.heap.size) (hbk : LibA.Three w b q T R (.slice none 0 0) (.int .i64 0) (.int .i8 lr)) (h64 : 64 < n) (hlim : n ≤ 140737488355328) :
    Calls Tryd.prog 84 #[.pointer (some ⟨b, q, none⟩), .int .i64 n] w fun e w' => e = .returned (.int .i64 0) ∧ ∃ xs, xs.length = n ∧ LibA.IsBuffer T R 5 B b q xs w' ∧ Below B w w' ∧ Lib.OthersKept 5 (some b) w w' ∧ w.grownBy w' (some b) := Any.Buffer_grow_nil_big_at Tryd.laysM252 T R B b q n lr w hB hBw hbk h64 hlim
open Go.RowKit in
/-- tryGrowByReslice: EITHER there is room: the place to write at is the old length, and the buffer holds the old bytes and n more of whatever lay there; OR there is none: nothing turns, and 'Lib.NoRoom' is what grow asks. (LAID: no walk: one application.) -/
theorem Tryd.Buffer_tryGrow_at (T : TypeId) (R : Nat → Option Value) (B b q n : Nat) (bs : List Value) (w : World) (h : LibA.IsBuffer T R 5 B b q bs w) :
    Calls Tryd.prog 83 #[.pointer (some ⟨b, q, none⟩), .int .i64 n] w fun e w' =>
      (e = .returned (.tuple #[.int .i64 bs.length, .bool true]) ∧ ∃ xs, xs.length = n ∧ LibA.IsBuffer T R 5 B b q (bs ++ xs) w' ∧ Below B w w' ∧ Lib.OthersKept 5 (some b) w w' ∧ w.grownBy w' (some b)) ∨
      (e = .returned (.tuple #[.int .i64 0, .bool false]) ∧ w' = w ∧ LibA.NoRoom b q n w) := Any.Buffer_tryGrow_at Tryd.laysM251 T R B b q n bs w h
open Go.RowKit in
/-- (*bytes.Buffer).grow: "grow grows the buffer to guarantee space for n more bytes. It returns the index where bytes should be written.": WHERE THERE IS NO ROOM; UNDER Go's OWN LIMIT (the new length takes at most 2^47 bytes): the old length; the buffer holds the old bytes and n more of whatever. (LAID: no walk: one application.) -/
theorem Tryd.Buffer_grow_at (T : TypeId) (R : Nat → Option Value) (B b q n : Nat) (bs : List Value) (w : World) (h : LibA.IsBuffer T R 5 B b q bs w) (hnr : LibA.NoRoom b q n w) (hBw : B ≤ w.heap.size) (h1 : ∀ v ∈ bs, v.oneCell' = true) (hlim : bs.length + n ≤ 140737488355328) :
    Calls Tryd.prog 84 #[.pointer (some ⟨b, q, none⟩), .int .i64 n] w fun e w' => e = .returned (.int .i64 bs.length) ∧ ∃ xs, xs.length = n ∧ LibA.IsBuffer T R 5 B b q (bs ++ xs) w' ∧ Below B w w' ∧ Lib.OthersKept 5 (some b) w w' ∧ w.grownBy w' (some b) := Any.Buffer_grow_at Tryd.laysM252 T R B b q n bs w h hnr hBw h1 hlim
def Tryd.laysM180_ren : Go.Shelf.Ren := ⟨fun | 180 => 81 | 251 => 83 | 252 => 84 | 181 => 85 | 184 => 80 | 290 => 86 | 324 => 87 | n => n, fun | 130 => 64 | 37 => 45 | 3 => 3 | 75 => 47 | 0 => 0 | 93 => 61 | 91 => 59 | 131 => 172 | 4 => 4 | 20 => 20 | 5 => 5 | 80 => 33 | 9 => 9 | n => n, fun | 14 => 7 | n => n⟩
theorem Tryd.laysM180 : Go.Proofs.LaysM.n180 Tryd.prog Tryd.laysM180_ren := {
  mixed := by kernel_rfl
  f180 := Tryd.func81.trans (congrArg some (by kernel_rfl))
  f181 := Tryd.func85.trans (congrArg some (by kernel_rfl))
  f184 := Tryd.func80.trans (congrArg some (by kernel_rfl))
  f251 := Tryd.func83.trans (congrArg some (by kernel_rfl))
  f252 := Tryd.func84.trans (congrArg some (by kernel_rfl))
  f290 := Tryd.func86.trans (congrArg some (by kernel_rfl))
  f324 := Tryd.func87.trans (congrArg some (by kernel_rfl))
  t0 := Tryd.underlying0
  a0 := Tryd.isAgg0
  z0 := Tryd.sizeOf0
  v0 := Tryd.zeroValue0
  t3 := Tryd.underlying3
  a3 := Tryd.isAgg3
  z3 := Tryd.sizeOf3
  v3 := Tryd.zeroValue3
  t4 := Tryd.underlying4
  a4 := Tryd.isAgg4
  z4 := Tryd.sizeOf4
  v4 := Tryd.zeroValue4
  t20 := Tryd.underlying20
  a20 := Tryd.isAgg20
  z20 := Tryd.sizeOf20
  v20 := Tryd.zeroValue20
  t37 := Tryd.underlying45
  a37 := Tryd.isAgg45
  z37 := Tryd.sizeOf45
  v37 := Tryd.zeroValue45
  t75 := Tryd.underlying47
  a75 := Tryd.isAgg47
  z75 := Tryd.sizeOf47
  v75 := Tryd.zeroValue47
  t91 := Tryd.underlying59
  a91 := Tryd.isAgg59
  z91 := Tryd.sizeOf59
  v91 := Tryd.zeroValue59
  t93 := Tryd.underlying61
  a93 := Tryd.isAgg61
  z93 := Tryd.sizeOf61
  v93 := Tryd.zeroValue61
  t130 := Tryd.underlying64
  a130 := Tryd.isAgg64
  z130 := Tryd.sizeOf64
  v130 := Tryd.zeroValue64
  t131 := Tryd.underlying172
  a131 := Tryd.isAgg172
  z131 := Tryd.sizeOf172
  v131 := Tryd.zeroValue172
  g14 := by kernel_rfl
  t5 := Tryd.underlying5
  a5 := Tryd.isAgg5
  z5 := Tryd.sizeOf5
  v5 := Tryd.zeroValue5
  t9 := Tryd.underlying9
  a9 := Tryd.isAgg9
  z9 := Tryd.sizeOf9
  v9 := Tryd.zeroValue9
  t80 := Tryd.underlying33
  a80 := Tryd.isAgg33
  z80 := Tryd.sizeOf33
  v80 := Tryd.zeroValue33
  i0 := by kernel_rfl
  i3 := by kernel_rfl
  i4 := by kernel_rfl
  i5 := by kernel_rfl
  i9 := by kernel_rfl
  i20 := by kernel_rfl
  i37 := by kernel_rfl
  i75 := by kernel_rfl
  i80 := by kernel_rfl
  i91 := by kernel_rfl
  i93 := by kernel_rfl
  i130 := by kernel_rfl
  i131 := by kernel_rfl
  m14 := by kernel_rfl }
open Go.RowKit in
/-- (*bytes.Buffer).Write: "Write appends the contents of p to the buffer, growing the buffer as needed. The return value n is the length of p; err is always nil." (LAID: no walk: one application.) -/
theorem Tryd.Buffer_Write_at (T : TypeId) (R : Nat → Option Value) (B b q : Nat) (bs cs : List Value) (a : Addr) (n c : Nat) (w : World) (h : LibA.IsBuffer T R 5 B b q bs w) (hBw : B ≤ w.heap.size) (h1 : ∀ v ∈ bs, v.oneCell' = true) (hn : cs.length = n) (hab : a.block ≠ b) (hsrc : ∀ j v, cs[j]? = some v → w.cell? (a.add j) = some v) (h1c : ∀ v ∈ cs, v.oneCell' = true) (hlim : bs.length + n ≤ 140737488355328) :
    Calls Tryd.prog 81 #[.pointer (some ⟨b, q, none⟩), .slice (some a) n c] w fun e w' => e = .returned (.tuple #[.int .i64 n, .nilIface]) ∧ LibA.IsBuffer T R 5 B b q (bs ++ cs) w' ∧ Below B w w' ∧ Lib.OthersKept 5 (some b) w w' := Any.Buffer_Write_at Tryd.laysM180 T R B b q bs cs a n c w h hBw h1 hn hab hsrc h1c hlim
end Go.Proofs
