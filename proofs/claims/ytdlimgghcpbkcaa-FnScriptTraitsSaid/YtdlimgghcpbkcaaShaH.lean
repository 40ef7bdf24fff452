/-
  Proved: the inner loops of sha1.blockGeneric: the schedule's words in a ring of 16, the rounds of a block.
  Conditions: each law's own.
-/
import Derived.Test.YtdlimgghcpbkcaaShaS
namespace Go.Proofs.Ytdlimgghcpbkcaa.sha
open Go.RowKit Mem Go.Great
set_option linter.unusedVariables false

theorem rot70q_1 (x : BitVec 32) (w : World) : Calls Try.prog 70 #[.int .u32 (iv x), .int .i64 1] w
    fun e w' => e = .returned (.int .u32 (iv (rot x 1))) ∧ ∃ m, w' = w.drewN m := (rot70_1 x w).mono fun e w' ⟨he, hw⟩ => ⟨he, 0, hw.symm⟩
theorem rot70q_5 (x : BitVec 32) (w : World) : Calls Try.prog 70 #[.int .u32 (iv x), .int .i64 5] w
    fun e w' => e = .returned (.int .u32 (iv (rot x 5))) ∧ ∃ m, w' = w.drewN m := (rot70_5 x w).mono fun e w' ⟨he, hw⟩ => ⟨he, 0, hw.symm⟩

/-- Which word of the schedule stands in the ring's cell j, ahead of round t. -/
def idx (t j : Nat) : Nat := t - 1 - (t - 1 - j) % 16
def ring (b : Nat → BitVec 32) (t j : Nat) : BitVec 32 := W b (idx t j)
theorem ring_step (b : Nat → BitVec 32) (t j : Nat) (ht : 16 ≤ t) (hj : j < 16) : (if j = t % 16 then W b t else ring b t j) = ring b (t + 1) j := by
  unfold ring idx
  by_cases h : j = t % 16
  · rw [if_pos h]; congr 1; omega
  · rw [if_neg h]; congr 1; omega
theorem ring_at (b : Nat → BitVec 32) (t k : Nat) (ht : 16 ≤ t) (hk : 1 ≤ k) (hk' : k ≤ 16) : ring b t ((t - k) % 16) = W b (t - k) := by
  unfold ring idx; congr 1; omega
theorem and15 (x : Int) (h : 0 ≤ x) (h1 : x < 2 ^ 63) : bits .and .i64 x 15 = x % 16 := by
  exact bits_mask .i64 63 (by decide) (fun n h0 h1 => by rw [IntKind.wrap_i64]; omega) 4 (by decide) x h h1
/-- The words filled in so far. -/
def fill (f : Nat → BitVec 32) (b : Nat → BitVec 32) (t j : Nat) : BitVec 32 := if j < t then W b j else f j
theorem fill_step (f b : Nat → BitVec 32) (t j : Nat) : (if j = t then W b t else fill f b t j) = fill f b (t + 1) j := by
  unfold fill
  by_cases h : j = t
  · subst h; simp
  · rw [if_neg h]
    by_cases hi : j < t
    · rw [if_pos hi, if_pos (by omega)]
    · rw [if_neg hi, if_neg (by omega)]

/-- A slice's length. -/
def plen : Value → Nat
  | .slice _ n _ => n
  | _ => 0
structure G (w : World) (f : Nat → BitVec 32) (wr : World) : Prop where
  bel : Below w.heap.size w wr
  lt : w.heap.size < wr.heap.size
  row : Row wr w.heap.size 16 162 f
theorem G.drewN {w : World} {f : Nat → BitVec 32} {wr : World} (I : G w f wr) (n : Nat) : G w f (wr.drewN n) := ⟨⟨I.bel.os, I.bel.tape, I.bel.output, I.bel.size, I.bel.block⟩, I.lt, I.row⟩
theorem G.drew {w : World} {f : Nat → BitVec 32} {wr : World} (I : G w f wr) : G w f wr.drew := I.drewN 1
theorem G.set {w : World} {f f' : Nat → BitVec 32} {wr : World} (I : G w f wr) (j : Nat) (x : BitVec 32) (hf : ∀ i, i < 16 → (if i = j then x else f i) = f' i) : G w f' (wr.setCell ⟨w.heap.size, j, none⟩ (.int .u32 (iv x))) := by
  have bb : But [w.heap.size] wr (wr.setCell ⟨w.heap.size, j, none⟩ (.int .u32 (iv x))) := (But.refl _ wr).setCell (Or.inl (by simp)) _
  exact ⟨I.bel.trans (bb.below _ I.bel.size (by simp)), by have := I.lt; simpa [World.setCell] using this, (I.row.set j x).congr hf⟩
theorem G.congr {w : World} {f f' : Nat → BitVec 32} {wr : World} (I : G w f wr) (hf : ∀ i, i < 16 → f i = f' i) : G w f' wr := ⟨I.bel, I.lt, I.row.congr hf⟩

/-- The bodies of a function's loops, from the outside in, in the order of the text. -/
def loopsOf : Code → List Code
  | .loop c => c :: loopsOf c
  | .seq a b => loopsOf a ++ loopsOf b
  | .block _ c => loopsOf c
  | .scope c => loopsOf c
  | .cond _ a b => loopsOf a ++ loopsOf b
  | _ => []
noncomputable def loop64 (i : Nat) : Code := ((Try.f64.body.map loopsOf).getD []).getD i .skip
theorem step_sum (r f e x k : BitVec 32) : r + f + e + x + k = r + f + e + k + x := sum_other r f e x k

set_option maxRecDepth 1000000 in
set_option maxHeartbeats 2000000 in
theorem loop64_1 (f b : Nat → BitVec 32) (g o L cap : Nat) (w wr : World) (h8 : ∀ i, iv (b i) ≤ 255) (hL : 64 ≤ L) (hc : L ≤ cap) (hmax : L ≤ 140737488351232) (hg : g < w.heap.size) (hb : ∀ i, i < 64 → w.cell? ⟨g, o + i, none⟩ = some (.int .u8 (iv (b i))))
    (I : Hid (G w f wr)) (Q0 : Exit → Act → World → Prop) (x0 x2 x3 x5 x6 x7 x8 x9 x11 x12 x13 x14 x15 x16 x17 x18 x19 x20 x21 x22 x23 x24 x25 x26 x27 x28 x29 x30 x31 x32 x33 x34 x35 x36 x37 x38 x39 x40 x41 x42 x43 x44 x45 x46 x47 x48 x49 x50 x51 x52 x53 x54 x55 x56 x57 x58 x59 x60 x61 x62 x63 x64 x65 x66 x67 x68 x69 x70 x71 x72 x73 x74 x75 x76 x77 x78 x79 x80 x81 x82 x83 x84 x85 x86 x87 x88 x89 x90 x91 x92 x93 x94 x95 x96 x97 x98 x99 x100 x101 x102 x103 x104 x105 x106 x107 x108 x109 x110 x111 x112 x113 x114 x115 x116 x117 x118 x119 x120 x121 x122 x123 x124 x125 x126 x127 x128 x129 x130 x131 x132 x133 x134 x135 x136 x137 x138 x139 x140 x141 x142 x143 x144 x145 x146 x147 x148 x149 x150 x151 x152 x153 x154 x155 x156 x157 x158 x159 x160 x161 x162 x163 x164 x165 x166 x167 x168 x169 x170 x171 x172 x173 x174 x175 x176 x177 x178 x179 x180 x181 x182 x183 x184 x185 x186 x187 x188 x189 x190 x191 x192 x193 x194 x195 x196 x197 x198 x199 x200 x201 x202 x203 x204 x205 x206 x207 x208 x209 x210 x211 x212 x213 x214 x215 x216 x217 x218 x219 x220 x221 x222 x223 x224 x225 x226 x227 x228 x229 x230 x231 x232 x233 x234 x235 x236 x237 x238 x239 x240 x241 x242 x243 x244 x245 x246 x247 x248 x249 x250 x251 x252 x253 x254 x255 x256 x257 x258 x259 x260 x261 x262 x263 x264 x265 x266 x267 x268 x269 x270 x271 x272 x273 x274 x275 x276 x277 x278 x279 x280 x281 x282 x283 x284 x285 x286 x287 x288 x289 x290 x291 x292 x293 x294 x295 x296 x297 x298 x299 x300 x301 x302 x303 x304 x305 x306 x307 x308 x309 x310 x311 x312 x313 x314 x315 x316 x317 x318 x319 x320 x321 x322 x323 x324 x325 x326 x327 x328 x329 x330 x331 x332 x333 x334 x335 x336 x337 x338 x339 x340 x341 x342 x343 x344 x345 x346 x347 x348 x349 x350 x351 x352 x353 x354 x355 x356 x357 x358 x359 x360 x361 x362 x363 x364 x365 x366 x367 x368 x369 x370 x371 x372 x373 x374 x375 x376 x377 x378 x379 x380 x381 x382 x383 x384 x385 x386 x387 x388 x389 x390 x391 x392 x393 x394 x395 x396 : Value)
    (hx : ∀ (y11 y60 y61 y62 y63 y64 y65 y66 y67 y68 y69 y70 y71 y72 y73 y74 y75 y76 y77 y78 y79 y80 y81 y82 y83 y84 y85 y86 y87 y88 y89 y90 y91 y92 y93 y94 y95 y96 : Value) (w' : World), Hid (G w (W b) w') → Q0 (.exit 2) ⟨List.toArray (α := Value) (x0 :: .slice (some ⟨g, o, none⟩) L cap :: x2 :: x3 :: .pointer (some ⟨w.heap.size, 0, none⟩) :: x5 :: x6 :: x7 :: x8 :: x9 :: .int .i64 16 :: y11 :: x12 :: x13 :: x14 :: x15 :: x16 :: x17 :: x18 :: x19 :: x20 :: x21 :: x22 :: x23 :: x24 :: x25 :: x26 :: x27 :: x28 :: x29 :: x30 :: x31 :: x32 :: x33 :: x34 :: x35 :: x36 :: x37 :: x38 :: x39 :: x40 :: x41 :: x42 :: x43 :: x44 :: x45 :: x46 :: x47 :: x48 :: x49 :: x50 :: x51 :: x52 :: x53 :: x54 :: x55 :: x56 :: x57 :: x58 :: x59 :: y60 :: y61 :: y62 :: y63 :: y64 :: y65 :: y66 :: y67 :: y68 :: y69 :: y70 :: y71 :: y72 :: y73 :: y74 :: y75 :: y76 :: y77 :: y78 :: y79 :: y80 :: y81 :: y82 :: y83 :: y84 :: y85 :: y86 :: y87 :: y88 :: y89 :: y90 :: y91 :: y92 :: y93 :: y94 :: y95 :: y96 :: x97 :: x98 :: x99 :: x100 :: x101 :: x102 :: x103 :: x104 :: x105 :: x106 :: x107 :: x108 :: x109 :: x110 :: x111 :: x112 :: x113 :: x114 :: x115 :: x116 :: x117 :: x118 :: x119 :: x120 :: x121 :: x122 :: x123 :: x124 :: x125 :: x126 :: x127 :: x128 :: x129 :: x130 :: x131 :: x132 :: x133 :: x134 :: x135 :: x136 :: x137 :: x138 :: x139 :: x140 :: x141 :: x142 :: x143 :: x144 :: x145 :: x146 :: x147 :: x148 :: x149 :: x150 :: x151 :: x152 :: x153 :: x154 :: x155 :: x156 :: x157 :: x158 :: x159 :: x160 :: x161 :: x162 :: x163 :: x164 :: x165 :: x166 :: x167 :: x168 :: x169 :: x170 :: x171 :: x172 :: x173 :: x174 :: x175 :: x176 :: x177 :: x178 :: x179 :: x180 :: x181 :: x182 :: x183 :: x184 :: x185 :: x186 :: x187 :: x188 :: x189 :: x190 :: x191 :: x192 :: x193 :: x194 :: x195 :: x196 :: x197 :: x198 :: x199 :: x200 :: x201 :: x202 :: x203 :: x204 :: x205 :: x206 :: x207 :: x208 :: x209 :: x210 :: x211 :: x212 :: x213 :: x214 :: x215 :: x216 :: x217 :: x218 :: x219 :: x220 :: x221 :: x222 :: x223 :: x224 :: x225 :: x226 :: x227 :: x228 :: x229 :: x230 :: x231 :: x232 :: x233 :: x234 :: x235 :: x236 :: x237 :: x238 :: x239 :: x240 :: x241 :: x242 :: x243 :: x244 :: x245 :: x246 :: x247 :: x248 :: x249 :: x250 :: x251 :: x252 :: x253 :: x254 :: x255 :: x256 :: x257 :: x258 :: x259 :: x260 :: x261 :: x262 :: x263 :: x264 :: x265 :: x266 :: x267 :: x268 :: x269 :: x270 :: x271 :: x272 :: x273 :: x274 :: x275 :: x276 :: x277 :: x278 :: x279 :: x280 :: x281 :: x282 :: x283 :: x284 :: x285 :: x286 :: x287 :: x288 :: x289 :: x290 :: x291 :: x292 :: x293 :: x294 :: x295 :: x296 :: x297 :: x298 :: x299 :: x300 :: x301 :: x302 :: x303 :: x304 :: x305 :: x306 :: x307 :: x308 :: x309 :: x310 :: x311 :: x312 :: x313 :: x314 :: x315 :: x316 :: x317 :: x318 :: x319 :: x320 :: x321 :: x322 :: x323 :: x324 :: x325 :: x326 :: x327 :: x328 :: x329 :: x330 :: x331 :: x332 :: x333 :: x334 :: x335 :: x336 :: x337 :: x338 :: x339 :: x340 :: x341 :: x342 :: x343 :: x344 :: x345 :: x346 :: x347 :: x348 :: x349 :: x350 :: x351 :: x352 :: x353 :: x354 :: x355 :: x356 :: x357 :: x358 :: x359 :: x360 :: x361 :: x362 :: x363 :: x364 :: x365 :: x366 :: x367 :: x368 :: x369 :: x370 :: x371 :: x372 :: x373 :: x374 :: x375 :: x376 :: x377 :: x378 :: x379 :: x380 :: x381 :: x382 :: x383 :: x384 :: x385 :: x386 :: x387 :: x388 :: x389 :: x390 :: x391 :: x392 :: x393 :: x394 :: x395 :: x396 :: []), []⟩ w') :
    Code.wp Try.prog (Code.loop (loop64 1)) Q0 ⟨List.toArray (α := Value) (x0 :: .slice (some ⟨g, o, none⟩) L cap :: x2 :: x3 :: .pointer (some ⟨w.heap.size, 0, none⟩) :: x5 :: x6 :: x7 :: x8 :: x9 :: .int .i64 0 :: x11 :: x12 :: x13 :: x14 :: x15 :: x16 :: x17 :: x18 :: x19 :: x20 :: x21 :: x22 :: x23 :: x24 :: x25 :: x26 :: x27 :: x28 :: x29 :: x30 :: x31 :: x32 :: x33 :: x34 :: x35 :: x36 :: x37 :: x38 :: x39 :: x40 :: x41 :: x42 :: x43 :: x44 :: x45 :: x46 :: x47 :: x48 :: x49 :: x50 :: x51 :: x52 :: x53 :: x54 :: x55 :: x56 :: x57 :: x58 :: x59 :: x60 :: x61 :: x62 :: x63 :: x64 :: x65 :: x66 :: x67 :: x68 :: x69 :: x70 :: x71 :: x72 :: x73 :: x74 :: x75 :: x76 :: x77 :: x78 :: x79 :: x80 :: x81 :: x82 :: x83 :: x84 :: x85 :: x86 :: x87 :: x88 :: x89 :: x90 :: x91 :: x92 :: x93 :: x94 :: x95 :: x96 :: x97 :: x98 :: x99 :: x100 :: x101 :: x102 :: x103 :: x104 :: x105 :: x106 :: x107 :: x108 :: x109 :: x110 :: x111 :: x112 :: x113 :: x114 :: x115 :: x116 :: x117 :: x118 :: x119 :: x120 :: x121 :: x122 :: x123 :: x124 :: x125 :: x126 :: x127 :: x128 :: x129 :: x130 :: x131 :: x132 :: x133 :: x134 :: x135 :: x136 :: x137 :: x138 :: x139 :: x140 :: x141 :: x142 :: x143 :: x144 :: x145 :: x146 :: x147 :: x148 :: x149 :: x150 :: x151 :: x152 :: x153 :: x154 :: x155 :: x156 :: x157 :: x158 :: x159 :: x160 :: x161 :: x162 :: x163 :: x164 :: x165 :: x166 :: x167 :: x168 :: x169 :: x170 :: x171 :: x172 :: x173 :: x174 :: x175 :: x176 :: x177 :: x178 :: x179 :: x180 :: x181 :: x182 :: x183 :: x184 :: x185 :: x186 :: x187 :: x188 :: x189 :: x190 :: x191 :: x192 :: x193 :: x194 :: x195 :: x196 :: x197 :: x198 :: x199 :: x200 :: x201 :: x202 :: x203 :: x204 :: x205 :: x206 :: x207 :: x208 :: x209 :: x210 :: x211 :: x212 :: x213 :: x214 :: x215 :: x216 :: x217 :: x218 :: x219 :: x220 :: x221 :: x222 :: x223 :: x224 :: x225 :: x226 :: x227 :: x228 :: x229 :: x230 :: x231 :: x232 :: x233 :: x234 :: x235 :: x236 :: x237 :: x238 :: x239 :: x240 :: x241 :: x242 :: x243 :: x244 :: x245 :: x246 :: x247 :: x248 :: x249 :: x250 :: x251 :: x252 :: x253 :: x254 :: x255 :: x256 :: x257 :: x258 :: x259 :: x260 :: x261 :: x262 :: x263 :: x264 :: x265 :: x266 :: x267 :: x268 :: x269 :: x270 :: x271 :: x272 :: x273 :: x274 :: x275 :: x276 :: x277 :: x278 :: x279 :: x280 :: x281 :: x282 :: x283 :: x284 :: x285 :: x286 :: x287 :: x288 :: x289 :: x290 :: x291 :: x292 :: x293 :: x294 :: x295 :: x296 :: x297 :: x298 :: x299 :: x300 :: x301 :: x302 :: x303 :: x304 :: x305 :: x306 :: x307 :: x308 :: x309 :: x310 :: x311 :: x312 :: x313 :: x314 :: x315 :: x316 :: x317 :: x318 :: x319 :: x320 :: x321 :: x322 :: x323 :: x324 :: x325 :: x326 :: x327 :: x328 :: x329 :: x330 :: x331 :: x332 :: x333 :: x334 :: x335 :: x336 :: x337 :: x338 :: x339 :: x340 :: x341 :: x342 :: x343 :: x344 :: x345 :: x346 :: x347 :: x348 :: x349 :: x350 :: x351 :: x352 :: x353 :: x354 :: x355 :: x356 :: x357 :: x358 :: x359 :: x360 :: x361 :: x362 :: x363 :: x364 :: x365 :: x366 :: x367 :: x368 :: x369 :: x370 :: x371 :: x372 :: x373 :: x374 :: x375 :: x376 :: x377 :: x378 :: x379 :: x380 :: x381 :: x382 :: x383 :: x384 :: x385 :: x386 :: x387 :: x388 :: x389 :: x390 :: x391 :: x392 :: x393 :: x394 :: x395 :: x396 :: []), []⟩ wr := by
  conv => arg 2; arg 1; whnf
  have HB := Lib.hid hb
  clear hb
  go_loopw [10] (fun i wr => ∃ t : Nat, t ≤ 16 ∧ i = .int .i64 t ∧ Hid (G w (fill f b t) wr)) (fun i _ => 16 - (intOf i).toNat)
  case atStart => exact ⟨0, by omega, rfl, Lib.hid (I.out.congr (fun i _ => by simp [fill]))⟩
  case round =>
    clear I
    obtain ⟨t, ht1, rfl, J⟩ := hrel
    by_cases hlt : t < 16
    · have HX := Lib.hid hx
      clear hx
      have q0 : wr.cell? ⟨g, o + 4 * t, none⟩ = _ := (J.out.bel.cell (p := ⟨g, o + 4 * t, none⟩) hg).trans (HB.out (4 * t) (by omega))
      have q1 : wr.cell? ⟨g, o + (4 * t + 1), none⟩ = _ := (J.out.bel.cell (p := ⟨g, o + (4 * t + 1), none⟩) hg).trans (HB.out (4 * t + 1) (by omega))
      have q2 : wr.cell? ⟨g, o + (4 * t + 2), none⟩ = _ := (J.out.bel.cell (p := ⟨g, o + (4 * t + 2), none⟩) hg).trans (HB.out (4 * t + 2) (by omega))
      have q3 : wr.cell? ⟨g, o + (4 * t + 3), none⟩ = _ := (J.out.bel.cell (p := ⟨g, o + (4 * t + 3), none⟩) hg).trans (HB.out (4 * t + 3) (by omega))
      have l0 := iv_lo (b (4 * t)); have m0 := h8 (4 * t)
      have l1 := iv_lo (b (4 * t + 1)); have m1 := h8 (4 * t + 1)
      have l2 := iv_lo (b (4 * t + 2)); have m2 := h8 (4 * t + 2)
      have l3 := iv_lo (b (4 * t + 3)); have m3 := h8 (4 * t + 3)
      have c := J.out.row.cell hlt
      have fz := J.out.row.frozen t
      have HE := Lib.hid ((word_iv (b (4 * t)) (b (4 * t + 1)) (b (4 * t + 2)) (b (4 * t + 3)) m0 m1 m2).trans (show _ = iv (W b t) by rw [W_lo b t hlt]; rfl))
      have HS' := Lib.hid (fun (wz : World) (h : G w (fill f b t) wz) => h.set (f' := fill f b (t + 1)) t (W b t) (fun i hi => fill_step f b t i))
      generalize iv (b (4 * t)) = x0' at *
      generalize iv (b (4 * t + 1)) = x1' at *
      generalize iv (b (4 * t + 2)) = x2' at *
      generalize iv (b (4 * t + 3)) = x3' at *
      obtain ⟨jj, hj⟩ : ∃ jj, 4 * t = jj := ⟨_, rfl⟩
      have h4 : 4 * (t : Int) = (jj : Int) := by omega
      rw [hj] at q0 q1 q2 q3
      have i0 : ((jj : Int) + 1).toNat = jj + 1 := by omega
      have i2 : ((jj : Int) + 2).toNat = jj + 2 := by omega
      have i3 : ((jj : Int) + 3).toNat = jj + 3 := by omega
      have jl : jj + 3 < 64 := by omega
      have w4 : IntKind.i64.wrap ((t : Int) * 4) = (jj : Int) := by rw [IntKind.wrap_i64]; omega
      have w4' : (t : Int) * 4 = (jj : Int) := by omega
      have s1 : IntKind.i64.wrap ((jj : Int) + 1) = (jj : Int) + 1 := by rw [IntKind.wrap_i64]; omega
      have s2 : IntKind.i64.wrap ((jj : Int) + 2) = (jj : Int) + 2 := by rw [IntKind.wrap_i64]; omega
      have s3 : IntKind.i64.wrap ((jj : Int) + 3) = (jj : Int) + 3 := by rw [IntKind.wrap_i64]; omega
      have z1 : (0 : Int) ≤ (jj : Int) + 1 := by omega
      have z2 : (0 : Int) ≤ (jj : Int) + 2 := by omega
      have z3 : (0 : Int) ≤ (jj : Int) + 3 := by omega
      have y0 : (jj : Int) < (L : Int) := by omega
      have y1 : (jj : Int) + 1 < (L : Int) := by omega
      have y2 : (jj : Int) + 2 < (L : Int) := by omega
      have y3 : (jj : Int) + 3 < (L : Int) := by omega
      have z0' : (0 : Int) ≤ (jj : Int) := by omega
      have t16 : (t : Int) < 16 := by omega
      have k0 : IntKind.u32.wrap (x0' * 16777216) = x0' * 16777216 := by rw [IntKind.wrap_u32]; omega
      have k1 : IntKind.u32.wrap (x1' * 65536) = x1' * 65536 := by rw [IntKind.wrap_u32]; omega
      have k2 : IntKind.u32.wrap (x2' * 256) = x2' * 256 := by rw [IntKind.wrap_u32]; omega
      have k3 : IntKind.u32.wrap x0' = x0' := by rw [IntKind.wrap_u32]; omega
      have k4 : IntKind.u32.wrap x1' = x1' := by rw [IntKind.wrap_u32]; omega
      have k5 : IntKind.u32.wrap x2' = x2' := by rw [IntKind.wrap_u32]; omega
      have k6 : IntKind.u32.wrap x3' = x3' := by rw [IntKind.wrap_u32]; omega
      clear h8 h4 hj
      go_wp2
      refine region_quiet_tail 31 (by kernel_rfl) (by kernel_rfl) ?_
      simp only [List.take_succ_cons, List.take_zero, List.drop_succ_cons, List.drop_zero]
      repeat (go_big_quiet_step (fail))
      refine wpQuiet_nil ?_
      intro nr
      go_wp2
      go_roundw
      case rel =>
        refine ⟨t + 1, by omega, by go_num, ?_⟩
        rw [HE.out]
        exact Lib.hid (HS'.out _ (J.out.drewN nr))
      case measure => simp [intOf]; omega
    · obtain rfl : t = 16 := by omega
      go_wp2
      exact (Lib.hid (J.out.congr (fun i hi => by unfold fill; rw [if_pos hi])))
set_option maxRecDepth 1000000 in
set_option maxHeartbeats 2000000 in
theorem loop64_2 (s : S5) (b : Nat → BitVec 32) (w wr : World) (I : Hid (G w (W b) wr)) (Q0 : Exit → Act → World → Prop) (x0 x1 x2 x3 x5 x6 x7 x8 x9 x10 x11 x18 x19 x20 x21 x22 x23 x24 x25 x26 x27 x28 x29 x30 x31 x32 x33 x34 x35 x36 x37 x38 x39 x40 x41 x42 x43 x44 x45 x46 x47 x48 x49 x50 x51 x52 x53 x54 x55 x56 x57 x58 x59 x60 x61 x62 x63 x64 x65 x66 x67 x68 x69 x70 x71 x72 x73 x74 x75 x76 x77 x78 x79 x80 x81 x82 x83 x84 x85 x86 x87 x88 x89 x90 x91 x92 x93 x94 x95 x96 x97 x98 x99 x100 x101 x102 x103 x104 x105 x106 x107 x108 x109 x110 x111 x112 x113 x114 x115 x116 x117 x118 x119 x120 x121 x122 x123 x124 x125 x126 x127 x128 x129 x130 x131 x132 x133 x134 x135 x136 x137 x138 x139 x140 x141 x142 x143 x144 x145 x146 x147 x148 x149 x150 x151 x152 x153 x154 x155 x156 x157 x158 x159 x160 x161 x162 x163 x164 x165 x166 x167 x168 x169 x170 x171 x172 x173 x174 x175 x176 x177 x178 x179 x180 x181 x182 x183 x184 x185 x186 x187 x188 x189 x190 x191 x192 x193 x194 x195 x196 x197 x198 x199 x200 x201 x202 x203 x204 x205 x206 x207 x208 x209 x210 x211 x212 x213 x214 x215 x216 x217 x218 x219 x220 x221 x222 x223 x224 x225 x226 x227 x228 x229 x230 x231 x232 x233 x234 x235 x236 x237 x238 x239 x240 x241 x242 x243 x244 x245 x246 x247 x248 x249 x250 x251 x252 x253 x254 x255 x256 x257 x258 x259 x260 x261 x262 x263 x264 x265 x266 x267 x268 x269 x270 x271 x272 x273 x274 x275 x276 x277 x278 x279 x280 x281 x282 x283 x284 x285 x286 x287 x288 x289 x290 x291 x292 x293 x294 x295 x296 x297 x298 x299 x300 x301 x302 x303 x304 x305 x306 x307 x308 x309 x310 x311 x312 x313 x314 x315 x316 x317 x318 x319 x320 x321 x322 x323 x324 x325 x326 x327 x328 x329 x330 x331 x332 x333 x334 x335 x336 x337 x338 x339 x340 x341 x342 x343 x344 x345 x346 x347 x348 x349 x350 x351 x352 x353 x354 x355 x356 x357 x358 x359 x360 x361 x362 x363 x364 x365 x366 x367 x368 x369 x370 x371 x372 x373 x374 x375 x376 x377 x378 x379 x380 x381 x382 x383 x384 x385 x386 x387 x388 x389 x390 x391 x392 x393 x394 x395 x396 : Value)
    (hx : ∀ (y18 y19 y102 y103 y104 y105 y106 y107 y108 y109 y110 y111 y112 y113 y114 y115 y116 y117 y118 y119 y120 y121 y122 y123 y124 y125 y126 y127 y128 y129 y130 y131 : Value) (w' : World), Hid (G w (ring b 16) w') → Q0 (.exit 4) ⟨List.toArray (α := Value) (x0 :: x1 :: x2 :: x3 :: .pointer (some ⟨w.heap.size, 0, none⟩) :: x5 :: x6 :: x7 :: x8 :: x9 :: x10 :: x11 :: .int .u32 (iv (rounds s b 16).a) :: .int .u32 (iv (rounds s b 16).b) :: .int .u32 (iv (rounds s b 16).c) :: .int .u32 (iv (rounds s b 16).d) :: .int .u32 (iv (rounds s b 16).e) :: .int .i64 16 :: y18 :: y19 :: x20 :: x21 :: x22 :: x23 :: x24 :: x25 :: x26 :: x27 :: x28 :: x29 :: x30 :: x31 :: x32 :: x33 :: x34 :: x35 :: x36 :: x37 :: x38 :: x39 :: x40 :: x41 :: x42 :: x43 :: x44 :: x45 :: x46 :: x47 :: x48 :: x49 :: x50 :: x51 :: x52 :: x53 :: x54 :: x55 :: x56 :: x57 :: x58 :: x59 :: x60 :: x61 :: x62 :: x63 :: x64 :: x65 :: x66 :: x67 :: x68 :: x69 :: x70 :: x71 :: x72 :: x73 :: x74 :: x75 :: x76 :: x77 :: x78 :: x79 :: x80 :: x81 :: x82 :: x83 :: x84 :: x85 :: x86 :: x87 :: x88 :: x89 :: x90 :: x91 :: x92 :: x93 :: x94 :: x95 :: x96 :: x97 :: x98 :: x99 :: x100 :: x101 :: y102 :: y103 :: y104 :: y105 :: y106 :: y107 :: y108 :: y109 :: y110 :: y111 :: y112 :: y113 :: y114 :: y115 :: y116 :: y117 :: y118 :: y119 :: y120 :: y121 :: y122 :: y123 :: y124 :: y125 :: y126 :: y127 :: y128 :: y129 :: y130 :: y131 :: x132 :: x133 :: x134 :: x135 :: x136 :: x137 :: x138 :: x139 :: x140 :: x141 :: x142 :: x143 :: x144 :: x145 :: x146 :: x147 :: x148 :: x149 :: x150 :: x151 :: x152 :: x153 :: x154 :: x155 :: x156 :: x157 :: x158 :: x159 :: x160 :: x161 :: x162 :: x163 :: x164 :: x165 :: x166 :: x167 :: x168 :: x169 :: x170 :: x171 :: x172 :: x173 :: x174 :: x175 :: x176 :: x177 :: x178 :: x179 :: x180 :: x181 :: x182 :: x183 :: x184 :: x185 :: x186 :: x187 :: x188 :: x189 :: x190 :: x191 :: x192 :: x193 :: x194 :: x195 :: x196 :: x197 :: x198 :: x199 :: x200 :: x201 :: x202 :: x203 :: x204 :: x205 :: x206 :: x207 :: x208 :: x209 :: x210 :: x211 :: x212 :: x213 :: x214 :: x215 :: x216 :: x217 :: x218 :: x219 :: x220 :: x221 :: x222 :: x223 :: x224 :: x225 :: x226 :: x227 :: x228 :: x229 :: x230 :: x231 :: x232 :: x233 :: x234 :: x235 :: x236 :: x237 :: x238 :: x239 :: x240 :: x241 :: x242 :: x243 :: x244 :: x245 :: x246 :: x247 :: x248 :: x249 :: x250 :: x251 :: x252 :: x253 :: x254 :: x255 :: x256 :: x257 :: x258 :: x259 :: x260 :: x261 :: x262 :: x263 :: x264 :: x265 :: x266 :: x267 :: x268 :: x269 :: x270 :: x271 :: x272 :: x273 :: x274 :: x275 :: x276 :: x277 :: x278 :: x279 :: x280 :: x281 :: x282 :: x283 :: x284 :: x285 :: x286 :: x287 :: x288 :: x289 :: x290 :: x291 :: x292 :: x293 :: x294 :: x295 :: x296 :: x297 :: x298 :: x299 :: x300 :: x301 :: x302 :: x303 :: x304 :: x305 :: x306 :: x307 :: x308 :: x309 :: x310 :: x311 :: x312 :: x313 :: x314 :: x315 :: x316 :: x317 :: x318 :: x319 :: x320 :: x321 :: x322 :: x323 :: x324 :: x325 :: x326 :: x327 :: x328 :: x329 :: x330 :: x331 :: x332 :: x333 :: x334 :: x335 :: x336 :: x337 :: x338 :: x339 :: x340 :: x341 :: x342 :: x343 :: x344 :: x345 :: x346 :: x347 :: x348 :: x349 :: x350 :: x351 :: x352 :: x353 :: x354 :: x355 :: x356 :: x357 :: x358 :: x359 :: x360 :: x361 :: x362 :: x363 :: x364 :: x365 :: x366 :: x367 :: x368 :: x369 :: x370 :: x371 :: x372 :: x373 :: x374 :: x375 :: x376 :: x377 :: x378 :: x379 :: x380 :: x381 :: x382 :: x383 :: x384 :: x385 :: x386 :: x387 :: x388 :: x389 :: x390 :: x391 :: x392 :: x393 :: x394 :: x395 :: x396 :: []), []⟩ w') :
    Code.wp Try.prog (Code.loop (loop64 2)) Q0 ⟨List.toArray (α := Value) (x0 :: x1 :: x2 :: x3 :: .pointer (some ⟨w.heap.size, 0, none⟩) :: x5 :: x6 :: x7 :: x8 :: x9 :: x10 :: x11 :: .int .u32 (iv s.a) :: .int .u32 (iv s.b) :: .int .u32 (iv s.c) :: .int .u32 (iv s.d) :: .int .u32 (iv s.e) :: .int .i64 0 :: x18 :: x19 :: x20 :: x21 :: x22 :: x23 :: x24 :: x25 :: x26 :: x27 :: x28 :: x29 :: x30 :: x31 :: x32 :: x33 :: x34 :: x35 :: x36 :: x37 :: x38 :: x39 :: x40 :: x41 :: x42 :: x43 :: x44 :: x45 :: x46 :: x47 :: x48 :: x49 :: x50 :: x51 :: x52 :: x53 :: x54 :: x55 :: x56 :: x57 :: x58 :: x59 :: x60 :: x61 :: x62 :: x63 :: x64 :: x65 :: x66 :: x67 :: x68 :: x69 :: x70 :: x71 :: x72 :: x73 :: x74 :: x75 :: x76 :: x77 :: x78 :: x79 :: x80 :: x81 :: x82 :: x83 :: x84 :: x85 :: x86 :: x87 :: x88 :: x89 :: x90 :: x91 :: x92 :: x93 :: x94 :: x95 :: x96 :: x97 :: x98 :: x99 :: x100 :: x101 :: x102 :: x103 :: x104 :: x105 :: x106 :: x107 :: x108 :: x109 :: x110 :: x111 :: x112 :: x113 :: x114 :: x115 :: x116 :: x117 :: x118 :: x119 :: x120 :: x121 :: x122 :: x123 :: x124 :: x125 :: x126 :: x127 :: x128 :: x129 :: x130 :: x131 :: x132 :: x133 :: x134 :: x135 :: x136 :: x137 :: x138 :: x139 :: x140 :: x141 :: x142 :: x143 :: x144 :: x145 :: x146 :: x147 :: x148 :: x149 :: x150 :: x151 :: x152 :: x153 :: x154 :: x155 :: x156 :: x157 :: x158 :: x159 :: x160 :: x161 :: x162 :: x163 :: x164 :: x165 :: x166 :: x167 :: x168 :: x169 :: x170 :: x171 :: x172 :: x173 :: x174 :: x175 :: x176 :: x177 :: x178 :: x179 :: x180 :: x181 :: x182 :: x183 :: x184 :: x185 :: x186 :: x187 :: x188 :: x189 :: x190 :: x191 :: x192 :: x193 :: x194 :: x195 :: x196 :: x197 :: x198 :: x199 :: x200 :: x201 :: x202 :: x203 :: x204 :: x205 :: x206 :: x207 :: x208 :: x209 :: x210 :: x211 :: x212 :: x213 :: x214 :: x215 :: x216 :: x217 :: x218 :: x219 :: x220 :: x221 :: x222 :: x223 :: x224 :: x225 :: x226 :: x227 :: x228 :: x229 :: x230 :: x231 :: x232 :: x233 :: x234 :: x235 :: x236 :: x237 :: x238 :: x239 :: x240 :: x241 :: x242 :: x243 :: x244 :: x245 :: x246 :: x247 :: x248 :: x249 :: x250 :: x251 :: x252 :: x253 :: x254 :: x255 :: x256 :: x257 :: x258 :: x259 :: x260 :: x261 :: x262 :: x263 :: x264 :: x265 :: x266 :: x267 :: x268 :: x269 :: x270 :: x271 :: x272 :: x273 :: x274 :: x275 :: x276 :: x277 :: x278 :: x279 :: x280 :: x281 :: x282 :: x283 :: x284 :: x285 :: x286 :: x287 :: x288 :: x289 :: x290 :: x291 :: x292 :: x293 :: x294 :: x295 :: x296 :: x297 :: x298 :: x299 :: x300 :: x301 :: x302 :: x303 :: x304 :: x305 :: x306 :: x307 :: x308 :: x309 :: x310 :: x311 :: x312 :: x313 :: x314 :: x315 :: x316 :: x317 :: x318 :: x319 :: x320 :: x321 :: x322 :: x323 :: x324 :: x325 :: x326 :: x327 :: x328 :: x329 :: x330 :: x331 :: x332 :: x333 :: x334 :: x335 :: x336 :: x337 :: x338 :: x339 :: x340 :: x341 :: x342 :: x343 :: x344 :: x345 :: x346 :: x347 :: x348 :: x349 :: x350 :: x351 :: x352 :: x353 :: x354 :: x355 :: x356 :: x357 :: x358 :: x359 :: x360 :: x361 :: x362 :: x363 :: x364 :: x365 :: x366 :: x367 :: x368 :: x369 :: x370 :: x371 :: x372 :: x373 :: x374 :: x375 :: x376 :: x377 :: x378 :: x379 :: x380 :: x381 :: x382 :: x383 :: x384 :: x385 :: x386 :: x387 :: x388 :: x389 :: x390 :: x391 :: x392 :: x393 :: x394 :: x395 :: x396 :: []), []⟩ wr := by
  conv => arg 2; arg 1; whnf
  go_loopw [12, 13, 14, 15, 16, 17] (fun a1 b1 c1 d1 e1 i wr => ∃ t : Nat, t ≤ 16 ∧ a1 = .int .u32 (iv (rounds s b t).a) ∧ b1 = .int .u32 (iv (rounds s b t).b) ∧ c1 = .int .u32 (iv (rounds s b t).c) ∧ d1 = .int .u32 (iv (rounds s b t).d) ∧ e1 = .int .u32 (iv (rounds s b t).e) ∧ i = .int .i64 t ∧ Hid (G w (W b) wr)) (fun _ _ _ _ _ i _ => 16 - (intOf i).toNat)
  case atStart => exact ⟨0, by omega, rfl, rfl, rfl, rfl, rfl, rfl, I⟩
  case round =>
    clear I
    obtain ⟨t, ht1, rfl, rfl, rfl, rfl, rfl, rfl, J⟩ := hrel
    by_cases hlt : t < 16
    · have HX := Lib.hid hx
      clear hx
      obtain ⟨v, hv⟩ : ∃ v, rounds s b t = v := ⟨_, rfl⟩
      have HS : Hid (rounds s b (t + 1) = ⟨rot v.a 5 + fch v.b v.c v.d + v.e + 1518500249#32 + W b t, v.a, rot v.b 30, v.c, v.d⟩) := Lib.hid (by
        show step (rounds s b t) (mixF t (rounds s b t).b (rounds s b t).c (rounds s b t).d) (mixK t) (W b t) = _
        rw [hv]
        unfold step mixF mixK
        rw [if_pos (by omega)]
        rw [if_pos (by omega)])
      rw [hv]
      clear hv
      obtain ⟨F, hF⟩ : ∃ F, fch v.b v.c v.d = F := ⟨_, rfl⟩
      have c := J.out.row.cell hlt
      obtain ⟨x, hx⟩ : ∃ x, W b t = x := ⟨_, rfl⟩
      rw [hF, hx] at HS
      rw [hx] at c
      have g1 := iv_and v.b v.c
      have g2 := iv_not v.b
      have g2' := iv_not' v.b
      have g3 := iv_and (~~~ v.b) v.d
      have g4 : bits .or .u32 (iv (v.b &&& v.c)) (iv (~~~ v.b &&& v.d)) = iv (fch v.b v.c v.d) := by rw [iv_or, fch_or]
      have hs : IntKind.u32.signed = false := rfl
      have hm : IntKind.u32.max = 4294967295 := by decide
      rw [hF] at g4
      clear hx hF
      have p : bits .and .i64 (t : Int) 15 = (t : Int) := by rw [and15 _ (by omega) (by omega)]; omega
      have a1 := iv_add (rot v.a 5) F
      have a2 := iv_add (rot v.a 5 + F) v.e
      have a3 := iv_add (rot v.a 5 + F + v.e) x
      have a4 : (iv (rot v.a 5 + F + v.e + x) + 1518500249) % 4294967296 = iv (rot v.a 5 + F + v.e + 1518500249#32 + x) := by rw [← step_sum]; exact iv_add _ 1518500249#32
      have b1 := iv_addw (rot v.a 5) F
      have b2 := iv_addw (rot v.a 5 + F) v.e
      have b3 := iv_addw (rot v.a 5 + F + v.e) x
      have b4 : IntKind.u32.wrap (iv (rot v.a 5 + F + v.e + x) + 1518500249) = iv (rot v.a 5 + F + v.e + 1518500249#32 + x) := by rw [← step_sum]; exact iv_addw _ 1518500249#32
      go_wp2
      go_quiet (refine Calls.quiet_of (rot70q_5 _ _))
      go_wp2_with (go_at_call 70; refine (rot70_30 _ _).mono ?_; rintro e w' ⟨rfl, rfl⟩)
      go_roundw
      case rel => exact ⟨t + 1, by omega, by rw [HS.out], by rw [HS.out], by rw [HS.out], by rw [HS.out], by rw [HS.out], by go_num, Lib.hid (J.out.drewN _)⟩
      case measure => simp [intOf]; omega
    · obtain rfl : t = 16 := by omega
      go_wp2
      exact (Lib.hid (J.out.congr (fun i hi => by unfold ring idx; congr 1; omega)))
set_option maxRecDepth 1000000 in
set_option maxHeartbeats 2000000 in
theorem loop64_3 (s : S5) (b : Nat → BitVec 32) (w wr : World) (I : Hid (G w (ring b 16) wr)) (Q0 : Exit → Act → World → Prop) (x0 x1 x2 x3 x5 x6 x7 x8 x9 x10 x11 x18 x19 x20 x21 x22 x23 x24 x25 x26 x27 x28 x29 x30 x31 x32 x33 x34 x35 x36 x37 x38 x39 x40 x41 x42 x43 x44 x45 x46 x47 x48 x49 x50 x51 x52 x53 x54 x55 x56 x57 x58 x59 x60 x61 x62 x63 x64 x65 x66 x67 x68 x69 x70 x71 x72 x73 x74 x75 x76 x77 x78 x79 x80 x81 x82 x83 x84 x85 x86 x87 x88 x89 x90 x91 x92 x93 x94 x95 x96 x97 x98 x99 x100 x101 x102 x103 x104 x105 x106 x107 x108 x109 x110 x111 x112 x113 x114 x115 x116 x117 x118 x119 x120 x121 x122 x123 x124 x125 x126 x127 x128 x129 x130 x131 x132 x133 x134 x135 x136 x137 x138 x139 x140 x141 x142 x143 x144 x145 x146 x147 x148 x149 x150 x151 x152 x153 x154 x155 x156 x157 x158 x159 x160 x161 x162 x163 x164 x165 x166 x167 x168 x169 x170 x171 x172 x173 x174 x175 x176 x177 x178 x179 x180 x181 x182 x183 x184 x185 x186 x187 x188 x189 x190 x191 x192 x193 x194 x195 x196 x197 x198 x199 x200 x201 x202 x203 x204 x205 x206 x207 x208 x209 x210 x211 x212 x213 x214 x215 x216 x217 x218 x219 x220 x221 x222 x223 x224 x225 x226 x227 x228 x229 x230 x231 x232 x233 x234 x235 x236 x237 x238 x239 x240 x241 x242 x243 x244 x245 x246 x247 x248 x249 x250 x251 x252 x253 x254 x255 x256 x257 x258 x259 x260 x261 x262 x263 x264 x265 x266 x267 x268 x269 x270 x271 x272 x273 x274 x275 x276 x277 x278 x279 x280 x281 x282 x283 x284 x285 x286 x287 x288 x289 x290 x291 x292 x293 x294 x295 x296 x297 x298 x299 x300 x301 x302 x303 x304 x305 x306 x307 x308 x309 x310 x311 x312 x313 x314 x315 x316 x317 x318 x319 x320 x321 x322 x323 x324 x325 x326 x327 x328 x329 x330 x331 x332 x333 x334 x335 x336 x337 x338 x339 x340 x341 x342 x343 x344 x345 x346 x347 x348 x349 x350 x351 x352 x353 x354 x355 x356 x357 x358 x359 x360 x361 x362 x363 x364 x365 x366 x367 x368 x369 x370 x371 x372 x373 x374 x375 x376 x377 x378 x379 x380 x381 x382 x383 x384 x385 x386 x387 x388 x389 x390 x391 x392 x393 x394 x395 x396 : Value)
    (hx : ∀ (y20 y21 y22 y132 y133 y134 y135 y136 y137 y138 y139 y140 y141 y142 y143 y144 y145 y146 y147 y148 y149 y150 y151 y152 y153 y154 y155 y156 y157 y158 y159 y160 y161 y162 y163 y164 y165 y166 y167 y168 y169 y170 y171 y172 y173 y174 y175 y176 y177 y178 y179 y180 y181 y182 y183 y184 y185 y186 y187 y188 : Value) (w' : World), Hid (G w (ring b 20) w') → Q0 (.exit 6) ⟨List.toArray (α := Value) (x0 :: x1 :: x2 :: x3 :: .pointer (some ⟨w.heap.size, 0, none⟩) :: x5 :: x6 :: x7 :: x8 :: x9 :: x10 :: x11 :: .int .u32 (iv (rounds s b 20).a) :: .int .u32 (iv (rounds s b 20).b) :: .int .u32 (iv (rounds s b 20).c) :: .int .u32 (iv (rounds s b 20).d) :: .int .u32 (iv (rounds s b 20).e) :: .int .i64 20 :: x18 :: x19 :: y20 :: y21 :: y22 :: x23 :: x24 :: x25 :: x26 :: x27 :: x28 :: x29 :: x30 :: x31 :: x32 :: x33 :: x34 :: x35 :: x36 :: x37 :: x38 :: x39 :: x40 :: x41 :: x42 :: x43 :: x44 :: x45 :: x46 :: x47 :: x48 :: x49 :: x50 :: x51 :: x52 :: x53 :: x54 :: x55 :: x56 :: x57 :: x58 :: x59 :: x60 :: x61 :: x62 :: x63 :: x64 :: x65 :: x66 :: x67 :: x68 :: x69 :: x70 :: x71 :: x72 :: x73 :: x74 :: x75 :: x76 :: x77 :: x78 :: x79 :: x80 :: x81 :: x82 :: x83 :: x84 :: x85 :: x86 :: x87 :: x88 :: x89 :: x90 :: x91 :: x92 :: x93 :: x94 :: x95 :: x96 :: x97 :: x98 :: x99 :: x100 :: x101 :: x102 :: x103 :: x104 :: x105 :: x106 :: x107 :: x108 :: x109 :: x110 :: x111 :: x112 :: x113 :: x114 :: x115 :: x116 :: x117 :: x118 :: x119 :: x120 :: x121 :: x122 :: x123 :: x124 :: x125 :: x126 :: x127 :: x128 :: x129 :: x130 :: x131 :: y132 :: y133 :: y134 :: y135 :: y136 :: y137 :: y138 :: y139 :: y140 :: y141 :: y142 :: y143 :: y144 :: y145 :: y146 :: y147 :: y148 :: y149 :: y150 :: y151 :: y152 :: y153 :: y154 :: y155 :: y156 :: y157 :: y158 :: y159 :: y160 :: y161 :: y162 :: y163 :: y164 :: y165 :: y166 :: y167 :: y168 :: y169 :: y170 :: y171 :: y172 :: y173 :: y174 :: y175 :: y176 :: y177 :: y178 :: y179 :: y180 :: y181 :: y182 :: y183 :: y184 :: y185 :: y186 :: y187 :: y188 :: x189 :: x190 :: x191 :: x192 :: x193 :: x194 :: x195 :: x196 :: x197 :: x198 :: x199 :: x200 :: x201 :: x202 :: x203 :: x204 :: x205 :: x206 :: x207 :: x208 :: x209 :: x210 :: x211 :: x212 :: x213 :: x214 :: x215 :: x216 :: x217 :: x218 :: x219 :: x220 :: x221 :: x222 :: x223 :: x224 :: x225 :: x226 :: x227 :: x228 :: x229 :: x230 :: x231 :: x232 :: x233 :: x234 :: x235 :: x236 :: x237 :: x238 :: x239 :: x240 :: x241 :: x242 :: x243 :: x244 :: x245 :: x246 :: x247 :: x248 :: x249 :: x250 :: x251 :: x252 :: x253 :: x254 :: x255 :: x256 :: x257 :: x258 :: x259 :: x260 :: x261 :: x262 :: x263 :: x264 :: x265 :: x266 :: x267 :: x268 :: x269 :: x270 :: x271 :: x272 :: x273 :: x274 :: x275 :: x276 :: x277 :: x278 :: x279 :: x280 :: x281 :: x282 :: x283 :: x284 :: x285 :: x286 :: x287 :: x288 :: x289 :: x290 :: x291 :: x292 :: x293 :: x294 :: x295 :: x296 :: x297 :: x298 :: x299 :: x300 :: x301 :: x302 :: x303 :: x304 :: x305 :: x306 :: x307 :: x308 :: x309 :: x310 :: x311 :: x312 :: x313 :: x314 :: x315 :: x316 :: x317 :: x318 :: x319 :: x320 :: x321 :: x322 :: x323 :: x324 :: x325 :: x326 :: x327 :: x328 :: x329 :: x330 :: x331 :: x332 :: x333 :: x334 :: x335 :: x336 :: x337 :: x338 :: x339 :: x340 :: x341 :: x342 :: x343 :: x344 :: x345 :: x346 :: x347 :: x348 :: x349 :: x350 :: x351 :: x352 :: x353 :: x354 :: x355 :: x356 :: x357 :: x358 :: x359 :: x360 :: x361 :: x362 :: x363 :: x364 :: x365 :: x366 :: x367 :: x368 :: x369 :: x370 :: x371 :: x372 :: x373 :: x374 :: x375 :: x376 :: x377 :: x378 :: x379 :: x380 :: x381 :: x382 :: x383 :: x384 :: x385 :: x386 :: x387 :: x388 :: x389 :: x390 :: x391 :: x392 :: x393 :: x394 :: x395 :: x396 :: []), []⟩ w') :
    Code.wp Try.prog (Code.loop (loop64 3)) Q0 ⟨List.toArray (α := Value) (x0 :: x1 :: x2 :: x3 :: .pointer (some ⟨w.heap.size, 0, none⟩) :: x5 :: x6 :: x7 :: x8 :: x9 :: x10 :: x11 :: .int .u32 (iv (rounds s b 16).a) :: .int .u32 (iv (rounds s b 16).b) :: .int .u32 (iv (rounds s b 16).c) :: .int .u32 (iv (rounds s b 16).d) :: .int .u32 (iv (rounds s b 16).e) :: .int .i64 16 :: x18 :: x19 :: x20 :: x21 :: x22 :: x23 :: x24 :: x25 :: x26 :: x27 :: x28 :: x29 :: x30 :: x31 :: x32 :: x33 :: x34 :: x35 :: x36 :: x37 :: x38 :: x39 :: x40 :: x41 :: x42 :: x43 :: x44 :: x45 :: x46 :: x47 :: x48 :: x49 :: x50 :: x51 :: x52 :: x53 :: x54 :: x55 :: x56 :: x57 :: x58 :: x59 :: x60 :: x61 :: x62 :: x63 :: x64 :: x65 :: x66 :: x67 :: x68 :: x69 :: x70 :: x71 :: x72 :: x73 :: x74 :: x75 :: x76 :: x77 :: x78 :: x79 :: x80 :: x81 :: x82 :: x83 :: x84 :: x85 :: x86 :: x87 :: x88 :: x89 :: x90 :: x91 :: x92 :: x93 :: x94 :: x95 :: x96 :: x97 :: x98 :: x99 :: x100 :: x101 :: x102 :: x103 :: x104 :: x105 :: x106 :: x107 :: x108 :: x109 :: x110 :: x111 :: x112 :: x113 :: x114 :: x115 :: x116 :: x117 :: x118 :: x119 :: x120 :: x121 :: x122 :: x123 :: x124 :: x125 :: x126 :: x127 :: x128 :: x129 :: x130 :: x131 :: x132 :: x133 :: x134 :: x135 :: x136 :: x137 :: x138 :: x139 :: x140 :: x141 :: x142 :: x143 :: x144 :: x145 :: x146 :: x147 :: x148 :: x149 :: x150 :: x151 :: x152 :: x153 :: x154 :: x155 :: x156 :: x157 :: x158 :: x159 :: x160 :: x161 :: x162 :: x163 :: x164 :: x165 :: x166 :: x167 :: x168 :: x169 :: x170 :: x171 :: x172 :: x173 :: x174 :: x175 :: x176 :: x177 :: x178 :: x179 :: x180 :: x181 :: x182 :: x183 :: x184 :: x185 :: x186 :: x187 :: x188 :: x189 :: x190 :: x191 :: x192 :: x193 :: x194 :: x195 :: x196 :: x197 :: x198 :: x199 :: x200 :: x201 :: x202 :: x203 :: x204 :: x205 :: x206 :: x207 :: x208 :: x209 :: x210 :: x211 :: x212 :: x213 :: x214 :: x215 :: x216 :: x217 :: x218 :: x219 :: x220 :: x221 :: x222 :: x223 :: x224 :: x225 :: x226 :: x227 :: x228 :: x229 :: x230 :: x231 :: x232 :: x233 :: x234 :: x235 :: x236 :: x237 :: x238 :: x239 :: x240 :: x241 :: x242 :: x243 :: x244 :: x245 :: x246 :: x247 :: x248 :: x249 :: x250 :: x251 :: x252 :: x253 :: x254 :: x255 :: x256 :: x257 :: x258 :: x259 :: x260 :: x261 :: x262 :: x263 :: x264 :: x265 :: x266 :: x267 :: x268 :: x269 :: x270 :: x271 :: x272 :: x273 :: x274 :: x275 :: x276 :: x277 :: x278 :: x279 :: x280 :: x281 :: x282 :: x283 :: x284 :: x285 :: x286 :: x287 :: x288 :: x289 :: x290 :: x291 :: x292 :: x293 :: x294 :: x295 :: x296 :: x297 :: x298 :: x299 :: x300 :: x301 :: x302 :: x303 :: x304 :: x305 :: x306 :: x307 :: x308 :: x309 :: x310 :: x311 :: x312 :: x313 :: x314 :: x315 :: x316 :: x317 :: x318 :: x319 :: x320 :: x321 :: x322 :: x323 :: x324 :: x325 :: x326 :: x327 :: x328 :: x329 :: x330 :: x331 :: x332 :: x333 :: x334 :: x335 :: x336 :: x337 :: x338 :: x339 :: x340 :: x341 :: x342 :: x343 :: x344 :: x345 :: x346 :: x347 :: x348 :: x349 :: x350 :: x351 :: x352 :: x353 :: x354 :: x355 :: x356 :: x357 :: x358 :: x359 :: x360 :: x361 :: x362 :: x363 :: x364 :: x365 :: x366 :: x367 :: x368 :: x369 :: x370 :: x371 :: x372 :: x373 :: x374 :: x375 :: x376 :: x377 :: x378 :: x379 :: x380 :: x381 :: x382 :: x383 :: x384 :: x385 :: x386 :: x387 :: x388 :: x389 :: x390 :: x391 :: x392 :: x393 :: x394 :: x395 :: x396 :: []), []⟩ wr := by
  conv => arg 2; arg 1; whnf
  go_loopw [12, 13, 14, 15, 16, 17] (fun a1 b1 c1 d1 e1 i wr => ∃ t : Nat, 16 ≤ t ∧ t ≤ 20 ∧ a1 = .int .u32 (iv (rounds s b t).a) ∧ b1 = .int .u32 (iv (rounds s b t).b) ∧ c1 = .int .u32 (iv (rounds s b t).c) ∧ d1 = .int .u32 (iv (rounds s b t).d) ∧ e1 = .int .u32 (iv (rounds s b t).e) ∧ i = .int .i64 t ∧ Hid (G w (ring b t) wr)) (fun _ _ _ _ _ i _ => 20 - (intOf i).toNat)
  case atStart => exact ⟨16, by omega, by omega, rfl, rfl, rfl, rfl, rfl, rfl, I⟩
  case round =>
    clear I
    obtain ⟨t, ht0, ht1, rfl, rfl, rfl, rfl, rfl, rfl, J⟩ := hrel
    by_cases hlt : t < 20
    · have HX := Lib.hid hx
      clear hx
      obtain ⟨v, hv⟩ : ∃ v, rounds s b t = v := ⟨_, rfl⟩
      have HS : Hid (rounds s b (t + 1) = ⟨rot v.a 5 + fch v.b v.c v.d + v.e + 1518500249#32 + W b t, v.a, rot v.b 30, v.c, v.d⟩) := Lib.hid (by
        show step (rounds s b t) (mixF t (rounds s b t).b (rounds s b t).c (rounds s b t).d) (mixK t) (W b t) = _
        rw [hv]
        unfold step mixF mixK
        rw [if_pos (by omega)]
        rw [if_pos (by omega)])
      rw [hv]
      clear hv
      obtain ⟨F, hF⟩ : ∃ F, fch v.b v.c v.d = F := ⟨_, rfl⟩
      obtain ⟨x, hx⟩ : ∃ x, W b t = x := ⟨_, rfl⟩
      have HW := Lib.hid (W_hi b t (by omega))
      rw [hF, hx] at HS
      rw [hx] at HW
      have g1 := iv_and v.b v.c
      have g2 := iv_not v.b
      have g2' := iv_not' v.b
      have g3 := iv_and (~~~ v.b) v.d
      have g4 : bits .or .u32 (iv (v.b &&& v.c)) (iv (~~~ v.b &&& v.d)) = iv (fch v.b v.c v.d) := by rw [iv_or, fch_or]
      have hs : IntKind.u32.signed = false := rfl
      have hm : IntKind.u32.max = 4294967295 := by decide
      rw [hF] at g4
      have HXX := Lib.hid hx
      clear hx hF
      obtain ⟨m3, hm3⟩ : ∃ m : Nat, (t - 3) % 16 = m := ⟨_, rfl⟩
      have n3 : m3 < 16 := by omega
      have p3 : bits .and .i64 ((t : Int) - 3) 15 = (m3 : Int) := by rw [and15 _ (by omega) (by omega)]; omega
      have c3 : wr.cell? ⟨w.heap.size, m3, none⟩ = some (.int .u32 (iv (W b (t - 3)))) := by rw [J.out.row.cell n3, ← hm3, ring_at b t 3 (by omega) (by omega) (by omega)]
      have v3 : IntKind.i64.wrap ((t : Int) - 3) = (t : Int) - 3 := by rw [IntKind.wrap_i64]; omega
      obtain ⟨m8, hm8⟩ : ∃ m : Nat, (t - 8) % 16 = m := ⟨_, rfl⟩
      have n8 : m8 < 16 := by omega
      have p8 : bits .and .i64 ((t : Int) - 8) 15 = (m8 : Int) := by rw [and15 _ (by omega) (by omega)]; omega
      have c8 : wr.cell? ⟨w.heap.size, m8, none⟩ = some (.int .u32 (iv (W b (t - 8)))) := by rw [J.out.row.cell n8, ← hm8, ring_at b t 8 (by omega) (by omega) (by omega)]
      have v8 : IntKind.i64.wrap ((t : Int) - 8) = (t : Int) - 8 := by rw [IntKind.wrap_i64]; omega
      obtain ⟨m14, hm14⟩ : ∃ m : Nat, (t - 14) % 16 = m := ⟨_, rfl⟩
      have n14 : m14 < 16 := by omega
      have p14 : bits .and .i64 ((t : Int) - 14) 15 = (m14 : Int) := by rw [and15 _ (by omega) (by omega)]; omega
      have c14 : wr.cell? ⟨w.heap.size, m14, none⟩ = some (.int .u32 (iv (W b (t - 14)))) := by rw [J.out.row.cell n14, ← hm14, ring_at b t 14 (by omega) (by omega) (by omega)]
      have v14 : IntKind.i64.wrap ((t : Int) - 14) = (t : Int) - 14 := by rw [IntKind.wrap_i64]; omega
      obtain ⟨m16, hm16⟩ : ∃ m : Nat, (t - 16) % 16 = m := ⟨_, rfl⟩
      have n16 : m16 < 16 := by omega
      have p16 : bits .and .i64 ((t : Int)) 15 = (m16 : Int) := by rw [and15 _ (by omega) (by omega)]; omega
      have c16 : wr.cell? ⟨w.heap.size, m16, none⟩ = some (.int .u32 (iv (W b (t - 16)))) := by rw [J.out.row.cell n16, ← hm16, ring_at b t 16 (by omega) (by omega) (by omega)]
      have hmt : t % 16 = m16 := by omega
      have f16 := J.out.row.frozen m16
      have HS' := Lib.hid (fun (wz : World) (h : G w (ring b t) wz) => h.set (f' := ring b (t + 1)) m16 x (fun i hi => by rw [← hmt, ← HXX.out]; exact ring_step b t i (by omega) hi))
      have HME := Lib.hid (show ring b (t + 1) m16 = x by rw [← ring_step b t m16 (by omega) n16, if_pos hmt.symm, HXX.out])
      clear hm3 hm8 hm14 hm16 hmt
      generalize W b (t - 3) = x0 at *
      generalize W b (t - 8) = x1 at *
      generalize W b (t - 14) = x2 at *
      generalize W b (t - 16) = x3 at *
      have hx1 := iv_xor x0 x1
      have hx2 := iv_xor (x0 ^^^ x1) x2
      have hx3 := iv_xor (x0 ^^^ x1 ^^^ x2) x3
      go_wp2
      go_quiet (fail)
      obtain ⟨wz, hz⟩ : ∃ wz, wr.drewN nq = wz := ⟨_, rfl⟩
      replace J := Lib.hid (J.out.drewN nq)
      rw [hz] at J ⊢
      have c := J.out.row.cell n16
      have f := J.out.row.frozen m16
      clear hz c3 c8 c14 c16 f16
      have HR := Lib.hid (rot70_1 (x0 ^^^ x1 ^^^ x2 ^^^ x3))
      rw [← HW.out] at HR
      go_wp2_with (go_at_call 70; refine (HR.out _).mono ?_; rintro e w' ⟨rfl, rfl⟩)
      obtain ⟨wy, hy⟩ : ∃ wy, wz.setCell ⟨w.heap.size, m16, none⟩ (.int .u32 (iv x)) = wy := ⟨_, rfl⟩
      replace J := Lib.hid (HS'.out wz J.out)
      rw [hy] at J ⊢
      clear hy c f HS'
      have c : wy.cell? ⟨w.heap.size, m16, none⟩ = some (.int .u32 (iv x)) := by
        rw [J.out.row.cell n16, HME.out]
      have a1 := iv_add (rot v.a 5) F
      have a2 := iv_add (rot v.a 5 + F) v.e
      have a3 := iv_add (rot v.a 5 + F + v.e) x
      have a4 : (iv (rot v.a 5 + F + v.e + x) + 1518500249) % 4294967296 = iv (rot v.a 5 + F + v.e + 1518500249#32 + x) := by rw [← step_sum]; exact iv_add _ 1518500249#32
      have b1 := iv_addw (rot v.a 5) F
      have b2 := iv_addw (rot v.a 5 + F) v.e
      have b3 := iv_addw (rot v.a 5 + F + v.e) x
      have b4 : IntKind.u32.wrap (iv (rot v.a 5 + F + v.e + x) + 1518500249) = iv (rot v.a 5 + F + v.e + 1518500249#32 + x) := by rw [← step_sum]; exact iv_addw _ 1518500249#32
      go_quiet (refine Calls.quiet_of (rot70q_5 _ _))
      go_wp2_with (go_at_call 70; refine (rot70_30 _ _).mono ?_; rintro e w' ⟨rfl, rfl⟩)
      go_roundw
      case rel => exact ⟨t + 1, by omega, by omega, by rw [HS.out], by rw [HS.out], by rw [HS.out], by rw [HS.out], by rw [HS.out], by go_num, Lib.hid (J.out.drewN _)⟩
      case measure => simp [intOf]; omega
    · obtain rfl : t = 20 := by omega
      go_wp2
      exact J
set_option maxRecDepth 1000000 in
set_option maxHeartbeats 2000000 in
theorem loop64_4 (s : S5) (b : Nat → BitVec 32) (w wr : World) (I : Hid (G w (ring b 20) wr)) (Q0 : Exit → Act → World → Prop) (x0 x1 x2 x3 x5 x6 x7 x8 x9 x10 x11 x18 x19 x20 x21 x22 x23 x24 x25 x26 x27 x28 x29 x30 x31 x32 x33 x34 x35 x36 x37 x38 x39 x40 x41 x42 x43 x44 x45 x46 x47 x48 x49 x50 x51 x52 x53 x54 x55 x56 x57 x58 x59 x60 x61 x62 x63 x64 x65 x66 x67 x68 x69 x70 x71 x72 x73 x74 x75 x76 x77 x78 x79 x80 x81 x82 x83 x84 x85 x86 x87 x88 x89 x90 x91 x92 x93 x94 x95 x96 x97 x98 x99 x100 x101 x102 x103 x104 x105 x106 x107 x108 x109 x110 x111 x112 x113 x114 x115 x116 x117 x118 x119 x120 x121 x122 x123 x124 x125 x126 x127 x128 x129 x130 x131 x132 x133 x134 x135 x136 x137 x138 x139 x140 x141 x142 x143 x144 x145 x146 x147 x148 x149 x150 x151 x152 x153 x154 x155 x156 x157 x158 x159 x160 x161 x162 x163 x164 x165 x166 x167 x168 x169 x170 x171 x172 x173 x174 x175 x176 x177 x178 x179 x180 x181 x182 x183 x184 x185 x186 x187 x188 x189 x190 x191 x192 x193 x194 x195 x196 x197 x198 x199 x200 x201 x202 x203 x204 x205 x206 x207 x208 x209 x210 x211 x212 x213 x214 x215 x216 x217 x218 x219 x220 x221 x222 x223 x224 x225 x226 x227 x228 x229 x230 x231 x232 x233 x234 x235 x236 x237 x238 x239 x240 x241 x242 x243 x244 x245 x246 x247 x248 x249 x250 x251 x252 x253 x254 x255 x256 x257 x258 x259 x260 x261 x262 x263 x264 x265 x266 x267 x268 x269 x270 x271 x272 x273 x274 x275 x276 x277 x278 x279 x280 x281 x282 x283 x284 x285 x286 x287 x288 x289 x290 x291 x292 x293 x294 x295 x296 x297 x298 x299 x300 x301 x302 x303 x304 x305 x306 x307 x308 x309 x310 x311 x312 x313 x314 x315 x316 x317 x318 x319 x320 x321 x322 x323 x324 x325 x326 x327 x328 x329 x330 x331 x332 x333 x334 x335 x336 x337 x338 x339 x340 x341 x342 x343 x344 x345 x346 x347 x348 x349 x350 x351 x352 x353 x354 x355 x356 x357 x358 x359 x360 x361 x362 x363 x364 x365 x366 x367 x368 x369 x370 x371 x372 x373 x374 x375 x376 x377 x378 x379 x380 x381 x382 x383 x384 x385 x386 x387 x388 x389 x390 x391 x392 x393 x394 x395 x396 : Value)
    (hx : ∀ (y23 y24 y25 y189 y190 y191 y192 y193 y194 y195 y196 y197 y198 y199 y200 y201 y202 y203 y204 y205 y206 y207 y208 y209 y210 y211 y212 y213 y214 y215 y216 y217 y218 y219 y220 y221 y222 y223 y224 y225 y226 y227 y228 y229 y230 y231 y232 y233 y234 y235 y236 y237 y238 y239 y240 y241 y242 : Value) (w' : World), Hid (G w (ring b 40) w') → Q0 (.exit 8) ⟨List.toArray (α := Value) (x0 :: x1 :: x2 :: x3 :: .pointer (some ⟨w.heap.size, 0, none⟩) :: x5 :: x6 :: x7 :: x8 :: x9 :: x10 :: x11 :: .int .u32 (iv (rounds s b 40).a) :: .int .u32 (iv (rounds s b 40).b) :: .int .u32 (iv (rounds s b 40).c) :: .int .u32 (iv (rounds s b 40).d) :: .int .u32 (iv (rounds s b 40).e) :: .int .i64 40 :: x18 :: x19 :: x20 :: x21 :: x22 :: y23 :: y24 :: y25 :: x26 :: x27 :: x28 :: x29 :: x30 :: x31 :: x32 :: x33 :: x34 :: x35 :: x36 :: x37 :: x38 :: x39 :: x40 :: x41 :: x42 :: x43 :: x44 :: x45 :: x46 :: x47 :: x48 :: x49 :: x50 :: x51 :: x52 :: x53 :: x54 :: x55 :: x56 :: x57 :: x58 :: x59 :: x60 :: x61 :: x62 :: x63 :: x64 :: x65 :: x66 :: x67 :: x68 :: x69 :: x70 :: x71 :: x72 :: x73 :: x74 :: x75 :: x76 :: x77 :: x78 :: x79 :: x80 :: x81 :: x82 :: x83 :: x84 :: x85 :: x86 :: x87 :: x88 :: x89 :: x90 :: x91 :: x92 :: x93 :: x94 :: x95 :: x96 :: x97 :: x98 :: x99 :: x100 :: x101 :: x102 :: x103 :: x104 :: x105 :: x106 :: x107 :: x108 :: x109 :: x110 :: x111 :: x112 :: x113 :: x114 :: x115 :: x116 :: x117 :: x118 :: x119 :: x120 :: x121 :: x122 :: x123 :: x124 :: x125 :: x126 :: x127 :: x128 :: x129 :: x130 :: x131 :: x132 :: x133 :: x134 :: x135 :: x136 :: x137 :: x138 :: x139 :: x140 :: x141 :: x142 :: x143 :: x144 :: x145 :: x146 :: x147 :: x148 :: x149 :: x150 :: x151 :: x152 :: x153 :: x154 :: x155 :: x156 :: x157 :: x158 :: x159 :: x160 :: x161 :: x162 :: x163 :: x164 :: x165 :: x166 :: x167 :: x168 :: x169 :: x170 :: x171 :: x172 :: x173 :: x174 :: x175 :: x176 :: x177 :: x178 :: x179 :: x180 :: x181 :: x182 :: x183 :: x184 :: x185 :: x186 :: x187 :: x188 :: y189 :: y190 :: y191 :: y192 :: y193 :: y194 :: y195 :: y196 :: y197 :: y198 :: y199 :: y200 :: y201 :: y202 :: y203 :: y204 :: y205 :: y206 :: y207 :: y208 :: y209 :: y210 :: y211 :: y212 :: y213 :: y214 :: y215 :: y216 :: y217 :: y218 :: y219 :: y220 :: y221 :: y222 :: y223 :: y224 :: y225 :: y226 :: y227 :: y228 :: y229 :: y230 :: y231 :: y232 :: y233 :: y234 :: y235 :: y236 :: y237 :: y238 :: y239 :: y240 :: y241 :: y242 :: x243 :: x244 :: x245 :: x246 :: x247 :: x248 :: x249 :: x250 :: x251 :: x252 :: x253 :: x254 :: x255 :: x256 :: x257 :: x258 :: x259 :: x260 :: x261 :: x262 :: x263 :: x264 :: x265 :: x266 :: x267 :: x268 :: x269 :: x270 :: x271 :: x272 :: x273 :: x274 :: x275 :: x276 :: x277 :: x278 :: x279 :: x280 :: x281 :: x282 :: x283 :: x284 :: x285 :: x286 :: x287 :: x288 :: x289 :: x290 :: x291 :: x292 :: x293 :: x294 :: x295 :: x296 :: x297 :: x298 :: x299 :: x300 :: x301 :: x302 :: x303 :: x304 :: x305 :: x306 :: x307 :: x308 :: x309 :: x310 :: x311 :: x312 :: x313 :: x314 :: x315 :: x316 :: x317 :: x318 :: x319 :: x320 :: x321 :: x322 :: x323 :: x324 :: x325 :: x326 :: x327 :: x328 :: x329 :: x330 :: x331 :: x332 :: x333 :: x334 :: x335 :: x336 :: x337 :: x338 :: x339 :: x340 :: x341 :: x342 :: x343 :: x344 :: x345 :: x346 :: x347 :: x348 :: x349 :: x350 :: x351 :: x352 :: x353 :: x354 :: x355 :: x356 :: x357 :: x358 :: x359 :: x360 :: x361 :: x362 :: x363 :: x364 :: x365 :: x366 :: x367 :: x368 :: x369 :: x370 :: x371 :: x372 :: x373 :: x374 :: x375 :: x376 :: x377 :: x378 :: x379 :: x380 :: x381 :: x382 :: x383 :: x384 :: x385 :: x386 :: x387 :: x388 :: x389 :: x390 :: x391 :: x392 :: x393 :: x394 :: x395 :: x396 :: []), []⟩ w') :
    Code.wp Try.prog (Code.loop (loop64 4)) Q0 ⟨List.toArray (α := Value) (x0 :: x1 :: x2 :: x3 :: .pointer (some ⟨w.heap.size, 0, none⟩) :: x5 :: x6 :: x7 :: x8 :: x9 :: x10 :: x11 :: .int .u32 (iv (rounds s b 20).a) :: .int .u32 (iv (rounds s b 20).b) :: .int .u32 (iv (rounds s b 20).c) :: .int .u32 (iv (rounds s b 20).d) :: .int .u32 (iv (rounds s b 20).e) :: .int .i64 20 :: x18 :: x19 :: x20 :: x21 :: x22 :: x23 :: x24 :: x25 :: x26 :: x27 :: x28 :: x29 :: x30 :: x31 :: x32 :: x33 :: x34 :: x35 :: x36 :: x37 :: x38 :: x39 :: x40 :: x41 :: x42 :: x43 :: x44 :: x45 :: x46 :: x47 :: x48 :: x49 :: x50 :: x51 :: x52 :: x53 :: x54 :: x55 :: x56 :: x57 :: x58 :: x59 :: x60 :: x61 :: x62 :: x63 :: x64 :: x65 :: x66 :: x67 :: x68 :: x69 :: x70 :: x71 :: x72 :: x73 :: x74 :: x75 :: x76 :: x77 :: x78 :: x79 :: x80 :: x81 :: x82 :: x83 :: x84 :: x85 :: x86 :: x87 :: x88 :: x89 :: x90 :: x91 :: x92 :: x93 :: x94 :: x95 :: x96 :: x97 :: x98 :: x99 :: x100 :: x101 :: x102 :: x103 :: x104 :: x105 :: x106 :: x107 :: x108 :: x109 :: x110 :: x111 :: x112 :: x113 :: x114 :: x115 :: x116 :: x117 :: x118 :: x119 :: x120 :: x121 :: x122 :: x123 :: x124 :: x125 :: x126 :: x127 :: x128 :: x129 :: x130 :: x131 :: x132 :: x133 :: x134 :: x135 :: x136 :: x137 :: x138 :: x139 :: x140 :: x141 :: x142 :: x143 :: x144 :: x145 :: x146 :: x147 :: x148 :: x149 :: x150 :: x151 :: x152 :: x153 :: x154 :: x155 :: x156 :: x157 :: x158 :: x159 :: x160 :: x161 :: x162 :: x163 :: x164 :: x165 :: x166 :: x167 :: x168 :: x169 :: x170 :: x171 :: x172 :: x173 :: x174 :: x175 :: x176 :: x177 :: x178 :: x179 :: x180 :: x181 :: x182 :: x183 :: x184 :: x185 :: x186 :: x187 :: x188 :: x189 :: x190 :: x191 :: x192 :: x193 :: x194 :: x195 :: x196 :: x197 :: x198 :: x199 :: x200 :: x201 :: x202 :: x203 :: x204 :: x205 :: x206 :: x207 :: x208 :: x209 :: x210 :: x211 :: x212 :: x213 :: x214 :: x215 :: x216 :: x217 :: x218 :: x219 :: x220 :: x221 :: x222 :: x223 :: x224 :: x225 :: x226 :: x227 :: x228 :: x229 :: x230 :: x231 :: x232 :: x233 :: x234 :: x235 :: x236 :: x237 :: x238 :: x239 :: x240 :: x241 :: x242 :: x243 :: x244 :: x245 :: x246 :: x247 :: x248 :: x249 :: x250 :: x251 :: x252 :: x253 :: x254 :: x255 :: x256 :: x257 :: x258 :: x259 :: x260 :: x261 :: x262 :: x263 :: x264 :: x265 :: x266 :: x267 :: x268 :: x269 :: x270 :: x271 :: x272 :: x273 :: x274 :: x275 :: x276 :: x277 :: x278 :: x279 :: x280 :: x281 :: x282 :: x283 :: x284 :: x285 :: x286 :: x287 :: x288 :: x289 :: x290 :: x291 :: x292 :: x293 :: x294 :: x295 :: x296 :: x297 :: x298 :: x299 :: x300 :: x301 :: x302 :: x303 :: x304 :: x305 :: x306 :: x307 :: x308 :: x309 :: x310 :: x311 :: x312 :: x313 :: x314 :: x315 :: x316 :: x317 :: x318 :: x319 :: x320 :: x321 :: x322 :: x323 :: x324 :: x325 :: x326 :: x327 :: x328 :: x329 :: x330 :: x331 :: x332 :: x333 :: x334 :: x335 :: x336 :: x337 :: x338 :: x339 :: x340 :: x341 :: x342 :: x343 :: x344 :: x345 :: x346 :: x347 :: x348 :: x349 :: x350 :: x351 :: x352 :: x353 :: x354 :: x355 :: x356 :: x357 :: x358 :: x359 :: x360 :: x361 :: x362 :: x363 :: x364 :: x365 :: x366 :: x367 :: x368 :: x369 :: x370 :: x371 :: x372 :: x373 :: x374 :: x375 :: x376 :: x377 :: x378 :: x379 :: x380 :: x381 :: x382 :: x383 :: x384 :: x385 :: x386 :: x387 :: x388 :: x389 :: x390 :: x391 :: x392 :: x393 :: x394 :: x395 :: x396 :: []), []⟩ wr := by
  conv => arg 2; arg 1; whnf
  go_loopw [12, 13, 14, 15, 16, 17] (fun a1 b1 c1 d1 e1 i wr => ∃ t : Nat, 20 ≤ t ∧ t ≤ 40 ∧ a1 = .int .u32 (iv (rounds s b t).a) ∧ b1 = .int .u32 (iv (rounds s b t).b) ∧ c1 = .int .u32 (iv (rounds s b t).c) ∧ d1 = .int .u32 (iv (rounds s b t).d) ∧ e1 = .int .u32 (iv (rounds s b t).e) ∧ i = .int .i64 t ∧ Hid (G w (ring b t) wr)) (fun _ _ _ _ _ i _ => 40 - (intOf i).toNat)
  case atStart => exact ⟨20, by omega, by omega, rfl, rfl, rfl, rfl, rfl, rfl, I⟩
  case round =>
    clear I
    obtain ⟨t, ht0, ht1, rfl, rfl, rfl, rfl, rfl, rfl, J⟩ := hrel
    by_cases hlt : t < 40
    · have HX := Lib.hid hx
      clear hx
      obtain ⟨v, hv⟩ : ∃ v, rounds s b t = v := ⟨_, rfl⟩
      have HS : Hid (rounds s b (t + 1) = ⟨rot v.a 5 + fpar v.b v.c v.d + v.e + 1859775393#32 + W b t, v.a, rot v.b 30, v.c, v.d⟩) := Lib.hid (by
        show step (rounds s b t) (mixF t (rounds s b t).b (rounds s b t).c (rounds s b t).d) (mixK t) (W b t) = _
        rw [hv]
        unfold step mixF mixK
        rw [if_neg (by omega), if_pos (by omega)]
        rw [if_neg (by omega), if_pos (by omega)])
      rw [hv]
      clear hv
      obtain ⟨F, hF⟩ : ∃ F, fpar v.b v.c v.d = F := ⟨_, rfl⟩
      obtain ⟨x, hx⟩ : ∃ x, W b t = x := ⟨_, rfl⟩
      have HW := Lib.hid (W_hi b t (by omega))
      rw [hF, hx] at HS
      rw [hx] at HW
      have g1 := iv_xor v.b v.c
      have g2 : bits .xor .u32 (iv (v.b ^^^ v.c)) (iv v.d) = iv (fpar v.b v.c v.d) := iv_xor _ _
      rw [hF] at g2
      have HXX := Lib.hid hx
      clear hx hF
      obtain ⟨m3, hm3⟩ : ∃ m : Nat, (t - 3) % 16 = m := ⟨_, rfl⟩
      have n3 : m3 < 16 := by omega
      have p3 : bits .and .i64 ((t : Int) - 3) 15 = (m3 : Int) := by rw [and15 _ (by omega) (by omega)]; omega
      have c3 : wr.cell? ⟨w.heap.size, m3, none⟩ = some (.int .u32 (iv (W b (t - 3)))) := by rw [J.out.row.cell n3, ← hm3, ring_at b t 3 (by omega) (by omega) (by omega)]
      have v3 : IntKind.i64.wrap ((t : Int) - 3) = (t : Int) - 3 := by rw [IntKind.wrap_i64]; omega
      obtain ⟨m8, hm8⟩ : ∃ m : Nat, (t - 8) % 16 = m := ⟨_, rfl⟩
      have n8 : m8 < 16 := by omega
      have p8 : bits .and .i64 ((t : Int) - 8) 15 = (m8 : Int) := by rw [and15 _ (by omega) (by omega)]; omega
      have c8 : wr.cell? ⟨w.heap.size, m8, none⟩ = some (.int .u32 (iv (W b (t - 8)))) := by rw [J.out.row.cell n8, ← hm8, ring_at b t 8 (by omega) (by omega) (by omega)]
      have v8 : IntKind.i64.wrap ((t : Int) - 8) = (t : Int) - 8 := by rw [IntKind.wrap_i64]; omega
      obtain ⟨m14, hm14⟩ : ∃ m : Nat, (t - 14) % 16 = m := ⟨_, rfl⟩
      have n14 : m14 < 16 := by omega
      have p14 : bits .and .i64 ((t : Int) - 14) 15 = (m14 : Int) := by rw [and15 _ (by omega) (by omega)]; omega
      have c14 : wr.cell? ⟨w.heap.size, m14, none⟩ = some (.int .u32 (iv (W b (t - 14)))) := by rw [J.out.row.cell n14, ← hm14, ring_at b t 14 (by omega) (by omega) (by omega)]
      have v14 : IntKind.i64.wrap ((t : Int) - 14) = (t : Int) - 14 := by rw [IntKind.wrap_i64]; omega
      obtain ⟨m16, hm16⟩ : ∃ m : Nat, (t - 16) % 16 = m := ⟨_, rfl⟩
      have n16 : m16 < 16 := by omega
      have p16 : bits .and .i64 ((t : Int)) 15 = (m16 : Int) := by rw [and15 _ (by omega) (by omega)]; omega
      have c16 : wr.cell? ⟨w.heap.size, m16, none⟩ = some (.int .u32 (iv (W b (t - 16)))) := by rw [J.out.row.cell n16, ← hm16, ring_at b t 16 (by omega) (by omega) (by omega)]
      have hmt : t % 16 = m16 := by omega
      have f16 := J.out.row.frozen m16
      have HS' := Lib.hid (fun (wz : World) (h : G w (ring b t) wz) => h.set (f' := ring b (t + 1)) m16 x (fun i hi => by rw [← hmt, ← HXX.out]; exact ring_step b t i (by omega) hi))
      have HME := Lib.hid (show ring b (t + 1) m16 = x by rw [← ring_step b t m16 (by omega) n16, if_pos hmt.symm, HXX.out])
      clear hm3 hm8 hm14 hm16 hmt
      generalize W b (t - 3) = x0 at *
      generalize W b (t - 8) = x1 at *
      generalize W b (t - 14) = x2 at *
      generalize W b (t - 16) = x3 at *
      have hx1 := iv_xor x0 x1
      have hx2 := iv_xor (x0 ^^^ x1) x2
      have hx3 := iv_xor (x0 ^^^ x1 ^^^ x2) x3
      go_wp2
      go_quiet (fail)
      obtain ⟨wz, hz⟩ : ∃ wz, wr.drewN nq = wz := ⟨_, rfl⟩
      replace J := Lib.hid (J.out.drewN nq)
      rw [hz] at J ⊢
      have c := J.out.row.cell n16
      have f := J.out.row.frozen m16
      clear hz c3 c8 c14 c16 f16
      have HR := Lib.hid (rot70_1 (x0 ^^^ x1 ^^^ x2 ^^^ x3))
      rw [← HW.out] at HR
      go_wp2_with (go_at_call 70; refine (HR.out _).mono ?_; rintro e w' ⟨rfl, rfl⟩)
      obtain ⟨wy, hy⟩ : ∃ wy, wz.setCell ⟨w.heap.size, m16, none⟩ (.int .u32 (iv x)) = wy := ⟨_, rfl⟩
      replace J := Lib.hid (HS'.out wz J.out)
      rw [hy] at J ⊢
      clear hy c f HS'
      have c : wy.cell? ⟨w.heap.size, m16, none⟩ = some (.int .u32 (iv x)) := by
        rw [J.out.row.cell n16, HME.out]
      have a1 := iv_add (rot v.a 5) F
      have a2 := iv_add (rot v.a 5 + F) v.e
      have a3 := iv_add (rot v.a 5 + F + v.e) x
      have a4 : (iv (rot v.a 5 + F + v.e + x) + 1859775393) % 4294967296 = iv (rot v.a 5 + F + v.e + 1859775393#32 + x) := by rw [← step_sum]; exact iv_add _ 1859775393#32
      have b1 := iv_addw (rot v.a 5) F
      have b2 := iv_addw (rot v.a 5 + F) v.e
      have b3 := iv_addw (rot v.a 5 + F + v.e) x
      have b4 : IntKind.u32.wrap (iv (rot v.a 5 + F + v.e + x) + 1859775393) = iv (rot v.a 5 + F + v.e + 1859775393#32 + x) := by rw [← step_sum]; exact iv_addw _ 1859775393#32
      go_quiet (refine Calls.quiet_of (rot70q_5 _ _))
      go_wp2_with (go_at_call 70; refine (rot70_30 _ _).mono ?_; rintro e w' ⟨rfl, rfl⟩)
      go_roundw
      case rel => exact ⟨t + 1, by omega, by omega, by rw [HS.out], by rw [HS.out], by rw [HS.out], by rw [HS.out], by rw [HS.out], by go_num, Lib.hid (J.out.drewN _)⟩
      case measure => simp [intOf]; omega
    · obtain rfl : t = 40 := by omega
      go_wp2
      exact J
set_option maxRecDepth 1000000 in
set_option maxHeartbeats 2000000 in
theorem loop64_5 (s : S5) (b : Nat → BitVec 32) (w wr : World) (I : Hid (G w (ring b 40) wr)) (Q0 : Exit → Act → World → Prop) (x0 x1 x2 x3 x5 x6 x7 x8 x9 x10 x11 x18 x19 x20 x21 x22 x23 x24 x25 x26 x27 x28 x29 x30 x31 x32 x33 x34 x35 x36 x37 x38 x39 x40 x41 x42 x43 x44 x45 x46 x47 x48 x49 x50 x51 x52 x53 x54 x55 x56 x57 x58 x59 x60 x61 x62 x63 x64 x65 x66 x67 x68 x69 x70 x71 x72 x73 x74 x75 x76 x77 x78 x79 x80 x81 x82 x83 x84 x85 x86 x87 x88 x89 x90 x91 x92 x93 x94 x95 x96 x97 x98 x99 x100 x101 x102 x103 x104 x105 x106 x107 x108 x109 x110 x111 x112 x113 x114 x115 x116 x117 x118 x119 x120 x121 x122 x123 x124 x125 x126 x127 x128 x129 x130 x131 x132 x133 x134 x135 x136 x137 x138 x139 x140 x141 x142 x143 x144 x145 x146 x147 x148 x149 x150 x151 x152 x153 x154 x155 x156 x157 x158 x159 x160 x161 x162 x163 x164 x165 x166 x167 x168 x169 x170 x171 x172 x173 x174 x175 x176 x177 x178 x179 x180 x181 x182 x183 x184 x185 x186 x187 x188 x189 x190 x191 x192 x193 x194 x195 x196 x197 x198 x199 x200 x201 x202 x203 x204 x205 x206 x207 x208 x209 x210 x211 x212 x213 x214 x215 x216 x217 x218 x219 x220 x221 x222 x223 x224 x225 x226 x227 x228 x229 x230 x231 x232 x233 x234 x235 x236 x237 x238 x239 x240 x241 x242 x243 x244 x245 x246 x247 x248 x249 x250 x251 x252 x253 x254 x255 x256 x257 x258 x259 x260 x261 x262 x263 x264 x265 x266 x267 x268 x269 x270 x271 x272 x273 x274 x275 x276 x277 x278 x279 x280 x281 x282 x283 x284 x285 x286 x287 x288 x289 x290 x291 x292 x293 x294 x295 x296 x297 x298 x299 x300 x301 x302 x303 x304 x305 x306 x307 x308 x309 x310 x311 x312 x313 x314 x315 x316 x317 x318 x319 x320 x321 x322 x323 x324 x325 x326 x327 x328 x329 x330 x331 x332 x333 x334 x335 x336 x337 x338 x339 x340 x341 x342 x343 x344 x345 x346 x347 x348 x349 x350 x351 x352 x353 x354 x355 x356 x357 x358 x359 x360 x361 x362 x363 x364 x365 x366 x367 x368 x369 x370 x371 x372 x373 x374 x375 x376 x377 x378 x379 x380 x381 x382 x383 x384 x385 x386 x387 x388 x389 x390 x391 x392 x393 x394 x395 x396 : Value)
    (hx : ∀ (y26 y27 y28 y243 y244 y245 y246 y247 y248 y249 y250 y251 y252 y253 y254 y255 y256 y257 y258 y259 y260 y261 y262 y263 y264 y265 y266 y267 y268 y269 y270 y271 y272 y273 y274 y275 y276 y277 y278 y279 y280 y281 y282 y283 y284 y285 y286 y287 y288 y289 y290 y291 y292 y293 y294 y295 y296 y297 y298 y299 y300 : Value) (w' : World), Hid (G w (ring b 60) w') → Q0 (.exit 10) ⟨List.toArray (α := Value) (x0 :: x1 :: x2 :: x3 :: .pointer (some ⟨w.heap.size, 0, none⟩) :: x5 :: x6 :: x7 :: x8 :: x9 :: x10 :: x11 :: .int .u32 (iv (rounds s b 60).a) :: .int .u32 (iv (rounds s b 60).b) :: .int .u32 (iv (rounds s b 60).c) :: .int .u32 (iv (rounds s b 60).d) :: .int .u32 (iv (rounds s b 60).e) :: .int .i64 60 :: x18 :: x19 :: x20 :: x21 :: x22 :: x23 :: x24 :: x25 :: y26 :: y27 :: y28 :: x29 :: x30 :: x31 :: x32 :: x33 :: x34 :: x35 :: x36 :: x37 :: x38 :: x39 :: x40 :: x41 :: x42 :: x43 :: x44 :: x45 :: x46 :: x47 :: x48 :: x49 :: x50 :: x51 :: x52 :: x53 :: x54 :: x55 :: x56 :: x57 :: x58 :: x59 :: x60 :: x61 :: x62 :: x63 :: x64 :: x65 :: x66 :: x67 :: x68 :: x69 :: x70 :: x71 :: x72 :: x73 :: x74 :: x75 :: x76 :: x77 :: x78 :: x79 :: x80 :: x81 :: x82 :: x83 :: x84 :: x85 :: x86 :: x87 :: x88 :: x89 :: x90 :: x91 :: x92 :: x93 :: x94 :: x95 :: x96 :: x97 :: x98 :: x99 :: x100 :: x101 :: x102 :: x103 :: x104 :: x105 :: x106 :: x107 :: x108 :: x109 :: x110 :: x111 :: x112 :: x113 :: x114 :: x115 :: x116 :: x117 :: x118 :: x119 :: x120 :: x121 :: x122 :: x123 :: x124 :: x125 :: x126 :: x127 :: x128 :: x129 :: x130 :: x131 :: x132 :: x133 :: x134 :: x135 :: x136 :: x137 :: x138 :: x139 :: x140 :: x141 :: x142 :: x143 :: x144 :: x145 :: x146 :: x147 :: x148 :: x149 :: x150 :: x151 :: x152 :: x153 :: x154 :: x155 :: x156 :: x157 :: x158 :: x159 :: x160 :: x161 :: x162 :: x163 :: x164 :: x165 :: x166 :: x167 :: x168 :: x169 :: x170 :: x171 :: x172 :: x173 :: x174 :: x175 :: x176 :: x177 :: x178 :: x179 :: x180 :: x181 :: x182 :: x183 :: x184 :: x185 :: x186 :: x187 :: x188 :: x189 :: x190 :: x191 :: x192 :: x193 :: x194 :: x195 :: x196 :: x197 :: x198 :: x199 :: x200 :: x201 :: x202 :: x203 :: x204 :: x205 :: x206 :: x207 :: x208 :: x209 :: x210 :: x211 :: x212 :: x213 :: x214 :: x215 :: x216 :: x217 :: x218 :: x219 :: x220 :: x221 :: x222 :: x223 :: x224 :: x225 :: x226 :: x227 :: x228 :: x229 :: x230 :: x231 :: x232 :: x233 :: x234 :: x235 :: x236 :: x237 :: x238 :: x239 :: x240 :: x241 :: x242 :: y243 :: y244 :: y245 :: y246 :: y247 :: y248 :: y249 :: y250 :: y251 :: y252 :: y253 :: y254 :: y255 :: y256 :: y257 :: y258 :: y259 :: y260 :: y261 :: y262 :: y263 :: y264 :: y265 :: y266 :: y267 :: y268 :: y269 :: y270 :: y271 :: y272 :: y273 :: y274 :: y275 :: y276 :: y277 :: y278 :: y279 :: y280 :: y281 :: y282 :: y283 :: y284 :: y285 :: y286 :: y287 :: y288 :: y289 :: y290 :: y291 :: y292 :: y293 :: y294 :: y295 :: y296 :: y297 :: y298 :: y299 :: y300 :: x301 :: x302 :: x303 :: x304 :: x305 :: x306 :: x307 :: x308 :: x309 :: x310 :: x311 :: x312 :: x313 :: x314 :: x315 :: x316 :: x317 :: x318 :: x319 :: x320 :: x321 :: x322 :: x323 :: x324 :: x325 :: x326 :: x327 :: x328 :: x329 :: x330 :: x331 :: x332 :: x333 :: x334 :: x335 :: x336 :: x337 :: x338 :: x339 :: x340 :: x341 :: x342 :: x343 :: x344 :: x345 :: x346 :: x347 :: x348 :: x349 :: x350 :: x351 :: x352 :: x353 :: x354 :: x355 :: x356 :: x357 :: x358 :: x359 :: x360 :: x361 :: x362 :: x363 :: x364 :: x365 :: x366 :: x367 :: x368 :: x369 :: x370 :: x371 :: x372 :: x373 :: x374 :: x375 :: x376 :: x377 :: x378 :: x379 :: x380 :: x381 :: x382 :: x383 :: x384 :: x385 :: x386 :: x387 :: x388 :: x389 :: x390 :: x391 :: x392 :: x393 :: x394 :: x395 :: x396 :: []), []⟩ w') :
    Code.wp Try.prog (Code.loop (loop64 5)) Q0 ⟨List.toArray (α := Value) (x0 :: x1 :: x2 :: x3 :: .pointer (some ⟨w.heap.size, 0, none⟩) :: x5 :: x6 :: x7 :: x8 :: x9 :: x10 :: x11 :: .int .u32 (iv (rounds s b 40).a) :: .int .u32 (iv (rounds s b 40).b) :: .int .u32 (iv (rounds s b 40).c) :: .int .u32 (iv (rounds s b 40).d) :: .int .u32 (iv (rounds s b 40).e) :: .int .i64 40 :: x18 :: x19 :: x20 :: x21 :: x22 :: x23 :: x24 :: x25 :: x26 :: x27 :: x28 :: x29 :: x30 :: x31 :: x32 :: x33 :: x34 :: x35 :: x36 :: x37 :: x38 :: x39 :: x40 :: x41 :: x42 :: x43 :: x44 :: x45 :: x46 :: x47 :: x48 :: x49 :: x50 :: x51 :: x52 :: x53 :: x54 :: x55 :: x56 :: x57 :: x58 :: x59 :: x60 :: x61 :: x62 :: x63 :: x64 :: x65 :: x66 :: x67 :: x68 :: x69 :: x70 :: x71 :: x72 :: x73 :: x74 :: x75 :: x76 :: x77 :: x78 :: x79 :: x80 :: x81 :: x82 :: x83 :: x84 :: x85 :: x86 :: x87 :: x88 :: x89 :: x90 :: x91 :: x92 :: x93 :: x94 :: x95 :: x96 :: x97 :: x98 :: x99 :: x100 :: x101 :: x102 :: x103 :: x104 :: x105 :: x106 :: x107 :: x108 :: x109 :: x110 :: x111 :: x112 :: x113 :: x114 :: x115 :: x116 :: x117 :: x118 :: x119 :: x120 :: x121 :: x122 :: x123 :: x124 :: x125 :: x126 :: x127 :: x128 :: x129 :: x130 :: x131 :: x132 :: x133 :: x134 :: x135 :: x136 :: x137 :: x138 :: x139 :: x140 :: x141 :: x142 :: x143 :: x144 :: x145 :: x146 :: x147 :: x148 :: x149 :: x150 :: x151 :: x152 :: x153 :: x154 :: x155 :: x156 :: x157 :: x158 :: x159 :: x160 :: x161 :: x162 :: x163 :: x164 :: x165 :: x166 :: x167 :: x168 :: x169 :: x170 :: x171 :: x172 :: x173 :: x174 :: x175 :: x176 :: x177 :: x178 :: x179 :: x180 :: x181 :: x182 :: x183 :: x184 :: x185 :: x186 :: x187 :: x188 :: x189 :: x190 :: x191 :: x192 :: x193 :: x194 :: x195 :: x196 :: x197 :: x198 :: x199 :: x200 :: x201 :: x202 :: x203 :: x204 :: x205 :: x206 :: x207 :: x208 :: x209 :: x210 :: x211 :: x212 :: x213 :: x214 :: x215 :: x216 :: x217 :: x218 :: x219 :: x220 :: x221 :: x222 :: x223 :: x224 :: x225 :: x226 :: x227 :: x228 :: x229 :: x230 :: x231 :: x232 :: x233 :: x234 :: x235 :: x236 :: x237 :: x238 :: x239 :: x240 :: x241 :: x242 :: x243 :: x244 :: x245 :: x246 :: x247 :: x248 :: x249 :: x250 :: x251 :: x252 :: x253 :: x254 :: x255 :: x256 :: x257 :: x258 :: x259 :: x260 :: x261 :: x262 :: x263 :: x264 :: x265 :: x266 :: x267 :: x268 :: x269 :: x270 :: x271 :: x272 :: x273 :: x274 :: x275 :: x276 :: x277 :: x278 :: x279 :: x280 :: x281 :: x282 :: x283 :: x284 :: x285 :: x286 :: x287 :: x288 :: x289 :: x290 :: x291 :: x292 :: x293 :: x294 :: x295 :: x296 :: x297 :: x298 :: x299 :: x300 :: x301 :: x302 :: x303 :: x304 :: x305 :: x306 :: x307 :: x308 :: x309 :: x310 :: x311 :: x312 :: x313 :: x314 :: x315 :: x316 :: x317 :: x318 :: x319 :: x320 :: x321 :: x322 :: x323 :: x324 :: x325 :: x326 :: x327 :: x328 :: x329 :: x330 :: x331 :: x332 :: x333 :: x334 :: x335 :: x336 :: x337 :: x338 :: x339 :: x340 :: x341 :: x342 :: x343 :: x344 :: x345 :: x346 :: x347 :: x348 :: x349 :: x350 :: x351 :: x352 :: x353 :: x354 :: x355 :: x356 :: x357 :: x358 :: x359 :: x360 :: x361 :: x362 :: x363 :: x364 :: x365 :: x366 :: x367 :: x368 :: x369 :: x370 :: x371 :: x372 :: x373 :: x374 :: x375 :: x376 :: x377 :: x378 :: x379 :: x380 :: x381 :: x382 :: x383 :: x384 :: x385 :: x386 :: x387 :: x388 :: x389 :: x390 :: x391 :: x392 :: x393 :: x394 :: x395 :: x396 :: []), []⟩ wr := by
  conv => arg 2; arg 1; whnf
  go_loopw [12, 13, 14, 15, 16, 17] (fun a1 b1 c1 d1 e1 i wr => ∃ t : Nat, 40 ≤ t ∧ t ≤ 60 ∧ a1 = .int .u32 (iv (rounds s b t).a) ∧ b1 = .int .u32 (iv (rounds s b t).b) ∧ c1 = .int .u32 (iv (rounds s b t).c) ∧ d1 = .int .u32 (iv (rounds s b t).d) ∧ e1 = .int .u32 (iv (rounds s b t).e) ∧ i = .int .i64 t ∧ Hid (G w (ring b t) wr)) (fun _ _ _ _ _ i _ => 60 - (intOf i).toNat)
  case atStart => exact ⟨40, by omega, by omega, rfl, rfl, rfl, rfl, rfl, rfl, I⟩
  case round =>
    clear I
    obtain ⟨t, ht0, ht1, rfl, rfl, rfl, rfl, rfl, rfl, J⟩ := hrel
    by_cases hlt : t < 60
    · have HX := Lib.hid hx
      clear hx
      obtain ⟨v, hv⟩ : ∃ v, rounds s b t = v := ⟨_, rfl⟩
      have HS : Hid (rounds s b (t + 1) = ⟨rot v.a 5 + fmaj v.b v.c v.d + v.e + 2400959708#32 + W b t, v.a, rot v.b 30, v.c, v.d⟩) := Lib.hid (by
        show step (rounds s b t) (mixF t (rounds s b t).b (rounds s b t).c (rounds s b t).d) (mixK t) (W b t) = _
        rw [hv]
        unfold step mixF mixK
        rw [if_neg (by omega), if_neg (by omega), if_pos (by omega)]
        rw [if_neg (by omega), if_neg (by omega), if_pos (by omega)])
      rw [hv]
      clear hv
      obtain ⟨F, hF⟩ : ∃ F, fmaj v.b v.c v.d = F := ⟨_, rfl⟩
      obtain ⟨x, hx⟩ : ∃ x, W b t = x := ⟨_, rfl⟩
      have HW := Lib.hid (W_hi b t (by omega))
      rw [hF, hx] at HS
      rw [hx] at HW
      have g1 := iv_or v.b v.c
      have g2 := iv_and (v.b ||| v.c) v.d
      have g3 := iv_and v.b v.c
      have g4 : bits .or .u32 (iv ((v.b ||| v.c) &&& v.d)) (iv (v.b &&& v.c)) = iv (fmaj v.b v.c v.d) := by rw [iv_or, fmaj_or]
      rw [hF] at g4
      have HXX := Lib.hid hx
      clear hx hF
      obtain ⟨m3, hm3⟩ : ∃ m : Nat, (t - 3) % 16 = m := ⟨_, rfl⟩
      have n3 : m3 < 16 := by omega
      have p3 : bits .and .i64 ((t : Int) - 3) 15 = (m3 : Int) := by rw [and15 _ (by omega) (by omega)]; omega
      have c3 : wr.cell? ⟨w.heap.size, m3, none⟩ = some (.int .u32 (iv (W b (t - 3)))) := by rw [J.out.row.cell n3, ← hm3, ring_at b t 3 (by omega) (by omega) (by omega)]
      have v3 : IntKind.i64.wrap ((t : Int) - 3) = (t : Int) - 3 := by rw [IntKind.wrap_i64]; omega
      obtain ⟨m8, hm8⟩ : ∃ m : Nat, (t - 8) % 16 = m := ⟨_, rfl⟩
      have n8 : m8 < 16 := by omega
      have p8 : bits .and .i64 ((t : Int) - 8) 15 = (m8 : Int) := by rw [and15 _ (by omega) (by omega)]; omega
      have c8 : wr.cell? ⟨w.heap.size, m8, none⟩ = some (.int .u32 (iv (W b (t - 8)))) := by rw [J.out.row.cell n8, ← hm8, ring_at b t 8 (by omega) (by omega) (by omega)]
      have v8 : IntKind.i64.wrap ((t : Int) - 8) = (t : Int) - 8 := by rw [IntKind.wrap_i64]; omega
      obtain ⟨m14, hm14⟩ : ∃ m : Nat, (t - 14) % 16 = m := ⟨_, rfl⟩
      have n14 : m14 < 16 := by omega
      have p14 : bits .and .i64 ((t : Int) - 14) 15 = (m14 : Int) := by rw [and15 _ (by omega) (by omega)]; omega
      have c14 : wr.cell? ⟨w.heap.size, m14, none⟩ = some (.int .u32 (iv (W b (t - 14)))) := by rw [J.out.row.cell n14, ← hm14, ring_at b t 14 (by omega) (by omega) (by omega)]
      have v14 : IntKind.i64.wrap ((t : Int) - 14) = (t : Int) - 14 := by rw [IntKind.wrap_i64]; omega
      obtain ⟨m16, hm16⟩ : ∃ m : Nat, (t - 16) % 16 = m := ⟨_, rfl⟩
      have n16 : m16 < 16 := by omega
      have p16 : bits .and .i64 ((t : Int)) 15 = (m16 : Int) := by rw [and15 _ (by omega) (by omega)]; omega
      have c16 : wr.cell? ⟨w.heap.size, m16, none⟩ = some (.int .u32 (iv (W b (t - 16)))) := by rw [J.out.row.cell n16, ← hm16, ring_at b t 16 (by omega) (by omega) (by omega)]
      have hmt : t % 16 = m16 := by omega
      have f16 := J.out.row.frozen m16
      have HS' := Lib.hid (fun (wz : World) (h : G w (ring b t) wz) => h.set (f' := ring b (t + 1)) m16 x (fun i hi => by rw [← hmt, ← HXX.out]; exact ring_step b t i (by omega) hi))
      have HME := Lib.hid (show ring b (t + 1) m16 = x by rw [← ring_step b t m16 (by omega) n16, if_pos hmt.symm, HXX.out])
      clear hm3 hm8 hm14 hm16 hmt
      generalize W b (t - 3) = x0 at *
      generalize W b (t - 8) = x1 at *
      generalize W b (t - 14) = x2 at *
      generalize W b (t - 16) = x3 at *
      have hx1 := iv_xor x0 x1
      have hx2 := iv_xor (x0 ^^^ x1) x2
      have hx3 := iv_xor (x0 ^^^ x1 ^^^ x2) x3
      go_wp2
      go_quiet (fail)
      obtain ⟨wz, hz⟩ : ∃ wz, wr.drewN nq = wz := ⟨_, rfl⟩
      replace J := Lib.hid (J.out.drewN nq)
      rw [hz] at J ⊢
      have c := J.out.row.cell n16
      have f := J.out.row.frozen m16
      clear hz c3 c8 c14 c16 f16
      have HR := Lib.hid (rot70_1 (x0 ^^^ x1 ^^^ x2 ^^^ x3))
      rw [← HW.out] at HR
      go_wp2_with (go_at_call 70; refine (HR.out _).mono ?_; rintro e w' ⟨rfl, rfl⟩)
      obtain ⟨wy, hy⟩ : ∃ wy, wz.setCell ⟨w.heap.size, m16, none⟩ (.int .u32 (iv x)) = wy := ⟨_, rfl⟩
      replace J := Lib.hid (HS'.out wz J.out)
      rw [hy] at J ⊢
      clear hy c f HS'
      have c : wy.cell? ⟨w.heap.size, m16, none⟩ = some (.int .u32 (iv x)) := by
        rw [J.out.row.cell n16, HME.out]
      have a1 := iv_add (rot v.a 5) F
      have a2 := iv_add (rot v.a 5 + F) v.e
      have a3 := iv_add (rot v.a 5 + F + v.e) x
      have a4 : (iv (rot v.a 5 + F + v.e + x) + 2400959708) % 4294967296 = iv (rot v.a 5 + F + v.e + 2400959708#32 + x) := by rw [← step_sum]; exact iv_add _ 2400959708#32
      have b1 := iv_addw (rot v.a 5) F
      have b2 := iv_addw (rot v.a 5 + F) v.e
      have b3 := iv_addw (rot v.a 5 + F + v.e) x
      have b4 : IntKind.u32.wrap (iv (rot v.a 5 + F + v.e + x) + 2400959708) = iv (rot v.a 5 + F + v.e + 2400959708#32 + x) := by rw [← step_sum]; exact iv_addw _ 2400959708#32
      go_quiet (refine Calls.quiet_of (rot70q_5 _ _))
      go_wp2_with (go_at_call 70; refine (rot70_30 _ _).mono ?_; rintro e w' ⟨rfl, rfl⟩)
      go_roundw
      case rel => exact ⟨t + 1, by omega, by omega, by rw [HS.out], by rw [HS.out], by rw [HS.out], by rw [HS.out], by rw [HS.out], by go_num, Lib.hid (J.out.drewN _)⟩
      case measure => simp [intOf]; omega
    · obtain rfl : t = 60 := by omega
      go_wp2
      exact J
set_option maxRecDepth 1000000 in
set_option maxHeartbeats 2000000 in
theorem loop64_6 (s : S5) (b : Nat → BitVec 32) (w wr : World) (I : Hid (G w (ring b 60) wr)) (Q0 : Exit → Act → World → Prop) (x0 x1 x2 x3 x5 x6 x7 x8 x9 x10 x11 x18 x19 x20 x21 x22 x23 x24 x25 x26 x27 x28 x29 x30 x31 x32 x33 x34 x35 x36 x37 x38 x39 x40 x41 x42 x43 x44 x45 x46 x47 x48 x49 x50 x51 x52 x53 x54 x55 x56 x57 x58 x59 x60 x61 x62 x63 x64 x65 x66 x67 x68 x69 x70 x71 x72 x73 x74 x75 x76 x77 x78 x79 x80 x81 x82 x83 x84 x85 x86 x87 x88 x89 x90 x91 x92 x93 x94 x95 x96 x97 x98 x99 x100 x101 x102 x103 x104 x105 x106 x107 x108 x109 x110 x111 x112 x113 x114 x115 x116 x117 x118 x119 x120 x121 x122 x123 x124 x125 x126 x127 x128 x129 x130 x131 x132 x133 x134 x135 x136 x137 x138 x139 x140 x141 x142 x143 x144 x145 x146 x147 x148 x149 x150 x151 x152 x153 x154 x155 x156 x157 x158 x159 x160 x161 x162 x163 x164 x165 x166 x167 x168 x169 x170 x171 x172 x173 x174 x175 x176 x177 x178 x179 x180 x181 x182 x183 x184 x185 x186 x187 x188 x189 x190 x191 x192 x193 x194 x195 x196 x197 x198 x199 x200 x201 x202 x203 x204 x205 x206 x207 x208 x209 x210 x211 x212 x213 x214 x215 x216 x217 x218 x219 x220 x221 x222 x223 x224 x225 x226 x227 x228 x229 x230 x231 x232 x233 x234 x235 x236 x237 x238 x239 x240 x241 x242 x243 x244 x245 x246 x247 x248 x249 x250 x251 x252 x253 x254 x255 x256 x257 x258 x259 x260 x261 x262 x263 x264 x265 x266 x267 x268 x269 x270 x271 x272 x273 x274 x275 x276 x277 x278 x279 x280 x281 x282 x283 x284 x285 x286 x287 x288 x289 x290 x291 x292 x293 x294 x295 x296 x297 x298 x299 x300 x301 x302 x303 x304 x305 x306 x307 x308 x309 x310 x311 x312 x313 x314 x315 x316 x317 x318 x319 x320 x321 x322 x323 x324 x325 x326 x327 x328 x329 x330 x331 x332 x333 x334 x335 x336 x337 x338 x339 x340 x341 x342 x343 x344 x345 x346 x347 x348 x349 x350 x351 x352 x353 x354 x355 x356 x357 x358 x359 x360 x361 x362 x363 x364 x365 x366 x367 x368 x369 x370 x371 x372 x373 x374 x375 x376 x377 x378 x379 x380 x381 x382 x383 x384 x385 x386 x387 x388 x389 x390 x391 x392 x393 x394 x395 x396 : Value)
    (hx : ∀ (y29 y30 y31 y301 y302 y303 y304 y305 y306 y307 y308 y309 y310 y311 y312 y313 y314 y315 y316 y317 y318 y319 y320 y321 y322 y323 y324 y325 y326 y327 y328 y329 y330 y331 y332 y333 y334 y335 y336 y337 y338 y339 y340 y341 y342 y343 y344 y345 y346 y347 y348 y349 y350 y351 y352 y353 y354 : Value) (w' : World), Hid (G w (ring b 80) w') → Q0 (.exit 12) ⟨List.toArray (α := Value) (x0 :: x1 :: x2 :: x3 :: .pointer (some ⟨w.heap.size, 0, none⟩) :: x5 :: x6 :: x7 :: x8 :: x9 :: x10 :: x11 :: .int .u32 (iv (rounds s b 80).a) :: .int .u32 (iv (rounds s b 80).b) :: .int .u32 (iv (rounds s b 80).c) :: .int .u32 (iv (rounds s b 80).d) :: .int .u32 (iv (rounds s b 80).e) :: .int .i64 80 :: x18 :: x19 :: x20 :: x21 :: x22 :: x23 :: x24 :: x25 :: x26 :: x27 :: x28 :: y29 :: y30 :: y31 :: x32 :: x33 :: x34 :: x35 :: x36 :: x37 :: x38 :: x39 :: x40 :: x41 :: x42 :: x43 :: x44 :: x45 :: x46 :: x47 :: x48 :: x49 :: x50 :: x51 :: x52 :: x53 :: x54 :: x55 :: x56 :: x57 :: x58 :: x59 :: x60 :: x61 :: x62 :: x63 :: x64 :: x65 :: x66 :: x67 :: x68 :: x69 :: x70 :: x71 :: x72 :: x73 :: x74 :: x75 :: x76 :: x77 :: x78 :: x79 :: x80 :: x81 :: x82 :: x83 :: x84 :: x85 :: x86 :: x87 :: x88 :: x89 :: x90 :: x91 :: x92 :: x93 :: x94 :: x95 :: x96 :: x97 :: x98 :: x99 :: x100 :: x101 :: x102 :: x103 :: x104 :: x105 :: x106 :: x107 :: x108 :: x109 :: x110 :: x111 :: x112 :: x113 :: x114 :: x115 :: x116 :: x117 :: x118 :: x119 :: x120 :: x121 :: x122 :: x123 :: x124 :: x125 :: x126 :: x127 :: x128 :: x129 :: x130 :: x131 :: x132 :: x133 :: x134 :: x135 :: x136 :: x137 :: x138 :: x139 :: x140 :: x141 :: x142 :: x143 :: x144 :: x145 :: x146 :: x147 :: x148 :: x149 :: x150 :: x151 :: x152 :: x153 :: x154 :: x155 :: x156 :: x157 :: x158 :: x159 :: x160 :: x161 :: x162 :: x163 :: x164 :: x165 :: x166 :: x167 :: x168 :: x169 :: x170 :: x171 :: x172 :: x173 :: x174 :: x175 :: x176 :: x177 :: x178 :: x179 :: x180 :: x181 :: x182 :: x183 :: x184 :: x185 :: x186 :: x187 :: x188 :: x189 :: x190 :: x191 :: x192 :: x193 :: x194 :: x195 :: x196 :: x197 :: x198 :: x199 :: x200 :: x201 :: x202 :: x203 :: x204 :: x205 :: x206 :: x207 :: x208 :: x209 :: x210 :: x211 :: x212 :: x213 :: x214 :: x215 :: x216 :: x217 :: x218 :: x219 :: x220 :: x221 :: x222 :: x223 :: x224 :: x225 :: x226 :: x227 :: x228 :: x229 :: x230 :: x231 :: x232 :: x233 :: x234 :: x235 :: x236 :: x237 :: x238 :: x239 :: x240 :: x241 :: x242 :: x243 :: x244 :: x245 :: x246 :: x247 :: x248 :: x249 :: x250 :: x251 :: x252 :: x253 :: x254 :: x255 :: x256 :: x257 :: x258 :: x259 :: x260 :: x261 :: x262 :: x263 :: x264 :: x265 :: x266 :: x267 :: x268 :: x269 :: x270 :: x271 :: x272 :: x273 :: x274 :: x275 :: x276 :: x277 :: x278 :: x279 :: x280 :: x281 :: x282 :: x283 :: x284 :: x285 :: x286 :: x287 :: x288 :: x289 :: x290 :: x291 :: x292 :: x293 :: x294 :: x295 :: x296 :: x297 :: x298 :: x299 :: x300 :: y301 :: y302 :: y303 :: y304 :: y305 :: y306 :: y307 :: y308 :: y309 :: y310 :: y311 :: y312 :: y313 :: y314 :: y315 :: y316 :: y317 :: y318 :: y319 :: y320 :: y321 :: y322 :: y323 :: y324 :: y325 :: y326 :: y327 :: y328 :: y329 :: y330 :: y331 :: y332 :: y333 :: y334 :: y335 :: y336 :: y337 :: y338 :: y339 :: y340 :: y341 :: y342 :: y343 :: y344 :: y345 :: y346 :: y347 :: y348 :: y349 :: y350 :: y351 :: y352 :: y353 :: y354 :: x355 :: x356 :: x357 :: x358 :: x359 :: x360 :: x361 :: x362 :: x363 :: x364 :: x365 :: x366 :: x367 :: x368 :: x369 :: x370 :: x371 :: x372 :: x373 :: x374 :: x375 :: x376 :: x377 :: x378 :: x379 :: x380 :: x381 :: x382 :: x383 :: x384 :: x385 :: x386 :: x387 :: x388 :: x389 :: x390 :: x391 :: x392 :: x393 :: x394 :: x395 :: x396 :: []), []⟩ w') :
    Code.wp Try.prog (Code.loop (loop64 6)) Q0 ⟨List.toArray (α := Value) (x0 :: x1 :: x2 :: x3 :: .pointer (some ⟨w.heap.size, 0, none⟩) :: x5 :: x6 :: x7 :: x8 :: x9 :: x10 :: x11 :: .int .u32 (iv (rounds s b 60).a) :: .int .u32 (iv (rounds s b 60).b) :: .int .u32 (iv (rounds s b 60).c) :: .int .u32 (iv (rounds s b 60).d) :: .int .u32 (iv (rounds s b 60).e) :: .int .i64 60 :: x18 :: x19 :: x20 :: x21 :: x22 :: x23 :: x24 :: x25 :: x26 :: x27 :: x28 :: x29 :: x30 :: x31 :: x32 :: x33 :: x34 :: x35 :: x36 :: x37 :: x38 :: x39 :: x40 :: x41 :: x42 :: x43 :: x44 :: x45 :: x46 :: x47 :: x48 :: x49 :: x50 :: x51 :: x52 :: x53 :: x54 :: x55 :: x56 :: x57 :: x58 :: x59 :: x60 :: x61 :: x62 :: x63 :: x64 :: x65 :: x66 :: x67 :: x68 :: x69 :: x70 :: x71 :: x72 :: x73 :: x74 :: x75 :: x76 :: x77 :: x78 :: x79 :: x80 :: x81 :: x82 :: x83 :: x84 :: x85 :: x86 :: x87 :: x88 :: x89 :: x90 :: x91 :: x92 :: x93 :: x94 :: x95 :: x96 :: x97 :: x98 :: x99 :: x100 :: x101 :: x102 :: x103 :: x104 :: x105 :: x106 :: x107 :: x108 :: x109 :: x110 :: x111 :: x112 :: x113 :: x114 :: x115 :: x116 :: x117 :: x118 :: x119 :: x120 :: x121 :: x122 :: x123 :: x124 :: x125 :: x126 :: x127 :: x128 :: x129 :: x130 :: x131 :: x132 :: x133 :: x134 :: x135 :: x136 :: x137 :: x138 :: x139 :: x140 :: x141 :: x142 :: x143 :: x144 :: x145 :: x146 :: x147 :: x148 :: x149 :: x150 :: x151 :: x152 :: x153 :: x154 :: x155 :: x156 :: x157 :: x158 :: x159 :: x160 :: x161 :: x162 :: x163 :: x164 :: x165 :: x166 :: x167 :: x168 :: x169 :: x170 :: x171 :: x172 :: x173 :: x174 :: x175 :: x176 :: x177 :: x178 :: x179 :: x180 :: x181 :: x182 :: x183 :: x184 :: x185 :: x186 :: x187 :: x188 :: x189 :: x190 :: x191 :: x192 :: x193 :: x194 :: x195 :: x196 :: x197 :: x198 :: x199 :: x200 :: x201 :: x202 :: x203 :: x204 :: x205 :: x206 :: x207 :: x208 :: x209 :: x210 :: x211 :: x212 :: x213 :: x214 :: x215 :: x216 :: x217 :: x218 :: x219 :: x220 :: x221 :: x222 :: x223 :: x224 :: x225 :: x226 :: x227 :: x228 :: x229 :: x230 :: x231 :: x232 :: x233 :: x234 :: x235 :: x236 :: x237 :: x238 :: x239 :: x240 :: x241 :: x242 :: x243 :: x244 :: x245 :: x246 :: x247 :: x248 :: x249 :: x250 :: x251 :: x252 :: x253 :: x254 :: x255 :: x256 :: x257 :: x258 :: x259 :: x260 :: x261 :: x262 :: x263 :: x264 :: x265 :: x266 :: x267 :: x268 :: x269 :: x270 :: x271 :: x272 :: x273 :: x274 :: x275 :: x276 :: x277 :: x278 :: x279 :: x280 :: x281 :: x282 :: x283 :: x284 :: x285 :: x286 :: x287 :: x288 :: x289 :: x290 :: x291 :: x292 :: x293 :: x294 :: x295 :: x296 :: x297 :: x298 :: x299 :: x300 :: x301 :: x302 :: x303 :: x304 :: x305 :: x306 :: x307 :: x308 :: x309 :: x310 :: x311 :: x312 :: x313 :: x314 :: x315 :: x316 :: x317 :: x318 :: x319 :: x320 :: x321 :: x322 :: x323 :: x324 :: x325 :: x326 :: x327 :: x328 :: x329 :: x330 :: x331 :: x332 :: x333 :: x334 :: x335 :: x336 :: x337 :: x338 :: x339 :: x340 :: x341 :: x342 :: x343 :: x344 :: x345 :: x346 :: x347 :: x348 :: x349 :: x350 :: x351 :: x352 :: x353 :: x354 :: x355 :: x356 :: x357 :: x358 :: x359 :: x360 :: x361 :: x362 :: x363 :: x364 :: x365 :: x366 :: x367 :: x368 :: x369 :: x370 :: x371 :: x372 :: x373 :: x374 :: x375 :: x376 :: x377 :: x378 :: x379 :: x380 :: x381 :: x382 :: x383 :: x384 :: x385 :: x386 :: x387 :: x388 :: x389 :: x390 :: x391 :: x392 :: x393 :: x394 :: x395 :: x396 :: []), []⟩ wr := by
  conv => arg 2; arg 1; whnf
  go_loopw [12, 13, 14, 15, 16, 17] (fun a1 b1 c1 d1 e1 i wr => ∃ t : Nat, 60 ≤ t ∧ t ≤ 80 ∧ a1 = .int .u32 (iv (rounds s b t).a) ∧ b1 = .int .u32 (iv (rounds s b t).b) ∧ c1 = .int .u32 (iv (rounds s b t).c) ∧ d1 = .int .u32 (iv (rounds s b t).d) ∧ e1 = .int .u32 (iv (rounds s b t).e) ∧ i = .int .i64 t ∧ Hid (G w (ring b t) wr)) (fun _ _ _ _ _ i _ => 80 - (intOf i).toNat)
  case atStart => exact ⟨60, by omega, by omega, rfl, rfl, rfl, rfl, rfl, rfl, I⟩
  case round =>
    clear I
    obtain ⟨t, ht0, ht1, rfl, rfl, rfl, rfl, rfl, rfl, J⟩ := hrel
    by_cases hlt : t < 80
    · have HX := Lib.hid hx
      clear hx
      obtain ⟨v, hv⟩ : ∃ v, rounds s b t = v := ⟨_, rfl⟩
      have HS : Hid (rounds s b (t + 1) = ⟨rot v.a 5 + fpar v.b v.c v.d + v.e + 3395469782#32 + W b t, v.a, rot v.b 30, v.c, v.d⟩) := Lib.hid (by
        show step (rounds s b t) (mixF t (rounds s b t).b (rounds s b t).c (rounds s b t).d) (mixK t) (W b t) = _
        rw [hv]
        unfold step mixF mixK
        rw [if_neg (by omega), if_neg (by omega), if_neg (by omega)]
        rw [if_neg (by omega), if_neg (by omega), if_neg (by omega)])
      rw [hv]
      clear hv
      obtain ⟨F, hF⟩ : ∃ F, fpar v.b v.c v.d = F := ⟨_, rfl⟩
      obtain ⟨x, hx⟩ : ∃ x, W b t = x := ⟨_, rfl⟩
      have HW := Lib.hid (W_hi b t (by omega))
      rw [hF, hx] at HS
      rw [hx] at HW
      have g1 := iv_xor v.b v.c
      have g2 : bits .xor .u32 (iv (v.b ^^^ v.c)) (iv v.d) = iv (fpar v.b v.c v.d) := iv_xor _ _
      rw [hF] at g2
      have HXX := Lib.hid hx
      clear hx hF
      obtain ⟨m3, hm3⟩ : ∃ m : Nat, (t - 3) % 16 = m := ⟨_, rfl⟩
      have n3 : m3 < 16 := by omega
      have p3 : bits .and .i64 ((t : Int) - 3) 15 = (m3 : Int) := by rw [and15 _ (by omega) (by omega)]; omega
      have c3 : wr.cell? ⟨w.heap.size, m3, none⟩ = some (.int .u32 (iv (W b (t - 3)))) := by rw [J.out.row.cell n3, ← hm3, ring_at b t 3 (by omega) (by omega) (by omega)]
      have v3 : IntKind.i64.wrap ((t : Int) - 3) = (t : Int) - 3 := by rw [IntKind.wrap_i64]; omega
      obtain ⟨m8, hm8⟩ : ∃ m : Nat, (t - 8) % 16 = m := ⟨_, rfl⟩
      have n8 : m8 < 16 := by omega
      have p8 : bits .and .i64 ((t : Int) - 8) 15 = (m8 : Int) := by rw [and15 _ (by omega) (by omega)]; omega
      have c8 : wr.cell? ⟨w.heap.size, m8, none⟩ = some (.int .u32 (iv (W b (t - 8)))) := by rw [J.out.row.cell n8, ← hm8, ring_at b t 8 (by omega) (by omega) (by omega)]
      have v8 : IntKind.i64.wrap ((t : Int) - 8) = (t : Int) - 8 := by rw [IntKind.wrap_i64]; omega
      obtain ⟨m14, hm14⟩ : ∃ m : Nat, (t - 14) % 16 = m := ⟨_, rfl⟩
      have n14 : m14 < 16 := by omega
      have p14 : bits .and .i64 ((t : Int) - 14) 15 = (m14 : Int) := by rw [and15 _ (by omega) (by omega)]; omega
      have c14 : wr.cell? ⟨w.heap.size, m14, none⟩ = some (.int .u32 (iv (W b (t - 14)))) := by rw [J.out.row.cell n14, ← hm14, ring_at b t 14 (by omega) (by omega) (by omega)]
      have v14 : IntKind.i64.wrap ((t : Int) - 14) = (t : Int) - 14 := by rw [IntKind.wrap_i64]; omega
      obtain ⟨m16, hm16⟩ : ∃ m : Nat, (t - 16) % 16 = m := ⟨_, rfl⟩
      have n16 : m16 < 16 := by omega
      have p16 : bits .and .i64 ((t : Int)) 15 = (m16 : Int) := by rw [and15 _ (by omega) (by omega)]; omega
      have c16 : wr.cell? ⟨w.heap.size, m16, none⟩ = some (.int .u32 (iv (W b (t - 16)))) := by rw [J.out.row.cell n16, ← hm16, ring_at b t 16 (by omega) (by omega) (by omega)]
      have hmt : t % 16 = m16 := by omega
      have f16 := J.out.row.frozen m16
      have HS' := Lib.hid (fun (wz : World) (h : G w (ring b t) wz) => h.set (f' := ring b (t + 1)) m16 x (fun i hi => by rw [← hmt, ← HXX.out]; exact ring_step b t i (by omega) hi))
      have HME := Lib.hid (show ring b (t + 1) m16 = x by rw [← ring_step b t m16 (by omega) n16, if_pos hmt.symm, HXX.out])
      clear hm3 hm8 hm14 hm16 hmt
      generalize W b (t - 3) = x0 at *
      generalize W b (t - 8) = x1 at *
      generalize W b (t - 14) = x2 at *
      generalize W b (t - 16) = x3 at *
      have hx1 := iv_xor x0 x1
      have hx2 := iv_xor (x0 ^^^ x1) x2
      have hx3 := iv_xor (x0 ^^^ x1 ^^^ x2) x3
      go_wp2
      go_quiet (fail)
      obtain ⟨wz, hz⟩ : ∃ wz, wr.drewN nq = wz := ⟨_, rfl⟩
      replace J := Lib.hid (J.out.drewN nq)
      rw [hz] at J ⊢
      have c := J.out.row.cell n16
      have f := J.out.row.frozen m16
      clear hz c3 c8 c14 c16 f16
      have HR := Lib.hid (rot70_1 (x0 ^^^ x1 ^^^ x2 ^^^ x3))
      rw [← HW.out] at HR
      go_wp2_with (go_at_call 70; refine (HR.out _).mono ?_; rintro e w' ⟨rfl, rfl⟩)
      obtain ⟨wy, hy⟩ : ∃ wy, wz.setCell ⟨w.heap.size, m16, none⟩ (.int .u32 (iv x)) = wy := ⟨_, rfl⟩
      replace J := Lib.hid (HS'.out wz J.out)
      rw [hy] at J ⊢
      clear hy c f HS'
      have c : wy.cell? ⟨w.heap.size, m16, none⟩ = some (.int .u32 (iv x)) := by
        rw [J.out.row.cell n16, HME.out]
      have a1 := iv_add (rot v.a 5) F
      have a2 := iv_add (rot v.a 5 + F) v.e
      have a3 := iv_add (rot v.a 5 + F + v.e) x
      have a4 : (iv (rot v.a 5 + F + v.e + x) + 3395469782) % 4294967296 = iv (rot v.a 5 + F + v.e + 3395469782#32 + x) := by rw [← step_sum]; exact iv_add _ 3395469782#32
      have b1 := iv_addw (rot v.a 5) F
      have b2 := iv_addw (rot v.a 5 + F) v.e
      have b3 := iv_addw (rot v.a 5 + F + v.e) x
      have b4 : IntKind.u32.wrap (iv (rot v.a 5 + F + v.e + x) + 3395469782) = iv (rot v.a 5 + F + v.e + 3395469782#32 + x) := by rw [← step_sum]; exact iv_addw _ 3395469782#32
      go_quiet (refine Calls.quiet_of (rot70q_5 _ _))
      go_wp2_with (go_at_call 70; refine (rot70_30 _ _).mono ?_; rintro e w' ⟨rfl, rfl⟩)
      go_roundw
      case rel => exact ⟨t + 1, by omega, by omega, by rw [HS.out], by rw [HS.out], by rw [HS.out], by rw [HS.out], by rw [HS.out], by go_num, Lib.hid (J.out.drewN _)⟩
      case measure => simp [intOf]; omega
    · obtain rfl : t = 80 := by omega
      go_wp2
      exact J
end Go.Proofs.Ytdlimgghcpbkcaa.sha
