/-
  Proved: the contract of sha1.blockGeneric: whole blocks of SHA-1, the schedule's words in a ring of 16.
  Conditions: the slice's cells are bytes; the digest's first five cells hold the state.
-/
import Derived.Test.YtdlimgghcpbkcaaShaH
namespace Go.Proofs.Ytdlimgghcpbkcaa.sha
open Go.RowKit Mem Go.Great
set_option linter.unusedVariables false

set_option maxRecDepth 100000 in
set_option maxHeartbeats 2000000 in
theorem block64 (s : S5) (n L D g o cap : Nat) (b : Nat → BitVec 32) (w : World) (h8 : ∀ i, iv (b i) ≤ 255) (hL0 : 64 * n ≤ L) (hL1 : L < 64 * n + 64) (hcap : L ≤ cap) (hmax : L ≤ 140737488351232)
    (hd : ∀ j, j < 5 → w.cell? ⟨D, j, none⟩ = some (.int .u32 (iv (s.f j)))) (hf : ∀ j, j < 5 → w.frozen? ⟨D, j, none⟩ = false)
    (hb : ∀ i, i < L → w.cell? ⟨g, o + i, none⟩ = some (.int .u8 (iv (b i)))) (hg : g < w.heap.size) :
    Calls Try.prog 64 #[.pointer (some ⟨D, 0, none⟩), .slice (some ⟨g, o, none⟩) L cap] w fun e w' => e = .returned (.tuple #[]) ∧
      ∃ wr, Below w.heap.size w wr ∧ (((((wr.setCell ⟨D, 0, none⟩ (.int .u32 (iv (blocks s b n).a))).setCell ⟨D, 1, none⟩ (.int .u32 (iv (blocks s b n).b))).setCell ⟨D, 2, none⟩ (.int .u32 (iv (blocks s b n).c))).setCell ⟨D, 3, none⟩ (.int .u32 (iv (blocks s b n).d))).setCell ⟨D, 4, none⟩ (.int .u32 (iv (blocks s b n).e))).drew = w' := by
  have hD : D < w.heap.size := block_lt_of_cell (hd 0 (by omega))
  have d0 : w.cell? ⟨D, 0, none⟩ = some (.int .u32 (iv s.a)) := hd 0 (by omega)
  have d1 : w.cell? ⟨D, 1, none⟩ = some (.int .u32 (iv s.b)) := hd 1 (by omega)
  have d2 : w.cell? ⟨D, 2, none⟩ = some (.int .u32 (iv s.c)) := hd 2 (by omega)
  have d3 : w.cell? ⟨D, 3, none⟩ = some (.int .u32 (iv s.d)) := hd 3 (by omega)
  have d4 : w.cell? ⟨D, 4, none⟩ = some (.int .u32 (iv s.e)) := hd 4 (by omega)
  have HB := Lib.hid hb
  have HF := Lib.hid hf
  have HDC := Lib.hid hd
  clear hb hf hd
  go_enter Try.func64, Try.ntmps64
  apply wp_seq_k; intro K0 hK0
  apply wp_region_lit
  refine wpList_runTo rfl (some 4) rfl (.pointer (some ⟨w.heap.size, 0, none⟩)) (w.alloc (.cells (arr 16 (fun _ => 0#32)) 162)) (by as_aux_lemma => kernel_rfl) ?_
  apply wpList_nil
  refine hK0 _ _ ?_
  clear hK0 K0
  obtain ⟨w1, hw1, I1⟩ : ∃ w1, w.alloc (.cells (arr 16 (fun _ => 0#32)) 162) = w1 ∧ Hid (G w (fun _ => 0#32) w1) := by
    have b1 := ((But.refl [] w).alloc (.cells (arr 16 (fun _ => 0#32)) 162))
    exact ⟨_, rfl, Lib.hid ⟨b1.toBelow, by rw [heap_alloc_size]; omega, Go.heap_alloc_new w _⟩⟩
  rw [hw1]
  clear hw1
  replace d0 := (I1.out.bel.cell (p := ⟨D, 0, none⟩) hD).trans d0
  replace d1 := (I1.out.bel.cell (p := ⟨D, 1, none⟩) hD).trans d1
  replace d2 := (I1.out.bel.cell (p := ⟨D, 2, none⟩) hD).trans d2
  replace d3 := (I1.out.bel.cell (p := ⟨D, 3, none⟩) hD).trans d3
  replace d4 := (I1.out.bel.cell (p := ⟨D, 4, none⟩) hD).trans d4
  go_wp2
  go_quiet (fail)
  replace I1 := Lib.hid (I1.out.drewN nq)
  obtain ⟨w2, hw2⟩ : ∃ w2, w1.drewN nq = w2 := ⟨_, rfl⟩
  rw [hw2] at I1 ⊢
  clear hw2 d0 d1 d2 d3 d4 w1
  go_wp2
  go_loopw [1, 5, 6, 7, 8, 9] (fun p h0 h1 h2 h3 h4 wr => ∃ k : Nat, k ≤ n ∧ (∃ ok, p = .slice (some ⟨g, ok, none⟩) (L - 64 * k) (cap - 64 * k) ∧ (64 ≤ L - 64 * k → ok = o + 64 * k)) ∧ h0 = .int .u32 (iv (blocks s b k).a) ∧ h1 = .int .u32 (iv (blocks s b k).b) ∧ h2 = .int .u32 (iv (blocks s b k).c) ∧ h3 = .int .u32 (iv (blocks s b k).d) ∧ h4 = .int .u32 (iv (blocks s b k).e) ∧ ∃ f, Hid (G w f wr)) (fun p _ _ _ _ _ _ => plen p)
  case atStart => exact ⟨0, by omega, ⟨o, rfl, fun _ => rfl⟩, rfl, rfl, rfl, rfl, rfl, _, I1⟩
  case round =>
    clear I1 w2
    obtain ⟨k, hk, ⟨ok, rfl, hok⟩, rfl, rfl, rfl, rfl, rfl, f, I⟩ := hrel
    by_cases hkn : k < n
    · have hk64 : 64 ≤ L - 64 * k := by omega
      replace hok := (hok hk64).symm
      obtain ⟨Lk, hLk⟩ : ∃ Lk, L - 64 * k = Lk := ⟨_, rfl⟩
      obtain ⟨ck, hck⟩ : ∃ ck, cap - 64 * k = ck := ⟨_, rfl⟩
      rw [hLk, hck]
      have hLc : Lk ≤ ck := by omega
      have hLm : Lk ≤ 140737488351232 := by omega
      rw [hLk] at hk64
      have hbk : ∀ i, i < 64 → w.cell? ⟨g, ok + i, none⟩ = some (.int .u8 (iv (b (64 * k + i)))) := fun i hi => by rw [← hok, Nat.add_assoc]; exact HB.out (64 * k + i) (by omega)
      obtain ⟨sk, hsk⟩ : ∃ sk, blocks s b k = sk := ⟨_, rfl⟩
      rw [hsk]
      have HSK := Lib.hid hsk
      have HBK := Lib.hid hbk
      have HOK := Lib.hid hok
      have HLK := Lib.hid hLk
      have HCK := Lib.hid hck
      clear hsk hbk hok hLk hck
      go_wp2
      refine loop64_1 f (fun i => b (64 * k + i)) g ok Lk ck w wr (fun i => h8 _) hk64 hLc hLm hg HBK.out I _ _ _ _ _ _ _ _ _ _ _ _ _ _ _ _ _ _ _ _ _ _ _ _ _ _ _ _ _ _ _ _ _ _ _ _ _ _ _ _ _ _ _ _ _ _ _ _ _ _ _ _ _ _ _ _ _ _ _ _ _ _ _ _ _ _ _ _ _ _ _ _ _ _ _ _ _ _ _ _ _ _ _ _ _ _ _ _ _ _ _ _ _ _ _ _ _ _ _ _ _ _ _ _ _ _ _ _ _ _ _ _ _ _ _ _ _ _ _ _ _ _ _ _ _ _ _ _ _ _ _ _ _ _ _ _ _ _ _ _ _ _ _ _ _ _ _ _ _ _ _ _ _ _ _ _ _ _ _ _ _ _ _ _ _ _ _ _ _ _ _ _ _ _ _ _ _ _ _ _ _ _ _ _ _ _ _ _ _ _ _ _ _ _ _ _ _ _ _ _ _ _ _ _ _ _ _ _ _ _ _ _ _ _ _ _ _ _ _ _ _ _ _ _ _ _ _ _ _ _ _ _ _ _ _ _ _ _ _ _ _ _ _ _ _ _ _ _ _ _ _ _ _ _ _ _ _ _ _ _ _ _ _ _ _ _ _ _ _ _ _ _ _ _ _ _ _ _ _ _ _ _ _ _ _ _ _ _ _ _ _ _ _ _ _ _ _ _ _ _ _ _ _ _ _ _ _ _ _ _ _ _ _ _ _ _ _ _ _ _ _ _ _ _ _ _ _ _ _ _ _ _ _ _ _ _ _ _ _ _ _ _ _ _ _ _ _ _ _ _ _ _ _ _ _ _ _ _ _ _ _ _ _ _ _ _ _ _ _ _ _ _ _ _ _ _ _ _ _ _ _ _ _ _ _ _ _ _ _ _ _ _ _ _ _ ?_
      intro y11 y60 y61 y62 y63 y64 y65 y66 y67 y68 y69 y70 y71 y72 y73 y74 y75 y76 y77 y78 y79 y80 y81 y82 y83 y84 y85 y86 y87 y88 y89 y90 y91 y92 y93 y94 y95 y96 wa I
      go_wp2
      refine loop64_2 sk (fun i => b (64 * k + i)) w _ I _ _ _ _ _ _ _ _ _ _ _ _ _ _ _ _ _ _ _ _ _ _ _ _ _ _ _ _ _ _ _ _ _ _ _ _ _ _ _ _ _ _ _ _ _ _ _ _ _ _ _ _ _ _ _ _ _ _ _ _ _ _ _ _ _ _ _ _ _ _ _ _ _ _ _ _ _ _ _ _ _ _ _ _ _ _ _ _ _ _ _ _ _ _ _ _ _ _ _ _ _ _ _ _ _ _ _ _ _ _ _ _ _ _ _ _ _ _ _ _ _ _ _ _ _ _ _ _ _ _ _ _ _ _ _ _ _ _ _ _ _ _ _ _ _ _ _ _ _ _ _ _ _ _ _ _ _ _ _ _ _ _ _ _ _ _ _ _ _ _ _ _ _ _ _ _ _ _ _ _ _ _ _ _ _ _ _ _ _ _ _ _ _ _ _ _ _ _ _ _ _ _ _ _ _ _ _ _ _ _ _ _ _ _ _ _ _ _ _ _ _ _ _ _ _ _ _ _ _ _ _ _ _ _ _ _ _ _ _ _ _ _ _ _ _ _ _ _ _ _ _ _ _ _ _ _ _ _ _ _ _ _ _ _ _ _ _ _ _ _ _ _ _ _ _ _ _ _ _ _ _ _ _ _ _ _ _ _ _ _ _ _ _ _ _ _ _ _ _ _ _ _ _ _ _ _ _ _ _ _ _ _ _ _ _ _ _ _ _ _ _ _ _ _ _ _ _ _ _ _ _ _ _ _ _ _ _ _ _ _ _ _ _ _ _ _ _ _ _ _ _ _ _ _ _ _ _ _ _ _ _ _ _ _ _ _ _ _ _ _ _ _ _ _ _ _ _ _ _ _ _ _ _ _ _ _ _ _ _ _ _ ?_
      intro y18 y19 y102 y103 y104 y105 y106 y107 y108 y109 y110 y111 y112 y113 y114 y115 y116 y117 y118 y119 y120 y121 y122 y123 y124 y125 y126 y127 y128 y129 y130 y131 wa I
      go_wp2
      refine loop64_3 sk (fun i => b (64 * k + i)) w _ I _ _ _ _ _ _ _ _ _ _ _ _ _ _ _ _ _ _ _ _ _ _ _ _ _ _ _ _ _ _ _ _ _ _ _ _ _ _ _ _ _ _ _ _ _ _ _ _ _ _ _ _ _ _ _ _ _ _ _ _ _ _ _ _ _ _ _ _ _ _ _ _ _ _ _ _ _ _ _ _ _ _ _ _ _ _ _ _ _ _ _ _ _ _ _ _ _ _ _ _ _ _ _ _ _ _ _ _ _ _ _ _ _ _ _ _ _ _ _ _ _ _ _ _ _ _ _ _ _ _ _ _ _ _ _ _ _ _ _ _ _ _ _ _ _ _ _ _ _ _ _ _ _ _ _ _ _ _ _ _ _ _ _ _ _ _ _ _ _ _ _ _ _ _ _ _ _ _ _ _ _ _ _ _ _ _ _ _ _ _ _ _ _ _ _ _ _ _ _ _ _ _ _ _ _ _ _ _ _ _ _ _ _ _ _ _ _ _ _ _ _ _ _ _ _ _ _ _ _ _ _ _ _ _ _ _ _ _ _ _ _ _ _ _ _ _ _ _ _ _ _ _ _ _ _ _ _ _ _ _ _ _ _ _ _ _ _ _ _ _ _ _ _ _ _ _ _ _ _ _ _ _ _ _ _ _ _ _ _ _ _ _ _ _ _ _ _ _ _ _ _ _ _ _ _ _ _ _ _ _ _ _ _ _ _ _ _ _ _ _ _ _ _ _ _ _ _ _ _ _ _ _ _ _ _ _ _ _ _ _ _ _ _ _ _ _ _ _ _ _ _ _ _ _ _ _ _ _ _ _ _ _ _ _ _ _ _ _ _ _ _ _ _ _ _ _ _ _ _ _ _ _ _ _ _ _ _ _ _ _ _ ?_
      intro y20 y21 y22 y132 y133 y134 y135 y136 y137 y138 y139 y140 y141 y142 y143 y144 y145 y146 y147 y148 y149 y150 y151 y152 y153 y154 y155 y156 y157 y158 y159 y160 y161 y162 y163 y164 y165 y166 y167 y168 y169 y170 y171 y172 y173 y174 y175 y176 y177 y178 y179 y180 y181 y182 y183 y184 y185 y186 y187 y188 wa I
      go_wp2
      refine loop64_4 sk (fun i => b (64 * k + i)) w _ I _ _ _ _ _ _ _ _ _ _ _ _ _ _ _ _ _ _ _ _ _ _ _ _ _ _ _ _ _ _ _ _ _ _ _ _ _ _ _ _ _ _ _ _ _ _ _ _ _ _ _ _ _ _ _ _ _ _ _ _ _ _ _ _ _ _ _ _ _ _ _ _ _ _ _ _ _ _ _ _ _ _ _ _ _ _ _ _ _ _ _ _ _ _ _ _ _ _ _ _ _ _ _ _ _ _ _ _ _ _ _ _ _ _ _ _ _ _ _ _ _ _ _ _ _ _ _ _ _ _ _ _ _ _ _ _ _ _ _ _ _ _ _ _ _ _ _ _ _ _ _ _ _ _ _ _ _ _ _ _ _ _ _ _ _ _ _ _ _ _ _ _ _ _ _ _ _ _ _ _ _ _ _ _ _ _ _ _ _ _ _ _ _ _ _ _ _ _ _ _ _ _ _ _ _ _ _ _ _ _ _ _ _ _ _ _ _ _ _ _ _ _ _ _ _ _ _ _ _ _ _ _ _ _ _ _ _ _ _ _ _ _ _ _ _ _ _ _ _ _ _ _ _ _ _ _ _ _ _ _ _ _ _ _ _ _ _ _ _ _ _ _ _ _ _ _ _ _ _ _ _ _ _ _ _ _ _ _ _ _ _ _ _ _ _ _ _ _ _ _ _ _ _ _ _ _ _ _ _ _ _ _ _ _ _ _ _ _ _ _ _ _ _ _ _ _ _ _ _ _ _ _ _ _ _ _ _ _ _ _ _ _ _ _ _ _ _ _ _ _ _ _ _ _ _ _ _ _ _ _ _ _ _ _ _ _ _ _ _ _ _ _ _ _ _ _ _ _ _ _ _ _ _ _ _ _ _ _ _ _ _ ?_
      intro y23 y24 y25 y189 y190 y191 y192 y193 y194 y195 y196 y197 y198 y199 y200 y201 y202 y203 y204 y205 y206 y207 y208 y209 y210 y211 y212 y213 y214 y215 y216 y217 y218 y219 y220 y221 y222 y223 y224 y225 y226 y227 y228 y229 y230 y231 y232 y233 y234 y235 y236 y237 y238 y239 y240 y241 y242 wa I
      go_wp2
      refine loop64_5 sk (fun i => b (64 * k + i)) w _ I _ _ _ _ _ _ _ _ _ _ _ _ _ _ _ _ _ _ _ _ _ _ _ _ _ _ _ _ _ _ _ _ _ _ _ _ _ _ _ _ _ _ _ _ _ _ _ _ _ _ _ _ _ _ _ _ _ _ _ _ _ _ _ _ _ _ _ _ _ _ _ _ _ _ _ _ _ _ _ _ _ _ _ _ _ _ _ _ _ _ _ _ _ _ _ _ _ _ _ _ _ _ _ _ _ _ _ _ _ _ _ _ _ _ _ _ _ _ _ _ _ _ _ _ _ _ _ _ _ _ _ _ _ _ _ _ _ _ _ _ _ _ _ _ _ _ _ _ _ _ _ _ _ _ _ _ _ _ _ _ _ _ _ _ _ _ _ _ _ _ _ _ _ _ _ _ _ _ _ _ _ _ _ _ _ _ _ _ _ _ _ _ _ _ _ _ _ _ _ _ _ _ _ _ _ _ _ _ _ _ _ _ _ _ _ _ _ _ _ _ _ _ _ _ _ _ _ _ _ _ _ _ _ _ _ _ _ _ _ _ _ _ _ _ _ _ _ _ _ _ _ _ _ _ _ _ _ _ _ _ _ _ _ _ _ _ _ _ _ _ _ _ _ _ _ _ _ _ _ _ _ _ _ _ _ _ _ _ _ _ _ _ _ _ _ _ _ _ _ _ _ _ _ _ _ _ _ _ _ _ _ _ _ _ _ _ _ _ _ _ _ _ _ _ _ _ _ _ _ _ _ _ _ _ _ _ _ _ _ _ _ _ _ _ _ _ _ _ _ _ _ _ _ _ _ _ _ _ _ _ _ _ _ _ _ _ _ _ _ _ _ _ _ _ _ _ _ _ _ _ _ _ _ _ _ _ _ _ _ _ _ ?_
      intro y26 y27 y28 y243 y244 y245 y246 y247 y248 y249 y250 y251 y252 y253 y254 y255 y256 y257 y258 y259 y260 y261 y262 y263 y264 y265 y266 y267 y268 y269 y270 y271 y272 y273 y274 y275 y276 y277 y278 y279 y280 y281 y282 y283 y284 y285 y286 y287 y288 y289 y290 y291 y292 y293 y294 y295 y296 y297 y298 y299 y300 wa I
      go_wp2
      refine loop64_6 sk (fun i => b (64 * k + i)) w _ I _ _ _ _ _ _ _ _ _ _ _ _ _ _ _ _ _ _ _ _ _ _ _ _ _ _ _ _ _ _ _ _ _ _ _ _ _ _ _ _ _ _ _ _ _ _ _ _ _ _ _ _ _ _ _ _ _ _ _ _ _ _ _ _ _ _ _ _ _ _ _ _ _ _ _ _ _ _ _ _ _ _ _ _ _ _ _ _ _ _ _ _ _ _ _ _ _ _ _ _ _ _ _ _ _ _ _ _ _ _ _ _ _ _ _ _ _ _ _ _ _ _ _ _ _ _ _ _ _ _ _ _ _ _ _ _ _ _ _ _ _ _ _ _ _ _ _ _ _ _ _ _ _ _ _ _ _ _ _ _ _ _ _ _ _ _ _ _ _ _ _ _ _ _ _ _ _ _ _ _ _ _ _ _ _ _ _ _ _ _ _ _ _ _ _ _ _ _ _ _ _ _ _ _ _ _ _ _ _ _ _ _ _ _ _ _ _ _ _ _ _ _ _ _ _ _ _ _ _ _ _ _ _ _ _ _ _ _ _ _ _ _ _ _ _ _ _ _ _ _ _ _ _ _ _ _ _ _ _ _ _ _ _ _ _ _ _ _ _ _ _ _ _ _ _ _ _ _ _ _ _ _ _ _ _ _ _ _ _ _ _ _ _ _ _ _ _ _ _ _ _ _ _ _ _ _ _ _ _ _ _ _ _ _ _ _ _ _ _ _ _ _ _ _ _ _ _ _ _ _ _ _ _ _ _ _ _ _ _ _ _ _ _ _ _ _ _ _ _ _ _ _ _ _ _ _ _ _ _ _ _ _ _ _ _ _ _ _ _ _ _ _ _ _ _ _ _ _ _ _ _ _ _ _ _ _ _ _ _ _ _ ?_
      intro y29 y30 y31 y301 y302 y303 y304 y305 y306 y307 y308 y309 y310 y311 y312 y313 y314 y315 y316 y317 y318 y319 y320 y321 y322 y323 y324 y325 y326 y327 y328 y329 y330 y331 y332 y333 y334 y335 y336 y337 y338 y339 y340 y341 y342 y343 y344 y345 y346 y347 y348 y349 y350 y351 y352 y353 y354 wa I
      obtain ⟨v, hv⟩ : ∃ v, rounds sk (fun i => b (64 * k + i)) 80 = v := ⟨_, rfl⟩
      rw [hv]
      have HV := Lib.hid (show blocks s b (k + 1) = sk.add v by rw [← hv, ← HSK.out]; rfl)
      clear hv
      have a0 := iv_add sk.a v.a
      have a1 := iv_add sk.b v.b
      have a2 := iv_add sk.c v.c
      have a3 := iv_add sk.d v.d
      have a4 := iv_add sk.e v.e
      go_wp2
      go_roundw
      case rel =>
        have := HOK.out
        have := HLK.out
        have := HCK.out
        refine ⟨k + 1, by omega, ?_, by rw [HV.out]; rfl, by rw [HV.out]; rfl, by rw [HV.out]; rfl, by rw [HV.out]; rfl, by rw [HV.out]; rfl, _, I⟩
        rw [show Lk - 64 = L - 64 * (k + 1) by omega, show ck - 64 = cap - 64 * (k + 1) by omega]
        by_cases h64 : ck = 64
        · rw [if_pos h64]
          exact ⟨_, rfl, fun h => by omega⟩
        · rw [if_neg h64]
          exact ⟨_, rfl, fun h => by omega⟩
      case measure => simp [plen]; omega
    · obtain rfl : k = n := by omega
      have hlow : L - 64 * k < 64 := by omega
      have e0 : wr.cell? ⟨D, 0, none⟩ = _ := (I.out.bel.cell (p := ⟨D, 0, none⟩) hD).trans (HDC.out 0 (by omega))
      have e1 : wr.cell? ⟨D, 1, none⟩ = _ := (I.out.bel.cell (p := ⟨D, 1, none⟩) hD).trans (HDC.out 1 (by omega))
      have e2 : wr.cell? ⟨D, 2, none⟩ = _ := (I.out.bel.cell (p := ⟨D, 2, none⟩) hD).trans (HDC.out 2 (by omega))
      have e3 : wr.cell? ⟨D, 3, none⟩ = _ := (I.out.bel.cell (p := ⟨D, 3, none⟩) hD).trans (HDC.out 3 (by omega))
      have e4 : wr.cell? ⟨D, 4, none⟩ = _ := (I.out.bel.cell (p := ⟨D, 4, none⟩) hD).trans (HDC.out 4 (by omega))
      have f0 : wr.frozen? ⟨D, 0, none⟩ = false := (World.frozen?_of_block (I.out.bel.block D hD)).trans (HF.out 0 (by omega))
      have f1 : wr.frozen? ⟨D, 1, none⟩ = false := (World.frozen?_of_block (I.out.bel.block D hD)).trans (HF.out 1 (by omega))
      have f2 : wr.frozen? ⟨D, 2, none⟩ = false := (World.frozen?_of_block (I.out.bel.block D hD)).trans (HF.out 2 (by omega))
      have f3 : wr.frozen? ⟨D, 3, none⟩ = false := (World.frozen?_of_block (I.out.bel.block D hD)).trans (HF.out 3 (by omega))
      have f4 : wr.frozen? ⟨D, 4, none⟩ = false := (World.frozen?_of_block (I.out.bel.block D hD)).trans (HF.out 4 (by omega))
      clear hok
      generalize L - 64 * k = Lk at *
      go_wp2
      go_region
      go_wp2
      exact ⟨rfl, .tuple #[], by simp [results, Try.results64], rfl, wr, I.out.bel, rfl⟩
end Go.Proofs.Ytdlimgghcpbkcaa.sha
