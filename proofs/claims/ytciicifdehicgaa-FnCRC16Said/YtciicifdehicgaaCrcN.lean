/-
  Proved: plain laws on CRC16: eight bit steps from a byte are one step by the table (no program in sight).
  Conditions: none.
-/
import Derived.WalkKit
import Derived.Laws.BitsAllLaws
namespace Go.Proofs.Ytciicifdehicgaa.crc
def tab : List Nat := [0, 4129, 8258, 12387, 16516, 20645, 24774, 28903, 33032, 37161, 41290, 45419, 49548, 53677, 57806, 61935, 4657, 528, 12915, 8786, 21173, 17044, 29431, 25302, 37689, 33560, 45947, 41818, 54205, 50076, 62463, 58334, 9314, 13379, 1056, 5121, 25830, 29895, 17572, 21637, 42346, 46411, 34088, 38153, 58862, 62927, 50604, 54669, 13907, 9842, 5649, 1584, 30423, 26358, 22165, 18100, 46939, 42874, 38681, 34616, 63455, 59390, 55197, 51132, 18628, 22757, 26758, 30887, 2112, 6241, 10242, 14371, 51660, 55789, 59790, 63919, 35144, 39273, 43274, 47403, 23285, 19156, 31415, 27286, 6769, 2640, 14899, 10770, 56317, 52188, 64447, 60318, 39801, 35672, 47931, 43802, 27814, 31879, 19684, 23749, 11298, 15363, 3168, 7233, 60846, 64911, 52716, 56781, 44330, 48395, 36200, 40265, 32407, 28342, 24277, 20212, 15891, 11826, 7761, 3696, 65439, 61374, 57309, 53244, 48923, 44858, 40793, 36728, 37256, 33193, 45514, 41451, 53516, 49453, 61774, 57711, 4224, 161, 12482, 8419, 20484, 16421, 28742, 24679, 33721, 37784, 41979, 46042, 49981, 54044, 58239, 62302, 689, 4752, 8947, 13010, 16949, 21012, 25207, 29270, 46570, 42443, 38312, 34185, 62830, 58703, 54572, 50445, 13538, 9411, 5280, 1153, 29798, 25671, 21540, 17413, 42971, 47098, 34713, 38840, 59231, 63358, 50973, 55100, 9939, 14066, 1681, 5808, 26199, 30326, 17941, 22068, 55628, 51565, 63758, 59695, 39368, 35305, 47498, 43435, 22596, 18533, 30726, 26663, 6336, 2273, 14466, 10403, 52093, 56156, 60223, 64286, 35833, 39896, 43963, 48026, 19061, 23124, 27191, 31254, 2801, 6864, 10931, 14994, 64814, 60687, 56684, 52557, 48554, 44427, 40424, 36297, 31782, 27655, 23652, 19525, 15522, 11395, 7392, 3265, 61215, 65342, 53085, 57212, 44955, 49082, 36825, 40952, 28183, 32310, 20053, 24180, 11923, 16050, 3793, 7920]
/-- The table's entry. -/
def T (x : BitVec 8) : BitVec 16 := BitVec.ofNat 16 (tab.getD x.toNat 0)
/-- One step by the table. -/
def stepT (c : BitVec 16) (b : BitVec 8) : BitVec 16 := (c <<< 8) ^^^ T ((c >>> 8).setWidth 8 ^^^ b)
/-- One bit's step. -/
def step1 (c : BitVec 16) (b : BitVec 8) (i : Nat) : BitVec 16 := (c <<< 1) ^^^ (if (c.getLsbD 15 != b.getLsbD i) then 4129 else 0)
/-- The first m bits' steps, the greatest bit first. -/
def bitsB (c : BitVec 16) (b : BitVec 8) : Nat → BitVec 16
  | 0 => c
  | m + 1 => step1 (bitsB c b m) b (7 - m)

theorem step1_lin (c d : BitVec 16) (a b : BitVec 8) (i : Nat) : step1 (c ^^^ d) (a ^^^ b) i = step1 c a i ^^^ step1 d b i := by
  unfold step1
  rw [BitVec.shiftLeft_xor_distrib, BitVec.getLsbD_xor, BitVec.getLsbD_xor]
  generalize c <<< 1 = u
  generalize d <<< 1 = v
  have q : u ^^^ v = u ^^^ 4129 ^^^ (v ^^^ 4129) := by
    generalize (4129 : BitVec 16) = p
    ext i h
    simp only [BitVec.getElem_xor]
    cases u[i] <;> cases v[i] <;> cases p[i] <;> rfl
  have q1 : u ^^^ v ^^^ 4129 = u ^^^ 4129 ^^^ v := by ac_rfl
  have q2 : u ^^^ v ^^^ 4129 = u ^^^ (v ^^^ 4129) := by ac_rfl
  cases c.getLsbD 15 <;> cases d.getLsbD 15 <;> cases a.getLsbD i <;> cases b.getLsbD i <;> first | (simp; done) | (simpa using q) | (simpa using q1) | (simpa using q2)
theorem bitsB_lin (c d : BitVec 16) (a b : BitVec 8) (m : Nat) : bitsB (c ^^^ d) (a ^^^ b) m = bitsB c a m ^^^ bitsB d b m := by
  induction m with
  | zero => rfl
  | succ m ih => simp only [bitsB, ih, step1_lin]

theorem by_table : ∀ x : Fin 256, bitsB (((BitVec.ofFin x : BitVec 8).setWidth 16) <<< 8) 0 8 = T (BitVec.ofFin x) := by decide +kernel
theorem by_same : ∀ x : Fin 256, bitsB (((BitVec.ofFin x : BitVec 8).setWidth 16) <<< 8) (BitVec.ofFin x) 8 = 0 := by decide +kernel
theorem by_low : ∀ x : Fin 256, bitsB ((BitVec.ofFin x : BitVec 8).setWidth 16) 0 8 = ((BitVec.ofFin x : BitVec 8).setWidth 16) <<< 8 := by decide +kernel

theorem parts (c : BitVec 16) (b : BitVec 8) : c = ((((c >>> 8).setWidth 8 ^^^ b).setWidth 16) <<< 8) ^^^ ((b.setWidth 16) <<< 8) ^^^ ((c.setWidth 8).setWidth 16) := by
  apply BitVec.eq_of_getLsbD_eq
  intro i h
  simp only [BitVec.getLsbD_xor, BitVec.getLsbD_shiftLeft, BitVec.getLsbD_setWidth, BitVec.getLsbD_ushiftRight]
  by_cases h8 : i < 8
  · simp [h8, h]
  · have e : 8 + (i - 8) = i := by omega
    have h9 : i - 8 < 8 := by omega
    have h7 : i - 8 < 16 := by omega
    simp [h8, h, e, h9, h7]
theorem low (c : BitVec 16) : ((c.setWidth 8).setWidth 16) <<< 8 = c <<< 8 := by
  apply BitVec.eq_of_getLsbD_eq
  intro i h
  simp only [BitVec.getLsbD_shiftLeft, BitVec.getLsbD_setWidth]
  by_cases h8 : i < 8
  · simp [h8]
  · have h9 : i - 8 < 8 := by omega
    have h7 : i - 8 < 16 := by omega
    simp [h8, h, h9, h7]

theorem eight (c : BitVec 16) (b : BitVec 8) : bitsB c b 8 = stepT c b := by
  have e : b = (0 ^^^ b) ^^^ 0 := by simp
  conv => lhs; rw [parts c b, e]
  rw [bitsB_lin, bitsB_lin]
  have h1 := by_table ((c >>> 8).setWidth 8 ^^^ b).toFin
  have h2 := by_same b.toFin
  have h3 := by_low (c.setWidth 8).toFin
  simp only [BitVec.ofFin_toFin] at h1 h2 h3
  rw [← e, h1, h2, h3, low]
  unfold stepT
  simp
  ac_rfl
end Go.Proofs.Ytciicifdehicgaa.crc
