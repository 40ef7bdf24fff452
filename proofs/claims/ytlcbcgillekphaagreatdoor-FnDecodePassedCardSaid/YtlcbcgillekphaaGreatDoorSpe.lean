/-
  Proved: the contracts of the reference's functions on bytes: White, Odd, In, setOf, escaped.
  Conditions: a set from 0 to 13, a kind of token from 0 to 4.
-/
import Derived.Test.YtlcbcgillekphaaGreatDoorGa
import Derived.WalkLawsBesides
import Derived.WalkSpells
import Derived.Outline
namespace Go.Proofs.YtlcbcgillekphaaGreatDoor.spe
open Go.RowKit Mem rw
set_option linter.unusedVariables false

theorem eq_of {c : UInt8} {n : Nat} (h : (c.toNat : Int) = (n : Int)) : c.toNat = n := by omega

theorem white_ (c : UInt8) (w : World) :
    Calls Tryz.prog 40 #[.int .u8 c.toNat] w fun e w' => e = .returned (.bool (dm.white c)) ∧ w = w' := by
  by_cases heq32 : (c.toNat : Int) = 32
  · skip
    have HV := Lib.hid (show dm.white c = true by simp [dm.white, *] <;> omega)
    try clear hodd
    try clear hwhite
    go_enter Tryz.func40, Tryz.ntmps40
    go_wp2_with (first | fail)
    go_ret
    refine ⟨?_, rfl⟩
    rw [HV.out]
    first | rfl | simp [*]
  · have n32 : ((c.toNat : Int) == 32) = false := beq_eq_false_iff_ne.2 heq32
    by_cases heq13 : (c.toNat : Int) = 13
    · skip
      have HV := Lib.hid (show dm.white c = true by simp [dm.white, *] <;> omega)
      try clear hodd
      try clear hwhite
      go_enter Tryz.func40, Tryz.ntmps40
      go_wp2_with (first | fail)
      go_ret
      refine ⟨?_, rfl⟩
      rw [HV.out]
      first | rfl | simp [*]
    · have n13 : ((c.toNat : Int) == 13) = false := beq_eq_false_iff_ne.2 heq13
      by_cases heq10 : (c.toNat : Int) = 10
      · skip
        have HV := Lib.hid (show dm.white c = true by simp [dm.white, *] <;> omega)
        try clear hodd
        try clear hwhite
        go_enter Tryz.func40, Tryz.ntmps40
        go_wp2_with (first | fail)
        go_ret
        refine ⟨?_, rfl⟩
        rw [HV.out]
        first | rfl | simp [*]
      · have n10 : ((c.toNat : Int) == 10) = false := beq_eq_false_iff_ne.2 heq10
        have HV := Lib.hid (show dm.white c = false by simp [dm.white, *] <;> omega)
        try clear hodd
        try clear hwhite
        go_enter Tryz.func40, Tryz.ntmps40
        go_wp2_with (first | fail)
        go_ret
        refine ⟨?_, rfl⟩
        rw [HV.out]
        first | rfl | simp [*]
theorem odd_ (c : UInt8) (w : World) :
    Calls Tryz.prog 41 #[.int .u8 c.toNat] w fun e w' => e = .returned (.bool (dm.odd c)) ∧ w = w' := by
  by_cases hlt32 : (c.toNat : Int) < 32
  · skip
    have HV := Lib.hid (show dm.odd c = true by simp [dm.odd, *] <;> omega)
    try clear hodd
    try clear hwhite
    go_enter Tryz.func41, Tryz.ntmps41
    go_wp2_with (first | fail)
    go_ret
    refine ⟨?_, rfl⟩
    rw [HV.out]
    first | rfl | simp [*]
  · skip
    by_cases heq127 : (c.toNat : Int) = 127
    · skip
      have HV := Lib.hid (show dm.odd c = true by simp [dm.odd, *] <;> omega)
      try clear hodd
      try clear hwhite
      go_enter Tryz.func41, Tryz.ntmps41
      go_wp2_with (first | fail)
      go_ret
      refine ⟨?_, rfl⟩
      rw [HV.out]
      first | rfl | simp [*]
    · have n127 : ((c.toNat : Int) == 127) = false := beq_eq_false_iff_ne.2 heq127
      have HV := Lib.hid (show dm.odd c = false by simp [dm.odd, *] <;> omega)
      try clear hodd
      try clear hwhite
      go_enter Tryz.func41, Tryz.ntmps41
      go_wp2_with (first | fail)
      go_ret
      refine ⟨?_, rfl⟩
      rw [HV.out]
      first | rfl | simp [*]
set_option maxHeartbeats 1000000 in
theorem in_0 (c : UInt8) (w : World) :
    Calls Tryz.prog 20 #[.int .i64 0, .int .u8 c.toNat] w fun e w' => e = .returned (.bool (dm.inS 0 c)) ∧ w = w' := by
  by_cases heq32 : (c.toNat : Int) = 32
  · skip
    have HV := Lib.hid (show dm.inS 0 c = true by simp [dm.inS, *] <;> omega)
    try clear hodd
    try clear hwhite
    go_enter Tryz.func20, Tryz.ntmps20
    go_wp2_with (first | fail)
    go_ret
    refine ⟨?_, rfl⟩
    rw [HV.out]
    first | rfl | simp [*]
  · have n32 : ((c.toNat : Int) == 32) = false := beq_eq_false_iff_ne.2 heq32
    have HV := Lib.hid (show dm.inS 0 c = false by simp [dm.inS, *] <;> omega)
    try clear hodd
    try clear hwhite
    go_enter Tryz.func20, Tryz.ntmps20
    go_wp2_with (first | fail)
    go_ret
    refine ⟨?_, rfl⟩
    rw [HV.out]
    first | rfl | simp [*]
set_option maxHeartbeats 1000000 in
theorem in_1 (c : UInt8) (w : World) :
    Calls Tryz.prog 20 #[.int .i64 1, .int .u8 c.toNat] w fun e w' => e = .returned (.bool (dm.inS 1 c)) ∧ w = w' := by
  cases hwhite : dm.white c with
  | true =>
    have HV := Lib.hid (show dm.inS 1 c = true by simp [dm.inS, *] <;> omega)
    have HWhite := Lib.hid (white_ c w)
    try rw [hwhite] at HWhite
    try clear hodd
    try clear hwhite
    go_enter Tryz.func20, Tryz.ntmps20
    go_wp2_with (first | fail | (go_at_call 40; refine HWhite.out.mono ?_; rintro e w' ⟨rfl, rfl⟩))
    go_ret
    refine ⟨?_, rfl⟩
    rw [HV.out]
    first | rfl | simp [*]
  | false =>
    have HV := Lib.hid (show dm.inS 1 c = false by simp [dm.inS, *] <;> omega)
    have HWhite := Lib.hid (white_ c w)
    try rw [hwhite] at HWhite
    try clear hodd
    try clear hwhite
    go_enter Tryz.func20, Tryz.ntmps20
    go_wp2_with (first | fail | (go_at_call 40; refine HWhite.out.mono ?_; rintro e w' ⟨rfl, rfl⟩))
    go_ret
    refine ⟨?_, rfl⟩
    rw [HV.out]
    first | rfl | simp [*]
set_option maxHeartbeats 1000000 in
theorem in_2 (c : UInt8) (w : World) :
    Calls Tryz.prog 20 #[.int .i64 2, .int .u8 c.toNat] w fun e w' => e = .returned (.bool (dm.inS 2 c)) ∧ w = w' := by
  by_cases heq44 : (c.toNat : Int) = 44
  · skip
    have HV := Lib.hid (show dm.inS 2 c = false by simp [dm.inS, *] <;> omega)
    have HOdd := Lib.hid (odd_ c w)
    try rw [hodd] at HOdd
    try clear hodd
    try clear hwhite
    go_enter Tryz.func20, Tryz.ntmps20
    go_wp2_with (first | fail | (go_at_call 41; refine HOdd.out.mono ?_; rintro e w' ⟨rfl, rfl⟩))
    go_ret
    refine ⟨?_, rfl⟩
    rw [HV.out]
    first | rfl | simp [*]
  · have n44 : ((c.toNat : Int) == 44) = false := beq_eq_false_iff_ne.2 heq44
    by_cases heq61 : (c.toNat : Int) = 61
    · skip
      have HV := Lib.hid (show dm.inS 2 c = false by simp [dm.inS, *] <;> omega)
      have HOdd := Lib.hid (odd_ c w)
      try rw [hodd] at HOdd
      try clear hodd
      try clear hwhite
      go_enter Tryz.func20, Tryz.ntmps20
      go_wp2_with (first | fail | (go_at_call 41; refine HOdd.out.mono ?_; rintro e w' ⟨rfl, rfl⟩))
      go_ret
      refine ⟨?_, rfl⟩
      rw [HV.out]
      first | rfl | simp [*]
    · have n61 : ((c.toNat : Int) == 61) = false := beq_eq_false_iff_ne.2 heq61
      by_cases heq32 : (c.toNat : Int) = 32
      · skip
        have HV := Lib.hid (show dm.inS 2 c = false by simp [dm.inS, *] <;> omega)
        have HOdd := Lib.hid (odd_ c w)
        try rw [hodd] at HOdd
        try clear hodd
        try clear hwhite
        go_enter Tryz.func20, Tryz.ntmps20
        go_wp2_with (first | fail | (go_at_call 41; refine HOdd.out.mono ?_; rintro e w' ⟨rfl, rfl⟩))
        go_ret
        refine ⟨?_, rfl⟩
        rw [HV.out]
        first | rfl | simp [*]
      · have n32 : ((c.toNat : Int) == 32) = false := beq_eq_false_iff_ne.2 heq32
        cases hodd : dm.odd c with
        | true =>
          have HV := Lib.hid (show dm.inS 2 c = false by simp [dm.inS, *] <;> omega)
          have HOdd := Lib.hid (odd_ c w)
          try rw [hodd] at HOdd
          try clear hodd
          try clear hwhite
          go_enter Tryz.func20, Tryz.ntmps20
          go_wp2_with (first | fail | (go_at_call 41; refine HOdd.out.mono ?_; rintro e w' ⟨rfl, rfl⟩))
          go_ret
          refine ⟨?_, rfl⟩
          rw [HV.out]
          first | rfl | simp [*]
        | false =>
          have HV := Lib.hid (show dm.inS 2 c = true by simp [dm.inS, *] <;> omega)
          have HOdd := Lib.hid (odd_ c w)
          try rw [hodd] at HOdd
          try clear hodd
          try clear hwhite
          go_enter Tryz.func20, Tryz.ntmps20
          go_wp2_with (first | fail | (go_at_call 41; refine HOdd.out.mono ?_; rintro e w' ⟨rfl, rfl⟩))
          go_ret
          refine ⟨?_, rfl⟩
          rw [HV.out]
          first | rfl | simp [*]
set_option maxHeartbeats 1000000 in
theorem in_3 (c : UInt8) (w : World) :
    Calls Tryz.prog 20 #[.int .i64 3, .int .u8 c.toNat] w fun e w' => e = .returned (.bool (dm.inS 3 c)) ∧ w = w' := by
  cases hodd : dm.odd c with
  | true =>
    have HV := Lib.hid (show dm.inS 3 c = true by simp [dm.inS, *] <;> omega)
    have HOdd := Lib.hid (odd_ c w)
    try rw [hodd] at HOdd
    try clear hodd
    try clear hwhite
    go_enter Tryz.func20, Tryz.ntmps20
    go_wp2_with (first | fail | (go_at_call 41; refine HOdd.out.mono ?_; rintro e w' ⟨rfl, rfl⟩))
    go_ret
    refine ⟨?_, rfl⟩
    rw [HV.out]
    first | rfl | simp [*]
  | false =>
    have HV := Lib.hid (show dm.inS 3 c = false by simp [dm.inS, *] <;> omega)
    have HOdd := Lib.hid (odd_ c w)
    try rw [hodd] at HOdd
    try clear hodd
    try clear hwhite
    go_enter Tryz.func20, Tryz.ntmps20
    go_wp2_with (first | fail | (go_at_call 41; refine HOdd.out.mono ?_; rintro e w' ⟨rfl, rfl⟩))
    go_ret
    refine ⟨?_, rfl⟩
    rw [HV.out]
    first | rfl | simp [*]
set_option maxHeartbeats 1000000 in
theorem in_4 (c : UInt8) (w : World) :
    Calls Tryz.prog 20 #[.int .i64 4, .int .u8 c.toNat] w fun e w' => e = .returned (.bool (dm.inS 4 c)) ∧ w = w' := by
  by_cases heq13 : (c.toNat : Int) = 13
  · skip
    have HV := Lib.hid (show dm.inS 4 c = true by simp [dm.inS, *] <;> omega)
    try clear hodd
    try clear hwhite
    go_enter Tryz.func20, Tryz.ntmps20
    go_wp2_with (first | fail)
    go_ret
    refine ⟨?_, rfl⟩
    rw [HV.out]
    first | rfl | simp [*]
  · have n13 : ((c.toNat : Int) == 13) = false := beq_eq_false_iff_ne.2 heq13
    by_cases heq10 : (c.toNat : Int) = 10
    · skip
      have HV := Lib.hid (show dm.inS 4 c = true by simp [dm.inS, *] <;> omega)
      try clear hodd
      try clear hwhite
      go_enter Tryz.func20, Tryz.ntmps20
      go_wp2_with (first | fail)
      go_ret
      refine ⟨?_, rfl⟩
      rw [HV.out]
      first | rfl | simp [*]
    · have n10 : ((c.toNat : Int) == 10) = false := beq_eq_false_iff_ne.2 heq10
      have HV := Lib.hid (show dm.inS 4 c = false by simp [dm.inS, *] <;> omega)
      try clear hodd
      try clear hwhite
      go_enter Tryz.func20, Tryz.ntmps20
      go_wp2_with (first | fail)
      go_ret
      refine ⟨?_, rfl⟩
      rw [HV.out]
      first | rfl | simp [*]
set_option maxHeartbeats 1000000 in
theorem in_5 (c : UInt8) (w : World) :
    Calls Tryz.prog 20 #[.int .i64 5, .int .u8 c.toNat] w fun e w' => e = .returned (.bool (dm.inS 5 c)) ∧ w = w' := by
  by_cases heq44 : (c.toNat : Int) = 44
  · skip
    have HV := Lib.hid (show dm.inS 5 c = false by simp [dm.inS, *] <;> omega)
    have HOdd := Lib.hid (odd_ c w)
    try rw [hodd] at HOdd
    try clear hodd
    try clear hwhite
    go_enter Tryz.func20, Tryz.ntmps20
    go_wp2_with (first | fail | (go_at_call 41; refine HOdd.out.mono ?_; rintro e w' ⟨rfl, rfl⟩))
    go_ret
    refine ⟨?_, rfl⟩
    rw [HV.out]
    first | rfl | simp [*]
  · have n44 : ((c.toNat : Int) == 44) = false := beq_eq_false_iff_ne.2 heq44
    by_cases heq32 : (c.toNat : Int) = 32
    · skip
      have HV := Lib.hid (show dm.inS 5 c = false by simp [dm.inS, *] <;> omega)
      have HOdd := Lib.hid (odd_ c w)
      try rw [hodd] at HOdd
      try clear hodd
      try clear hwhite
      go_enter Tryz.func20, Tryz.ntmps20
      go_wp2_with (first | fail | (go_at_call 41; refine HOdd.out.mono ?_; rintro e w' ⟨rfl, rfl⟩))
      go_ret
      refine ⟨?_, rfl⟩
      rw [HV.out]
      first | rfl | simp [*]
    · have n32 : ((c.toNat : Int) == 32) = false := beq_eq_false_iff_ne.2 heq32
      cases hodd : dm.odd c with
      | true =>
        have HV := Lib.hid (show dm.inS 5 c = false by simp [dm.inS, *] <;> omega)
        have HOdd := Lib.hid (odd_ c w)
        try rw [hodd] at HOdd
        try clear hodd
        try clear hwhite
        go_enter Tryz.func20, Tryz.ntmps20
        go_wp2_with (first | fail | (go_at_call 41; refine HOdd.out.mono ?_; rintro e w' ⟨rfl, rfl⟩))
        go_ret
        refine ⟨?_, rfl⟩
        rw [HV.out]
        first | rfl | simp [*]
      | false =>
        have HV := Lib.hid (show dm.inS 5 c = true by simp [dm.inS, *] <;> omega)
        have HOdd := Lib.hid (odd_ c w)
        try rw [hodd] at HOdd
        try clear hodd
        try clear hwhite
        go_enter Tryz.func20, Tryz.ntmps20
        go_wp2_with (first | fail | (go_at_call 41; refine HOdd.out.mono ?_; rintro e w' ⟨rfl, rfl⟩))
        go_ret
        refine ⟨?_, rfl⟩
        rw [HV.out]
        first | rfl | simp [*]
set_option maxHeartbeats 1000000 in
theorem in_6 (c : UInt8) (w : World) :
    Calls Tryz.prog 20 #[.int .i64 6, .int .u8 c.toNat] w fun e w' => e = .returned (.bool (dm.inS 6 c)) ∧ w = w' := by
  by_cases heq44 : (c.toNat : Int) = 44
  · skip
    have HV := Lib.hid (show dm.inS 6 c = false by simp [dm.inS, *] <;> omega)
    have HOdd := Lib.hid (odd_ c w)
    try rw [hodd] at HOdd
    try clear hodd
    try clear hwhite
    go_enter Tryz.func20, Tryz.ntmps20
    go_wp2_with (first | fail | (go_at_call 41; refine HOdd.out.mono ?_; rintro e w' ⟨rfl, rfl⟩))
    go_ret
    refine ⟨?_, rfl⟩
    rw [HV.out]
    first | rfl | simp [*]
  · have n44 : ((c.toNat : Int) == 44) = false := beq_eq_false_iff_ne.2 heq44
    by_cases heq61 : (c.toNat : Int) = 61
    · skip
      have HV := Lib.hid (show dm.inS 6 c = false by simp [dm.inS, *] <;> omega)
      have HOdd := Lib.hid (odd_ c w)
      try rw [hodd] at HOdd
      try clear hodd
      try clear hwhite
      go_enter Tryz.func20, Tryz.ntmps20
      go_wp2_with (first | fail | (go_at_call 41; refine HOdd.out.mono ?_; rintro e w' ⟨rfl, rfl⟩))
      go_ret
      refine ⟨?_, rfl⟩
      rw [HV.out]
      first | rfl | simp [*]
    · have n61 : ((c.toNat : Int) == 61) = false := beq_eq_false_iff_ne.2 heq61
      by_cases heq32 : (c.toNat : Int) = 32
      · skip
        have HV := Lib.hid (show dm.inS 6 c = false by simp [dm.inS, *] <;> omega)
        have HOdd := Lib.hid (odd_ c w)
        try rw [hodd] at HOdd
        try clear hodd
        try clear hwhite
        go_enter Tryz.func20, Tryz.ntmps20
        go_wp2_with (first | fail | (go_at_call 41; refine HOdd.out.mono ?_; rintro e w' ⟨rfl, rfl⟩))
        go_ret
        refine ⟨?_, rfl⟩
        rw [HV.out]
        first | rfl | simp [*]
      · have n32 : ((c.toNat : Int) == 32) = false := beq_eq_false_iff_ne.2 heq32
        cases hodd : dm.odd c with
        | true =>
          have HV := Lib.hid (show dm.inS 6 c = false by simp [dm.inS, *] <;> omega)
          have HOdd := Lib.hid (odd_ c w)
          try rw [hodd] at HOdd
          try clear hodd
          try clear hwhite
          go_enter Tryz.func20, Tryz.ntmps20
          go_wp2_with (first | fail | (go_at_call 41; refine HOdd.out.mono ?_; rintro e w' ⟨rfl, rfl⟩))
          go_ret
          refine ⟨?_, rfl⟩
          rw [HV.out]
          first | rfl | simp [*]
        | false =>
          have HV := Lib.hid (show dm.inS 6 c = true by simp [dm.inS, *] <;> omega)
          have HOdd := Lib.hid (odd_ c w)
          try rw [hodd] at HOdd
          try clear hodd
          try clear hwhite
          go_enter Tryz.func20, Tryz.ntmps20
          go_wp2_with (first | fail | (go_at_call 41; refine HOdd.out.mono ?_; rintro e w' ⟨rfl, rfl⟩))
          go_ret
          refine ⟨?_, rfl⟩
          rw [HV.out]
          first | rfl | simp [*]
set_option maxHeartbeats 1000000 in
theorem in_7 (c : UInt8) (w : World) :
    Calls Tryz.prog 20 #[.int .i64 7, .int .u8 c.toNat] w fun e w' => e = .returned (.bool (dm.inS 7 c)) ∧ w = w' := by
  by_cases heq44 : (c.toNat : Int) = 44
  · skip
    have HV := Lib.hid (show dm.inS 7 c = false by simp [dm.inS, *] <;> omega)
    have HOdd := Lib.hid (odd_ c w)
    try rw [hodd] at HOdd
    try clear hodd
    try clear hwhite
    go_enter Tryz.func20, Tryz.ntmps20
    go_wp2_with (first | fail | (go_at_call 41; refine HOdd.out.mono ?_; rintro e w' ⟨rfl, rfl⟩))
    go_ret
    refine ⟨?_, rfl⟩
    rw [HV.out]
    first | rfl | simp [*]
  · have n44 : ((c.toNat : Int) == 44) = false := beq_eq_false_iff_ne.2 heq44
    by_cases heq61 : (c.toNat : Int) = 61
    · skip
      have HV := Lib.hid (show dm.inS 7 c = false by simp [dm.inS, *] <;> omega)
      have HOdd := Lib.hid (odd_ c w)
      try rw [hodd] at HOdd
      try clear hodd
      try clear hwhite
      go_enter Tryz.func20, Tryz.ntmps20
      go_wp2_with (first | fail | (go_at_call 41; refine HOdd.out.mono ?_; rintro e w' ⟨rfl, rfl⟩))
      go_ret
      refine ⟨?_, rfl⟩
      rw [HV.out]
      first | rfl | simp [*]
    · have n61 : ((c.toNat : Int) == 61) = false := beq_eq_false_iff_ne.2 heq61
      by_cases heq32 : (c.toNat : Int) = 32
      · skip
        have HV := Lib.hid (show dm.inS 7 c = false by simp [dm.inS, *] <;> omega)
        have HOdd := Lib.hid (odd_ c w)
        try rw [hodd] at HOdd
        try clear hodd
        try clear hwhite
        go_enter Tryz.func20, Tryz.ntmps20
        go_wp2_with (first | fail | (go_at_call 41; refine HOdd.out.mono ?_; rintro e w' ⟨rfl, rfl⟩))
        go_ret
        refine ⟨?_, rfl⟩
        rw [HV.out]
        first | rfl | simp [*]
      · have n32 : ((c.toNat : Int) == 32) = false := beq_eq_false_iff_ne.2 heq32
        cases hodd : dm.odd c with
        | true =>
          have HV := Lib.hid (show dm.inS 7 c = false by simp [dm.inS, *] <;> omega)
          have HOdd := Lib.hid (odd_ c w)
          try rw [hodd] at HOdd
          try clear hodd
          try clear hwhite
          go_enter Tryz.func20, Tryz.ntmps20
          go_wp2_with (first | fail | (go_at_call 41; refine HOdd.out.mono ?_; rintro e w' ⟨rfl, rfl⟩))
          go_ret
          refine ⟨?_, rfl⟩
          rw [HV.out]
          first | rfl | simp [*]
        | false =>
          have HV := Lib.hid (show dm.inS 7 c = true by simp [dm.inS, *] <;> omega)
          have HOdd := Lib.hid (odd_ c w)
          try rw [hodd] at HOdd
          try clear hodd
          try clear hwhite
          go_enter Tryz.func20, Tryz.ntmps20
          go_wp2_with (first | fail | (go_at_call 41; refine HOdd.out.mono ?_; rintro e w' ⟨rfl, rfl⟩))
          go_ret
          refine ⟨?_, rfl⟩
          rw [HV.out]
          first | rfl | simp [*]
set_option maxHeartbeats 1000000 in
theorem in_8 (c : UInt8) (w : World) :
    Calls Tryz.prog 20 #[.int .i64 8, .int .u8 c.toNat] w fun e w' => e = .returned (.bool (dm.inS 8 c)) ∧ w = w' := by
  by_cases heq34 : (c.toNat : Int) = 34
  · skip
    have HV := Lib.hid (show dm.inS 8 c = false by simp [dm.inS, *] <;> omega)
    try clear hodd
    try clear hwhite
    go_enter Tryz.func20, Tryz.ntmps20
    go_wp2_with (first | fail)
    go_ret
    refine ⟨?_, rfl⟩
    rw [HV.out]
    first | rfl | simp [*]
  · have n34 : ((c.toNat : Int) == 34) = false := beq_eq_false_iff_ne.2 heq34
    have HV := Lib.hid (show dm.inS 8 c = true by simp [dm.inS, *] <;> omega)
    try clear hodd
    try clear hwhite
    go_enter Tryz.func20, Tryz.ntmps20
    go_wp2_with (first | fail)
    go_ret
    refine ⟨?_, rfl⟩
    rw [HV.out]
    first | rfl | simp [*]
set_option maxHeartbeats 1000000 in
theorem in_9 (c : UInt8) (w : World) :
    Calls Tryz.prog 20 #[.int .i64 9, .int .u8 c.toNat] w fun e w' => e = .returned (.bool (dm.inS 9 c)) ∧ w = w' := by
  by_cases heq44 : (c.toNat : Int) = 44
  · skip
    have HV := Lib.hid (show dm.inS 9 c = false by simp [dm.inS, *] <;> omega)
    have HWhite := Lib.hid (white_ c w)
    try rw [hwhite] at HWhite
    try clear hodd
    try clear hwhite
    go_enter Tryz.func20, Tryz.ntmps20
    go_wp2_with (first | fail | (go_at_call 40; refine HWhite.out.mono ?_; rintro e w' ⟨rfl, rfl⟩))
    go_ret
    refine ⟨?_, rfl⟩
    rw [HV.out]
    first | rfl | simp [*]
  · have n44 : ((c.toNat : Int) == 44) = false := beq_eq_false_iff_ne.2 heq44
    cases hwhite : dm.white c with
    | true =>
      have HV := Lib.hid (show dm.inS 9 c = false by simp [dm.inS, *] <;> omega)
      have HWhite := Lib.hid (white_ c w)
      try rw [hwhite] at HWhite
      try clear hodd
      try clear hwhite
      go_enter Tryz.func20, Tryz.ntmps20
      go_wp2_with (first | fail | (go_at_call 40; refine HWhite.out.mono ?_; rintro e w' ⟨rfl, rfl⟩))
      go_ret
      refine ⟨?_, rfl⟩
      rw [HV.out]
      first | rfl | simp [*]
    | false =>
      have HV := Lib.hid (show dm.inS 9 c = true by simp [dm.inS, *] <;> omega)
      have HWhite := Lib.hid (white_ c w)
      try rw [hwhite] at HWhite
      try clear hodd
      try clear hwhite
      go_enter Tryz.func20, Tryz.ntmps20
      go_wp2_with (first | fail | (go_at_call 40; refine HWhite.out.mono ?_; rintro e w' ⟨rfl, rfl⟩))
      go_ret
      refine ⟨?_, rfl⟩
      rw [HV.out]
      first | rfl | simp [*]
set_option maxHeartbeats 1000000 in
theorem in_10 (c : UInt8) (w : World) :
    Calls Tryz.prog 20 #[.int .i64 10, .int .u8 c.toNat] w fun e w' => e = .returned (.bool (dm.inS 10 c)) ∧ w = w' := by
  by_cases heq45 : (c.toNat : Int) = 45
  · skip
    have HV := Lib.hid (show dm.inS 10 c = true by simp [dm.inS, *] <;> omega)
    try clear hodd
    try clear hwhite
    go_enter Tryz.func20, Tryz.ntmps20
    go_wp2_with (first | fail)
    go_ret
    refine ⟨?_, rfl⟩
    rw [HV.out]
    first | rfl | simp [*]
  · have n45 : ((c.toNat : Int) == 45) = false := beq_eq_false_iff_ne.2 heq45
    by_cases hge48 : 48 ≤ (c.toNat : Int)
    · skip
      by_cases hle57 : (c.toNat : Int) ≤ 57
      · skip
        have HV := Lib.hid (show dm.inS 10 c = true by simp [dm.inS, *] <;> omega)
        try clear hodd
        try clear hwhite
        go_enter Tryz.func20, Tryz.ntmps20
        go_wp2_with (first | fail)
        go_ret
        refine ⟨?_, rfl⟩
        rw [HV.out]
        first | rfl | simp [*]
      · skip
        have HV := Lib.hid (show dm.inS 10 c = false by simp [dm.inS, *] <;> omega)
        try clear hodd
        try clear hwhite
        go_enter Tryz.func20, Tryz.ntmps20
        go_wp2_with (first | fail)
        go_ret
        refine ⟨?_, rfl⟩
        rw [HV.out]
        first | rfl | simp [*]
    · skip
      have HV := Lib.hid (show dm.inS 10 c = false by simp [dm.inS, *] <;> omega)
      try clear hodd
      try clear hwhite
      go_enter Tryz.func20, Tryz.ntmps20
      go_wp2_with (first | fail)
      go_ret
      refine ⟨?_, rfl⟩
      rw [HV.out]
      first | rfl | simp [*]
set_option maxHeartbeats 1000000 in
theorem in_11 (c : UInt8) (w : World) :
    Calls Tryz.prog 20 #[.int .i64 11, .int .u8 c.toNat] w fun e w' => e = .returned (.bool (dm.inS 11 c)) ∧ w = w' := by
  cases hodd : dm.odd c with
  | true =>
    have HV := Lib.hid (show dm.inS 11 c = false by simp [dm.inS, *] <;> omega)
    have HOdd := Lib.hid (odd_ c w)
    try rw [hodd] at HOdd
    try clear hodd
    try clear hwhite
    go_enter Tryz.func20, Tryz.ntmps20
    go_wp2_with (first | fail | (go_at_call 41; refine HOdd.out.mono ?_; rintro e w' ⟨rfl, rfl⟩))
    go_ret
    refine ⟨?_, rfl⟩
    rw [HV.out]
    first | rfl | simp [*]
  | false =>
    have HV := Lib.hid (show dm.inS 11 c = true by simp [dm.inS, *] <;> omega)
    have HOdd := Lib.hid (odd_ c w)
    try rw [hodd] at HOdd
    try clear hodd
    try clear hwhite
    go_enter Tryz.func20, Tryz.ntmps20
    go_wp2_with (first | fail | (go_at_call 41; refine HOdd.out.mono ?_; rintro e w' ⟨rfl, rfl⟩))
    go_ret
    refine ⟨?_, rfl⟩
    rw [HV.out]
    first | rfl | simp [*]
set_option maxHeartbeats 1000000 in
theorem in_12 (c : UInt8) (w : World) :
    Calls Tryz.prog 20 #[.int .i64 12, .int .u8 c.toNat] w fun e w' => e = .returned (.bool (dm.inS 12 c)) ∧ w = w' := by
  by_cases heq13 : (c.toNat : Int) = 13
  · skip
    have HV := Lib.hid (show dm.inS 12 c = false by simp [dm.inS, *] <;> omega)
    try clear hodd
    try clear hwhite
    go_enter Tryz.func20, Tryz.ntmps20
    go_wp2_with (first | fail)
    go_ret
    refine ⟨?_, rfl⟩
    rw [HV.out]
    first | rfl | simp [*]
  · have n13 : ((c.toNat : Int) == 13) = false := beq_eq_false_iff_ne.2 heq13
    by_cases heq10 : (c.toNat : Int) = 10
    · skip
      have HV := Lib.hid (show dm.inS 12 c = false by simp [dm.inS, *] <;> omega)
      try clear hodd
      try clear hwhite
      go_enter Tryz.func20, Tryz.ntmps20
      go_wp2_with (first | fail)
      go_ret
      refine ⟨?_, rfl⟩
      rw [HV.out]
      first | rfl | simp [*]
    · have n10 : ((c.toNat : Int) == 10) = false := beq_eq_false_iff_ne.2 heq10
      have HV := Lib.hid (show dm.inS 12 c = true by simp [dm.inS, *] <;> omega)
      try clear hodd
      try clear hwhite
      go_enter Tryz.func20, Tryz.ntmps20
      go_wp2_with (first | fail)
      go_ret
      refine ⟨?_, rfl⟩
      rw [HV.out]
      first | rfl | simp [*]
set_option maxHeartbeats 1000000 in
theorem in_13 (c : UInt8) (w : World) :
    Calls Tryz.prog 20 #[.int .i64 13, .int .u8 c.toNat] w fun e w' => e = .returned (.bool (dm.inS 13 c)) ∧ w = w' := by
  by_cases heq10 : (c.toNat : Int) = 10
  · skip
    have HV := Lib.hid (show dm.inS 13 c = false by simp [dm.inS, *] <;> omega)
    try clear hodd
    try clear hwhite
    go_enter Tryz.func20, Tryz.ntmps20
    go_wp2_with (first | fail)
    go_ret
    refine ⟨?_, rfl⟩
    rw [HV.out]
    first | rfl | simp [*]
  · have n10 : ((c.toNat : Int) == 10) = false := beq_eq_false_iff_ne.2 heq10
    have HV := Lib.hid (show dm.inS 13 c = true by simp [dm.inS, *] <;> omega)
    try clear hodd
    try clear hwhite
    go_enter Tryz.func20, Tryz.ntmps20
    go_wp2_with (first | fail)
    go_ret
    refine ⟨?_, rfl⟩
    rw [HV.out]
    first | rfl | simp [*]
theorem in12 (k : Nat) (hk : k ≤ 13) (c : UInt8) (w : World) :
    Calls Tryz.prog 20 #[.int .i64 k, .int .u8 c.toNat] w fun e w' => e = .returned (.bool (dm.inS k c)) ∧ w = w' := by
  obtain rfl | rfl | rfl | rfl | rfl | rfl | rfl | rfl | rfl | rfl | rfl | rfl | rfl | rfl : k = 0 ∨ k = 1 ∨ k = 2 ∨ k = 3 ∨ k = 4 ∨ k = 5 ∨ k = 6 ∨ k = 7 ∨ k = 8 ∨ k = 9 ∨ k = 10 ∨ k = 11 ∨ k = 12 ∨ k = 13 := by omega
  · exact in_0 c w
  · exact in_1 c w
  · exact in_2 c w
  · exact in_3 c w
  · exact in_4 c w
  · exact in_5 c w
  · exact in_6 c w
  · exact in_7 c w
  · exact in_8 c w
  · exact in_9 c w
  · exact in_10 c w
  · exact in_11 c w
  · exact in_12 c w
  · exact in_13 c w
/-- What a backslash and a byte stand for, and whether they stand for one. -/
def escd (k : Nat) (c : UInt8) : UInt8 × Bool := if dm.rv k c = 0 then (c, false) else (dm.rv k c, true)
theorem esc_0 (c : UInt8) (w : World) :
    Calls Tryz.prog 98 #[.int .i64 0, .int .u8 c.toNat] w fun e w' => ∃ d, e = .returned (.tuple #[.int .u8 ((d : UInt8).toNat : Int), .bool (decide (dm.rv 0 c ≠ 0))]) ∧ (dm.rv 0 c ≠ 0 → d = dm.rv 0 c) ∧ w = w' := by
  by_cases heq32 : (c.toNat : Int) = 32
  · skip
    have HV := Lib.hid (show dm.rv 0 c = c ∧ c ≠ 0 by
      have hc0 : c ≠ 0 := fun e => by subst e; simp at *
      refine ⟨?_, hc0⟩
      simp [dm.rv, ← UInt8.toNat_inj] <;> omega)
    go_enter Tryz.func98, Tryz.ntmps98
    go_wp2_with fail
    go_ret2
    exact ⟨c, by rw [HV.out.1]; simp [HV.out.2] <;> rfl, fun _ => HV.out.1.symm, rfl⟩
  · have n32 : ((c.toNat : Int) == 32) = false := beq_eq_false_iff_ne.2 heq32
    by_cases heq44 : (c.toNat : Int) = 44
    · skip
      have HV := Lib.hid (show dm.rv 0 c = c ∧ c ≠ 0 by
        have hc0 : c ≠ 0 := fun e => by subst e; simp at *
        refine ⟨?_, hc0⟩
        simp [dm.rv, ← UInt8.toNat_inj] <;> omega)
      go_enter Tryz.func98, Tryz.ntmps98
      go_wp2_with fail
      go_ret2
      exact ⟨c, by rw [HV.out.1]; simp [HV.out.2] <;> rfl, fun _ => HV.out.1.symm, rfl⟩
    · have n44 : ((c.toNat : Int) == 44) = false := beq_eq_false_iff_ne.2 heq44
      have HV := Lib.hid (show dm.rv 0 c = 0 by simp [dm.rv, ← UInt8.toNat_inj] <;> omega)
      go_enter Tryz.func98, Tryz.ntmps98
      go_wp2_with fail
      go_ret2
      exact ⟨c, by rw [HV.out]; rfl, fun h => absurd HV.out h, rfl⟩
theorem esc_1 (c : UInt8) (w : World) :
    Calls Tryz.prog 98 #[.int .i64 1, .int .u8 c.toNat] w fun e w' => ∃ d, e = .returned (.tuple #[.int .u8 ((d : UInt8).toNat : Int), .bool (decide (dm.rv 1 c ≠ 0))]) ∧ (dm.rv 1 c ≠ 0 → d = dm.rv 1 c) ∧ w = w' := by
  by_cases heq44 : (c.toNat : Int) = 44
  · skip
    have HV := Lib.hid (show dm.rv 1 c = c ∧ c ≠ 0 by
      have hc0 : c ≠ 0 := fun e => by subst e; simp at *
      refine ⟨?_, hc0⟩
      simp [dm.rv, ← UInt8.toNat_inj] <;> omega)
    go_enter Tryz.func98, Tryz.ntmps98
    go_wp2_with fail
    go_ret2
    exact ⟨c, by rw [HV.out.1]; simp [HV.out.2] <;> rfl, fun _ => HV.out.1.symm, rfl⟩
  · have n44 : ((c.toNat : Int) == 44) = false := beq_eq_false_iff_ne.2 heq44
    by_cases heq61 : (c.toNat : Int) = 61
    · skip
      have HV := Lib.hid (show dm.rv 1 c = c ∧ c ≠ 0 by
        have hc0 : c ≠ 0 := fun e => by subst e; simp at *
        refine ⟨?_, hc0⟩
        simp [dm.rv, ← UInt8.toNat_inj] <;> omega)
      go_enter Tryz.func98, Tryz.ntmps98
      go_wp2_with fail
      go_ret2
      exact ⟨c, by rw [HV.out.1]; simp [HV.out.2] <;> rfl, fun _ => HV.out.1.symm, rfl⟩
    · have n61 : ((c.toNat : Int) == 61) = false := beq_eq_false_iff_ne.2 heq61
      by_cases heq32 : (c.toNat : Int) = 32
      · skip
        have HV := Lib.hid (show dm.rv 1 c = c ∧ c ≠ 0 by
          have hc0 : c ≠ 0 := fun e => by subst e; simp at *
          refine ⟨?_, hc0⟩
          simp [dm.rv, ← UInt8.toNat_inj] <;> omega)
        go_enter Tryz.func98, Tryz.ntmps98
        go_wp2_with fail
        go_ret2
        exact ⟨c, by rw [HV.out.1]; simp [HV.out.2] <;> rfl, fun _ => HV.out.1.symm, rfl⟩
      · have n32 : ((c.toNat : Int) == 32) = false := beq_eq_false_iff_ne.2 heq32
        have HV := Lib.hid (show dm.rv 1 c = 0 by simp [dm.rv, ← UInt8.toNat_inj] <;> omega)
        go_enter Tryz.func98, Tryz.ntmps98
        go_wp2_with fail
        go_ret2
        exact ⟨c, by rw [HV.out]; rfl, fun h => absurd HV.out h, rfl⟩
theorem esc_2 (c : UInt8) (w : World) :
    Calls Tryz.prog 98 #[.int .i64 2, .int .u8 c.toNat] w fun e w' => ∃ d, e = .returned (.tuple #[.int .u8 ((d : UInt8).toNat : Int), .bool (decide (dm.rv 2 c ≠ 0))]) ∧ (dm.rv 2 c ≠ 0 → d = dm.rv 2 c) ∧ w = w' := by
  by_cases heq44 : (c.toNat : Int) = 44
  · skip
    have HV := Lib.hid (show dm.rv 2 c = c ∧ c ≠ 0 by
      have hc0 : c ≠ 0 := fun e => by subst e; simp at *
      refine ⟨?_, hc0⟩
      simp [dm.rv, ← UInt8.toNat_inj] <;> omega)
    go_enter Tryz.func98, Tryz.ntmps98
    go_wp2_with fail
    go_ret2
    exact ⟨c, by rw [HV.out.1]; simp [HV.out.2] <;> rfl, fun _ => HV.out.1.symm, rfl⟩
  · have n44 : ((c.toNat : Int) == 44) = false := beq_eq_false_iff_ne.2 heq44
    by_cases heq61 : (c.toNat : Int) = 61
    · skip
      have HV := Lib.hid (show dm.rv 2 c = c ∧ c ≠ 0 by
        have hc0 : c ≠ 0 := fun e => by subst e; simp at *
        refine ⟨?_, hc0⟩
        simp [dm.rv, ← UInt8.toNat_inj] <;> omega)
      go_enter Tryz.func98, Tryz.ntmps98
      go_wp2_with fail
      go_ret2
      exact ⟨c, by rw [HV.out.1]; simp [HV.out.2] <;> rfl, fun _ => HV.out.1.symm, rfl⟩
    · have n61 : ((c.toNat : Int) == 61) = false := beq_eq_false_iff_ne.2 heq61
      by_cases heq32 : (c.toNat : Int) = 32
      · skip
        have HV := Lib.hid (show dm.rv 2 c = c ∧ c ≠ 0 by
          have hc0 : c ≠ 0 := fun e => by subst e; simp at *
          refine ⟨?_, hc0⟩
          simp [dm.rv, ← UInt8.toNat_inj] <;> omega)
        go_enter Tryz.func98, Tryz.ntmps98
        go_wp2_with fail
        go_ret2
        exact ⟨c, by rw [HV.out.1]; simp [HV.out.2] <;> rfl, fun _ => HV.out.1.symm, rfl⟩
      · have n32 : ((c.toNat : Int) == 32) = false := beq_eq_false_iff_ne.2 heq32
        have HV := Lib.hid (show dm.rv 2 c = 0 by simp [dm.rv, ← UInt8.toNat_inj] <;> omega)
        go_enter Tryz.func98, Tryz.ntmps98
        go_wp2_with fail
        go_ret2
        exact ⟨c, by rw [HV.out]; rfl, fun h => absurd HV.out h, rfl⟩
theorem esc_3 (c : UInt8) (w : World) :
    Calls Tryz.prog 98 #[.int .i64 3, .int .u8 c.toNat] w fun e w' => ∃ d, e = .returned (.tuple #[.int .u8 ((d : UInt8).toNat : Int), .bool (decide (dm.rv 3 c ≠ 0))]) ∧ (dm.rv 3 c ≠ 0 → d = dm.rv 3 c) ∧ w = w' := by
  by_cases heq44 : (c.toNat : Int) = 44
  · skip
    have HV := Lib.hid (show dm.rv 3 c = c ∧ c ≠ 0 by
      have hc0 : c ≠ 0 := fun e => by subst e; simp at *
      refine ⟨?_, hc0⟩
      simp [dm.rv, ← UInt8.toNat_inj] <;> omega)
    go_enter Tryz.func98, Tryz.ntmps98
    go_wp2_with fail
    go_ret2
    exact ⟨c, by rw [HV.out.1]; simp [HV.out.2] <;> rfl, fun _ => HV.out.1.symm, rfl⟩
  · have n44 : ((c.toNat : Int) == 44) = false := beq_eq_false_iff_ne.2 heq44
    by_cases heq61 : (c.toNat : Int) = 61
    · skip
      have HV := Lib.hid (show dm.rv 3 c = c ∧ c ≠ 0 by
        have hc0 : c ≠ 0 := fun e => by subst e; simp at *
        refine ⟨?_, hc0⟩
        simp [dm.rv, ← UInt8.toNat_inj] <;> omega)
      go_enter Tryz.func98, Tryz.ntmps98
      go_wp2_with fail
      go_ret2
      exact ⟨c, by rw [HV.out.1]; simp [HV.out.2] <;> rfl, fun _ => HV.out.1.symm, rfl⟩
    · have n61 : ((c.toNat : Int) == 61) = false := beq_eq_false_iff_ne.2 heq61
      by_cases heq32 : (c.toNat : Int) = 32
      · skip
        have HV := Lib.hid (show dm.rv 3 c = c ∧ c ≠ 0 by
          have hc0 : c ≠ 0 := fun e => by subst e; simp at *
          refine ⟨?_, hc0⟩
          simp [dm.rv, ← UInt8.toNat_inj] <;> omega)
        go_enter Tryz.func98, Tryz.ntmps98
        go_wp2_with fail
        go_ret2
        exact ⟨c, by rw [HV.out.1]; simp [HV.out.2] <;> rfl, fun _ => HV.out.1.symm, rfl⟩
      · have n32 : ((c.toNat : Int) == 32) = false := beq_eq_false_iff_ne.2 heq32
        have HV := Lib.hid (show dm.rv 3 c = 0 by simp [dm.rv, ← UInt8.toNat_inj] <;> omega)
        go_enter Tryz.func98, Tryz.ntmps98
        go_wp2_with fail
        go_ret2
        exact ⟨c, by rw [HV.out]; rfl, fun h => absurd HV.out h, rfl⟩
theorem esc_4 (c : UInt8) (w : World) :
    Calls Tryz.prog 98 #[.int .i64 4, .int .u8 c.toNat] w fun e w' => ∃ d, e = .returned (.tuple #[.int .u8 ((d : UInt8).toNat : Int), .bool (decide (dm.rv 4 c ≠ 0))]) ∧ (dm.rv 4 c ≠ 0 → d = dm.rv 4 c) ∧ w = w' := by
  by_cases heq110 : (c.toNat : Int) = 110
  · skip
    have HV := Lib.hid (show c = 110 from UInt8.toNat_inj.1 (by show c.toNat = 110; omega))
    go_enter Tryz.func98, Tryz.ntmps98
    go_wp2_with fail
    go_ret2
    exact ⟨10, by rw [HV.out]; rfl, fun _ => by rw [HV.out]; rfl, rfl⟩
  · have n110 : ((c.toNat : Int) == 110) = false := beq_eq_false_iff_ne.2 heq110
    by_cases heq114 : (c.toNat : Int) = 114
    · skip
      have HV := Lib.hid (show c = 114 from UInt8.toNat_inj.1 (by show c.toNat = 114; omega))
      go_enter Tryz.func98, Tryz.ntmps98
      go_wp2_with fail
      go_ret2
      exact ⟨13, by rw [HV.out]; rfl, fun _ => by rw [HV.out]; rfl, rfl⟩
    · have n114 : ((c.toNat : Int) == 114) = false := beq_eq_false_iff_ne.2 heq114
      by_cases heq116 : (c.toNat : Int) = 116
      · skip
        have HV := Lib.hid (show c = 116 from UInt8.toNat_inj.1 (by show c.toNat = 116; omega))
        go_enter Tryz.func98, Tryz.ntmps98
        go_wp2_with fail
        go_ret2
        exact ⟨9, by rw [HV.out]; rfl, fun _ => by rw [HV.out]; rfl, rfl⟩
      · have n116 : ((c.toNat : Int) == 116) = false := beq_eq_false_iff_ne.2 heq116
        by_cases heq92 : (c.toNat : Int) = 92
        · skip
          have HV := Lib.hid (show c = 92 from UInt8.toNat_inj.1 (by show c.toNat = 92; omega))
          go_enter Tryz.func98, Tryz.ntmps98
          go_wp2_with fail
          go_ret2
          exact ⟨92, by rw [HV.out]; rfl, fun _ => by rw [HV.out]; rfl, rfl⟩
        · have n92 : ((c.toNat : Int) == 92) = false := beq_eq_false_iff_ne.2 heq92
          by_cases heq34 : (c.toNat : Int) = 34
          · skip
            have HV := Lib.hid (show c = 34 from UInt8.toNat_inj.1 (by show c.toNat = 34; omega))
            go_enter Tryz.func98, Tryz.ntmps98
            go_wp2_with fail
            go_ret2
            exact ⟨34, by rw [HV.out]; rfl, fun _ => by rw [HV.out]; rfl, rfl⟩
          · have n34 : ((c.toNat : Int) == 34) = false := beq_eq_false_iff_ne.2 heq34
            have HV := Lib.hid (show dm.rv 4 c = 0 by
              have m110 : c ≠ 110 := fun e => heq110 (by rw [e]; rfl)
              have m114 : c ≠ 114 := fun e => heq114 (by rw [e]; rfl)
              have m116 : c ≠ 116 := fun e => heq116 (by rw [e]; rfl)
              have m92 : c ≠ 92 := fun e => heq92 (by rw [e]; rfl)
              have m34 : c ≠ 34 := fun e => heq34 (by rw [e]; rfl)
              simp [dm.rv, m110, m114, m116, m92, m34])
            go_enter Tryz.func98, Tryz.ntmps98
            go_wp2_with fail
            go_ret2
            exact ⟨c, by rw [HV.out]; rfl, fun h => absurd HV.out h, rfl⟩
theorem esc11 (k : Nat) (hk : k ≤ 4) (c : UInt8) (w : World) :
    Calls Tryz.prog 98 #[.int .i64 k, .int .u8 c.toNat] w fun e w' => ∃ d, e = .returned (.tuple #[.int .u8 ((d : UInt8).toNat : Int), .bool (decide (dm.rv k c ≠ 0))]) ∧ (dm.rv k c ≠ 0 → d = dm.rv k c) ∧ w = w' := by
  obtain rfl | rfl | rfl | rfl | rfl : k = 0 ∨ k = 1 ∨ k = 2 ∨ k = 3 ∨ k = 4 := by omega
  · exact esc_0 c w
  · exact esc_1 c w
  · exact esc_2 c w
  · exact esc_3 c w
  · exact esc_4 c w
theorem setOf13 (k : Nat) (hk : k ≤ 4) (w : World) :
    Calls Tryz.prog 99 #[.int .i64 k] w fun e w' => e = .returned (.int .i64 (dm.setOf k : Nat)) ∧ But [] w w' := by
  obtain rfl | rfl | rfl | rfl | rfl : k = 0 ∨ k = 1 ∨ k = 2 ∨ k = 3 ∨ k = 4 := by omega
  · go_enter Tryz.func99, Tryz.ntmps99
    go_wp2_with fail
    go_ret
    exact ⟨rfl, (But.refl [] w).alloc _⟩
  · go_enter Tryz.func99, Tryz.ntmps99
    go_wp2_with fail
    go_ret
    exact ⟨rfl, (But.refl [] w).alloc _⟩
  · go_enter Tryz.func99, Tryz.ntmps99
    go_wp2_with fail
    go_ret
    exact ⟨rfl, (But.refl [] w).alloc _⟩
  · go_enter Tryz.func99, Tryz.ntmps99
    go_wp2_with fail
    go_ret
    exact ⟨rfl, (But.refl [] w).alloc _⟩
  · go_enter Tryz.func99, Tryz.ntmps99
    go_wp2_with fail
    go_ret
    exact ⟨rfl, (But.refl [] w).alloc _⟩
end Go.Proofs.YtlcbcgillekphaaGreatDoor.spe
