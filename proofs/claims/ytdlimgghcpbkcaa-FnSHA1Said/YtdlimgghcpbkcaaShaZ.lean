/-
  Proved: the SHA-1 sum of the empty text, in hexadecimal digits.
  Conditions: none.
-/
import Derived.Test.YtdlimgghcpbkcaaShaJ
namespace Go.Proofs.Ytdlimgghcpbkcaa.sha
open Go.RowKit Mem Go.Great
set_option linter.unusedVariables false

def eb : Nat → BitVec 32 := wb ([] ++ tail 0)
theorem ew0 : W eb 0 = 2147483648#32 := (W_lo eb 0 (by decide)).trans (by kernel_rfl)
theorem ew1 : W eb 1 = 0#32 := (W_lo eb 1 (by decide)).trans (by kernel_rfl)
theorem ew2 : W eb 2 = 0#32 := (W_lo eb 2 (by decide)).trans (by kernel_rfl)
theorem ew3 : W eb 3 = 0#32 := (W_lo eb 3 (by decide)).trans (by kernel_rfl)
theorem ew4 : W eb 4 = 0#32 := (W_lo eb 4 (by decide)).trans (by kernel_rfl)
theorem ew5 : W eb 5 = 0#32 := (W_lo eb 5 (by decide)).trans (by kernel_rfl)
theorem ew6 : W eb 6 = 0#32 := (W_lo eb 6 (by decide)).trans (by kernel_rfl)
theorem ew7 : W eb 7 = 0#32 := (W_lo eb 7 (by decide)).trans (by kernel_rfl)
theorem ew8 : W eb 8 = 0#32 := (W_lo eb 8 (by decide)).trans (by kernel_rfl)
theorem ew9 : W eb 9 = 0#32 := (W_lo eb 9 (by decide)).trans (by kernel_rfl)
theorem ew10 : W eb 10 = 0#32 := (W_lo eb 10 (by decide)).trans (by kernel_rfl)
theorem ew11 : W eb 11 = 0#32 := (W_lo eb 11 (by decide)).trans (by kernel_rfl)
theorem ew12 : W eb 12 = 0#32 := (W_lo eb 12 (by decide)).trans (by kernel_rfl)
theorem ew13 : W eb 13 = 0#32 := (W_lo eb 13 (by decide)).trans (by kernel_rfl)
theorem ew14 : W eb 14 = 0#32 := (W_lo eb 14 (by decide)).trans (by kernel_rfl)
theorem ew15 : W eb 15 = 0#32 := (W_lo eb 15 (by decide)).trans (by kernel_rfl)
theorem ew16 : W eb 16 = 1#32 := by
  have h : W eb 16 = rot (((W eb 13 ^^^ W eb 8) ^^^ W eb 2) ^^^ W eb 0) 1 := W_hi eb 16 (by decide)
  rw [h, ew13, ew8, ew2, ew0]
  decide +kernel
theorem ew17 : W eb 17 = 0#32 := by
  have h : W eb 17 = rot (((W eb 14 ^^^ W eb 9) ^^^ W eb 3) ^^^ W eb 1) 1 := W_hi eb 17 (by decide)
  rw [h, ew14, ew9, ew3, ew1]
  decide +kernel
theorem ew18 : W eb 18 = 0#32 := by
  have h : W eb 18 = rot (((W eb 15 ^^^ W eb 10) ^^^ W eb 4) ^^^ W eb 2) 1 := W_hi eb 18 (by decide)
  rw [h, ew15, ew10, ew4, ew2]
  decide +kernel
theorem ew19 : W eb 19 = 2#32 := by
  have h : W eb 19 = rot (((W eb 16 ^^^ W eb 11) ^^^ W eb 5) ^^^ W eb 3) 1 := W_hi eb 19 (by decide)
  rw [h, ew16, ew11, ew5, ew3]
  decide +kernel
theorem ew20 : W eb 20 = 0#32 := by
  have h : W eb 20 = rot (((W eb 17 ^^^ W eb 12) ^^^ W eb 6) ^^^ W eb 4) 1 := W_hi eb 20 (by decide)
  rw [h, ew17, ew12, ew6, ew4]
  decide +kernel
theorem ew21 : W eb 21 = 0#32 := by
  have h : W eb 21 = rot (((W eb 18 ^^^ W eb 13) ^^^ W eb 7) ^^^ W eb 5) 1 := W_hi eb 21 (by decide)
  rw [h, ew18, ew13, ew7, ew5]
  decide +kernel
theorem ew22 : W eb 22 = 4#32 := by
  have h : W eb 22 = rot (((W eb 19 ^^^ W eb 14) ^^^ W eb 8) ^^^ W eb 6) 1 := W_hi eb 22 (by decide)
  rw [h, ew19, ew14, ew8, ew6]
  decide +kernel
theorem ew23 : W eb 23 = 0#32 := by
  have h : W eb 23 = rot (((W eb 20 ^^^ W eb 15) ^^^ W eb 9) ^^^ W eb 7) 1 := W_hi eb 23 (by decide)
  rw [h, ew20, ew15, ew9, ew7]
  decide +kernel
theorem ew24 : W eb 24 = 2#32 := by
  have h : W eb 24 = rot (((W eb 21 ^^^ W eb 16) ^^^ W eb 10) ^^^ W eb 8) 1 := W_hi eb 24 (by decide)
  rw [h, ew21, ew16, ew10, ew8]
  decide +kernel
theorem ew25 : W eb 25 = 8#32 := by
  have h : W eb 25 = rot (((W eb 22 ^^^ W eb 17) ^^^ W eb 11) ^^^ W eb 9) 1 := W_hi eb 25 (by decide)
  rw [h, ew22, ew17, ew11, ew9]
  decide +kernel
theorem ew26 : W eb 26 = 0#32 := by
  have h : W eb 26 = rot (((W eb 23 ^^^ W eb 18) ^^^ W eb 12) ^^^ W eb 10) 1 := W_hi eb 26 (by decide)
  rw [h, ew23, ew18, ew12, ew10]
  decide +kernel
theorem ew27 : W eb 27 = 0#32 := by
  have h : W eb 27 = rot (((W eb 24 ^^^ W eb 19) ^^^ W eb 13) ^^^ W eb 11) 1 := W_hi eb 27 (by decide)
  rw [h, ew24, ew19, ew13, ew11]
  decide +kernel
theorem ew28 : W eb 28 = 16#32 := by
  have h : W eb 28 = rot (((W eb 25 ^^^ W eb 20) ^^^ W eb 14) ^^^ W eb 12) 1 := W_hi eb 28 (by decide)
  rw [h, ew25, ew20, ew14, ew12]
  decide +kernel
theorem ew29 : W eb 29 = 0#32 := by
  have h : W eb 29 = rot (((W eb 26 ^^^ W eb 21) ^^^ W eb 15) ^^^ W eb 13) 1 := W_hi eb 29 (by decide)
  rw [h, ew26, ew21, ew15, ew13]
  decide +kernel
theorem ew30 : W eb 30 = 10#32 := by
  have h : W eb 30 = rot (((W eb 27 ^^^ W eb 22) ^^^ W eb 16) ^^^ W eb 14) 1 := W_hi eb 30 (by decide)
  rw [h, ew27, ew22, ew16, ew14]
  decide +kernel
theorem ew31 : W eb 31 = 32#32 := by
  have h : W eb 31 = rot (((W eb 28 ^^^ W eb 23) ^^^ W eb 17) ^^^ W eb 15) 1 := W_hi eb 31 (by decide)
  rw [h, ew28, ew23, ew17, ew15]
  decide +kernel
theorem ew32 : W eb 32 = 6#32 := by
  have h : W eb 32 = rot (((W eb 29 ^^^ W eb 24) ^^^ W eb 18) ^^^ W eb 16) 1 := W_hi eb 32 (by decide)
  rw [h, ew29, ew24, ew18, ew16]
  decide +kernel
theorem ew33 : W eb 33 = 0#32 := by
  have h : W eb 33 = rot (((W eb 30 ^^^ W eb 25) ^^^ W eb 19) ^^^ W eb 17) 1 := W_hi eb 33 (by decide)
  rw [h, ew30, ew25, ew19, ew17]
  decide +kernel
theorem ew34 : W eb 34 = 64#32 := by
  have h : W eb 34 = rot (((W eb 31 ^^^ W eb 26) ^^^ W eb 20) ^^^ W eb 18) 1 := W_hi eb 34 (by decide)
  rw [h, ew31, ew26, ew20, ew18]
  decide +kernel
theorem ew35 : W eb 35 = 8#32 := by
  have h : W eb 35 = rot (((W eb 32 ^^^ W eb 27) ^^^ W eb 21) ^^^ W eb 19) 1 := W_hi eb 35 (by decide)
  rw [h, ew32, ew27, ew21, ew19]
  decide +kernel
theorem ew36 : W eb 36 = 40#32 := by
  have h : W eb 36 = rot (((W eb 33 ^^^ W eb 28) ^^^ W eb 22) ^^^ W eb 20) 1 := W_hi eb 36 (by decide)
  rw [h, ew33, ew28, ew22, ew20]
  decide +kernel
theorem ew37 : W eb 37 = 128#32 := by
  have h : W eb 37 = rot (((W eb 34 ^^^ W eb 29) ^^^ W eb 23) ^^^ W eb 21) 1 := W_hi eb 37 (by decide)
  rw [h, ew34, ew29, ew23, ew21]
  decide +kernel
theorem ew38 : W eb 38 = 8#32 := by
  have h : W eb 38 = rot (((W eb 35 ^^^ W eb 30) ^^^ W eb 24) ^^^ W eb 22) 1 := W_hi eb 38 (by decide)
  rw [h, ew35, ew30, ew24, ew22]
  decide +kernel
theorem ew39 : W eb 39 = 0#32 := by
  have h : W eb 39 = rot (((W eb 36 ^^^ W eb 31) ^^^ W eb 25) ^^^ W eb 23) 1 := W_hi eb 39 (by decide)
  rw [h, ew36, ew31, ew25, ew23]
  decide +kernel
theorem ew40 : W eb 40 = 264#32 := by
  have h : W eb 40 = rot (((W eb 37 ^^^ W eb 32) ^^^ W eb 26) ^^^ W eb 24) 1 := W_hi eb 40 (by decide)
  rw [h, ew37, ew32, ew26, ew24]
  decide +kernel
theorem ew41 : W eb 41 = 0#32 := by
  have h : W eb 41 = rot (((W eb 38 ^^^ W eb 33) ^^^ W eb 27) ^^^ W eb 25) 1 := W_hi eb 41 (by decide)
  rw [h, ew38, ew33, ew27, ew25]
  decide +kernel
theorem ew42 : W eb 42 = 160#32 := by
  have h : W eb 42 = rot (((W eb 39 ^^^ W eb 34) ^^^ W eb 28) ^^^ W eb 26) 1 := W_hi eb 42 (by decide)
  rw [h, ew39, ew34, ew28, ew26]
  decide +kernel
theorem ew43 : W eb 43 = 512#32 := by
  have h : W eb 43 = rot (((W eb 40 ^^^ W eb 35) ^^^ W eb 29) ^^^ W eb 27) 1 := W_hi eb 43 (by decide)
  rw [h, ew40, ew35, ew29, ew27]
  decide +kernel
theorem ew44 : W eb 44 = 100#32 := by
  have h : W eb 44 = rot (((W eb 41 ^^^ W eb 36) ^^^ W eb 30) ^^^ W eb 28) 1 := W_hi eb 44 (by decide)
  rw [h, ew41, ew36, ew30, ew28]
  decide +kernel
theorem ew45 : W eb 45 = 0#32 := by
  have h : W eb 45 = rot (((W eb 42 ^^^ W eb 37) ^^^ W eb 31) ^^^ W eb 29) 1 := W_hi eb 45 (by decide)
  rw [h, ew42, ew37, ew31, ew29]
  decide +kernel
theorem ew46 : W eb 46 = 1032#32 := by
  have h : W eb 46 = rot (((W eb 43 ^^^ W eb 38) ^^^ W eb 32) ^^^ W eb 30) 1 := W_hi eb 46 (by decide)
  rw [h, ew43, ew38, ew32, ew30]
  decide +kernel
theorem ew47 : W eb 47 = 136#32 := by
  have h : W eb 47 = rot (((W eb 44 ^^^ W eb 39) ^^^ W eb 33) ^^^ W eb 31) 1 := W_hi eb 47 (by decide)
  rw [h, ew44, ew39, ew33, ew31]
  decide +kernel
theorem ew48 : W eb 48 = 668#32 := by
  have h : W eb 48 = rot (((W eb 45 ^^^ W eb 40) ^^^ W eb 34) ^^^ W eb 32) 1 := W_hi eb 48 (by decide)
  rw [h, ew45, ew40, ew34, ew32]
  decide +kernel
theorem ew49 : W eb 49 = 2048#32 := by
  have h : W eb 49 = rot (((W eb 46 ^^^ W eb 41) ^^^ W eb 35) ^^^ W eb 33) 1 := W_hi eb 49 (by decide)
  rw [h, ew46, ew41, ew35, ew33]
  decide +kernel
theorem ew50 : W eb 50 = 128#32 := by
  have h : W eb 50 = rot (((W eb 47 ^^^ W eb 42) ^^^ W eb 36) ^^^ W eb 34) 1 := W_hi eb 50 (by decide)
  rw [h, ew47, ew42, ew36, ew34]
  decide +kernel
theorem ew51 : W eb 51 = 40#32 := by
  have h : W eb 51 = rot (((W eb 48 ^^^ W eb 43) ^^^ W eb 37) ^^^ W eb 35) 1 := W_hi eb 51 (by decide)
  rw [h, ew48, ew43, ew37, ew35]
  decide +kernel
theorem ew52 : W eb 52 = 4232#32 := by
  have h : W eb 52 = rot (((W eb 49 ^^^ W eb 44) ^^^ W eb 38) ^^^ W eb 36) 1 := W_hi eb 52 (by decide)
  rw [h, ew49, ew44, ew38, ew36]
  decide +kernel
theorem ew53 : W eb 53 = 0#32 := by
  have h : W eb 53 = rot (((W eb 50 ^^^ W eb 45) ^^^ W eb 39) ^^^ W eb 37) 1 := W_hi eb 53 (by decide)
  rw [h, ew50, ew45, ew39, ew37]
  decide +kernel
theorem ew54 : W eb 54 = 2624#32 := by
  have h : W eb 54 = rot (((W eb 51 ^^^ W eb 46) ^^^ W eb 40) ^^^ W eb 38) 1 := W_hi eb 54 (by decide)
  rw [h, ew51, ew46, ew40, ew38]
  decide +kernel
theorem ew55 : W eb 55 = 8192#32 := by
  have h : W eb 55 = rot (((W eb 52 ^^^ W eb 47) ^^^ W eb 41) ^^^ W eb 39) 1 := W_hi eb 55 (by decide)
  rw [h, ew52, ew47, ew41, ew39]
  decide +kernel
theorem ew56 : W eb 56 = 1640#32 := by
  have h : W eb 56 = rot (((W eb 53 ^^^ W eb 48) ^^^ W eb 42) ^^^ W eb 40) 1 := W_hi eb 56 (by decide)
  rw [h, ew53, ew48, ew42, ew40]
  decide +kernel
theorem ew57 : W eb 57 = 128#32 := by
  have h : W eb 57 = rot (((W eb 54 ^^^ W eb 49) ^^^ W eb 43) ^^^ W eb 41) 1 := W_hi eb 57 (by decide)
  rw [h, ew54, ew49, ew43, ew41]
  decide +kernel
theorem ew58 : W eb 58 = 16520#32 := by
  have h : W eb 58 = rot (((W eb 55 ^^^ W eb 50) ^^^ W eb 44) ^^^ W eb 42) 1 := W_hi eb 58 (by decide)
  rw [h, ew55, ew50, ew44, ew42]
  decide +kernel
theorem ew59 : W eb 59 = 2176#32 := by
  have h : W eb 59 = rot (((W eb 56 ^^^ W eb 51) ^^^ W eb 45) ^^^ W eb 43) 1 := W_hi eb 59 (by decide)
  rw [h, ew56, ew51, ew45, ew43]
  decide +kernel
theorem ew60 : W eb 60 = 10440#32 := by
  have h : W eb 60 = rot (((W eb 57 ^^^ W eb 52) ^^^ W eb 46) ^^^ W eb 44) 1 := W_hi eb 60 (by decide)
  rw [h, ew57, ew52, ew46, ew44]
  decide +kernel
theorem ew61 : W eb 61 = 32768#32 := by
  have h : W eb 61 = rot (((W eb 58 ^^^ W eb 53) ^^^ W eb 47) ^^^ W eb 45) 1 := W_hi eb 61 (by decide)
  rw [h, ew58, ew53, ew47, ew45]
  decide +kernel
theorem ew62 : W eb 62 = 2216#32 := by
  have h : W eb 62 = rot (((W eb 59 ^^^ W eb 54) ^^^ W eb 48) ^^^ W eb 46) 1 := W_hi eb 62 (by decide)
  rw [h, ew59, ew54, ew48, ew46]
  decide +kernel
theorem ew63 : W eb 63 = 128#32 := by
  have h : W eb 63 = rot (((W eb 60 ^^^ W eb 55) ^^^ W eb 49) ^^^ W eb 47) 1 := W_hi eb 63 (by decide)
  rw [h, ew60, ew55, ew49, ew47]
  decide +kernel
theorem ew64 : W eb 64 = 67816#32 := by
  have h : W eb 64 = rot (((W eb 61 ^^^ W eb 56) ^^^ W eb 50) ^^^ W eb 48) 1 := W_hi eb 64 (by decide)
  rw [h, ew61, ew56, ew50, ew48]
  decide +kernel
theorem ew65 : W eb 65 = 0#32 := by
  have h : W eb 65 = rot (((W eb 62 ^^^ W eb 57) ^^^ W eb 51) ^^^ W eb 49) 1 := W_hi eb 65 (by decide)
  rw [h, ew62, ew57, ew51, ew49]
  decide +kernel
theorem ew66 : W eb 66 = 40960#32 := by
  have h : W eb 66 = rot (((W eb 63 ^^^ W eb 58) ^^^ W eb 52) ^^^ W eb 50) 1 := W_hi eb 66 (by decide)
  rw [h, ew63, ew58, ew52, ew50]
  decide +kernel
theorem ew67 : W eb 67 = 131200#32 := by
  have h : W eb 67 = rot (((W eb 64 ^^^ W eb 59) ^^^ W eb 53) ^^^ W eb 51) 1 := W_hi eb 67 (by decide)
  rw [h, ew64, ew59, ew53, ew51]
  decide +kernel
theorem ew68 : W eb 68 = 25600#32 := by
  have h : W eb 68 = rot (((W eb 65 ^^^ W eb 60) ^^^ W eb 54) ^^^ W eb 52) 1 := W_hi eb 68 (by decide)
  rw [h, ew65, ew60, ew54, ew52]
  decide +kernel
theorem ew69 : W eb 69 = 0#32 := by
  have h : W eb 69 = rot (((W eb 66 ^^^ W eb 61) ^^^ W eb 55) ^^^ W eb 53) 1 := W_hi eb 69 (by decide)
  rw [h, ew66, ew61, ew55, ew53]
  decide +kernel
theorem ew70 : W eb 70 = 264192#32 := by
  have h : W eb 70 = rot (((W eb 67 ^^^ W eb 62) ^^^ W eb 56) ^^^ W eb 54) 1 := W_hi eb 70 (by decide)
  rw [h, ew67, ew62, ew56, ew54]
  decide +kernel
theorem ew71 : W eb 71 = 34816#32 := by
  have h : W eb 71 = rot (((W eb 68 ^^^ W eb 63) ^^^ W eb 57) ^^^ W eb 55) 1 := W_hi eb 71 (by decide)
  rw [h, ew68, ew63, ew57, ew55]
  decide +kernel
theorem ew72 : W eb 72 = 171024#32 := by
  have h : W eb 72 = rot (((W eb 69 ^^^ W eb 64) ^^^ W eb 58) ^^^ W eb 56) 1 := W_hi eb 72 (by decide)
  rw [h, ew69, ew64, ew58, ew56]
  decide +kernel
theorem ew73 : W eb 73 = 524288#32 := by
  have h : W eb 73 = rot (((W eb 70 ^^^ W eb 65) ^^^ W eb 59) ^^^ W eb 57) 1 := W_hi eb 73 (by decide)
  rw [h, ew70, ew65, ew59, ew57]
  decide +kernel
theorem ew74 : W eb 74 = 32896#32 := by
  have h : W eb 74 = rot (((W eb 71 ^^^ W eb 66) ^^^ W eb 60) ^^^ W eb 58) 1 := W_hi eb 74 (by decide)
  rw [h, ew71, ew66, ew60, ew58]
  decide +kernel
theorem ew75 : W eb 75 = 10272#32 := by
  have h : W eb 75 = rot (((W eb 72 ^^^ W eb 67) ^^^ W eb 61) ^^^ W eb 59) 1 := W_hi eb 75 (by decide)
  rw [h, ew72, ew67, ew61, ew59]
  decide +kernel
theorem ew76 : W eb 76 = 1083584#32 := by
  have h : W eb 76 = rot (((W eb 73 ^^^ W eb 68) ^^^ W eb 62) ^^^ W eb 60) 1 := W_hi eb 76 (by decide)
  rw [h, ew73, ew68, ew62, ew60]
  decide +kernel
theorem ew77 : W eb 77 = 0#32 := by
  have h : W eb 77 = rot (((W eb 74 ^^^ W eb 69) ^^^ W eb 63) ^^^ W eb 61) 1 := W_hi eb 77 (by decide)
  rw [h, ew74, ew69, ew63, ew61]
  decide +kernel
theorem ew78 : W eb 78 = 671936#32 := by
  have h : W eb 78 = rot (((W eb 75 ^^^ W eb 70) ^^^ W eb 64) ^^^ W eb 62) 1 := W_hi eb 78 (by decide)
  rw [h, ew75, ew70, ew64, ew62]
  decide +kernel
theorem ew79 : W eb 79 = 2097280#32 := by
  have h : W eb 79 = rot (((W eb 76 ^^^ W eb 71) ^^^ W eb 65) ^^^ W eb 63) 1 := W_hi eb 79 (by decide)
  rw [h, ew76, ew71, ew65, ew63]
  decide +kernel
theorem er0 : rounds init eb 0 = ⟨1732584193#32, 4023233417#32, 2562383102#32, 271733878#32, 3285377520#32⟩ := rfl
theorem er1 : rounds init eb 1 = ⟨531929267#32, 1732584193#32, 2079550178#32, 2562383102#32, 271733878#32⟩ := by
  have h : rounds init eb 1 = step (rounds init eb 0) (mixF 0 (rounds init eb 0).b (rounds init eb 0).c (rounds init eb 0).d) (mixK 0) (W eb 0) := rfl
  rw [h, er0, ew0]
  rfl
theorem er2 : rounds init eb 2 = ⟨1564730224#32, 531929267#32, 1506887872#32, 2079550178#32, 2562383102#32⟩ := by
  have h : rounds init eb 2 = step (rounds init eb 1) (mixF 1 (rounds init eb 1).b (rounds init eb 1).c (rounds init eb 1).d) (mixK 1) (W eb 1) := rfl
  rw [h, er1, ew1]
  rfl
theorem er3 : rounds init eb 3 = ⟨361574242#32, 1564730224#32, 3354207788#32, 1506887872#32, 2079550178#32⟩ := by
  have h : rounds init eb 3 = step (rounds init eb 2) (mixF 2 (rounds init eb 2).b (rounds init eb 2).c (rounds init eb 2).d) (mixK 2) (W eb 2) := rfl
  rw [h, er2, ew2]
  rfl
theorem er4 : rounds init eb 4 = ⟨3454860125#32, 361574242#32, 391182556#32, 3354207788#32, 1506887872#32⟩ := by
  have h : rounds init eb 4 = step (rounds init eb 3) (mixF 3 (rounds init eb 3).b (rounds init eb 3).c (rounds init eb 3).d) (mixK 3) (W eb 3) := rfl
  rw [h, er3, ew3]
  rfl
theorem er5 : rounds init eb 5 = ⟨1230198366#32, 3454860125#32, 2237877208#32, 391182556#32, 3354207788#32⟩ := by
  have h : rounds init eb 5 = step (rounds init eb 4) (mixF 4 (rounds init eb 4).b (rounds init eb 4).c (rounds init eb 4).d) (mixK 4) (W eb 4) := rfl
  rw [h, er4, ew4]
  rfl
theorem er6 : rounds init eb 6 = ⟨3830101862#32, 1230198366#32, 1937456855#32, 2237877208#32, 391182556#32⟩ := by
  have h : rounds init eb 6 = step (rounds init eb 5) (mixF 5 (rounds init eb 5).b (rounds init eb 5).c (rounds init eb 5).d) (mixK 5) (W eb 5) := rfl
  rw [h, er5, ew5]
  rfl
theorem er7 : rounds init eb 7 = ⟨3231547175#32, 3830101862#32, 2455033239#32, 1937456855#32, 2237877208#32⟩ := by
  have h : rounds init eb 7 = step (rounds init eb 6) (mixF 6 (rounds init eb 6).b (rounds init eb 6).c (rounds init eb 6).d) (mixK 6) (W eb 6) := rfl
  rw [h, er6, ew6]
  rfl
theorem er8 : rounds init eb 8 = ⟨2265401344#32, 3231547175#32, 3105009113#32, 2455033239#32, 1937456855#32⟩ := by
  have h : rounds init eb 8 = step (rounds init eb 7) (mixF 7 (rounds init eb 7).b (rounds init eb 7).c (rounds init eb 7).d) (mixK 7) (W eb 7) := rfl
  rw [h, er7, ew7]
  rfl
theorem er9 : rounds init eb 9 = ⟨1094149649#32, 2265401344#32, 4029112265#32, 3105009113#32, 2455033239#32⟩ := by
  have h : rounds init eb 9 = step (rounds init eb 8) (mixF 8 (rounds init eb 8).b (rounds init eb 8).c (rounds init eb 8).d) (mixK 8) (W eb 8) := rfl
  rw [h, er8, ew8]
  rfl
theorem er10 : rounds init eb 10 = ⟨3420192561#32, 1094149649#32, 566350336#32, 4029112265#32, 3105009113#32⟩ := by
  have h : rounds init eb 10 = step (rounds init eb 9) (mixF 9 (rounds init eb 9).b (rounds init eb 9).c (rounds init eb 9).d) (mixK 9) (W eb 9) := rfl
  rw [h, er9, ew9]
  rfl
theorem er11 : rounds init eb 11 = ⟨1075210611#32, 3420192561#32, 1347279236#32, 566350336#32, 4029112265#32⟩ := by
  have h : rounds init eb 11 = step (rounds init eb 10) (mixF 10 (rounds init eb 10).b (rounds init eb 10).c (rounds init eb 10).d) (mixK 10) (W eb 10) := rfl
  rw [h, er10, ew10]
  rfl
theorem er12 : rounds init eb 12 = ⟨2915098826#32, 1075210611#32, 1928789964#32, 1347279236#32, 566350336#32⟩ := by
  have h : rounds init eb 12 = step (rounds init eb 11) (mixF 11 (rounds init eb 11).b (rounds init eb 11).c (rounds init eb 11).d) (mixK 11) (W eb 11) := rfl
  rw [h, er11, ew11]
  rfl
theorem er13 : rounds init eb 13 = ⟨2227199666#32, 2915098826#32, 3490028124#32, 1928789964#32, 1347279236#32⟩ := by
  have h : rounds init eb 13 = step (rounds init eb 12) (mixF 12 (rounds init eb 12).b (rounds init eb 12).c (rounds init eb 12).d) (mixK 12) (W eb 12) := rfl
  rw [h, er12, ew12]
  rfl
theorem er14 : rounds init eb 14 = ⟨353552569#32, 2227199666#32, 2876258354#32, 3490028124#32, 1928789964#32⟩ := by
  have h : rounds init eb 14 = step (rounds init eb 13) (mixF 13 (rounds init eb 13).b (rounds init eb 13).c (rounds init eb 13).d) (mixK 13) (W eb 13) := rfl
  rw [h, er13, ew13]
  rfl
theorem er15 : rounds init eb 15 = ⟨1075325189#32, 353552569#32, 2704283564#32, 2876258354#32, 3490028124#32⟩ := by
  have h : rounds init eb 15 = step (rounds init eb 14) (mixF 14 (rounds init eb 14).b (rounds init eb 14).c (rounds init eb 14).d) (mixK 14) (W eb 14) := rfl
  rw [h, er14, ew14]
  rfl
theorem er16 : rounds init eb 16 = ⟨3640485191#32, 1075325189#32, 1162129966#32, 2704283564#32, 2876258354#32⟩ := by
  have h : rounds init eb 16 = step (rounds init eb 15) (mixF 15 (rounds init eb 15).b (rounds init eb 15).c (rounds init eb 15).d) (mixK 15) (W eb 15) := rfl
  rw [h, er15, ew15]
  rfl
theorem er17 : rounds init eb 17 = ⟨113217907#32, 3640485191#32, 1342573121#32, 1162129966#32, 2704283564#32⟩ := by
  have h : rounds init eb 17 = step (rounds init eb 16) (mixF 16 (rounds init eb 16).b (rounds init eb 16).c (rounds init eb 16).d) (mixK 16) (W eb 16) := rfl
  rw [h, er16, ew16]
  rfl
theorem er18 : rounds init eb 18 = ⟨682185230#32, 113217907#32, 4131346769#32, 1342573121#32, 1162129966#32⟩ := by
  have h : rounds init eb 18 = step (rounds init eb 17) (mixF 17 (rounds init eb 17).b (rounds init eb 17).c (rounds init eb 17).d) (mixK 17) (W eb 17) := rfl
  rw [h, er17, ew17]
  rfl
theorem er19 : rounds init eb 19 = ⟨187730141#32, 682185230#32, 3249529948#32, 4131346769#32, 1342573121#32⟩ := by
  have h : rounds init eb 19 = step (rounds init eb 18) (mixF 18 (rounds init eb 18).b (rounds init eb 18).c (rounds init eb 18).d) (mixK 18) (W eb 18) := rfl
  rw [h, er18, ew18]
  rfl
theorem er20 : rounds init eb 20 = ⟨3881363674#32, 187730141#32, 2318029955#32, 3249529948#32, 4131346769#32⟩ := by
  have h : rounds init eb 20 = step (rounds init eb 19) (mixF 19 (rounds init eb 19).b (rounds init eb 19).c (rounds init eb 19).d) (mixK 19) (W eb 19) := rfl
  rw [h, er19, ew19]
  rfl
theorem er21 : rounds init eb 21 = ⟨2431359056#32, 3881363674#32, 1120674359#32, 2318029955#32, 3249529948#32⟩ := by
  have h : rounds init eb 21 = step (rounds init eb 20) (mixF 20 (rounds init eb 20).b (rounds init eb 20).c (rounds init eb 20).d) (mixK 20) (W eb 20) := rfl
  rw [h, er20, ew20]
  rfl
theorem er22 : rounds init eb 22 = ⟨2109438077#32, 2431359056#32, 3117824566#32, 1120674359#32, 2318029955#32⟩ := by
  have h : rounds init eb 22 = step (rounds init eb 21) (mixF 21 (rounds init eb 21).b (rounds init eb 21).c (rounds init eb 21).d) (mixK 21) (W eb 21) := rfl
  rw [h, er21, ew21]
  rfl
theorem er23 : rounds init eb 23 = ⟨476368936#32, 2109438077#32, 607839764#32, 3117824566#32, 1120674359#32⟩ := by
  have h : rounds init eb 23 = step (rounds init eb 22) (mixF 22 (rounds init eb 22).b (rounds init eb 22).c (rounds init eb 22).d) (mixK 22) (W eb 22) := rfl
  rw [h, er22, ew22]
  rfl
theorem er24 : rounds init eb 24 = ⟨513259322#32, 476368936#32, 1601101343#32, 607839764#32, 3117824566#32⟩ := by
  have h : rounds init eb 24 = step (rounds init eb 23) (mixF 23 (rounds init eb 23).b (rounds init eb 23).c (rounds init eb 23).d) (mixK 23) (W eb 23) := rfl
  rw [h, er23, ew23]
  rfl
theorem er25 : rounds init eb 25 = ⟨1658320191#32, 513259322#32, 119092234#32, 1601101343#32, 607839764#32⟩ := by
  have h : rounds init eb 25 = step (rounds init eb 24) (mixF 24 (rounds init eb 24).b (rounds init eb 24).c (rounds init eb 24).d) (mixK 24) (W eb 24) := rfl
  rw [h, er24, ew24]
  rfl
theorem er26 : rounds init eb 26 = ⟨888395480#32, 1658320191#32, 2275798478#32, 119092234#32, 1601101343#32⟩ := by
  have h : rounds init eb 26 = step (rounds init eb 25) (mixF 25 (rounds init eb 25).b (rounds init eb 25).c (rounds init eb 25).d) (mixK 25) (W eb 25) := rfl
  rw [h, er25, ew25]
  rfl
theorem er27 : rounds init eb 27 = ⟨1328468417#32, 888395480#32, 3635805519#32, 2275798478#32, 119092234#32⟩ := by
  have h : rounds init eb 27 = step (rounds init eb 26) (mixF 26 (rounds init eb 26).b (rounds init eb 26).c (rounds init eb 26).d) (mixK 26) (W eb 26) := rfl
  rw [h, er26, ew26]
  rfl
theorem er28 : rounds init eb 28 = ⟨3350273581#32, 1328468417#32, 222098870#32, 3635805519#32, 2275798478#32⟩ := by
  have h : rounds init eb 28 = step (rounds init eb 27) (mixF 27 (rounds init eb 27).b (rounds init eb 27).c (rounds init eb 27).d) (mixK 27) (W eb 27) := rfl
  rw [h, er27, ew27]
  rfl
theorem er29 : rounds init eb 29 = ⟨2269870191#32, 3350273581#32, 1405858928#32, 222098870#32, 3635805519#32⟩ := by
  have h : rounds init eb 29 = step (rounds init eb 28) (mixF 28 (rounds init eb 28).b (rounds init eb 28).c (rounds init eb 28).d) (mixK 28) (W eb 28) := rfl
  rw [h, er28, ew28]
  rfl
theorem er30 : rounds init eb 30 = ⟨3393541835#32, 2269870191#32, 1911310219#32, 1405858928#32, 222098870#32⟩ := by
  have h : rounds init eb 30 = step (rounds init eb 29) (mixF 29 (rounds init eb 29).b (rounds init eb 29).c (rounds init eb 29).d) (mixK 29) (W eb 29) := rfl
  rw [h, er29, ew29]
  rfl
theorem er31 : rounds init eb 31 = ⟨1781417582#32, 3393541835#32, 3788693019#32, 1911310219#32, 1405858928#32⟩ := by
  have h : rounds init eb 31 = step (rounds init eb 30) (mixF 30 (rounds init eb 30).b (rounds init eb 30).c (rounds init eb 30).d) (mixK 30) (W eb 30) := rfl
  rw [h, er30, ew30]
  rfl
theorem er32 : rounds init eb 32 = ⟨1659518297#32, 1781417582#32, 4069610930#32, 3788693019#32, 1911310219#32⟩ := by
  have h : rounds init eb 32 = step (rounds init eb 31) (mixF 31 (rounds init eb 31).b (rounds init eb 31).c (rounds init eb 31).d) (mixK 31) (W eb 31) := rfl
  rw [h, er31, ew31]
  rfl
theorem er33 : rounds init eb 33 = ⟨3078335525#32, 1659518297#32, 2592838043#32, 4069610930#32, 3788693019#32⟩ := by
  have h : rounds init eb 33 = step (rounds init eb 32) (mixF 32 (rounds init eb 32).b (rounds init eb 32).c (rounds init eb 32).d) (mixK 32) (W eb 32) := rfl
  rw [h, er32, ew32]
  rfl
theorem er34 : rounds init eb 34 = ⟨1259554786#32, 3078335525#32, 1488621398#32, 2592838043#32, 4069610930#32⟩ := by
  have h : rounds init eb 34 = step (rounds init eb 33) (mixF 33 (rounds init eb 33).b (rounds init eb 33).c (rounds init eb 33).d) (mixK 33) (W eb 33) := rfl
  rw [h, er33, ew33]
  rfl
theorem er35 : rounds init eb 35 = ⟨958329028#32, 1259554786#32, 1843325705#32, 1488621398#32, 2592838043#32⟩ := by
  have h : rounds init eb 35 = step (rounds init eb 34) (mixF 34 (rounds init eb 34).b (rounds init eb 34).c (rounds init eb 34).d) (mixK 34) (W eb 34) := rfl
  rw [h, er34, ew34]
  rfl
theorem er36 : rounds init eb 36 = ⟨2881141128#32, 958329028#32, 2462372344#32, 1843325705#32, 1488621398#32⟩ := by
  have h : rounds init eb 36 = step (rounds init eb 35) (mixF 35 (rounds init eb 35).b (rounds init eb 35).c (rounds init eb 35).d) (mixK 35) (W eb 35) := rfl
  rw [h, er35, ew35]
  rfl
theorem er37 : rounds init eb 37 = ⟨82867817#32, 2881141128#32, 239582257#32, 2462372344#32, 1843325705#32⟩ := by
  have h : rounds init eb 37 = step (rounds init eb 36) (mixF 36 (rounds init eb 36).b (rounds init eb 36).c (rounds init eb 36).d) (mixK 36) (W eb 36) := rfl
  rw [h, er36, ew36]
  rfl
theorem er38 : rounds init eb 38 = ⟨2986440843#32, 82867817#32, 720285282#32, 239582257#32, 2462372344#32⟩ := by
  have h : rounds init eb 38 = step (rounds init eb 37) (mixF 37 (rounds init eb 37).b (rounds init eb 37).c (rounds init eb 37).d) (mixK 37) (W eb 37) := rfl
  rw [h, er37, ew37]
  rfl
theorem er39 : rounds init eb 39 = ⟨1646736209#32, 2986440843#32, 1094458778#32, 720285282#32, 239582257#32⟩ := by
  have h : rounds init eb 39 = step (rounds init eb 38) (mixF 38 (rounds init eb 38).b (rounds init eb 38).c (rounds init eb 38).d) (mixK 38) (W eb 38) := rfl
  rw [h, er38, ew38]
  rfl
theorem er40 : rounds init eb 40 = ⟨2614877553#32, 1646736209#32, 3967835682#32, 1094458778#32, 720285282#32⟩ := by
  have h : rounds init eb 40 = step (rounds init eb 39) (mixF 39 (rounds init eb 39).b (rounds init eb 39).c (rounds init eb 39).d) (mixK 39) (W eb 39) := rfl
  rw [h, er39, ew39]
  rfl
theorem er41 : rounds init eb 41 = ⟨2510961035#32, 2614877553#32, 1485425876#32, 3967835682#32, 1094458778#32⟩ := by
  have h : rounds init eb 41 = step (rounds init eb 40) (mixF 40 (rounds init eb 40).b (rounds init eb 40).c (rounds init eb 40).d) (mixK 40) (W eb 40) := rfl
  rw [h, er40, ew40]
  rfl
theorem er42 : rounds init eb 42 = ⟨1579739224#32, 2510961035#32, 1727461212#32, 1485425876#32, 3967835682#32⟩ := by
  have h : rounds init eb 42 = step (rounds init eb 41) (mixF 41 (rounds init eb 41).b (rounds init eb 41).c (rounds init eb 41).d) (mixK 41) (W eb 41) := rfl
  rw [h, er41, ew41]
  rfl
theorem er43 : rounds init eb 43 = ⟨2506368133#32, 1579739224#32, 3848965730#32, 1727461212#32, 1485425876#32⟩ := by
  have h : rounds init eb 43 = step (rounds init eb 42) (mixF 42 (rounds init eb 42).b (rounds init eb 42).c (rounds init eb 42).d) (mixK 42) (W eb 42) := rfl
  rw [h, er42, ew42]
  rfl
theorem er44 : rounds init eb 44 = ⟨4204071610#32, 2506368133#32, 394934806#32, 3848965730#32, 1727461212#32⟩ := by
  have h : rounds init eb 44 = step (rounds init eb 43) (mixF 43 (rounds init eb 43).b (rounds init eb 43).c (rounds init eb 43).d) (mixK 43) (W eb 43) := rfl
  rw [h, er43, ew43]
  rfl
theorem er45 : rounds init eb 45 = ⟨3726522881#32, 4204071610#32, 1700333857#32, 394934806#32, 3848965730#32⟩ := by
  have h : rounds init eb 45 = step (rounds init eb 44) (mixF 44 (rounds init eb 44).b (rounds init eb 44).c (rounds init eb 44).d) (mixK 44) (W eb 44) := rfl
  rw [h, er44, ew44]
  rfl
theorem er46 : rounds init eb 46 = ⟨2951124395#32, 3726522881#32, 3198501550#32, 1700333857#32, 394934806#32⟩ := by
  have h : rounds init eb 46 = step (rounds init eb 45) (mixF 45 (rounds init eb 45).b (rounds init eb 45).c (rounds init eb 45).d) (mixK 45) (W eb 45) := rfl
  rw [h, er45, ew45]
  rfl
theorem er47 : rounds init eb 47 = ⟨2710944400#32, 2951124395#32, 2005372544#32, 3198501550#32, 1700333857#32⟩ := by
  have h : rounds init eb 47 = step (rounds init eb 46) (mixF 46 (rounds init eb 46).b (rounds init eb 46).c (rounds init eb 46).d) (mixK 46) (W eb 46) := rfl
  rw [h, er46, ew46]
  rfl
theorem er48 : rounds init eb 48 = ⟨3872628547#32, 2710944400#32, 3959006570#32, 2005372544#32, 3198501550#32⟩ := by
  have h : rounds init eb 48 = step (rounds init eb 47) (mixF 47 (rounds init eb 47).b (rounds init eb 47).c (rounds init eb 47).d) (mixK 47) (W eb 47) := rfl
  rw [h, er47, ew47]
  rfl
theorem er49 : rounds init eb 49 = ⟨197826850#32, 3872628547#32, 677736100#32, 3959006570#32, 2005372544#32⟩ := by
  have h : rounds init eb 49 = step (rounds init eb 48) (mixF 48 (rounds init eb 48).b (rounds init eb 48).c (rounds init eb 48).d) (mixK 48) (W eb 48) := rfl
  rw [h, er48, ew48]
  rfl
theorem er50 : rounds init eb 50 = ⟨1793599231#32, 197826850#32, 4189382608#32, 677736100#32, 3959006570#32⟩ := by
  have h : rounds init eb 50 = step (rounds init eb 49) (mixF 49 (rounds init eb 49).b (rounds init eb 49).c (rounds init eb 49).d) (mixK 49) (W eb 49) := rfl
  rw [h, er49, ew49]
  rfl
theorem er51 : rounds init eb 51 = ⟨33501779#32, 1793599231#32, 2196940360#32, 4189382608#32, 677736100#32⟩ := by
  have h : rounds init eb 51 = step (rounds init eb 50) (mixF 50 (rounds init eb 50).b (rounds init eb 50).c (rounds init eb 50).d) (mixK 50) (W eb 50) := rfl
  rw [h, er50, ew50]
  rfl
theorem er52 : rounds init eb 52 = ⟨3797425376#32, 33501779#32, 3669625279#32, 2196940360#32, 4189382608#32⟩ := by
  have h : rounds init eb 52 = step (rounds init eb 51) (mixF 51 (rounds init eb 51).b (rounds init eb 51).c (rounds init eb 51).d) (mixK 51) (W eb 51) := rfl
  rw [h, er51, ew51]
  rfl
theorem er53 : rounds init eb 53 = ⟨1456370603#32, 3797425376#32, 3229600916#32, 3669625279#32, 2196940360#32⟩ := by
  have h : rounds init eb 53 = step (rounds init eb 52) (mixF 52 (rounds init eb 52).b (rounds init eb 52).c (rounds init eb 52).d) (mixK 52) (W eb 52) := rfl
  rw [h, er52, ew52]
  rfl
theorem er54 : rounds init eb 54 = ⟨2924930370#32, 1456370603#32, 949356344#32, 3229600916#32, 3669625279#32⟩ := by
  have h : rounds init eb 54 = step (rounds init eb 53) (mixF 53 (rounds init eb 53).b (rounds init eb 53).c (rounds init eb 53).d) (mixK 53) (W eb 53) := rfl
  rw [h, er53, ew53]
  rfl
theorem er55 : rounds init eb 55 = ⟨2240856296#32, 2924930370#32, 3585318122#32, 949356344#32, 3229600916#32⟩ := by
  have h : rounds init eb 55 = step (rounds init eb 54) (mixF 54 (rounds init eb 54).b (rounds init eb 54).c (rounds init eb 54).d) (mixK 54) (W eb 54) := rfl
  rw [h, er54, ew54]
  rfl
theorem er56 : rounds init eb 56 = ⟨3192540138#32, 2240856296#32, 2878716240#32, 3585318122#32, 949356344#32⟩ := by
  have h : rounds init eb 56 = step (rounds init eb 55) (mixF 55 (rounds init eb 55).b (rounds init eb 55).c (rounds init eb 55).d) (mixK 55) (W eb 55) := rfl
  rw [h, er55, ew55]
  rfl
theorem er57 : rounds init eb 57 = ⟨378331323#32, 3192540138#32, 560214074#32, 2878716240#32, 3585318122#32⟩ := by
  have h : rounds init eb 57 = step (rounds init eb 56) (mixF 56 (rounds init eb 56).b (rounds init eb 56).c (rounds init eb 56).d) (mixK 56) (W eb 56) := rfl
  rw [h, er56, ew56]
  rfl
theorem er58 : rounds init eb 58 = ⟨3786386210#32, 378331323#32, 2945618682#32, 560214074#32, 2878716240#32⟩ := by
  have h : rounds init eb 58 = step (rounds init eb 57) (mixF 57 (rounds init eb 57).b (rounds init eb 57).c (rounds init eb 57).d) (mixK 57) (W eb 57) := rfl
  rw [h, er57, ew57]
  rfl
theorem er59 : rounds init eb 59 = ⟨2553007050#32, 3786386210#32, 3315808302#32, 2945618682#32, 560214074#32⟩ := by
  have h : rounds init eb 59 = step (rounds init eb 58) (mixF 58 (rounds init eb 58).b (rounds init eb 58).c (rounds init eb 58).d) (mixK 58) (W eb 58) := rfl
  rw [h, er58, ew58]
  rfl
theorem er60 : rounds init eb 60 = ⟨2610768147#32, 2553007050#32, 3094080200#32, 3315808302#32, 2945618682#32⟩ := by
  have h : rounds init eb 60 = step (rounds init eb 59) (mixF 59 (rounds init eb 59).b (rounds init eb 59).c (rounds init eb 59).d) (mixK 59) (W eb 59) := rfl
  rw [h, er59, ew59]
  rfl
theorem er61 : rounds init eb 61 = ⟨3548231991#32, 2610768147#32, 2785735410#32, 3094080200#32, 3315808302#32⟩ := by
  have h : rounds init eb 61 = step (rounds init eb 60) (mixF 60 (rounds init eb 60).b (rounds init eb 60).c (rounds init eb 60).d) (mixK 60) (W eb 60) := rfl
  rw [h, er60, ew60]
  rfl
theorem er62 : rounds init eb 62 = ⟨2243547687#32, 3548231991#32, 3873917508#32, 2785735410#32, 3094080200#32⟩ := by
  have h : rounds init eb 62 = step (rounds init eb 61) (mixF 61 (rounds init eb 61).b (rounds init eb 61).c (rounds init eb 61).d) (mixK 61) (W eb 61) := rfl
  rw [h, er61, ew61]
  rfl
theorem er63 : rounds init eb 63 = ⟨3449355191#32, 2243547687#32, 4108283469#32, 3873917508#32, 2785735410#32⟩ := by
  have h : rounds init eb 63 = step (rounds init eb 62) (mixF 62 (rounds init eb 62).b (rounds init eb 62).c (rounds init eb 62).d) (mixK 62) (W eb 62) := rfl
  rw [h, er62, ew62]
  rfl
theorem er64 : rounds init eb 64 = ⟨3138331247#32, 3449355191#32, 3782112393#32, 4108283469#32, 3873917508#32⟩ := by
  have h : rounds init eb 64 = step (rounds init eb 63) (mixF 63 (rounds init eb 63).b (rounds init eb 63).c (rounds init eb 63).d) (mixK 63) (W eb 63) := rfl
  rw [h, er63, ew63]
  rfl
theorem er65 : rounds init eb 65 = ⟨3948495980#32, 3138331247#32, 4083564269#32, 3782112393#32, 4108283469#32⟩ := by
  have h : rounds init eb 65 = step (rounds init eb 64) (mixF 64 (rounds init eb 64).b (rounds init eb 64).c (rounds init eb 64).d) (mixK 64) (W eb 64) := rfl
  rw [h, er64, ew64]
  rfl
theorem er66 : rounds init eb 66 = ⟨3547473355#32, 3948495980#32, 4005808283#32, 4083564269#32, 3782112393#32⟩ := by
  have h : rounds init eb 66 = step (rounds init eb 65) (mixF 65 (rounds init eb 65).b (rounds init eb 65).c (rounds init eb 65).d) (mixK 65) (W eb 65) := rfl
  rw [h, er65, ew65]
  rfl
theorem er67 : rounds init eb 67 = ⟨286474739#32, 3547473355#32, 987123995#32, 4005808283#32, 4083564269#32⟩ := by
  have h : rounds init eb 67 = step (rounds init eb 66) (mixF 66 (rounds init eb 66).b (rounds init eb 66).c (rounds init eb 66).d) (mixK 66) (W eb 66) := rfl
  rw [h, er66, ew66]
  rfl
theorem er68 : rounds init eb 68 = ⟨3885693936#32, 286474739#32, 4108093810#32, 987123995#32, 4005808283#32⟩ := by
  have h : rounds init eb 68 = step (rounds init eb 67) (mixF 67 (rounds init eb 67).b (rounds init eb 67).c (rounds init eb 67).d) (mixK 67) (W eb 67) := rfl
  rw [h, er67, ew67]
  rfl
theorem er69 : rounds init eb 69 = ⟨2342520359#32, 3885693936#32, 3292844156#32, 4108093810#32, 987123995#32⟩ := by
  have h : rounds init eb 69 = step (rounds init eb 68) (mixF 68 (rounds init eb 68).b (rounds init eb 68).c (rounds init eb 68).d) (mixK 68) (W eb 68) := rfl
  rw [h, er68, ew68]
  rfl
theorem er70 : rounds init eb 70 = ⟨1346140896#32, 2342520359#32, 971423484#32, 3292844156#32, 4108093810#32⟩ := by
  have h : rounds init eb 70 = step (rounds init eb 69) (mixF 69 (rounds init eb 69).b (rounds init eb 69).c (rounds init eb 69).d) (mixK 69) (W eb 69) := rfl
  rw [h, er69, ew69]
  rfl
theorem er71 : rounds init eb 71 = ⟨1020598265#32, 1346140896#32, 3806855561#32, 971423484#32, 3292844156#32⟩ := by
  have h : rounds init eb 71 = step (rounds init eb 70) (mixF 70 (rounds init eb 70).b (rounds init eb 70).c (rounds init eb 70).d) (mixK 70) (W eb 70) := rfl
  rw [h, er70, ew70]
  rfl
theorem er72 : rounds init eb 72 = ⟨3028147982#32, 1020598265#32, 336535224#32, 3806855561#32, 971423484#32⟩ := by
  have h : rounds init eb 72 = step (rounds init eb 71) (mixF 71 (rounds init eb 71).b (rounds init eb 71).c (rounds init eb 71).d) (mixK 71) (W eb 71) := rfl
  rw [h, er71, ew71]
  rfl
theorem er73 : rounds init eb 73 = ⟨1580861312#32, 3028147982#32, 1328891390#32, 336535224#32, 3806855561#32⟩ := by
  have h : rounds init eb 73 = step (rounds init eb 72) (mixF 72 (rounds init eb 72).b (rounds init eb 72).c (rounds init eb 72).d) (mixK 72) (W eb 72) := rfl
  rw [h, er72, ew72]
  rfl
theorem er74 : rounds init eb 74 = ⟨1675311026#32, 1580861312#32, 2904520643#32, 1328891390#32, 336535224#32⟩ := by
  have h : rounds init eb 74 = step (rounds init eb 73) (mixF 73 (rounds init eb 73).b (rounds init eb 73).c (rounds init eb 73).d) (mixK 73) (W eb 73) := rfl
  rw [h, er73, ew73]
  rfl
theorem er75 : rounds init eb 75 = ⟨367627543#32, 1675311026#32, 395215328#32, 2904520643#32, 1328891390#32⟩ := by
  have h : rounds init eb 75 = step (rounds init eb 74) (mixF 74 (rounds init eb 74).b (rounds init eb 74).c (rounds init eb 74).d) (mixK 74) (W eb 74) := rfl
  rw [h, er74, ew74]
  rfl
theorem er76 : rounds init eb 76 = ⟨2954138727#32, 367627543#32, 2566311404#32, 395215328#32, 2904520643#32⟩ := by
  have h : rounds init eb 76 = step (rounds init eb 75) (mixF 75 (rounds init eb 75).b (rounds init eb 75).c (rounds init eb 75).d) (mixK 75) (W eb 75) := rfl
  rw [h, er75, ew75]
  rfl
theorem er77 : rounds init eb 77 = ⟨347541610#32, 2954138727#32, 3313132357#32, 2566311404#32, 395215328#32⟩ := by
  have h : rounds init eb 77 = step (rounds init eb 76) (mixF 76 (rounds init eb 76).b (rounds init eb 76).c (rounds init eb 76).d) (mixK 76) (W eb 76) := rfl
  rw [h, er76, ew76]
  rfl
theorem er78 : rounds init eb 78 = ⟨1718324166#32, 347541610#32, 3959760153#32, 3313132357#32, 2566311404#32⟩ := by
  have h : rounds init eb 78 = step (rounds init eb 77) (mixF 77 (rounds init eb 77).b (rounds init eb 77).c (rounds init eb 77).d) (mixK 77) (W eb 77) := rfl
  rw [h, er77, ew77]
  rfl
theorem er79 : rounds init eb 79 = ⟨1855823748#32, 1718324166#32, 2234369050#32, 3959760153#32, 3313132357#32⟩ := by
  have h : rounds init eb 79 = step (rounds init eb 78) (mixF 78 (rounds init eb 78).b (rounds init eb 78).c (rounds init eb 78).d) (mixK 78) (W eb 78) := rfl
  rw [h, er78, ew78]
  rfl
theorem er80 : rounds init eb 80 = ⟨1928626413#32, 1855823748#32, 2577064689#32, 2234369050#32, 3959760153#32⟩ := by
  have h : rounds init eb 80 = step (rounds init eb 79) (mixF 79 (rounds init eb 79).b (rounds init eb 79).c (rounds init eb 79).d) (mixK 79) (W eb 79) := rfl
  rw [h, er79, ew79]
  rfl
theorem hs_empty : hs ([] ++ tail 0) = ⟨3661210606#32, 1584089869#32, 844480495#32, 2506102928#32, 2950170377#32⟩ := by
  unfold hs
  rw [show ([] ++ tail 0 : List UInt8).length / 64 = 1 from rfl, blocks_one]
  unfold block
  rw [show wb ([] ++ tail 0) = eb from rfl, er80]
  rfl
theorem sum_empty : sum [] = [218, 57, 163, 238, 94, 107, 75, 13, 50, 85, 191, 239, 149, 96, 24, 144, 175, 216, 7, 9] := by
  unfold sum
  rw [show ([] : List UInt8).length = 0 from rfl, hs_empty]
  rfl
theorem hex_empty : (⟨(Lib.Hx.encode (sum [])).toArray⟩ : ByteArray) = ⟨#[100, 97, 51, 57, 97, 51, 101, 101, 53, 101, 54, 98, 52, 98, 48, 100, 51, 50, 53, 53, 98, 102, 101, 102, 57, 53, 54, 48, 49, 56, 57, 48, 97, 102, 100, 56, 48, 55, 48, 57]⟩ := by
  rw [sum_empty]
  rfl
end Go.Proofs.Ytdlimgghcpbkcaa.sha
