/-
  Proved: the reference's Field, a part of it: a number.
  Conditions: a text of at most 4000 bytes.
-/
import Derived.Test.YtlcbcgillekphaaGreatDoorGf
namespace Go.Proofs.YtlcbcgillekphaaGreatDoor.sd
open Go.RowKit Mem rw ent
set_option linter.unusedVariables false
set_option linter.unusedSimpArgs false

set_option maxRecDepth 1000000 in
set_option maxHeartbeats 8000000 in
theorem sw_d (P X R : Nat) (s : ByteArray) (hs : s.size ≤ 4000) (w wx : World) (r : dm.Res (List UInt8 × Nat × List UInt8) × dm.M) (Q : Exit → Act → World → Prop) (hret : ∀ a w', (bodyPost Tryz.prog Tryz.f38 (FdOut P s r w)) .ret a w' → Q .ret a w') (o : List UInt8) (a2 f : Nat) (d : UInt8) (h : FS w P s R [.bool false, .int .i64 0, .int .i64 0, .bool false] X [.string ⟨o.toArray⟩, .int .i64 0, .string ⟨#[]⟩] 76 a2 2 f wx) (hf : f ≤ a2) (HT : Hid (s.data.toList[a2]? = some d)) (hnorm : ∀ (kd : Nat) (u : List UInt8) (x2 : Nat) (w' : World) (v1 v5 v6 v7 v8 v9 v10 v11 v12 v13 v14 v15 v16 v17 v18 v19 v20 v21 v22 v23 v24 v25 v26 v27 v28 v29 v30 v31 v32 v33 v34 v35 v36 v37 v38 v39 v40 v41 v42 v43 v44 v45 v46 v47 v48 v49 v50 v51 v52 v53 v54 v55 v56 v57 v58 v59 v60 v61 v62 v63 v64 v65 v66 v67 v68 v69 v70 v71 v72 v73 v74 v75 v76 v77 v78 v79 v80 v81 v82 v83 v84 v85 v86 v87 v88 v89 v90 v91 v92 v93 v94 v95 v96 v97 v98 v99 v100 v101 v102 v103 v104 v105 v106 v107 v108 v109 v110 v111 v112 v113 v114 v115 v116 v117 v118 v119 v120 v121 v122 v123 v124 v125 v126 v127 v128 v129 v130 v131 v132 v133 v134 v135 v136 v137 v138 v139 v140 v141 v142 v143 v144 v145 v146 v147 v148 v149 v150 v151 v152 v153 v154 v155 v156 v157 v158 v159 v160 v161 v162 v163 v164 v165 v166 v167 v168 v169 v170 v171 v172 v173 v174 v175 v176 v177 v178 v179 v180 v181 v182 v183 v184 v185 v186 v187 v188 v189 v190 v191 v192 v193 v194 v195 v196 v197 v198 v199 v200 v201 v202 v203 v204 v205 v206 v207 v208 v209 v210 v211 v212 v213 v214 v215 v216 v217 v218 v219 v220 v221 v222 v223 v224 v225 v226 v227 v228 v229 v230 v231 v232 v233 v234 v235 v236 v237 v238 v239 v240 v241 v242 v243 v244 v245 v246 v247 v248 v249 v250 v251 v252 v253 v254 v255 v256 v257 v258 v259 v260 v261 v262 v263 v264 : Value), a2 ≤ x2 → x2 ≤ s.size → Hid (dm.valueM s.data.toList ⟨a2, 2, f⟩ = (.inr (kd, u), ⟨x2, 2, f⟩)) → Hid (FS w P s R [.bool false, .int .i64 0, .int .i64 0, .bool false] X [.string ⟨o.toArray⟩, .int .i64 (kd : Nat), .string ⟨u.toArray⟩] 76 x2 2 f w') → Q .normal ⟨#[.pointer (some ⟨P, 0, none⟩), v1, .pointer (some ⟨X, 0, none⟩), .bool false, .pointer (some ⟨R, 0, none⟩), v5, v6, v7, v8, v9, v10, v11, v12, v13, v14, v15, v16, v17, v18, v19, v20, v21, v22, v23, v24, v25, v26, v27, v28, v29, v30, v31, v32, v33, v34, v35, v36, v37, v38, v39, v40, v41, v42, v43, v44, v45, v46, v47, v48, v49, v50, v51, v52, v53, v54, v55, v56, v57, v58, v59, v60, v61, v62, v63, v64, v65, v66, v67, v68, v69, v70, v71, v72, v73, v74, v75, v76, v77, v78, v79, v80, v81, v82, v83, v84, v85, v86, v87, v88, v89, v90, v91, v92, v93, v94, v95, v96, v97, v98, v99, v100, v101, v102, v103, v104, v105, v106, v107, v108, v109, v110, v111, v112, v113, v114, v115, v116, v117, v118, v119, v120, v121, v122, v123, v124, v125, v126, v127, v128, v129, v130, v131, v132, v133, v134, v135, v136, v137, v138, v139, v140, v141, v142, v143, v144, v145, v146, v147, v148, v149, v150, v151, v152, v153, v154, v155, v156, v157, v158, v159, v160, v161, v162, v163, v164, v165, v166, v167, v168, v169, v170, v171, v172, v173, v174, v175, v176, v177, v178, v179, v180, v181, v182, v183, v184, v185, v186, v187, v188, v189, v190, v191, v192, v193, v194, v195, v196, v197, v198, v199, v200, v201, v202, v203, v204, v205, v206, v207, v208, v209, v210, v211, v212, v213, v214, v215, v216, v217, v218, v219, v220, v221, v222, v223, v224, v225, v226, v227, v228, v229, v230, v231, v232, v233, v234, v235, v236, v237, v238, v239, v240, v241, v242, v243, v244, v245, v246, v247, v248, v249, v250, v251, v252, v253, v254, v255, v256, v257, v258, v259, v260, v261, v262, v263, v264], []⟩ w') (HB : Hid (∀ i m, dm.valueM s.data.toList ⟨a2, 2, f⟩ = (.inl i, m) → r = dm.flt s.data.toList m i)) (h34 : ¬ d = 34) (hbl : ¬ (d = 116 ∨ d = 84 ∨ d = 102 ∨ d = 70)) (hnm : d = 45 ∨ d = 46 ∨ (48 ≤ d.toNat ∧ d.toNat ≤ 57)) (u1 u5 u7 u8 u9 u10 u11 u12 u13 u14 u15 u16 u17 u18 u19 u20 u21 u22 u23 u24 u25 u26 u27 u28 u29 u30 u31 u32 u33 u34 u35 u36 u37 u38 u39 u40 u41 u42 u43 u44 u45 u46 u47 u48 u49 u50 u51 u52 u53 u54 u55 u56 u57 u58 u59 u60 u61 u62 u63 u64 u65 u66 u67 u68 u69 u70 u71 u72 u73 u74 u75 u76 u77 u78 u79 u80 u81 u82 u83 u84 u85 u86 u87 u88 u89 u90 u91 u92 u93 u94 u95 u96 u97 u98 u99 u100 u101 u102 u103 u104 u105 u106 u107 u108 u109 u110 u111 u112 u113 u114 u115 u116 u117 u118 u119 u120 u121 u122 u123 u124 u125 u126 u127 u128 u129 u130 u131 u132 u133 u134 u135 u136 u137 u138 u139 u140 u141 u142 u143 u144 u145 u146 u147 u148 u149 u150 u151 u152 u153 u154 u155 u156 u157 u158 u159 u160 u161 u162 u163 u164 u165 u166 u167 u168 u169 u170 u171 u172 u173 u174 u175 u176 u177 u178 u179 u180 u181 u182 u183 u184 u185 u186 u187 u188 u189 u190 u191 u192 u193 u194 u195 u196 u197 u198 u199 u200 u201 u202 u203 u204 u205 u206 u207 u208 u209 u210 u211 u212 u213 u214 u215 u216 u217 u218 u219 u220 u221 u222 u223 u224 u225 u226 u227 u228 u229 u230 u231 u232 u233 u234 u235 u236 u237 u238 u239 u240 u241 u242 u243 u244 u245 u246 u247 u248 u249 u250 u251 u252 u253 u254 u255 u256 u257 u258 u259 u260 u261 u262 u263 u264 : Value) :
    Code.wp Tryz.prog fSw Q ⟨#[.pointer (some ⟨P, 0, none⟩), u1, .pointer (some ⟨X, 0, none⟩), .bool false, .pointer (some ⟨R, 0, none⟩), u5, .int .u8 (d.toNat : Int), u7, u8, u9, u10, u11, u12, u13, u14, u15, u16, u17, u18, u19, u20, u21, u22, u23, u24, u25, u26, u27, u28, u29, u30, u31, u32, u33, u34, u35, u36, u37, u38, u39, u40, u41, u42, u43, u44, u45, u46, u47, u48, u49, u50, u51, u52, u53, u54, u55, u56, u57, u58, u59, u60, u61, u62, u63, u64, u65, u66, u67, u68, u69, u70, u71, u72, u73, u74, u75, u76, u77, u78, u79, u80, u81, u82, u83, u84, u85, u86, u87, u88, u89, u90, u91, u92, u93, u94, u95, u96, u97, u98, u99, u100, u101, u102, u103, u104, u105, u106, u107, u108, u109, u110, u111, u112, u113, u114, u115, u116, u117, u118, u119, u120, u121, u122, u123, u124, u125, u126, u127, u128, u129, u130, u131, u132, u133, u134, u135, u136, u137, u138, u139, u140, u141, u142, u143, u144, u145, u146, u147, u148, u149, u150, u151, u152, u153, u154, u155, u156, u157, u158, u159, u160, u161, u162, u163, u164, u165, u166, u167, u168, u169, u170, u171, u172, u173, u174, u175, u176, u177, u178, u179, u180, u181, u182, u183, u184, u185, u186, u187, u188, u189, u190, u191, u192, u193, u194, u195, u196, u197, u198, u199, u200, u201, u202, u203, u204, u205, u206, u207, u208, u209, u210, u211, u212, u213, u214, u215, u216, u217, u218, u219, u220, u221, u222, u223, u224, u225, u226, u227, u228, u229, u230, u231, u232, u233, u234, u235, u236, u237, u238, u239, u240, u241, u242, u243, u244, u245, u246, u247, u248, u249, u250, u251, u252, u253, u254, u255, u256, u257, u258, u259, u260, u261, u262, u263, u264], []⟩ wx := by
  conv => arg 2; whnf
  have HX := Lib.hid h
  have HNO := Lib.hid hnorm
  have HRE := Lib.hid hret
  obtain ⟨⟨ne1, ne2, ne3⟩, ne4, ne5, ne6⟩ := h.nes
  have hlt : a2 < s.size := at_lt HT.out
  have hle2 : a2 ≤ s.size := by omega
  have hcb := d.toNat_lt
  clear h hnorm hret
  have hb34 : ((d.toNat : Int) == 34) = false := by simpa using cmpN (n := 34) (by decide) h34
  have HN34 := Lib.hid h34
  clear h34
  have HNB := Lib.hid hbl
  have hb116 : ((d.toNat : Int) == 116) = false := by simpa using cmpN (n := 116) (by decide) (fun e : d = 116 => hbl (by simp [e]))
  have hb84 : ((d.toNat : Int) == 84) = false := by simpa using cmpN (n := 84) (by decide) (fun e : d = 84 => hbl (by simp [e]))
  have hb102 : ((d.toNat : Int) == 102) = false := by simpa using cmpN (n := 102) (by decide) (fun e : d = 102 => hbl (by simp [e]))
  have hb70 : ((d.toNat : Int) == 70) = false := by simpa using cmpN (n := 70) (by decide) (fun e : d = 70 => hbl (by simp [e]))
  clear hbl
  obtain ⟨n, x2, HN, HX2, hx, hxs⟩ := run_to (s := s) (a := a2) 9 hle2
  obtain ⟨u, hu⟩ : ∃ u, (s.data.toList.drop a2).take n = u := ⟨_, rfl⟩
  have HU := Lib.hid hu
  have HRN := Lib.hid (HX.out.run hs hle2 (k := 9) (by decide) HN.out HX2.out)
  rw [hu] at HRN
  obtain ⟨ub, m, hms, dl, hub, hus, hm, hdl, hlast, hext⟩ := run_last2 HT.out (runs9 (by rcases hnm with h | h | h <;> simp [h])) HN.out hu
  have hdb := dl.toNat_lt
  rw [hub] at HRN
  have HUB := Lib.hid hub
  have HLAST := Lib.hid hlast
  have HEXT := Lib.hid hext
  have hw6 : IntKind.i64.wrap ((ub.size : Int) - 1) = (m : Int) := by have := HX2.out; rw [IntKind.wrap_i64, hus]; omega
  have hm0 : (0 : Int) ≤ (m : Int) := by omega
  have hmu : (m : Int) < (ub.size : Int) := by omega
  have hml : (m : Int) ≤ (ub.size : Int) := by omega
  have HNM := Lib.hid hnm
  clear hlast hext hm hu hus hub
  obtain ⟨⟨cp0_1, cp1_1, cp2_1, cp3_1⟩, ⟨cr0_1, cr1_1, cr2_1, cr3_1⟩, cx0_1, cx1_1, cx2_1⟩ := HX.out.all
  obtain ⟨⟨zp1_1, zp2_1⟩, ⟨zr0_1, zr1_1, zr2_1, zr3_1⟩, zx0_1, zx1_1, zx2_1⟩ := HX.out.fzs (by simp)
  rcases hnm with hv | hv | hv
  · have hz : (d.toNat : Int) = 45 := by rw [hv]; rfl
    have hb45 : ((d.toNat : Int) == 45) = true := by rw [hz]; rfl
    clear hv hz
    by_cases h105 : dl = 105
    · have hl5b : ((dl.toNat : Int) == 105) = true := by rw [h105]; rfl
      have H105 : Hid (u.getLast? = some 105) := Lib.hid (by rw [HLAST.out, h105])
      clear h105
      go_wp2_with fail
      refine HRN.out.mono ?_
      rintro e w5 ⟨rfl, H5⟩
      dsimp only
      clear cp0_1 cp1_1 cp2_1 cp3_1 cr0_1 cr1_1 cr2_1 cr3_1 cx0_1 cx1_1 cx2_1 zp1_1 zp2_1 zr0_1 zr1_1 zr2_1 zr3_1 zx0_1 zx1_1 zx2_1
      clear HRN
      obtain ⟨⟨cp0_2, cp1_2, cp2_2, cp3_2⟩, ⟨cr0_2, cr1_2, cr2_2, cr3_2⟩, cx0_2, cx1_2, cx2_2⟩ := H5.out.all
      obtain ⟨⟨zp1_2, zp2_2⟩, ⟨zr0_2, zr1_2, zr2_2, zr3_2⟩, zx0_2, zx1_2, zx2_2⟩ := H5.out.fzs (by simp)
      go_wp2_with fail
      go_region
      go_wp2_with fail
      exact HNO.out 2 (u.dropLast) x2 _ _ _ _ _ _ _ _ _ _ _ _ _ _ _ _ _ _ _ _ _ _ _ _ _ _ _ _ _ _ _ _ _ _ _ _ _ _ _ _ _ _ _ _ _ _ _ _ _ _ _ _ _ _ _ _ _ _ _ _ _ _ _ _ _ _ _ _ _ _ _ _ _ _ _ _ _ _ _ _ _ _ _ _ _ _ _ _ _ _ _ _ _ _ _ _ _ _ _ _ _ _ _ _ _ _ _ _ _ _ _ _ _ _ _ _ _ _ _ _ _ _ _ _ _ _ _ _ _ _ _ _ _ _ _ _ _ _ _ _ _ _ _ _ _ _ _ _ _ _ _ _ _ _ _ _ _ _ _ _ _ _ _ _ _ _ _ _ _ _ _ _ _ _ _ _ _ _ _ _ _ _ _ _ _ _ _ _ _ _ _ _ _ _ _ _ _ _ _ _ _ _ _ _ _ _ _ _ _ _ _ _ _ _ _ _ _ _ _ _ _ _ _ _ _ _ _ _ _ _ _ _ _ _ _ _ _ _ _ _ _ _ _ _ _ _ _ _ _ _ _ _ _ _ _ _ _ _ _ _ _ _ hx hxs (Lib.hid (v_i HT.out HN34.out HNB.out HNM.out HN.out HX2.out HU.out H105.out)) (Lib.hid (by rw [HEXT.out]; exact ((((H5.out.px_ (by simp) 1 (.int .i64 4)).px_ (by simp) 2 (.string ub)).px_ (by simp) 1 (.int .i64 2)).px_ (by simp) 2 (.string (ub.extract 0 m))).dr))
    have hl5b : ((dl.toNat : Int) == 105) = false := by simpa using cmpN (n := 105) (by decide) h105
    have HN105 : Hid (¬ u.getLast? = some 105) := Lib.hid (by rw [HLAST.out]; simpa using h105)
    clear h105
    by_cases h117 : dl = 117
    · have hl7b : ((dl.toNat : Int) == 117) = true := by rw [h117]; rfl
      have H117 : Hid (u.getLast? = some 117) := Lib.hid (by rw [HLAST.out, h117])
      clear h117
      go_wp2_with fail
      refine HRN.out.mono ?_
      rintro e w5 ⟨rfl, H5⟩
      dsimp only
      clear cp0_1 cp1_1 cp2_1 cp3_1 cr0_1 cr1_1 cr2_1 cr3_1 cx0_1 cx1_1 cx2_1 zp1_1 zp2_1 zr0_1 zr1_1 zr2_1 zr3_1 zx0_1 zx1_1 zx2_1
      clear HRN
      obtain ⟨⟨cp0_2, cp1_2, cp2_2, cp3_2⟩, ⟨cr0_2, cr1_2, cr2_2, cr3_2⟩, cx0_2, cx1_2, cx2_2⟩ := H5.out.all
      obtain ⟨⟨zp1_2, zp2_2⟩, ⟨zr0_2, zr1_2, zr2_2, zr3_2⟩, zx0_2, zx1_2, zx2_2⟩ := H5.out.fzs (by simp)
      go_wp2_with fail
      go_region
      go_wp2_with fail
      exact HNO.out 3 (u.dropLast) x2 _ _ _ _ _ _ _ _ _ _ _ _ _ _ _ _ _ _ _ _ _ _ _ _ _ _ _ _ _ _ _ _ _ _ _ _ _ _ _ _ _ _ _ _ _ _ _ _ _ _ _ _ _ _ _ _ _ _ _ _ _ _ _ _ _ _ _ _ _ _ _ _ _ _ _ _ _ _ _ _ _ _ _ _ _ _ _ _ _ _ _ _ _ _ _ _ _ _ _ _ _ _ _ _ _ _ _ _ _ _ _ _ _ _ _ _ _ _ _ _ _ _ _ _ _ _ _ _ _ _ _ _ _ _ _ _ _ _ _ _ _ _ _ _ _ _ _ _ _ _ _ _ _ _ _ _ _ _ _ _ _ _ _ _ _ _ _ _ _ _ _ _ _ _ _ _ _ _ _ _ _ _ _ _ _ _ _ _ _ _ _ _ _ _ _ _ _ _ _ _ _ _ _ _ _ _ _ _ _ _ _ _ _ _ _ _ _ _ _ _ _ _ _ _ _ _ _ _ _ _ _ _ _ _ _ _ _ _ _ _ _ _ _ _ _ _ _ _ _ _ _ _ _ _ _ _ _ _ _ _ _ _ hx hxs (Lib.hid (v_u HT.out HN34.out HNB.out HNM.out HN.out HX2.out HU.out HN105.out H117.out)) (Lib.hid (by rw [HEXT.out]; exact ((((H5.out.px_ (by simp) 1 (.int .i64 4)).px_ (by simp) 2 (.string ub)).px_ (by simp) 1 (.int .i64 3)).px_ (by simp) 2 (.string (ub.extract 0 m))).dr))
    · have hl7b : ((dl.toNat : Int) == 117) = false := by simpa using cmpN (n := 117) (by decide) h117
      have HN117 : Hid (¬ u.getLast? = some 117) := Lib.hid (by rw [HLAST.out]; simpa using h117)
      clear h117
      go_wp2_with fail
      refine HRN.out.mono ?_
      rintro e w5 ⟨rfl, H5⟩
      dsimp only
      clear cp0_1 cp1_1 cp2_1 cp3_1 cr0_1 cr1_1 cr2_1 cr3_1 cx0_1 cx1_1 cx2_1 zp1_1 zp2_1 zr0_1 zr1_1 zr2_1 zr3_1 zx0_1 zx1_1 zx2_1
      clear HRN
      obtain ⟨⟨cp0_2, cp1_2, cp2_2, cp3_2⟩, ⟨cr0_2, cr1_2, cr2_2, cr3_2⟩, cx0_2, cx1_2, cx2_2⟩ := H5.out.all
      obtain ⟨⟨zp1_2, zp2_2⟩, ⟨zr0_2, zr1_2, zr2_2, zr3_2⟩, zx0_2, zx1_2, zx2_2⟩ := H5.out.fzs (by simp)
      go_wp2_with fail
      exact HNO.out 4 u x2 _ _ _ _ _ _ _ _ _ _ _ _ _ _ _ _ _ _ _ _ _ _ _ _ _ _ _ _ _ _ _ _ _ _ _ _ _ _ _ _ _ _ _ _ _ _ _ _ _ _ _ _ _ _ _ _ _ _ _ _ _ _ _ _ _ _ _ _ _ _ _ _ _ _ _ _ _ _ _ _ _ _ _ _ _ _ _ _ _ _ _ _ _ _ _ _ _ _ _ _ _ _ _ _ _ _ _ _ _ _ _ _ _ _ _ _ _ _ _ _ _ _ _ _ _ _ _ _ _ _ _ _ _ _ _ _ _ _ _ _ _ _ _ _ _ _ _ _ _ _ _ _ _ _ _ _ _ _ _ _ _ _ _ _ _ _ _ _ _ _ _ _ _ _ _ _ _ _ _ _ _ _ _ _ _ _ _ _ _ _ _ _ _ _ _ _ _ _ _ _ _ _ _ _ _ _ _ _ _ _ _ _ _ _ _ _ _ _ _ _ _ _ _ _ _ _ _ _ _ _ _ _ _ _ _ _ _ _ _ _ _ _ _ _ _ _ _ _ _ _ _ _ _ _ _ _ _ _ _ _ _ _ hx hxs (Lib.hid (v_f HT.out HN34.out HNB.out HNM.out HN.out HX2.out HU.out HN105.out HN117.out)) (Lib.hid (by rw [HUB.out]; exact ((H5.out.px_ (by simp) 1 (.int .i64 4)).px_ (by simp) 2 (.string ub))))
  · have hz : (d.toNat : Int) = 46 := by rw [hv]; rfl
    have hb45 : ((d.toNat : Int) == 45) = false := by rw [hz]; rfl
    have hb46 : ((d.toNat : Int) == 46) = true := by rw [hz]; rfl
    clear hv hz
    by_cases h105 : dl = 105
    · have hl5b : ((dl.toNat : Int) == 105) = true := by rw [h105]; rfl
      have H105 : Hid (u.getLast? = some 105) := Lib.hid (by rw [HLAST.out, h105])
      clear h105
      go_wp2_with fail
      refine HRN.out.mono ?_
      rintro e w5 ⟨rfl, H5⟩
      dsimp only
      clear cp0_1 cp1_1 cp2_1 cp3_1 cr0_1 cr1_1 cr2_1 cr3_1 cx0_1 cx1_1 cx2_1 zp1_1 zp2_1 zr0_1 zr1_1 zr2_1 zr3_1 zx0_1 zx1_1 zx2_1
      clear HRN
      obtain ⟨⟨cp0_2, cp1_2, cp2_2, cp3_2⟩, ⟨cr0_2, cr1_2, cr2_2, cr3_2⟩, cx0_2, cx1_2, cx2_2⟩ := H5.out.all
      obtain ⟨⟨zp1_2, zp2_2⟩, ⟨zr0_2, zr1_2, zr2_2, zr3_2⟩, zx0_2, zx1_2, zx2_2⟩ := H5.out.fzs (by simp)
      go_wp2_with fail
      go_region
      go_wp2_with fail
      exact HNO.out 2 (u.dropLast) x2 _ _ _ _ _ _ _ _ _ _ _ _ _ _ _ _ _ _ _ _ _ _ _ _ _ _ _ _ _ _ _ _ _ _ _ _ _ _ _ _ _ _ _ _ _ _ _ _ _ _ _ _ _ _ _ _ _ _ _ _ _ _ _ _ _ _ _ _ _ _ _ _ _ _ _ _ _ _ _ _ _ _ _ _ _ _ _ _ _ _ _ _ _ _ _ _ _ _ _ _ _ _ _ _ _ _ _ _ _ _ _ _ _ _ _ _ _ _ _ _ _ _ _ _ _ _ _ _ _ _ _ _ _ _ _ _ _ _ _ _ _ _ _ _ _ _ _ _ _ _ _ _ _ _ _ _ _ _ _ _ _ _ _ _ _ _ _ _ _ _ _ _ _ _ _ _ _ _ _ _ _ _ _ _ _ _ _ _ _ _ _ _ _ _ _ _ _ _ _ _ _ _ _ _ _ _ _ _ _ _ _ _ _ _ _ _ _ _ _ _ _ _ _ _ _ _ _ _ _ _ _ _ _ _ _ _ _ _ _ _ _ _ _ _ _ _ _ _ _ _ _ _ _ _ _ _ _ _ _ _ _ _ hx hxs (Lib.hid (v_i HT.out HN34.out HNB.out HNM.out HN.out HX2.out HU.out H105.out)) (Lib.hid (by rw [HEXT.out]; exact ((((H5.out.px_ (by simp) 1 (.int .i64 4)).px_ (by simp) 2 (.string ub)).px_ (by simp) 1 (.int .i64 2)).px_ (by simp) 2 (.string (ub.extract 0 m))).dr))
    have hl5b : ((dl.toNat : Int) == 105) = false := by simpa using cmpN (n := 105) (by decide) h105
    have HN105 : Hid (¬ u.getLast? = some 105) := Lib.hid (by rw [HLAST.out]; simpa using h105)
    clear h105
    by_cases h117 : dl = 117
    · have hl7b : ((dl.toNat : Int) == 117) = true := by rw [h117]; rfl
      have H117 : Hid (u.getLast? = some 117) := Lib.hid (by rw [HLAST.out, h117])
      clear h117
      go_wp2_with fail
      refine HRN.out.mono ?_
      rintro e w5 ⟨rfl, H5⟩
      dsimp only
      clear cp0_1 cp1_1 cp2_1 cp3_1 cr0_1 cr1_1 cr2_1 cr3_1 cx0_1 cx1_1 cx2_1 zp1_1 zp2_1 zr0_1 zr1_1 zr2_1 zr3_1 zx0_1 zx1_1 zx2_1
      clear HRN
      obtain ⟨⟨cp0_2, cp1_2, cp2_2, cp3_2⟩, ⟨cr0_2, cr1_2, cr2_2, cr3_2⟩, cx0_2, cx1_2, cx2_2⟩ := H5.out.all
      obtain ⟨⟨zp1_2, zp2_2⟩, ⟨zr0_2, zr1_2, zr2_2, zr3_2⟩, zx0_2, zx1_2, zx2_2⟩ := H5.out.fzs (by simp)
      go_wp2_with fail
      go_region
      go_wp2_with fail
      exact HNO.out 3 (u.dropLast) x2 _ _ _ _ _ _ _ _ _ _ _ _ _ _ _ _ _ _ _ _ _ _ _ _ _ _ _ _ _ _ _ _ _ _ _ _ _ _ _ _ _ _ _ _ _ _ _ _ _ _ _ _ _ _ _ _ _ _ _ _ _ _ _ _ _ _ _ _ _ _ _ _ _ _ _ _ _ _ _ _ _ _ _ _ _ _ _ _ _ _ _ _ _ _ _ _ _ _ _ _ _ _ _ _ _ _ _ _ _ _ _ _ _ _ _ _ _ _ _ _ _ _ _ _ _ _ _ _ _ _ _ _ _ _ _ _ _ _ _ _ _ _ _ _ _ _ _ _ _ _ _ _ _ _ _ _ _ _ _ _ _ _ _ _ _ _ _ _ _ _ _ _ _ _ _ _ _ _ _ _ _ _ _ _ _ _ _ _ _ _ _ _ _ _ _ _ _ _ _ _ _ _ _ _ _ _ _ _ _ _ _ _ _ _ _ _ _ _ _ _ _ _ _ _ _ _ _ _ _ _ _ _ _ _ _ _ _ _ _ _ _ _ _ _ _ _ _ _ _ _ _ _ _ _ _ _ _ _ _ _ _ _ hx hxs (Lib.hid (v_u HT.out HN34.out HNB.out HNM.out HN.out HX2.out HU.out HN105.out H117.out)) (Lib.hid (by rw [HEXT.out]; exact ((((H5.out.px_ (by simp) 1 (.int .i64 4)).px_ (by simp) 2 (.string ub)).px_ (by simp) 1 (.int .i64 3)).px_ (by simp) 2 (.string (ub.extract 0 m))).dr))
    · have hl7b : ((dl.toNat : Int) == 117) = false := by simpa using cmpN (n := 117) (by decide) h117
      have HN117 : Hid (¬ u.getLast? = some 117) := Lib.hid (by rw [HLAST.out]; simpa using h117)
      clear h117
      go_wp2_with fail
      refine HRN.out.mono ?_
      rintro e w5 ⟨rfl, H5⟩
      dsimp only
      clear cp0_1 cp1_1 cp2_1 cp3_1 cr0_1 cr1_1 cr2_1 cr3_1 cx0_1 cx1_1 cx2_1 zp1_1 zp2_1 zr0_1 zr1_1 zr2_1 zr3_1 zx0_1 zx1_1 zx2_1
      clear HRN
      obtain ⟨⟨cp0_2, cp1_2, cp2_2, cp3_2⟩, ⟨cr0_2, cr1_2, cr2_2, cr3_2⟩, cx0_2, cx1_2, cx2_2⟩ := H5.out.all
      obtain ⟨⟨zp1_2, zp2_2⟩, ⟨zr0_2, zr1_2, zr2_2, zr3_2⟩, zx0_2, zx1_2, zx2_2⟩ := H5.out.fzs (by simp)
      go_wp2_with fail
      exact HNO.out 4 u x2 _ _ _ _ _ _ _ _ _ _ _ _ _ _ _ _ _ _ _ _ _ _ _ _ _ _ _ _ _ _ _ _ _ _ _ _ _ _ _ _ _ _ _ _ _ _ _ _ _ _ _ _ _ _ _ _ _ _ _ _ _ _ _ _ _ _ _ _ _ _ _ _ _ _ _ _ _ _ _ _ _ _ _ _ _ _ _ _ _ _ _ _ _ _ _ _ _ _ _ _ _ _ _ _ _ _ _ _ _ _ _ _ _ _ _ _ _ _ _ _ _ _ _ _ _ _ _ _ _ _ _ _ _ _ _ _ _ _ _ _ _ _ _ _ _ _ _ _ _ _ _ _ _ _ _ _ _ _ _ _ _ _ _ _ _ _ _ _ _ _ _ _ _ _ _ _ _ _ _ _ _ _ _ _ _ _ _ _ _ _ _ _ _ _ _ _ _ _ _ _ _ _ _ _ _ _ _ _ _ _ _ _ _ _ _ _ _ _ _ _ _ _ _ _ _ _ _ _ _ _ _ _ _ _ _ _ _ _ _ _ _ _ _ _ _ _ _ _ _ _ _ _ _ _ _ _ _ _ _ _ _ _ hx hxs (Lib.hid (v_f HT.out HN34.out HNB.out HNM.out HN.out HX2.out HU.out HN105.out HN117.out)) (Lib.hid (by rw [HUB.out]; exact ((H5.out.px_ (by simp) 1 (.int .i64 4)).px_ (by simp) 2 (.string ub))))
  · have hz : (48 : Int) ≤ (d.toNat : Int) := by omega
    have hb45 : ((d.toNat : Int) == 45) = false := beq_false_of_ne (by omega)
    have hb46 : ((d.toNat : Int) == 46) = false := beq_false_of_ne (by omega)
    have hb1 : decide ((48 : Int) ≤ (d.toNat : Int)) = true := by simpa using hz
    have hb2 : decide ((d.toNat : Int) ≤ 57) = true := by simp; omega
    clear hv hz
    by_cases h105 : dl = 105
    · have hl5b : ((dl.toNat : Int) == 105) = true := by rw [h105]; rfl
      have H105 : Hid (u.getLast? = some 105) := Lib.hid (by rw [HLAST.out, h105])
      clear h105
      go_wp2_with fail
      refine HRN.out.mono ?_
      rintro e w5 ⟨rfl, H5⟩
      dsimp only
      clear cp0_1 cp1_1 cp2_1 cp3_1 cr0_1 cr1_1 cr2_1 cr3_1 cx0_1 cx1_1 cx2_1 zp1_1 zp2_1 zr0_1 zr1_1 zr2_1 zr3_1 zx0_1 zx1_1 zx2_1
      clear HRN
      obtain ⟨⟨cp0_2, cp1_2, cp2_2, cp3_2⟩, ⟨cr0_2, cr1_2, cr2_2, cr3_2⟩, cx0_2, cx1_2, cx2_2⟩ := H5.out.all
      obtain ⟨⟨zp1_2, zp2_2⟩, ⟨zr0_2, zr1_2, zr2_2, zr3_2⟩, zx0_2, zx1_2, zx2_2⟩ := H5.out.fzs (by simp)
      go_wp2_with fail
      go_region
      go_wp2_with fail
      exact HNO.out 2 (u.dropLast) x2 _ _ _ _ _ _ _ _ _ _ _ _ _ _ _ _ _ _ _ _ _ _ _ _ _ _ _ _ _ _ _ _ _ _ _ _ _ _ _ _ _ _ _ _ _ _ _ _ _ _ _ _ _ _ _ _ _ _ _ _ _ _ _ _ _ _ _ _ _ _ _ _ _ _ _ _ _ _ _ _ _ _ _ _ _ _ _ _ _ _ _ _ _ _ _ _ _ _ _ _ _ _ _ _ _ _ _ _ _ _ _ _ _ _ _ _ _ _ _ _ _ _ _ _ _ _ _ _ _ _ _ _ _ _ _ _ _ _ _ _ _ _ _ _ _ _ _ _ _ _ _ _ _ _ _ _ _ _ _ _ _ _ _ _ _ _ _ _ _ _ _ _ _ _ _ _ _ _ _ _ _ _ _ _ _ _ _ _ _ _ _ _ _ _ _ _ _ _ _ _ _ _ _ _ _ _ _ _ _ _ _ _ _ _ _ _ _ _ _ _ _ _ _ _ _ _ _ _ _ _ _ _ _ _ _ _ _ _ _ _ _ _ _ _ _ _ _ _ _ _ _ _ _ _ _ _ _ _ _ _ _ _ hx hxs (Lib.hid (v_i HT.out HN34.out HNB.out HNM.out HN.out HX2.out HU.out H105.out)) (Lib.hid (by rw [HEXT.out]; exact ((((H5.out.px_ (by simp) 1 (.int .i64 4)).px_ (by simp) 2 (.string ub)).px_ (by simp) 1 (.int .i64 2)).px_ (by simp) 2 (.string (ub.extract 0 m))).dr))
    have hl5b : ((dl.toNat : Int) == 105) = false := by simpa using cmpN (n := 105) (by decide) h105
    have HN105 : Hid (¬ u.getLast? = some 105) := Lib.hid (by rw [HLAST.out]; simpa using h105)
    clear h105
    by_cases h117 : dl = 117
    · have hl7b : ((dl.toNat : Int) == 117) = true := by rw [h117]; rfl
      have H117 : Hid (u.getLast? = some 117) := Lib.hid (by rw [HLAST.out, h117])
      clear h117
      go_wp2_with fail
      refine HRN.out.mono ?_
      rintro e w5 ⟨rfl, H5⟩
      dsimp only
      clear cp0_1 cp1_1 cp2_1 cp3_1 cr0_1 cr1_1 cr2_1 cr3_1 cx0_1 cx1_1 cx2_1 zp1_1 zp2_1 zr0_1 zr1_1 zr2_1 zr3_1 zx0_1 zx1_1 zx2_1
      clear HRN
      obtain ⟨⟨cp0_2, cp1_2, cp2_2, cp3_2⟩, ⟨cr0_2, cr1_2, cr2_2, cr3_2⟩, cx0_2, cx1_2, cx2_2⟩ := H5.out.all
      obtain ⟨⟨zp1_2, zp2_2⟩, ⟨zr0_2, zr1_2, zr2_2, zr3_2⟩, zx0_2, zx1_2, zx2_2⟩ := H5.out.fzs (by simp)
      go_wp2_with fail
      go_region
      go_wp2_with fail
      exact HNO.out 3 (u.dropLast) x2 _ _ _ _ _ _ _ _ _ _ _ _ _ _ _ _ _ _ _ _ _ _ _ _ _ _ _ _ _ _ _ _ _ _ _ _ _ _ _ _ _ _ _ _ _ _ _ _ _ _ _ _ _ _ _ _ _ _ _ _ _ _ _ _ _ _ _ _ _ _ _ _ _ _ _ _ _ _ _ _ _ _ _ _ _ _ _ _ _ _ _ _ _ _ _ _ _ _ _ _ _ _ _ _ _ _ _ _ _ _ _ _ _ _ _ _ _ _ _ _ _ _ _ _ _ _ _ _ _ _ _ _ _ _ _ _ _ _ _ _ _ _ _ _ _ _ _ _ _ _ _ _ _ _ _ _ _ _ _ _ _ _ _ _ _ _ _ _ _ _ _ _ _ _ _ _ _ _ _ _ _ _ _ _ _ _ _ _ _ _ _ _ _ _ _ _ _ _ _ _ _ _ _ _ _ _ _ _ _ _ _ _ _ _ _ _ _ _ _ _ _ _ _ _ _ _ _ _ _ _ _ _ _ _ _ _ _ _ _ _ _ _ _ _ _ _ _ _ _ _ _ _ _ _ _ _ _ _ _ _ _ _ hx hxs (Lib.hid (v_u HT.out HN34.out HNB.out HNM.out HN.out HX2.out HU.out HN105.out H117.out)) (Lib.hid (by rw [HEXT.out]; exact ((((H5.out.px_ (by simp) 1 (.int .i64 4)).px_ (by simp) 2 (.string ub)).px_ (by simp) 1 (.int .i64 3)).px_ (by simp) 2 (.string (ub.extract 0 m))).dr))
    · have hl7b : ((dl.toNat : Int) == 117) = false := by simpa using cmpN (n := 117) (by decide) h117
      have HN117 : Hid (¬ u.getLast? = some 117) := Lib.hid (by rw [HLAST.out]; simpa using h117)
      clear h117
      go_wp2_with fail
      refine HRN.out.mono ?_
      rintro e w5 ⟨rfl, H5⟩
      dsimp only
      clear cp0_1 cp1_1 cp2_1 cp3_1 cr0_1 cr1_1 cr2_1 cr3_1 cx0_1 cx1_1 cx2_1 zp1_1 zp2_1 zr0_1 zr1_1 zr2_1 zr3_1 zx0_1 zx1_1 zx2_1
      clear HRN
      obtain ⟨⟨cp0_2, cp1_2, cp2_2, cp3_2⟩, ⟨cr0_2, cr1_2, cr2_2, cr3_2⟩, cx0_2, cx1_2, cx2_2⟩ := H5.out.all
      obtain ⟨⟨zp1_2, zp2_2⟩, ⟨zr0_2, zr1_2, zr2_2, zr3_2⟩, zx0_2, zx1_2, zx2_2⟩ := H5.out.fzs (by simp)
      go_wp2_with fail
      exact HNO.out 4 u x2 _ _ _ _ _ _ _ _ _ _ _ _ _ _ _ _ _ _ _ _ _ _ _ _ _ _ _ _ _ _ _ _ _ _ _ _ _ _ _ _ _ _ _ _ _ _ _ _ _ _ _ _ _ _ _ _ _ _ _ _ _ _ _ _ _ _ _ _ _ _ _ _ _ _ _ _ _ _ _ _ _ _ _ _ _ _ _ _ _ _ _ _ _ _ _ _ _ _ _ _ _ _ _ _ _ _ _ _ _ _ _ _ _ _ _ _ _ _ _ _ _ _ _ _ _ _ _ _ _ _ _ _ _ _ _ _ _ _ _ _ _ _ _ _ _ _ _ _ _ _ _ _ _ _ _ _ _ _ _ _ _ _ _ _ _ _ _ _ _ _ _ _ _ _ _ _ _ _ _ _ _ _ _ _ _ _ _ _ _ _ _ _ _ _ _ _ _ _ _ _ _ _ _ _ _ _ _ _ _ _ _ _ _ _ _ _ _ _ _ _ _ _ _ _ _ _ _ _ _ _ _ _ _ _ _ _ _ _ _ _ _ _ _ _ _ _ _ _ _ _ _ _ _ _ _ _ _ _ _ _ _ _ hx hxs (Lib.hid (v_f HT.out HN34.out HNB.out HNM.out HN.out HX2.out HU.out HN105.out HN117.out)) (Lib.hid (by rw [HUB.out]; exact ((H5.out.px_ (by simp) 1 (.int .i64 4)).px_ (by simp) 2 (.string ub))))
end Go.Proofs.YtlcbcgillekphaaGreatDoor.sd
