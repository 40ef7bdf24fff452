/-
  Proved: plain laws on stores where the reference's functions stand, and the parts of Field's code · the reference's Field, a part of it: behind the value, where the text ends · the reference's Field, a part of it: behind the value, where a comma or another byte follows · the reference's Field, a part of it: behind the value, where white space follows · the reference's Field, a part of it: a value in quotes · the reference's Field, a part of it: a boolean value; no value.
  Conditions: each law's own; a text of at most 4000 bytes where one is read.
-/
import Derived.Test.YtlcbcgillekphaaGreatDoorSdf
import Derived.Test.YtlcbcgillekphaaGreatDoorSda
namespace Go.Proofs.YtlcbcgillekphaaGreatDoor.sd
open Go.RowKit Mem rw ent
set_option linter.unusedVariables false
set_option linter.unusedSimpArgs false

section
variable {w0 w : World} {P : Nat} {s : ByteArray} {R : Nat} {q : List Value} {X : Nat} {c : List Value} {T : TypeId} {a p f : Nat}
theorem FS.pa (h : FS w0 P s R q X c T a p f w) (a' : Nat) : FS w0 P s R q X c T a' p f (w.setCell ⟨P, 1, none⟩ (.int .i64 (a' : Int))) := h.call ((At.refl h.at_.sd).set a')
theorem FS.pp (h : FS w0 P s R q X c T a p f w) (p' : Nat) (v : Value) (hv : v = .int .i64 (p' : Int)) : FS w0 P s R q X c T a p' f (w.setCell ⟨P, 2, none⟩ v) := by
  subst hv; exact h.call ((At.refl h.at_.sd).setp p')
theorem FS.prr (h : FS w0 P s R q X c T a p f w) (j : Nat) (v : Value) : FS w0 P s R (q.set j v) X c T a p f (w.setCell ⟨R, j, none⟩ v) := by
  have hb : But [R] w (w.setCell ⟨R, j, none⟩ v) := (But.refl [R] w).setCell (Or.inl (by simp)) v
  exact ⟨⟨h.at_.sd.but hb (by simpa using h.pr), h.at_.but.setCell (Or.inr h.nr) v⟩, Rw.set h.r j v, fun hc => Rw.but (h.x hc) hb (by simpa using fun e => h.rx e.symm), h.nr, h.nx, h.rx, h.pr, h.px⟩
theorem FS.px_ (h : FS w0 P s R q X c T a p f w) (hc : c ≠ []) (j : Nat) (v : Value) : FS w0 P s R q X (c.set j v) T a p f (w.setCell ⟨X, j, none⟩ v) := by
  obtain ⟨W, rfl, h1⟩ := h.putx hc j v
  exact h1
theorem FS.dr (h : FS w0 P s R q X c T a p f w) : FS w0 P s R q X c T a p f w.drew := h.quiet ((But.refl [] w).drew)
/-- All cells of a function that stands, with three of its result. -/
theorem FS.all {c0 c1 c2 q0 q1 q2 q3 : Value} (h : FS w0 P s R [q0, q1, q2, q3] X [c0, c1, c2] T a p f w) :
    (w.cell? ⟨P, 0, none⟩ = some (.string s) ∧ w.cell? ⟨P, 1, none⟩ = some (.int .i64 a) ∧ w.cell? ⟨P, 2, none⟩ = some (.int .i64 p) ∧ w.cell? ⟨P, 3, none⟩ = some (.int .i64 f)) ∧
    (w.cell? ⟨R, 0, none⟩ = some q0 ∧ w.cell? ⟨R, 1, none⟩ = some q1 ∧ w.cell? ⟨R, 2, none⟩ = some q2 ∧ w.cell? ⟨R, 3, none⟩ = some q3) ∧
    (w.cell? ⟨X, 0, none⟩ = some c0 ∧ w.cell? ⟨X, 1, none⟩ = some c1 ∧ w.cell? ⟨X, 2, none⟩ = some c2) :=
  ⟨h.at_.sd.cells, ⟨Rw.cell h.r 0, Rw.cell h.r 1, Rw.cell h.r 2, Rw.cell h.r 3⟩, Rw.cell (h.x (by simp)) 0, Rw.cell (h.x (by simp)) 1, Rw.cell (h.x (by simp)) 2⟩
theorem FS.fzs (h : FS w0 P s R q X c T a p f w) (hc : c ≠ []) : (w.frozen? ⟨P, 1, none⟩ = false ∧ w.frozen? ⟨P, 2, none⟩ = false) ∧ (w.frozen? ⟨R, 0, none⟩ = false ∧ w.frozen? ⟨R, 1, none⟩ = false ∧ w.frozen? ⟨R, 2, none⟩ = false ∧ w.frozen? ⟨R, 3, none⟩ = false) ∧ (w.frozen? ⟨X, 0, none⟩ = false ∧ w.frozen? ⟨X, 1, none⟩ = false ∧ w.frozen? ⟨X, 2, none⟩ = false) :=
  ⟨⟨h.at_.sd.fz 1, h.at_.sd.fz 2⟩, ⟨Rw.fz h.r 0, Rw.fz h.r 1, Rw.fz h.r 2, Rw.fz h.r 3⟩, Rw.fz (h.x hc) 0, Rw.fz (h.x hc) 1, Rw.fz (h.x hc) 2⟩
theorem FS.nes (h : FS w0 P s R q X c T a p f w) : (P ≠ R ∧ P ≠ X ∧ R ≠ X) ∧ (R ≠ P ∧ X ≠ P ∧ X ≠ R) := ⟨⟨h.pr, h.px, h.rx⟩, fun e => h.pr e.symm, fun e => h.px e.symm, fun e => h.rx e.symm⟩
end
theorem run_last2 {T : List UInt8} {a n : Nat} {c : UInt8} {u : List UInt8} (h : T[a]? = some c) (h1 : dm.inS 9 c = true) (h2 : n = dm.runN (dm.inS 9) (T.drop a)) (h3 : (T.drop a).take n = u) :
    ∃ (ub : ByteArray) (m : Nat) (hk : m < ub.size) (e : UInt8), (⟨u.toArray⟩ : ByteArray) = ub ∧ ub.size = m + 1 ∧ n = m + 1 ∧ ub[m]'hk = e ∧ u.getLast? = some e ∧ (⟨u.dropLast.toArray⟩ : ByteArray) = ub.extract 0 m := by
  obtain ⟨k1, m, k2, k3, e, k4, k5, k6⟩ := run_last h h1 h2 h3
  have k7 : (⟨u.toArray⟩ : ByteArray).size = u.length := by simp [ByteArray.size]
  exact ⟨⟨u.toArray⟩, m, k3, e, rfl, by rw [k7, k1, k2], k2, k4, k5, k6.symm⟩
/-- Parts of a code. -/
def cR : Code → Code
  | .seq _ b => b
  | _ => .skip
def cL : Code → Code
  | .seq a _ => a
  | _ => .skip
noncomputable def fBody : Code := Tryz.f38.body.getD .skip
noncomputable def fEnd : Code := cR (cR (cR (cR (cR (cR (cR (cR (cR (cR fBody)))))))))
noncomputable def fSw : Code := cR (cL (cR (cR (cR (cR (cR (cR (cR (cR (cR fBody))))))))))
end Go.Proofs.YtlcbcgillekphaaGreatDoor.sd
namespace Go.Proofs.YtlcbcgillekphaaGreatDoor.sd
open Go.RowKit Mem rw ent
set_option linter.unusedVariables false
set_option linter.unusedSimpArgs false

set_option maxRecDepth 1000000 in
set_option maxHeartbeats 8000000 in
theorem fe_n (P X R : Nat) (s : ByteArray) (hs : s.size ≤ 4000) (w wx : World) (r : dm.Res (List UInt8 × Nat × List UInt8) × dm.M) (o u : List UInt8) (kd x2 f : Nat) (h : FS w P s R [.bool false, .int .i64 0, .int .i64 0, .bool false] X [.string ⟨o.toArray⟩, .int .i64 (kd : Nat), .string ⟨u.toArray⟩] 76 x2 2 f wx) (hx2 : x2 ≤ s.size) (hf : f ≤ x2) (HS : Hid (∀ m, dm.afterM s.data.toList ⟨x2, 2, f⟩ = (none, m) → r = (.some (o, kd, u), m))) (HB : Hid (∀ i m, dm.afterM s.data.toList ⟨x2, 2, f⟩ = (some i, m) → r = dm.flt s.data.toList m i)) (hge : s.size ≤ x2) (u1 u5 u6 u7 u8 u9 u10 u11 u12 u13 u14 u15 u16 u17 u18 u19 u20 u21 u22 u23 u24 u25 u26 u27 u28 u29 u30 u31 u32 u33 u34 u35 u36 u37 u38 u39 u40 u41 u42 u43 u44 u45 u46 u47 u48 u49 u50 u51 u52 u53 u54 u55 u56 u57 u58 u59 u60 u61 u62 u63 u64 u65 u66 u67 u68 u69 u70 u71 u72 u73 u74 u75 u76 u77 u78 u79 u80 u81 u82 u83 u84 u85 u86 u87 u88 u89 u90 u91 u92 u93 u94 u95 u96 u97 u98 u99 u100 u101 u102 u103 u104 u105 u106 u107 u108 u109 u110 u111 u112 u113 u114 u115 u116 u117 u118 u119 u120 u121 u122 u123 u124 u125 u126 u127 u128 u129 u130 u131 u132 u133 u134 u135 u136 u137 u138 u139 u140 u141 u142 u143 u144 u145 u146 u147 u148 u149 u150 u151 u152 u153 u154 u155 u156 u157 u158 u159 u160 u161 u162 u163 u164 u165 u166 u167 u168 u169 u170 u171 u172 u173 u174 u175 u176 u177 u178 u179 u180 u181 u182 u183 u184 u185 u186 u187 u188 u189 u190 u191 u192 u193 u194 u195 u196 u197 u198 u199 u200 u201 u202 u203 u204 u205 u206 u207 u208 u209 u210 u211 u212 u213 u214 u215 u216 u217 u218 u219 u220 u221 u222 u223 u224 u225 u226 u227 u228 u229 u230 u231 u232 u233 u234 u235 u236 u237 u238 u239 u240 u241 u242 u243 u244 u245 u246 u247 u248 u249 u250 u251 u252 u253 u254 u255 u256 u257 u258 u259 u260 u261 u262 u263 u264 : Value) :
    Code.wp Tryz.prog fEnd (bodyPost Tryz.prog Tryz.f38 (FdOut P s r w)) ⟨#[.pointer (some ⟨P, 0, none⟩), u1, .pointer (some ⟨X, 0, none⟩), .bool false, .pointer (some ⟨R, 0, none⟩), u5, u6, u7, u8, u9, u10, u11, u12, u13, u14, u15, u16, u17, u18, u19, u20, u21, u22, u23, u24, u25, u26, u27, u28, u29, u30, u31, u32, u33, u34, u35, u36, u37, u38, u39, u40, u41, u42, u43, u44, u45, u46, u47, u48, u49, u50, u51, u52, u53, u54, u55, u56, u57, u58, u59, u60, u61, u62, u63, u64, u65, u66, u67, u68, u69, u70, u71, u72, u73, u74, u75, u76, u77, u78, u79, u80, u81, u82, u83, u84, u85, u86, u87, u88, u89, u90, u91, u92, u93, u94, u95, u96, u97, u98, u99, u100, u101, u102, u103, u104, u105, u106, u107, u108, u109, u110, u111, u112, u113, u114, u115, u116, u117, u118, u119, u120, u121, u122, u123, u124, u125, u126, u127, u128, u129, u130, u131, u132, u133, u134, u135, u136, u137, u138, u139, u140, u141, u142, u143, u144, u145, u146, u147, u148, u149, u150, u151, u152, u153, u154, u155, u156, u157, u158, u159, u160, u161, u162, u163, u164, u165, u166, u167, u168, u169, u170, u171, u172, u173, u174, u175, u176, u177, u178, u179, u180, u181, u182, u183, u184, u185, u186, u187, u188, u189, u190, u191, u192, u193, u194, u195, u196, u197, u198, u199, u200, u201, u202, u203, u204, u205, u206, u207, u208, u209, u210, u211, u212, u213, u214, u215, u216, u217, u218, u219, u220, u221, u222, u223, u224, u225, u226, u227, u228, u229, u230, u231, u232, u233, u234, u235, u236, u237, u238, u239, u240, u241, u242, u243, u244, u245, u246, u247, u248, u249, u250, u251, u252, u253, u254, u255, u256, u257, u258, u259, u260, u261, u262, u263, u264], []⟩ wx := by
  conv => arg 2; whnf
  have HX := Lib.hid h
  obtain ⟨⟨ne1, ne2, ne3⟩, ne4, ne5, ne6⟩ := h.nes
  have HD := Lib.hid (h.done (b := true) (by simpa using hge))
  clear h
  obtain ⟨⟨cp0_1, cp1_1, cp2_1, cp3_1⟩, ⟨cr0_1, cr1_1, cr2_1, cr3_1⟩, cx0_1, cx1_1, cx2_1⟩ := HX.out.all
  obtain ⟨⟨zp1_1, zp2_1⟩, ⟨zr0_1, zr1_1, zr2_1, zr3_1⟩, zx0_1, zx1_1, zx2_1⟩ := HX.out.fzs (by simp)
  go_wp2_with fail
  refine HD.out.mono ?_
  rintro e w1 ⟨rfl, H1⟩
  clear cp0_1 cp1_1 cp2_1 cp3_1 cr0_1 cr1_1 cr2_1 cr3_1 cx0_1 cx1_1 cx2_1 zp1_1 zp2_1 zr0_1 zr1_1 zr2_1 zr3_1 zx0_1 zx1_1 zx2_1
  clear HD
  obtain ⟨⟨cp0_2, cp1_2, cp2_2, cp3_2⟩, ⟨cr0_2, cr1_2, cr2_2, cr3_2⟩, cx0_2, cx1_2, cx2_2⟩ := H1.out.all
  obtain ⟨⟨zp1_2, zp2_2⟩, ⟨zr0_2, zr1_2, zr2_2, zr3_2⟩, zx0_2, zx1_2, zx2_2⟩ := H1.out.fzs (by simp)
  go_wp2_with fail
  go_region
  go_wp2_with fail
  have HE := Lib.hid ((((((((H1.out.pp 5 (.int .i64 5) rfl).px_ (by simp) 0 (.string ⟨o.toArray⟩)).px_ (by simp) 1 (.int .i64 (kd : Int))).px_ (by simp) 2 (.string ⟨u.toArray⟩)).prr 0 (.bool false)).prr 1 (.int .i64 0)).prr 2 (.int .i64 0)).prr 3 (.bool false))
  obtain ⟨⟨cp0_99, cp1_99, cp2_99, cp3_99⟩, ⟨cr0_99, cr1_99, cr2_99, cr3_99⟩, cx0_99, cx1_99, cx2_99⟩ := HE.out.all
  obtain ⟨⟨zp1_99, zp2_99⟩, ⟨zr0_99, zr1_99, zr2_99, zr3_99⟩, zx0_99, zx1_99, zx2_99⟩ := HE.out.fzs (by simp)
  refine bodyPost_ret (v := .tuple #[.agg #[.string ⟨o.toArray⟩, .int .i64 (kd : Int), .string ⟨u.toArray⟩], .bool true, .agg #[.bool false, .int .i64 0, .int .i64 0, .bool false]]) (by simp [results, Tryz.results38, go_sem, cr0_99, cr1_99, cr2_99, cr3_99, cx0_99, cx1_99, cx2_99]) rfl ?_
  exact .inr (.inl ⟨o, kd, u, x2, 5, f, HS.out _ (a_n (List.getElem?_eq_none (by simpa using hge))), rfl, Lib.hid HE.out.dr.at_⟩)
end Go.Proofs.YtlcbcgillekphaaGreatDoor.sd
namespace Go.Proofs.YtlcbcgillekphaaGreatDoor.sd
open Go.RowKit Mem rw ent
set_option linter.unusedVariables false
set_option linter.unusedSimpArgs false

set_option maxRecDepth 1000000 in
set_option maxHeartbeats 8000000 in
theorem fe_c (P X R : Nat) (s : ByteArray) (hs : s.size ≤ 4000) (w wx : World) (r : dm.Res (List UInt8 × Nat × List UInt8) × dm.M) (o u : List UInt8) (kd x2 f : Nat) (h : FS w P s R [.bool false, .int .i64 0, .int .i64 0, .bool false] X [.string ⟨o.toArray⟩, .int .i64 (kd : Nat), .string ⟨u.toArray⟩] 76 x2 2 f wx) (hx2 : x2 ≤ s.size) (hf : f ≤ x2) (HS : Hid (∀ m, dm.afterM s.data.toList ⟨x2, 2, f⟩ = (none, m) → r = (.some (o, kd, u), m))) (HB : Hid (∀ i m, dm.afterM s.data.toList ⟨x2, 2, f⟩ = (some i, m) → r = dm.flt s.data.toList m i)) (d : UInt8) (HT : Hid (s.data.toList[x2]? = some d)) (h44 : d = 44) (u1 u5 u6 u7 u8 u9 u10 u11 u12 u13 u14 u15 u16 u17 u18 u19 u20 u21 u22 u23 u24 u25 u26 u27 u28 u29 u30 u31 u32 u33 u34 u35 u36 u37 u38 u39 u40 u41 u42 u43 u44 u45 u46 u47 u48 u49 u50 u51 u52 u53 u54 u55 u56 u57 u58 u59 u60 u61 u62 u63 u64 u65 u66 u67 u68 u69 u70 u71 u72 u73 u74 u75 u76 u77 u78 u79 u80 u81 u82 u83 u84 u85 u86 u87 u88 u89 u90 u91 u92 u93 u94 u95 u96 u97 u98 u99 u100 u101 u102 u103 u104 u105 u106 u107 u108 u109 u110 u111 u112 u113 u114 u115 u116 u117 u118 u119 u120 u121 u122 u123 u124 u125 u126 u127 u128 u129 u130 u131 u132 u133 u134 u135 u136 u137 u138 u139 u140 u141 u142 u143 u144 u145 u146 u147 u148 u149 u150 u151 u152 u153 u154 u155 u156 u157 u158 u159 u160 u161 u162 u163 u164 u165 u166 u167 u168 u169 u170 u171 u172 u173 u174 u175 u176 u177 u178 u179 u180 u181 u182 u183 u184 u185 u186 u187 u188 u189 u190 u191 u192 u193 u194 u195 u196 u197 u198 u199 u200 u201 u202 u203 u204 u205 u206 u207 u208 u209 u210 u211 u212 u213 u214 u215 u216 u217 u218 u219 u220 u221 u222 u223 u224 u225 u226 u227 u228 u229 u230 u231 u232 u233 u234 u235 u236 u237 u238 u239 u240 u241 u242 u243 u244 u245 u246 u247 u248 u249 u250 u251 u252 u253 u254 u255 u256 u257 u258 u259 u260 u261 u262 u263 u264 : Value) :
    Code.wp Tryz.prog fEnd (bodyPost Tryz.prog Tryz.f38 (FdOut P s r w)) ⟨#[.pointer (some ⟨P, 0, none⟩), u1, .pointer (some ⟨X, 0, none⟩), .bool false, .pointer (some ⟨R, 0, none⟩), u5, u6, u7, u8, u9, u10, u11, u12, u13, u14, u15, u16, u17, u18, u19, u20, u21, u22, u23, u24, u25, u26, u27, u28, u29, u30, u31, u32, u33, u34, u35, u36, u37, u38, u39, u40, u41, u42, u43, u44, u45, u46, u47, u48, u49, u50, u51, u52, u53, u54, u55, u56, u57, u58, u59, u60, u61, u62, u63, u64, u65, u66, u67, u68, u69, u70, u71, u72, u73, u74, u75, u76, u77, u78, u79, u80, u81, u82, u83, u84, u85, u86, u87, u88, u89, u90, u91, u92, u93, u94, u95, u96, u97, u98, u99, u100, u101, u102, u103, u104, u105, u106, u107, u108, u109, u110, u111, u112, u113, u114, u115, u116, u117, u118, u119, u120, u121, u122, u123, u124, u125, u126, u127, u128, u129, u130, u131, u132, u133, u134, u135, u136, u137, u138, u139, u140, u141, u142, u143, u144, u145, u146, u147, u148, u149, u150, u151, u152, u153, u154, u155, u156, u157, u158, u159, u160, u161, u162, u163, u164, u165, u166, u167, u168, u169, u170, u171, u172, u173, u174, u175, u176, u177, u178, u179, u180, u181, u182, u183, u184, u185, u186, u187, u188, u189, u190, u191, u192, u193, u194, u195, u196, u197, u198, u199, u200, u201, u202, u203, u204, u205, u206, u207, u208, u209, u210, u211, u212, u213, u214, u215, u216, u217, u218, u219, u220, u221, u222, u223, u224, u225, u226, u227, u228, u229, u230, u231, u232, u233, u234, u235, u236, u237, u238, u239, u240, u241, u242, u243, u244, u245, u246, u247, u248, u249, u250, u251, u252, u253, u254, u255, u256, u257, u258, u259, u260, u261, u262, u263, u264], []⟩ wx := by
  conv => arg 2; whnf
  have HX := Lib.hid h
  obtain ⟨⟨ne1, ne2, ne3⟩, ne4, ne5, ne6⟩ := h.nes
  have hlt : x2 < s.size := at_lt HT.out
  have hi : (x2 : Int) < (s.size : Int) := by omega
  have hd : s[x2]'hlt = d := by have h1 := byteS hlt; rw [HT.out] at h1; simpa using h1.symm
  have hcb := d.toNat_lt
  have hz : (d.toNat : Int) = 44 := by rw [h44]; rfl
  have hzb : ((d.toNat : Int) == 44) = true := by rw [hz]; rfl
  obtain ⟨x3, hx3⟩ : ∃ x3, x2 + 1 = x3 := ⟨_, rfl⟩
  have hw3 : IntKind.i64.wrap ((x2 : Int) + 1) = (x3 : Int) := by rw [IntKind.wrap_i64]; omega
  have HX3 := Lib.hid hx3
  have HT4 : Hid (s.data.toList[x2]? = some 44) := Lib.hid (by rw [HT.out, h44])
  clear hx3 h44 hz
  have HD := Lib.hid (h.done (b := false) (by simpa using hlt))
  clear h
  obtain ⟨⟨cp0_1, cp1_1, cp2_1, cp3_1⟩, ⟨cr0_1, cr1_1, cr2_1, cr3_1⟩, cx0_1, cx1_1, cx2_1⟩ := HX.out.all
  obtain ⟨⟨zp1_1, zp2_1⟩, ⟨zr0_1, zr1_1, zr2_1, zr3_1⟩, zx0_1, zx1_1, zx2_1⟩ := HX.out.fzs (by simp)
  go_wp2_with fail
  refine HD.out.mono ?_
  rintro e w1 ⟨rfl, H1⟩
  clear cp0_1 cp1_1 cp2_1 cp3_1 cr0_1 cr1_1 cr2_1 cr3_1 cx0_1 cx1_1 cx2_1 zp1_1 zp2_1 zr0_1 zr1_1 zr2_1 zr3_1 zx0_1 zx1_1 zx2_1
  clear HD
  obtain ⟨⟨cp0_2, cp1_2, cp2_2, cp3_2⟩, ⟨cr0_2, cr1_2, cr2_2, cr3_2⟩, cx0_2, cx1_2, cx2_2⟩ := H1.out.all
  obtain ⟨⟨zp1_2, zp2_2⟩, ⟨zr0_2, zr1_2, zr2_2, zr3_2⟩, zx0_2, zx1_2, zx2_2⟩ := H1.out.fzs (by simp)
  go_wp2_with fail
  go_quiet (fail)
  have HFq := Lib.hid (H1.out.drew nq)
  revert HFq
  generalize World.drewN _ nq = wq
  intro HFq
  clear cp0_2 cp1_2 cp2_2 cp3_2 cr0_2 cr1_2 cr2_2 cr3_2 cx0_2 cx1_2 cx2_2 zp1_2 zp2_2 zr0_2 zr1_2 zr2_2 zr3_2 zx0_2 zx1_2 zx2_2
  clear hd hi
  obtain ⟨⟨cp0_3, cp1_3, cp2_3, cp3_3⟩, ⟨cr0_3, cr1_3, cr2_3, cr3_3⟩, cx0_3, cx1_3, cx2_3⟩ := HFq.out.all
  obtain ⟨⟨zp1_3, zp2_3⟩, ⟨zr0_3, zr1_3, zr2_3, zr3_3⟩, zx0_3, zx1_3, zx2_3⟩ := HFq.out.fzs (by simp)
  go_wp2_with fail
  go_region
  go_wp2_with fail
  have HE := Lib.hid ((((((((HFq.out.pa x3).px_ (by simp) 0 (.string ⟨o.toArray⟩)).px_ (by simp) 1 (.int .i64 (kd : Int))).px_ (by simp) 2 (.string ⟨u.toArray⟩)).prr 0 (.bool false)).prr 1 (.int .i64 0)).prr 2 (.int .i64 0)).prr 3 (.bool false))
  obtain ⟨⟨cp0_99, cp1_99, cp2_99, cp3_99⟩, ⟨cr0_99, cr1_99, cr2_99, cr3_99⟩, cx0_99, cx1_99, cx2_99⟩ := HE.out.all
  obtain ⟨⟨zp1_99, zp2_99⟩, ⟨zr0_99, zr1_99, zr2_99, zr3_99⟩, zx0_99, zx1_99, zx2_99⟩ := HE.out.fzs (by simp)
  refine bodyPost_ret (v := .tuple #[.agg #[.string ⟨o.toArray⟩, .int .i64 (kd : Int), .string ⟨u.toArray⟩], .bool true, .agg #[.bool false, .int .i64 0, .int .i64 0, .bool false]]) (by simp [results, Tryz.results38, go_sem, cr0_99, cr1_99, cr2_99, cr3_99, cx0_99, cx1_99, cx2_99]) rfl ?_
  exact .inr (.inl ⟨o, kd, u, x3, 2, f, HS.out _ (a_c HT4.out HX3.out), rfl, Lib.hid HE.out.dr.at_⟩)
set_option maxRecDepth 1000000 in
set_option maxHeartbeats 8000000 in
theorem fe_b (P X R : Nat) (s : ByteArray) (hs : s.size ≤ 4000) (w wx : World) (r : dm.Res (List UInt8 × Nat × List UInt8) × dm.M) (o u : List UInt8) (kd x2 f : Nat) (h : FS w P s R [.bool false, .int .i64 0, .int .i64 0, .bool false] X [.string ⟨o.toArray⟩, .int .i64 (kd : Nat), .string ⟨u.toArray⟩] 76 x2 2 f wx) (hx2 : x2 ≤ s.size) (hf : f ≤ x2) (HS : Hid (∀ m, dm.afterM s.data.toList ⟨x2, 2, f⟩ = (none, m) → r = (.some (o, kd, u), m))) (HB : Hid (∀ i m, dm.afterM s.data.toList ⟨x2, 2, f⟩ = (some i, m) → r = dm.flt s.data.toList m i)) (d : UInt8) (HT : Hid (s.data.toList[x2]? = some d)) (h44 : ¬ d = 44) (HW : Hid (dm.white d = false)) (u1 u5 u6 u7 u8 u9 u10 u11 u12 u13 u14 u15 u16 u17 u18 u19 u20 u21 u22 u23 u24 u25 u26 u27 u28 u29 u30 u31 u32 u33 u34 u35 u36 u37 u38 u39 u40 u41 u42 u43 u44 u45 u46 u47 u48 u49 u50 u51 u52 u53 u54 u55 u56 u57 u58 u59 u60 u61 u62 u63 u64 u65 u66 u67 u68 u69 u70 u71 u72 u73 u74 u75 u76 u77 u78 u79 u80 u81 u82 u83 u84 u85 u86 u87 u88 u89 u90 u91 u92 u93 u94 u95 u96 u97 u98 u99 u100 u101 u102 u103 u104 u105 u106 u107 u108 u109 u110 u111 u112 u113 u114 u115 u116 u117 u118 u119 u120 u121 u122 u123 u124 u125 u126 u127 u128 u129 u130 u131 u132 u133 u134 u135 u136 u137 u138 u139 u140 u141 u142 u143 u144 u145 u146 u147 u148 u149 u150 u151 u152 u153 u154 u155 u156 u157 u158 u159 u160 u161 u162 u163 u164 u165 u166 u167 u168 u169 u170 u171 u172 u173 u174 u175 u176 u177 u178 u179 u180 u181 u182 u183 u184 u185 u186 u187 u188 u189 u190 u191 u192 u193 u194 u195 u196 u197 u198 u199 u200 u201 u202 u203 u204 u205 u206 u207 u208 u209 u210 u211 u212 u213 u214 u215 u216 u217 u218 u219 u220 u221 u222 u223 u224 u225 u226 u227 u228 u229 u230 u231 u232 u233 u234 u235 u236 u237 u238 u239 u240 u241 u242 u243 u244 u245 u246 u247 u248 u249 u250 u251 u252 u253 u254 u255 u256 u257 u258 u259 u260 u261 u262 u263 u264 : Value) :
    Code.wp Tryz.prog fEnd (bodyPost Tryz.prog Tryz.f38 (FdOut P s r w)) ⟨#[.pointer (some ⟨P, 0, none⟩), u1, .pointer (some ⟨X, 0, none⟩), .bool false, .pointer (some ⟨R, 0, none⟩), u5, u6, u7, u8, u9, u10, u11, u12, u13, u14, u15, u16, u17, u18, u19, u20, u21, u22, u23, u24, u25, u26, u27, u28, u29, u30, u31, u32, u33, u34, u35, u36, u37, u38, u39, u40, u41, u42, u43, u44, u45, u46, u47, u48, u49, u50, u51, u52, u53, u54, u55, u56, u57, u58, u59, u60, u61, u62, u63, u64, u65, u66, u67, u68, u69, u70, u71, u72, u73, u74, u75, u76, u77, u78, u79, u80, u81, u82, u83, u84, u85, u86, u87, u88, u89, u90, u91, u92, u93, u94, u95, u96, u97, u98, u99, u100, u101, u102, u103, u104, u105, u106, u107, u108, u109, u110, u111, u112, u113, u114, u115, u116, u117, u118, u119, u120, u121, u122, u123, u124, u125, u126, u127, u128, u129, u130, u131, u132, u133, u134, u135, u136, u137, u138, u139, u140, u141, u142, u143, u144, u145, u146, u147, u148, u149, u150, u151, u152, u153, u154, u155, u156, u157, u158, u159, u160, u161, u162, u163, u164, u165, u166, u167, u168, u169, u170, u171, u172, u173, u174, u175, u176, u177, u178, u179, u180, u181, u182, u183, u184, u185, u186, u187, u188, u189, u190, u191, u192, u193, u194, u195, u196, u197, u198, u199, u200, u201, u202, u203, u204, u205, u206, u207, u208, u209, u210, u211, u212, u213, u214, u215, u216, u217, u218, u219, u220, u221, u222, u223, u224, u225, u226, u227, u228, u229, u230, u231, u232, u233, u234, u235, u236, u237, u238, u239, u240, u241, u242, u243, u244, u245, u246, u247, u248, u249, u250, u251, u252, u253, u254, u255, u256, u257, u258, u259, u260, u261, u262, u263, u264], []⟩ wx := by
  conv => arg 2; whnf
  have HX := Lib.hid h
  obtain ⟨⟨ne1, ne2, ne3⟩, ne4, ne5, ne6⟩ := h.nes
  have hlt : x2 < s.size := at_lt HT.out
  have hi : (x2 : Int) < (s.size : Int) := by omega
  have hd : s[x2]'hlt = d := by have h1 := byteS hlt; rw [HT.out] at h1; simpa using h1.symm
  have hcb := d.toNat_lt
  have hz44 := cmpN (n := 44) (by decide) h44
  have hzb44 : ((d.toNat : Int) == 44) = false := by simpa using hz44
  have H44 := Lib.hid h44
  clear h44
  obtain ⟨l, k, HLK⟩ := place_to s.data.toList f x2
  have HD := Lib.hid (h.done (b := false) (by simpa using hlt))
  clear h
  obtain ⟨⟨cp0_1, cp1_1, cp2_1, cp3_1⟩, ⟨cr0_1, cr1_1, cr2_1, cr3_1⟩, cx0_1, cx1_1, cx2_1⟩ := HX.out.all
  obtain ⟨⟨zp1_1, zp2_1⟩, ⟨zr0_1, zr1_1, zr2_1, zr3_1⟩, zx0_1, zx1_1, zx2_1⟩ := HX.out.fzs (by simp)
  go_wp2_with fail
  refine HD.out.mono ?_
  rintro e w1 ⟨rfl, H1⟩
  clear cp0_1 cp1_1 cp2_1 cp3_1 cr0_1 cr1_1 cr2_1 cr3_1 cx0_1 cx1_1 cx2_1 zp1_1 zp2_1 zr0_1 zr1_1 zr2_1 zr3_1 zx0_1 zx1_1 zx2_1
  clear HD
  obtain ⟨⟨cp0_2, cp1_2, cp2_2, cp3_2⟩, ⟨cr0_2, cr1_2, cr2_2, cr3_2⟩, cx0_2, cx1_2, cx2_2⟩ := H1.out.all
  obtain ⟨⟨zp1_2, zp2_2⟩, ⟨zr0_2, zr1_2, zr2_2, zr3_2⟩, zx0_2, zx1_2, zx2_2⟩ := H1.out.fzs (by simp)
  go_wp2_with fail
  go_quiet (fail)
  have HFq := Lib.hid (H1.out.drew nq)
  revert HFq
  generalize World.drewN _ nq = wq
  intro HFq
  clear cp0_2 cp1_2 cp2_2 cp3_2 cr0_2 cr1_2 cr2_2 cr3_2 cx0_2 cx1_2 cx2_2 zp1_2 zp2_2 zr0_2 zr1_2 zr2_2 zr3_2 zx0_2 zx1_2 zx2_2
  clear hd hi
  obtain ⟨⟨cp0_3, cp1_3, cp2_3, cp3_3⟩, ⟨cr0_3, cr1_3, cr2_3, cr3_3⟩, cx0_3, cx1_3, cx2_3⟩ := HFq.out.all
  obtain ⟨⟨zp1_3, zp2_3⟩, ⟨zr0_3, zr1_3, zr2_3, zr3_3⟩, zx0_3, zx1_3, zx2_3⟩ := HFq.out.fzs (by simp)
  have HNX := Lib.hid (HFq.out.next (k := 1) (by decide) (b := false) ((nx_white HT.out).trans HW.out))
  go_wp2_with fail
  refine HNX.out.mono ?_
  rintro e w4 ⟨rfl, H4⟩
  clear cp0_3 cp1_3 cp2_3 cp3_3 cr0_3 cr1_3 cr2_3 cr3_3 cx0_3 cx1_3 cx2_3 zp1_3 zp2_3 zr0_3 zr1_3 zr2_3 zr3_3 zx0_3 zx1_3 zx2_3
  clear HNX
  obtain ⟨⟨cp0_4, cp1_4, cp2_4, cp3_4⟩, ⟨cr0_4, cr1_4, cr2_4, cr3_4⟩, cx0_4, cx1_4, cx2_4⟩ := H4.out.all
  obtain ⟨⟨zp1_4, zp2_4⟩, ⟨zr0_4, zr1_4, zr2_4, zr3_4⟩, zx0_4, zx1_4, zx2_4⟩ := H4.out.fzs (by simp)
  have HFT := Lib.hid (H4.out.fault hs (i := x2) hf hx2 HLK.out)
  go_wp2_with fail
  refine HFT.out.mono ?_
  rintro e w5 ⟨rfl, H5⟩
  clear cp0_4 cp1_4 cp2_4 cp3_4 cr0_4 cr1_4 cr2_4 cr3_4 cx0_4 cx1_4 cx2_4 zp1_4 zp2_4 zr0_4 zr1_4 zr2_4 zr3_4 zx0_4 zx1_4 zx2_4
  clear HFT
  obtain ⟨⟨cp0_5, cp1_5, cp2_5, cp3_5⟩, ⟨cr0_5, cr1_5, cr2_5, cr3_5⟩, cx0_5, cx1_5, cx2_5⟩ := H5.out.all
  obtain ⟨⟨zp1_5, zp2_5⟩, ⟨zr0_5, zr1_5, zr2_5, zr3_5⟩, zx0_5, zx1_5, zx2_5⟩ := H5.out.fzs (by simp)
  go_wp2_with fail
  have HE := Lib.hid (((((((H5.out.px_ (by simp) 0 (.string ⟨#[]⟩)).px_ (by simp) 1 (.int .i64 0)).px_ (by simp) 2 (.string ⟨#[]⟩)).prr 0 (.bool true)).prr 1 (.int .i64 (l : Int))).prr 2 (.int .i64 (k : Int))).prr 3 (.bool false))
  obtain ⟨⟨cp0_99, cp1_99, cp2_99, cp3_99⟩, ⟨cr0_99, cr1_99, cr2_99, cr3_99⟩, cx0_99, cx1_99, cx2_99⟩ := HE.out.all
  obtain ⟨⟨zp1_99, zp2_99⟩, ⟨zr0_99, zr1_99, zr2_99, zr3_99⟩, zx0_99, zx1_99, zx2_99⟩ := HE.out.fzs (by simp)
  refine bodyPost_ret (v := .tuple #[.agg #[.string ⟨#[]⟩, .int .i64 0, .string ⟨#[]⟩], .bool false, .agg #[.bool true, .int .i64 (l : Int), .int .i64 (k : Int), .bool false]]) (by simp [results, Tryz.results38, go_sem, cr0_99, cr1_99, cr2_99, cr3_99, cx0_99, cx1_99, cx2_99]) rfl ?_
  exact .inr (.inr ⟨l, k, rfl, Lib.hid (FltAt.of (p := 2) HE.out.at_ HLK.out (HB.out _ _ (a_b HT.out H44.out HW.out)))⟩)
end Go.Proofs.YtlcbcgillekphaaGreatDoor.sd
namespace Go.Proofs.YtlcbcgillekphaaGreatDoor.sd
open Go.RowKit Mem rw ent
set_option linter.unusedVariables false
set_option linter.unusedSimpArgs false

set_option maxRecDepth 1000000 in
set_option maxHeartbeats 8000000 in
theorem fe_w (P X R : Nat) (s : ByteArray) (hs : s.size ≤ 4000) (w wx : World) (r : dm.Res (List UInt8 × Nat × List UInt8) × dm.M) (o u : List UInt8) (kd x2 f : Nat) (h : FS w P s R [.bool false, .int .i64 0, .int .i64 0, .bool false] X [.string ⟨o.toArray⟩, .int .i64 (kd : Nat), .string ⟨u.toArray⟩] 76 x2 2 f wx) (hx2 : x2 ≤ s.size) (hf : f ≤ x2) (HS : Hid (∀ m, dm.afterM s.data.toList ⟨x2, 2, f⟩ = (none, m) → r = (.some (o, kd, u), m))) (HB : Hid (∀ i m, dm.afterM s.data.toList ⟨x2, 2, f⟩ = (some i, m) → r = dm.flt s.data.toList m i)) (d : UInt8) (HT : Hid (s.data.toList[x2]? = some d)) (h44 : ¬ d = 44) (HW : Hid (dm.white d = true)) (u1 u5 u6 u7 u8 u9 u10 u11 u12 u13 u14 u15 u16 u17 u18 u19 u20 u21 u22 u23 u24 u25 u26 u27 u28 u29 u30 u31 u32 u33 u34 u35 u36 u37 u38 u39 u40 u41 u42 u43 u44 u45 u46 u47 u48 u49 u50 u51 u52 u53 u54 u55 u56 u57 u58 u59 u60 u61 u62 u63 u64 u65 u66 u67 u68 u69 u70 u71 u72 u73 u74 u75 u76 u77 u78 u79 u80 u81 u82 u83 u84 u85 u86 u87 u88 u89 u90 u91 u92 u93 u94 u95 u96 u97 u98 u99 u100 u101 u102 u103 u104 u105 u106 u107 u108 u109 u110 u111 u112 u113 u114 u115 u116 u117 u118 u119 u120 u121 u122 u123 u124 u125 u126 u127 u128 u129 u130 u131 u132 u133 u134 u135 u136 u137 u138 u139 u140 u141 u142 u143 u144 u145 u146 u147 u148 u149 u150 u151 u152 u153 u154 u155 u156 u157 u158 u159 u160 u161 u162 u163 u164 u165 u166 u167 u168 u169 u170 u171 u172 u173 u174 u175 u176 u177 u178 u179 u180 u181 u182 u183 u184 u185 u186 u187 u188 u189 u190 u191 u192 u193 u194 u195 u196 u197 u198 u199 u200 u201 u202 u203 u204 u205 u206 u207 u208 u209 u210 u211 u212 u213 u214 u215 u216 u217 u218 u219 u220 u221 u222 u223 u224 u225 u226 u227 u228 u229 u230 u231 u232 u233 u234 u235 u236 u237 u238 u239 u240 u241 u242 u243 u244 u245 u246 u247 u248 u249 u250 u251 u252 u253 u254 u255 u256 u257 u258 u259 u260 u261 u262 u263 u264 : Value) :
    Code.wp Tryz.prog fEnd (bodyPost Tryz.prog Tryz.f38 (FdOut P s r w)) ⟨#[.pointer (some ⟨P, 0, none⟩), u1, .pointer (some ⟨X, 0, none⟩), .bool false, .pointer (some ⟨R, 0, none⟩), u5, u6, u7, u8, u9, u10, u11, u12, u13, u14, u15, u16, u17, u18, u19, u20, u21, u22, u23, u24, u25, u26, u27, u28, u29, u30, u31, u32, u33, u34, u35, u36, u37, u38, u39, u40, u41, u42, u43, u44, u45, u46, u47, u48, u49, u50, u51, u52, u53, u54, u55, u56, u57, u58, u59, u60, u61, u62, u63, u64, u65, u66, u67, u68, u69, u70, u71, u72, u73, u74, u75, u76, u77, u78, u79, u80, u81, u82, u83, u84, u85, u86, u87, u88, u89, u90, u91, u92, u93, u94, u95, u96, u97, u98, u99, u100, u101, u102, u103, u104, u105, u106, u107, u108, u109, u110, u111, u112, u113, u114, u115, u116, u117, u118, u119, u120, u121, u122, u123, u124, u125, u126, u127, u128, u129, u130, u131, u132, u133, u134, u135, u136, u137, u138, u139, u140, u141, u142, u143, u144, u145, u146, u147, u148, u149, u150, u151, u152, u153, u154, u155, u156, u157, u158, u159, u160, u161, u162, u163, u164, u165, u166, u167, u168, u169, u170, u171, u172, u173, u174, u175, u176, u177, u178, u179, u180, u181, u182, u183, u184, u185, u186, u187, u188, u189, u190, u191, u192, u193, u194, u195, u196, u197, u198, u199, u200, u201, u202, u203, u204, u205, u206, u207, u208, u209, u210, u211, u212, u213, u214, u215, u216, u217, u218, u219, u220, u221, u222, u223, u224, u225, u226, u227, u228, u229, u230, u231, u232, u233, u234, u235, u236, u237, u238, u239, u240, u241, u242, u243, u244, u245, u246, u247, u248, u249, u250, u251, u252, u253, u254, u255, u256, u257, u258, u259, u260, u261, u262, u263, u264], []⟩ wx := by
  conv => arg 2; whnf
  have HX := Lib.hid h
  obtain ⟨⟨ne1, ne2, ne3⟩, ne4, ne5, ne6⟩ := h.nes
  have hlt : x2 < s.size := at_lt HT.out
  have hi : (x2 : Int) < (s.size : Int) := by omega
  have hd : s[x2]'hlt = d := by have h1 := byteS hlt; rw [HT.out] at h1; simpa using h1.symm
  have hcb := d.toNat_lt
  have hz44 := cmpN (n := 44) (by decide) h44
  have hzb44 : ((d.toNat : Int) == 44) = false := by simpa using hz44
  have H44 := Lib.hid h44
  clear h44
  obtain ⟨n, x3, HN, HX3, hx3, hx3s⟩ := run_to (s := s) (a := x2) 0 hx2
  obtain ⟨N, be, heo⟩ : ∃ N be, eolV (s.data.toList.drop x3) = (N, be) := ⟨_, _, rfl⟩
  have HEV := Lib.hid heo
  have HEO := Lib.hid (eolQ s x3 heo)
  have hN := eolV_le heo hx3s
  obtain ⟨x4, hx4⟩ : ∃ x4, x3 + N = x4 := ⟨_, rfl⟩
  have HX4 := Lib.hid hx4
  have hw4 : IntKind.i64.wrap ((x3 : Int) + (N : Int)) = (x4 : Int) := by rw [IntKind.wrap_i64]; omega
  have hs3 : (x3 : Int) ≤ (s.size : Int) := by omega
  have hs0 : (0 : Int) ≤ (x3 : Int) := by omega
  clear heo hx4
  have HD := Lib.hid (h.done (b := false) (by simpa using hlt))
  clear h
  obtain ⟨⟨cp0_1, cp1_1, cp2_1, cp3_1⟩, ⟨cr0_1, cr1_1, cr2_1, cr3_1⟩, cx0_1, cx1_1, cx2_1⟩ := HX.out.all
  obtain ⟨⟨zp1_1, zp2_1⟩, ⟨zr0_1, zr1_1, zr2_1, zr3_1⟩, zx0_1, zx1_1, zx2_1⟩ := HX.out.fzs (by simp)
  go_wp2_with fail
  refine HD.out.mono ?_
  rintro e w1 ⟨rfl, H1⟩
  clear cp0_1 cp1_1 cp2_1 cp3_1 cr0_1 cr1_1 cr2_1 cr3_1 cx0_1 cx1_1 cx2_1 zp1_1 zp2_1 zr0_1 zr1_1 zr2_1 zr3_1 zx0_1 zx1_1 zx2_1
  clear HD
  obtain ⟨⟨cp0_2, cp1_2, cp2_2, cp3_2⟩, ⟨cr0_2, cr1_2, cr2_2, cr3_2⟩, cx0_2, cx1_2, cx2_2⟩ := H1.out.all
  obtain ⟨⟨zp1_2, zp2_2⟩, ⟨zr0_2, zr1_2, zr2_2, zr3_2⟩, zx0_2, zx1_2, zx2_2⟩ := H1.out.fzs (by simp)
  go_wp2_with fail
  go_quiet (fail)
  have HFq := Lib.hid (H1.out.drew nq)
  revert HFq
  generalize World.drewN _ nq = wq
  intro HFq
  clear cp0_2 cp1_2 cp2_2 cp3_2 cr0_2 cr1_2 cr2_2 cr3_2 cx0_2 cx1_2 cx2_2 zp1_2 zp2_2 zr0_2 zr1_2 zr2_2 zr3_2 zx0_2 zx1_2 zx2_2
  clear hd hi
  obtain ⟨⟨cp0_3, cp1_3, cp2_3, cp3_3⟩, ⟨cr0_3, cr1_3, cr2_3, cr3_3⟩, cx0_3, cx1_3, cx2_3⟩ := HFq.out.all
  obtain ⟨⟨zp1_3, zp2_3⟩, ⟨zr0_3, zr1_3, zr2_3, zr3_3⟩, zx0_3, zx1_3, zx2_3⟩ := HFq.out.fzs (by simp)
  have HNX := Lib.hid (HFq.out.next (k := 1) (by decide) (b := true) ((nx_white HT.out).trans HW.out))
  go_wp2_with fail
  refine HNX.out.mono ?_
  rintro e w4 ⟨rfl, H4⟩
  clear cp0_3 cp1_3 cp2_3 cp3_3 cr0_3 cr1_3 cr2_3 cr3_3 cx0_3 cx1_3 cx2_3 zp1_3 zp2_3 zr0_3 zr1_3 zr2_3 zr3_3 zx0_3 zx1_3 zx2_3
  clear HNX
  obtain ⟨⟨cp0_4, cp1_4, cp2_4, cp3_4⟩, ⟨cr0_4, cr1_4, cr2_4, cr3_4⟩, cx0_4, cx1_4, cx2_4⟩ := H4.out.all
  obtain ⟨⟨zp1_4, zp2_4⟩, ⟨zr0_4, zr1_4, zr2_4, zr3_4⟩, zx0_4, zx1_4, zx2_4⟩ := H4.out.fzs (by simp)
  have HRN := Lib.hid (H4.out.run hs hx2 (k := 0) (by decide) HN.out HX3.out)
  go_wp2_with fail
  refine HRN.out.mono ?_
  rintro e w5 ⟨rfl, H5⟩
  clear cp0_4 cp1_4 cp2_4 cp3_4 cr0_4 cr1_4 cr2_4 cr3_4 cx0_4 cx1_4 cx2_4 zp1_4 zp2_4 zr0_4 zr1_4 zr2_4 zr3_4 zx0_4 zx1_4 zx2_4
  clear HRN
  obtain ⟨⟨cp0_5, cp1_5, cp2_5, cp3_5⟩, ⟨cr0_5, cr1_5, cr2_5, cr3_5⟩, cx0_5, cx1_5, cx2_5⟩ := H5.out.all
  obtain ⟨⟨zp1_5, zp2_5⟩, ⟨zr0_5, zr1_5, zr2_5, zr3_5⟩, zx0_5, zx1_5, zx2_5⟩ := H5.out.fzs (by simp)
  go_wp2_with fail
  go_quiet ((go_at_call 21; (with_reducible refine (HEO.out _).mono ?_); rintro e w2 ⟨rfl, rfl⟩; exact ⟨rfl, _, rfl⟩))
  have HFr := Lib.hid (H5.out.drew nq)
  revert HFr
  generalize World.drewN _ nq = wr
  intro HFr
  clear cp0_5 cp1_5 cp2_5 cp3_5 cr0_5 cr1_5 cr2_5 cr3_5 cx0_5 cx1_5 cx2_5 zp1_5 zp2_5 zr0_5 zr1_5 zr2_5 zr3_5 zx0_5 zx1_5 zx2_5
  obtain ⟨⟨cp0_6, cp1_6, cp2_6, cp3_6⟩, ⟨cr0_6, cr1_6, cr2_6, cr3_6⟩, cx0_6, cx1_6, cx2_6⟩ := HFr.out.all
  obtain ⟨⟨zp1_6, zp2_6⟩, ⟨zr0_6, zr1_6, zr2_6, zr3_6⟩, zx0_6, zx1_6, zx2_6⟩ := HFr.out.fzs (by simp)
  cases be with
  | true =>
    go_wp2_with fail
    go_region
    go_wp2_with fail
    have HE := Lib.hid ((((((((((HFr.out.pa x4).pp 3 (.int .i64 3) rfl).pp 5 (.int .i64 5) rfl).px_ (by simp) 0 (.string ⟨o.toArray⟩)).px_ (by simp) 1 (.int .i64 (kd : Int))).px_ (by simp) 2 (.string ⟨u.toArray⟩)).prr 0 (.bool false)).prr 1 (.int .i64 0)).prr 2 (.int .i64 0)).prr 3 (.bool false))
    obtain ⟨⟨cp0_99, cp1_99, cp2_99, cp3_99⟩, ⟨cr0_99, cr1_99, cr2_99, cr3_99⟩, cx0_99, cx1_99, cx2_99⟩ := HE.out.all
    obtain ⟨⟨zp1_99, zp2_99⟩, ⟨zr0_99, zr1_99, zr2_99, zr3_99⟩, zx0_99, zx1_99, zx2_99⟩ := HE.out.fzs (by simp)
    refine bodyPost_ret (v := .tuple #[.agg #[.string ⟨o.toArray⟩, .int .i64 (kd : Int), .string ⟨u.toArray⟩], .bool true, .agg #[.bool false, .int .i64 0, .int .i64 0, .bool false]]) (by simp [results, Tryz.results38, go_sem, cr0_99, cr1_99, cr2_99, cr3_99, cx0_99, cx1_99, cx2_99]) rfl ?_
    exact .inr (.inl ⟨o, kd, u, x4, 5, f, HS.out _ (a_e HT.out H44.out HW.out HN.out HX3.out (eolV_some HEV.out) HX4.out), rfl, Lib.hid HE.out.dr.at_⟩)
  | false =>
    go_wp2_with fail
    go_region
    go_wp2_with fail
    have HE := Lib.hid (((((((((HFr.out.pa x4).pp 3 (.int .i64 3) rfl).px_ (by simp) 0 (.string ⟨o.toArray⟩)).px_ (by simp) 1 (.int .i64 (kd : Int))).px_ (by simp) 2 (.string ⟨u.toArray⟩)).prr 0 (.bool false)).prr 1 (.int .i64 0)).prr 2 (.int .i64 0)).prr 3 (.bool false))
    obtain ⟨⟨cp0_99, cp1_99, cp2_99, cp3_99⟩, ⟨cr0_99, cr1_99, cr2_99, cr3_99⟩, cx0_99, cx1_99, cx2_99⟩ := HE.out.all
    obtain ⟨⟨zp1_99, zp2_99⟩, ⟨zr0_99, zr1_99, zr2_99, zr3_99⟩, zx0_99, zx1_99, zx2_99⟩ := HE.out.fzs (by simp)
    refine bodyPost_ret (v := .tuple #[.agg #[.string ⟨o.toArray⟩, .int .i64 (kd : Int), .string ⟨u.toArray⟩], .bool true, .agg #[.bool false, .int .i64 0, .int .i64 0, .bool false]]) (by simp [results, Tryz.results38, go_sem, cr0_99, cr1_99, cr2_99, cr3_99, cx0_99, cx1_99, cx2_99]) rfl ?_
    exact .inr (.inl ⟨o, kd, u, x4, 3, f, HS.out _ (a_t HT.out H44.out HW.out HN.out HX3.out (eolV_none HEV.out).1 (eolV_none HEV.out).2 HX4.out), rfl, Lib.hid HE.out.dr.at_⟩)
end Go.Proofs.YtlcbcgillekphaaGreatDoor.sd
namespace Go.Proofs.YtlcbcgillekphaaGreatDoor.sd
open Go.RowKit Mem rw ent
set_option linter.unusedVariables false
set_option linter.unusedSimpArgs false

set_option maxRecDepth 1000000 in
set_option maxHeartbeats 8000000 in
theorem sw_q (P X R : Nat) (s : ByteArray) (hs : s.size ≤ 4000) (w wx : World) (r : dm.Res (List UInt8 × Nat × List UInt8) × dm.M) (Q : Exit → Act → World → Prop) (hret : ∀ a w', (bodyPost Tryz.prog Tryz.f38 (FdOut P s r w)) .ret a w' → Q .ret a w') (o : List UInt8) (a2 f : Nat) (d : UInt8) (h : FS w P s R [.bool false, .int .i64 0, .int .i64 0, .bool false] X [.string ⟨o.toArray⟩, .int .i64 0, .string ⟨#[]⟩] 76 a2 2 f wx) (hf : f ≤ a2) (HT : Hid (s.data.toList[a2]? = some d)) (hnorm : ∀ (kd : Nat) (u : List UInt8) (x2 : Nat) (w' : World) (v1 v5 v6 v7 v8 v9 v10 v11 v12 v13 v14 v15 v16 v17 v18 v19 v20 v21 v22 v23 v24 v25 v26 v27 v28 v29 v30 v31 v32 v33 v34 v35 v36 v37 v38 v39 v40 v41 v42 v43 v44 v45 v46 v47 v48 v49 v50 v51 v52 v53 v54 v55 v56 v57 v58 v59 v60 v61 v62 v63 v64 v65 v66 v67 v68 v69 v70 v71 v72 v73 v74 v75 v76 v77 v78 v79 v80 v81 v82 v83 v84 v85 v86 v87 v88 v89 v90 v91 v92 v93 v94 v95 v96 v97 v98 v99 v100 v101 v102 v103 v104 v105 v106 v107 v108 v109 v110 v111 v112 v113 v114 v115 v116 v117 v118 v119 v120 v121 v122 v123 v124 v125 v126 v127 v128 v129 v130 v131 v132 v133 v134 v135 v136 v137 v138 v139 v140 v141 v142 v143 v144 v145 v146 v147 v148 v149 v150 v151 v152 v153 v154 v155 v156 v157 v158 v159 v160 v161 v162 v163 v164 v165 v166 v167 v168 v169 v170 v171 v172 v173 v174 v175 v176 v177 v178 v179 v180 v181 v182 v183 v184 v185 v186 v187 v188 v189 v190 v191 v192 v193 v194 v195 v196 v197 v198 v199 v200 v201 v202 v203 v204 v205 v206 v207 v208 v209 v210 v211 v212 v213 v214 v215 v216 v217 v218 v219 v220 v221 v222 v223 v224 v225 v226 v227 v228 v229 v230 v231 v232 v233 v234 v235 v236 v237 v238 v239 v240 v241 v242 v243 v244 v245 v246 v247 v248 v249 v250 v251 v252 v253 v254 v255 v256 v257 v258 v259 v260 v261 v262 v263 v264 : Value), a2 ≤ x2 → x2 ≤ s.size → Hid (dm.valueM s.data.toList ⟨a2, 2, f⟩ = (.inr (kd, u), ⟨x2, 2, f⟩)) → Hid (FS w P s R [.bool false, .int .i64 0, .int .i64 0, .bool false] X [.string ⟨o.toArray⟩, .int .i64 (kd : Nat), .string ⟨u.toArray⟩] 76 x2 2 f w') → Q .normal ⟨#[.pointer (some ⟨P, 0, none⟩), v1, .pointer (some ⟨X, 0, none⟩), .bool false, .pointer (some ⟨R, 0, none⟩), v5, v6, v7, v8, v9, v10, v11, v12, v13, v14, v15, v16, v17, v18, v19, v20, v21, v22, v23, v24, v25, v26, v27, v28, v29, v30, v31, v32, v33, v34, v35, v36, v37, v38, v39, v40, v41, v42, v43, v44, v45, v46, v47, v48, v49, v50, v51, v52, v53, v54, v55, v56, v57, v58, v59, v60, v61, v62, v63, v64, v65, v66, v67, v68, v69, v70, v71, v72, v73, v74, v75, v76, v77, v78, v79, v80, v81, v82, v83, v84, v85, v86, v87, v88, v89, v90, v91, v92, v93, v94, v95, v96, v97, v98, v99, v100, v101, v102, v103, v104, v105, v106, v107, v108, v109, v110, v111, v112, v113, v114, v115, v116, v117, v118, v119, v120, v121, v122, v123, v124, v125, v126, v127, v128, v129, v130, v131, v132, v133, v134, v135, v136, v137, v138, v139, v140, v141, v142, v143, v144, v145, v146, v147, v148, v149, v150, v151, v152, v153, v154, v155, v156, v157, v158, v159, v160, v161, v162, v163, v164, v165, v166, v167, v168, v169, v170, v171, v172, v173, v174, v175, v176, v177, v178, v179, v180, v181, v182, v183, v184, v185, v186, v187, v188, v189, v190, v191, v192, v193, v194, v195, v196, v197, v198, v199, v200, v201, v202, v203, v204, v205, v206, v207, v208, v209, v210, v211, v212, v213, v214, v215, v216, v217, v218, v219, v220, v221, v222, v223, v224, v225, v226, v227, v228, v229, v230, v231, v232, v233, v234, v235, v236, v237, v238, v239, v240, v241, v242, v243, v244, v245, v246, v247, v248, v249, v250, v251, v252, v253, v254, v255, v256, v257, v258, v259, v260, v261, v262, v263, v264], []⟩ w') (HB : Hid (∀ i m, dm.valueM s.data.toList ⟨a2, 2, f⟩ = (.inl i, m) → r = dm.flt s.data.toList m i)) (h34 : d = 34) (u1 u5 u7 u8 u9 u10 u11 u12 u13 u14 u15 u16 u17 u18 u19 u20 u21 u22 u23 u24 u25 u26 u27 u28 u29 u30 u31 u32 u33 u34 u35 u36 u37 u38 u39 u40 u41 u42 u43 u44 u45 u46 u47 u48 u49 u50 u51 u52 u53 u54 u55 u56 u57 u58 u59 u60 u61 u62 u63 u64 u65 u66 u67 u68 u69 u70 u71 u72 u73 u74 u75 u76 u77 u78 u79 u80 u81 u82 u83 u84 u85 u86 u87 u88 u89 u90 u91 u92 u93 u94 u95 u96 u97 u98 u99 u100 u101 u102 u103 u104 u105 u106 u107 u108 u109 u110 u111 u112 u113 u114 u115 u116 u117 u118 u119 u120 u121 u122 u123 u124 u125 u126 u127 u128 u129 u130 u131 u132 u133 u134 u135 u136 u137 u138 u139 u140 u141 u142 u143 u144 u145 u146 u147 u148 u149 u150 u151 u152 u153 u154 u155 u156 u157 u158 u159 u160 u161 u162 u163 u164 u165 u166 u167 u168 u169 u170 u171 u172 u173 u174 u175 u176 u177 u178 u179 u180 u181 u182 u183 u184 u185 u186 u187 u188 u189 u190 u191 u192 u193 u194 u195 u196 u197 u198 u199 u200 u201 u202 u203 u204 u205 u206 u207 u208 u209 u210 u211 u212 u213 u214 u215 u216 u217 u218 u219 u220 u221 u222 u223 u224 u225 u226 u227 u228 u229 u230 u231 u232 u233 u234 u235 u236 u237 u238 u239 u240 u241 u242 u243 u244 u245 u246 u247 u248 u249 u250 u251 u252 u253 u254 u255 u256 u257 u258 u259 u260 u261 u262 u263 u264 : Value) :
    Code.wp Tryz.prog fSw Q ⟨#[.pointer (some ⟨P, 0, none⟩), u1, .pointer (some ⟨X, 0, none⟩), .bool false, .pointer (some ⟨R, 0, none⟩), u5, .int .u8 (d.toNat : Int), u7, u8, u9, u10, u11, u12, u13, u14, u15, u16, u17, u18, u19, u20, u21, u22, u23, u24, u25, u26, u27, u28, u29, u30, u31, u32, u33, u34, u35, u36, u37, u38, u39, u40, u41, u42, u43, u44, u45, u46, u47, u48, u49, u50, u51, u52, u53, u54, u55, u56, u57, u58, u59, u60, u61, u62, u63, u64, u65, u66, u67, u68, u69, u70, u71, u72, u73, u74, u75, u76, u77, u78, u79, u80, u81, u82, u83, u84, u85, u86, u87, u88, u89, u90, u91, u92, u93, u94, u95, u96, u97, u98, u99, u100, u101, u102, u103, u104, u105, u106, u107, u108, u109, u110, u111, u112, u113, u114, u115, u116, u117, u118, u119, u120, u121, u122, u123, u124, u125, u126, u127, u128, u129, u130, u131, u132, u133, u134, u135, u136, u137, u138, u139, u140, u141, u142, u143, u144, u145, u146, u147, u148, u149, u150, u151, u152, u153, u154, u155, u156, u157, u158, u159, u160, u161, u162, u163, u164, u165, u166, u167, u168, u169, u170, u171, u172, u173, u174, u175, u176, u177, u178, u179, u180, u181, u182, u183, u184, u185, u186, u187, u188, u189, u190, u191, u192, u193, u194, u195, u196, u197, u198, u199, u200, u201, u202, u203, u204, u205, u206, u207, u208, u209, u210, u211, u212, u213, u214, u215, u216, u217, u218, u219, u220, u221, u222, u223, u224, u225, u226, u227, u228, u229, u230, u231, u232, u233, u234, u235, u236, u237, u238, u239, u240, u241, u242, u243, u244, u245, u246, u247, u248, u249, u250, u251, u252, u253, u254, u255, u256, u257, u258, u259, u260, u261, u262, u263, u264], []⟩ wx := by
  conv => arg 2; whnf
  have HX := Lib.hid h
  have HNO := Lib.hid hnorm
  have HRE := Lib.hid hret
  obtain ⟨⟨ne1, ne2, ne3⟩, ne4, ne5, ne6⟩ := h.nes
  have hlt : a2 < s.size := at_lt HT.out
  have hle2 : a2 ≤ s.size := by omega
  have hcb := d.toNat_lt
  clear h hnorm hret
  have hz : (d.toNat : Int) = 34 := by rw [h34]; rfl
  have hzb : ((d.toNat : Int) == 34) = true := by rw [hz]; rfl
  have HT34 : Hid (s.data.toList[a2]? = some 34) := Lib.hid (by rw [HT.out, h34])
  obtain ⟨a3, ha3⟩ : ∃ a3, a2 + 1 = a3 := ⟨_, rfl⟩
  have hw3 : IntKind.i64.wrap ((a2 : Int) + 1) = (a3 : Int) := by rw [IntKind.wrap_i64]; omega
  have HA3 := Lib.hid ha3
  have hle3 : a3 ≤ s.size := by omega
  have hf3 : f ≤ a3 := by omega
  obtain ⟨l2, k2, HLK2⟩ := place_to s.data.toList f a2
  obtain ⟨l3, k3, HLK3⟩ := place_to s.data.toList f a3
  obtain ⟨t, q4, a4, HTOK4, HA4, hq3, hq4⟩ := tok_to (s := s) (a := a3) 4 hle3
  have hge2 : a2 ≤ a4 := by omega
  clear ha3 h34 hz
  obtain ⟨⟨cp0_1, cp1_1, cp2_1, cp3_1⟩, ⟨cr0_1, cr1_1, cr2_1, cr3_1⟩, cx0_1, cx1_1, cx2_1⟩ := HX.out.all
  obtain ⟨⟨zp1_1, zp2_1⟩, ⟨zr0_1, zr1_1, zr2_1, zr3_1⟩, zx0_1, zx1_1, zx2_1⟩ := HX.out.fzs (by simp)
  have HTK := Lib.hid (((HX.out.pa a3).px_ (by simp) 1 (.int .i64 1)).token hs hle3 hf3 (k := 4) (by decide) HTOK4.out HA4.out HLK3.out)
  go_wp2_with fail
  refine HTK.out.mono ?_
  rintro e w4 hT
  clear cp0_1 cp1_1 cp2_1 cp3_1 cr0_1 cr1_1 cr2_1 cr3_1 cx0_1 cx1_1 cx2_1 zp1_1 zp2_1 zr0_1 zr1_1 zr2_1 zr3_1 zx0_1 zx1_1 zx2_1
  clear HTK
  rcases hT with ⟨hv, rfl, H4⟩ | ⟨hv, rfl, H4⟩
  all_goals dsimp only
  rotate_left
  · have HV := Lib.hid hv
    clear hv
    obtain ⟨⟨cp0_2, cp1_2, cp2_2, cp3_2⟩, ⟨cr0_2, cr1_2, cr2_2, cr3_2⟩, cx0_2, cx1_2, cx2_2⟩ := H4.out.all
    obtain ⟨⟨zp1_2, zp2_2⟩, ⟨zr0_2, zr1_2, zr2_2, zr3_2⟩, zx0_2, zx1_2, zx2_2⟩ := H4.out.fzs (by simp)
    go_wp2_with fail
    go_region
    go_wp2_with fail
    have HE := Lib.hid ((((((((((((H4.out.px_ (by simp) 2 (.string ⟨#[]⟩)).prr 0 (.bool true)).prr 1 (.int .i64 (l3 : Int))).prr 2 (.int .i64 (k3 : Int))).prr 3 (.bool false)).px_ (by simp) 0 (.string ⟨#[]⟩)).px_ (by simp) 1 (.int .i64 0)).px_ (by simp) 2 (.string ⟨#[]⟩)).prr 0 (.bool true)).prr 1 (.int .i64 (l3 : Int))).prr 2 (.int .i64 (k3 : Int))).prr 3 (.bool false))
    obtain ⟨⟨cp0_99, cp1_99, cp2_99, cp3_99⟩, ⟨cr0_99, cr1_99, cr2_99, cr3_99⟩, cx0_99, cx1_99, cx2_99⟩ := HE.out.all
    obtain ⟨⟨zp1_99, zp2_99⟩, ⟨zr0_99, zr1_99, zr2_99, zr3_99⟩, zx0_99, zx1_99, zx2_99⟩ := HE.out.fzs (by simp)
    refine HRE.out _ _ ?_
    refine bodyPost_ret (v := .tuple #[.agg #[.string ⟨#[]⟩, .int .i64 0, .string ⟨#[]⟩], .bool false, .agg #[.bool true, .int .i64 (l3 : Int), .int .i64 (k3 : Int), .bool false]]) (by simp [results, Tryz.results38, go_sem, cr0_99, cr1_99, cr2_99, cr3_99, cx0_99, cx1_99, cx2_99]) rfl ?_
    exact .inr (.inr ⟨l3, k3, rfl, Lib.hid (FltAt.of (p := 2) HE.out.dr.at_ HLK3.out (HB.out _ _ (v_q1 HT34.out HA3.out HTOK4.out HA4.out HV.out)))⟩)
  have HV := Lib.hid hv
  clear hv
  obtain ⟨⟨cp0_2, cp1_2, cp2_2, cp3_2⟩, ⟨cr0_2, cr1_2, cr2_2, cr3_2⟩, cx0_2, cx1_2, cx2_2⟩ := H4.out.all
  obtain ⟨⟨zp1_2, zp2_2⟩, ⟨zr0_2, zr1_2, zr2_2, zr3_2⟩, zx0_2, zx1_2, zx2_2⟩ := H4.out.fzs (by simp)
  by_cases hge : s.size ≤ a4
  · have HD := Lib.hid ((((((H4.out.px_ (by simp) 2 (.string ⟨t.toArray⟩)).prr 0 (.bool false)).prr 1 (.int .i64 0)).prr 2 (.int .i64 0)).prr 3 (.bool false)).done (b := true) (by simpa using hge))
    have HGE := Lib.hid hge
    clear hge
    go_wp2_with fail
    refine HD.out.mono ?_
    rintro e w5 ⟨rfl, H5⟩
    dsimp only
    clear cp0_2 cp1_2 cp2_2 cp3_2 cr0_2 cr1_2 cr2_2 cr3_2 cx0_2 cx1_2 cx2_2 zp1_2 zp2_2 zr0_2 zr1_2 zr2_2 zr3_2 zx0_2 zx1_2 zx2_2
    clear HD
    obtain ⟨⟨cp0_3, cp1_3, cp2_3, cp3_3⟩, ⟨cr0_3, cr1_3, cr2_3, cr3_3⟩, cx0_3, cx1_3, cx2_3⟩ := H5.out.all
    obtain ⟨⟨zp1_3, zp2_3⟩, ⟨zr0_3, zr1_3, zr2_3, zr3_3⟩, zx0_3, zx1_3, zx2_3⟩ := H5.out.fzs (by simp)
    have HFT := Lib.hid (H5.out.fault hs (i := a2) hf hle2 HLK2.out)
    go_wp2_with fail
    refine HFT.out.mono ?_
    rintro e w6 ⟨rfl, H6⟩
    dsimp only
    clear cp0_3 cp1_3 cp2_3 cp3_3 cr0_3 cr1_3 cr2_3 cr3_3 cx0_3 cx1_3 cx2_3 zp1_3 zp2_3 zr0_3 zr1_3 zr2_3 zr3_3 zx0_3 zx1_3 zx2_3
    clear HFT
    obtain ⟨⟨cp0_4, cp1_4, cp2_4, cp3_4⟩, ⟨cr0_4, cr1_4, cr2_4, cr3_4⟩, cx0_4, cx1_4, cx2_4⟩ := H6.out.all
    obtain ⟨⟨zp1_4, zp2_4⟩, ⟨zr0_4, zr1_4, zr2_4, zr3_4⟩, zx0_4, zx1_4, zx2_4⟩ := H6.out.fzs (by simp)
    go_wp2_with fail
    have HE := Lib.hid (((((((H6.out.px_ (by simp) 0 (.string ⟨#[]⟩)).px_ (by simp) 1 (.int .i64 0)).px_ (by simp) 2 (.string ⟨#[]⟩)).prr 0 (.bool true)).prr 1 (.int .i64 (l2 : Int))).prr 2 (.int .i64 (k2 : Int))).prr 3 (.bool false))
    obtain ⟨⟨cp0_99, cp1_99, cp2_99, cp3_99⟩, ⟨cr0_99, cr1_99, cr2_99, cr3_99⟩, cx0_99, cx1_99, cx2_99⟩ := HE.out.all
    obtain ⟨⟨zp1_99, zp2_99⟩, ⟨zr0_99, zr1_99, zr2_99, zr3_99⟩, zx0_99, zx1_99, zx2_99⟩ := HE.out.fzs (by simp)
    refine HRE.out _ _ ?_
    refine bodyPost_ret (v := .tuple #[.agg #[.string ⟨#[]⟩, .int .i64 0, .string ⟨#[]⟩], .bool false, .agg #[.bool true, .int .i64 (l2 : Int), .int .i64 (k2 : Int), .bool false]]) (by simp [results, Tryz.results38, go_sem, cr0_99, cr1_99, cr2_99, cr3_99, cx0_99, cx1_99, cx2_99]) rfl ?_
    exact .inr (.inr ⟨l2, k2, rfl, Lib.hid (FltAt.of (p := 2) HE.out.at_ HLK2.out (HB.out _ _ (v_q2 HT34.out HA3.out HTOK4.out HA4.out HV.out (by simpa using HGE.out))))⟩)
  · obtain ⟨x2, hx2⟩ : ∃ x2, a4 + 1 = x2 := ⟨_, rfl⟩
    have hw5 : IntKind.i64.wrap ((a4 : Int) + 1) = (x2 : Int) := by rw [IntKind.wrap_i64]; omega
    have HX2 := Lib.hid hx2
    have HGE := Lib.hid hge
    have hxa : a2 ≤ x2 := by omega
    have hxb : x2 ≤ s.size := by omega
    have HD := Lib.hid ((((((H4.out.px_ (by simp) 2 (.string ⟨t.toArray⟩)).prr 0 (.bool false)).prr 1 (.int .i64 0)).prr 2 (.int .i64 0)).prr 3 (.bool false)).done (b := false) (by simpa using hge))
    clear hge hx2
    go_wp2_with fail
    refine HD.out.mono ?_
    rintro e w5 ⟨rfl, H5⟩
    dsimp only
    clear cp0_2 cp1_2 cp2_2 cp3_2 cr0_2 cr1_2 cr2_2 cr3_2 cx0_2 cx1_2 cx2_2 zp1_2 zp2_2 zr0_2 zr1_2 zr2_2 zr3_2 zx0_2 zx1_2 zx2_2
    clear HD
    obtain ⟨⟨cp0_3, cp1_3, cp2_3, cp3_3⟩, ⟨cr0_3, cr1_3, cr2_3, cr3_3⟩, cx0_3, cx1_3, cx2_3⟩ := H5.out.all
    obtain ⟨⟨zp1_3, zp2_3⟩, ⟨zr0_3, zr1_3, zr2_3, zr3_3⟩, zx0_3, zx1_3, zx2_3⟩ := H5.out.fzs (by simp)
    go_wp2_with fail
    exact HNO.out 1 t x2 _ _ _ _ _ _ _ _ _ _ _ _ _ _ _ _ _ _ _ _ _ _ _ _ _ _ _ _ _ _ _ _ _ _ _ _ _ _ _ _ _ _ _ _ _ _ _ _ _ _ _ _ _ _ _ _ _ _ _ _ _ _ _ _ _ _ _ _ _ _ _ _ _ _ _ _ _ _ _ _ _ _ _ _ _ _ _ _ _ _ _ _ _ _ _ _ _ _ _ _ _ _ _ _ _ _ _ _ _ _ _ _ _ _ _ _ _ _ _ _ _ _ _ _ _ _ _ _ _ _ _ _ _ _ _ _ _ _ _ _ _ _ _ _ _ _ _ _ _ _ _ _ _ _ _ _ _ _ _ _ _ _ _ _ _ _ _ _ _ _ _ _ _ _ _ _ _ _ _ _ _ _ _ _ _ _ _ _ _ _ _ _ _ _ _ _ _ _ _ _ _ _ _ _ _ _ _ _ _ _ _ _ _ _ _ _ _ _ _ _ _ _ _ _ _ _ _ _ _ _ _ _ _ _ _ _ _ _ _ _ _ _ _ _ _ _ _ _ _ _ _ _ _ _ _ _ _ _ _ _ _ _ hxa hxb (Lib.hid (v_q3 HT34.out HA3.out HTOK4.out HA4.out HV.out (by simpa using HGE.out) HX2.out)) (Lib.hid (H5.out.pa x2))
end Go.Proofs.YtlcbcgillekphaaGreatDoor.sd
namespace Go.Proofs.YtlcbcgillekphaaGreatDoor.sd
open Go.RowKit Mem rw ent
set_option linter.unusedVariables false
set_option linter.unusedSimpArgs false

set_option maxRecDepth 1000000 in
set_option maxHeartbeats 8000000 in
theorem sw_b (P X R : Nat) (s : ByteArray) (hs : s.size ≤ 4000) (w wx : World) (r : dm.Res (List UInt8 × Nat × List UInt8) × dm.M) (Q : Exit → Act → World → Prop) (hret : ∀ a w', (bodyPost Tryz.prog Tryz.f38 (FdOut P s r w)) .ret a w' → Q .ret a w') (o : List UInt8) (a2 f : Nat) (d : UInt8) (h : FS w P s R [.bool false, .int .i64 0, .int .i64 0, .bool false] X [.string ⟨o.toArray⟩, .int .i64 0, .string ⟨#[]⟩] 76 a2 2 f wx) (hf : f ≤ a2) (HT : Hid (s.data.toList[a2]? = some d)) (hnorm : ∀ (kd : Nat) (u : List UInt8) (x2 : Nat) (w' : World) (v1 v5 v6 v7 v8 v9 v10 v11 v12 v13 v14 v15 v16 v17 v18 v19 v20 v21 v22 v23 v24 v25 v26 v27 v28 v29 v30 v31 v32 v33 v34 v35 v36 v37 v38 v39 v40 v41 v42 v43 v44 v45 v46 v47 v48 v49 v50 v51 v52 v53 v54 v55 v56 v57 v58 v59 v60 v61 v62 v63 v64 v65 v66 v67 v68 v69 v70 v71 v72 v73 v74 v75 v76 v77 v78 v79 v80 v81 v82 v83 v84 v85 v86 v87 v88 v89 v90 v91 v92 v93 v94 v95 v96 v97 v98 v99 v100 v101 v102 v103 v104 v105 v106 v107 v108 v109 v110 v111 v112 v113 v114 v115 v116 v117 v118 v119 v120 v121 v122 v123 v124 v125 v126 v127 v128 v129 v130 v131 v132 v133 v134 v135 v136 v137 v138 v139 v140 v141 v142 v143 v144 v145 v146 v147 v148 v149 v150 v151 v152 v153 v154 v155 v156 v157 v158 v159 v160 v161 v162 v163 v164 v165 v166 v167 v168 v169 v170 v171 v172 v173 v174 v175 v176 v177 v178 v179 v180 v181 v182 v183 v184 v185 v186 v187 v188 v189 v190 v191 v192 v193 v194 v195 v196 v197 v198 v199 v200 v201 v202 v203 v204 v205 v206 v207 v208 v209 v210 v211 v212 v213 v214 v215 v216 v217 v218 v219 v220 v221 v222 v223 v224 v225 v226 v227 v228 v229 v230 v231 v232 v233 v234 v235 v236 v237 v238 v239 v240 v241 v242 v243 v244 v245 v246 v247 v248 v249 v250 v251 v252 v253 v254 v255 v256 v257 v258 v259 v260 v261 v262 v263 v264 : Value), a2 ≤ x2 → x2 ≤ s.size → Hid (dm.valueM s.data.toList ⟨a2, 2, f⟩ = (.inr (kd, u), ⟨x2, 2, f⟩)) → Hid (FS w P s R [.bool false, .int .i64 0, .int .i64 0, .bool false] X [.string ⟨o.toArray⟩, .int .i64 (kd : Nat), .string ⟨u.toArray⟩] 76 x2 2 f w') → Q .normal ⟨#[.pointer (some ⟨P, 0, none⟩), v1, .pointer (some ⟨X, 0, none⟩), .bool false, .pointer (some ⟨R, 0, none⟩), v5, v6, v7, v8, v9, v10, v11, v12, v13, v14, v15, v16, v17, v18, v19, v20, v21, v22, v23, v24, v25, v26, v27, v28, v29, v30, v31, v32, v33, v34, v35, v36, v37, v38, v39, v40, v41, v42, v43, v44, v45, v46, v47, v48, v49, v50, v51, v52, v53, v54, v55, v56, v57, v58, v59, v60, v61, v62, v63, v64, v65, v66, v67, v68, v69, v70, v71, v72, v73, v74, v75, v76, v77, v78, v79, v80, v81, v82, v83, v84, v85, v86, v87, v88, v89, v90, v91, v92, v93, v94, v95, v96, v97, v98, v99, v100, v101, v102, v103, v104, v105, v106, v107, v108, v109, v110, v111, v112, v113, v114, v115, v116, v117, v118, v119, v120, v121, v122, v123, v124, v125, v126, v127, v128, v129, v130, v131, v132, v133, v134, v135, v136, v137, v138, v139, v140, v141, v142, v143, v144, v145, v146, v147, v148, v149, v150, v151, v152, v153, v154, v155, v156, v157, v158, v159, v160, v161, v162, v163, v164, v165, v166, v167, v168, v169, v170, v171, v172, v173, v174, v175, v176, v177, v178, v179, v180, v181, v182, v183, v184, v185, v186, v187, v188, v189, v190, v191, v192, v193, v194, v195, v196, v197, v198, v199, v200, v201, v202, v203, v204, v205, v206, v207, v208, v209, v210, v211, v212, v213, v214, v215, v216, v217, v218, v219, v220, v221, v222, v223, v224, v225, v226, v227, v228, v229, v230, v231, v232, v233, v234, v235, v236, v237, v238, v239, v240, v241, v242, v243, v244, v245, v246, v247, v248, v249, v250, v251, v252, v253, v254, v255, v256, v257, v258, v259, v260, v261, v262, v263, v264], []⟩ w') (HB : Hid (∀ i m, dm.valueM s.data.toList ⟨a2, 2, f⟩ = (.inl i, m) → r = dm.flt s.data.toList m i)) (h34 : ¬ d = 34) (hbl : d = 116 ∨ d = 84 ∨ d = 102 ∨ d = 70) (u1 u5 u7 u8 u9 u10 u11 u12 u13 u14 u15 u16 u17 u18 u19 u20 u21 u22 u23 u24 u25 u26 u27 u28 u29 u30 u31 u32 u33 u34 u35 u36 u37 u38 u39 u40 u41 u42 u43 u44 u45 u46 u47 u48 u49 u50 u51 u52 u53 u54 u55 u56 u57 u58 u59 u60 u61 u62 u63 u64 u65 u66 u67 u68 u69 u70 u71 u72 u73 u74 u75 u76 u77 u78 u79 u80 u81 u82 u83 u84 u85 u86 u87 u88 u89 u90 u91 u92 u93 u94 u95 u96 u97 u98 u99 u100 u101 u102 u103 u104 u105 u106 u107 u108 u109 u110 u111 u112 u113 u114 u115 u116 u117 u118 u119 u120 u121 u122 u123 u124 u125 u126 u127 u128 u129 u130 u131 u132 u133 u134 u135 u136 u137 u138 u139 u140 u141 u142 u143 u144 u145 u146 u147 u148 u149 u150 u151 u152 u153 u154 u155 u156 u157 u158 u159 u160 u161 u162 u163 u164 u165 u166 u167 u168 u169 u170 u171 u172 u173 u174 u175 u176 u177 u178 u179 u180 u181 u182 u183 u184 u185 u186 u187 u188 u189 u190 u191 u192 u193 u194 u195 u196 u197 u198 u199 u200 u201 u202 u203 u204 u205 u206 u207 u208 u209 u210 u211 u212 u213 u214 u215 u216 u217 u218 u219 u220 u221 u222 u223 u224 u225 u226 u227 u228 u229 u230 u231 u232 u233 u234 u235 u236 u237 u238 u239 u240 u241 u242 u243 u244 u245 u246 u247 u248 u249 u250 u251 u252 u253 u254 u255 u256 u257 u258 u259 u260 u261 u262 u263 u264 : Value) :
    Code.wp Tryz.prog fSw Q ⟨#[.pointer (some ⟨P, 0, none⟩), u1, .pointer (some ⟨X, 0, none⟩), .bool false, .pointer (some ⟨R, 0, none⟩), u5, .int .u8 (d.toNat : Int), u7, u8, u9, u10, u11, u12, u13, u14, u15, u16, u17, u18, u19, u20, u21, u22, u23, u24, u25, u26, u27, u28, u29, u30, u31, u32, u33, u34, u35, u36, u37, u38, u39, u40, u41, u42, u43, u44, u45, u46, u47, u48, u49, u50, u51, u52, u53, u54, u55, u56, u57, u58, u59, u60, u61, u62, u63, u64, u65, u66, u67, u68, u69, u70, u71, u72, u73, u74, u75, u76, u77, u78, u79, u80, u81, u82, u83, u84, u85, u86, u87, u88, u89, u90, u91, u92, u93, u94, u95, u96, u97, u98, u99, u100, u101, u102, u103, u104, u105, u106, u107, u108, u109, u110, u111, u112, u113, u114, u115, u116, u117, u118, u119, u120, u121, u122, u123, u124, u125, u126, u127, u128, u129, u130, u131, u132, u133, u134, u135, u136, u137, u138, u139, u140, u141, u142, u143, u144, u145, u146, u147, u148, u149, u150, u151, u152, u153, u154, u155, u156, u157, u158, u159, u160, u161, u162, u163, u164, u165, u166, u167, u168, u169, u170, u171, u172, u173, u174, u175, u176, u177, u178, u179, u180, u181, u182, u183, u184, u185, u186, u187, u188, u189, u190, u191, u192, u193, u194, u195, u196, u197, u198, u199, u200, u201, u202, u203, u204, u205, u206, u207, u208, u209, u210, u211, u212, u213, u214, u215, u216, u217, u218, u219, u220, u221, u222, u223, u224, u225, u226, u227, u228, u229, u230, u231, u232, u233, u234, u235, u236, u237, u238, u239, u240, u241, u242, u243, u244, u245, u246, u247, u248, u249, u250, u251, u252, u253, u254, u255, u256, u257, u258, u259, u260, u261, u262, u263, u264], []⟩ wx := by
  conv => arg 2; whnf
  have HX := Lib.hid h
  have HNO := Lib.hid hnorm
  have HRE := Lib.hid hret
  obtain ⟨⟨ne1, ne2, ne3⟩, ne4, ne5, ne6⟩ := h.nes
  have hlt : a2 < s.size := at_lt HT.out
  have hle2 : a2 ≤ s.size := by omega
  have hcb := d.toNat_lt
  clear h hnorm hret
  have hb34 : ((d.toNat : Int) == 34) = false := by simpa using cmpN (n := 34) (by decide) h34
  have HN34 := Lib.hid h34
  clear h34
  obtain ⟨n, x2, HN, HX2, hx, hxs⟩ := run_to (s := s) (a := a2) 9 hle2
  obtain ⟨u, hu⟩ : ∃ u, (s.data.toList.drop a2).take n = u := ⟨_, rfl⟩
  have HU := Lib.hid hu
  have HRN := Lib.hid (HX.out.run hs hle2 (k := 9) (by decide) HN.out HX2.out)
  rw [hu] at HRN
  clear hu
  have HBL := Lib.hid hbl
  obtain ⟨⟨cp0_1, cp1_1, cp2_1, cp3_1⟩, ⟨cr0_1, cr1_1, cr2_1, cr3_1⟩, cx0_1, cx1_1, cx2_1⟩ := HX.out.all
  obtain ⟨⟨zp1_1, zp2_1⟩, ⟨zr0_1, zr1_1, zr2_1, zr3_1⟩, zx0_1, zx1_1, zx2_1⟩ := HX.out.fzs (by simp)
  rcases hbl with hv | hv | hv | hv
  · have hz : (d.toNat : Int) = 116 := by rw [hv]; rfl
    have hb116 : ((d.toNat : Int) == 116) = true := by rw [hz]; rfl
    clear hv hz
    go_wp2_with fail
    refine HRN.out.mono ?_
    rintro e w5 ⟨rfl, H5⟩
    dsimp only
    clear cp0_1 cp1_1 cp2_1 cp3_1 cr0_1 cr1_1 cr2_1 cr3_1 cx0_1 cx1_1 cx2_1 zp1_1 zp2_1 zr0_1 zr1_1 zr2_1 zr3_1 zx0_1 zx1_1 zx2_1
    clear HRN
    obtain ⟨⟨cp0_2, cp1_2, cp2_2, cp3_2⟩, ⟨cr0_2, cr1_2, cr2_2, cr3_2⟩, cx0_2, cx1_2, cx2_2⟩ := H5.out.all
    obtain ⟨⟨zp1_2, zp2_2⟩, ⟨zr0_2, zr1_2, zr2_2, zr3_2⟩, zx0_2, zx1_2, zx2_2⟩ := H5.out.fzs (by simp)
    go_wp2_with fail
    exact HNO.out 5 u x2 _ _ _ _ _ _ _ _ _ _ _ _ _ _ _ _ _ _ _ _ _ _ _ _ _ _ _ _ _ _ _ _ _ _ _ _ _ _ _ _ _ _ _ _ _ _ _ _ _ _ _ _ _ _ _ _ _ _ _ _ _ _ _ _ _ _ _ _ _ _ _ _ _ _ _ _ _ _ _ _ _ _ _ _ _ _ _ _ _ _ _ _ _ _ _ _ _ _ _ _ _ _ _ _ _ _ _ _ _ _ _ _ _ _ _ _ _ _ _ _ _ _ _ _ _ _ _ _ _ _ _ _ _ _ _ _ _ _ _ _ _ _ _ _ _ _ _ _ _ _ _ _ _ _ _ _ _ _ _ _ _ _ _ _ _ _ _ _ _ _ _ _ _ _ _ _ _ _ _ _ _ _ _ _ _ _ _ _ _ _ _ _ _ _ _ _ _ _ _ _ _ _ _ _ _ _ _ _ _ _ _ _ _ _ _ _ _ _ _ _ _ _ _ _ _ _ _ _ _ _ _ _ _ _ _ _ _ _ _ _ _ _ _ _ _ _ _ _ _ _ _ _ _ _ _ _ _ _ _ _ _ _ hx hxs (Lib.hid (v_b HT.out HN34.out HBL.out HN.out HX2.out HU.out)) (Lib.hid ((H5.out.px_ (by simp) 1 (.int .i64 5)).px_ (by simp) 2 (.string ⟨u.toArray⟩)))
  · have hz : (d.toNat : Int) = 84 := by rw [hv]; rfl
    have hb116 : ((d.toNat : Int) == 116) = false := by rw [hz]; rfl
    have hb84 : ((d.toNat : Int) == 84) = true := by rw [hz]; rfl
    clear hv hz
    go_wp2_with fail
    refine HRN.out.mono ?_
    rintro e w5 ⟨rfl, H5⟩
    dsimp only
    clear cp0_1 cp1_1 cp2_1 cp3_1 cr0_1 cr1_1 cr2_1 cr3_1 cx0_1 cx1_1 cx2_1 zp1_1 zp2_1 zr0_1 zr1_1 zr2_1 zr3_1 zx0_1 zx1_1 zx2_1
    clear HRN
    obtain ⟨⟨cp0_2, cp1_2, cp2_2, cp3_2⟩, ⟨cr0_2, cr1_2, cr2_2, cr3_2⟩, cx0_2, cx1_2, cx2_2⟩ := H5.out.all
    obtain ⟨⟨zp1_2, zp2_2⟩, ⟨zr0_2, zr1_2, zr2_2, zr3_2⟩, zx0_2, zx1_2, zx2_2⟩ := H5.out.fzs (by simp)
    go_wp2_with fail
    exact HNO.out 5 u x2 _ _ _ _ _ _ _ _ _ _ _ _ _ _ _ _ _ _ _ _ _ _ _ _ _ _ _ _ _ _ _ _ _ _ _ _ _ _ _ _ _ _ _ _ _ _ _ _ _ _ _ _ _ _ _ _ _ _ _ _ _ _ _ _ _ _ _ _ _ _ _ _ _ _ _ _ _ _ _ _ _ _ _ _ _ _ _ _ _ _ _ _ _ _ _ _ _ _ _ _ _ _ _ _ _ _ _ _ _ _ _ _ _ _ _ _ _ _ _ _ _ _ _ _ _ _ _ _ _ _ _ _ _ _ _ _ _ _ _ _ _ _ _ _ _ _ _ _ _ _ _ _ _ _ _ _ _ _ _ _ _ _ _ _ _ _ _ _ _ _ _ _ _ _ _ _ _ _ _ _ _ _ _ _ _ _ _ _ _ _ _ _ _ _ _ _ _ _ _ _ _ _ _ _ _ _ _ _ _ _ _ _ _ _ _ _ _ _ _ _ _ _ _ _ _ _ _ _ _ _ _ _ _ _ _ _ _ _ _ _ _ _ _ _ _ _ _ _ _ _ _ _ _ _ _ _ _ _ _ _ _ _ hx hxs (Lib.hid (v_b HT.out HN34.out HBL.out HN.out HX2.out HU.out)) (Lib.hid ((H5.out.px_ (by simp) 1 (.int .i64 5)).px_ (by simp) 2 (.string ⟨u.toArray⟩)))
  · have hz : (d.toNat : Int) = 102 := by rw [hv]; rfl
    have hb116 : ((d.toNat : Int) == 116) = false := by rw [hz]; rfl
    have hb84 : ((d.toNat : Int) == 84) = false := by rw [hz]; rfl
    have hb102 : ((d.toNat : Int) == 102) = true := by rw [hz]; rfl
    clear hv hz
    go_wp2_with fail
    refine HRN.out.mono ?_
    rintro e w5 ⟨rfl, H5⟩
    dsimp only
    clear cp0_1 cp1_1 cp2_1 cp3_1 cr0_1 cr1_1 cr2_1 cr3_1 cx0_1 cx1_1 cx2_1 zp1_1 zp2_1 zr0_1 zr1_1 zr2_1 zr3_1 zx0_1 zx1_1 zx2_1
    clear HRN
    obtain ⟨⟨cp0_2, cp1_2, cp2_2, cp3_2⟩, ⟨cr0_2, cr1_2, cr2_2, cr3_2⟩, cx0_2, cx1_2, cx2_2⟩ := H5.out.all
    obtain ⟨⟨zp1_2, zp2_2⟩, ⟨zr0_2, zr1_2, zr2_2, zr3_2⟩, zx0_2, zx1_2, zx2_2⟩ := H5.out.fzs (by simp)
    go_wp2_with fail
    exact HNO.out 5 u x2 _ _ _ _ _ _ _ _ _ _ _ _ _ _ _ _ _ _ _ _ _ _ _ _ _ _ _ _ _ _ _ _ _ _ _ _ _ _ _ _ _ _ _ _ _ _ _ _ _ _ _ _ _ _ _ _ _ _ _ _ _ _ _ _ _ _ _ _ _ _ _ _ _ _ _ _ _ _ _ _ _ _ _ _ _ _ _ _ _ _ _ _ _ _ _ _ _ _ _ _ _ _ _ _ _ _ _ _ _ _ _ _ _ _ _ _ _ _ _ _ _ _ _ _ _ _ _ _ _ _ _ _ _ _ _ _ _ _ _ _ _ _ _ _ _ _ _ _ _ _ _ _ _ _ _ _ _ _ _ _ _ _ _ _ _ _ _ _ _ _ _ _ _ _ _ _ _ _ _ _ _ _ _ _ _ _ _ _ _ _ _ _ _ _ _ _ _ _ _ _ _ _ _ _ _ _ _ _ _ _ _ _ _ _ _ _ _ _ _ _ _ _ _ _ _ _ _ _ _ _ _ _ _ _ _ _ _ _ _ _ _ _ _ _ _ _ _ _ _ _ _ _ _ _ _ _ _ _ _ _ _ _ hx hxs (Lib.hid (v_b HT.out HN34.out HBL.out HN.out HX2.out HU.out)) (Lib.hid ((H5.out.px_ (by simp) 1 (.int .i64 5)).px_ (by simp) 2 (.string ⟨u.toArray⟩)))
  · have hz : (d.toNat : Int) = 70 := by rw [hv]; rfl
    have hb116 : ((d.toNat : Int) == 116) = false := by rw [hz]; rfl
    have hb84 : ((d.toNat : Int) == 84) = false := by rw [hz]; rfl
    have hb102 : ((d.toNat : Int) == 102) = false := by rw [hz]; rfl
    have hb70 : ((d.toNat : Int) == 70) = true := by rw [hz]; rfl
    clear hv hz
    go_wp2_with fail
    refine HRN.out.mono ?_
    rintro e w5 ⟨rfl, H5⟩
    dsimp only
    clear cp0_1 cp1_1 cp2_1 cp3_1 cr0_1 cr1_1 cr2_1 cr3_1 cx0_1 cx1_1 cx2_1 zp1_1 zp2_1 zr0_1 zr1_1 zr2_1 zr3_1 zx0_1 zx1_1 zx2_1
    clear HRN
    obtain ⟨⟨cp0_2, cp1_2, cp2_2, cp3_2⟩, ⟨cr0_2, cr1_2, cr2_2, cr3_2⟩, cx0_2, cx1_2, cx2_2⟩ := H5.out.all
    obtain ⟨⟨zp1_2, zp2_2⟩, ⟨zr0_2, zr1_2, zr2_2, zr3_2⟩, zx0_2, zx1_2, zx2_2⟩ := H5.out.fzs (by simp)
    go_wp2_with fail
    exact HNO.out 5 u x2 _ _ _ _ _ _ _ _ _ _ _ _ _ _ _ _ _ _ _ _ _ _ _ _ _ _ _ _ _ _ _ _ _ _ _ _ _ _ _ _ _ _ _ _ _ _ _ _ _ _ _ _ _ _ _ _ _ _ _ _ _ _ _ _ _ _ _ _ _ _ _ _ _ _ _ _ _ _ _ _ _ _ _ _ _ _ _ _ _ _ _ _ _ _ _ _ _ _ _ _ _ _ _ _ _ _ _ _ _ _ _ _ _ _ _ _ _ _ _ _ _ _ _ _ _ _ _ _ _ _ _ _ _ _ _ _ _ _ _ _ _ _ _ _ _ _ _ _ _ _ _ _ _ _ _ _ _ _ _ _ _ _ _ _ _ _ _ _ _ _ _ _ _ _ _ _ _ _ _ _ _ _ _ _ _ _ _ _ _ _ _ _ _ _ _ _ _ _ _ _ _ _ _ _ _ _ _ _ _ _ _ _ _ _ _ _ _ _ _ _ _ _ _ _ _ _ _ _ _ _ _ _ _ _ _ _ _ _ _ _ _ _ _ _ _ _ _ _ _ _ _ _ _ _ _ _ _ _ _ _ _ _ hx hxs (Lib.hid (v_b HT.out HN34.out HBL.out HN.out HX2.out HU.out)) (Lib.hid ((H5.out.px_ (by simp) 1 (.int .i64 5)).px_ (by simp) 2 (.string ⟨u.toArray⟩)))
set_option maxRecDepth 1000000 in
set_option maxHeartbeats 8000000 in
theorem sw_o (P X R : Nat) (s : ByteArray) (hs : s.size ≤ 4000) (w wx : World) (r : dm.Res (List UInt8 × Nat × List UInt8) × dm.M) (Q : Exit → Act → World → Prop) (hret : ∀ a w', (bodyPost Tryz.prog Tryz.f38 (FdOut P s r w)) .ret a w' → Q .ret a w') (o : List UInt8) (a2 f : Nat) (d : UInt8) (h : FS w P s R [.bool false, .int .i64 0, .int .i64 0, .bool false] X [.string ⟨o.toArray⟩, .int .i64 0, .string ⟨#[]⟩] 76 a2 2 f wx) (hf : f ≤ a2) (HT : Hid (s.data.toList[a2]? = some d)) (hnorm : ∀ (kd : Nat) (u : List UInt8) (x2 : Nat) (w' : World) (v1 v5 v6 v7 v8 v9 v10 v11 v12 v13 v14 v15 v16 v17 v18 v19 v20 v21 v22 v23 v24 v25 v26 v27 v28 v29 v30 v31 v32 v33 v34 v35 v36 v37 v38 v39 v40 v41 v42 v43 v44 v45 v46 v47 v48 v49 v50 v51 v52 v53 v54 v55 v56 v57 v58 v59 v60 v61 v62 v63 v64 v65 v66 v67 v68 v69 v70 v71 v72 v73 v74 v75 v76 v77 v78 v79 v80 v81 v82 v83 v84 v85 v86 v87 v88 v89 v90 v91 v92 v93 v94 v95 v96 v97 v98 v99 v100 v101 v102 v103 v104 v105 v106 v107 v108 v109 v110 v111 v112 v113 v114 v115 v116 v117 v118 v119 v120 v121 v122 v123 v124 v125 v126 v127 v128 v129 v130 v131 v132 v133 v134 v135 v136 v137 v138 v139 v140 v141 v142 v143 v144 v145 v146 v147 v148 v149 v150 v151 v152 v153 v154 v155 v156 v157 v158 v159 v160 v161 v162 v163 v164 v165 v166 v167 v168 v169 v170 v171 v172 v173 v174 v175 v176 v177 v178 v179 v180 v181 v182 v183 v184 v185 v186 v187 v188 v189 v190 v191 v192 v193 v194 v195 v196 v197 v198 v199 v200 v201 v202 v203 v204 v205 v206 v207 v208 v209 v210 v211 v212 v213 v214 v215 v216 v217 v218 v219 v220 v221 v222 v223 v224 v225 v226 v227 v228 v229 v230 v231 v232 v233 v234 v235 v236 v237 v238 v239 v240 v241 v242 v243 v244 v245 v246 v247 v248 v249 v250 v251 v252 v253 v254 v255 v256 v257 v258 v259 v260 v261 v262 v263 v264 : Value), a2 ≤ x2 → x2 ≤ s.size → Hid (dm.valueM s.data.toList ⟨a2, 2, f⟩ = (.inr (kd, u), ⟨x2, 2, f⟩)) → Hid (FS w P s R [.bool false, .int .i64 0, .int .i64 0, .bool false] X [.string ⟨o.toArray⟩, .int .i64 (kd : Nat), .string ⟨u.toArray⟩] 76 x2 2 f w') → Q .normal ⟨#[.pointer (some ⟨P, 0, none⟩), v1, .pointer (some ⟨X, 0, none⟩), .bool false, .pointer (some ⟨R, 0, none⟩), v5, v6, v7, v8, v9, v10, v11, v12, v13, v14, v15, v16, v17, v18, v19, v20, v21, v22, v23, v24, v25, v26, v27, v28, v29, v30, v31, v32, v33, v34, v35, v36, v37, v38, v39, v40, v41, v42, v43, v44, v45, v46, v47, v48, v49, v50, v51, v52, v53, v54, v55, v56, v57, v58, v59, v60, v61, v62, v63, v64, v65, v66, v67, v68, v69, v70, v71, v72, v73, v74, v75, v76, v77, v78, v79, v80, v81, v82, v83, v84, v85, v86, v87, v88, v89, v90, v91, v92, v93, v94, v95, v96, v97, v98, v99, v100, v101, v102, v103, v104, v105, v106, v107, v108, v109, v110, v111, v112, v113, v114, v115, v116, v117, v118, v119, v120, v121, v122, v123, v124, v125, v126, v127, v128, v129, v130, v131, v132, v133, v134, v135, v136, v137, v138, v139, v140, v141, v142, v143, v144, v145, v146, v147, v148, v149, v150, v151, v152, v153, v154, v155, v156, v157, v158, v159, v160, v161, v162, v163, v164, v165, v166, v167, v168, v169, v170, v171, v172, v173, v174, v175, v176, v177, v178, v179, v180, v181, v182, v183, v184, v185, v186, v187, v188, v189, v190, v191, v192, v193, v194, v195, v196, v197, v198, v199, v200, v201, v202, v203, v204, v205, v206, v207, v208, v209, v210, v211, v212, v213, v214, v215, v216, v217, v218, v219, v220, v221, v222, v223, v224, v225, v226, v227, v228, v229, v230, v231, v232, v233, v234, v235, v236, v237, v238, v239, v240, v241, v242, v243, v244, v245, v246, v247, v248, v249, v250, v251, v252, v253, v254, v255, v256, v257, v258, v259, v260, v261, v262, v263, v264], []⟩ w') (HB : Hid (∀ i m, dm.valueM s.data.toList ⟨a2, 2, f⟩ = (.inl i, m) → r = dm.flt s.data.toList m i)) (h34 : ¬ d = 34) (hbl : ¬ (d = 116 ∨ d = 84 ∨ d = 102 ∨ d = 70)) (hnm : ¬ (d = 45 ∨ d = 46 ∨ (48 ≤ d.toNat ∧ d.toNat ≤ 57))) (u1 u5 u7 u8 u9 u10 u11 u12 u13 u14 u15 u16 u17 u18 u19 u20 u21 u22 u23 u24 u25 u26 u27 u28 u29 u30 u31 u32 u33 u34 u35 u36 u37 u38 u39 u40 u41 u42 u43 u44 u45 u46 u47 u48 u49 u50 u51 u52 u53 u54 u55 u56 u57 u58 u59 u60 u61 u62 u63 u64 u65 u66 u67 u68 u69 u70 u71 u72 u73 u74 u75 u76 u77 u78 u79 u80 u81 u82 u83 u84 u85 u86 u87 u88 u89 u90 u91 u92 u93 u94 u95 u96 u97 u98 u99 u100 u101 u102 u103 u104 u105 u106 u107 u108 u109 u110 u111 u112 u113 u114 u115 u116 u117 u118 u119 u120 u121 u122 u123 u124 u125 u126 u127 u128 u129 u130 u131 u132 u133 u134 u135 u136 u137 u138 u139 u140 u141 u142 u143 u144 u145 u146 u147 u148 u149 u150 u151 u152 u153 u154 u155 u156 u157 u158 u159 u160 u161 u162 u163 u164 u165 u166 u167 u168 u169 u170 u171 u172 u173 u174 u175 u176 u177 u178 u179 u180 u181 u182 u183 u184 u185 u186 u187 u188 u189 u190 u191 u192 u193 u194 u195 u196 u197 u198 u199 u200 u201 u202 u203 u204 u205 u206 u207 u208 u209 u210 u211 u212 u213 u214 u215 u216 u217 u218 u219 u220 u221 u222 u223 u224 u225 u226 u227 u228 u229 u230 u231 u232 u233 u234 u235 u236 u237 u238 u239 u240 u241 u242 u243 u244 u245 u246 u247 u248 u249 u250 u251 u252 u253 u254 u255 u256 u257 u258 u259 u260 u261 u262 u263 u264 : Value) :
    Code.wp Tryz.prog fSw Q ⟨#[.pointer (some ⟨P, 0, none⟩), u1, .pointer (some ⟨X, 0, none⟩), .bool false, .pointer (some ⟨R, 0, none⟩), u5, .int .u8 (d.toNat : Int), u7, u8, u9, u10, u11, u12, u13, u14, u15, u16, u17, u18, u19, u20, u21, u22, u23, u24, u25, u26, u27, u28, u29, u30, u31, u32, u33, u34, u35, u36, u37, u38, u39, u40, u41, u42, u43, u44, u45, u46, u47, u48, u49, u50, u51, u52, u53, u54, u55, u56, u57, u58, u59, u60, u61, u62, u63, u64, u65, u66, u67, u68, u69, u70, u71, u72, u73, u74, u75, u76, u77, u78, u79, u80, u81, u82, u83, u84, u85, u86, u87, u88, u89, u90, u91, u92, u93, u94, u95, u96, u97, u98, u99, u100, u101, u102, u103, u104, u105, u106, u107, u108, u109, u110, u111, u112, u113, u114, u115, u116, u117, u118, u119, u120, u121, u122, u123, u124, u125, u126, u127, u128, u129, u130, u131, u132, u133, u134, u135, u136, u137, u138, u139, u140, u141, u142, u143, u144, u145, u146, u147, u148, u149, u150, u151, u152, u153, u154, u155, u156, u157, u158, u159, u160, u161, u162, u163, u164, u165, u166, u167, u168, u169, u170, u171, u172, u173, u174, u175, u176, u177, u178, u179, u180, u181, u182, u183, u184, u185, u186, u187, u188, u189, u190, u191, u192, u193, u194, u195, u196, u197, u198, u199, u200, u201, u202, u203, u204, u205, u206, u207, u208, u209, u210, u211, u212, u213, u214, u215, u216, u217, u218, u219, u220, u221, u222, u223, u224, u225, u226, u227, u228, u229, u230, u231, u232, u233, u234, u235, u236, u237, u238, u239, u240, u241, u242, u243, u244, u245, u246, u247, u248, u249, u250, u251, u252, u253, u254, u255, u256, u257, u258, u259, u260, u261, u262, u263, u264], []⟩ wx := by
  conv => arg 2; whnf
  have HX := Lib.hid h
  have HNO := Lib.hid hnorm
  have HRE := Lib.hid hret
  obtain ⟨⟨ne1, ne2, ne3⟩, ne4, ne5, ne6⟩ := h.nes
  have hlt : a2 < s.size := at_lt HT.out
  have hle2 : a2 ≤ s.size := by omega
  have hcb := d.toNat_lt
  clear h hnorm hret
  have hb34 : ((d.toNat : Int) == 34) = false := by simpa using cmpN (n := 34) (by decide) h34
  have HN34 := Lib.hid h34
  clear h34
  have HNB := Lib.hid hbl
  have hb116 : ((d.toNat : Int) == 116) = false := by simpa using cmpN (n := 116) (by decide) (fun e : d = 116 => hbl (by simp [e]))
  have hb84 : ((d.toNat : Int) == 84) = false := by simpa using cmpN (n := 84) (by decide) (fun e : d = 84 => hbl (by simp [e]))
  have hb102 : ((d.toNat : Int) == 102) = false := by simpa using cmpN (n := 102) (by decide) (fun e : d = 102 => hbl (by simp [e]))
  have hb70 : ((d.toNat : Int) == 70) = false := by simpa using cmpN (n := 70) (by decide) (fun e : d = 70 => hbl (by simp [e]))
  clear hbl
  obtain ⟨l2, k2, HLK2⟩ := place_to s.data.toList f a2
  have HNM := Lib.hid hnm
  obtain ⟨⟨cp0_1, cp1_1, cp2_1, cp3_1⟩, ⟨cr0_1, cr1_1, cr2_1, cr3_1⟩, cx0_1, cx1_1, cx2_1⟩ := HX.out.all
  obtain ⟨⟨zp1_1, zp2_1⟩, ⟨zr0_1, zr1_1, zr2_1, zr3_1⟩, zx0_1, zx1_1, zx2_1⟩ := HX.out.fzs (by simp)
  have HFT := Lib.hid (HX.out.fault hs (i := a2) hf hle2 HLK2.out)
  have hb45 : ((d.toNat : Int) == 45) = false := by simpa using cmpN (n := 45) (by decide) (fun e : d = 45 => hnm (by simp [e]))
  have hb46 : ((d.toNat : Int) == 46) = false := by simpa using cmpN (n := 46) (by decide) (fun e : d = 46 => hnm (by simp [e]))
  by_cases hge : 48 ≤ d.toNat
  · have hb1 : decide ((48 : Int) ≤ (d.toNat : Int)) = true := by simp; omega
    have hb2 : decide ((d.toNat : Int) ≤ 57) = false := by
      have h1 : ¬ d.toNat ≤ 57 := fun e => hnm (.inr (.inr ⟨hge, e⟩))
      simp; omega
    clear hge hnm
    go_wp2_with fail
    refine HFT.out.mono ?_
    rintro e w6 ⟨rfl, H6⟩
    dsimp only
    clear cp0_1 cp1_1 cp2_1 cp3_1 cr0_1 cr1_1 cr2_1 cr3_1 cx0_1 cx1_1 cx2_1 zp1_1 zp2_1 zr0_1 zr1_1 zr2_1 zr3_1 zx0_1 zx1_1 zx2_1
    clear HFT
    obtain ⟨⟨cp0_4, cp1_4, cp2_4, cp3_4⟩, ⟨cr0_4, cr1_4, cr2_4, cr3_4⟩, cx0_4, cx1_4, cx2_4⟩ := H6.out.all
    obtain ⟨⟨zp1_4, zp2_4⟩, ⟨zr0_4, zr1_4, zr2_4, zr3_4⟩, zx0_4, zx1_4, zx2_4⟩ := H6.out.fzs (by simp)
    go_wp2_with fail
    have HE := Lib.hid (((((((H6.out.px_ (by simp) 0 (.string ⟨#[]⟩)).px_ (by simp) 1 (.int .i64 0)).px_ (by simp) 2 (.string ⟨#[]⟩)).prr 0 (.bool true)).prr 1 (.int .i64 (l2 : Int))).prr 2 (.int .i64 (k2 : Int))).prr 3 (.bool false))
    obtain ⟨⟨cp0_99, cp1_99, cp2_99, cp3_99⟩, ⟨cr0_99, cr1_99, cr2_99, cr3_99⟩, cx0_99, cx1_99, cx2_99⟩ := HE.out.all
    obtain ⟨⟨zp1_99, zp2_99⟩, ⟨zr0_99, zr1_99, zr2_99, zr3_99⟩, zx0_99, zx1_99, zx2_99⟩ := HE.out.fzs (by simp)
    refine HRE.out _ _ ?_
    refine bodyPost_ret (v := .tuple #[.agg #[.string ⟨#[]⟩, .int .i64 0, .string ⟨#[]⟩], .bool false, .agg #[.bool true, .int .i64 (l2 : Int), .int .i64 (k2 : Int), .bool false]]) (by simp [results, Tryz.results38, go_sem, cr0_99, cr1_99, cr2_99, cr3_99, cx0_99, cx1_99, cx2_99]) rfl ?_
    exact .inr (.inr ⟨l2, k2, rfl, Lib.hid (FltAt.of (p := 2) HE.out.at_ HLK2.out (HB.out _ _ (v_d HT.out HN34.out HNB.out HNM.out)))⟩)
  · have hb1 : decide ((48 : Int) ≤ (d.toNat : Int)) = false := by simp; omega
    clear hge hnm
    go_wp2_with fail
    refine HFT.out.mono ?_
    rintro e w6 ⟨rfl, H6⟩
    dsimp only
    clear cp0_1 cp1_1 cp2_1 cp3_1 cr0_1 cr1_1 cr2_1 cr3_1 cx0_1 cx1_1 cx2_1 zp1_1 zp2_1 zr0_1 zr1_1 zr2_1 zr3_1 zx0_1 zx1_1 zx2_1
    clear HFT
    obtain ⟨⟨cp0_4, cp1_4, cp2_4, cp3_4⟩, ⟨cr0_4, cr1_4, cr2_4, cr3_4⟩, cx0_4, cx1_4, cx2_4⟩ := H6.out.all
    obtain ⟨⟨zp1_4, zp2_4⟩, ⟨zr0_4, zr1_4, zr2_4, zr3_4⟩, zx0_4, zx1_4, zx2_4⟩ := H6.out.fzs (by simp)
    go_wp2_with fail
    have HE := Lib.hid (((((((H6.out.px_ (by simp) 0 (.string ⟨#[]⟩)).px_ (by simp) 1 (.int .i64 0)).px_ (by simp) 2 (.string ⟨#[]⟩)).prr 0 (.bool true)).prr 1 (.int .i64 (l2 : Int))).prr 2 (.int .i64 (k2 : Int))).prr 3 (.bool false))
    obtain ⟨⟨cp0_99, cp1_99, cp2_99, cp3_99⟩, ⟨cr0_99, cr1_99, cr2_99, cr3_99⟩, cx0_99, cx1_99, cx2_99⟩ := HE.out.all
    obtain ⟨⟨zp1_99, zp2_99⟩, ⟨zr0_99, zr1_99, zr2_99, zr3_99⟩, zx0_99, zx1_99, zx2_99⟩ := HE.out.fzs (by simp)
    refine HRE.out _ _ ?_
    refine bodyPost_ret (v := .tuple #[.agg #[.string ⟨#[]⟩, .int .i64 0, .string ⟨#[]⟩], .bool false, .agg #[.bool true, .int .i64 (l2 : Int), .int .i64 (k2 : Int), .bool false]]) (by simp [results, Tryz.results38, go_sem, cr0_99, cr1_99, cr2_99, cr3_99, cx0_99, cx1_99, cx2_99]) rfl ?_
    exact .inr (.inr ⟨l2, k2, rfl, Lib.hid (FltAt.of (p := 2) HE.out.at_ HLK2.out (HB.out _ _ (v_d HT.out HN34.out HNB.out HNM.out)))⟩)
end Go.Proofs.YtlcbcgillekphaaGreatDoor.sd
