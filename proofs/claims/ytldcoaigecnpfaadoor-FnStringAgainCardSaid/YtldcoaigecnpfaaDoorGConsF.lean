/- jsonwire.ConsumeStringResumable over a text that begins with no string, walked: the parts. -/
import Derived.Test.YtldcoaigecnpfaaDoorGConsA
import Derived.Test.YtldcoaigecnpfaaDoorGFailP
import Derived.Test.YtldcoaigecnpfaaDoorGAppendQuote
import Derived.Deep.LoopGhost
import Derived.Deep.DeepCutAuto
import Derived.Deep.CutBlock
namespace Go.Proofs.YtldcoaigecnpfaaDoor
open Go.RowKit
theorem Below.drewF {B : Nat} {a w : World} (h : Below B a w) (n : Nat) : Below B a (w.drewN n) := ⟨h.os, h.tape, h.output, h.size, h.block⟩
def ErrV (v : Value) : Prop := ∃ (t : TypeId) (p : Addr), v = .iface t (.pointer (some p))
/-- No string from a place on. -/
structure FInv (lo : Bool) (T : List UInt8) (k : Nat) : Prop where
  one : 1 ≤ k
  le : k ≤ T.length
  no : strN lo T k = 0
theorem FInv.next {lo : Bool} {T : List UInt8} {k : Nat} (h : FInv lo T k) (hk : k < T.length) (h34 : ¬ atL T k = 34) (w : Nat) (hw : stepN lo T k = k + w) : FInv lo T (k + w) := by
  have h0 := h.one
  have hs : ¬ stepN lo T k = 0 := by omega
  have hr := stepN_range hk hs
  have := strN_step hk h34 hs
  rw [hw] at hr this
  exact ⟨by omega, hr.2, by rw [← this]; exact h.no⟩
theorem FInv.not34 {lo : Bool} {T : List UInt8} {k : Nat} (h : FInv lo T k) (hk : k < T.length) : ¬ atL T k = 34 := fun q => by
  have h0 := h.one
  have := strN_quote (lo := lo) hk q
  have := h.no
  omega
/-- The tables, and the error that tells of an early end. -/
structure Tabs2 (w : World) (E E2 : Addr) : Prop where
  tabs : Tabs w E
  eof : w.cell? ⟨2, 0, none⟩ = some (.iface 137 (.pointer (some E2)))
theorem FV.weak {w : World} {V : Nat} {cn : Bool} (h : FV w V cn) : FV w V true := by
  obtain ⟨⟨f, a, b, _⟩, c⟩ := h
  exact ⟨⟨f, a, b, fun _ => rfl⟩, c⟩
theorem bytes_sub {w : World} {g : Nat} {T : List UInt8} (h : BytesAt w g 0 T) (k m : Nat) : BytesAt w g k ((T.drop k).take m) := fun j hj => by
  rw [List.length_take, List.length_drop] at hj
  have h1 := h (k + j) (by omega)
  rw [Nat.zero_add] at h1
  rw [h1, atL_take _ _ _ (by omega), atLd]
theorem bytes_dropF {w : World} {g : Nat} {T : List UInt8} (h : BytesAt w g 0 T) (k : Nat) : BytesAt w g k (T.drop k) := fun j hj => by
  rw [List.length_drop] at hj
  have h1 := h (k + j) (by omega)
  rw [Nat.zero_add] at h1
  rw [h1, atLd]
/-- The four digits of an escape, as the reference reads them. -/
theorem hexF (T : List UInt8) (k : Nat) (_h : k + 6 ≤ T.length) : hexAt T (k + 2) = hx (atL (T.drop k) 2) ∧ hexAt T (k + 3) = hx (atL (T.drop k) 3) ∧ hexAt T (k + 4) = hx (atL (T.drop k) 4) ∧ hexAt T (k + 5) = hx (atL (T.drop k) 5) := by
  refine ⟨?_, ?_, ?_, ?_⟩ <;> rw [hexAt_at, atLd]
theorem step_two {lo : Bool} {T : List UInt8} {k : Nat} (h0 : atL T k = 92) (h : esc8 (atL T (k + 1))) : stepN lo T k = k + 2 := by
  rw [stepN_92 h0]
  unfold escN
  rw [seePat, if_pos h]
theorem step_u {lo : Bool} {T : List UInt8} {k : Nat} (h0 : atL T k = 92) (h1 : atL T (k + 1) = 117) (hl : k + 6 ≤ T.length) (hh : hexOk (T.drop k)) (hn : lo = true ∨ ¬ halfU (hexV (T.drop k))) : stepN lo T k = k + 6 := by
  obtain ⟨e1, e2, e3, e4⟩ := hexF T k hl
  obtain ⟨p1, p2, p3, p4⟩ := hh
  have r1 := hx_range (atL (T.drop k) 2)
  have r2 := hx_range (atL (T.drop k) 3)
  have r3 := hx_range (atL (T.drop k) 4)
  have r4 := hx_range (atL (T.drop k) 5)
  rw [stepN_92 h0, escN_u lo T (k + 1) (by rw [seePat]; exact h1)]
  have hu : unitAt lo false T (k + 1 + 1) := by
    unfold unitAt unitOk
    rw [show k + 1 + 1 = k + 2 by omega, show k + 2 + 1 = k + 3 by omega, show k + 2 + 2 = k + 4 by omega, show k + 2 + 3 = k + 5 by omega, e1, e2, e3, e4]
    refine ⟨⟨p1, p2, p3, p4⟩, fun _ q => (by cases q), fun q _ q2 => ?_⟩
    rcases hn with hn | hn
    · rw [hn] at q; cases q
    · unfold halfU hexV at hn
      omega
  have hf : ¬ halfAt lo false T (k + 1 + 1) = true := by
    unfold halfAt halfB
    rw [show k + 1 + 1 = k + 2 by omega, show k + 2 + 1 = k + 3 by omega, e1, e2]
    intro q
    simp only [Bool.and_eq_true, Bool.not_eq_true', decide_eq_true_iff] at q
    rcases hn with hn | hn
    · rw [hn] at q; exact absurd q.1.1 (by decide)
    · unfold halfU hexV at hn
      omega
  rw [if_pos hu, if_neg hf]
theorem step_pair {T : List UInt8} {k : Nat} (h0 : atL T k = 92) (h1 : atL T (k + 1) = 117) (hl : k + 12 ≤ T.length) (hh : hexOk (T.drop k)) (h2 : atL T (k + 6) = 92) (h3 : atL T (k + 7) = 117) (hh2 : hexOk (T.drop (k + 6))) (hp : pairOk (hexV (T.drop k)) (hexV (T.drop (k + 6)))) : stepN false T k = k + 12 := by
  obtain ⟨e1, e2, e3, e4⟩ := hexF T k (by omega)
  obtain ⟨d1, d2, d3, d4⟩ := hexF T (k + 6) (by omega)
  obtain ⟨p1, p2, p3, p4⟩ := hh
  obtain ⟨s1, s2, s3, s4⟩ := hh2
  have r1 := hx_range (atL (T.drop k) 2)
  have r2 := hx_range (atL (T.drop k) 3)
  have r3 := hx_range (atL (T.drop k) 4)
  have r4 := hx_range (atL (T.drop k) 5)
  have t1 := hx_range (atL (T.drop (k + 6)) 2)
  have t2 := hx_range (atL (T.drop (k + 6)) 3)
  have t3 := hx_range (atL (T.drop (k + 6)) 4)
  have t4 := hx_range (atL (T.drop (k + 6)) 5)
  unfold pairOk hexV at hp
  rw [stepN_92 h0, escN_u false T (k + 1) (by rw [seePat]; exact h1)]
  have hu : unitAt false false T (k + 1 + 1) := by
    unfold unitAt unitOk
    rw [show k + 1 + 1 = k + 2 by omega, show k + 2 + 1 = k + 3 by omega, show k + 2 + 2 = k + 4 by omega, show k + 2 + 3 = k + 5 by omega, e1, e2, e3, e4]
    exact ⟨⟨p1, p2, p3, p4⟩, fun _ q => (by cases q), fun _ _ q2 => by omega⟩
  have hf : halfAt false false T (k + 1 + 1) = true := by
    unfold halfAt halfB
    rw [show k + 1 + 1 = k + 2 by omega, show k + 2 + 1 = k + 3 by omega, e1, e2]
    simp only [Bool.not_false, Bool.true_and, decide_eq_true_iff]
    omega
  have hu2 : unitAt false true T (k + 1 + 7) := by
    unfold unitAt unitOk
    rw [show k + 1 + 7 = k + 6 + 2 by omega, show k + 6 + 2 + 1 = k + 6 + 3 by omega, show k + 6 + 2 + 2 = k + 6 + 4 by omega, show k + 6 + 2 + 3 = k + 6 + 5 by omega, d1, d2, d3, d4]
    exact ⟨⟨s1, s2, s3, s4⟩, fun _ _ => by omega, fun _ q => (by cases q)⟩
  rw [if_pos hu, if_pos hf, if_pos ⟨by rw [seePat, show k + 1 + 5 = k + 6 by omega]; exact h2, by rw [seePat, show k + 1 + 6 = k + 7 by omega]; exact h3, hu2⟩]
/-- The block of a number in a function's code. -/
def ftAt (n : Nat) : Code → Option Code
  | .block k c => if k = n then some (.block k c) else ftAt n c
  | .seq a b => match ftAt n a with
    | some c => some c
    | none => ftAt n b
  | .loop c => ftAt n c
  | .scope c => ftAt n c
  | .cond _ a b => match ftAt n a with
    | some c => some c
    | none => ftAt n b
  | _ => none
noncomputable def ftBlk : Code := ((Tryd.f78.body.bind (ftAt 6)).getD .skip)
set_option maxRecDepth 1000000 in
/-- What stands behind the block. -/
def ftWE (w : World) (k V : Nat) (lo : Bool) (T : List UInt8) (c0 c1 c2 c3 c4 c5 c6 c7 c10 c11 c12 c13 c16 c21 c22 c23 c24 c25 c26 c27 c28 c29 c30 c31 c32 c33 c34 c35 c36 c37 c38 c39 c40 c41 c42 c43 c44 c45 c46 c47 c48 c49 c50 c51 c52 c53 c54 c55 c56 c57 c58 c59 c60 c61 c62 c63 c64 c65 c66 c67 c68 c69 c70 c71 c72 c73 c74 c75 c76 c77 c78 c79 c80 c81 c82 c83 c84 c85 c86 c87 c88 c89 c90 c91 c92 c93 c94 c95 c96 c97 c98 c99 c100 c101 c102 c103 c104 c105 c106 c107 c108 c109 c110 c111 c112 c113 c114 c115 c116 c307 c308 c309 c310 c311 c312 c313 c314 c315 c316 c317 c318 c319 c320 c321 c322 c323 c324 c325 c326 c327 c328 c329 c330 c331 c332 c333 c334 c335 : Value) (a : Act) (w' : World) : Prop := ∃ (u8 : Value) (u : Nat → Value), (∃ (k' : Nat), k < k' ∧ u8 = .int .i64 (k' : Int) ∧ Hid (FInv lo T k') ∧ Hid (FV w' V true) ∧ Hid (w.grownBy w' (some V))) ∧ a = ⟨#[c0, c1, c2, c3, c4, c5, c6, c7, u8, u 9, c10, c11, c12, c13, u 14, u 15, c16, u 17, u 18, u 19, u 20, c21, c22, c23, c24, c25, c26, c27, c28, c29, c30, c31, c32, c33, c34, c35, c36, c37, c38, c39, c40, c41, c42, c43, c44, c45, c46, c47, c48, c49, c50, c51, c52, c53, c54, c55, c56, c57, c58, c59, c60, c61, c62, c63, c64, c65, c66, c67, c68, c69, c70, c71, c72, c73, c74, c75, c76, c77, c78, c79, c80, c81, c82, c83, c84, c85, c86, c87, c88, c89, c90, c91, c92, c93, c94, c95, c96, c97, c98, c99, c100, c101, c102, c103, c104, c105, c106, c107, c108, c109, c110, c111, c112, c113, c114, c115, c116, u 117, u 118, u 119, u 120, u 121, u 122, u 123, u 124, u 125, u 126, u 127, u 128, u 129, u 130, u 131, u 132, u 133, u 134, u 135, u 136, u 137, u 138, u 139, u 140, u 141, u 142, u 143, u 144, u 145, u 146, u 147, u 148, u 149, u 150, u 151, u 152, u 153, u 154, u 155, u 156, u 157, u 158, u 159, u 160, u 161, u 162, u 163, u 164, u 165, u 166, u 167, u 168, u 169, u 170, u 171, u 172, u 173, u 174, u 175, u 176, u 177, u 178, u 179, u 180, u 181, u 182, u 183, u 184, u 185, u 186, u 187, u 188, u 189, u 190, u 191, u 192, u 193, u 194, u 195, u 196, u 197, u 198, u 199, u 200, u 201, u 202, u 203, u 204, u 205, u 206, u 207, u 208, u 209, u 210, u 211, u 212, u 213, u 214, u 215, u 216, u 217, u 218, u 219, u 220, u 221, u 222, u 223, u 224, u 225, u 226, u 227, u 228, u 229, u 230, u 231, u 232, u 233, u 234, u 235, u 236, u 237, u 238, u 239, u 240, u 241, u 242, u 243, u 244, u 245, u 246, u 247, u 248, u 249, u 250, u 251, u 252, u 253, u 254, u 255, u 256, u 257, u 258, u 259, u 260, u 261, u 262, u 263, u 264, u 265, u 266, u 267, u 268, u 269, u 270, u 271, u 272, u 273, u 274, u 275, u 276, u 277, u 278, u 279, u 280, u 281, u 282, u 283, u 284, u 285, u 286, u 287, u 288, u 289, u 290, u 291, u 292, u 293, u 294, u 295, u 296, u 297, u 298, u 299, u 300, u 301, u 302, u 303, u 304, u 305, u 306, c307, c308, c309, c310, c311, c312, c313, c314, c315, c316, c317, c318, c319, c320, c321, c322, c323, c324, c325, c326, c327, c328, c329, c330, c331, c332, c333, c334, c335], []⟩
set_option maxRecDepth 1000000 in
/-- What stands where the block returns. -/
def ftFE (w : World) (V : Nat) (c0 c1 c2 c3 c4 c5 c6 c7 c10 c11 c12 c13 c16 c21 c22 c23 c24 c25 c26 c27 c28 c29 c30 c31 c32 c33 c34 c35 c36 c37 c38 c39 c40 c41 c42 c43 c44 c45 c46 c47 c48 c49 c50 c51 c52 c53 c54 c55 c56 c57 c58 c59 c60 c61 c62 c63 c64 c65 c66 c67 c68 c69 c70 c71 c72 c73 c74 c75 c76 c77 c78 c79 c80 c81 c82 c83 c84 c85 c86 c87 c88 c89 c90 c91 c92 c93 c94 c95 c96 c97 c98 c99 c100 c101 c102 c103 c104 c105 c106 c107 c108 c109 c110 c111 c112 c113 c114 c115 c116 c307 c308 c309 c310 c311 c312 c313 c314 c315 c316 c317 c318 c319 c320 c321 c322 c323 c324 c325 c326 c327 c328 c329 c330 c331 c332 c333 c334 c335 : Value) (a : Act) (w' : World) : Prop := ∃ (u8 u9 : Value) (u : Nat → Value), ((∃ z : Int, u8 = .int .i64 z) ∧ ErrV u9 ∧ Hid (w.grownBy w' (some V))) ∧ a = ⟨#[c0, c1, c2, c3, c4, c5, c6, c7, u8, u9, c10, c11, c12, c13, u 14, u 15, c16, u 17, u 18, u 19, u 20, c21, c22, c23, c24, c25, c26, c27, c28, c29, c30, c31, c32, c33, c34, c35, c36, c37, c38, c39, c40, c41, c42, c43, c44, c45, c46, c47, c48, c49, c50, c51, c52, c53, c54, c55, c56, c57, c58, c59, c60, c61, c62, c63, c64, c65, c66, c67, c68, c69, c70, c71, c72, c73, c74, c75, c76, c77, c78, c79, c80, c81, c82, c83, c84, c85, c86, c87, c88, c89, c90, c91, c92, c93, c94, c95, c96, c97, c98, c99, c100, c101, c102, c103, c104, c105, c106, c107, c108, c109, c110, c111, c112, c113, c114, c115, c116, u 117, u 118, u 119, u 120, u 121, u 122, u 123, u 124, u 125, u 126, u 127, u 128, u 129, u 130, u 131, u 132, u 133, u 134, u 135, u 136, u 137, u 138, u 139, u 140, u 141, u 142, u 143, u 144, u 145, u 146, u 147, u 148, u 149, u 150, u 151, u 152, u 153, u 154, u 155, u 156, u 157, u 158, u 159, u 160, u 161, u 162, u 163, u 164, u 165, u 166, u 167, u 168, u 169, u 170, u 171, u 172, u 173, u 174, u 175, u 176, u 177, u 178, u 179, u 180, u 181, u 182, u 183, u 184, u 185, u 186, u 187, u 188, u 189, u 190, u 191, u 192, u 193, u 194, u 195, u 196, u 197, u 198, u 199, u 200, u 201, u 202, u 203, u 204, u 205, u 206, u 207, u 208, u 209, u 210, u 211, u 212, u 213, u 214, u 215, u 216, u 217, u 218, u 219, u 220, u 221, u 222, u 223, u 224, u 225, u 226, u 227, u 228, u 229, u 230, u 231, u 232, u 233, u 234, u 235, u 236, u 237, u 238, u 239, u 240, u 241, u 242, u 243, u 244, u 245, u 246, u 247, u 248, u 249, u 250, u 251, u 252, u 253, u 254, u 255, u 256, u 257, u 258, u 259, u 260, u 261, u 262, u 263, u 264, u 265, u 266, u 267, u 268, u 269, u 270, u 271, u 272, u 273, u 274, u 275, u 276, u 277, u 278, u 279, u 280, u 281, u 282, u 283, u 284, u 285, u 286, u 287, u 288, u 289, u 290, u 291, u 292, u 293, u 294, u 295, u 296, u 297, u 298, u 299, u 300, u 301, u 302, u 303, u 304, u 305, u 306, c307, c308, c309, c310, c311, c312, c313, c314, c315, c316, c317, c318, c319, c320, c321, c322, c323, c324, c325, c326, c327, c328, c329, c330, c331, c332, c333, c334, c335], []⟩
section
variable {c4 c5 c6 c7 v9 c10 c11 c12 v14 v15 c16 v17 v18 v19 v20 c21 c22 c23 c24 c25 c26 c27 c28 c29 c30 c31 c32 c33 c34 c35 c36 c37 c38 c39 c40 c41 c42 c43 c44 c45 c46 c47 c48 c49 c50 c51 c52 c53 c54 c55 c56 c57 c58 c59 c60 c61 c62 c63 c64 c65 c66 c67 c68 c69 c70 c71 c72 c73 c74 c75 c76 c77 c78 c79 c80 c81 c82 c83 c84 c85 c86 c87 c88 c89 c90 c91 c92 c93 c94 c95 c96 c97 c98 c99 c100 c101 c102 c103 c104 c105 c106 c107 c108 c109 c110 c111 c112 c113 c114 c115 v117 v118 v119 v120 v121 v122 v123 v124 v125 v126 v127 v128 v129 v130 v131 v132 v133 v134 v135 v136 v137 v138 v139 v140 v141 v142 v143 v144 v145 v146 v147 v148 v149 v150 v151 v152 v153 v154 v155 v156 v157 v158 v159 v160 v161 v162 v163 v164 v165 v166 v167 v168 v169 v170 v171 v172 v173 v174 v175 v176 v177 v178 v179 v180 v181 v182 v183 v184 v185 v186 v187 v188 v189 v190 v191 v192 v193 v194 v195 v196 v197 v198 v199 v200 v201 v202 v203 v204 v205 v206 v207 v208 v209 v210 v211 v212 v213 v214 v215 v216 v217 v218 v219 v220 v221 v222 v223 v224 v225 v226 v227 v228 v229 v230 v231 v232 v233 v234 v235 v236 v237 v238 v239 v240 v241 v242 v243 v244 v245 v246 v247 v248 v249 v250 v251 v252 v253 v254 v255 v256 v257 v258 v259 v260 v261 v262 v263 v264 v265 v266 v267 v268 v269 v270 v271 v272 v273 v274 v275 v276 v277 v278 v279 v280 v281 v282 v283 v284 v285 v286 v287 v288 v289 v290 v291 v292 v293 v294 v295 v296 v297 v298 v299 v300 v301 v302 v303 v304 v305 v306 c307 c308 c309 c310 c311 c312 c313 c314 c315 c316 c317 c318 c319 c320 c321 c322 c323 c324 c325 c326 c327 c328 c329 c330 c331 c332 c333 c334 c335 : Value}
set_option maxRecDepth 1000000 in
set_option maxHeartbeats 8000000 in
theorem ftSlash {K : Act → World → Prop} {Q' : Exit → Act → World → Prop} (w : World) (k V g n cap : Nat) (lo vb : Bool) (T : List UInt8) (E E2 : Addr) (wr : World) (_hvb : Hid (vb = !lo)) (hk : k < n) (_hcp : n ≤ cap) (hnb : n ≤ 1000000) (hn : Hid (n = T.length)) (_hT : Hid (∀ w', w.grownBy w' (some V) → Tabs2 w' E E2)) (_hB : Hid (∀ w', w.grownBy w' (some V) → g < w'.heap.size ∧ BytesAt w' g 0 T)) (hF : Hid (FV wr V true)) (hG : Hid (w.grownBy wr (some V))) (hI : Hid (FInv lo T k)) (hk2 : k + 2 ≤ n) (h92 : Hid (atL T k = 92)) (h34 : Hid (¬ atL T k = 34)) (hq : Hid (atL T (k + 1) = 47))
    (hK : ∀ a' w'', ftWE w k V lo T (.pointer (some ⟨V, 0, none⟩)) (.slice (some ⟨g, 0, none⟩) n cap) (.int .i64 (k : Int)) (.bool vb) c4 c5 c6 c7 c10 c11 c12 (.int .u8 47) c16 c21 c22 c23 c24 c25 c26 c27 c28 c29 c30 c31 c32 c33 c34 c35 c36 c37 c38 c39 c40 c41 c42 c43 c44 c45 c46 c47 c48 c49 c50 c51 c52 c53 c54 c55 c56 c57 c58 c59 c60 c61 c62 c63 c64 c65 c66 c67 c68 c69 c70 c71 c72 c73 c74 c75 c76 c77 c78 c79 c80 c81 c82 c83 c84 c85 c86 c87 c88 c89 c90 c91 c92 c93 c94 c95 c96 c97 c98 c99 c100 c101 c102 c103 c104 c105 c106 c107 c108 c109 c110 c111 c112 c113 c114 c115 (.int .u8 47) c307 c308 c309 c310 c311 c312 c313 c314 c315 c316 c317 c318 c319 c320 c321 c322 c323 c324 c325 c326 c327 c328 c329 c330 c331 c332 c333 c334 c335 a' w'' → K a' w'')
    (_hR : ∀ a' w'', ftFE w V (.pointer (some ⟨V, 0, none⟩)) (.slice (some ⟨g, 0, none⟩) n cap) (.int .i64 (k : Int)) (.bool vb) c4 c5 c6 c7 c10 c11 c12 (.int .u8 47) c16 c21 c22 c23 c24 c25 c26 c27 c28 c29 c30 c31 c32 c33 c34 c35 c36 c37 c38 c39 c40 c41 c42 c43 c44 c45 c46 c47 c48 c49 c50 c51 c52 c53 c54 c55 c56 c57 c58 c59 c60 c61 c62 c63 c64 c65 c66 c67 c68 c69 c70 c71 c72 c73 c74 c75 c76 c77 c78 c79 c80 c81 c82 c83 c84 c85 c86 c87 c88 c89 c90 c91 c92 c93 c94 c95 c96 c97 c98 c99 c100 c101 c102 c103 c104 c105 c106 c107 c108 c109 c110 c111 c112 c113 c114 c115 (.int .u8 47) c307 c308 c309 c310 c311 c312 c313 c314 c315 c316 c317 c318 c319 c320 c321 c322 c323 c324 c325 c326 c327 c328 c329 c330 c331 c332 c333 c334 c335 a' w'' → Q' .ret a' w'') :
    Code.wp Tryd.prog ftBlk (Exit.then K Q') ⟨#[.pointer (some ⟨V, 0, none⟩), .slice (some ⟨g, 0, none⟩) n cap, .int .i64 (k : Int), .bool vb, c4, c5, c6, c7, .int .i64 (k : Int), v9, c10, c11, c12, .int .u8 47, v14, v15, c16, v17, v18, v19, v20, c21, c22, c23, c24, c25, c26, c27, c28, c29, c30, c31, c32, c33, c34, c35, c36, c37, c38, c39, c40, c41, c42, c43, c44, c45, c46, c47, c48, c49, c50, c51, c52, c53, c54, c55, c56, c57, c58, c59, c60, c61, c62, c63, c64, c65, c66, c67, c68, c69, c70, c71, c72, c73, c74, c75, c76, c77, c78, c79, c80, c81, c82, c83, c84, c85, c86, c87, c88, c89, c90, c91, c92, c93, c94, c95, c96, c97, c98, c99, c100, c101, c102, c103, c104, c105, c106, c107, c108, c109, c110, c111, c112, c113, c114, c115, .int .u8 47, v117, v118, v119, v120, v121, v122, v123, v124, v125, v126, v127, v128, v129, v130, v131, v132, v133, v134, v135, v136, v137, v138, v139, v140, v141, v142, v143, v144, v145, v146, v147, v148, v149, v150, v151, v152, v153, v154, v155, v156, v157, v158, v159, v160, v161, v162, v163, v164, v165, v166, v167, v168, v169, v170, v171, v172, v173, v174, v175, v176, v177, v178, v179, v180, v181, v182, v183, v184, v185, v186, v187, v188, v189, v190, v191, v192, v193, v194, v195, v196, v197, v198, v199, v200, v201, v202, v203, v204, v205, v206, v207, v208, v209, v210, v211, v212, v213, v214, v215, v216, v217, v218, v219, v220, v221, v222, v223, v224, v225, v226, v227, v228, v229, v230, v231, v232, v233, v234, v235, v236, v237, v238, v239, v240, v241, v242, v243, v244, v245, v246, v247, v248, v249, v250, v251, v252, v253, v254, v255, v256, v257, v258, v259, v260, v261, v262, v263, v264, v265, v266, v267, v268, v269, v270, v271, v272, v273, v274, v275, v276, v277, v278, v279, v280, v281, v282, v283, v284, v285, v286, v287, v288, v289, v290, v291, v292, v293, v294, v295, v296, v297, v298, v299, v300, v301, v302, v303, v304, v305, v306, c307, c308, c309, c310, c311, c312, c313, c314, c315, c316, c317, c318, c319, c320, c321, c322, c323, c324, c325, c326, c327, c328, c329, c330, c331, c332, c333, c334, c335], []⟩ wr := by
  conv => arg 2; whnf
  have hkm : Hid (k < T.length) := Lib.hid (by rw [← hn.out]; exact hk)
  have HI : Hid (FInv lo T (k + 2)) := Lib.hid (hI.out.next hkm.out h34.out 2 (step_two h92.out (by rw [hq.out]; decide)))
  have HJ := Lib.hid (joinS V 2 true true (by decide) (fun _ q => q) wr hF.out)
  go_wp2_with fail
  refine HJ.out.mono ?_
  rintro e w3 ⟨rfl, hf3, hg3⟩
  have HF3 := Lib.hid hf3
  have HG3 := Lib.hid (grownV_trans hG.out hg3)
  clear hf3 hg3 HJ hF hG
  go_wp2
  refine ⟨_, (fun i => [.nilFunc, .nilFunc, .nilFunc, .nilFunc, .nilFunc, .nilFunc, .nilFunc, .nilFunc, .nilFunc, _, .nilFunc, .nilFunc, .nilFunc, .nilFunc, _, _, .nilFunc, _, _, _, _, .nilFunc, .nilFunc, .nilFunc, .nilFunc, .nilFunc, .nilFunc, .nilFunc, .nilFunc, .nilFunc, .nilFunc, .nilFunc, .nilFunc, .nilFunc, .nilFunc, .nilFunc, .nilFunc, .nilFunc, .nilFunc, .nilFunc, .nilFunc, .nilFunc, .nilFunc, .nilFunc, .nilFunc, .nilFunc, .nilFunc, .nilFunc, .nilFunc, .nilFunc, .nilFunc, .nilFunc, .nilFunc, .nilFunc, .nilFunc, .nilFunc, .nilFunc, .nilFunc, .nilFunc, .nilFunc, .nilFunc, .nilFunc, .nilFunc, .nilFunc, .nilFunc, .nilFunc, .nilFunc, .nilFunc, .nilFunc, .nilFunc, .nilFunc, .nilFunc, .nilFunc, .nilFunc, .nilFunc, .nilFunc, .nilFunc, .nilFunc, .nilFunc, .nilFunc, .nilFunc, .nilFunc, .nilFunc, .nilFunc, .nilFunc, .nilFunc, .nilFunc, .nilFunc, .nilFunc, .nilFunc, .nilFunc, .nilFunc, .nilFunc, .nilFunc, .nilFunc, .nilFunc, .nilFunc, .nilFunc, .nilFunc, .nilFunc, .nilFunc, .nilFunc, .nilFunc, .nilFunc, .nilFunc, .nilFunc, .nilFunc, .nilFunc, .nilFunc, .nilFunc, .nilFunc, .nilFunc, .nilFunc, .nilFunc, .nilFunc, .nilFunc, .nilFunc, _, _, _, _, _, _, _, _, _, _, _, _, _, _, _, _, _, _, _, _, _, _, _, _, _, _, _, _, _, _, _, _, _, _, _, _, _, _, _, _, _, _, _, _, _, _, _, _, _, _, _, _, _, _, _, _, _, _, _, _, _, _, _, _, _, _, _, _, _, _, _, _, _, _, _, _, _, _, _, _, _, _, _, _, _, _, _, _, _, _, _, _, _, _, _, _, _, _, _, _, _, _, _, _, _, _, _, _, _, _, _, _, _, _, _, _, _, _, _, _, _, _, _, _, _, _, _, _, _, _, _, _, _, _, _, _, _, _, _, _, _, _, _, _, _, _, _, _, _, _, _, _, _, _, _, _, _, _, _, _, _, _, _, _, _, _, _, _, _, _, _, _, _, _, _, _, _, _, _, _, _, _, _, _, _, _, _, _, _, _].getD i .nilFunc), ⟨k + 2, by omega, by go_num, HI, HF3, HG3⟩, rfl⟩
set_option maxRecDepth 1000000 in
set_option maxHeartbeats 8000000 in
theorem ft34 {K : Act → World → Prop} {Q' : Exit → Act → World → Prop} (w : World) (k V g n cap : Nat) (lo vb : Bool) (T : List UInt8) (E E2 : Addr) (wr : World) (_hvb : Hid (vb = !lo)) (hk : k < n) (_hcp : n ≤ cap) (hnb : n ≤ 1000000) (hn : Hid (n = T.length)) (_hT : Hid (∀ w', w.grownBy w' (some V) → Tabs2 w' E E2)) (_hB : Hid (∀ w', w.grownBy w' (some V) → g < w'.heap.size ∧ BytesAt w' g 0 T)) (hF : Hid (FV wr V true)) (hG : Hid (w.grownBy wr (some V))) (hI : Hid (FInv lo T k)) (hk2 : k + 2 ≤ n) (h92 : Hid (atL T k = 92)) (h34 : Hid (¬ atL T k = 34)) (hq : Hid (atL T (k + 1) = 34))
    (hK : ∀ a' w'', ftWE w k V lo T (.pointer (some ⟨V, 0, none⟩)) (.slice (some ⟨g, 0, none⟩) n cap) (.int .i64 (k : Int)) (.bool vb) c4 c5 c6 c7 c10 c11 c12 (.int .u8 34) c16 c21 c22 c23 c24 c25 c26 c27 c28 c29 c30 c31 c32 c33 c34 c35 c36 c37 c38 c39 c40 c41 c42 c43 c44 c45 c46 c47 c48 c49 c50 c51 c52 c53 c54 c55 c56 c57 c58 c59 c60 c61 c62 c63 c64 c65 c66 c67 c68 c69 c70 c71 c72 c73 c74 c75 c76 c77 c78 c79 c80 c81 c82 c83 c84 c85 c86 c87 c88 c89 c90 c91 c92 c93 c94 c95 c96 c97 c98 c99 c100 c101 c102 c103 c104 c105 c106 c107 c108 c109 c110 c111 c112 c113 c114 c115 (.int .u8 34) c307 c308 c309 c310 c311 c312 c313 c314 c315 c316 c317 c318 c319 c320 c321 c322 c323 c324 c325 c326 c327 c328 c329 c330 c331 c332 c333 c334 c335 a' w'' → K a' w'')
    (_hR : ∀ a' w'', ftFE w V (.pointer (some ⟨V, 0, none⟩)) (.slice (some ⟨g, 0, none⟩) n cap) (.int .i64 (k : Int)) (.bool vb) c4 c5 c6 c7 c10 c11 c12 (.int .u8 34) c16 c21 c22 c23 c24 c25 c26 c27 c28 c29 c30 c31 c32 c33 c34 c35 c36 c37 c38 c39 c40 c41 c42 c43 c44 c45 c46 c47 c48 c49 c50 c51 c52 c53 c54 c55 c56 c57 c58 c59 c60 c61 c62 c63 c64 c65 c66 c67 c68 c69 c70 c71 c72 c73 c74 c75 c76 c77 c78 c79 c80 c81 c82 c83 c84 c85 c86 c87 c88 c89 c90 c91 c92 c93 c94 c95 c96 c97 c98 c99 c100 c101 c102 c103 c104 c105 c106 c107 c108 c109 c110 c111 c112 c113 c114 c115 (.int .u8 34) c307 c308 c309 c310 c311 c312 c313 c314 c315 c316 c317 c318 c319 c320 c321 c322 c323 c324 c325 c326 c327 c328 c329 c330 c331 c332 c333 c334 c335 a' w'' → Q' .ret a' w'') :
    Code.wp Tryd.prog ftBlk (Exit.then K Q') ⟨#[.pointer (some ⟨V, 0, none⟩), .slice (some ⟨g, 0, none⟩) n cap, .int .i64 (k : Int), .bool vb, c4, c5, c6, c7, .int .i64 (k : Int), v9, c10, c11, c12, .int .u8 34, v14, v15, c16, v17, v18, v19, v20, c21, c22, c23, c24, c25, c26, c27, c28, c29, c30, c31, c32, c33, c34, c35, c36, c37, c38, c39, c40, c41, c42, c43, c44, c45, c46, c47, c48, c49, c50, c51, c52, c53, c54, c55, c56, c57, c58, c59, c60, c61, c62, c63, c64, c65, c66, c67, c68, c69, c70, c71, c72, c73, c74, c75, c76, c77, c78, c79, c80, c81, c82, c83, c84, c85, c86, c87, c88, c89, c90, c91, c92, c93, c94, c95, c96, c97, c98, c99, c100, c101, c102, c103, c104, c105, c106, c107, c108, c109, c110, c111, c112, c113, c114, c115, .int .u8 34, v117, v118, v119, v120, v121, v122, v123, v124, v125, v126, v127, v128, v129, v130, v131, v132, v133, v134, v135, v136, v137, v138, v139, v140, v141, v142, v143, v144, v145, v146, v147, v148, v149, v150, v151, v152, v153, v154, v155, v156, v157, v158, v159, v160, v161, v162, v163, v164, v165, v166, v167, v168, v169, v170, v171, v172, v173, v174, v175, v176, v177, v178, v179, v180, v181, v182, v183, v184, v185, v186, v187, v188, v189, v190, v191, v192, v193, v194, v195, v196, v197, v198, v199, v200, v201, v202, v203, v204, v205, v206, v207, v208, v209, v210, v211, v212, v213, v214, v215, v216, v217, v218, v219, v220, v221, v222, v223, v224, v225, v226, v227, v228, v229, v230, v231, v232, v233, v234, v235, v236, v237, v238, v239, v240, v241, v242, v243, v244, v245, v246, v247, v248, v249, v250, v251, v252, v253, v254, v255, v256, v257, v258, v259, v260, v261, v262, v263, v264, v265, v266, v267, v268, v269, v270, v271, v272, v273, v274, v275, v276, v277, v278, v279, v280, v281, v282, v283, v284, v285, v286, v287, v288, v289, v290, v291, v292, v293, v294, v295, v296, v297, v298, v299, v300, v301, v302, v303, v304, v305, v306, c307, c308, c309, c310, c311, c312, c313, c314, c315, c316, c317, c318, c319, c320, c321, c322, c323, c324, c325, c326, c327, c328, c329, c330, c331, c332, c333, c334, c335], []⟩ wr := by
  conv => arg 2; whnf
  have hkm : Hid (k < T.length) := Lib.hid (by rw [← hn.out]; exact hk)
  have HI : Hid (FInv lo T (k + 2)) := Lib.hid (hI.out.next hkm.out h34.out 2 (step_two h92.out (by rw [hq.out]; decide)))
  go_wp2
  refine ⟨_, (fun i => [.nilFunc, .nilFunc, .nilFunc, .nilFunc, .nilFunc, .nilFunc, .nilFunc, .nilFunc, .nilFunc, _, .nilFunc, .nilFunc, .nilFunc, .nilFunc, _, _, .nilFunc, _, _, _, _, .nilFunc, .nilFunc, .nilFunc, .nilFunc, .nilFunc, .nilFunc, .nilFunc, .nilFunc, .nilFunc, .nilFunc, .nilFunc, .nilFunc, .nilFunc, .nilFunc, .nilFunc, .nilFunc, .nilFunc, .nilFunc, .nilFunc, .nilFunc, .nilFunc, .nilFunc, .nilFunc, .nilFunc, .nilFunc, .nilFunc, .nilFunc, .nilFunc, .nilFunc, .nilFunc, .nilFunc, .nilFunc, .nilFunc, .nilFunc, .nilFunc, .nilFunc, .nilFunc, .nilFunc, .nilFunc, .nilFunc, .nilFunc, .nilFunc, .nilFunc, .nilFunc, .nilFunc, .nilFunc, .nilFunc, .nilFunc, .nilFunc, .nilFunc, .nilFunc, .nilFunc, .nilFunc, .nilFunc, .nilFunc, .nilFunc, .nilFunc, .nilFunc, .nilFunc, .nilFunc, .nilFunc, .nilFunc, .nilFunc, .nilFunc, .nilFunc, .nilFunc, .nilFunc, .nilFunc, .nilFunc, .nilFunc, .nilFunc, .nilFunc, .nilFunc, .nilFunc, .nilFunc, .nilFunc, .nilFunc, .nilFunc, .nilFunc, .nilFunc, .nilFunc, .nilFunc, .nilFunc, .nilFunc, .nilFunc, .nilFunc, .nilFunc, .nilFunc, .nilFunc, .nilFunc, .nilFunc, .nilFunc, .nilFunc, .nilFunc, .nilFunc, .nilFunc, _, _, _, _, _, _, _, _, _, _, _, _, _, _, _, _, _, _, _, _, _, _, _, _, _, _, _, _, _, _, _, _, _, _, _, _, _, _, _, _, _, _, _, _, _, _, _, _, _, _, _, _, _, _, _, _, _, _, _, _, _, _, _, _, _, _, _, _, _, _, _, _, _, _, _, _, _, _, _, _, _, _, _, _, _, _, _, _, _, _, _, _, _, _, _, _, _, _, _, _, _, _, _, _, _, _, _, _, _, _, _, _, _, _, _, _, _, _, _, _, _, _, _, _, _, _, _, _, _, _, _, _, _, _, _, _, _, _, _, _, _, _, _, _, _, _, _, _, _, _, _, _, _, _, _, _, _, _, _, _, _, _, _, _, _, _, _, _, _, _, _, _, _, _, _, _, _, _, _, _, _, _, _, _, _, _, _, _, _, _].getD i .nilFunc), ⟨k + 2, by omega, by go_num, HI, hF, hG⟩, rfl⟩
set_option maxRecDepth 1000000 in
set_option maxHeartbeats 8000000 in
theorem ft92 {K : Act → World → Prop} {Q' : Exit → Act → World → Prop} (w : World) (k V g n cap : Nat) (lo vb : Bool) (T : List UInt8) (E E2 : Addr) (wr : World) (_hvb : Hid (vb = !lo)) (hk : k < n) (_hcp : n ≤ cap) (hnb : n ≤ 1000000) (hn : Hid (n = T.length)) (_hT : Hid (∀ w', w.grownBy w' (some V) → Tabs2 w' E E2)) (_hB : Hid (∀ w', w.grownBy w' (some V) → g < w'.heap.size ∧ BytesAt w' g 0 T)) (hF : Hid (FV wr V true)) (hG : Hid (w.grownBy wr (some V))) (hI : Hid (FInv lo T k)) (hk2 : k + 2 ≤ n) (h92 : Hid (atL T k = 92)) (h34 : Hid (¬ atL T k = 34)) (hq : Hid (atL T (k + 1) = 92))
    (hK : ∀ a' w'', ftWE w k V lo T (.pointer (some ⟨V, 0, none⟩)) (.slice (some ⟨g, 0, none⟩) n cap) (.int .i64 (k : Int)) (.bool vb) c4 c5 c6 c7 c10 c11 c12 (.int .u8 92) c16 c21 c22 c23 c24 c25 c26 c27 c28 c29 c30 c31 c32 c33 c34 c35 c36 c37 c38 c39 c40 c41 c42 c43 c44 c45 c46 c47 c48 c49 c50 c51 c52 c53 c54 c55 c56 c57 c58 c59 c60 c61 c62 c63 c64 c65 c66 c67 c68 c69 c70 c71 c72 c73 c74 c75 c76 c77 c78 c79 c80 c81 c82 c83 c84 c85 c86 c87 c88 c89 c90 c91 c92 c93 c94 c95 c96 c97 c98 c99 c100 c101 c102 c103 c104 c105 c106 c107 c108 c109 c110 c111 c112 c113 c114 c115 (.int .u8 92) c307 c308 c309 c310 c311 c312 c313 c314 c315 c316 c317 c318 c319 c320 c321 c322 c323 c324 c325 c326 c327 c328 c329 c330 c331 c332 c333 c334 c335 a' w'' → K a' w'')
    (_hR : ∀ a' w'', ftFE w V (.pointer (some ⟨V, 0, none⟩)) (.slice (some ⟨g, 0, none⟩) n cap) (.int .i64 (k : Int)) (.bool vb) c4 c5 c6 c7 c10 c11 c12 (.int .u8 92) c16 c21 c22 c23 c24 c25 c26 c27 c28 c29 c30 c31 c32 c33 c34 c35 c36 c37 c38 c39 c40 c41 c42 c43 c44 c45 c46 c47 c48 c49 c50 c51 c52 c53 c54 c55 c56 c57 c58 c59 c60 c61 c62 c63 c64 c65 c66 c67 c68 c69 c70 c71 c72 c73 c74 c75 c76 c77 c78 c79 c80 c81 c82 c83 c84 c85 c86 c87 c88 c89 c90 c91 c92 c93 c94 c95 c96 c97 c98 c99 c100 c101 c102 c103 c104 c105 c106 c107 c108 c109 c110 c111 c112 c113 c114 c115 (.int .u8 92) c307 c308 c309 c310 c311 c312 c313 c314 c315 c316 c317 c318 c319 c320 c321 c322 c323 c324 c325 c326 c327 c328 c329 c330 c331 c332 c333 c334 c335 a' w'' → Q' .ret a' w'') :
    Code.wp Tryd.prog ftBlk (Exit.then K Q') ⟨#[.pointer (some ⟨V, 0, none⟩), .slice (some ⟨g, 0, none⟩) n cap, .int .i64 (k : Int), .bool vb, c4, c5, c6, c7, .int .i64 (k : Int), v9, c10, c11, c12, .int .u8 92, v14, v15, c16, v17, v18, v19, v20, c21, c22, c23, c24, c25, c26, c27, c28, c29, c30, c31, c32, c33, c34, c35, c36, c37, c38, c39, c40, c41, c42, c43, c44, c45, c46, c47, c48, c49, c50, c51, c52, c53, c54, c55, c56, c57, c58, c59, c60, c61, c62, c63, c64, c65, c66, c67, c68, c69, c70, c71, c72, c73, c74, c75, c76, c77, c78, c79, c80, c81, c82, c83, c84, c85, c86, c87, c88, c89, c90, c91, c92, c93, c94, c95, c96, c97, c98, c99, c100, c101, c102, c103, c104, c105, c106, c107, c108, c109, c110, c111, c112, c113, c114, c115, .int .u8 92, v117, v118, v119, v120, v121, v122, v123, v124, v125, v126, v127, v128, v129, v130, v131, v132, v133, v134, v135, v136, v137, v138, v139, v140, v141, v142, v143, v144, v145, v146, v147, v148, v149, v150, v151, v152, v153, v154, v155, v156, v157, v158, v159, v160, v161, v162, v163, v164, v165, v166, v167, v168, v169, v170, v171, v172, v173, v174, v175, v176, v177, v178, v179, v180, v181, v182, v183, v184, v185, v186, v187, v188, v189, v190, v191, v192, v193, v194, v195, v196, v197, v198, v199, v200, v201, v202, v203, v204, v205, v206, v207, v208, v209, v210, v211, v212, v213, v214, v215, v216, v217, v218, v219, v220, v221, v222, v223, v224, v225, v226, v227, v228, v229, v230, v231, v232, v233, v234, v235, v236, v237, v238, v239, v240, v241, v242, v243, v244, v245, v246, v247, v248, v249, v250, v251, v252, v253, v254, v255, v256, v257, v258, v259, v260, v261, v262, v263, v264, v265, v266, v267, v268, v269, v270, v271, v272, v273, v274, v275, v276, v277, v278, v279, v280, v281, v282, v283, v284, v285, v286, v287, v288, v289, v290, v291, v292, v293, v294, v295, v296, v297, v298, v299, v300, v301, v302, v303, v304, v305, v306, c307, c308, c309, c310, c311, c312, c313, c314, c315, c316, c317, c318, c319, c320, c321, c322, c323, c324, c325, c326, c327, c328, c329, c330, c331, c332, c333, c334, c335], []⟩ wr := by
  conv => arg 2; whnf
  have hkm : Hid (k < T.length) := Lib.hid (by rw [← hn.out]; exact hk)
  have HI : Hid (FInv lo T (k + 2)) := Lib.hid (hI.out.next hkm.out h34.out 2 (step_two h92.out (by rw [hq.out]; decide)))
  go_wp2
  refine ⟨_, (fun i => [.nilFunc, .nilFunc, .nilFunc, .nilFunc, .nilFunc, .nilFunc, .nilFunc, .nilFunc, .nilFunc, _, .nilFunc, .nilFunc, .nilFunc, .nilFunc, _, _, .nilFunc, _, _, _, _, .nilFunc, .nilFunc, .nilFunc, .nilFunc, .nilFunc, .nilFunc, .nilFunc, .nilFunc, .nilFunc, .nilFunc, .nilFunc, .nilFunc, .nilFunc, .nilFunc, .nilFunc, .nilFunc, .nilFunc, .nilFunc, .nilFunc, .nilFunc, .nilFunc, .nilFunc, .nilFunc, .nilFunc, .nilFunc, .nilFunc, .nilFunc, .nilFunc, .nilFunc, .nilFunc, .nilFunc, .nilFunc, .nilFunc, .nilFunc, .nilFunc, .nilFunc, .nilFunc, .nilFunc, .nilFunc, .nilFunc, .nilFunc, .nilFunc, .nilFunc, .nilFunc, .nilFunc, .nilFunc, .nilFunc, .nilFunc, .nilFunc, .nilFunc, .nilFunc, .nilFunc, .nilFunc, .nilFunc, .nilFunc, .nilFunc, .nilFunc, .nilFunc, .nilFunc, .nilFunc, .nilFunc, .nilFunc, .nilFunc, .nilFunc, .nilFunc, .nilFunc, .nilFunc, .nilFunc, .nilFunc, .nilFunc, .nilFunc, .nilFunc, .nilFunc, .nilFunc, .nilFunc, .nilFunc, .nilFunc, .nilFunc, .nilFunc, .nilFunc, .nilFunc, .nilFunc, .nilFunc, .nilFunc, .nilFunc, .nilFunc, .nilFunc, .nilFunc, .nilFunc, .nilFunc, .nilFunc, .nilFunc, .nilFunc, .nilFunc, .nilFunc, .nilFunc, _, _, _, _, _, _, _, _, _, _, _, _, _, _, _, _, _, _, _, _, _, _, _, _, _, _, _, _, _, _, _, _, _, _, _, _, _, _, _, _, _, _, _, _, _, _, _, _, _, _, _, _, _, _, _, _, _, _, _, _, _, _, _, _, _, _, _, _, _, _, _, _, _, _, _, _, _, _, _, _, _, _, _, _, _, _, _, _, _, _, _, _, _, _, _, _, _, _, _, _, _, _, _, _, _, _, _, _, _, _, _, _, _, _, _, _, _, _, _, _, _, _, _, _, _, _, _, _, _, _, _, _, _, _, _, _, _, _, _, _, _, _, _, _, _, _, _, _, _, _, _, _, _, _, _, _, _, _, _, _, _, _, _, _, _, _, _, _, _, _, _, _, _, _, _, _, _, _, _, _, _, _, _, _, _, _, _, _, _, _].getD i .nilFunc), ⟨k + 2, by omega, by go_num, HI, hF, hG⟩, rfl⟩
set_option maxRecDepth 1000000 in
set_option maxHeartbeats 8000000 in
theorem ft98 {K : Act → World → Prop} {Q' : Exit → Act → World → Prop} (w : World) (k V g n cap : Nat) (lo vb : Bool) (T : List UInt8) (E E2 : Addr) (wr : World) (_hvb : Hid (vb = !lo)) (hk : k < n) (_hcp : n ≤ cap) (hnb : n ≤ 1000000) (hn : Hid (n = T.length)) (_hT : Hid (∀ w', w.grownBy w' (some V) → Tabs2 w' E E2)) (_hB : Hid (∀ w', w.grownBy w' (some V) → g < w'.heap.size ∧ BytesAt w' g 0 T)) (hF : Hid (FV wr V true)) (hG : Hid (w.grownBy wr (some V))) (hI : Hid (FInv lo T k)) (hk2 : k + 2 ≤ n) (h92 : Hid (atL T k = 92)) (h34 : Hid (¬ atL T k = 34)) (hq : Hid (atL T (k + 1) = 98))
    (hK : ∀ a' w'', ftWE w k V lo T (.pointer (some ⟨V, 0, none⟩)) (.slice (some ⟨g, 0, none⟩) n cap) (.int .i64 (k : Int)) (.bool vb) c4 c5 c6 c7 c10 c11 c12 (.int .u8 98) c16 c21 c22 c23 c24 c25 c26 c27 c28 c29 c30 c31 c32 c33 c34 c35 c36 c37 c38 c39 c40 c41 c42 c43 c44 c45 c46 c47 c48 c49 c50 c51 c52 c53 c54 c55 c56 c57 c58 c59 c60 c61 c62 c63 c64 c65 c66 c67 c68 c69 c70 c71 c72 c73 c74 c75 c76 c77 c78 c79 c80 c81 c82 c83 c84 c85 c86 c87 c88 c89 c90 c91 c92 c93 c94 c95 c96 c97 c98 c99 c100 c101 c102 c103 c104 c105 c106 c107 c108 c109 c110 c111 c112 c113 c114 c115 (.int .u8 98) c307 c308 c309 c310 c311 c312 c313 c314 c315 c316 c317 c318 c319 c320 c321 c322 c323 c324 c325 c326 c327 c328 c329 c330 c331 c332 c333 c334 c335 a' w'' → K a' w'')
    (_hR : ∀ a' w'', ftFE w V (.pointer (some ⟨V, 0, none⟩)) (.slice (some ⟨g, 0, none⟩) n cap) (.int .i64 (k : Int)) (.bool vb) c4 c5 c6 c7 c10 c11 c12 (.int .u8 98) c16 c21 c22 c23 c24 c25 c26 c27 c28 c29 c30 c31 c32 c33 c34 c35 c36 c37 c38 c39 c40 c41 c42 c43 c44 c45 c46 c47 c48 c49 c50 c51 c52 c53 c54 c55 c56 c57 c58 c59 c60 c61 c62 c63 c64 c65 c66 c67 c68 c69 c70 c71 c72 c73 c74 c75 c76 c77 c78 c79 c80 c81 c82 c83 c84 c85 c86 c87 c88 c89 c90 c91 c92 c93 c94 c95 c96 c97 c98 c99 c100 c101 c102 c103 c104 c105 c106 c107 c108 c109 c110 c111 c112 c113 c114 c115 (.int .u8 98) c307 c308 c309 c310 c311 c312 c313 c314 c315 c316 c317 c318 c319 c320 c321 c322 c323 c324 c325 c326 c327 c328 c329 c330 c331 c332 c333 c334 c335 a' w'' → Q' .ret a' w'') :
    Code.wp Tryd.prog ftBlk (Exit.then K Q') ⟨#[.pointer (some ⟨V, 0, none⟩), .slice (some ⟨g, 0, none⟩) n cap, .int .i64 (k : Int), .bool vb, c4, c5, c6, c7, .int .i64 (k : Int), v9, c10, c11, c12, .int .u8 98, v14, v15, c16, v17, v18, v19, v20, c21, c22, c23, c24, c25, c26, c27, c28, c29, c30, c31, c32, c33, c34, c35, c36, c37, c38, c39, c40, c41, c42, c43, c44, c45, c46, c47, c48, c49, c50, c51, c52, c53, c54, c55, c56, c57, c58, c59, c60, c61, c62, c63, c64, c65, c66, c67, c68, c69, c70, c71, c72, c73, c74, c75, c76, c77, c78, c79, c80, c81, c82, c83, c84, c85, c86, c87, c88, c89, c90, c91, c92, c93, c94, c95, c96, c97, c98, c99, c100, c101, c102, c103, c104, c105, c106, c107, c108, c109, c110, c111, c112, c113, c114, c115, .int .u8 98, v117, v118, v119, v120, v121, v122, v123, v124, v125, v126, v127, v128, v129, v130, v131, v132, v133, v134, v135, v136, v137, v138, v139, v140, v141, v142, v143, v144, v145, v146, v147, v148, v149, v150, v151, v152, v153, v154, v155, v156, v157, v158, v159, v160, v161, v162, v163, v164, v165, v166, v167, v168, v169, v170, v171, v172, v173, v174, v175, v176, v177, v178, v179, v180, v181, v182, v183, v184, v185, v186, v187, v188, v189, v190, v191, v192, v193, v194, v195, v196, v197, v198, v199, v200, v201, v202, v203, v204, v205, v206, v207, v208, v209, v210, v211, v212, v213, v214, v215, v216, v217, v218, v219, v220, v221, v222, v223, v224, v225, v226, v227, v228, v229, v230, v231, v232, v233, v234, v235, v236, v237, v238, v239, v240, v241, v242, v243, v244, v245, v246, v247, v248, v249, v250, v251, v252, v253, v254, v255, v256, v257, v258, v259, v260, v261, v262, v263, v264, v265, v266, v267, v268, v269, v270, v271, v272, v273, v274, v275, v276, v277, v278, v279, v280, v281, v282, v283, v284, v285, v286, v287, v288, v289, v290, v291, v292, v293, v294, v295, v296, v297, v298, v299, v300, v301, v302, v303, v304, v305, v306, c307, c308, c309, c310, c311, c312, c313, c314, c315, c316, c317, c318, c319, c320, c321, c322, c323, c324, c325, c326, c327, c328, c329, c330, c331, c332, c333, c334, c335], []⟩ wr := by
  conv => arg 2; whnf
  have hkm : Hid (k < T.length) := Lib.hid (by rw [← hn.out]; exact hk)
  have HI : Hid (FInv lo T (k + 2)) := Lib.hid (hI.out.next hkm.out h34.out 2 (step_two h92.out (by rw [hq.out]; decide)))
  go_wp2
  refine ⟨_, (fun i => [.nilFunc, .nilFunc, .nilFunc, .nilFunc, .nilFunc, .nilFunc, .nilFunc, .nilFunc, .nilFunc, _, .nilFunc, .nilFunc, .nilFunc, .nilFunc, _, _, .nilFunc, _, _, _, _, .nilFunc, .nilFunc, .nilFunc, .nilFunc, .nilFunc, .nilFunc, .nilFunc, .nilFunc, .nilFunc, .nilFunc, .nilFunc, .nilFunc, .nilFunc, .nilFunc, .nilFunc, .nilFunc, .nilFunc, .nilFunc, .nilFunc, .nilFunc, .nilFunc, .nilFunc, .nilFunc, .nilFunc, .nilFunc, .nilFunc, .nilFunc, .nilFunc, .nilFunc, .nilFunc, .nilFunc, .nilFunc, .nilFunc, .nilFunc, .nilFunc, .nilFunc, .nilFunc, .nilFunc, .nilFunc, .nilFunc, .nilFunc, .nilFunc, .nilFunc, .nilFunc, .nilFunc, .nilFunc, .nilFunc, .nilFunc, .nilFunc, .nilFunc, .nilFunc, .nilFunc, .nilFunc, .nilFunc, .nilFunc, .nilFunc, .nilFunc, .nilFunc, .nilFunc, .nilFunc, .nilFunc, .nilFunc, .nilFunc, .nilFunc, .nilFunc, .nilFunc, .nilFunc, .nilFunc, .nilFunc, .nilFunc, .nilFunc, .nilFunc, .nilFunc, .nilFunc, .nilFunc, .nilFunc, .nilFunc, .nilFunc, .nilFunc, .nilFunc, .nilFunc, .nilFunc, .nilFunc, .nilFunc, .nilFunc, .nilFunc, .nilFunc, .nilFunc, .nilFunc, .nilFunc, .nilFunc, .nilFunc, .nilFunc, .nilFunc, .nilFunc, .nilFunc, _, _, _, _, _, _, _, _, _, _, _, _, _, _, _, _, _, _, _, _, _, _, _, _, _, _, _, _, _, _, _, _, _, _, _, _, _, _, _, _, _, _, _, _, _, _, _, _, _, _, _, _, _, _, _, _, _, _, _, _, _, _, _, _, _, _, _, _, _, _, _, _, _, _, _, _, _, _, _, _, _, _, _, _, _, _, _, _, _, _, _, _, _, _, _, _, _, _, _, _, _, _, _, _, _, _, _, _, _, _, _, _, _, _, _, _, _, _, _, _, _, _, _, _, _, _, _, _, _, _, _, _, _, _, _, _, _, _, _, _, _, _, _, _, _, _, _, _, _, _, _, _, _, _, _, _, _, _, _, _, _, _, _, _, _, _, _, _, _, _, _, _, _, _, _, _, _, _, _, _, _, _, _, _, _, _, _, _, _, _].getD i .nilFunc), ⟨k + 2, by omega, by go_num, HI, hF, hG⟩, rfl⟩
set_option maxRecDepth 1000000 in
set_option maxHeartbeats 8000000 in
theorem ft102 {K : Act → World → Prop} {Q' : Exit → Act → World → Prop} (w : World) (k V g n cap : Nat) (lo vb : Bool) (T : List UInt8) (E E2 : Addr) (wr : World) (_hvb : Hid (vb = !lo)) (hk : k < n) (_hcp : n ≤ cap) (hnb : n ≤ 1000000) (hn : Hid (n = T.length)) (_hT : Hid (∀ w', w.grownBy w' (some V) → Tabs2 w' E E2)) (_hB : Hid (∀ w', w.grownBy w' (some V) → g < w'.heap.size ∧ BytesAt w' g 0 T)) (hF : Hid (FV wr V true)) (hG : Hid (w.grownBy wr (some V))) (hI : Hid (FInv lo T k)) (hk2 : k + 2 ≤ n) (h92 : Hid (atL T k = 92)) (h34 : Hid (¬ atL T k = 34)) (hq : Hid (atL T (k + 1) = 102))
    (hK : ∀ a' w'', ftWE w k V lo T (.pointer (some ⟨V, 0, none⟩)) (.slice (some ⟨g, 0, none⟩) n cap) (.int .i64 (k : Int)) (.bool vb) c4 c5 c6 c7 c10 c11 c12 (.int .u8 102) c16 c21 c22 c23 c24 c25 c26 c27 c28 c29 c30 c31 c32 c33 c34 c35 c36 c37 c38 c39 c40 c41 c42 c43 c44 c45 c46 c47 c48 c49 c50 c51 c52 c53 c54 c55 c56 c57 c58 c59 c60 c61 c62 c63 c64 c65 c66 c67 c68 c69 c70 c71 c72 c73 c74 c75 c76 c77 c78 c79 c80 c81 c82 c83 c84 c85 c86 c87 c88 c89 c90 c91 c92 c93 c94 c95 c96 c97 c98 c99 c100 c101 c102 c103 c104 c105 c106 c107 c108 c109 c110 c111 c112 c113 c114 c115 (.int .u8 102) c307 c308 c309 c310 c311 c312 c313 c314 c315 c316 c317 c318 c319 c320 c321 c322 c323 c324 c325 c326 c327 c328 c329 c330 c331 c332 c333 c334 c335 a' w'' → K a' w'')
    (_hR : ∀ a' w'', ftFE w V (.pointer (some ⟨V, 0, none⟩)) (.slice (some ⟨g, 0, none⟩) n cap) (.int .i64 (k : Int)) (.bool vb) c4 c5 c6 c7 c10 c11 c12 (.int .u8 102) c16 c21 c22 c23 c24 c25 c26 c27 c28 c29 c30 c31 c32 c33 c34 c35 c36 c37 c38 c39 c40 c41 c42 c43 c44 c45 c46 c47 c48 c49 c50 c51 c52 c53 c54 c55 c56 c57 c58 c59 c60 c61 c62 c63 c64 c65 c66 c67 c68 c69 c70 c71 c72 c73 c74 c75 c76 c77 c78 c79 c80 c81 c82 c83 c84 c85 c86 c87 c88 c89 c90 c91 c92 c93 c94 c95 c96 c97 c98 c99 c100 c101 c102 c103 c104 c105 c106 c107 c108 c109 c110 c111 c112 c113 c114 c115 (.int .u8 102) c307 c308 c309 c310 c311 c312 c313 c314 c315 c316 c317 c318 c319 c320 c321 c322 c323 c324 c325 c326 c327 c328 c329 c330 c331 c332 c333 c334 c335 a' w'' → Q' .ret a' w'') :
    Code.wp Tryd.prog ftBlk (Exit.then K Q') ⟨#[.pointer (some ⟨V, 0, none⟩), .slice (some ⟨g, 0, none⟩) n cap, .int .i64 (k : Int), .bool vb, c4, c5, c6, c7, .int .i64 (k : Int), v9, c10, c11, c12, .int .u8 102, v14, v15, c16, v17, v18, v19, v20, c21, c22, c23, c24, c25, c26, c27, c28, c29, c30, c31, c32, c33, c34, c35, c36, c37, c38, c39, c40, c41, c42, c43, c44, c45, c46, c47, c48, c49, c50, c51, c52, c53, c54, c55, c56, c57, c58, c59, c60, c61, c62, c63, c64, c65, c66, c67, c68, c69, c70, c71, c72, c73, c74, c75, c76, c77, c78, c79, c80, c81, c82, c83, c84, c85, c86, c87, c88, c89, c90, c91, c92, c93, c94, c95, c96, c97, c98, c99, c100, c101, c102, c103, c104, c105, c106, c107, c108, c109, c110, c111, c112, c113, c114, c115, .int .u8 102, v117, v118, v119, v120, v121, v122, v123, v124, v125, v126, v127, v128, v129, v130, v131, v132, v133, v134, v135, v136, v137, v138, v139, v140, v141, v142, v143, v144, v145, v146, v147, v148, v149, v150, v151, v152, v153, v154, v155, v156, v157, v158, v159, v160, v161, v162, v163, v164, v165, v166, v167, v168, v169, v170, v171, v172, v173, v174, v175, v176, v177, v178, v179, v180, v181, v182, v183, v184, v185, v186, v187, v188, v189, v190, v191, v192, v193, v194, v195, v196, v197, v198, v199, v200, v201, v202, v203, v204, v205, v206, v207, v208, v209, v210, v211, v212, v213, v214, v215, v216, v217, v218, v219, v220, v221, v222, v223, v224, v225, v226, v227, v228, v229, v230, v231, v232, v233, v234, v235, v236, v237, v238, v239, v240, v241, v242, v243, v244, v245, v246, v247, v248, v249, v250, v251, v252, v253, v254, v255, v256, v257, v258, v259, v260, v261, v262, v263, v264, v265, v266, v267, v268, v269, v270, v271, v272, v273, v274, v275, v276, v277, v278, v279, v280, v281, v282, v283, v284, v285, v286, v287, v288, v289, v290, v291, v292, v293, v294, v295, v296, v297, v298, v299, v300, v301, v302, v303, v304, v305, v306, c307, c308, c309, c310, c311, c312, c313, c314, c315, c316, c317, c318, c319, c320, c321, c322, c323, c324, c325, c326, c327, c328, c329, c330, c331, c332, c333, c334, c335], []⟩ wr := by
  conv => arg 2; whnf
  have hkm : Hid (k < T.length) := Lib.hid (by rw [← hn.out]; exact hk)
  have HI : Hid (FInv lo T (k + 2)) := Lib.hid (hI.out.next hkm.out h34.out 2 (step_two h92.out (by rw [hq.out]; decide)))
  go_wp2
  refine ⟨_, (fun i => [.nilFunc, .nilFunc, .nilFunc, .nilFunc, .nilFunc, .nilFunc, .nilFunc, .nilFunc, .nilFunc, _, .nilFunc, .nilFunc, .nilFunc, .nilFunc, _, _, .nilFunc, _, _, _, _, .nilFunc, .nilFunc, .nilFunc, .nilFunc, .nilFunc, .nilFunc, .nilFunc, .nilFunc, .nilFunc, .nilFunc, .nilFunc, .nilFunc, .nilFunc, .nilFunc, .nilFunc, .nilFunc, .nilFunc, .nilFunc, .nilFunc, .nilFunc, .nilFunc, .nilFunc, .nilFunc, .nilFunc, .nilFunc, .nilFunc, .nilFunc, .nilFunc, .nilFunc, .nilFunc, .nilFunc, .nilFunc, .nilFunc, .nilFunc, .nilFunc, .nilFunc, .nilFunc, .nilFunc, .nilFunc, .nilFunc, .nilFunc, .nilFunc, .nilFunc, .nilFunc, .nilFunc, .nilFunc, .nilFunc, .nilFunc, .nilFunc, .nilFunc, .nilFunc, .nilFunc, .nilFunc, .nilFunc, .nilFunc, .nilFunc, .nilFunc, .nilFunc, .nilFunc, .nilFunc, .nilFunc, .nilFunc, .nilFunc, .nilFunc, .nilFunc, .nilFunc, .nilFunc, .nilFunc, .nilFunc, .nilFunc, .nilFunc, .nilFunc, .nilFunc, .nilFunc, .nilFunc, .nilFunc, .nilFunc, .nilFunc, .nilFunc, .nilFunc, .nilFunc, .nilFunc, .nilFunc, .nilFunc, .nilFunc, .nilFunc, .nilFunc, .nilFunc, .nilFunc, .nilFunc, .nilFunc, .nilFunc, .nilFunc, .nilFunc, .nilFunc, .nilFunc, _, _, _, _, _, _, _, _, _, _, _, _, _, _, _, _, _, _, _, _, _, _, _, _, _, _, _, _, _, _, _, _, _, _, _, _, _, _, _, _, _, _, _, _, _, _, _, _, _, _, _, _, _, _, _, _, _, _, _, _, _, _, _, _, _, _, _, _, _, _, _, _, _, _, _, _, _, _, _, _, _, _, _, _, _, _, _, _, _, _, _, _, _, _, _, _, _, _, _, _, _, _, _, _, _, _, _, _, _, _, _, _, _, _, _, _, _, _, _, _, _, _, _, _, _, _, _, _, _, _, _, _, _, _, _, _, _, _, _, _, _, _, _, _, _, _, _, _, _, _, _, _, _, _, _, _, _, _, _, _, _, _, _, _, _, _, _, _, _, _, _, _, _, _, _, _, _, _, _, _, _, _, _, _, _, _, _, _, _, _].getD i .nilFunc), ⟨k + 2, by omega, by go_num, HI, hF, hG⟩, rfl⟩
set_option maxRecDepth 1000000 in
set_option maxHeartbeats 8000000 in
theorem ft110 {K : Act → World → Prop} {Q' : Exit → Act → World → Prop} (w : World) (k V g n cap : Nat) (lo vb : Bool) (T : List UInt8) (E E2 : Addr) (wr : World) (_hvb : Hid (vb = !lo)) (hk : k < n) (_hcp : n ≤ cap) (hnb : n ≤ 1000000) (hn : Hid (n = T.length)) (_hT : Hid (∀ w', w.grownBy w' (some V) → Tabs2 w' E E2)) (_hB : Hid (∀ w', w.grownBy w' (some V) → g < w'.heap.size ∧ BytesAt w' g 0 T)) (hF : Hid (FV wr V true)) (hG : Hid (w.grownBy wr (some V))) (hI : Hid (FInv lo T k)) (hk2 : k + 2 ≤ n) (h92 : Hid (atL T k = 92)) (h34 : Hid (¬ atL T k = 34)) (hq : Hid (atL T (k + 1) = 110))
    (hK : ∀ a' w'', ftWE w k V lo T (.pointer (some ⟨V, 0, none⟩)) (.slice (some ⟨g, 0, none⟩) n cap) (.int .i64 (k : Int)) (.bool vb) c4 c5 c6 c7 c10 c11 c12 (.int .u8 110) c16 c21 c22 c23 c24 c25 c26 c27 c28 c29 c30 c31 c32 c33 c34 c35 c36 c37 c38 c39 c40 c41 c42 c43 c44 c45 c46 c47 c48 c49 c50 c51 c52 c53 c54 c55 c56 c57 c58 c59 c60 c61 c62 c63 c64 c65 c66 c67 c68 c69 c70 c71 c72 c73 c74 c75 c76 c77 c78 c79 c80 c81 c82 c83 c84 c85 c86 c87 c88 c89 c90 c91 c92 c93 c94 c95 c96 c97 c98 c99 c100 c101 c102 c103 c104 c105 c106 c107 c108 c109 c110 c111 c112 c113 c114 c115 (.int .u8 110) c307 c308 c309 c310 c311 c312 c313 c314 c315 c316 c317 c318 c319 c320 c321 c322 c323 c324 c325 c326 c327 c328 c329 c330 c331 c332 c333 c334 c335 a' w'' → K a' w'')
    (_hR : ∀ a' w'', ftFE w V (.pointer (some ⟨V, 0, none⟩)) (.slice (some ⟨g, 0, none⟩) n cap) (.int .i64 (k : Int)) (.bool vb) c4 c5 c6 c7 c10 c11 c12 (.int .u8 110) c16 c21 c22 c23 c24 c25 c26 c27 c28 c29 c30 c31 c32 c33 c34 c35 c36 c37 c38 c39 c40 c41 c42 c43 c44 c45 c46 c47 c48 c49 c50 c51 c52 c53 c54 c55 c56 c57 c58 c59 c60 c61 c62 c63 c64 c65 c66 c67 c68 c69 c70 c71 c72 c73 c74 c75 c76 c77 c78 c79 c80 c81 c82 c83 c84 c85 c86 c87 c88 c89 c90 c91 c92 c93 c94 c95 c96 c97 c98 c99 c100 c101 c102 c103 c104 c105 c106 c107 c108 c109 c110 c111 c112 c113 c114 c115 (.int .u8 110) c307 c308 c309 c310 c311 c312 c313 c314 c315 c316 c317 c318 c319 c320 c321 c322 c323 c324 c325 c326 c327 c328 c329 c330 c331 c332 c333 c334 c335 a' w'' → Q' .ret a' w'') :
    Code.wp Tryd.prog ftBlk (Exit.then K Q') ⟨#[.pointer (some ⟨V, 0, none⟩), .slice (some ⟨g, 0, none⟩) n cap, .int .i64 (k : Int), .bool vb, c4, c5, c6, c7, .int .i64 (k : Int), v9, c10, c11, c12, .int .u8 110, v14, v15, c16, v17, v18, v19, v20, c21, c22, c23, c24, c25, c26, c27, c28, c29, c30, c31, c32, c33, c34, c35, c36, c37, c38, c39, c40, c41, c42, c43, c44, c45, c46, c47, c48, c49, c50, c51, c52, c53, c54, c55, c56, c57, c58, c59, c60, c61, c62, c63, c64, c65, c66, c67, c68, c69, c70, c71, c72, c73, c74, c75, c76, c77, c78, c79, c80, c81, c82, c83, c84, c85, c86, c87, c88, c89, c90, c91, c92, c93, c94, c95, c96, c97, c98, c99, c100, c101, c102, c103, c104, c105, c106, c107, c108, c109, c110, c111, c112, c113, c114, c115, .int .u8 110, v117, v118, v119, v120, v121, v122, v123, v124, v125, v126, v127, v128, v129, v130, v131, v132, v133, v134, v135, v136, v137, v138, v139, v140, v141, v142, v143, v144, v145, v146, v147, v148, v149, v150, v151, v152, v153, v154, v155, v156, v157, v158, v159, v160, v161, v162, v163, v164, v165, v166, v167, v168, v169, v170, v171, v172, v173, v174, v175, v176, v177, v178, v179, v180, v181, v182, v183, v184, v185, v186, v187, v188, v189, v190, v191, v192, v193, v194, v195, v196, v197, v198, v199, v200, v201, v202, v203, v204, v205, v206, v207, v208, v209, v210, v211, v212, v213, v214, v215, v216, v217, v218, v219, v220, v221, v222, v223, v224, v225, v226, v227, v228, v229, v230, v231, v232, v233, v234, v235, v236, v237, v238, v239, v240, v241, v242, v243, v244, v245, v246, v247, v248, v249, v250, v251, v252, v253, v254, v255, v256, v257, v258, v259, v260, v261, v262, v263, v264, v265, v266, v267, v268, v269, v270, v271, v272, v273, v274, v275, v276, v277, v278, v279, v280, v281, v282, v283, v284, v285, v286, v287, v288, v289, v290, v291, v292, v293, v294, v295, v296, v297, v298, v299, v300, v301, v302, v303, v304, v305, v306, c307, c308, c309, c310, c311, c312, c313, c314, c315, c316, c317, c318, c319, c320, c321, c322, c323, c324, c325, c326, c327, c328, c329, c330, c331, c332, c333, c334, c335], []⟩ wr := by
  conv => arg 2; whnf
  have hkm : Hid (k < T.length) := Lib.hid (by rw [← hn.out]; exact hk)
  have HI : Hid (FInv lo T (k + 2)) := Lib.hid (hI.out.next hkm.out h34.out 2 (step_two h92.out (by rw [hq.out]; decide)))
  go_wp2
  refine ⟨_, (fun i => [.nilFunc, .nilFunc, .nilFunc, .nilFunc, .nilFunc, .nilFunc, .nilFunc, .nilFunc, .nilFunc, _, .nilFunc, .nilFunc, .nilFunc, .nilFunc, _, _, .nilFunc, _, _, _, _, .nilFunc, .nilFunc, .nilFunc, .nilFunc, .nilFunc, .nilFunc, .nilFunc, .nilFunc, .nilFunc, .nilFunc, .nilFunc, .nilFunc, .nilFunc, .nilFunc, .nilFunc, .nilFunc, .nilFunc, .nilFunc, .nilFunc, .nilFunc, .nilFunc, .nilFunc, .nilFunc, .nilFunc, .nilFunc, .nilFunc, .nilFunc, .nilFunc, .nilFunc, .nilFunc, .nilFunc, .nilFunc, .nilFunc, .nilFunc, .nilFunc, .nilFunc, .nilFunc, .nilFunc, .nilFunc, .nilFunc, .nilFunc, .nilFunc, .nilFunc, .nilFunc, .nilFunc, .nilFunc, .nilFunc, .nilFunc, .nilFunc, .nilFunc, .nilFunc, .nilFunc, .nilFunc, .nilFunc, .nilFunc, .nilFunc, .nilFunc, .nilFunc, .nilFunc, .nilFunc, .nilFunc, .nilFunc, .nilFunc, .nilFunc, .nilFunc, .nilFunc, .nilFunc, .nilFunc, .nilFunc, .nilFunc, .nilFunc, .nilFunc, .nilFunc, .nilFunc, .nilFunc, .nilFunc, .nilFunc, .nilFunc, .nilFunc, .nilFunc, .nilFunc, .nilFunc, .nilFunc, .nilFunc, .nilFunc, .nilFunc, .nilFunc, .nilFunc, .nilFunc, .nilFunc, .nilFunc, .nilFunc, .nilFunc, .nilFunc, .nilFunc, .nilFunc, _, _, _, _, _, _, _, _, _, _, _, _, _, _, _, _, _, _, _, _, _, _, _, _, _, _, _, _, _, _, _, _, _, _, _, _, _, _, _, _, _, _, _, _, _, _, _, _, _, _, _, _, _, _, _, _, _, _, _, _, _, _, _, _, _, _, _, _, _, _, _, _, _, _, _, _, _, _, _, _, _, _, _, _, _, _, _, _, _, _, _, _, _, _, _, _, _, _, _, _, _, _, _, _, _, _, _, _, _, _, _, _, _, _, _, _, _, _, _, _, _, _, _, _, _, _, _, _, _, _, _, _, _, _, _, _, _, _, _, _, _, _, _, _, _, _, _, _, _, _, _, _, _, _, _, _, _, _, _, _, _, _, _, _, _, _, _, _, _, _, _, _, _, _, _, _, _, _, _, _, _, _, _, _, _, _, _, _, _, _].getD i .nilFunc), ⟨k + 2, by omega, by go_num, HI, hF, hG⟩, rfl⟩
set_option maxRecDepth 1000000 in
set_option maxHeartbeats 8000000 in
theorem ft114 {K : Act → World → Prop} {Q' : Exit → Act → World → Prop} (w : World) (k V g n cap : Nat) (lo vb : Bool) (T : List UInt8) (E E2 : Addr) (wr : World) (_hvb : Hid (vb = !lo)) (hk : k < n) (_hcp : n ≤ cap) (hnb : n ≤ 1000000) (hn : Hid (n = T.length)) (_hT : Hid (∀ w', w.grownBy w' (some V) → Tabs2 w' E E2)) (_hB : Hid (∀ w', w.grownBy w' (some V) → g < w'.heap.size ∧ BytesAt w' g 0 T)) (hF : Hid (FV wr V true)) (hG : Hid (w.grownBy wr (some V))) (hI : Hid (FInv lo T k)) (hk2 : k + 2 ≤ n) (h92 : Hid (atL T k = 92)) (h34 : Hid (¬ atL T k = 34)) (hq : Hid (atL T (k + 1) = 114))
    (hK : ∀ a' w'', ftWE w k V lo T (.pointer (some ⟨V, 0, none⟩)) (.slice (some ⟨g, 0, none⟩) n cap) (.int .i64 (k : Int)) (.bool vb) c4 c5 c6 c7 c10 c11 c12 (.int .u8 114) c16 c21 c22 c23 c24 c25 c26 c27 c28 c29 c30 c31 c32 c33 c34 c35 c36 c37 c38 c39 c40 c41 c42 c43 c44 c45 c46 c47 c48 c49 c50 c51 c52 c53 c54 c55 c56 c57 c58 c59 c60 c61 c62 c63 c64 c65 c66 c67 c68 c69 c70 c71 c72 c73 c74 c75 c76 c77 c78 c79 c80 c81 c82 c83 c84 c85 c86 c87 c88 c89 c90 c91 c92 c93 c94 c95 c96 c97 c98 c99 c100 c101 c102 c103 c104 c105 c106 c107 c108 c109 c110 c111 c112 c113 c114 c115 (.int .u8 114) c307 c308 c309 c310 c311 c312 c313 c314 c315 c316 c317 c318 c319 c320 c321 c322 c323 c324 c325 c326 c327 c328 c329 c330 c331 c332 c333 c334 c335 a' w'' → K a' w'')
    (_hR : ∀ a' w'', ftFE w V (.pointer (some ⟨V, 0, none⟩)) (.slice (some ⟨g, 0, none⟩) n cap) (.int .i64 (k : Int)) (.bool vb) c4 c5 c6 c7 c10 c11 c12 (.int .u8 114) c16 c21 c22 c23 c24 c25 c26 c27 c28 c29 c30 c31 c32 c33 c34 c35 c36 c37 c38 c39 c40 c41 c42 c43 c44 c45 c46 c47 c48 c49 c50 c51 c52 c53 c54 c55 c56 c57 c58 c59 c60 c61 c62 c63 c64 c65 c66 c67 c68 c69 c70 c71 c72 c73 c74 c75 c76 c77 c78 c79 c80 c81 c82 c83 c84 c85 c86 c87 c88 c89 c90 c91 c92 c93 c94 c95 c96 c97 c98 c99 c100 c101 c102 c103 c104 c105 c106 c107 c108 c109 c110 c111 c112 c113 c114 c115 (.int .u8 114) c307 c308 c309 c310 c311 c312 c313 c314 c315 c316 c317 c318 c319 c320 c321 c322 c323 c324 c325 c326 c327 c328 c329 c330 c331 c332 c333 c334 c335 a' w'' → Q' .ret a' w'') :
    Code.wp Tryd.prog ftBlk (Exit.then K Q') ⟨#[.pointer (some ⟨V, 0, none⟩), .slice (some ⟨g, 0, none⟩) n cap, .int .i64 (k : Int), .bool vb, c4, c5, c6, c7, .int .i64 (k : Int), v9, c10, c11, c12, .int .u8 114, v14, v15, c16, v17, v18, v19, v20, c21, c22, c23, c24, c25, c26, c27, c28, c29, c30, c31, c32, c33, c34, c35, c36, c37, c38, c39, c40, c41, c42, c43, c44, c45, c46, c47, c48, c49, c50, c51, c52, c53, c54, c55, c56, c57, c58, c59, c60, c61, c62, c63, c64, c65, c66, c67, c68, c69, c70, c71, c72, c73, c74, c75, c76, c77, c78, c79, c80, c81, c82, c83, c84, c85, c86, c87, c88, c89, c90, c91, c92, c93, c94, c95, c96, c97, c98, c99, c100, c101, c102, c103, c104, c105, c106, c107, c108, c109, c110, c111, c112, c113, c114, c115, .int .u8 114, v117, v118, v119, v120, v121, v122, v123, v124, v125, v126, v127, v128, v129, v130, v131, v132, v133, v134, v135, v136, v137, v138, v139, v140, v141, v142, v143, v144, v145, v146, v147, v148, v149, v150, v151, v152, v153, v154, v155, v156, v157, v158, v159, v160, v161, v162, v163, v164, v165, v166, v167, v168, v169, v170, v171, v172, v173, v174, v175, v176, v177, v178, v179, v180, v181, v182, v183, v184, v185, v186, v187, v188, v189, v190, v191, v192, v193, v194, v195, v196, v197, v198, v199, v200, v201, v202, v203, v204, v205, v206, v207, v208, v209, v210, v211, v212, v213, v214, v215, v216, v217, v218, v219, v220, v221, v222, v223, v224, v225, v226, v227, v228, v229, v230, v231, v232, v233, v234, v235, v236, v237, v238, v239, v240, v241, v242, v243, v244, v245, v246, v247, v248, v249, v250, v251, v252, v253, v254, v255, v256, v257, v258, v259, v260, v261, v262, v263, v264, v265, v266, v267, v268, v269, v270, v271, v272, v273, v274, v275, v276, v277, v278, v279, v280, v281, v282, v283, v284, v285, v286, v287, v288, v289, v290, v291, v292, v293, v294, v295, v296, v297, v298, v299, v300, v301, v302, v303, v304, v305, v306, c307, c308, c309, c310, c311, c312, c313, c314, c315, c316, c317, c318, c319, c320, c321, c322, c323, c324, c325, c326, c327, c328, c329, c330, c331, c332, c333, c334, c335], []⟩ wr := by
  conv => arg 2; whnf
  have hkm : Hid (k < T.length) := Lib.hid (by rw [← hn.out]; exact hk)
  have HI : Hid (FInv lo T (k + 2)) := Lib.hid (hI.out.next hkm.out h34.out 2 (step_two h92.out (by rw [hq.out]; decide)))
  go_wp2
  refine ⟨_, (fun i => [.nilFunc, .nilFunc, .nilFunc, .nilFunc, .nilFunc, .nilFunc, .nilFunc, .nilFunc, .nilFunc, _, .nilFunc, .nilFunc, .nilFunc, .nilFunc, _, _, .nilFunc, _, _, _, _, .nilFunc, .nilFunc, .nilFunc, .nilFunc, .nilFunc, .nilFunc, .nilFunc, .nilFunc, .nilFunc, .nilFunc, .nilFunc, .nilFunc, .nilFunc, .nilFunc, .nilFunc, .nilFunc, .nilFunc, .nilFunc, .nilFunc, .nilFunc, .nilFunc, .nilFunc, .nilFunc, .nilFunc, .nilFunc, .nilFunc, .nilFunc, .nilFunc, .nilFunc, .nilFunc, .nilFunc, .nilFunc, .nilFunc, .nilFunc, .nilFunc, .nilFunc, .nilFunc, .nilFunc, .nilFunc, .nilFunc, .nilFunc, .nilFunc, .nilFunc, .nilFunc, .nilFunc, .nilFunc, .nilFunc, .nilFunc, .nilFunc, .nilFunc, .nilFunc, .nilFunc, .nilFunc, .nilFunc, .nilFunc, .nilFunc, .nilFunc, .nilFunc, .nilFunc, .nilFunc, .nilFunc, .nilFunc, .nilFunc, .nilFunc, .nilFunc, .nilFunc, .nilFunc, .nilFunc, .nilFunc, .nilFunc, .nilFunc, .nilFunc, .nilFunc, .nilFunc, .nilFunc, .nilFunc, .nilFunc, .nilFunc, .nilFunc, .nilFunc, .nilFunc, .nilFunc, .nilFunc, .nilFunc, .nilFunc, .nilFunc, .nilFunc, .nilFunc, .nilFunc, .nilFunc, .nilFunc, .nilFunc, .nilFunc, .nilFunc, .nilFunc, .nilFunc, _, _, _, _, _, _, _, _, _, _, _, _, _, _, _, _, _, _, _, _, _, _, _, _, _, _, _, _, _, _, _, _, _, _, _, _, _, _, _, _, _, _, _, _, _, _, _, _, _, _, _, _, _, _, _, _, _, _, _, _, _, _, _, _, _, _, _, _, _, _, _, _, _, _, _, _, _, _, _, _, _, _, _, _, _, _, _, _, _, _, _, _, _, _, _, _, _, _, _, _, _, _, _, _, _, _, _, _, _, _, _, _, _, _, _, _, _, _, _, _, _, _, _, _, _, _, _, _, _, _, _, _, _, _, _, _, _, _, _, _, _, _, _, _, _, _, _, _, _, _, _, _, _, _, _, _, _, _, _, _, _, _, _, _, _, _, _, _, _, _, _, _, _, _, _, _, _, _, _, _, _, _, _, _, _, _, _, _, _, _].getD i .nilFunc), ⟨k + 2, by omega, by go_num, HI, hF, hG⟩, rfl⟩
set_option maxRecDepth 1000000 in
set_option maxHeartbeats 8000000 in
theorem ft116 {K : Act → World → Prop} {Q' : Exit → Act → World → Prop} (w : World) (k V g n cap : Nat) (lo vb : Bool) (T : List UInt8) (E E2 : Addr) (wr : World) (_hvb : Hid (vb = !lo)) (hk : k < n) (_hcp : n ≤ cap) (hnb : n ≤ 1000000) (hn : Hid (n = T.length)) (_hT : Hid (∀ w', w.grownBy w' (some V) → Tabs2 w' E E2)) (_hB : Hid (∀ w', w.grownBy w' (some V) → g < w'.heap.size ∧ BytesAt w' g 0 T)) (hF : Hid (FV wr V true)) (hG : Hid (w.grownBy wr (some V))) (hI : Hid (FInv lo T k)) (hk2 : k + 2 ≤ n) (h92 : Hid (atL T k = 92)) (h34 : Hid (¬ atL T k = 34)) (hq : Hid (atL T (k + 1) = 116))
    (hK : ∀ a' w'', ftWE w k V lo T (.pointer (some ⟨V, 0, none⟩)) (.slice (some ⟨g, 0, none⟩) n cap) (.int .i64 (k : Int)) (.bool vb) c4 c5 c6 c7 c10 c11 c12 (.int .u8 116) c16 c21 c22 c23 c24 c25 c26 c27 c28 c29 c30 c31 c32 c33 c34 c35 c36 c37 c38 c39 c40 c41 c42 c43 c44 c45 c46 c47 c48 c49 c50 c51 c52 c53 c54 c55 c56 c57 c58 c59 c60 c61 c62 c63 c64 c65 c66 c67 c68 c69 c70 c71 c72 c73 c74 c75 c76 c77 c78 c79 c80 c81 c82 c83 c84 c85 c86 c87 c88 c89 c90 c91 c92 c93 c94 c95 c96 c97 c98 c99 c100 c101 c102 c103 c104 c105 c106 c107 c108 c109 c110 c111 c112 c113 c114 c115 (.int .u8 116) c307 c308 c309 c310 c311 c312 c313 c314 c315 c316 c317 c318 c319 c320 c321 c322 c323 c324 c325 c326 c327 c328 c329 c330 c331 c332 c333 c334 c335 a' w'' → K a' w'')
    (_hR : ∀ a' w'', ftFE w V (.pointer (some ⟨V, 0, none⟩)) (.slice (some ⟨g, 0, none⟩) n cap) (.int .i64 (k : Int)) (.bool vb) c4 c5 c6 c7 c10 c11 c12 (.int .u8 116) c16 c21 c22 c23 c24 c25 c26 c27 c28 c29 c30 c31 c32 c33 c34 c35 c36 c37 c38 c39 c40 c41 c42 c43 c44 c45 c46 c47 c48 c49 c50 c51 c52 c53 c54 c55 c56 c57 c58 c59 c60 c61 c62 c63 c64 c65 c66 c67 c68 c69 c70 c71 c72 c73 c74 c75 c76 c77 c78 c79 c80 c81 c82 c83 c84 c85 c86 c87 c88 c89 c90 c91 c92 c93 c94 c95 c96 c97 c98 c99 c100 c101 c102 c103 c104 c105 c106 c107 c108 c109 c110 c111 c112 c113 c114 c115 (.int .u8 116) c307 c308 c309 c310 c311 c312 c313 c314 c315 c316 c317 c318 c319 c320 c321 c322 c323 c324 c325 c326 c327 c328 c329 c330 c331 c332 c333 c334 c335 a' w'' → Q' .ret a' w'') :
    Code.wp Tryd.prog ftBlk (Exit.then K Q') ⟨#[.pointer (some ⟨V, 0, none⟩), .slice (some ⟨g, 0, none⟩) n cap, .int .i64 (k : Int), .bool vb, c4, c5, c6, c7, .int .i64 (k : Int), v9, c10, c11, c12, .int .u8 116, v14, v15, c16, v17, v18, v19, v20, c21, c22, c23, c24, c25, c26, c27, c28, c29, c30, c31, c32, c33, c34, c35, c36, c37, c38, c39, c40, c41, c42, c43, c44, c45, c46, c47, c48, c49, c50, c51, c52, c53, c54, c55, c56, c57, c58, c59, c60, c61, c62, c63, c64, c65, c66, c67, c68, c69, c70, c71, c72, c73, c74, c75, c76, c77, c78, c79, c80, c81, c82, c83, c84, c85, c86, c87, c88, c89, c90, c91, c92, c93, c94, c95, c96, c97, c98, c99, c100, c101, c102, c103, c104, c105, c106, c107, c108, c109, c110, c111, c112, c113, c114, c115, .int .u8 116, v117, v118, v119, v120, v121, v122, v123, v124, v125, v126, v127, v128, v129, v130, v131, v132, v133, v134, v135, v136, v137, v138, v139, v140, v141, v142, v143, v144, v145, v146, v147, v148, v149, v150, v151, v152, v153, v154, v155, v156, v157, v158, v159, v160, v161, v162, v163, v164, v165, v166, v167, v168, v169, v170, v171, v172, v173, v174, v175, v176, v177, v178, v179, v180, v181, v182, v183, v184, v185, v186, v187, v188, v189, v190, v191, v192, v193, v194, v195, v196, v197, v198, v199, v200, v201, v202, v203, v204, v205, v206, v207, v208, v209, v210, v211, v212, v213, v214, v215, v216, v217, v218, v219, v220, v221, v222, v223, v224, v225, v226, v227, v228, v229, v230, v231, v232, v233, v234, v235, v236, v237, v238, v239, v240, v241, v242, v243, v244, v245, v246, v247, v248, v249, v250, v251, v252, v253, v254, v255, v256, v257, v258, v259, v260, v261, v262, v263, v264, v265, v266, v267, v268, v269, v270, v271, v272, v273, v274, v275, v276, v277, v278, v279, v280, v281, v282, v283, v284, v285, v286, v287, v288, v289, v290, v291, v292, v293, v294, v295, v296, v297, v298, v299, v300, v301, v302, v303, v304, v305, v306, c307, c308, c309, c310, c311, c312, c313, c314, c315, c316, c317, c318, c319, c320, c321, c322, c323, c324, c325, c326, c327, c328, c329, c330, c331, c332, c333, c334, c335], []⟩ wr := by
  conv => arg 2; whnf
  have hkm : Hid (k < T.length) := Lib.hid (by rw [← hn.out]; exact hk)
  have HI : Hid (FInv lo T (k + 2)) := Lib.hid (hI.out.next hkm.out h34.out 2 (step_two h92.out (by rw [hq.out]; decide)))
  go_wp2
  refine ⟨_, (fun i => [.nilFunc, .nilFunc, .nilFunc, .nilFunc, .nilFunc, .nilFunc, .nilFunc, .nilFunc, .nilFunc, _, .nilFunc, .nilFunc, .nilFunc, .nilFunc, _, _, .nilFunc, _, _, _, _, .nilFunc, .nilFunc, .nilFunc, .nilFunc, .nilFunc, .nilFunc, .nilFunc, .nilFunc, .nilFunc, .nilFunc, .nilFunc, .nilFunc, .nilFunc, .nilFunc, .nilFunc, .nilFunc, .nilFunc, .nilFunc, .nilFunc, .nilFunc, .nilFunc, .nilFunc, .nilFunc, .nilFunc, .nilFunc, .nilFunc, .nilFunc, .nilFunc, .nilFunc, .nilFunc, .nilFunc, .nilFunc, .nilFunc, .nilFunc, .nilFunc, .nilFunc, .nilFunc, .nilFunc, .nilFunc, .nilFunc, .nilFunc, .nilFunc, .nilFunc, .nilFunc, .nilFunc, .nilFunc, .nilFunc, .nilFunc, .nilFunc, .nilFunc, .nilFunc, .nilFunc, .nilFunc, .nilFunc, .nilFunc, .nilFunc, .nilFunc, .nilFunc, .nilFunc, .nilFunc, .nilFunc, .nilFunc, .nilFunc, .nilFunc, .nilFunc, .nilFunc, .nilFunc, .nilFunc, .nilFunc, .nilFunc, .nilFunc, .nilFunc, .nilFunc, .nilFunc, .nilFunc, .nilFunc, .nilFunc, .nilFunc, .nilFunc, .nilFunc, .nilFunc, .nilFunc, .nilFunc, .nilFunc, .nilFunc, .nilFunc, .nilFunc, .nilFunc, .nilFunc, .nilFunc, .nilFunc, .nilFunc, .nilFunc, .nilFunc, .nilFunc, .nilFunc, _, _, _, _, _, _, _, _, _, _, _, _, _, _, _, _, _, _, _, _, _, _, _, _, _, _, _, _, _, _, _, _, _, _, _, _, _, _, _, _, _, _, _, _, _, _, _, _, _, _, _, _, _, _, _, _, _, _, _, _, _, _, _, _, _, _, _, _, _, _, _, _, _, _, _, _, _, _, _, _, _, _, _, _, _, _, _, _, _, _, _, _, _, _, _, _, _, _, _, _, _, _, _, _, _, _, _, _, _, _, _, _, _, _, _, _, _, _, _, _, _, _, _, _, _, _, _, _, _, _, _, _, _, _, _, _, _, _, _, _, _, _, _, _, _, _, _, _, _, _, _, _, _, _, _, _, _, _, _, _, _, _, _, _, _, _, _, _, _, _, _, _, _, _, _, _, _, _, _, _, _, _, _, _, _, _, _, _, _, _].getD i .nilFunc), ⟨k + 2, by omega, by go_num, HI, hF, hG⟩, rfl⟩
set_option maxRecDepth 1000000 in
set_option maxHeartbeats 8000000 in
theorem ftBad {K : Act → World → Prop} {Q' : Exit → Act → World → Prop} (w : World) (k V g n cap : Nat) (lo vb : Bool) (T : List UInt8) (E E2 : Addr) (wr : World) (_hvb : Hid (vb = !lo)) (hk : k < n) (hcp : n ≤ cap) (hnb : n ≤ 1000000) (hn : Hid (n = T.length)) (_hT : Hid (∀ w', w.grownBy w' (some V) → Tabs2 w' E E2)) (hB : Hid (∀ w', w.grownBy w' (some V) → g < w'.heap.size ∧ BytesAt w' g 0 T)) (hF : Hid (FV wr V true)) (hG : Hid (w.grownBy wr (some V))) (_hI : Hid (FInv lo T k)) (hk2 : k + 2 ≤ n) (_h92 : Hid (atL T k = 92)) (_h34 : Hid (¬ atL T k = 34)) (c : Nat) (q47 : ¬ c = 47) (q34 : ¬ c = 34) (q92 : ¬ c = 92) (q98 : ¬ c = 98) (q102 : ¬ c = 102) (q110 : ¬ c = 110) (q114 : ¬ c = 114) (q116 : ¬ c = 116) (q117 : ¬ c = 117)
    (_hK : ∀ a' w'', ftWE w k V lo T (.pointer (some ⟨V, 0, none⟩)) (.slice (some ⟨g, 0, none⟩) n cap) (.int .i64 (k : Int)) (.bool vb) c4 c5 c6 c7 c10 c11 c12 (.int .u8 c) c16 c21 c22 c23 c24 c25 c26 c27 c28 c29 c30 c31 c32 c33 c34 c35 c36 c37 c38 c39 c40 c41 c42 c43 c44 c45 c46 c47 c48 c49 c50 c51 c52 c53 c54 c55 c56 c57 c58 c59 c60 c61 c62 c63 c64 c65 c66 c67 c68 c69 c70 c71 c72 c73 c74 c75 c76 c77 c78 c79 c80 c81 c82 c83 c84 c85 c86 c87 c88 c89 c90 c91 c92 c93 c94 c95 c96 c97 c98 c99 c100 c101 c102 c103 c104 c105 c106 c107 c108 c109 c110 c111 c112 c113 c114 c115 (.int .u8 c) c307 c308 c309 c310 c311 c312 c313 c314 c315 c316 c317 c318 c319 c320 c321 c322 c323 c324 c325 c326 c327 c328 c329 c330 c331 c332 c333 c334 c335 a' w'' → K a' w'')
    (hR : ∀ a' w'', ftFE w V (.pointer (some ⟨V, 0, none⟩)) (.slice (some ⟨g, 0, none⟩) n cap) (.int .i64 (k : Int)) (.bool vb) c4 c5 c6 c7 c10 c11 c12 (.int .u8 c) c16 c21 c22 c23 c24 c25 c26 c27 c28 c29 c30 c31 c32 c33 c34 c35 c36 c37 c38 c39 c40 c41 c42 c43 c44 c45 c46 c47 c48 c49 c50 c51 c52 c53 c54 c55 c56 c57 c58 c59 c60 c61 c62 c63 c64 c65 c66 c67 c68 c69 c70 c71 c72 c73 c74 c75 c76 c77 c78 c79 c80 c81 c82 c83 c84 c85 c86 c87 c88 c89 c90 c91 c92 c93 c94 c95 c96 c97 c98 c99 c100 c101 c102 c103 c104 c105 c106 c107 c108 c109 c110 c111 c112 c113 c114 c115 (.int .u8 c) c307 c308 c309 c310 c311 c312 c313 c314 c315 c316 c317 c318 c319 c320 c321 c322 c323 c324 c325 c326 c327 c328 c329 c330 c331 c332 c333 c334 c335 a' w'' → Q' .ret a' w'') :
    Code.wp Tryd.prog ftBlk (Exit.then K Q') ⟨#[.pointer (some ⟨V, 0, none⟩), .slice (some ⟨g, 0, none⟩) n cap, .int .i64 (k : Int), .bool vb, c4, c5, c6, c7, .int .i64 (k : Int), v9, c10, c11, c12, .int .u8 c, v14, v15, c16, v17, v18, v19, v20, c21, c22, c23, c24, c25, c26, c27, c28, c29, c30, c31, c32, c33, c34, c35, c36, c37, c38, c39, c40, c41, c42, c43, c44, c45, c46, c47, c48, c49, c50, c51, c52, c53, c54, c55, c56, c57, c58, c59, c60, c61, c62, c63, c64, c65, c66, c67, c68, c69, c70, c71, c72, c73, c74, c75, c76, c77, c78, c79, c80, c81, c82, c83, c84, c85, c86, c87, c88, c89, c90, c91, c92, c93, c94, c95, c96, c97, c98, c99, c100, c101, c102, c103, c104, c105, c106, c107, c108, c109, c110, c111, c112, c113, c114, c115, .int .u8 c, v117, v118, v119, v120, v121, v122, v123, v124, v125, v126, v127, v128, v129, v130, v131, v132, v133, v134, v135, v136, v137, v138, v139, v140, v141, v142, v143, v144, v145, v146, v147, v148, v149, v150, v151, v152, v153, v154, v155, v156, v157, v158, v159, v160, v161, v162, v163, v164, v165, v166, v167, v168, v169, v170, v171, v172, v173, v174, v175, v176, v177, v178, v179, v180, v181, v182, v183, v184, v185, v186, v187, v188, v189, v190, v191, v192, v193, v194, v195, v196, v197, v198, v199, v200, v201, v202, v203, v204, v205, v206, v207, v208, v209, v210, v211, v212, v213, v214, v215, v216, v217, v218, v219, v220, v221, v222, v223, v224, v225, v226, v227, v228, v229, v230, v231, v232, v233, v234, v235, v236, v237, v238, v239, v240, v241, v242, v243, v244, v245, v246, v247, v248, v249, v250, v251, v252, v253, v254, v255, v256, v257, v258, v259, v260, v261, v262, v263, v264, v265, v266, v267, v268, v269, v270, v271, v272, v273, v274, v275, v276, v277, v278, v279, v280, v281, v282, v283, v284, v285, v286, v287, v288, v289, v290, v291, v292, v293, v294, v295, v296, v297, v298, v299, v300, v301, v302, v303, v304, v305, v306, c307, c308, c309, c310, c311, c312, c313, c314, c315, c316, c317, c318, c319, c320, c321, c322, c323, c324, c325, c326, c327, c328, c329, c330, c331, c332, c333, c334, c335], []⟩ wr := by
  conv => arg 2; whnf
  have hkm : Hid (k < T.length) := Lib.hid (by rw [← hn.out]; exact hk)
  have p47 : ((c : Int) == 47) = false := by simp; omega
  have p34 : ((c : Int) == 34) = false := by simp; omega
  have p92 : ((c : Int) == 92) = false := by simp; omega
  have p98 : ((c : Int) == 98) = false := by simp; omega
  have p102 : ((c : Int) == 102) = false := by simp; omega
  have p110 : ((c : Int) == 110) = false := by simp; omega
  have p114 : ((c : Int) == 114) = false := by simp; omega
  have p116 : ((c : Int) == 116) = false := by simp; omega
  have p117 : ((c : Int) == 117) = false := by simp; omega
  have HJ := Lib.hid (joinS V 2 true true (by decide) (fun _ q => q) wr hF.out)
  go_wp2_with fail
  refine HJ.out.mono ?_
  rintro e w3 ⟨rfl, hf3, hg3⟩
  have HF3 := Lib.hid hf3
  have HG3 := Lib.hid (grownV_trans hG.out hg3)
  clear hf3 hg3 HJ hF hG
  have HER : Hid (Calls Tryd.prog 71 #[.slice (some ⟨g, k, none⟩) (2) (cap - (k))] w3 (OwnErr w3)) := Lib.hid (by
    have h1 := newEscErr ((T.drop (k)).take (2)) g (k) (cap - (k)) w3 (bytes_sub (hB.out w3 HG3.out).2 _ _) (by rw [List.length_take, List.length_drop]; omega)
    rw [show ((T.drop (k)).take (2)).length = 2 by rw [List.length_take, List.length_drop, ← hn.out]; omega] at h1
    exact h1)
  go_wp2_with fail
  refine HER.out.mono ?_
  rintro e w4 ⟨⟨pe, rfl⟩, hb4⟩
  have HG4 := Lib.hid (grownV_below HG3.out hb4)
  clear hb4 HER
  go_wp2
  exact ⟨_, _, (fun i => [.nilFunc, .nilFunc, .nilFunc, .nilFunc, .nilFunc, .nilFunc, .nilFunc, .nilFunc, .nilFunc, .nilFunc, .nilFunc, .nilFunc, .nilFunc, .nilFunc, _, _, .nilFunc, _, _, _, _, .nilFunc, .nilFunc, .nilFunc, .nilFunc, .nilFunc, .nilFunc, .nilFunc, .nilFunc, .nilFunc, .nilFunc, .nilFunc, .nilFunc, .nilFunc, .nilFunc, .nilFunc, .nilFunc, .nilFunc, .nilFunc, .nilFunc, .nilFunc, .nilFunc, .nilFunc, .nilFunc, .nilFunc, .nilFunc, .nilFunc, .nilFunc, .nilFunc, .nilFunc, .nilFunc, .nilFunc, .nilFunc, .nilFunc, .nilFunc, .nilFunc, .nilFunc, .nilFunc, .nilFunc, .nilFunc, .nilFunc, .nilFunc, .nilFunc, .nilFunc, .nilFunc, .nilFunc, .nilFunc, .nilFunc, .nilFunc, .nilFunc, .nilFunc, .nilFunc, .nilFunc, .nilFunc, .nilFunc, .nilFunc, .nilFunc, .nilFunc, .nilFunc, .nilFunc, .nilFunc, .nilFunc, .nilFunc, .nilFunc, .nilFunc, .nilFunc, .nilFunc, .nilFunc, .nilFunc, .nilFunc, .nilFunc, .nilFunc, .nilFunc, .nilFunc, .nilFunc, .nilFunc, .nilFunc, .nilFunc, .nilFunc, .nilFunc, .nilFunc, .nilFunc, .nilFunc, .nilFunc, .nilFunc, .nilFunc, .nilFunc, .nilFunc, .nilFunc, .nilFunc, .nilFunc, .nilFunc, .nilFunc, .nilFunc, .nilFunc, .nilFunc, .nilFunc, _, _, _, _, _, _, _, _, _, _, _, _, _, _, _, _, _, _, _, _, _, _, _, _, _, _, _, _, _, _, _, _, _, _, _, _, _, _, _, _, _, _, _, _, _, _, _, _, _, _, _, _, _, _, _, _, _, _, _, _, _, _, _, _, _, _, _, _, _, _, _, _, _, _, _, _, _, _, _, _, _, _, _, _, _, _, _, _, _, _, _, _, _, _, _, _, _, _, _, _, _, _, _, _, _, _, _, _, _, _, _, _, _, _, _, _, _, _, _, _, _, _, _, _, _, _, _, _, _, _, _, _, _, _, _, _, _, _, _, _, _, _, _, _, _, _, _, _, _, _, _, _, _, _, _, _, _, _, _, _, _, _, _, _, _, _, _, _, _, _, _, _, _, _, _, _, _, _, _, _, _, _, _, _, _, _, _, _, _, _].getD i .nilFunc), ⟨⟨_, rfl⟩, ⟨_, _, rfl⟩, HG4⟩, rfl⟩
set_option maxRecDepth 1000000 in
set_option maxHeartbeats 16000000 in
theorem ftShort {K : Act → World → Prop} {Q' : Exit → Act → World → Prop} (w : World) (k V g n cap : Nat) (lo vb : Bool) (T : List UInt8) (E E2 : Addr) (wr : World) (_hvb : Hid (vb = !lo)) (hk : k < n) (hcp : n ≤ cap) (hnb : n ≤ 1000000) (hn : Hid (n = T.length)) (hT : Hid (∀ w', w.grownBy w' (some V) → Tabs2 w' E E2)) (hB : Hid (∀ w', w.grownBy w' (some V) → g < w'.heap.size ∧ BytesAt w' g 0 T)) (hF : Hid (FV wr V true)) (hG : Hid (w.grownBy wr (some V))) (_hI : Hid (FInv lo T k)) (hk2 : k + 2 ≤ n) (_h92 : Hid (atL T k = 92)) (_h34 : Hid (¬ atL T k = 34)) (_h1 : Hid (atL T (k + 1) = 117)) (h6 : n < k + 6)
    (_hK : ∀ a' w'', ftWE w k V lo T (.pointer (some ⟨V, 0, none⟩)) (.slice (some ⟨g, 0, none⟩) n cap) (.int .i64 (k : Int)) (.bool vb) c4 c5 c6 c7 c10 c11 c12 (.int .u8 117) c16 c21 c22 c23 c24 c25 c26 c27 c28 c29 c30 c31 c32 c33 c34 c35 c36 c37 c38 c39 c40 c41 c42 c43 c44 c45 c46 c47 c48 c49 c50 c51 c52 c53 c54 c55 c56 c57 c58 c59 c60 c61 c62 c63 c64 c65 c66 c67 c68 c69 c70 c71 c72 c73 c74 c75 c76 c77 c78 c79 c80 c81 c82 c83 c84 c85 c86 c87 c88 c89 c90 c91 c92 c93 c94 c95 c96 c97 c98 c99 c100 c101 c102 c103 c104 c105 c106 c107 c108 c109 c110 c111 c112 c113 c114 c115 (.int .u8 117) c307 c308 c309 c310 c311 c312 c313 c314 c315 c316 c317 c318 c319 c320 c321 c322 c323 c324 c325 c326 c327 c328 c329 c330 c331 c332 c333 c334 c335 a' w'' → K a' w'')
    (hR : ∀ a' w'', ftFE w V (.pointer (some ⟨V, 0, none⟩)) (.slice (some ⟨g, 0, none⟩) n cap) (.int .i64 (k : Int)) (.bool vb) c4 c5 c6 c7 c10 c11 c12 (.int .u8 117) c16 c21 c22 c23 c24 c25 c26 c27 c28 c29 c30 c31 c32 c33 c34 c35 c36 c37 c38 c39 c40 c41 c42 c43 c44 c45 c46 c47 c48 c49 c50 c51 c52 c53 c54 c55 c56 c57 c58 c59 c60 c61 c62 c63 c64 c65 c66 c67 c68 c69 c70 c71 c72 c73 c74 c75 c76 c77 c78 c79 c80 c81 c82 c83 c84 c85 c86 c87 c88 c89 c90 c91 c92 c93 c94 c95 c96 c97 c98 c99 c100 c101 c102 c103 c104 c105 c106 c107 c108 c109 c110 c111 c112 c113 c114 c115 (.int .u8 117) c307 c308 c309 c310 c311 c312 c313 c314 c315 c316 c317 c318 c319 c320 c321 c322 c323 c324 c325 c326 c327 c328 c329 c330 c331 c332 c333 c334 c335 a' w'' → Q' .ret a' w'') :
    Code.wp Tryd.prog ftBlk (Exit.then K Q') ⟨#[.pointer (some ⟨V, 0, none⟩), .slice (some ⟨g, 0, none⟩) n cap, .int .i64 (k : Int), .bool vb, c4, c5, c6, c7, .int .i64 (k : Int), v9, c10, c11, c12, .int .u8 117, v14, v15, c16, v17, v18, v19, v20, c21, c22, c23, c24, c25, c26, c27, c28, c29, c30, c31, c32, c33, c34, c35, c36, c37, c38, c39, c40, c41, c42, c43, c44, c45, c46, c47, c48, c49, c50, c51, c52, c53, c54, c55, c56, c57, c58, c59, c60, c61, c62, c63, c64, c65, c66, c67, c68, c69, c70, c71, c72, c73, c74, c75, c76, c77, c78, c79, c80, c81, c82, c83, c84, c85, c86, c87, c88, c89, c90, c91, c92, c93, c94, c95, c96, c97, c98, c99, c100, c101, c102, c103, c104, c105, c106, c107, c108, c109, c110, c111, c112, c113, c114, c115, .int .u8 117, v117, v118, v119, v120, v121, v122, v123, v124, v125, v126, v127, v128, v129, v130, v131, v132, v133, v134, v135, v136, v137, v138, v139, v140, v141, v142, v143, v144, v145, v146, v147, v148, v149, v150, v151, v152, v153, v154, v155, v156, v157, v158, v159, v160, v161, v162, v163, v164, v165, v166, v167, v168, v169, v170, v171, v172, v173, v174, v175, v176, v177, v178, v179, v180, v181, v182, v183, v184, v185, v186, v187, v188, v189, v190, v191, v192, v193, v194, v195, v196, v197, v198, v199, v200, v201, v202, v203, v204, v205, v206, v207, v208, v209, v210, v211, v212, v213, v214, v215, v216, v217, v218, v219, v220, v221, v222, v223, v224, v225, v226, v227, v228, v229, v230, v231, v232, v233, v234, v235, v236, v237, v238, v239, v240, v241, v242, v243, v244, v245, v246, v247, v248, v249, v250, v251, v252, v253, v254, v255, v256, v257, v258, v259, v260, v261, v262, v263, v264, v265, v266, v267, v268, v269, v270, v271, v272, v273, v274, v275, v276, v277, v278, v279, v280, v281, v282, v283, v284, v285, v286, v287, v288, v289, v290, v291, v292, v293, v294, v295, v296, v297, v298, v299, v300, v301, v302, v303, v304, v305, v306, c307, c308, c309, c310, c311, c312, c313, c314, c315, c316, c317, c318, c319, c320, c321, c322, c323, c324, c325, c326, c327, c328, c329, c330, c331, c332, c333, c334, c335], []⟩ wr := by
  conv => arg 2; whnf
  have hkm : Hid (k < T.length) := Lib.hid (by rw [← hn.out]; exact hk)
  have HP : Hid (Calls Tryd.prog 70 #[.slice (some ⟨g, k, none⟩) (n - k) (cap - k), .bool false] wr (SomeBool wr)) := Lib.hid (by
    have h2 := anyPrefix (T.drop k) g k (cap - k) false wr (bytes_dropF (hB.out wr hG.out).2 k) (by rw [List.length_drop, ← hn.out]; omega) (by rw [List.length_drop, ← hn.out]; omega)
    rw [List.length_drop, ← hn.out] at h2
    exact h2)
  go_wp2_with fail
  refine HP.out.mono ?_
  rintro e w2 ⟨r, rfl, rfl⟩
  cases r
  · have HJ := Lib.hid (joinS V 2 true true (by decide) (fun _ q => q) _ hF.out)
    go_wp2_with fail
    refine HJ.out.mono ?_
    rintro e w3 ⟨rfl, hf3, hg3⟩
    have HF3 := Lib.hid hf3
    have HG3 := Lib.hid (grownV_trans hG.out hg3)
    clear hf3 hg3 HJ hF hG
    have HER : Hid (Calls Tryd.prog 71 #[.slice (some ⟨g, k, none⟩) (n - k) (cap - (k))] w3 (OwnErr w3)) := Lib.hid (by
      have h1 := newEscErr ((T.drop (k)).take (n - k)) g (k) (cap - (k)) w3 (bytes_sub (hB.out w3 HG3.out).2 _ _) (by rw [List.length_take, List.length_drop]; omega)
      rw [show ((T.drop (k)).take (n - k)).length = n - k by rw [List.length_take, List.length_drop, ← hn.out]; omega] at h1
      exact h1)
    go_wp2_with fail
    refine HER.out.mono ?_
    rintro e w4 ⟨⟨pe, rfl⟩, hb4⟩
    have HG4 := Lib.hid (grownV_below HG3.out hb4)
    clear hb4 HER
    go_wp2
    exact ⟨_, _, (fun i => [.nilFunc, .nilFunc, .nilFunc, .nilFunc, .nilFunc, .nilFunc, .nilFunc, .nilFunc, .nilFunc, .nilFunc, .nilFunc, .nilFunc, .nilFunc, .nilFunc, _, _, .nilFunc, _, _, _, _, .nilFunc, .nilFunc, .nilFunc, .nilFunc, .nilFunc, .nilFunc, .nilFunc, .nilFunc, .nilFunc, .nilFunc, .nilFunc, .nilFunc, .nilFunc, .nilFunc, .nilFunc, .nilFunc, .nilFunc, .nilFunc, .nilFunc, .nilFunc, .nilFunc, .nilFunc, .nilFunc, .nilFunc, .nilFunc, .nilFunc, .nilFunc, .nilFunc, .nilFunc, .nilFunc, .nilFunc, .nilFunc, .nilFunc, .nilFunc, .nilFunc, .nilFunc, .nilFunc, .nilFunc, .nilFunc, .nilFunc, .nilFunc, .nilFunc, .nilFunc, .nilFunc, .nilFunc, .nilFunc, .nilFunc, .nilFunc, .nilFunc, .nilFunc, .nilFunc, .nilFunc, .nilFunc, .nilFunc, .nilFunc, .nilFunc, .nilFunc, .nilFunc, .nilFunc, .nilFunc, .nilFunc, .nilFunc, .nilFunc, .nilFunc, .nilFunc, .nilFunc, .nilFunc, .nilFunc, .nilFunc, .nilFunc, .nilFunc, .nilFunc, .nilFunc, .nilFunc, .nilFunc, .nilFunc, .nilFunc, .nilFunc, .nilFunc, .nilFunc, .nilFunc, .nilFunc, .nilFunc, .nilFunc, .nilFunc, .nilFunc, .nilFunc, .nilFunc, .nilFunc, .nilFunc, .nilFunc, .nilFunc, .nilFunc, .nilFunc, .nilFunc, .nilFunc, _, _, _, _, _, _, _, _, _, _, _, _, _, _, _, _, _, _, _, _, _, _, _, _, _, _, _, _, _, _, _, _, _, _, _, _, _, _, _, _, _, _, _, _, _, _, _, _, _, _, _, _, _, _, _, _, _, _, _, _, _, _, _, _, _, _, _, _, _, _, _, _, _, _, _, _, _, _, _, _, _, _, _, _, _, _, _, _, _, _, _, _, _, _, _, _, _, _, _, _, _, _, _, _, _, _, _, _, _, _, _, _, _, _, _, _, _, _, _, _, _, _, _, _, _, _, _, _, _, _, _, _, _, _, _, _, _, _, _, _, _, _, _, _, _, _, _, _, _, _, _, _, _, _, _, _, _, _, _, _, _, _, _, _, _, _, _, _, _, _, _, _, _, _, _, _, _, _, _, _, _, _, _, _, _, _, _, _, _, _].getD i .nilFunc), ⟨⟨_, rfl⟩, ⟨_, _, rfl⟩, HG4⟩, rfl⟩
  · have ce := (hT.out w2 hG.out).eof
    have HGD : Hid (∀ m, w.grownBy (World.drewN w2 m) (some V)) := Lib.hid fun m => grownV_below hG.out (Below.drewF (Below.refl _ _) _)
    go_wp2_with fail
    go_quiet (fail)
    go_wp2
    exact ⟨_, _, (fun i => [.nilFunc, .nilFunc, .nilFunc, .nilFunc, .nilFunc, .nilFunc, .nilFunc, .nilFunc, .nilFunc, .nilFunc, .nilFunc, .nilFunc, .nilFunc, .nilFunc, _, _, .nilFunc, _, _, _, _, .nilFunc, .nilFunc, .nilFunc, .nilFunc, .nilFunc, .nilFunc, .nilFunc, .nilFunc, .nilFunc, .nilFunc, .nilFunc, .nilFunc, .nilFunc, .nilFunc, .nilFunc, .nilFunc, .nilFunc, .nilFunc, .nilFunc, .nilFunc, .nilFunc, .nilFunc, .nilFunc, .nilFunc, .nilFunc, .nilFunc, .nilFunc, .nilFunc, .nilFunc, .nilFunc, .nilFunc, .nilFunc, .nilFunc, .nilFunc, .nilFunc, .nilFunc, .nilFunc, .nilFunc, .nilFunc, .nilFunc, .nilFunc, .nilFunc, .nilFunc, .nilFunc, .nilFunc, .nilFunc, .nilFunc, .nilFunc, .nilFunc, .nilFunc, .nilFunc, .nilFunc, .nilFunc, .nilFunc, .nilFunc, .nilFunc, .nilFunc, .nilFunc, .nilFunc, .nilFunc, .nilFunc, .nilFunc, .nilFunc, .nilFunc, .nilFunc, .nilFunc, .nilFunc, .nilFunc, .nilFunc, .nilFunc, .nilFunc, .nilFunc, .nilFunc, .nilFunc, .nilFunc, .nilFunc, .nilFunc, .nilFunc, .nilFunc, .nilFunc, .nilFunc, .nilFunc, .nilFunc, .nilFunc, .nilFunc, .nilFunc, .nilFunc, .nilFunc, .nilFunc, .nilFunc, .nilFunc, .nilFunc, .nilFunc, .nilFunc, .nilFunc, .nilFunc, _, _, _, _, _, _, _, _, _, _, _, _, _, _, _, _, _, _, _, _, _, _, _, _, _, _, _, _, _, _, _, _, _, _, _, _, _, _, _, _, _, _, _, _, _, _, _, _, _, _, _, _, _, _, _, _, _, _, _, _, _, _, _, _, _, _, _, _, _, _, _, _, _, _, _, _, _, _, _, _, _, _, _, _, _, _, _, _, _, _, _, _, _, _, _, _, _, _, _, _, _, _, _, _, _, _, _, _, _, _, _, _, _, _, _, _, _, _, _, _, _, _, _, _, _, _, _, _, _, _, _, _, _, _, _, _, _, _, _, _, _, _, _, _, _, _, _, _, _, _, _, _, _, _, _, _, _, _, _, _, _, _, _, _, _, _, _, _, _, _, _, _, _, _, _, _, _, _, _, _, _, _, _, _, _, _, _, _, _, _].getD i .nilFunc), ⟨⟨_, rfl⟩, ⟨_, _, rfl⟩, Lib.hid (HGD.out _)⟩, rfl⟩
set_option maxRecDepth 1000000 in
set_option maxHeartbeats 16000000 in
theorem ftNoHex {K : Act → World → Prop} {Q' : Exit → Act → World → Prop} (w : World) (k V g n cap : Nat) (lo vb : Bool) (T : List UInt8) (E E2 : Addr) (wr : World) (_hvb : Hid (vb = !lo)) (hk : k < n) (hcp : n ≤ cap) (hnb : n ≤ 1000000) (hn : Hid (n = T.length)) (_hT : Hid (∀ w', w.grownBy w' (some V) → Tabs2 w' E E2)) (hB : Hid (∀ w', w.grownBy w' (some V) → g < w'.heap.size ∧ BytesAt w' g 0 T)) (hF : Hid (FV wr V true)) (hG : Hid (w.grownBy wr (some V))) (_hI : Hid (FInv lo T k)) (_hk2 : k + 2 ≤ n) (_h92 : Hid (atL T k = 92)) (_h34 : Hid (¬ atL T k = 34)) (_h1 : Hid (atL T (k + 1) = 117)) (h6 : k + 6 ≤ n) (hh : ¬ hexOk (T.drop k))
    (_hK : ∀ a' w'', ftWE w k V lo T (.pointer (some ⟨V, 0, none⟩)) (.slice (some ⟨g, 0, none⟩) n cap) (.int .i64 (k : Int)) (.bool vb) c4 c5 c6 c7 c10 c11 c12 (.int .u8 117) c16 c21 c22 c23 c24 c25 c26 c27 c28 c29 c30 c31 c32 c33 c34 c35 c36 c37 c38 c39 c40 c41 c42 c43 c44 c45 c46 c47 c48 c49 c50 c51 c52 c53 c54 c55 c56 c57 c58 c59 c60 c61 c62 c63 c64 c65 c66 c67 c68 c69 c70 c71 c72 c73 c74 c75 c76 c77 c78 c79 c80 c81 c82 c83 c84 c85 c86 c87 c88 c89 c90 c91 c92 c93 c94 c95 c96 c97 c98 c99 c100 c101 c102 c103 c104 c105 c106 c107 c108 c109 c110 c111 c112 c113 c114 c115 (.int .u8 117) c307 c308 c309 c310 c311 c312 c313 c314 c315 c316 c317 c318 c319 c320 c321 c322 c323 c324 c325 c326 c327 c328 c329 c330 c331 c332 c333 c334 c335 a' w'' → K a' w'')
    (hR : ∀ a' w'', ftFE w V (.pointer (some ⟨V, 0, none⟩)) (.slice (some ⟨g, 0, none⟩) n cap) (.int .i64 (k : Int)) (.bool vb) c4 c5 c6 c7 c10 c11 c12 (.int .u8 117) c16 c21 c22 c23 c24 c25 c26 c27 c28 c29 c30 c31 c32 c33 c34 c35 c36 c37 c38 c39 c40 c41 c42 c43 c44 c45 c46 c47 c48 c49 c50 c51 c52 c53 c54 c55 c56 c57 c58 c59 c60 c61 c62 c63 c64 c65 c66 c67 c68 c69 c70 c71 c72 c73 c74 c75 c76 c77 c78 c79 c80 c81 c82 c83 c84 c85 c86 c87 c88 c89 c90 c91 c92 c93 c94 c95 c96 c97 c98 c99 c100 c101 c102 c103 c104 c105 c106 c107 c108 c109 c110 c111 c112 c113 c114 c115 (.int .u8 117) c307 c308 c309 c310 c311 c312 c313 c314 c315 c316 c317 c318 c319 c320 c321 c322 c323 c324 c325 c326 c327 c328 c329 c330 c331 c332 c333 c334 c335 a' w'' → Q' .ret a' w'') :
    Code.wp Tryd.prog ftBlk (Exit.then K Q') ⟨#[.pointer (some ⟨V, 0, none⟩), .slice (some ⟨g, 0, none⟩) n cap, .int .i64 (k : Int), .bool vb, c4, c5, c6, c7, .int .i64 (k : Int), v9, c10, c11, c12, .int .u8 117, v14, v15, c16, v17, v18, v19, v20, c21, c22, c23, c24, c25, c26, c27, c28, c29, c30, c31, c32, c33, c34, c35, c36, c37, c38, c39, c40, c41, c42, c43, c44, c45, c46, c47, c48, c49, c50, c51, c52, c53, c54, c55, c56, c57, c58, c59, c60, c61, c62, c63, c64, c65, c66, c67, c68, c69, c70, c71, c72, c73, c74, c75, c76, c77, c78, c79, c80, c81, c82, c83, c84, c85, c86, c87, c88, c89, c90, c91, c92, c93, c94, c95, c96, c97, c98, c99, c100, c101, c102, c103, c104, c105, c106, c107, c108, c109, c110, c111, c112, c113, c114, c115, .int .u8 117, v117, v118, v119, v120, v121, v122, v123, v124, v125, v126, v127, v128, v129, v130, v131, v132, v133, v134, v135, v136, v137, v138, v139, v140, v141, v142, v143, v144, v145, v146, v147, v148, v149, v150, v151, v152, v153, v154, v155, v156, v157, v158, v159, v160, v161, v162, v163, v164, v165, v166, v167, v168, v169, v170, v171, v172, v173, v174, v175, v176, v177, v178, v179, v180, v181, v182, v183, v184, v185, v186, v187, v188, v189, v190, v191, v192, v193, v194, v195, v196, v197, v198, v199, v200, v201, v202, v203, v204, v205, v206, v207, v208, v209, v210, v211, v212, v213, v214, v215, v216, v217, v218, v219, v220, v221, v222, v223, v224, v225, v226, v227, v228, v229, v230, v231, v232, v233, v234, v235, v236, v237, v238, v239, v240, v241, v242, v243, v244, v245, v246, v247, v248, v249, v250, v251, v252, v253, v254, v255, v256, v257, v258, v259, v260, v261, v262, v263, v264, v265, v266, v267, v268, v269, v270, v271, v272, v273, v274, v275, v276, v277, v278, v279, v280, v281, v282, v283, v284, v285, v286, v287, v288, v289, v290, v291, v292, v293, v294, v295, v296, v297, v298, v299, v300, v301, v302, v303, v304, v305, v306, c307, c308, c309, c310, c311, c312, c313, c314, c315, c316, c317, c318, c319, c320, c321, c322, c323, c324, c325, c326, c327, c328, c329, c330, c331, c332, c333, c334, c335], []⟩ wr := by
  conv => arg 2; whnf
  have hkm : Hid (k < T.length) := Lib.hid (by rw [← hn.out]; exact hk)
  have H4 : Hid (∀ w', w.grownBy w' (some V) → ∀ j, j < 4 → w'.cell? ⟨g, k + 2 + j, none⟩ = some (.int .u8 (atL (T.drop k) (2 + j)))) := Lib.hid fun w' hw j hj => by
    have h2 := (hB.out w' hw).2 (k + 2 + j) (by rw [← hn.out]; omega)
    rw [Nat.zero_add] at h2
    rw [h2, atLd, show k + (2 + j) = k + 2 + j by omega]
  have HPX := parseHex (T.drop k) g (k + 2) (cap - (k + 2)) wr (H4.out wr hG.out)
  have hcx1 : ¬ cap = k + 2 := by omega
  have HP1 : Hid (Calls Tryd.prog 72 #[.slice (some ⟨g, k + 2, none⟩) 4 (cap - (k + 2))] wr fun e w' => e = .returned (.tuple #[.int .u16 0, .bool false]) ∧ w' = wr) := Lib.hid (HPX.mono fun e w' ⟨a, b⟩ => by
    rcases a with ⟨a, _⟩ | ⟨_, a⟩
    · exact absurd a hh
    · exact ⟨a, b⟩)
  clear HPX hh
  go_wp2_with fail
  refine HP1.out.mono ?_
  rintro e1 w2 ⟨rfl, rfl⟩
  clear HP1
  have HJ := Lib.hid (joinS V 2 true true (by decide) (fun _ q => q) _ hF.out)
  go_wp2_with fail
  refine HJ.out.mono ?_
  rintro e w3 ⟨rfl, hf3, hg3⟩
  have HF3 := Lib.hid hf3
  have HG3 := Lib.hid (grownV_trans hG.out hg3)
  clear hf3 hg3 HJ hF hG
  have HER : Hid (Calls Tryd.prog 71 #[.slice (some ⟨g, k, none⟩) (6) (cap - (k))] w3 (OwnErr w3)) := Lib.hid (by
    have h1 := newEscErr ((T.drop (k)).take (6)) g (k) (cap - (k)) w3 (bytes_sub (hB.out w3 HG3.out).2 _ _) (by rw [List.length_take, List.length_drop]; omega)
    rw [show ((T.drop (k)).take (6)).length = 6 by rw [List.length_take, List.length_drop, ← hn.out]; omega] at h1
    exact h1)
  go_wp2_with fail
  refine HER.out.mono ?_
  rintro e w4 ⟨⟨pe, rfl⟩, hb4⟩
  have HG4 := Lib.hid (grownV_below HG3.out hb4)
  clear hb4 HER
  go_wp2
  exact ⟨_, _, (fun i => [.nilFunc, .nilFunc, .nilFunc, .nilFunc, .nilFunc, .nilFunc, .nilFunc, .nilFunc, .nilFunc, .nilFunc, .nilFunc, .nilFunc, .nilFunc, .nilFunc, _, _, .nilFunc, _, _, _, _, .nilFunc, .nilFunc, .nilFunc, .nilFunc, .nilFunc, .nilFunc, .nilFunc, .nilFunc, .nilFunc, .nilFunc, .nilFunc, .nilFunc, .nilFunc, .nilFunc, .nilFunc, .nilFunc, .nilFunc, .nilFunc, .nilFunc, .nilFunc, .nilFunc, .nilFunc, .nilFunc, .nilFunc, .nilFunc, .nilFunc, .nilFunc, .nilFunc, .nilFunc, .nilFunc, .nilFunc, .nilFunc, .nilFunc, .nilFunc, .nilFunc, .nilFunc, .nilFunc, .nilFunc, .nilFunc, .nilFunc, .nilFunc, .nilFunc, .nilFunc, .nilFunc, .nilFunc, .nilFunc, .nilFunc, .nilFunc, .nilFunc, .nilFunc, .nilFunc, .nilFunc, .nilFunc, .nilFunc, .nilFunc, .nilFunc, .nilFunc, .nilFunc, .nilFunc, .nilFunc, .nilFunc, .nilFunc, .nilFunc, .nilFunc, .nilFunc, .nilFunc, .nilFunc, .nilFunc, .nilFunc, .nilFunc, .nilFunc, .nilFunc, .nilFunc, .nilFunc, .nilFunc, .nilFunc, .nilFunc, .nilFunc, .nilFunc, .nilFunc, .nilFunc, .nilFunc, .nilFunc, .nilFunc, .nilFunc, .nilFunc, .nilFunc, .nilFunc, .nilFunc, .nilFunc, .nilFunc, .nilFunc, .nilFunc, .nilFunc, .nilFunc, .nilFunc, _, _, _, _, _, _, _, _, _, _, _, _, _, _, _, _, _, _, _, _, _, _, _, _, _, _, _, _, _, _, _, _, _, _, _, _, _, _, _, _, _, _, _, _, _, _, _, _, _, _, _, _, _, _, _, _, _, _, _, _, _, _, _, _, _, _, _, _, _, _, _, _, _, _, _, _, _, _, _, _, _, _, _, _, _, _, _, _, _, _, _, _, _, _, _, _, _, _, _, _, _, _, _, _, _, _, _, _, _, _, _, _, _, _, _, _, _, _, _, _, _, _, _, _, _, _, _, _, _, _, _, _, _, _, _, _, _, _, _, _, _, _, _, _, _, _, _, _, _, _, _, _, _, _, _, _, _, _, _, _, _, _, _, _, _, _, _, _, _, _, _, _, _, _, _, _, _, _, _, _, _, _, _, _, _, _, _, _, _, _].getD i .nilFunc), ⟨⟨_, rfl⟩, ⟨_, _, rfl⟩, HG4⟩, rfl⟩
set_option maxRecDepth 1000000 in
set_option maxHeartbeats 16000000 in
theorem ftLoose {K : Act → World → Prop} {Q' : Exit → Act → World → Prop} (w : World) (k V g n cap : Nat) (lo vb : Bool) (T : List UInt8) (E E2 : Addr) (wr : World) (hvb : Hid (vb = !lo)) (hk : k < n) (hcp : n ≤ cap) (hnb : n ≤ 1000000) (hn : Hid (n = T.length)) (_hT : Hid (∀ w', w.grownBy w' (some V) → Tabs2 w' E E2)) (hB : Hid (∀ w', w.grownBy w' (some V) → g < w'.heap.size ∧ BytesAt w' g 0 T)) (hF : Hid (FV wr V true)) (hG : Hid (w.grownBy wr (some V))) (hI : Hid (FInv lo T k)) (_hk2 : k + 2 ≤ n) (h92 : Hid (atL T k = 92)) (h34 : Hid (¬ atL T k = 34)) (h1 : Hid (atL T (k + 1) = 117)) (h6 : k + 6 ≤ n) (hh : hexOk (T.drop k)) (hlo : lo = true)
    (hK : ∀ a' w'', ftWE w k V lo T (.pointer (some ⟨V, 0, none⟩)) (.slice (some ⟨g, 0, none⟩) n cap) (.int .i64 (k : Int)) (.bool vb) c4 c5 c6 c7 c10 c11 c12 (.int .u8 117) c16 c21 c22 c23 c24 c25 c26 c27 c28 c29 c30 c31 c32 c33 c34 c35 c36 c37 c38 c39 c40 c41 c42 c43 c44 c45 c46 c47 c48 c49 c50 c51 c52 c53 c54 c55 c56 c57 c58 c59 c60 c61 c62 c63 c64 c65 c66 c67 c68 c69 c70 c71 c72 c73 c74 c75 c76 c77 c78 c79 c80 c81 c82 c83 c84 c85 c86 c87 c88 c89 c90 c91 c92 c93 c94 c95 c96 c97 c98 c99 c100 c101 c102 c103 c104 c105 c106 c107 c108 c109 c110 c111 c112 c113 c114 c115 (.int .u8 117) c307 c308 c309 c310 c311 c312 c313 c314 c315 c316 c317 c318 c319 c320 c321 c322 c323 c324 c325 c326 c327 c328 c329 c330 c331 c332 c333 c334 c335 a' w'' → K a' w'')
    (hR : ∀ a' w'', ftFE w V (.pointer (some ⟨V, 0, none⟩)) (.slice (some ⟨g, 0, none⟩) n cap) (.int .i64 (k : Int)) (.bool vb) c4 c5 c6 c7 c10 c11 c12 (.int .u8 117) c16 c21 c22 c23 c24 c25 c26 c27 c28 c29 c30 c31 c32 c33 c34 c35 c36 c37 c38 c39 c40 c41 c42 c43 c44 c45 c46 c47 c48 c49 c50 c51 c52 c53 c54 c55 c56 c57 c58 c59 c60 c61 c62 c63 c64 c65 c66 c67 c68 c69 c70 c71 c72 c73 c74 c75 c76 c77 c78 c79 c80 c81 c82 c83 c84 c85 c86 c87 c88 c89 c90 c91 c92 c93 c94 c95 c96 c97 c98 c99 c100 c101 c102 c103 c104 c105 c106 c107 c108 c109 c110 c111 c112 c113 c114 c115 (.int .u8 117) c307 c308 c309 c310 c311 c312 c313 c314 c315 c316 c317 c318 c319 c320 c321 c322 c323 c324 c325 c326 c327 c328 c329 c330 c331 c332 c333 c334 c335 a' w'' → Q' .ret a' w'') :
    Code.wp Tryd.prog ftBlk (Exit.then K Q') ⟨#[.pointer (some ⟨V, 0, none⟩), .slice (some ⟨g, 0, none⟩) n cap, .int .i64 (k : Int), .bool vb, c4, c5, c6, c7, .int .i64 (k : Int), v9, c10, c11, c12, .int .u8 117, v14, v15, c16, v17, v18, v19, v20, c21, c22, c23, c24, c25, c26, c27, c28, c29, c30, c31, c32, c33, c34, c35, c36, c37, c38, c39, c40, c41, c42, c43, c44, c45, c46, c47, c48, c49, c50, c51, c52, c53, c54, c55, c56, c57, c58, c59, c60, c61, c62, c63, c64, c65, c66, c67, c68, c69, c70, c71, c72, c73, c74, c75, c76, c77, c78, c79, c80, c81, c82, c83, c84, c85, c86, c87, c88, c89, c90, c91, c92, c93, c94, c95, c96, c97, c98, c99, c100, c101, c102, c103, c104, c105, c106, c107, c108, c109, c110, c111, c112, c113, c114, c115, .int .u8 117, v117, v118, v119, v120, v121, v122, v123, v124, v125, v126, v127, v128, v129, v130, v131, v132, v133, v134, v135, v136, v137, v138, v139, v140, v141, v142, v143, v144, v145, v146, v147, v148, v149, v150, v151, v152, v153, v154, v155, v156, v157, v158, v159, v160, v161, v162, v163, v164, v165, v166, v167, v168, v169, v170, v171, v172, v173, v174, v175, v176, v177, v178, v179, v180, v181, v182, v183, v184, v185, v186, v187, v188, v189, v190, v191, v192, v193, v194, v195, v196, v197, v198, v199, v200, v201, v202, v203, v204, v205, v206, v207, v208, v209, v210, v211, v212, v213, v214, v215, v216, v217, v218, v219, v220, v221, v222, v223, v224, v225, v226, v227, v228, v229, v230, v231, v232, v233, v234, v235, v236, v237, v238, v239, v240, v241, v242, v243, v244, v245, v246, v247, v248, v249, v250, v251, v252, v253, v254, v255, v256, v257, v258, v259, v260, v261, v262, v263, v264, v265, v266, v267, v268, v269, v270, v271, v272, v273, v274, v275, v276, v277, v278, v279, v280, v281, v282, v283, v284, v285, v286, v287, v288, v289, v290, v291, v292, v293, v294, v295, v296, v297, v298, v299, v300, v301, v302, v303, v304, v305, v306, c307, c308, c309, c310, c311, c312, c313, c314, c315, c316, c317, c318, c319, c320, c321, c322, c323, c324, c325, c326, c327, c328, c329, c330, c331, c332, c333, c334, c335], []⟩ wr := by
  conv => arg 2; whnf
  have hkm : Hid (k < T.length) := Lib.hid (by rw [← hn.out]; exact hk)
  have H4 : Hid (∀ w', w.grownBy w' (some V) → ∀ j, j < 4 → w'.cell? ⟨g, k + 2 + j, none⟩ = some (.int .u8 (atL (T.drop k) (2 + j)))) := Lib.hid fun w' hw j hj => by
    have h2 := (hB.out w' hw).2 (k + 2 + j) (by rw [← hn.out]; omega)
    rw [Nat.zero_add] at h2
    rw [h2, atLd, show k + (2 + j) = k + 2 + j by omega]
  have HPX := parseHex (T.drop k) g (k + 2) (cap - (k + 2)) wr (H4.out wr hG.out)
  have hcx1 : ¬ cap = k + 2 := by omega
  have HP1 : Hid (Calls Tryd.prog 72 #[.slice (some ⟨g, k + 2, none⟩) 4 (cap - (k + 2))] wr fun e w' => e = .returned (.tuple #[.int .u16 (hexV (T.drop k)), .bool true]) ∧ w' = wr) := Lib.hid (HPX.mono fun e w' ⟨a, b⟩ => by
    rcases a with ⟨_, a⟩ | ⟨a, _⟩
    · exact ⟨a, b⟩
    · exact absurd hh a)
  have huv : Hid (uV (T.drop k) = hexV (T.drop k)) := Lib.hid (by
    unfold uV
    rw [if_pos ⟨by rw [List.length_drop, ← hn.out]; omega, by rw [atLd]; exact h92.out, by rw [atLd]; exact h1.out, hh⟩])
  have hr1 := hexV_range (T.drop k) hh
  have hIS : ∀ W, Calls Tryd.prog 73 #[.int .i32 (hexV (T.drop k))] W fun e w' => e = .returned (.bool (decide (halfU (hexV (T.drop k))))) ∧ w' = W := fun W => isSurr (hexV (T.drop k)) _ rfl W
  clear HPX
  have HI : Hid (FInv lo T (k + 6)) := Lib.hid (hI.out.next hkm.out h34.out 6 (step_u h92.out h1.out (by rw [← hn.out]; exact h6) hh (Or.inl hlo)))
  have hvf : vb = false := by rw [hvb.out, hlo]; rfl
  subst hvf
  go_wp2_with fail
  refine HP1.out.mono ?_
  rintro e1 w2 ⟨rfl, rfl⟩
  go_upto_block 7 with fail
  refine cuAll w k V g n cap true T (hexV (T.drop k)) w2 (by omega) hcp hnb huv H4 hF hG hr1.1 hr1.2 ?_
  intro a' w'' hinv
  obtain ⟨u210, u, hinv⟩ := hinv
  obtain ⟨⟨cn1, hC1, hF1', hG1⟩, ha⟩ := hinv
  subst ha
  have hF1 : Hid (FV w'' V true) := Lib.hid hF1'.out.weak
  clear HP1 hF hG hC1 hF1'
  clear hIS
  go_wp2
  refine ⟨_, (fun i => [.nilFunc, .nilFunc, .nilFunc, .nilFunc, .nilFunc, .nilFunc, .nilFunc, .nilFunc, .nilFunc, _, .nilFunc, .nilFunc, .nilFunc, .nilFunc, _, _, .nilFunc, _, _, _, _, .nilFunc, .nilFunc, .nilFunc, .nilFunc, .nilFunc, .nilFunc, .nilFunc, .nilFunc, .nilFunc, .nilFunc, .nilFunc, .nilFunc, .nilFunc, .nilFunc, .nilFunc, .nilFunc, .nilFunc, .nilFunc, .nilFunc, .nilFunc, .nilFunc, .nilFunc, .nilFunc, .nilFunc, .nilFunc, .nilFunc, .nilFunc, .nilFunc, .nilFunc, .nilFunc, .nilFunc, .nilFunc, .nilFunc, .nilFunc, .nilFunc, .nilFunc, .nilFunc, .nilFunc, .nilFunc, .nilFunc, .nilFunc, .nilFunc, .nilFunc, .nilFunc, .nilFunc, .nilFunc, .nilFunc, .nilFunc, .nilFunc, .nilFunc, .nilFunc, .nilFunc, .nilFunc, .nilFunc, .nilFunc, .nilFunc, .nilFunc, .nilFunc, .nilFunc, .nilFunc, .nilFunc, .nilFunc, .nilFunc, .nilFunc, .nilFunc, .nilFunc, .nilFunc, .nilFunc, .nilFunc, .nilFunc, .nilFunc, .nilFunc, .nilFunc, .nilFunc, .nilFunc, .nilFunc, .nilFunc, .nilFunc, .nilFunc, .nilFunc, .nilFunc, .nilFunc, .nilFunc, .nilFunc, .nilFunc, .nilFunc, .nilFunc, .nilFunc, .nilFunc, .nilFunc, .nilFunc, .nilFunc, .nilFunc, .nilFunc, .nilFunc, .nilFunc, _, _, _, _, _, _, _, _, _, _, _, _, _, _, _, _, _, _, _, _, _, _, _, _, _, _, _, _, _, _, _, _, _, _, _, _, _, _, _, _, _, _, _, _, _, _, _, _, _, _, _, _, _, _, _, _, _, _, _, _, _, _, _, _, _, _, _, _, _, _, _, _, _, _, _, _, _, _, _, _, _, _, _, _, _, _, _, _, _, _, _, _, _, _, _, _, _, _, _, _, _, _, _, _, _, _, _, _, _, _, _, _, _, _, _, _, _, _, _, _, _, _, _, _, _, _, _, _, _, _, _, _, _, _, _, _, _, _, _, _, _, _, _, _, _, _, _, _, _, _, _, _, _, _, _, _, _, _, _, _, _, _, _, _, _, _, _, _, _, _, _, _, _, _, _, _, _, _, _, _, _, _, _, _, _, _, _, _, _, _].getD i .nilFunc), ⟨k + 6, by omega, by go_num, HI, hF1, hG1⟩, rfl⟩
set_option maxRecDepth 1000000 in
set_option maxHeartbeats 16000000 in
theorem ftNoHalf {K : Act → World → Prop} {Q' : Exit → Act → World → Prop} (w : World) (k V g n cap : Nat) (lo vb : Bool) (T : List UInt8) (E E2 : Addr) (wr : World) (hvb : Hid (vb = !lo)) (hk : k < n) (hcp : n ≤ cap) (hnb : n ≤ 1000000) (hn : Hid (n = T.length)) (_hT : Hid (∀ w', w.grownBy w' (some V) → Tabs2 w' E E2)) (hB : Hid (∀ w', w.grownBy w' (some V) → g < w'.heap.size ∧ BytesAt w' g 0 T)) (hF : Hid (FV wr V true)) (hG : Hid (w.grownBy wr (some V))) (hI : Hid (FInv lo T k)) (_hk2 : k + 2 ≤ n) (h92 : Hid (atL T k = 92)) (h34 : Hid (¬ atL T k = 34)) (h1 : Hid (atL T (k + 1) = 117)) (h6 : k + 6 ≤ n) (hh : hexOk (T.drop k)) (hlo : lo = false) (hnh : ¬ halfU (hexV (T.drop k)))
    (hK : ∀ a' w'', ftWE w k V lo T (.pointer (some ⟨V, 0, none⟩)) (.slice (some ⟨g, 0, none⟩) n cap) (.int .i64 (k : Int)) (.bool vb) c4 c5 c6 c7 c10 c11 c12 (.int .u8 117) c16 c21 c22 c23 c24 c25 c26 c27 c28 c29 c30 c31 c32 c33 c34 c35 c36 c37 c38 c39 c40 c41 c42 c43 c44 c45 c46 c47 c48 c49 c50 c51 c52 c53 c54 c55 c56 c57 c58 c59 c60 c61 c62 c63 c64 c65 c66 c67 c68 c69 c70 c71 c72 c73 c74 c75 c76 c77 c78 c79 c80 c81 c82 c83 c84 c85 c86 c87 c88 c89 c90 c91 c92 c93 c94 c95 c96 c97 c98 c99 c100 c101 c102 c103 c104 c105 c106 c107 c108 c109 c110 c111 c112 c113 c114 c115 (.int .u8 117) c307 c308 c309 c310 c311 c312 c313 c314 c315 c316 c317 c318 c319 c320 c321 c322 c323 c324 c325 c326 c327 c328 c329 c330 c331 c332 c333 c334 c335 a' w'' → K a' w'')
    (hR : ∀ a' w'', ftFE w V (.pointer (some ⟨V, 0, none⟩)) (.slice (some ⟨g, 0, none⟩) n cap) (.int .i64 (k : Int)) (.bool vb) c4 c5 c6 c7 c10 c11 c12 (.int .u8 117) c16 c21 c22 c23 c24 c25 c26 c27 c28 c29 c30 c31 c32 c33 c34 c35 c36 c37 c38 c39 c40 c41 c42 c43 c44 c45 c46 c47 c48 c49 c50 c51 c52 c53 c54 c55 c56 c57 c58 c59 c60 c61 c62 c63 c64 c65 c66 c67 c68 c69 c70 c71 c72 c73 c74 c75 c76 c77 c78 c79 c80 c81 c82 c83 c84 c85 c86 c87 c88 c89 c90 c91 c92 c93 c94 c95 c96 c97 c98 c99 c100 c101 c102 c103 c104 c105 c106 c107 c108 c109 c110 c111 c112 c113 c114 c115 (.int .u8 117) c307 c308 c309 c310 c311 c312 c313 c314 c315 c316 c317 c318 c319 c320 c321 c322 c323 c324 c325 c326 c327 c328 c329 c330 c331 c332 c333 c334 c335 a' w'' → Q' .ret a' w'') :
    Code.wp Tryd.prog ftBlk (Exit.then K Q') ⟨#[.pointer (some ⟨V, 0, none⟩), .slice (some ⟨g, 0, none⟩) n cap, .int .i64 (k : Int), .bool vb, c4, c5, c6, c7, .int .i64 (k : Int), v9, c10, c11, c12, .int .u8 117, v14, v15, c16, v17, v18, v19, v20, c21, c22, c23, c24, c25, c26, c27, c28, c29, c30, c31, c32, c33, c34, c35, c36, c37, c38, c39, c40, c41, c42, c43, c44, c45, c46, c47, c48, c49, c50, c51, c52, c53, c54, c55, c56, c57, c58, c59, c60, c61, c62, c63, c64, c65, c66, c67, c68, c69, c70, c71, c72, c73, c74, c75, c76, c77, c78, c79, c80, c81, c82, c83, c84, c85, c86, c87, c88, c89, c90, c91, c92, c93, c94, c95, c96, c97, c98, c99, c100, c101, c102, c103, c104, c105, c106, c107, c108, c109, c110, c111, c112, c113, c114, c115, .int .u8 117, v117, v118, v119, v120, v121, v122, v123, v124, v125, v126, v127, v128, v129, v130, v131, v132, v133, v134, v135, v136, v137, v138, v139, v140, v141, v142, v143, v144, v145, v146, v147, v148, v149, v150, v151, v152, v153, v154, v155, v156, v157, v158, v159, v160, v161, v162, v163, v164, v165, v166, v167, v168, v169, v170, v171, v172, v173, v174, v175, v176, v177, v178, v179, v180, v181, v182, v183, v184, v185, v186, v187, v188, v189, v190, v191, v192, v193, v194, v195, v196, v197, v198, v199, v200, v201, v202, v203, v204, v205, v206, v207, v208, v209, v210, v211, v212, v213, v214, v215, v216, v217, v218, v219, v220, v221, v222, v223, v224, v225, v226, v227, v228, v229, v230, v231, v232, v233, v234, v235, v236, v237, v238, v239, v240, v241, v242, v243, v244, v245, v246, v247, v248, v249, v250, v251, v252, v253, v254, v255, v256, v257, v258, v259, v260, v261, v262, v263, v264, v265, v266, v267, v268, v269, v270, v271, v272, v273, v274, v275, v276, v277, v278, v279, v280, v281, v282, v283, v284, v285, v286, v287, v288, v289, v290, v291, v292, v293, v294, v295, v296, v297, v298, v299, v300, v301, v302, v303, v304, v305, v306, c307, c308, c309, c310, c311, c312, c313, c314, c315, c316, c317, c318, c319, c320, c321, c322, c323, c324, c325, c326, c327, c328, c329, c330, c331, c332, c333, c334, c335], []⟩ wr := by
  conv => arg 2; whnf
  have hkm : Hid (k < T.length) := Lib.hid (by rw [← hn.out]; exact hk)
  have H4 : Hid (∀ w', w.grownBy w' (some V) → ∀ j, j < 4 → w'.cell? ⟨g, k + 2 + j, none⟩ = some (.int .u8 (atL (T.drop k) (2 + j)))) := Lib.hid fun w' hw j hj => by
    have h2 := (hB.out w' hw).2 (k + 2 + j) (by rw [← hn.out]; omega)
    rw [Nat.zero_add] at h2
    rw [h2, atLd, show k + (2 + j) = k + 2 + j by omega]
  have HPX := parseHex (T.drop k) g (k + 2) (cap - (k + 2)) wr (H4.out wr hG.out)
  have hcx1 : ¬ cap = k + 2 := by omega
  have HP1 : Hid (Calls Tryd.prog 72 #[.slice (some ⟨g, k + 2, none⟩) 4 (cap - (k + 2))] wr fun e w' => e = .returned (.tuple #[.int .u16 (hexV (T.drop k)), .bool true]) ∧ w' = wr) := Lib.hid (HPX.mono fun e w' ⟨a, b⟩ => by
    rcases a with ⟨_, a⟩ | ⟨a, _⟩
    · exact ⟨a, b⟩
    · exact absurd hh a)
  have huv : Hid (uV (T.drop k) = hexV (T.drop k)) := Lib.hid (by
    unfold uV
    rw [if_pos ⟨by rw [List.length_drop, ← hn.out]; omega, by rw [atLd]; exact h92.out, by rw [atLd]; exact h1.out, hh⟩])
  have hr1 := hexV_range (T.drop k) hh
  have hIS : ∀ W, Calls Tryd.prog 73 #[.int .i32 (hexV (T.drop k))] W fun e w' => e = .returned (.bool (decide (halfU (hexV (T.drop k))))) ∧ w' = W := fun W => isSurr (hexV (T.drop k)) _ rfl W
  clear HPX
  have HI : Hid (FInv lo T (k + 6)) := Lib.hid (hI.out.next hkm.out h34.out 6 (step_u h92.out h1.out (by rw [← hn.out]; exact h6) hh (Or.inr hnh)))
  have hvf : vb = true := by rw [hvb.out, hlo]; rfl
  have hdec : decide (halfU (hexV (T.drop k))) = false := decide_eq_false hnh
  rw [hdec] at hIS
  clear hdec hnh
  subst hvf
  go_wp2_with fail
  refine HP1.out.mono ?_
  rintro e1 w2 ⟨rfl, rfl⟩
  go_upto_block 7 with fail
  refine cuAll w k V g n cap true T (hexV (T.drop k)) w2 (by omega) hcp hnb huv H4 hF hG hr1.1 hr1.2 ?_
  intro a' w'' hinv
  obtain ⟨u210, u, hinv⟩ := hinv
  obtain ⟨⟨cn1, hC1, hF1', hG1⟩, ha⟩ := hinv
  subst ha
  have hF1 : Hid (FV w'' V true) := Lib.hid hF1'.out.weak
  clear HP1 hF hG hC1 hF1'
  go_wp2_with fail
  refine (hIS _).mono ?_
  rintro e2 w2 ⟨rfl, rfl⟩
  clear hIS
  go_wp2
  refine ⟨_, (fun i => [.nilFunc, .nilFunc, .nilFunc, .nilFunc, .nilFunc, .nilFunc, .nilFunc, .nilFunc, .nilFunc, _, .nilFunc, .nilFunc, .nilFunc, .nilFunc, _, _, .nilFunc, _, _, _, _, .nilFunc, .nilFunc, .nilFunc, .nilFunc, .nilFunc, .nilFunc, .nilFunc, .nilFunc, .nilFunc, .nilFunc, .nilFunc, .nilFunc, .nilFunc, .nilFunc, .nilFunc, .nilFunc, .nilFunc, .nilFunc, .nilFunc, .nilFunc, .nilFunc, .nilFunc, .nilFunc, .nilFunc, .nilFunc, .nilFunc, .nilFunc, .nilFunc, .nilFunc, .nilFunc, .nilFunc, .nilFunc, .nilFunc, .nilFunc, .nilFunc, .nilFunc, .nilFunc, .nilFunc, .nilFunc, .nilFunc, .nilFunc, .nilFunc, .nilFunc, .nilFunc, .nilFunc, .nilFunc, .nilFunc, .nilFunc, .nilFunc, .nilFunc, .nilFunc, .nilFunc, .nilFunc, .nilFunc, .nilFunc, .nilFunc, .nilFunc, .nilFunc, .nilFunc, .nilFunc, .nilFunc, .nilFunc, .nilFunc, .nilFunc, .nilFunc, .nilFunc, .nilFunc, .nilFunc, .nilFunc, .nilFunc, .nilFunc, .nilFunc, .nilFunc, .nilFunc, .nilFunc, .nilFunc, .nilFunc, .nilFunc, .nilFunc, .nilFunc, .nilFunc, .nilFunc, .nilFunc, .nilFunc, .nilFunc, .nilFunc, .nilFunc, .nilFunc, .nilFunc, .nilFunc, .nilFunc, .nilFunc, .nilFunc, .nilFunc, .nilFunc, .nilFunc, _, _, _, _, _, _, _, _, _, _, _, _, _, _, _, _, _, _, _, _, _, _, _, _, _, _, _, _, _, _, _, _, _, _, _, _, _, _, _, _, _, _, _, _, _, _, _, _, _, _, _, _, _, _, _, _, _, _, _, _, _, _, _, _, _, _, _, _, _, _, _, _, _, _, _, _, _, _, _, _, _, _, _, _, _, _, _, _, _, _, _, _, _, _, _, _, _, _, _, _, _, _, _, _, _, _, _, _, _, _, _, _, _, _, _, _, _, _, _, _, _, _, _, _, _, _, _, _, _, _, _, _, _, _, _, _, _, _, _, _, _, _, _, _, _, _, _, _, _, _, _, _, _, _, _, _, _, _, _, _, _, _, _, _, _, _, _, _, _, _, _, _, _, _, _, _, _, _, _, _, _, _, _, _, _, _, _, _, _, _].getD i .nilFunc), ⟨k + 6, by omega, by go_num, HI, hF1, hG1⟩, rfl⟩
set_option maxRecDepth 1000000 in
set_option maxHeartbeats 16000000 in
theorem ftHalfEnd {K : Act → World → Prop} {Q' : Exit → Act → World → Prop} (w : World) (k V g n cap : Nat) (lo vb : Bool) (T : List UInt8) (E E2 : Addr) (wr : World) (hvb : Hid (vb = !lo)) (hk : k < n) (hcp : n ≤ cap) (hnb : n ≤ 1000000) (hn : Hid (n = T.length)) (hT : Hid (∀ w', w.grownBy w' (some V) → Tabs2 w' E E2)) (hB : Hid (∀ w', w.grownBy w' (some V) → g < w'.heap.size ∧ BytesAt w' g 0 T)) (hF : Hid (FV wr V true)) (hG : Hid (w.grownBy wr (some V))) (_hI : Hid (FInv lo T k)) (_hk2 : k + 2 ≤ n) (h92 : Hid (atL T k = 92)) (_h34 : Hid (¬ atL T k = 34)) (h1 : Hid (atL T (k + 1) = 117)) (h6 : k + 6 ≤ n) (hh : hexOk (T.drop k)) (hlo : lo = false) (hhf : halfU (hexV (T.drop k))) (h12 : n < k + 12) (hcx2 : ¬ cap = k + 6)
    (hK : ∀ a' w'', ftWE w k V lo T (.pointer (some ⟨V, 0, none⟩)) (.slice (some ⟨g, 0, none⟩) n cap) (.int .i64 (k : Int)) (.bool vb) c4 c5 c6 c7 c10 c11 c12 (.int .u8 117) c16 c21 c22 c23 c24 c25 c26 c27 c28 c29 c30 c31 c32 c33 c34 c35 c36 c37 c38 c39 c40 c41 c42 c43 c44 c45 c46 c47 c48 c49 c50 c51 c52 c53 c54 c55 c56 c57 c58 c59 c60 c61 c62 c63 c64 c65 c66 c67 c68 c69 c70 c71 c72 c73 c74 c75 c76 c77 c78 c79 c80 c81 c82 c83 c84 c85 c86 c87 c88 c89 c90 c91 c92 c93 c94 c95 c96 c97 c98 c99 c100 c101 c102 c103 c104 c105 c106 c107 c108 c109 c110 c111 c112 c113 c114 c115 (.int .u8 117) c307 c308 c309 c310 c311 c312 c313 c314 c315 c316 c317 c318 c319 c320 c321 c322 c323 c324 c325 c326 c327 c328 c329 c330 c331 c332 c333 c334 c335 a' w'' → K a' w'')
    (hR : ∀ a' w'', ftFE w V (.pointer (some ⟨V, 0, none⟩)) (.slice (some ⟨g, 0, none⟩) n cap) (.int .i64 (k : Int)) (.bool vb) c4 c5 c6 c7 c10 c11 c12 (.int .u8 117) c16 c21 c22 c23 c24 c25 c26 c27 c28 c29 c30 c31 c32 c33 c34 c35 c36 c37 c38 c39 c40 c41 c42 c43 c44 c45 c46 c47 c48 c49 c50 c51 c52 c53 c54 c55 c56 c57 c58 c59 c60 c61 c62 c63 c64 c65 c66 c67 c68 c69 c70 c71 c72 c73 c74 c75 c76 c77 c78 c79 c80 c81 c82 c83 c84 c85 c86 c87 c88 c89 c90 c91 c92 c93 c94 c95 c96 c97 c98 c99 c100 c101 c102 c103 c104 c105 c106 c107 c108 c109 c110 c111 c112 c113 c114 c115 (.int .u8 117) c307 c308 c309 c310 c311 c312 c313 c314 c315 c316 c317 c318 c319 c320 c321 c322 c323 c324 c325 c326 c327 c328 c329 c330 c331 c332 c333 c334 c335 a' w'' → Q' .ret a' w'') :
    Code.wp Tryd.prog ftBlk (Exit.then K Q') ⟨#[.pointer (some ⟨V, 0, none⟩), .slice (some ⟨g, 0, none⟩) n cap, .int .i64 (k : Int), .bool vb, c4, c5, c6, c7, .int .i64 (k : Int), v9, c10, c11, c12, .int .u8 117, v14, v15, c16, v17, v18, v19, v20, c21, c22, c23, c24, c25, c26, c27, c28, c29, c30, c31, c32, c33, c34, c35, c36, c37, c38, c39, c40, c41, c42, c43, c44, c45, c46, c47, c48, c49, c50, c51, c52, c53, c54, c55, c56, c57, c58, c59, c60, c61, c62, c63, c64, c65, c66, c67, c68, c69, c70, c71, c72, c73, c74, c75, c76, c77, c78, c79, c80, c81, c82, c83, c84, c85, c86, c87, c88, c89, c90, c91, c92, c93, c94, c95, c96, c97, c98, c99, c100, c101, c102, c103, c104, c105, c106, c107, c108, c109, c110, c111, c112, c113, c114, c115, .int .u8 117, v117, v118, v119, v120, v121, v122, v123, v124, v125, v126, v127, v128, v129, v130, v131, v132, v133, v134, v135, v136, v137, v138, v139, v140, v141, v142, v143, v144, v145, v146, v147, v148, v149, v150, v151, v152, v153, v154, v155, v156, v157, v158, v159, v160, v161, v162, v163, v164, v165, v166, v167, v168, v169, v170, v171, v172, v173, v174, v175, v176, v177, v178, v179, v180, v181, v182, v183, v184, v185, v186, v187, v188, v189, v190, v191, v192, v193, v194, v195, v196, v197, v198, v199, v200, v201, v202, v203, v204, v205, v206, v207, v208, v209, v210, v211, v212, v213, v214, v215, v216, v217, v218, v219, v220, v221, v222, v223, v224, v225, v226, v227, v228, v229, v230, v231, v232, v233, v234, v235, v236, v237, v238, v239, v240, v241, v242, v243, v244, v245, v246, v247, v248, v249, v250, v251, v252, v253, v254, v255, v256, v257, v258, v259, v260, v261, v262, v263, v264, v265, v266, v267, v268, v269, v270, v271, v272, v273, v274, v275, v276, v277, v278, v279, v280, v281, v282, v283, v284, v285, v286, v287, v288, v289, v290, v291, v292, v293, v294, v295, v296, v297, v298, v299, v300, v301, v302, v303, v304, v305, v306, c307, c308, c309, c310, c311, c312, c313, c314, c315, c316, c317, c318, c319, c320, c321, c322, c323, c324, c325, c326, c327, c328, c329, c330, c331, c332, c333, c334, c335], []⟩ wr := by
  conv => arg 2; whnf
  have hkm : Hid (k < T.length) := Lib.hid (by rw [← hn.out]; exact hk)
  have H4 : Hid (∀ w', w.grownBy w' (some V) → ∀ j, j < 4 → w'.cell? ⟨g, k + 2 + j, none⟩ = some (.int .u8 (atL (T.drop k) (2 + j)))) := Lib.hid fun w' hw j hj => by
    have h2 := (hB.out w' hw).2 (k + 2 + j) (by rw [← hn.out]; omega)
    rw [Nat.zero_add] at h2
    rw [h2, atLd, show k + (2 + j) = k + 2 + j by omega]
  have HPX := parseHex (T.drop k) g (k + 2) (cap - (k + 2)) wr (H4.out wr hG.out)
  have hcx1 : ¬ cap = k + 2 := by omega
  have HP1 : Hid (Calls Tryd.prog 72 #[.slice (some ⟨g, k + 2, none⟩) 4 (cap - (k + 2))] wr fun e w' => e = .returned (.tuple #[.int .u16 (hexV (T.drop k)), .bool true]) ∧ w' = wr) := Lib.hid (HPX.mono fun e w' ⟨a, b⟩ => by
    rcases a with ⟨_, a⟩ | ⟨a, _⟩
    · exact ⟨a, b⟩
    · exact absurd hh a)
  have huv : Hid (uV (T.drop k) = hexV (T.drop k)) := Lib.hid (by
    unfold uV
    rw [if_pos ⟨by rw [List.length_drop, ← hn.out]; omega, by rw [atLd]; exact h92.out, by rw [atLd]; exact h1.out, hh⟩])
  have hr1 := hexV_range (T.drop k) hh
  have hIS : ∀ W, Calls Tryd.prog 73 #[.int .i32 (hexV (T.drop k))] W fun e w' => e = .returned (.bool (decide (halfU (hexV (T.drop k))))) ∧ w' = W := fun W => isSurr (hexV (T.drop k)) _ rfl W
  clear HPX
  have hvf : vb = true := by rw [hvb.out, hlo]; rfl
  have hdec : decide (halfU (hexV (T.drop k))) = true := decide_eq_true hhf
  rw [hdec] at hIS
  subst hvf
  clear hdec hhf
  go_wp2_with fail
  refine HP1.out.mono ?_
  rintro e1 w2 ⟨rfl, rfl⟩
  go_upto_block 7 with fail
  refine cuAll w k V g n cap true T (hexV (T.drop k)) w2 (by omega) hcp hnb huv H4 hF hG hr1.1 hr1.2 ?_
  intro a' w'' hinv
  obtain ⟨u210, u, hinv⟩ := hinv
  obtain ⟨⟨cn1, hC1, hF1', hG1⟩, ha⟩ := hinv
  subst ha
  have hF1 : Hid (FV w'' V true) := Lib.hid hF1'.out.weak
  clear HP1 hF hG hC1 hF1'
  have HP : Hid (Calls Tryd.prog 70 #[.slice (some ⟨g, k + 6, none⟩) (n - (k + 6)) (cap - (k + 6)), .bool true] w'' (SomeBool w'')) := Lib.hid (by
    have h2 := anyPrefix (T.drop (k + 6)) g (k + 6) (cap - (k + 6)) true w'' (bytes_dropF (hB.out w'' hG1.out).2 (k + 6)) (by rw [List.length_drop, ← hn.out]; omega) (by rw [List.length_drop, ← hn.out]; omega)
    rw [List.length_drop, ← hn.out] at h2
    exact h2)
  go_wp2_with fail
  refine (hIS _).mono ?_
  rintro e2 w2 ⟨rfl, rfl⟩
  clear hIS
  go_wp2_with fail
  refine HP.out.mono ?_
  rintro e w2 ⟨r, rfl, rfl⟩
  cases r
  · have HJ := Lib.hid (joinS V 2 true true (by decide) (fun _ q => q) _ hF1.out)
    go_wp2_with fail
    refine HJ.out.mono ?_
    rintro e w3 ⟨rfl, hf3, hg3⟩
    have HF3 := Lib.hid hf3
    have HG3 := Lib.hid (grownV_trans hG1.out hg3)
    clear hf3 hg3 HJ hF1 hG1
    have HER : Hid (Calls Tryd.prog 71 #[.slice (some ⟨g, k, none⟩) (n - k) (cap - (k))] w3 (OwnErr w3)) := Lib.hid (by
      have h1 := newEscErr ((T.drop (k)).take (n - k)) g (k) (cap - (k)) w3 (bytes_sub (hB.out w3 HG3.out).2 _ _) (by rw [List.length_take, List.length_drop]; omega)
      rw [show ((T.drop (k)).take (n - k)).length = n - k by rw [List.length_take, List.length_drop, ← hn.out]; omega] at h1
      exact h1)
    go_wp2_with fail
    refine HER.out.mono ?_
    rintro e w4 ⟨⟨pe, rfl⟩, hb4⟩
    have HG4 := Lib.hid (grownV_below HG3.out hb4)
    clear hb4 HER
    go_wp2
    exact ⟨_, _, (fun i => [.nilFunc, .nilFunc, .nilFunc, .nilFunc, .nilFunc, .nilFunc, .nilFunc, .nilFunc, .nilFunc, .nilFunc, .nilFunc, .nilFunc, .nilFunc, .nilFunc, _, _, .nilFunc, _, _, _, _, .nilFunc, .nilFunc, .nilFunc, .nilFunc, .nilFunc, .nilFunc, .nilFunc, .nilFunc, .nilFunc, .nilFunc, .nilFunc, .nilFunc, .nilFunc, .nilFunc, .nilFunc, .nilFunc, .nilFunc, .nilFunc, .nilFunc, .nilFunc, .nilFunc, .nilFunc, .nilFunc, .nilFunc, .nilFunc, .nilFunc, .nilFunc, .nilFunc, .nilFunc, .nilFunc, .nilFunc, .nilFunc, .nilFunc, .nilFunc, .nilFunc, .nilFunc, .nilFunc, .nilFunc, .nilFunc, .nilFunc, .nilFunc, .nilFunc, .nilFunc, .nilFunc, .nilFunc, .nilFunc, .nilFunc, .nilFunc, .nilFunc, .nilFunc, .nilFunc, .nilFunc, .nilFunc, .nilFunc, .nilFunc, .nilFunc, .nilFunc, .nilFunc, .nilFunc, .nilFunc, .nilFunc, .nilFunc, .nilFunc, .nilFunc, .nilFunc, .nilFunc, .nilFunc, .nilFunc, .nilFunc, .nilFunc, .nilFunc, .nilFunc, .nilFunc, .nilFunc, .nilFunc, .nilFunc, .nilFunc, .nilFunc, .nilFunc, .nilFunc, .nilFunc, .nilFunc, .nilFunc, .nilFunc, .nilFunc, .nilFunc, .nilFunc, .nilFunc, .nilFunc, .nilFunc, .nilFunc, .nilFunc, .nilFunc, .nilFunc, .nilFunc, .nilFunc, _, _, _, _, _, _, _, _, _, _, _, _, _, _, _, _, _, _, _, _, _, _, _, _, _, _, _, _, _, _, _, _, _, _, _, _, _, _, _, _, _, _, _, _, _, _, _, _, _, _, _, _, _, _, _, _, _, _, _, _, _, _, _, _, _, _, _, _, _, _, _, _, _, _, _, _, _, _, _, _, _, _, _, _, _, _, _, _, _, _, _, _, _, _, _, _, _, _, _, _, _, _, _, _, _, _, _, _, _, _, _, _, _, _, _, _, _, _, _, _, _, _, _, _, _, _, _, _, _, _, _, _, _, _, _, _, _, _, _, _, _, _, _, _, _, _, _, _, _, _, _, _, _, _, _, _, _, _, _, _, _, _, _, _, _, _, _, _, _, _, _, _, _, _, _, _, _, _, _, _, _, _, _, _, _, _, _, _, _, _].getD i .nilFunc), ⟨⟨_, rfl⟩, ⟨_, _, rfl⟩, HG4⟩, rfl⟩
  · have ce := (hT.out w2 hG1.out).eof
    have HGD : Hid (∀ m, w.grownBy (World.drewN w2 m) (some V)) := Lib.hid fun m => grownV_below hG1.out (Below.drewF (Below.refl _ _) _)
    go_wp2_with fail
    go_quiet (fail)
    go_wp2
    exact ⟨_, _, (fun i => [.nilFunc, .nilFunc, .nilFunc, .nilFunc, .nilFunc, .nilFunc, .nilFunc, .nilFunc, .nilFunc, .nilFunc, .nilFunc, .nilFunc, .nilFunc, .nilFunc, _, _, .nilFunc, _, _, _, _, .nilFunc, .nilFunc, .nilFunc, .nilFunc, .nilFunc, .nilFunc, .nilFunc, .nilFunc, .nilFunc, .nilFunc, .nilFunc, .nilFunc, .nilFunc, .nilFunc, .nilFunc, .nilFunc, .nilFunc, .nilFunc, .nilFunc, .nilFunc, .nilFunc, .nilFunc, .nilFunc, .nilFunc, .nilFunc, .nilFunc, .nilFunc, .nilFunc, .nilFunc, .nilFunc, .nilFunc, .nilFunc, .nilFunc, .nilFunc, .nilFunc, .nilFunc, .nilFunc, .nilFunc, .nilFunc, .nilFunc, .nilFunc, .nilFunc, .nilFunc, .nilFunc, .nilFunc, .nilFunc, .nilFunc, .nilFunc, .nilFunc, .nilFunc, .nilFunc, .nilFunc, .nilFunc, .nilFunc, .nilFunc, .nilFunc, .nilFunc, .nilFunc, .nilFunc, .nilFunc, .nilFunc, .nilFunc, .nilFunc, .nilFunc, .nilFunc, .nilFunc, .nilFunc, .nilFunc, .nilFunc, .nilFunc, .nilFunc, .nilFunc, .nilFunc, .nilFunc, .nilFunc, .nilFunc, .nilFunc, .nilFunc, .nilFunc, .nilFunc, .nilFunc, .nilFunc, .nilFunc, .nilFunc, .nilFunc, .nilFunc, .nilFunc, .nilFunc, .nilFunc, .nilFunc, .nilFunc, .nilFunc, .nilFunc, .nilFunc, .nilFunc, .nilFunc, _, _, _, _, _, _, _, _, _, _, _, _, _, _, _, _, _, _, _, _, _, _, _, _, _, _, _, _, _, _, _, _, _, _, _, _, _, _, _, _, _, _, _, _, _, _, _, _, _, _, _, _, _, _, _, _, _, _, _, _, _, _, _, _, _, _, _, _, _, _, _, _, _, _, _, _, _, _, _, _, _, _, _, _, _, _, _, _, _, _, _, _, _, _, _, _, _, _, _, _, _, _, _, _, _, _, _, _, _, _, _, _, _, _, _, _, _, _, _, _, _, _, _, _, _, _, _, _, _, _, _, _, _, _, _, _, _, _, _, _, _, _, _, _, _, _, _, _, _, _, _, _, _, _, _, _, _, _, _, _, _, _, _, _, _, _, _, _, _, _, _, _, _, _, _, _, _, _, _, _, _, _, _, _, _, _, _, _, _, _].getD i .nilFunc), ⟨⟨_, rfl⟩, ⟨_, _, rfl⟩, Lib.hid (HGD.out _)⟩, rfl⟩
set_option maxRecDepth 1000000 in
set_option maxHeartbeats 16000000 in
theorem ftHalfEnd0 {K : Act → World → Prop} {Q' : Exit → Act → World → Prop} (w : World) (k V g n cap : Nat) (lo vb : Bool) (T : List UInt8) (E E2 : Addr) (wr : World) (hvb : Hid (vb = !lo)) (hk : k < n) (hcp : n ≤ cap) (hnb : n ≤ 1000000) (hn : Hid (n = T.length)) (hT : Hid (∀ w', w.grownBy w' (some V) → Tabs2 w' E E2)) (hB : Hid (∀ w', w.grownBy w' (some V) → g < w'.heap.size ∧ BytesAt w' g 0 T)) (hF : Hid (FV wr V true)) (hG : Hid (w.grownBy wr (some V))) (_hI : Hid (FInv lo T k)) (_hk2 : k + 2 ≤ n) (h92 : Hid (atL T k = 92)) (_h34 : Hid (¬ atL T k = 34)) (h1 : Hid (atL T (k + 1) = 117)) (h6 : k + 6 ≤ n) (hh : hexOk (T.drop k)) (hlo : lo = false) (hhf : halfU (hexV (T.drop k))) (h12 : n < k + 12) (hcx2 : cap = k + 6)
    (hK : ∀ a' w'', ftWE w k V lo T (.pointer (some ⟨V, 0, none⟩)) (.slice (some ⟨g, 0, none⟩) n cap) (.int .i64 (k : Int)) (.bool vb) c4 c5 c6 c7 c10 c11 c12 (.int .u8 117) c16 c21 c22 c23 c24 c25 c26 c27 c28 c29 c30 c31 c32 c33 c34 c35 c36 c37 c38 c39 c40 c41 c42 c43 c44 c45 c46 c47 c48 c49 c50 c51 c52 c53 c54 c55 c56 c57 c58 c59 c60 c61 c62 c63 c64 c65 c66 c67 c68 c69 c70 c71 c72 c73 c74 c75 c76 c77 c78 c79 c80 c81 c82 c83 c84 c85 c86 c87 c88 c89 c90 c91 c92 c93 c94 c95 c96 c97 c98 c99 c100 c101 c102 c103 c104 c105 c106 c107 c108 c109 c110 c111 c112 c113 c114 c115 (.int .u8 117) c307 c308 c309 c310 c311 c312 c313 c314 c315 c316 c317 c318 c319 c320 c321 c322 c323 c324 c325 c326 c327 c328 c329 c330 c331 c332 c333 c334 c335 a' w'' → K a' w'')
    (hR : ∀ a' w'', ftFE w V (.pointer (some ⟨V, 0, none⟩)) (.slice (some ⟨g, 0, none⟩) n cap) (.int .i64 (k : Int)) (.bool vb) c4 c5 c6 c7 c10 c11 c12 (.int .u8 117) c16 c21 c22 c23 c24 c25 c26 c27 c28 c29 c30 c31 c32 c33 c34 c35 c36 c37 c38 c39 c40 c41 c42 c43 c44 c45 c46 c47 c48 c49 c50 c51 c52 c53 c54 c55 c56 c57 c58 c59 c60 c61 c62 c63 c64 c65 c66 c67 c68 c69 c70 c71 c72 c73 c74 c75 c76 c77 c78 c79 c80 c81 c82 c83 c84 c85 c86 c87 c88 c89 c90 c91 c92 c93 c94 c95 c96 c97 c98 c99 c100 c101 c102 c103 c104 c105 c106 c107 c108 c109 c110 c111 c112 c113 c114 c115 (.int .u8 117) c307 c308 c309 c310 c311 c312 c313 c314 c315 c316 c317 c318 c319 c320 c321 c322 c323 c324 c325 c326 c327 c328 c329 c330 c331 c332 c333 c334 c335 a' w'' → Q' .ret a' w'') :
    Code.wp Tryd.prog ftBlk (Exit.then K Q') ⟨#[.pointer (some ⟨V, 0, none⟩), .slice (some ⟨g, 0, none⟩) n cap, .int .i64 (k : Int), .bool vb, c4, c5, c6, c7, .int .i64 (k : Int), v9, c10, c11, c12, .int .u8 117, v14, v15, c16, v17, v18, v19, v20, c21, c22, c23, c24, c25, c26, c27, c28, c29, c30, c31, c32, c33, c34, c35, c36, c37, c38, c39, c40, c41, c42, c43, c44, c45, c46, c47, c48, c49, c50, c51, c52, c53, c54, c55, c56, c57, c58, c59, c60, c61, c62, c63, c64, c65, c66, c67, c68, c69, c70, c71, c72, c73, c74, c75, c76, c77, c78, c79, c80, c81, c82, c83, c84, c85, c86, c87, c88, c89, c90, c91, c92, c93, c94, c95, c96, c97, c98, c99, c100, c101, c102, c103, c104, c105, c106, c107, c108, c109, c110, c111, c112, c113, c114, c115, .int .u8 117, v117, v118, v119, v120, v121, v122, v123, v124, v125, v126, v127, v128, v129, v130, v131, v132, v133, v134, v135, v136, v137, v138, v139, v140, v141, v142, v143, v144, v145, v146, v147, v148, v149, v150, v151, v152, v153, v154, v155, v156, v157, v158, v159, v160, v161, v162, v163, v164, v165, v166, v167, v168, v169, v170, v171, v172, v173, v174, v175, v176, v177, v178, v179, v180, v181, v182, v183, v184, v185, v186, v187, v188, v189, v190, v191, v192, v193, v194, v195, v196, v197, v198, v199, v200, v201, v202, v203, v204, v205, v206, v207, v208, v209, v210, v211, v212, v213, v214, v215, v216, v217, v218, v219, v220, v221, v222, v223, v224, v225, v226, v227, v228, v229, v230, v231, v232, v233, v234, v235, v236, v237, v238, v239, v240, v241, v242, v243, v244, v245, v246, v247, v248, v249, v250, v251, v252, v253, v254, v255, v256, v257, v258, v259, v260, v261, v262, v263, v264, v265, v266, v267, v268, v269, v270, v271, v272, v273, v274, v275, v276, v277, v278, v279, v280, v281, v282, v283, v284, v285, v286, v287, v288, v289, v290, v291, v292, v293, v294, v295, v296, v297, v298, v299, v300, v301, v302, v303, v304, v305, v306, c307, c308, c309, c310, c311, c312, c313, c314, c315, c316, c317, c318, c319, c320, c321, c322, c323, c324, c325, c326, c327, c328, c329, c330, c331, c332, c333, c334, c335], []⟩ wr := by
  subst hcx2
  conv => arg 2; whnf
  have hkm : Hid (k < T.length) := Lib.hid (by rw [← hn.out]; exact hk)
  have H4 : Hid (∀ w', w.grownBy w' (some V) → ∀ j, j < 4 → w'.cell? ⟨g, k + 2 + j, none⟩ = some (.int .u8 (atL (T.drop k) (2 + j)))) := Lib.hid fun w' hw j hj => by
    have h2 := (hB.out w' hw).2 (k + 2 + j) (by rw [← hn.out]; omega)
    rw [Nat.zero_add] at h2
    rw [h2, atLd, show k + (2 + j) = k + 2 + j by omega]
  have HPX := parseHex (T.drop k) g (k + 2) 4 wr (H4.out wr hG.out)
  have hcx1 : ¬ (k + 6) = k + 2 := by omega
  have HP1 : Hid (Calls Tryd.prog 72 #[.slice (some ⟨g, k + 2, none⟩) 4 4] wr fun e w' => e = .returned (.tuple #[.int .u16 (hexV (T.drop k)), .bool true]) ∧ w' = wr) := Lib.hid (HPX.mono fun e w' ⟨a, b⟩ => by
    rcases a with ⟨_, a⟩ | ⟨a, _⟩
    · exact ⟨a, b⟩
    · exact absurd hh a)
  have huv : Hid (uV (T.drop k) = hexV (T.drop k)) := Lib.hid (by
    unfold uV
    rw [if_pos ⟨by rw [List.length_drop, ← hn.out]; omega, by rw [atLd]; exact h92.out, by rw [atLd]; exact h1.out, hh⟩])
  have hr1 := hexV_range (T.drop k) hh
  have hIS : ∀ W, Calls Tryd.prog 73 #[.int .i32 (hexV (T.drop k))] W fun e w' => e = .returned (.bool (decide (halfU (hexV (T.drop k))))) ∧ w' = W := fun W => isSurr (hexV (T.drop k)) _ rfl W
  clear HPX
  have hvf : vb = true := by rw [hvb.out, hlo]; rfl
  have hdec : decide (halfU (hexV (T.drop k))) = true := decide_eq_true hhf
  rw [hdec] at hIS
  subst hvf
  clear hdec hhf
  go_wp2_with fail
  refine HP1.out.mono ?_
  rintro e1 w2 ⟨rfl, rfl⟩
  go_upto_block 7 with fail
  refine cuAll w k V g n (k + 6) true T (hexV (T.drop k)) w2 (by omega) hcp hnb huv H4 hF hG hr1.1 hr1.2 ?_
  intro a' w'' hinv
  obtain ⟨u210, u, hinv⟩ := hinv
  obtain ⟨⟨cn1, hC1, hF1', hG1⟩, ha⟩ := hinv
  subst ha
  have hF1 : Hid (FV w'' V true) := Lib.hid hF1'.out.weak
  clear HP1 hF hG hC1 hF1'
  have HP : Hid (Calls Tryd.prog 70 #[.slice (some ⟨g, 0, none⟩) 0 0, .bool true] w'' (SomeBool w'')) := Lib.hid (by
    have h2 := anyPrefix [] g 0 0 true w'' (fun j hj => absurd hj (Nat.not_lt_zero _)) (by decide) (by decide)
    exact h2)
  go_wp2_with fail
  refine (hIS _).mono ?_
  rintro e2 w2 ⟨rfl, rfl⟩
  clear hIS
  go_wp2_with fail
  refine HP.out.mono ?_
  rintro e w2 ⟨r, rfl, rfl⟩
  cases r
  · have HJ := Lib.hid (joinS V 2 true true (by decide) (fun _ q => q) _ hF1.out)
    go_wp2_with fail
    refine HJ.out.mono ?_
    rintro e w3 ⟨rfl, hf3, hg3⟩
    have HF3 := Lib.hid hf3
    have HG3 := Lib.hid (grownV_trans hG1.out hg3)
    clear hf3 hg3 HJ hF1 hG1
    have HER : Hid (Calls Tryd.prog 71 #[.slice (some ⟨g, k, none⟩) (n - k) 6] w3 (OwnErr w3)) := Lib.hid (by
      have h1 := newEscErr ((T.drop (k)).take (n - k)) g (k) 6 w3 (bytes_sub (hB.out w3 HG3.out).2 _ _) (by rw [List.length_take, List.length_drop]; omega)
      rw [show ((T.drop (k)).take (n - k)).length = n - k by rw [List.length_take, List.length_drop, ← hn.out]; omega] at h1
      exact h1)
    go_wp2_with fail
    refine HER.out.mono ?_
    rintro e w4 ⟨⟨pe, rfl⟩, hb4⟩
    have HG4 := Lib.hid (grownV_below HG3.out hb4)
    clear hb4 HER
    go_wp2
    exact ⟨_, _, (fun i => [.nilFunc, .nilFunc, .nilFunc, .nilFunc, .nilFunc, .nilFunc, .nilFunc, .nilFunc, .nilFunc, .nilFunc, .nilFunc, .nilFunc, .nilFunc, .nilFunc, _, _, .nilFunc, _, _, _, _, .nilFunc, .nilFunc, .nilFunc, .nilFunc, .nilFunc, .nilFunc, .nilFunc, .nilFunc, .nilFunc, .nilFunc, .nilFunc, .nilFunc, .nilFunc, .nilFunc, .nilFunc, .nilFunc, .nilFunc, .nilFunc, .nilFunc, .nilFunc, .nilFunc, .nilFunc, .nilFunc, .nilFunc, .nilFunc, .nilFunc, .nilFunc, .nilFunc, .nilFunc, .nilFunc, .nilFunc, .nilFunc, .nilFunc, .nilFunc, .nilFunc, .nilFunc, .nilFunc, .nilFunc, .nilFunc, .nilFunc, .nilFunc, .nilFunc, .nilFunc, .nilFunc, .nilFunc, .nilFunc, .nilFunc, .nilFunc, .nilFunc, .nilFunc, .nilFunc, .nilFunc, .nilFunc, .nilFunc, .nilFunc, .nilFunc, .nilFunc, .nilFunc, .nilFunc, .nilFunc, .nilFunc, .nilFunc, .nilFunc, .nilFunc, .nilFunc, .nilFunc, .nilFunc, .nilFunc, .nilFunc, .nilFunc, .nilFunc, .nilFunc, .nilFunc, .nilFunc, .nilFunc, .nilFunc, .nilFunc, .nilFunc, .nilFunc, .nilFunc, .nilFunc, .nilFunc, .nilFunc, .nilFunc, .nilFunc, .nilFunc, .nilFunc, .nilFunc, .nilFunc, .nilFunc, .nilFunc, .nilFunc, .nilFunc, .nilFunc, .nilFunc, .nilFunc, _, _, _, _, _, _, _, _, _, _, _, _, _, _, _, _, _, _, _, _, _, _, _, _, _, _, _, _, _, _, _, _, _, _, _, _, _, _, _, _, _, _, _, _, _, _, _, _, _, _, _, _, _, _, _, _, _, _, _, _, _, _, _, _, _, _, _, _, _, _, _, _, _, _, _, _, _, _, _, _, _, _, _, _, _, _, _, _, _, _, _, _, _, _, _, _, _, _, _, _, _, _, _, _, _, _, _, _, _, _, _, _, _, _, _, _, _, _, _, _, _, _, _, _, _, _, _, _, _, _, _, _, _, _, _, _, _, _, _, _, _, _, _, _, _, _, _, _, _, _, _, _, _, _, _, _, _, _, _, _, _, _, _, _, _, _, _, _, _, _, _, _, _, _, _, _, _, _, _, _, _, _, _, _, _, _, _, _, _, _].getD i .nilFunc), ⟨⟨_, rfl⟩, ⟨_, _, rfl⟩, HG4⟩, rfl⟩
  · have ce := (hT.out w2 hG1.out).eof
    have HGD : Hid (∀ m, w.grownBy (World.drewN w2 m) (some V)) := Lib.hid fun m => grownV_below hG1.out (Below.drewF (Below.refl _ _) _)
    go_wp2_with fail
    go_quiet (fail)
    go_wp2
    exact ⟨_, _, (fun i => [.nilFunc, .nilFunc, .nilFunc, .nilFunc, .nilFunc, .nilFunc, .nilFunc, .nilFunc, .nilFunc, .nilFunc, .nilFunc, .nilFunc, .nilFunc, .nilFunc, _, _, .nilFunc, _, _, _, _, .nilFunc, .nilFunc, .nilFunc, .nilFunc, .nilFunc, .nilFunc, .nilFunc, .nilFunc, .nilFunc, .nilFunc, .nilFunc, .nilFunc, .nilFunc, .nilFunc, .nilFunc, .nilFunc, .nilFunc, .nilFunc, .nilFunc, .nilFunc, .nilFunc, .nilFunc, .nilFunc, .nilFunc, .nilFunc, .nilFunc, .nilFunc, .nilFunc, .nilFunc, .nilFunc, .nilFunc, .nilFunc, .nilFunc, .nilFunc, .nilFunc, .nilFunc, .nilFunc, .nilFunc, .nilFunc, .nilFunc, .nilFunc, .nilFunc, .nilFunc, .nilFunc, .nilFunc, .nilFunc, .nilFunc, .nilFunc, .nilFunc, .nilFunc, .nilFunc, .nilFunc, .nilFunc, .nilFunc, .nilFunc, .nilFunc, .nilFunc, .nilFunc, .nilFunc, .nilFunc, .nilFunc, .nilFunc, .nilFunc, .nilFunc, .nilFunc, .nilFunc, .nilFunc, .nilFunc, .nilFunc, .nilFunc, .nilFunc, .nilFunc, .nilFunc, .nilFunc, .nilFunc, .nilFunc, .nilFunc, .nilFunc, .nilFunc, .nilFunc, .nilFunc, .nilFunc, .nilFunc, .nilFunc, .nilFunc, .nilFunc, .nilFunc, .nilFunc, .nilFunc, .nilFunc, .nilFunc, .nilFunc, .nilFunc, .nilFunc, .nilFunc, .nilFunc, _, _, _, _, _, _, _, _, _, _, _, _, _, _, _, _, _, _, _, _, _, _, _, _, _, _, _, _, _, _, _, _, _, _, _, _, _, _, _, _, _, _, _, _, _, _, _, _, _, _, _, _, _, _, _, _, _, _, _, _, _, _, _, _, _, _, _, _, _, _, _, _, _, _, _, _, _, _, _, _, _, _, _, _, _, _, _, _, _, _, _, _, _, _, _, _, _, _, _, _, _, _, _, _, _, _, _, _, _, _, _, _, _, _, _, _, _, _, _, _, _, _, _, _, _, _, _, _, _, _, _, _, _, _, _, _, _, _, _, _, _, _, _, _, _, _, _, _, _, _, _, _, _, _, _, _, _, _, _, _, _, _, _, _, _, _, _, _, _, _, _, _, _, _, _, _, _, _, _, _, _, _, _, _, _, _, _, _, _, _].getD i .nilFunc), ⟨⟨_, rfl⟩, ⟨_, _, rfl⟩, Lib.hid (HGD.out _)⟩, rfl⟩
set_option maxRecDepth 1000000 in
set_option maxHeartbeats 16000000 in
theorem ftHalfA {K : Act → World → Prop} {Q' : Exit → Act → World → Prop} (w : World) (k V g n cap : Nat) (lo vb : Bool) (T : List UInt8) (E E2 : Addr) (wr : World) (hvb : Hid (vb = !lo)) (hk : k < n) (hcp : n ≤ cap) (hnb : n ≤ 1000000) (hn : Hid (n = T.length)) (_hT : Hid (∀ w', w.grownBy w' (some V) → Tabs2 w' E E2)) (hB : Hid (∀ w', w.grownBy w' (some V) → g < w'.heap.size ∧ BytesAt w' g 0 T)) (hF : Hid (FV wr V true)) (hG : Hid (w.grownBy wr (some V))) (_hI : Hid (FInv lo T k)) (_hk2 : k + 2 ≤ n) (h92 : Hid (atL T k = 92)) (_h34 : Hid (¬ atL T k = 34)) (h1 : Hid (atL T (k + 1) = 117)) (h6 : k + 6 ≤ n) (hh : hexOk (T.drop k)) (hlo : lo = false) (hhf : halfU (hexV (T.drop k))) (h12 : k + 12 ≤ n) (p0 : ¬ atL (T.drop (k + 6)) 0 = 92)
    (hK : ∀ a' w'', ftWE w k V lo T (.pointer (some ⟨V, 0, none⟩)) (.slice (some ⟨g, 0, none⟩) n cap) (.int .i64 (k : Int)) (.bool vb) c4 c5 c6 c7 c10 c11 c12 (.int .u8 117) c16 c21 c22 c23 c24 c25 c26 c27 c28 c29 c30 c31 c32 c33 c34 c35 c36 c37 c38 c39 c40 c41 c42 c43 c44 c45 c46 c47 c48 c49 c50 c51 c52 c53 c54 c55 c56 c57 c58 c59 c60 c61 c62 c63 c64 c65 c66 c67 c68 c69 c70 c71 c72 c73 c74 c75 c76 c77 c78 c79 c80 c81 c82 c83 c84 c85 c86 c87 c88 c89 c90 c91 c92 c93 c94 c95 c96 c97 c98 c99 c100 c101 c102 c103 c104 c105 c106 c107 c108 c109 c110 c111 c112 c113 c114 c115 (.int .u8 117) c307 c308 c309 c310 c311 c312 c313 c314 c315 c316 c317 c318 c319 c320 c321 c322 c323 c324 c325 c326 c327 c328 c329 c330 c331 c332 c333 c334 c335 a' w'' → K a' w'')
    (hR : ∀ a' w'', ftFE w V (.pointer (some ⟨V, 0, none⟩)) (.slice (some ⟨g, 0, none⟩) n cap) (.int .i64 (k : Int)) (.bool vb) c4 c5 c6 c7 c10 c11 c12 (.int .u8 117) c16 c21 c22 c23 c24 c25 c26 c27 c28 c29 c30 c31 c32 c33 c34 c35 c36 c37 c38 c39 c40 c41 c42 c43 c44 c45 c46 c47 c48 c49 c50 c51 c52 c53 c54 c55 c56 c57 c58 c59 c60 c61 c62 c63 c64 c65 c66 c67 c68 c69 c70 c71 c72 c73 c74 c75 c76 c77 c78 c79 c80 c81 c82 c83 c84 c85 c86 c87 c88 c89 c90 c91 c92 c93 c94 c95 c96 c97 c98 c99 c100 c101 c102 c103 c104 c105 c106 c107 c108 c109 c110 c111 c112 c113 c114 c115 (.int .u8 117) c307 c308 c309 c310 c311 c312 c313 c314 c315 c316 c317 c318 c319 c320 c321 c322 c323 c324 c325 c326 c327 c328 c329 c330 c331 c332 c333 c334 c335 a' w'' → Q' .ret a' w'') :
    Code.wp Tryd.prog ftBlk (Exit.then K Q') ⟨#[.pointer (some ⟨V, 0, none⟩), .slice (some ⟨g, 0, none⟩) n cap, .int .i64 (k : Int), .bool vb, c4, c5, c6, c7, .int .i64 (k : Int), v9, c10, c11, c12, .int .u8 117, v14, v15, c16, v17, v18, v19, v20, c21, c22, c23, c24, c25, c26, c27, c28, c29, c30, c31, c32, c33, c34, c35, c36, c37, c38, c39, c40, c41, c42, c43, c44, c45, c46, c47, c48, c49, c50, c51, c52, c53, c54, c55, c56, c57, c58, c59, c60, c61, c62, c63, c64, c65, c66, c67, c68, c69, c70, c71, c72, c73, c74, c75, c76, c77, c78, c79, c80, c81, c82, c83, c84, c85, c86, c87, c88, c89, c90, c91, c92, c93, c94, c95, c96, c97, c98, c99, c100, c101, c102, c103, c104, c105, c106, c107, c108, c109, c110, c111, c112, c113, c114, c115, .int .u8 117, v117, v118, v119, v120, v121, v122, v123, v124, v125, v126, v127, v128, v129, v130, v131, v132, v133, v134, v135, v136, v137, v138, v139, v140, v141, v142, v143, v144, v145, v146, v147, v148, v149, v150, v151, v152, v153, v154, v155, v156, v157, v158, v159, v160, v161, v162, v163, v164, v165, v166, v167, v168, v169, v170, v171, v172, v173, v174, v175, v176, v177, v178, v179, v180, v181, v182, v183, v184, v185, v186, v187, v188, v189, v190, v191, v192, v193, v194, v195, v196, v197, v198, v199, v200, v201, v202, v203, v204, v205, v206, v207, v208, v209, v210, v211, v212, v213, v214, v215, v216, v217, v218, v219, v220, v221, v222, v223, v224, v225, v226, v227, v228, v229, v230, v231, v232, v233, v234, v235, v236, v237, v238, v239, v240, v241, v242, v243, v244, v245, v246, v247, v248, v249, v250, v251, v252, v253, v254, v255, v256, v257, v258, v259, v260, v261, v262, v263, v264, v265, v266, v267, v268, v269, v270, v271, v272, v273, v274, v275, v276, v277, v278, v279, v280, v281, v282, v283, v284, v285, v286, v287, v288, v289, v290, v291, v292, v293, v294, v295, v296, v297, v298, v299, v300, v301, v302, v303, v304, v305, v306, c307, c308, c309, c310, c311, c312, c313, c314, c315, c316, c317, c318, c319, c320, c321, c322, c323, c324, c325, c326, c327, c328, c329, c330, c331, c332, c333, c334, c335], []⟩ wr := by
  conv => arg 2; whnf
  have hkm : Hid (k < T.length) := Lib.hid (by rw [← hn.out]; exact hk)
  have H4 : Hid (∀ w', w.grownBy w' (some V) → ∀ j, j < 4 → w'.cell? ⟨g, k + 2 + j, none⟩ = some (.int .u8 (atL (T.drop k) (2 + j)))) := Lib.hid fun w' hw j hj => by
    have h2 := (hB.out w' hw).2 (k + 2 + j) (by rw [← hn.out]; omega)
    rw [Nat.zero_add] at h2
    rw [h2, atLd, show k + (2 + j) = k + 2 + j by omega]
  have HPX := parseHex (T.drop k) g (k + 2) (cap - (k + 2)) wr (H4.out wr hG.out)
  have hcx1 : ¬ cap = k + 2 := by omega
  have HP1 : Hid (Calls Tryd.prog 72 #[.slice (some ⟨g, k + 2, none⟩) 4 (cap - (k + 2))] wr fun e w' => e = .returned (.tuple #[.int .u16 (hexV (T.drop k)), .bool true]) ∧ w' = wr) := Lib.hid (HPX.mono fun e w' ⟨a, b⟩ => by
    rcases a with ⟨_, a⟩ | ⟨a, _⟩
    · exact ⟨a, b⟩
    · exact absurd hh a)
  have huv : Hid (uV (T.drop k) = hexV (T.drop k)) := Lib.hid (by
    unfold uV
    rw [if_pos ⟨by rw [List.length_drop, ← hn.out]; omega, by rw [atLd]; exact h92.out, by rw [atLd]; exact h1.out, hh⟩])
  have hr1 := hexV_range (T.drop k) hh
  have hIS : ∀ W, Calls Tryd.prog 73 #[.int .i32 (hexV (T.drop k))] W fun e w' => e = .returned (.bool (decide (halfU (hexV (T.drop k))))) ∧ w' = W := fun W => isSurr (hexV (T.drop k)) _ rfl W
  clear HPX
  have hvf : vb = true := by rw [hvb.out, hlo]; rfl
  have hdec : decide (halfU (hexV (T.drop k))) = true := decide_eq_true hhf
  rw [hdec] at hIS
  subst hvf
  have H42 : Hid (∀ w', w.grownBy w' (some V) → ∀ j, j < 6 → w'.cell? ⟨g, k + 6 + j, none⟩ = some (.int .u8 (atL (T.drop (k + 6)) j))) := Lib.hid fun w' hw j hj => by
    have h2 := (hB.out w' hw).2 (k + 6 + j) (by rw [← hn.out]; omega)
    rw [Nat.zero_add] at h2
    rw [h2, atLd]
  have hcx3 : ¬ cap = k + 6 + 2 := by omega
  clear hdec hhf
  go_wp2_with fail
  refine HP1.out.mono ?_
  rintro e1 w2 ⟨rfl, rfl⟩
  go_upto_block 7 with fail
  refine cuAll w k V g n cap true T (hexV (T.drop k)) w2 (by omega) hcp hnb huv H4 hF hG hr1.1 hr1.2 ?_
  intro a' w'' hinv
  obtain ⟨u210, u, hinv⟩ := hinv
  obtain ⟨⟨cn1, hC1, hF1', hG1⟩, ha⟩ := hinv
  subst ha
  have hF1 : Hid (FV w'' V true) := Lib.hid hF1'.out.weak
  clear HP1 hF hG hC1 hF1'
  have b0 := H42.out w'' hG1.out 0 (by omega)
  have b1 := H42.out w'' hG1.out 1 (by omega)
  rw [Nat.add_zero] at b0
  have HPY := parseHex (T.drop (k + 6)) g (k + 6 + 2) (cap - (k + 6 + 2)) w'' (fun j hj => by have := H42.out w'' hG1.out (2 + j) (by omega); rw [show k + 6 + 2 + j = k + 6 + (2 + j) by omega]; exact this)
  have HP2 : Hid (∃ (v2 : Int) (okv : Bool), Calls Tryd.prog 72 #[.slice (some ⟨g, k + 6 + 2, none⟩) 4 (cap - (k + 6 + 2))] w'' fun e w' => e = .returned (.tuple #[.int .u16 v2, .bool okv]) ∧ w' = w'') := Lib.hid (by
    by_cases hq : hexOk (T.drop (k + 6))
    · exact ⟨_, true, HPY.mono fun e w' ⟨a, b⟩ => by
        rcases a with ⟨_, a⟩ | ⟨a, _⟩
        · exact ⟨a, b⟩
        · exact absurd hq a⟩
    · exact ⟨0, false, HPY.mono fun e w' ⟨a, b⟩ => by
        rcases a with ⟨a, _⟩ | ⟨_, a⟩
        · exact absurd a hq
        · exact ⟨a, b⟩⟩)
  obtain ⟨v2, okv, hP2⟩ := HP2.out
  have HP3 := Lib.hid hP2
  clear HPY HP2 hP2
  have q0 : (atL (T.drop (k + 6)) 0 != 92) = true := by simpa using p0
  generalize atL (T.drop (k + 6)) 0 = x0 at b0 q0
  generalize atL (T.drop (k + 6)) 1 = x1 at b1
  clear p0
  go_wp2_with fail
  refine (hIS _).mono ?_
  rintro e2 w2 ⟨rfl, rfl⟩
  clear hIS
  go_wp2_with fail
  refine HP3.out.mono ?_
  rintro e2 w2 ⟨rfl, rfl⟩
  clear HP3
  have HJ := Lib.hid (joinS V 2 true true (by decide) (fun _ q => q) _ hF1.out)
  go_wp2_with fail
  refine HJ.out.mono ?_
  rintro e w3 ⟨rfl, hf3, hg3⟩
  have HF3 := Lib.hid hf3
  have HG3 := Lib.hid (grownV_trans hG1.out hg3)
  clear hf3 hg3 HJ hF1 hG1
  have HER : Hid (Calls Tryd.prog 71 #[.slice (some ⟨g, k, none⟩) (k + 6 + 6 - k) (cap - (k))] w3 (OwnErr w3)) := Lib.hid (by
    have h1 := newEscErr ((T.drop (k)).take (k + 6 + 6 - k)) g (k) (cap - (k)) w3 (bytes_sub (hB.out w3 HG3.out).2 _ _) (by rw [List.length_take, List.length_drop]; omega)
    rw [show ((T.drop (k)).take (k + 6 + 6 - k)).length = k + 6 + 6 - k by rw [List.length_take, List.length_drop, ← hn.out]; omega] at h1
    exact h1)
  go_wp2_with fail
  refine HER.out.mono ?_
  rintro e w4 ⟨⟨pe, rfl⟩, hb4⟩
  have HG4 := Lib.hid (grownV_below HG3.out hb4)
  clear hb4 HER
  go_wp2
  exact ⟨_, _, (fun i => [.nilFunc, .nilFunc, .nilFunc, .nilFunc, .nilFunc, .nilFunc, .nilFunc, .nilFunc, .nilFunc, .nilFunc, .nilFunc, .nilFunc, .nilFunc, .nilFunc, _, _, .nilFunc, _, _, _, _, .nilFunc, .nilFunc, .nilFunc, .nilFunc, .nilFunc, .nilFunc, .nilFunc, .nilFunc, .nilFunc, .nilFunc, .nilFunc, .nilFunc, .nilFunc, .nilFunc, .nilFunc, .nilFunc, .nilFunc, .nilFunc, .nilFunc, .nilFunc, .nilFunc, .nilFunc, .nilFunc, .nilFunc, .nilFunc, .nilFunc, .nilFunc, .nilFunc, .nilFunc, .nilFunc, .nilFunc, .nilFunc, .nilFunc, .nilFunc, .nilFunc, .nilFunc, .nilFunc, .nilFunc, .nilFunc, .nilFunc, .nilFunc, .nilFunc, .nilFunc, .nilFunc, .nilFunc, .nilFunc, .nilFunc, .nilFunc, .nilFunc, .nilFunc, .nilFunc, .nilFunc, .nilFunc, .nilFunc, .nilFunc, .nilFunc, .nilFunc, .nilFunc, .nilFunc, .nilFunc, .nilFunc, .nilFunc, .nilFunc, .nilFunc, .nilFunc, .nilFunc, .nilFunc, .nilFunc, .nilFunc, .nilFunc, .nilFunc, .nilFunc, .nilFunc, .nilFunc, .nilFunc, .nilFunc, .nilFunc, .nilFunc, .nilFunc, .nilFunc, .nilFunc, .nilFunc, .nilFunc, .nilFunc, .nilFunc, .nilFunc, .nilFunc, .nilFunc, .nilFunc, .nilFunc, .nilFunc, .nilFunc, .nilFunc, .nilFunc, .nilFunc, .nilFunc, _, _, _, _, _, _, _, _, _, _, _, _, _, _, _, _, _, _, _, _, _, _, _, _, _, _, _, _, _, _, _, _, _, _, _, _, _, _, _, _, _, _, _, _, _, _, _, _, _, _, _, _, _, _, _, _, _, _, _, _, _, _, _, _, _, _, _, _, _, _, _, _, _, _, _, _, _, _, _, _, _, _, _, _, _, _, _, _, _, _, _, _, _, _, _, _, _, _, _, _, _, _, _, _, _, _, _, _, _, _, _, _, _, _, _, _, _, _, _, _, _, _, _, _, _, _, _, _, _, _, _, _, _, _, _, _, _, _, _, _, _, _, _, _, _, _, _, _, _, _, _, _, _, _, _, _, _, _, _, _, _, _, _, _, _, _, _, _, _, _, _, _, _, _, _, _, _, _, _, _, _, _, _, _, _, _, _, _, _, _].getD i .nilFunc), ⟨⟨_, rfl⟩, ⟨_, _, rfl⟩, HG4⟩, rfl⟩
set_option maxRecDepth 1000000 in
set_option maxHeartbeats 16000000 in
theorem ftHalfB {K : Act → World → Prop} {Q' : Exit → Act → World → Prop} (w : World) (k V g n cap : Nat) (lo vb : Bool) (T : List UInt8) (E E2 : Addr) (wr : World) (hvb : Hid (vb = !lo)) (hk : k < n) (hcp : n ≤ cap) (hnb : n ≤ 1000000) (hn : Hid (n = T.length)) (_hT : Hid (∀ w', w.grownBy w' (some V) → Tabs2 w' E E2)) (hB : Hid (∀ w', w.grownBy w' (some V) → g < w'.heap.size ∧ BytesAt w' g 0 T)) (hF : Hid (FV wr V true)) (hG : Hid (w.grownBy wr (some V))) (_hI : Hid (FInv lo T k)) (_hk2 : k + 2 ≤ n) (h92 : Hid (atL T k = 92)) (_h34 : Hid (¬ atL T k = 34)) (h1 : Hid (atL T (k + 1) = 117)) (h6 : k + 6 ≤ n) (hh : hexOk (T.drop k)) (hlo : lo = false) (hhf : halfU (hexV (T.drop k))) (h12 : k + 12 ≤ n) (p0 : atL (T.drop (k + 6)) 0 = 92) (p1 : ¬ atL (T.drop (k + 6)) 1 = 117)
    (hK : ∀ a' w'', ftWE w k V lo T (.pointer (some ⟨V, 0, none⟩)) (.slice (some ⟨g, 0, none⟩) n cap) (.int .i64 (k : Int)) (.bool vb) c4 c5 c6 c7 c10 c11 c12 (.int .u8 117) c16 c21 c22 c23 c24 c25 c26 c27 c28 c29 c30 c31 c32 c33 c34 c35 c36 c37 c38 c39 c40 c41 c42 c43 c44 c45 c46 c47 c48 c49 c50 c51 c52 c53 c54 c55 c56 c57 c58 c59 c60 c61 c62 c63 c64 c65 c66 c67 c68 c69 c70 c71 c72 c73 c74 c75 c76 c77 c78 c79 c80 c81 c82 c83 c84 c85 c86 c87 c88 c89 c90 c91 c92 c93 c94 c95 c96 c97 c98 c99 c100 c101 c102 c103 c104 c105 c106 c107 c108 c109 c110 c111 c112 c113 c114 c115 (.int .u8 117) c307 c308 c309 c310 c311 c312 c313 c314 c315 c316 c317 c318 c319 c320 c321 c322 c323 c324 c325 c326 c327 c328 c329 c330 c331 c332 c333 c334 c335 a' w'' → K a' w'')
    (hR : ∀ a' w'', ftFE w V (.pointer (some ⟨V, 0, none⟩)) (.slice (some ⟨g, 0, none⟩) n cap) (.int .i64 (k : Int)) (.bool vb) c4 c5 c6 c7 c10 c11 c12 (.int .u8 117) c16 c21 c22 c23 c24 c25 c26 c27 c28 c29 c30 c31 c32 c33 c34 c35 c36 c37 c38 c39 c40 c41 c42 c43 c44 c45 c46 c47 c48 c49 c50 c51 c52 c53 c54 c55 c56 c57 c58 c59 c60 c61 c62 c63 c64 c65 c66 c67 c68 c69 c70 c71 c72 c73 c74 c75 c76 c77 c78 c79 c80 c81 c82 c83 c84 c85 c86 c87 c88 c89 c90 c91 c92 c93 c94 c95 c96 c97 c98 c99 c100 c101 c102 c103 c104 c105 c106 c107 c108 c109 c110 c111 c112 c113 c114 c115 (.int .u8 117) c307 c308 c309 c310 c311 c312 c313 c314 c315 c316 c317 c318 c319 c320 c321 c322 c323 c324 c325 c326 c327 c328 c329 c330 c331 c332 c333 c334 c335 a' w'' → Q' .ret a' w'') :
    Code.wp Tryd.prog ftBlk (Exit.then K Q') ⟨#[.pointer (some ⟨V, 0, none⟩), .slice (some ⟨g, 0, none⟩) n cap, .int .i64 (k : Int), .bool vb, c4, c5, c6, c7, .int .i64 (k : Int), v9, c10, c11, c12, .int .u8 117, v14, v15, c16, v17, v18, v19, v20, c21, c22, c23, c24, c25, c26, c27, c28, c29, c30, c31, c32, c33, c34, c35, c36, c37, c38, c39, c40, c41, c42, c43, c44, c45, c46, c47, c48, c49, c50, c51, c52, c53, c54, c55, c56, c57, c58, c59, c60, c61, c62, c63, c64, c65, c66, c67, c68, c69, c70, c71, c72, c73, c74, c75, c76, c77, c78, c79, c80, c81, c82, c83, c84, c85, c86, c87, c88, c89, c90, c91, c92, c93, c94, c95, c96, c97, c98, c99, c100, c101, c102, c103, c104, c105, c106, c107, c108, c109, c110, c111, c112, c113, c114, c115, .int .u8 117, v117, v118, v119, v120, v121, v122, v123, v124, v125, v126, v127, v128, v129, v130, v131, v132, v133, v134, v135, v136, v137, v138, v139, v140, v141, v142, v143, v144, v145, v146, v147, v148, v149, v150, v151, v152, v153, v154, v155, v156, v157, v158, v159, v160, v161, v162, v163, v164, v165, v166, v167, v168, v169, v170, v171, v172, v173, v174, v175, v176, v177, v178, v179, v180, v181, v182, v183, v184, v185, v186, v187, v188, v189, v190, v191, v192, v193, v194, v195, v196, v197, v198, v199, v200, v201, v202, v203, v204, v205, v206, v207, v208, v209, v210, v211, v212, v213, v214, v215, v216, v217, v218, v219, v220, v221, v222, v223, v224, v225, v226, v227, v228, v229, v230, v231, v232, v233, v234, v235, v236, v237, v238, v239, v240, v241, v242, v243, v244, v245, v246, v247, v248, v249, v250, v251, v252, v253, v254, v255, v256, v257, v258, v259, v260, v261, v262, v263, v264, v265, v266, v267, v268, v269, v270, v271, v272, v273, v274, v275, v276, v277, v278, v279, v280, v281, v282, v283, v284, v285, v286, v287, v288, v289, v290, v291, v292, v293, v294, v295, v296, v297, v298, v299, v300, v301, v302, v303, v304, v305, v306, c307, c308, c309, c310, c311, c312, c313, c314, c315, c316, c317, c318, c319, c320, c321, c322, c323, c324, c325, c326, c327, c328, c329, c330, c331, c332, c333, c334, c335], []⟩ wr := by
  conv => arg 2; whnf
  have hkm : Hid (k < T.length) := Lib.hid (by rw [← hn.out]; exact hk)
  have H4 : Hid (∀ w', w.grownBy w' (some V) → ∀ j, j < 4 → w'.cell? ⟨g, k + 2 + j, none⟩ = some (.int .u8 (atL (T.drop k) (2 + j)))) := Lib.hid fun w' hw j hj => by
    have h2 := (hB.out w' hw).2 (k + 2 + j) (by rw [← hn.out]; omega)
    rw [Nat.zero_add] at h2
    rw [h2, atLd, show k + (2 + j) = k + 2 + j by omega]
  have HPX := parseHex (T.drop k) g (k + 2) (cap - (k + 2)) wr (H4.out wr hG.out)
  have hcx1 : ¬ cap = k + 2 := by omega
  have HP1 : Hid (Calls Tryd.prog 72 #[.slice (some ⟨g, k + 2, none⟩) 4 (cap - (k + 2))] wr fun e w' => e = .returned (.tuple #[.int .u16 (hexV (T.drop k)), .bool true]) ∧ w' = wr) := Lib.hid (HPX.mono fun e w' ⟨a, b⟩ => by
    rcases a with ⟨_, a⟩ | ⟨a, _⟩
    · exact ⟨a, b⟩
    · exact absurd hh a)
  have huv : Hid (uV (T.drop k) = hexV (T.drop k)) := Lib.hid (by
    unfold uV
    rw [if_pos ⟨by rw [List.length_drop, ← hn.out]; omega, by rw [atLd]; exact h92.out, by rw [atLd]; exact h1.out, hh⟩])
  have hr1 := hexV_range (T.drop k) hh
  have hIS : ∀ W, Calls Tryd.prog 73 #[.int .i32 (hexV (T.drop k))] W fun e w' => e = .returned (.bool (decide (halfU (hexV (T.drop k))))) ∧ w' = W := fun W => isSurr (hexV (T.drop k)) _ rfl W
  clear HPX
  have hvf : vb = true := by rw [hvb.out, hlo]; rfl
  have hdec : decide (halfU (hexV (T.drop k))) = true := decide_eq_true hhf
  rw [hdec] at hIS
  subst hvf
  have H42 : Hid (∀ w', w.grownBy w' (some V) → ∀ j, j < 6 → w'.cell? ⟨g, k + 6 + j, none⟩ = some (.int .u8 (atL (T.drop (k + 6)) j))) := Lib.hid fun w' hw j hj => by
    have h2 := (hB.out w' hw).2 (k + 6 + j) (by rw [← hn.out]; omega)
    rw [Nat.zero_add] at h2
    rw [h2, atLd]
  have hcx3 : ¬ cap = k + 6 + 2 := by omega
  clear hdec hhf
  go_wp2_with fail
  refine HP1.out.mono ?_
  rintro e1 w2 ⟨rfl, rfl⟩
  go_upto_block 7 with fail
  refine cuAll w k V g n cap true T (hexV (T.drop k)) w2 (by omega) hcp hnb huv H4 hF hG hr1.1 hr1.2 ?_
  intro a' w'' hinv
  obtain ⟨u210, u, hinv⟩ := hinv
  obtain ⟨⟨cn1, hC1, hF1', hG1⟩, ha⟩ := hinv
  subst ha
  have hF1 : Hid (FV w'' V true) := Lib.hid hF1'.out.weak
  clear HP1 hF hG hC1 hF1'
  have b0 := H42.out w'' hG1.out 0 (by omega)
  have b1 := H42.out w'' hG1.out 1 (by omega)
  rw [Nat.add_zero] at b0
  have HPY := parseHex (T.drop (k + 6)) g (k + 6 + 2) (cap - (k + 6 + 2)) w'' (fun j hj => by have := H42.out w'' hG1.out (2 + j) (by omega); rw [show k + 6 + 2 + j = k + 6 + (2 + j) by omega]; exact this)
  have HP2 : Hid (∃ (v2 : Int) (okv : Bool), Calls Tryd.prog 72 #[.slice (some ⟨g, k + 6 + 2, none⟩) 4 (cap - (k + 6 + 2))] w'' fun e w' => e = .returned (.tuple #[.int .u16 v2, .bool okv]) ∧ w' = w'') := Lib.hid (by
    by_cases hq : hexOk (T.drop (k + 6))
    · exact ⟨_, true, HPY.mono fun e w' ⟨a, b⟩ => by
        rcases a with ⟨_, a⟩ | ⟨a, _⟩
        · exact ⟨a, b⟩
        · exact absurd hq a⟩
    · exact ⟨0, false, HPY.mono fun e w' ⟨a, b⟩ => by
        rcases a with ⟨a, _⟩ | ⟨_, a⟩
        · exact absurd a hq
        · exact ⟨a, b⟩⟩)
  obtain ⟨v2, okv, hP2⟩ := HP2.out
  have HP3 := Lib.hid hP2
  clear HPY HP2 hP2
  have q1 : (atL (T.drop (k + 6)) 1 != 117) = true := by simpa using p1
  rw [p0] at b0
  generalize atL (T.drop (k + 6)) 1 = x1 at b1 q1
  clear p0 p1
  go_wp2_with fail
  refine (hIS _).mono ?_
  rintro e2 w2 ⟨rfl, rfl⟩
  clear hIS
  go_wp2_with fail
  refine HP3.out.mono ?_
  rintro e2 w2 ⟨rfl, rfl⟩
  clear HP3
  have HJ := Lib.hid (joinS V 2 true true (by decide) (fun _ q => q) _ hF1.out)
  go_wp2_with fail
  refine HJ.out.mono ?_
  rintro e w3 ⟨rfl, hf3, hg3⟩
  have HF3 := Lib.hid hf3
  have HG3 := Lib.hid (grownV_trans hG1.out hg3)
  clear hf3 hg3 HJ hF1 hG1
  have HER : Hid (Calls Tryd.prog 71 #[.slice (some ⟨g, k, none⟩) (k + 6 + 6 - k) (cap - (k))] w3 (OwnErr w3)) := Lib.hid (by
    have h1 := newEscErr ((T.drop (k)).take (k + 6 + 6 - k)) g (k) (cap - (k)) w3 (bytes_sub (hB.out w3 HG3.out).2 _ _) (by rw [List.length_take, List.length_drop]; omega)
    rw [show ((T.drop (k)).take (k + 6 + 6 - k)).length = k + 6 + 6 - k by rw [List.length_take, List.length_drop, ← hn.out]; omega] at h1
    exact h1)
  go_wp2_with fail
  refine HER.out.mono ?_
  rintro e w4 ⟨⟨pe, rfl⟩, hb4⟩
  have HG4 := Lib.hid (grownV_below HG3.out hb4)
  clear hb4 HER
  go_wp2
  exact ⟨_, _, (fun i => [.nilFunc, .nilFunc, .nilFunc, .nilFunc, .nilFunc, .nilFunc, .nilFunc, .nilFunc, .nilFunc, .nilFunc, .nilFunc, .nilFunc, .nilFunc, .nilFunc, _, _, .nilFunc, _, _, _, _, .nilFunc, .nilFunc, .nilFunc, .nilFunc, .nilFunc, .nilFunc, .nilFunc, .nilFunc, .nilFunc, .nilFunc, .nilFunc, .nilFunc, .nilFunc, .nilFunc, .nilFunc, .nilFunc, .nilFunc, .nilFunc, .nilFunc, .nilFunc, .nilFunc, .nilFunc, .nilFunc, .nilFunc, .nilFunc, .nilFunc, .nilFunc, .nilFunc, .nilFunc, .nilFunc, .nilFunc, .nilFunc, .nilFunc, .nilFunc, .nilFunc, .nilFunc, .nilFunc, .nilFunc, .nilFunc, .nilFunc, .nilFunc, .nilFunc, .nilFunc, .nilFunc, .nilFunc, .nilFunc, .nilFunc, .nilFunc, .nilFunc, .nilFunc, .nilFunc, .nilFunc, .nilFunc, .nilFunc, .nilFunc, .nilFunc, .nilFunc, .nilFunc, .nilFunc, .nilFunc, .nilFunc, .nilFunc, .nilFunc, .nilFunc, .nilFunc, .nilFunc, .nilFunc, .nilFunc, .nilFunc, .nilFunc, .nilFunc, .nilFunc, .nilFunc, .nilFunc, .nilFunc, .nilFunc, .nilFunc, .nilFunc, .nilFunc, .nilFunc, .nilFunc, .nilFunc, .nilFunc, .nilFunc, .nilFunc, .nilFunc, .nilFunc, .nilFunc, .nilFunc, .nilFunc, .nilFunc, .nilFunc, .nilFunc, .nilFunc, .nilFunc, .nilFunc, _, _, _, _, _, _, _, _, _, _, _, _, _, _, _, _, _, _, _, _, _, _, _, _, _, _, _, _, _, _, _, _, _, _, _, _, _, _, _, _, _, _, _, _, _, _, _, _, _, _, _, _, _, _, _, _, _, _, _, _, _, _, _, _, _, _, _, _, _, _, _, _, _, _, _, _, _, _, _, _, _, _, _, _, _, _, _, _, _, _, _, _, _, _, _, _, _, _, _, _, _, _, _, _, _, _, _, _, _, _, _, _, _, _, _, _, _, _, _, _, _, _, _, _, _, _, _, _, _, _, _, _, _, _, _, _, _, _, _, _, _, _, _, _, _, _, _, _, _, _, _, _, _, _, _, _, _, _, _, _, _, _, _, _, _, _, _, _, _, _, _, _, _, _, _, _, _, _, _, _, _, _, _, _, _, _, _, _, _, _].getD i .nilFunc), ⟨⟨_, rfl⟩, ⟨_, _, rfl⟩, HG4⟩, rfl⟩
set_option maxRecDepth 1000000 in
set_option maxHeartbeats 16000000 in
theorem ftHalfC {K : Act → World → Prop} {Q' : Exit → Act → World → Prop} (w : World) (k V g n cap : Nat) (lo vb : Bool) (T : List UInt8) (E E2 : Addr) (wr : World) (hvb : Hid (vb = !lo)) (hk : k < n) (hcp : n ≤ cap) (hnb : n ≤ 1000000) (hn : Hid (n = T.length)) (_hT : Hid (∀ w', w.grownBy w' (some V) → Tabs2 w' E E2)) (hB : Hid (∀ w', w.grownBy w' (some V) → g < w'.heap.size ∧ BytesAt w' g 0 T)) (hF : Hid (FV wr V true)) (hG : Hid (w.grownBy wr (some V))) (_hI : Hid (FInv lo T k)) (_hk2 : k + 2 ≤ n) (h92 : Hid (atL T k = 92)) (_h34 : Hid (¬ atL T k = 34)) (h1 : Hid (atL T (k + 1) = 117)) (h6 : k + 6 ≤ n) (hh : hexOk (T.drop k)) (hlo : lo = false) (hhf : halfU (hexV (T.drop k))) (h12 : k + 12 ≤ n) (p0 : atL (T.drop (k + 6)) 0 = 92) (p1 : atL (T.drop (k + 6)) 1 = 117) (p2 : ¬ hexOk (T.drop (k + 6)))
    (hK : ∀ a' w'', ftWE w k V lo T (.pointer (some ⟨V, 0, none⟩)) (.slice (some ⟨g, 0, none⟩) n cap) (.int .i64 (k : Int)) (.bool vb) c4 c5 c6 c7 c10 c11 c12 (.int .u8 117) c16 c21 c22 c23 c24 c25 c26 c27 c28 c29 c30 c31 c32 c33 c34 c35 c36 c37 c38 c39 c40 c41 c42 c43 c44 c45 c46 c47 c48 c49 c50 c51 c52 c53 c54 c55 c56 c57 c58 c59 c60 c61 c62 c63 c64 c65 c66 c67 c68 c69 c70 c71 c72 c73 c74 c75 c76 c77 c78 c79 c80 c81 c82 c83 c84 c85 c86 c87 c88 c89 c90 c91 c92 c93 c94 c95 c96 c97 c98 c99 c100 c101 c102 c103 c104 c105 c106 c107 c108 c109 c110 c111 c112 c113 c114 c115 (.int .u8 117) c307 c308 c309 c310 c311 c312 c313 c314 c315 c316 c317 c318 c319 c320 c321 c322 c323 c324 c325 c326 c327 c328 c329 c330 c331 c332 c333 c334 c335 a' w'' → K a' w'')
    (hR : ∀ a' w'', ftFE w V (.pointer (some ⟨V, 0, none⟩)) (.slice (some ⟨g, 0, none⟩) n cap) (.int .i64 (k : Int)) (.bool vb) c4 c5 c6 c7 c10 c11 c12 (.int .u8 117) c16 c21 c22 c23 c24 c25 c26 c27 c28 c29 c30 c31 c32 c33 c34 c35 c36 c37 c38 c39 c40 c41 c42 c43 c44 c45 c46 c47 c48 c49 c50 c51 c52 c53 c54 c55 c56 c57 c58 c59 c60 c61 c62 c63 c64 c65 c66 c67 c68 c69 c70 c71 c72 c73 c74 c75 c76 c77 c78 c79 c80 c81 c82 c83 c84 c85 c86 c87 c88 c89 c90 c91 c92 c93 c94 c95 c96 c97 c98 c99 c100 c101 c102 c103 c104 c105 c106 c107 c108 c109 c110 c111 c112 c113 c114 c115 (.int .u8 117) c307 c308 c309 c310 c311 c312 c313 c314 c315 c316 c317 c318 c319 c320 c321 c322 c323 c324 c325 c326 c327 c328 c329 c330 c331 c332 c333 c334 c335 a' w'' → Q' .ret a' w'') :
    Code.wp Tryd.prog ftBlk (Exit.then K Q') ⟨#[.pointer (some ⟨V, 0, none⟩), .slice (some ⟨g, 0, none⟩) n cap, .int .i64 (k : Int), .bool vb, c4, c5, c6, c7, .int .i64 (k : Int), v9, c10, c11, c12, .int .u8 117, v14, v15, c16, v17, v18, v19, v20, c21, c22, c23, c24, c25, c26, c27, c28, c29, c30, c31, c32, c33, c34, c35, c36, c37, c38, c39, c40, c41, c42, c43, c44, c45, c46, c47, c48, c49, c50, c51, c52, c53, c54, c55, c56, c57, c58, c59, c60, c61, c62, c63, c64, c65, c66, c67, c68, c69, c70, c71, c72, c73, c74, c75, c76, c77, c78, c79, c80, c81, c82, c83, c84, c85, c86, c87, c88, c89, c90, c91, c92, c93, c94, c95, c96, c97, c98, c99, c100, c101, c102, c103, c104, c105, c106, c107, c108, c109, c110, c111, c112, c113, c114, c115, .int .u8 117, v117, v118, v119, v120, v121, v122, v123, v124, v125, v126, v127, v128, v129, v130, v131, v132, v133, v134, v135, v136, v137, v138, v139, v140, v141, v142, v143, v144, v145, v146, v147, v148, v149, v150, v151, v152, v153, v154, v155, v156, v157, v158, v159, v160, v161, v162, v163, v164, v165, v166, v167, v168, v169, v170, v171, v172, v173, v174, v175, v176, v177, v178, v179, v180, v181, v182, v183, v184, v185, v186, v187, v188, v189, v190, v191, v192, v193, v194, v195, v196, v197, v198, v199, v200, v201, v202, v203, v204, v205, v206, v207, v208, v209, v210, v211, v212, v213, v214, v215, v216, v217, v218, v219, v220, v221, v222, v223, v224, v225, v226, v227, v228, v229, v230, v231, v232, v233, v234, v235, v236, v237, v238, v239, v240, v241, v242, v243, v244, v245, v246, v247, v248, v249, v250, v251, v252, v253, v254, v255, v256, v257, v258, v259, v260, v261, v262, v263, v264, v265, v266, v267, v268, v269, v270, v271, v272, v273, v274, v275, v276, v277, v278, v279, v280, v281, v282, v283, v284, v285, v286, v287, v288, v289, v290, v291, v292, v293, v294, v295, v296, v297, v298, v299, v300, v301, v302, v303, v304, v305, v306, c307, c308, c309, c310, c311, c312, c313, c314, c315, c316, c317, c318, c319, c320, c321, c322, c323, c324, c325, c326, c327, c328, c329, c330, c331, c332, c333, c334, c335], []⟩ wr := by
  conv => arg 2; whnf
  have hkm : Hid (k < T.length) := Lib.hid (by rw [← hn.out]; exact hk)
  have H4 : Hid (∀ w', w.grownBy w' (some V) → ∀ j, j < 4 → w'.cell? ⟨g, k + 2 + j, none⟩ = some (.int .u8 (atL (T.drop k) (2 + j)))) := Lib.hid fun w' hw j hj => by
    have h2 := (hB.out w' hw).2 (k + 2 + j) (by rw [← hn.out]; omega)
    rw [Nat.zero_add] at h2
    rw [h2, atLd, show k + (2 + j) = k + 2 + j by omega]
  have HPX := parseHex (T.drop k) g (k + 2) (cap - (k + 2)) wr (H4.out wr hG.out)
  have hcx1 : ¬ cap = k + 2 := by omega
  have HP1 : Hid (Calls Tryd.prog 72 #[.slice (some ⟨g, k + 2, none⟩) 4 (cap - (k + 2))] wr fun e w' => e = .returned (.tuple #[.int .u16 (hexV (T.drop k)), .bool true]) ∧ w' = wr) := Lib.hid (HPX.mono fun e w' ⟨a, b⟩ => by
    rcases a with ⟨_, a⟩ | ⟨a, _⟩
    · exact ⟨a, b⟩
    · exact absurd hh a)
  have huv : Hid (uV (T.drop k) = hexV (T.drop k)) := Lib.hid (by
    unfold uV
    rw [if_pos ⟨by rw [List.length_drop, ← hn.out]; omega, by rw [atLd]; exact h92.out, by rw [atLd]; exact h1.out, hh⟩])
  have hr1 := hexV_range (T.drop k) hh
  have hIS : ∀ W, Calls Tryd.prog 73 #[.int .i32 (hexV (T.drop k))] W fun e w' => e = .returned (.bool (decide (halfU (hexV (T.drop k))))) ∧ w' = W := fun W => isSurr (hexV (T.drop k)) _ rfl W
  clear HPX
  have hvf : vb = true := by rw [hvb.out, hlo]; rfl
  have hdec : decide (halfU (hexV (T.drop k))) = true := decide_eq_true hhf
  rw [hdec] at hIS
  subst hvf
  have H42 : Hid (∀ w', w.grownBy w' (some V) → ∀ j, j < 6 → w'.cell? ⟨g, k + 6 + j, none⟩ = some (.int .u8 (atL (T.drop (k + 6)) j))) := Lib.hid fun w' hw j hj => by
    have h2 := (hB.out w' hw).2 (k + 6 + j) (by rw [← hn.out]; omega)
    rw [Nat.zero_add] at h2
    rw [h2, atLd]
  have hcx3 : ¬ cap = k + 6 + 2 := by omega
  clear hdec hhf
  go_wp2_with fail
  refine HP1.out.mono ?_
  rintro e1 w2 ⟨rfl, rfl⟩
  go_upto_block 7 with fail
  refine cuAll w k V g n cap true T (hexV (T.drop k)) w2 (by omega) hcp hnb huv H4 hF hG hr1.1 hr1.2 ?_
  intro a' w'' hinv
  obtain ⟨u210, u, hinv⟩ := hinv
  obtain ⟨⟨cn1, hC1, hF1', hG1⟩, ha⟩ := hinv
  subst ha
  have hF1 : Hid (FV w'' V true) := Lib.hid hF1'.out.weak
  clear HP1 hF hG hC1 hF1'
  have b0 := H42.out w'' hG1.out 0 (by omega)
  have b1 := H42.out w'' hG1.out 1 (by omega)
  rw [Nat.add_zero] at b0
  have HPY := parseHex (T.drop (k + 6)) g (k + 6 + 2) (cap - (k + 6 + 2)) w'' (fun j hj => by have := H42.out w'' hG1.out (2 + j) (by omega); rw [show k + 6 + 2 + j = k + 6 + (2 + j) by omega]; exact this)
  have HP3 : Hid (Calls Tryd.prog 72 #[.slice (some ⟨g, k + 6 + 2, none⟩) 4 (cap - (k + 6 + 2))] w'' fun e w' => e = .returned (.tuple #[.int .u16 0, .bool false]) ∧ w' = w'') := Lib.hid (HPY.mono fun e w' ⟨a, b⟩ => by
    rcases a with ⟨a, _⟩ | ⟨_, a⟩
    · exact absurd a p2
    · exact ⟨a, b⟩)
  rw [p0] at b0
  rw [p1] at b1
  clear p0 p1 p2 HPY
  go_wp2_with fail
  refine (hIS _).mono ?_
  rintro e2 w2 ⟨rfl, rfl⟩
  clear hIS
  go_wp2_with fail
  refine HP3.out.mono ?_
  rintro e2 w2 ⟨rfl, rfl⟩
  clear HP3
  have HJ := Lib.hid (joinS V 2 true true (by decide) (fun _ q => q) _ hF1.out)
  go_wp2_with fail
  refine HJ.out.mono ?_
  rintro e w3 ⟨rfl, hf3, hg3⟩
  have HF3 := Lib.hid hf3
  have HG3 := Lib.hid (grownV_trans hG1.out hg3)
  clear hf3 hg3 HJ hF1 hG1
  have HER : Hid (Calls Tryd.prog 71 #[.slice (some ⟨g, k, none⟩) (k + 6 + 6 - k) (cap - (k))] w3 (OwnErr w3)) := Lib.hid (by
    have h1 := newEscErr ((T.drop (k)).take (k + 6 + 6 - k)) g (k) (cap - (k)) w3 (bytes_sub (hB.out w3 HG3.out).2 _ _) (by rw [List.length_take, List.length_drop]; omega)
    rw [show ((T.drop (k)).take (k + 6 + 6 - k)).length = k + 6 + 6 - k by rw [List.length_take, List.length_drop, ← hn.out]; omega] at h1
    exact h1)
  go_wp2_with fail
  refine HER.out.mono ?_
  rintro e w4 ⟨⟨pe, rfl⟩, hb4⟩
  have HG4 := Lib.hid (grownV_below HG3.out hb4)
  clear hb4 HER
  go_wp2
  exact ⟨_, _, (fun i => [.nilFunc, .nilFunc, .nilFunc, .nilFunc, .nilFunc, .nilFunc, .nilFunc, .nilFunc, .nilFunc, .nilFunc, .nilFunc, .nilFunc, .nilFunc, .nilFunc, _, _, .nilFunc, _, _, _, _, .nilFunc, .nilFunc, .nilFunc, .nilFunc, .nilFunc, .nilFunc, .nilFunc, .nilFunc, .nilFunc, .nilFunc, .nilFunc, .nilFunc, .nilFunc, .nilFunc, .nilFunc, .nilFunc, .nilFunc, .nilFunc, .nilFunc, .nilFunc, .nilFunc, .nilFunc, .nilFunc, .nilFunc, .nilFunc, .nilFunc, .nilFunc, .nilFunc, .nilFunc, .nilFunc, .nilFunc, .nilFunc, .nilFunc, .nilFunc, .nilFunc, .nilFunc, .nilFunc, .nilFunc, .nilFunc, .nilFunc, .nilFunc, .nilFunc, .nilFunc, .nilFunc, .nilFunc, .nilFunc, .nilFunc, .nilFunc, .nilFunc, .nilFunc, .nilFunc, .nilFunc, .nilFunc, .nilFunc, .nilFunc, .nilFunc, .nilFunc, .nilFunc, .nilFunc, .nilFunc, .nilFunc, .nilFunc, .nilFunc, .nilFunc, .nilFunc, .nilFunc, .nilFunc, .nilFunc, .nilFunc, .nilFunc, .nilFunc, .nilFunc, .nilFunc, .nilFunc, .nilFunc, .nilFunc, .nilFunc, .nilFunc, .nilFunc, .nilFunc, .nilFunc, .nilFunc, .nilFunc, .nilFunc, .nilFunc, .nilFunc, .nilFunc, .nilFunc, .nilFunc, .nilFunc, .nilFunc, .nilFunc, .nilFunc, .nilFunc, .nilFunc, .nilFunc, _, _, _, _, _, _, _, _, _, _, _, _, _, _, _, _, _, _, _, _, _, _, _, _, _, _, _, _, _, _, _, _, _, _, _, _, _, _, _, _, _, _, _, _, _, _, _, _, _, _, _, _, _, _, _, _, _, _, _, _, _, _, _, _, _, _, _, _, _, _, _, _, _, _, _, _, _, _, _, _, _, _, _, _, _, _, _, _, _, _, _, _, _, _, _, _, _, _, _, _, _, _, _, _, _, _, _, _, _, _, _, _, _, _, _, _, _, _, _, _, _, _, _, _, _, _, _, _, _, _, _, _, _, _, _, _, _, _, _, _, _, _, _, _, _, _, _, _, _, _, _, _, _, _, _, _, _, _, _, _, _, _, _, _, _, _, _, _, _, _, _, _, _, _, _, _, _, _, _, _, _, _, _, _, _, _, _, _, _, _].getD i .nilFunc), ⟨⟨_, rfl⟩, ⟨_, _, rfl⟩, HG4⟩, rfl⟩
set_option maxRecDepth 1000000 in
set_option maxHeartbeats 16000000 in
theorem ftHalfD {K : Act → World → Prop} {Q' : Exit → Act → World → Prop} (w : World) (k V g n cap : Nat) (lo vb : Bool) (T : List UInt8) (E E2 : Addr) (wr : World) (hvb : Hid (vb = !lo)) (hk : k < n) (hcp : n ≤ cap) (hnb : n ≤ 1000000) (hn : Hid (n = T.length)) (_hT : Hid (∀ w', w.grownBy w' (some V) → Tabs2 w' E E2)) (hB : Hid (∀ w', w.grownBy w' (some V) → g < w'.heap.size ∧ BytesAt w' g 0 T)) (hF : Hid (FV wr V true)) (hG : Hid (w.grownBy wr (some V))) (_hI : Hid (FInv lo T k)) (_hk2 : k + 2 ≤ n) (h92 : Hid (atL T k = 92)) (_h34 : Hid (¬ atL T k = 34)) (h1 : Hid (atL T (k + 1) = 117)) (h6 : k + 6 ≤ n) (hh : hexOk (T.drop k)) (hlo : lo = false) (hhf : halfU (hexV (T.drop k))) (h12 : k + 12 ≤ n) (p0 : atL (T.drop (k + 6)) 0 = 92) (p1 : atL (T.drop (k + 6)) 1 = 117) (p2 : hexOk (T.drop (k + 6))) (hp : ¬ pairOk (hexV (T.drop k)) (hexV (T.drop (k + 6))))
    (hK : ∀ a' w'', ftWE w k V lo T (.pointer (some ⟨V, 0, none⟩)) (.slice (some ⟨g, 0, none⟩) n cap) (.int .i64 (k : Int)) (.bool vb) c4 c5 c6 c7 c10 c11 c12 (.int .u8 117) c16 c21 c22 c23 c24 c25 c26 c27 c28 c29 c30 c31 c32 c33 c34 c35 c36 c37 c38 c39 c40 c41 c42 c43 c44 c45 c46 c47 c48 c49 c50 c51 c52 c53 c54 c55 c56 c57 c58 c59 c60 c61 c62 c63 c64 c65 c66 c67 c68 c69 c70 c71 c72 c73 c74 c75 c76 c77 c78 c79 c80 c81 c82 c83 c84 c85 c86 c87 c88 c89 c90 c91 c92 c93 c94 c95 c96 c97 c98 c99 c100 c101 c102 c103 c104 c105 c106 c107 c108 c109 c110 c111 c112 c113 c114 c115 (.int .u8 117) c307 c308 c309 c310 c311 c312 c313 c314 c315 c316 c317 c318 c319 c320 c321 c322 c323 c324 c325 c326 c327 c328 c329 c330 c331 c332 c333 c334 c335 a' w'' → K a' w'')
    (hR : ∀ a' w'', ftFE w V (.pointer (some ⟨V, 0, none⟩)) (.slice (some ⟨g, 0, none⟩) n cap) (.int .i64 (k : Int)) (.bool vb) c4 c5 c6 c7 c10 c11 c12 (.int .u8 117) c16 c21 c22 c23 c24 c25 c26 c27 c28 c29 c30 c31 c32 c33 c34 c35 c36 c37 c38 c39 c40 c41 c42 c43 c44 c45 c46 c47 c48 c49 c50 c51 c52 c53 c54 c55 c56 c57 c58 c59 c60 c61 c62 c63 c64 c65 c66 c67 c68 c69 c70 c71 c72 c73 c74 c75 c76 c77 c78 c79 c80 c81 c82 c83 c84 c85 c86 c87 c88 c89 c90 c91 c92 c93 c94 c95 c96 c97 c98 c99 c100 c101 c102 c103 c104 c105 c106 c107 c108 c109 c110 c111 c112 c113 c114 c115 (.int .u8 117) c307 c308 c309 c310 c311 c312 c313 c314 c315 c316 c317 c318 c319 c320 c321 c322 c323 c324 c325 c326 c327 c328 c329 c330 c331 c332 c333 c334 c335 a' w'' → Q' .ret a' w'') :
    Code.wp Tryd.prog ftBlk (Exit.then K Q') ⟨#[.pointer (some ⟨V, 0, none⟩), .slice (some ⟨g, 0, none⟩) n cap, .int .i64 (k : Int), .bool vb, c4, c5, c6, c7, .int .i64 (k : Int), v9, c10, c11, c12, .int .u8 117, v14, v15, c16, v17, v18, v19, v20, c21, c22, c23, c24, c25, c26, c27, c28, c29, c30, c31, c32, c33, c34, c35, c36, c37, c38, c39, c40, c41, c42, c43, c44, c45, c46, c47, c48, c49, c50, c51, c52, c53, c54, c55, c56, c57, c58, c59, c60, c61, c62, c63, c64, c65, c66, c67, c68, c69, c70, c71, c72, c73, c74, c75, c76, c77, c78, c79, c80, c81, c82, c83, c84, c85, c86, c87, c88, c89, c90, c91, c92, c93, c94, c95, c96, c97, c98, c99, c100, c101, c102, c103, c104, c105, c106, c107, c108, c109, c110, c111, c112, c113, c114, c115, .int .u8 117, v117, v118, v119, v120, v121, v122, v123, v124, v125, v126, v127, v128, v129, v130, v131, v132, v133, v134, v135, v136, v137, v138, v139, v140, v141, v142, v143, v144, v145, v146, v147, v148, v149, v150, v151, v152, v153, v154, v155, v156, v157, v158, v159, v160, v161, v162, v163, v164, v165, v166, v167, v168, v169, v170, v171, v172, v173, v174, v175, v176, v177, v178, v179, v180, v181, v182, v183, v184, v185, v186, v187, v188, v189, v190, v191, v192, v193, v194, v195, v196, v197, v198, v199, v200, v201, v202, v203, v204, v205, v206, v207, v208, v209, v210, v211, v212, v213, v214, v215, v216, v217, v218, v219, v220, v221, v222, v223, v224, v225, v226, v227, v228, v229, v230, v231, v232, v233, v234, v235, v236, v237, v238, v239, v240, v241, v242, v243, v244, v245, v246, v247, v248, v249, v250, v251, v252, v253, v254, v255, v256, v257, v258, v259, v260, v261, v262, v263, v264, v265, v266, v267, v268, v269, v270, v271, v272, v273, v274, v275, v276, v277, v278, v279, v280, v281, v282, v283, v284, v285, v286, v287, v288, v289, v290, v291, v292, v293, v294, v295, v296, v297, v298, v299, v300, v301, v302, v303, v304, v305, v306, c307, c308, c309, c310, c311, c312, c313, c314, c315, c316, c317, c318, c319, c320, c321, c322, c323, c324, c325, c326, c327, c328, c329, c330, c331, c332, c333, c334, c335], []⟩ wr := by
  conv => arg 2; whnf
  have hkm : Hid (k < T.length) := Lib.hid (by rw [← hn.out]; exact hk)
  have H4 : Hid (∀ w', w.grownBy w' (some V) → ∀ j, j < 4 → w'.cell? ⟨g, k + 2 + j, none⟩ = some (.int .u8 (atL (T.drop k) (2 + j)))) := Lib.hid fun w' hw j hj => by
    have h2 := (hB.out w' hw).2 (k + 2 + j) (by rw [← hn.out]; omega)
    rw [Nat.zero_add] at h2
    rw [h2, atLd, show k + (2 + j) = k + 2 + j by omega]
  have HPX := parseHex (T.drop k) g (k + 2) (cap - (k + 2)) wr (H4.out wr hG.out)
  have hcx1 : ¬ cap = k + 2 := by omega
  have HP1 : Hid (Calls Tryd.prog 72 #[.slice (some ⟨g, k + 2, none⟩) 4 (cap - (k + 2))] wr fun e w' => e = .returned (.tuple #[.int .u16 (hexV (T.drop k)), .bool true]) ∧ w' = wr) := Lib.hid (HPX.mono fun e w' ⟨a, b⟩ => by
    rcases a with ⟨_, a⟩ | ⟨a, _⟩
    · exact ⟨a, b⟩
    · exact absurd hh a)
  have huv : Hid (uV (T.drop k) = hexV (T.drop k)) := Lib.hid (by
    unfold uV
    rw [if_pos ⟨by rw [List.length_drop, ← hn.out]; omega, by rw [atLd]; exact h92.out, by rw [atLd]; exact h1.out, hh⟩])
  have hr1 := hexV_range (T.drop k) hh
  have hIS : ∀ W, Calls Tryd.prog 73 #[.int .i32 (hexV (T.drop k))] W fun e w' => e = .returned (.bool (decide (halfU (hexV (T.drop k))))) ∧ w' = W := fun W => isSurr (hexV (T.drop k)) _ rfl W
  clear HPX
  have hvf : vb = true := by rw [hvb.out, hlo]; rfl
  have hdec : decide (halfU (hexV (T.drop k))) = true := decide_eq_true hhf
  rw [hdec] at hIS
  subst hvf
  have H42 : Hid (∀ w', w.grownBy w' (some V) → ∀ j, j < 6 → w'.cell? ⟨g, k + 6 + j, none⟩ = some (.int .u8 (atL (T.drop (k + 6)) j))) := Lib.hid fun w' hw j hj => by
    have h2 := (hB.out w' hw).2 (k + 6 + j) (by rw [← hn.out]; omega)
    rw [Nat.zero_add] at h2
    rw [h2, atLd]
  have hcx3 : ¬ cap = k + 6 + 2 := by omega
  clear hdec hhf
  go_wp2_with fail
  refine HP1.out.mono ?_
  rintro e1 w2 ⟨rfl, rfl⟩
  go_upto_block 7 with fail
  refine cuAll w k V g n cap true T (hexV (T.drop k)) w2 (by omega) hcp hnb huv H4 hF hG hr1.1 hr1.2 ?_
  intro a' w'' hinv
  obtain ⟨u210, u, hinv⟩ := hinv
  obtain ⟨⟨cn1, hC1, hF1', hG1⟩, ha⟩ := hinv
  subst ha
  have hF1 : Hid (FV w'' V true) := Lib.hid hF1'.out.weak
  clear HP1 hF hG hC1 hF1'
  have b0 := H42.out w'' hG1.out 0 (by omega)
  have b1 := H42.out w'' hG1.out 1 (by omega)
  rw [Nat.add_zero] at b0
  have HPY := parseHex (T.drop (k + 6)) g (k + 6 + 2) (cap - (k + 6 + 2)) w'' (fun j hj => by have := H42.out w'' hG1.out (2 + j) (by omega); rw [show k + 6 + 2 + j = k + 6 + (2 + j) by omega]; exact this)
  have HP3 : Hid (Calls Tryd.prog 72 #[.slice (some ⟨g, k + 6 + 2, none⟩) 4 (cap - (k + 6 + 2))] w'' fun e w' => e = .returned (.tuple #[.int .u16 (hexV (T.drop (k + 6))), .bool true]) ∧ w' = w'') := Lib.hid (HPY.mono fun e w' ⟨a, b⟩ => by
    rcases a with ⟨_, a⟩ | ⟨a, _⟩
    · exact ⟨a, b⟩
    · exact absurd p2 a)
  have hr2 := hexV_range (T.drop (k + 6)) p2
  have HDR : Hid (∀ W, Calls Tryd.prog 75 #[.int .i32 (hexV (T.drop k)), .int .i32 (hexV (T.drop (k + 6)))] W fun e w' => e = .returned (.int .i32 (if pairOk (hexV (T.drop k)) (hexV (T.drop (k + 6))) then pairV (hexV (T.drop k)) (hexV (T.drop (k + 6))) else 65533)) ∧ w' = W) := Lib.hid fun W => decRune16 (hexV (T.drop k)) (hexV (T.drop (k + 6))) ⟨hr1.1, hr1.2⟩ ⟨by omega, hr2.2⟩ W
  rw [p0] at b0
  rw [p1] at b1
  clear p0 p1 HPY
  rw [if_neg hp] at HDR
  generalize hexV (T.drop (k + 6)) = d2 at *
  generalize hexV (T.drop k) = d1 at *
  clear hp p2 huv H4 H42
  go_wp2_with fail
  refine (hIS _).mono ?_
  rintro e2 w2 ⟨rfl, rfl⟩
  clear hIS
  go_wp2_with fail
  refine HP3.out.mono ?_
  rintro e2 w2 ⟨rfl, rfl⟩
  clear HP3
  go_wp2_with fail
  refine (HDR.out _).mono ?_
  rintro e2 w2 ⟨rfl, rfl⟩
  clear HDR
  have HJ := Lib.hid (joinS V 2 true true (by decide) (fun _ q => q) _ hF1.out)
  go_wp2_with fail
  refine HJ.out.mono ?_
  rintro e w3 ⟨rfl, hf3, hg3⟩
  have HF3 := Lib.hid hf3
  have HG3 := Lib.hid (grownV_trans hG1.out hg3)
  clear hf3 hg3 HJ hF1 hG1
  have HER : Hid (Calls Tryd.prog 71 #[.slice (some ⟨g, k, none⟩) (k + 6 + 6 - k) (cap - (k))] w3 (OwnErr w3)) := Lib.hid (by
    have h1 := newEscErr ((T.drop (k)).take (k + 6 + 6 - k)) g (k) (cap - (k)) w3 (bytes_sub (hB.out w3 HG3.out).2 _ _) (by rw [List.length_take, List.length_drop]; omega)
    rw [show ((T.drop (k)).take (k + 6 + 6 - k)).length = k + 6 + 6 - k by rw [List.length_take, List.length_drop, ← hn.out]; omega] at h1
    exact h1)
  go_wp2_with fail
  refine HER.out.mono ?_
  rintro e w4 ⟨⟨pe, rfl⟩, hb4⟩
  have HG4 := Lib.hid (grownV_below HG3.out hb4)
  clear hb4 HER
  go_wp2
  exact ⟨_, _, (fun i => [.nilFunc, .nilFunc, .nilFunc, .nilFunc, .nilFunc, .nilFunc, .nilFunc, .nilFunc, .nilFunc, .nilFunc, .nilFunc, .nilFunc, .nilFunc, .nilFunc, _, _, .nilFunc, _, _, _, _, .nilFunc, .nilFunc, .nilFunc, .nilFunc, .nilFunc, .nilFunc, .nilFunc, .nilFunc, .nilFunc, .nilFunc, .nilFunc, .nilFunc, .nilFunc, .nilFunc, .nilFunc, .nilFunc, .nilFunc, .nilFunc, .nilFunc, .nilFunc, .nilFunc, .nilFunc, .nilFunc, .nilFunc, .nilFunc, .nilFunc, .nilFunc, .nilFunc, .nilFunc, .nilFunc, .nilFunc, .nilFunc, .nilFunc, .nilFunc, .nilFunc, .nilFunc, .nilFunc, .nilFunc, .nilFunc, .nilFunc, .nilFunc, .nilFunc, .nilFunc, .nilFunc, .nilFunc, .nilFunc, .nilFunc, .nilFunc, .nilFunc, .nilFunc, .nilFunc, .nilFunc, .nilFunc, .nilFunc, .nilFunc, .nilFunc, .nilFunc, .nilFunc, .nilFunc, .nilFunc, .nilFunc, .nilFunc, .nilFunc, .nilFunc, .nilFunc, .nilFunc, .nilFunc, .nilFunc, .nilFunc, .nilFunc, .nilFunc, .nilFunc, .nilFunc, .nilFunc, .nilFunc, .nilFunc, .nilFunc, .nilFunc, .nilFunc, .nilFunc, .nilFunc, .nilFunc, .nilFunc, .nilFunc, .nilFunc, .nilFunc, .nilFunc, .nilFunc, .nilFunc, .nilFunc, .nilFunc, .nilFunc, .nilFunc, .nilFunc, .nilFunc, .nilFunc, _, _, _, _, _, _, _, _, _, _, _, _, _, _, _, _, _, _, _, _, _, _, _, _, _, _, _, _, _, _, _, _, _, _, _, _, _, _, _, _, _, _, _, _, _, _, _, _, _, _, _, _, _, _, _, _, _, _, _, _, _, _, _, _, _, _, _, _, _, _, _, _, _, _, _, _, _, _, _, _, _, _, _, _, _, _, _, _, _, _, _, _, _, _, _, _, _, _, _, _, _, _, _, _, _, _, _, _, _, _, _, _, _, _, _, _, _, _, _, _, _, _, _, _, _, _, _, _, _, _, _, _, _, _, _, _, _, _, _, _, _, _, _, _, _, _, _, _, _, _, _, _, _, _, _, _, _, _, _, _, _, _, _, _, _, _, _, _, _, _, _, _, _, _, _, _, _, _, _, _, _, _, _, _, _, _, _, _, _, _].getD i .nilFunc), ⟨⟨_, rfl⟩, ⟨_, _, rfl⟩, HG4⟩, rfl⟩
set_option maxRecDepth 1000000 in
set_option maxHeartbeats 16000000 in
theorem ftHalfE {K : Act → World → Prop} {Q' : Exit → Act → World → Prop} (w : World) (k V g n cap : Nat) (lo vb : Bool) (T : List UInt8) (E E2 : Addr) (wr : World) (hvb : Hid (vb = !lo)) (hk : k < n) (hcp : n ≤ cap) (hnb : n ≤ 1000000) (hn : Hid (n = T.length)) (_hT : Hid (∀ w', w.grownBy w' (some V) → Tabs2 w' E E2)) (hB : Hid (∀ w', w.grownBy w' (some V) → g < w'.heap.size ∧ BytesAt w' g 0 T)) (hF : Hid (FV wr V true)) (hG : Hid (w.grownBy wr (some V))) (hI : Hid (FInv lo T k)) (_hk2 : k + 2 ≤ n) (h92 : Hid (atL T k = 92)) (h34 : Hid (¬ atL T k = 34)) (h1 : Hid (atL T (k + 1) = 117)) (h6 : k + 6 ≤ n) (hh : hexOk (T.drop k)) (hlo : lo = false) (hhf : halfU (hexV (T.drop k))) (h12 : k + 12 ≤ n) (p0 : atL (T.drop (k + 6)) 0 = 92) (p1 : atL (T.drop (k + 6)) 1 = 117) (p2 : hexOk (T.drop (k + 6))) (hp : pairOk (hexV (T.drop k)) (hexV (T.drop (k + 6))))
    (hK : ∀ a' w'', ftWE w k V lo T (.pointer (some ⟨V, 0, none⟩)) (.slice (some ⟨g, 0, none⟩) n cap) (.int .i64 (k : Int)) (.bool vb) c4 c5 c6 c7 c10 c11 c12 (.int .u8 117) c16 c21 c22 c23 c24 c25 c26 c27 c28 c29 c30 c31 c32 c33 c34 c35 c36 c37 c38 c39 c40 c41 c42 c43 c44 c45 c46 c47 c48 c49 c50 c51 c52 c53 c54 c55 c56 c57 c58 c59 c60 c61 c62 c63 c64 c65 c66 c67 c68 c69 c70 c71 c72 c73 c74 c75 c76 c77 c78 c79 c80 c81 c82 c83 c84 c85 c86 c87 c88 c89 c90 c91 c92 c93 c94 c95 c96 c97 c98 c99 c100 c101 c102 c103 c104 c105 c106 c107 c108 c109 c110 c111 c112 c113 c114 c115 (.int .u8 117) c307 c308 c309 c310 c311 c312 c313 c314 c315 c316 c317 c318 c319 c320 c321 c322 c323 c324 c325 c326 c327 c328 c329 c330 c331 c332 c333 c334 c335 a' w'' → K a' w'')
    (hR : ∀ a' w'', ftFE w V (.pointer (some ⟨V, 0, none⟩)) (.slice (some ⟨g, 0, none⟩) n cap) (.int .i64 (k : Int)) (.bool vb) c4 c5 c6 c7 c10 c11 c12 (.int .u8 117) c16 c21 c22 c23 c24 c25 c26 c27 c28 c29 c30 c31 c32 c33 c34 c35 c36 c37 c38 c39 c40 c41 c42 c43 c44 c45 c46 c47 c48 c49 c50 c51 c52 c53 c54 c55 c56 c57 c58 c59 c60 c61 c62 c63 c64 c65 c66 c67 c68 c69 c70 c71 c72 c73 c74 c75 c76 c77 c78 c79 c80 c81 c82 c83 c84 c85 c86 c87 c88 c89 c90 c91 c92 c93 c94 c95 c96 c97 c98 c99 c100 c101 c102 c103 c104 c105 c106 c107 c108 c109 c110 c111 c112 c113 c114 c115 (.int .u8 117) c307 c308 c309 c310 c311 c312 c313 c314 c315 c316 c317 c318 c319 c320 c321 c322 c323 c324 c325 c326 c327 c328 c329 c330 c331 c332 c333 c334 c335 a' w'' → Q' .ret a' w'') :
    Code.wp Tryd.prog ftBlk (Exit.then K Q') ⟨#[.pointer (some ⟨V, 0, none⟩), .slice (some ⟨g, 0, none⟩) n cap, .int .i64 (k : Int), .bool vb, c4, c5, c6, c7, .int .i64 (k : Int), v9, c10, c11, c12, .int .u8 117, v14, v15, c16, v17, v18, v19, v20, c21, c22, c23, c24, c25, c26, c27, c28, c29, c30, c31, c32, c33, c34, c35, c36, c37, c38, c39, c40, c41, c42, c43, c44, c45, c46, c47, c48, c49, c50, c51, c52, c53, c54, c55, c56, c57, c58, c59, c60, c61, c62, c63, c64, c65, c66, c67, c68, c69, c70, c71, c72, c73, c74, c75, c76, c77, c78, c79, c80, c81, c82, c83, c84, c85, c86, c87, c88, c89, c90, c91, c92, c93, c94, c95, c96, c97, c98, c99, c100, c101, c102, c103, c104, c105, c106, c107, c108, c109, c110, c111, c112, c113, c114, c115, .int .u8 117, v117, v118, v119, v120, v121, v122, v123, v124, v125, v126, v127, v128, v129, v130, v131, v132, v133, v134, v135, v136, v137, v138, v139, v140, v141, v142, v143, v144, v145, v146, v147, v148, v149, v150, v151, v152, v153, v154, v155, v156, v157, v158, v159, v160, v161, v162, v163, v164, v165, v166, v167, v168, v169, v170, v171, v172, v173, v174, v175, v176, v177, v178, v179, v180, v181, v182, v183, v184, v185, v186, v187, v188, v189, v190, v191, v192, v193, v194, v195, v196, v197, v198, v199, v200, v201, v202, v203, v204, v205, v206, v207, v208, v209, v210, v211, v212, v213, v214, v215, v216, v217, v218, v219, v220, v221, v222, v223, v224, v225, v226, v227, v228, v229, v230, v231, v232, v233, v234, v235, v236, v237, v238, v239, v240, v241, v242, v243, v244, v245, v246, v247, v248, v249, v250, v251, v252, v253, v254, v255, v256, v257, v258, v259, v260, v261, v262, v263, v264, v265, v266, v267, v268, v269, v270, v271, v272, v273, v274, v275, v276, v277, v278, v279, v280, v281, v282, v283, v284, v285, v286, v287, v288, v289, v290, v291, v292, v293, v294, v295, v296, v297, v298, v299, v300, v301, v302, v303, v304, v305, v306, c307, c308, c309, c310, c311, c312, c313, c314, c315, c316, c317, c318, c319, c320, c321, c322, c323, c324, c325, c326, c327, c328, c329, c330, c331, c332, c333, c334, c335], []⟩ wr := by
  conv => arg 2; whnf
  have hkm : Hid (k < T.length) := Lib.hid (by rw [← hn.out]; exact hk)
  have H4 : Hid (∀ w', w.grownBy w' (some V) → ∀ j, j < 4 → w'.cell? ⟨g, k + 2 + j, none⟩ = some (.int .u8 (atL (T.drop k) (2 + j)))) := Lib.hid fun w' hw j hj => by
    have h2 := (hB.out w' hw).2 (k + 2 + j) (by rw [← hn.out]; omega)
    rw [Nat.zero_add] at h2
    rw [h2, atLd, show k + (2 + j) = k + 2 + j by omega]
  have HPX := parseHex (T.drop k) g (k + 2) (cap - (k + 2)) wr (H4.out wr hG.out)
  have hcx1 : ¬ cap = k + 2 := by omega
  have HP1 : Hid (Calls Tryd.prog 72 #[.slice (some ⟨g, k + 2, none⟩) 4 (cap - (k + 2))] wr fun e w' => e = .returned (.tuple #[.int .u16 (hexV (T.drop k)), .bool true]) ∧ w' = wr) := Lib.hid (HPX.mono fun e w' ⟨a, b⟩ => by
    rcases a with ⟨_, a⟩ | ⟨a, _⟩
    · exact ⟨a, b⟩
    · exact absurd hh a)
  have huv : Hid (uV (T.drop k) = hexV (T.drop k)) := Lib.hid (by
    unfold uV
    rw [if_pos ⟨by rw [List.length_drop, ← hn.out]; omega, by rw [atLd]; exact h92.out, by rw [atLd]; exact h1.out, hh⟩])
  have hr1 := hexV_range (T.drop k) hh
  have hIS : ∀ W, Calls Tryd.prog 73 #[.int .i32 (hexV (T.drop k))] W fun e w' => e = .returned (.bool (decide (halfU (hexV (T.drop k))))) ∧ w' = W := fun W => isSurr (hexV (T.drop k)) _ rfl W
  clear HPX
  have hvf : vb = true := by rw [hvb.out, hlo]; rfl
  have hdec : decide (halfU (hexV (T.drop k))) = true := decide_eq_true hhf
  rw [hdec] at hIS
  subst hvf
  have H42 : Hid (∀ w', w.grownBy w' (some V) → ∀ j, j < 6 → w'.cell? ⟨g, k + 6 + j, none⟩ = some (.int .u8 (atL (T.drop (k + 6)) j))) := Lib.hid fun w' hw j hj => by
    have h2 := (hB.out w' hw).2 (k + 6 + j) (by rw [← hn.out]; omega)
    rw [Nat.zero_add] at h2
    rw [h2, atLd]
  have hcx3 : ¬ cap = k + 6 + 2 := by omega
  have HI : Hid (FInv lo T (k + 12)) := Lib.hid (by
    subst hlo
    refine hI.out.next hkm.out h34.out 12 (step_pair h92.out h1.out (by rw [← hn.out]; exact h12) hh ?_ ?_ p2 hp)
    · rw [← p0, atLd]
    · rw [← p1, atLd])
  have hpr := pairV_range hp
  clear hdec hhf
  go_wp2_with fail
  refine HP1.out.mono ?_
  rintro e1 w2 ⟨rfl, rfl⟩
  go_upto_block 7 with fail
  refine cuAll w k V g n cap true T (hexV (T.drop k)) w2 (by omega) hcp hnb huv H4 hF hG hr1.1 hr1.2 ?_
  intro a' w'' hinv
  obtain ⟨u210, u, hinv⟩ := hinv
  obtain ⟨⟨cn1, hC1, hF1', hG1⟩, ha⟩ := hinv
  subst ha
  have hF1 : Hid (FV w'' V true) := Lib.hid hF1'.out.weak
  clear HP1 hF hG hC1 hF1'
  have b0 := H42.out w'' hG1.out 0 (by omega)
  have b1 := H42.out w'' hG1.out 1 (by omega)
  rw [Nat.add_zero] at b0
  have HPY := parseHex (T.drop (k + 6)) g (k + 6 + 2) (cap - (k + 6 + 2)) w'' (fun j hj => by have := H42.out w'' hG1.out (2 + j) (by omega); rw [show k + 6 + 2 + j = k + 6 + (2 + j) by omega]; exact this)
  have HP3 : Hid (Calls Tryd.prog 72 #[.slice (some ⟨g, k + 6 + 2, none⟩) 4 (cap - (k + 6 + 2))] w'' fun e w' => e = .returned (.tuple #[.int .u16 (hexV (T.drop (k + 6))), .bool true]) ∧ w' = w'') := Lib.hid (HPY.mono fun e w' ⟨a, b⟩ => by
    rcases a with ⟨_, a⟩ | ⟨a, _⟩
    · exact ⟨a, b⟩
    · exact absurd p2 a)
  have hr2 := hexV_range (T.drop (k + 6)) p2
  have HDR : Hid (∀ W, Calls Tryd.prog 75 #[.int .i32 (hexV (T.drop k)), .int .i32 (hexV (T.drop (k + 6)))] W fun e w' => e = .returned (.int .i32 (if pairOk (hexV (T.drop k)) (hexV (T.drop (k + 6))) then pairV (hexV (T.drop k)) (hexV (T.drop (k + 6))) else 65533)) ∧ w' = W) := Lib.hid fun W => decRune16 (hexV (T.drop k)) (hexV (T.drop (k + 6))) ⟨hr1.1, hr1.2⟩ ⟨by omega, hr2.2⟩ W
  rw [p0] at b0
  rw [p1] at b1
  clear p0 p1 HPY
  rw [if_pos hp] at HDR
  generalize pairV (hexV (T.drop k)) (hexV (T.drop (k + 6))) = pv at *
  generalize hexV (T.drop (k + 6)) = d2 at *
  generalize hexV (T.drop k) = d1 at *
  have hpe : (pv == 65533) = false := by simp; omega
  clear hp p2 huv H4 H42
  go_wp2_with fail
  refine (hIS _).mono ?_
  rintro e2 w2 ⟨rfl, rfl⟩
  clear hIS
  go_wp2_with fail
  refine HP3.out.mono ?_
  rintro e2 w2 ⟨rfl, rfl⟩
  clear HP3
  go_wp2_with fail
  refine (HDR.out _).mono ?_
  rintro e2 w2 ⟨rfl, rfl⟩
  clear HDR
  go_wp2
  refine ⟨_, (fun i => [.nilFunc, .nilFunc, .nilFunc, .nilFunc, .nilFunc, .nilFunc, .nilFunc, .nilFunc, .nilFunc, _, .nilFunc, .nilFunc, .nilFunc, .nilFunc, _, _, .nilFunc, _, _, _, _, .nilFunc, .nilFunc, .nilFunc, .nilFunc, .nilFunc, .nilFunc, .nilFunc, .nilFunc, .nilFunc, .nilFunc, .nilFunc, .nilFunc, .nilFunc, .nilFunc, .nilFunc, .nilFunc, .nilFunc, .nilFunc, .nilFunc, .nilFunc, .nilFunc, .nilFunc, .nilFunc, .nilFunc, .nilFunc, .nilFunc, .nilFunc, .nilFunc, .nilFunc, .nilFunc, .nilFunc, .nilFunc, .nilFunc, .nilFunc, .nilFunc, .nilFunc, .nilFunc, .nilFunc, .nilFunc, .nilFunc, .nilFunc, .nilFunc, .nilFunc, .nilFunc, .nilFunc, .nilFunc, .nilFunc, .nilFunc, .nilFunc, .nilFunc, .nilFunc, .nilFunc, .nilFunc, .nilFunc, .nilFunc, .nilFunc, .nilFunc, .nilFunc, .nilFunc, .nilFunc, .nilFunc, .nilFunc, .nilFunc, .nilFunc, .nilFunc, .nilFunc, .nilFunc, .nilFunc, .nilFunc, .nilFunc, .nilFunc, .nilFunc, .nilFunc, .nilFunc, .nilFunc, .nilFunc, .nilFunc, .nilFunc, .nilFunc, .nilFunc, .nilFunc, .nilFunc, .nilFunc, .nilFunc, .nilFunc, .nilFunc, .nilFunc, .nilFunc, .nilFunc, .nilFunc, .nilFunc, .nilFunc, .nilFunc, .nilFunc, .nilFunc, .nilFunc, _, _, _, _, _, _, _, _, _, _, _, _, _, _, _, _, _, _, _, _, _, _, _, _, _, _, _, _, _, _, _, _, _, _, _, _, _, _, _, _, _, _, _, _, _, _, _, _, _, _, _, _, _, _, _, _, _, _, _, _, _, _, _, _, _, _, _, _, _, _, _, _, _, _, _, _, _, _, _, _, _, _, _, _, _, _, _, _, _, _, _, _, _, _, _, _, _, _, _, _, _, _, _, _, _, _, _, _, _, _, _, _, _, _, _, _, _, _, _, _, _, _, _, _, _, _, _, _, _, _, _, _, _, _, _, _, _, _, _, _, _, _, _, _, _, _, _, _, _, _, _, _, _, _, _, _, _, _, _, _, _, _, _, _, _, _, _, _, _, _, _, _, _, _, _, _, _, _, _, _, _, _, _, _, _, _, _, _, _, _].getD i .nilFunc), ⟨k + 12, by omega, by go_num, HI, hF1, hG1⟩, rfl⟩
set_option maxRecDepth 1000000 in
set_option maxHeartbeats 8000000 in
theorem ftAll {K : Act → World → Prop} {Q' : Exit → Act → World → Prop} (w : World) (k V g n cap : Nat) (lo vb : Bool) (T : List UInt8) (E E2 : Addr) (c : Nat) (wr : World) (hvb : Hid (vb = !lo)) (hk : k < n) (hcp : n ≤ cap) (hnb : n ≤ 1000000) (hn : Hid (n = T.length)) (hT : Hid (∀ w', w.grownBy w' (some V) → Tabs2 w' E E2)) (hB : Hid (∀ w', w.grownBy w' (some V) → g < w'.heap.size ∧ BytesAt w' g 0 T)) (hF : Hid (FV wr V true)) (hG : Hid (w.grownBy wr (some V))) (hI : Hid (FInv lo T k)) (hk2 : k + 2 ≤ n) (h92 : Hid (atL T k = 92)) (h34 : Hid (¬ atL T k = 34)) (hc : Hid (atL T (k + 1) = c))
    (hK : ∀ a' w'', ftWE w k V lo T (.pointer (some ⟨V, 0, none⟩)) (.slice (some ⟨g, 0, none⟩) n cap) (.int .i64 (k : Int)) (.bool vb) c4 c5 c6 c7 c10 c11 c12 (.int .u8 c) c16 c21 c22 c23 c24 c25 c26 c27 c28 c29 c30 c31 c32 c33 c34 c35 c36 c37 c38 c39 c40 c41 c42 c43 c44 c45 c46 c47 c48 c49 c50 c51 c52 c53 c54 c55 c56 c57 c58 c59 c60 c61 c62 c63 c64 c65 c66 c67 c68 c69 c70 c71 c72 c73 c74 c75 c76 c77 c78 c79 c80 c81 c82 c83 c84 c85 c86 c87 c88 c89 c90 c91 c92 c93 c94 c95 c96 c97 c98 c99 c100 c101 c102 c103 c104 c105 c106 c107 c108 c109 c110 c111 c112 c113 c114 c115 (.int .u8 c) c307 c308 c309 c310 c311 c312 c313 c314 c315 c316 c317 c318 c319 c320 c321 c322 c323 c324 c325 c326 c327 c328 c329 c330 c331 c332 c333 c334 c335 a' w'' → K a' w'')
    (hR : ∀ a' w'', ftFE w V (.pointer (some ⟨V, 0, none⟩)) (.slice (some ⟨g, 0, none⟩) n cap) (.int .i64 (k : Int)) (.bool vb) c4 c5 c6 c7 c10 c11 c12 (.int .u8 c) c16 c21 c22 c23 c24 c25 c26 c27 c28 c29 c30 c31 c32 c33 c34 c35 c36 c37 c38 c39 c40 c41 c42 c43 c44 c45 c46 c47 c48 c49 c50 c51 c52 c53 c54 c55 c56 c57 c58 c59 c60 c61 c62 c63 c64 c65 c66 c67 c68 c69 c70 c71 c72 c73 c74 c75 c76 c77 c78 c79 c80 c81 c82 c83 c84 c85 c86 c87 c88 c89 c90 c91 c92 c93 c94 c95 c96 c97 c98 c99 c100 c101 c102 c103 c104 c105 c106 c107 c108 c109 c110 c111 c112 c113 c114 c115 (.int .u8 c) c307 c308 c309 c310 c311 c312 c313 c314 c315 c316 c317 c318 c319 c320 c321 c322 c323 c324 c325 c326 c327 c328 c329 c330 c331 c332 c333 c334 c335 a' w'' → Q' .ret a' w'') :
    Code.wp Tryd.prog ftBlk (Exit.then K Q') ⟨#[.pointer (some ⟨V, 0, none⟩), .slice (some ⟨g, 0, none⟩) n cap, .int .i64 (k : Int), .bool vb, c4, c5, c6, c7, .int .i64 (k : Int), v9, c10, c11, c12, .int .u8 c, v14, v15, c16, v17, v18, v19, v20, c21, c22, c23, c24, c25, c26, c27, c28, c29, c30, c31, c32, c33, c34, c35, c36, c37, c38, c39, c40, c41, c42, c43, c44, c45, c46, c47, c48, c49, c50, c51, c52, c53, c54, c55, c56, c57, c58, c59, c60, c61, c62, c63, c64, c65, c66, c67, c68, c69, c70, c71, c72, c73, c74, c75, c76, c77, c78, c79, c80, c81, c82, c83, c84, c85, c86, c87, c88, c89, c90, c91, c92, c93, c94, c95, c96, c97, c98, c99, c100, c101, c102, c103, c104, c105, c106, c107, c108, c109, c110, c111, c112, c113, c114, c115, .int .u8 c, v117, v118, v119, v120, v121, v122, v123, v124, v125, v126, v127, v128, v129, v130, v131, v132, v133, v134, v135, v136, v137, v138, v139, v140, v141, v142, v143, v144, v145, v146, v147, v148, v149, v150, v151, v152, v153, v154, v155, v156, v157, v158, v159, v160, v161, v162, v163, v164, v165, v166, v167, v168, v169, v170, v171, v172, v173, v174, v175, v176, v177, v178, v179, v180, v181, v182, v183, v184, v185, v186, v187, v188, v189, v190, v191, v192, v193, v194, v195, v196, v197, v198, v199, v200, v201, v202, v203, v204, v205, v206, v207, v208, v209, v210, v211, v212, v213, v214, v215, v216, v217, v218, v219, v220, v221, v222, v223, v224, v225, v226, v227, v228, v229, v230, v231, v232, v233, v234, v235, v236, v237, v238, v239, v240, v241, v242, v243, v244, v245, v246, v247, v248, v249, v250, v251, v252, v253, v254, v255, v256, v257, v258, v259, v260, v261, v262, v263, v264, v265, v266, v267, v268, v269, v270, v271, v272, v273, v274, v275, v276, v277, v278, v279, v280, v281, v282, v283, v284, v285, v286, v287, v288, v289, v290, v291, v292, v293, v294, v295, v296, v297, v298, v299, v300, v301, v302, v303, v304, v305, v306, c307, c308, c309, c310, c311, c312, c313, c314, c315, c316, c317, c318, c319, c320, c321, c322, c323, c324, c325, c326, c327, c328, c329, c330, c331, c332, c333, c334, c335], []⟩ wr := by
  have hcq := hc.out
  by_cases q47 : c = 47
  · subst q47
    exact ftSlash w k V g n cap lo vb T E E2 wr hvb hk hcp hnb hn hT hB hF hG hI hk2 h92 h34 (Lib.hid hcq) hK hR
  by_cases q34 : c = 34
  · subst q34
    exact ft34 w k V g n cap lo vb T E E2 wr hvb hk hcp hnb hn hT hB hF hG hI hk2 h92 h34 (Lib.hid hcq) hK hR
  by_cases q92 : c = 92
  · subst q92
    exact ft92 w k V g n cap lo vb T E E2 wr hvb hk hcp hnb hn hT hB hF hG hI hk2 h92 h34 (Lib.hid hcq) hK hR
  by_cases q98 : c = 98
  · subst q98
    exact ft98 w k V g n cap lo vb T E E2 wr hvb hk hcp hnb hn hT hB hF hG hI hk2 h92 h34 (Lib.hid hcq) hK hR
  by_cases q102 : c = 102
  · subst q102
    exact ft102 w k V g n cap lo vb T E E2 wr hvb hk hcp hnb hn hT hB hF hG hI hk2 h92 h34 (Lib.hid hcq) hK hR
  by_cases q110 : c = 110
  · subst q110
    exact ft110 w k V g n cap lo vb T E E2 wr hvb hk hcp hnb hn hT hB hF hG hI hk2 h92 h34 (Lib.hid hcq) hK hR
  by_cases q114 : c = 114
  · subst q114
    exact ft114 w k V g n cap lo vb T E E2 wr hvb hk hcp hnb hn hT hB hF hG hI hk2 h92 h34 (Lib.hid hcq) hK hR
  by_cases q116 : c = 116
  · subst q116
    exact ft116 w k V g n cap lo vb T E E2 wr hvb hk hcp hnb hn hT hB hF hG hI hk2 h92 h34 (Lib.hid hcq) hK hR
  by_cases q117 : c = 117
  · subst q117
    by_cases h6 : k + 6 ≤ n
    · by_cases hh : hexOk (T.drop k)
      · cases hlo : lo
        · subst hlo
          by_cases hhf : halfU (hexV (T.drop k))
          · by_cases h12 : k + 12 ≤ n
            · by_cases p0 : atL (T.drop (k + 6)) 0 = 92
              · by_cases p1 : atL (T.drop (k + 6)) 1 = 117
                · by_cases p2 : hexOk (T.drop (k + 6))
                  · by_cases hp : pairOk (hexV (T.drop k)) (hexV (T.drop (k + 6)))
                    · exact ftHalfE w k V g n cap false vb T E E2 wr hvb hk hcp hnb hn hT hB hF hG hI hk2 h92 h34 (Lib.hid hcq) h6 hh rfl hhf h12 p0 p1 p2 hp hK hR
                    · exact ftHalfD w k V g n cap false vb T E E2 wr hvb hk hcp hnb hn hT hB hF hG hI hk2 h92 h34 (Lib.hid hcq) h6 hh rfl hhf h12 p0 p1 p2 hp hK hR
                  · exact ftHalfC w k V g n cap false vb T E E2 wr hvb hk hcp hnb hn hT hB hF hG hI hk2 h92 h34 (Lib.hid hcq) h6 hh rfl hhf h12 p0 p1 p2 hK hR
                · exact ftHalfB w k V g n cap false vb T E E2 wr hvb hk hcp hnb hn hT hB hF hG hI hk2 h92 h34 (Lib.hid hcq) h6 hh rfl hhf h12 p0 p1 hK hR
              · exact ftHalfA w k V g n cap false vb T E E2 wr hvb hk hcp hnb hn hT hB hF hG hI hk2 h92 h34 (Lib.hid hcq) h6 hh rfl hhf h12 p0 hK hR
            · by_cases hcx2 : cap = k + 6
              · exact ftHalfEnd0 w k V g n cap false vb T E E2 wr hvb hk hcp hnb hn hT hB hF hG hI hk2 h92 h34 (Lib.hid hcq) h6 hh rfl hhf (by omega) hcx2 hK hR
              · exact ftHalfEnd w k V g n cap false vb T E E2 wr hvb hk hcp hnb hn hT hB hF hG hI hk2 h92 h34 (Lib.hid hcq) h6 hh rfl hhf (by omega) hcx2 hK hR
          · exact ftNoHalf w k V g n cap false vb T E E2 wr hvb hk hcp hnb hn hT hB hF hG hI hk2 h92 h34 (Lib.hid hcq) h6 hh rfl hhf hK hR
        · subst hlo
          exact ftLoose w k V g n cap true vb T E E2 wr hvb hk hcp hnb hn hT hB hF hG hI hk2 h92 h34 (Lib.hid hcq) h6 hh rfl hK hR
      · exact ftNoHex w k V g n cap lo vb T E E2 wr hvb hk hcp hnb hn hT hB hF hG hI hk2 h92 h34 (Lib.hid hcq) h6 hh hK hR
    · exact ftShort w k V g n cap lo vb T E E2 wr hvb hk hcp hnb hn hT hB hF hG hI hk2 h92 h34 (Lib.hid hcq) (by omega) hK hR
  exact ftBad w k V g n cap lo vb T E E2 wr hvb hk hcp hnb hn hT hB hF hG hI hk2 h92 h34 c q47 q34 q92 q98 q102 q110 q114 q116 q117 hK hR
end
end Go.Proofs.YtldcoaigecnpfaaDoor
