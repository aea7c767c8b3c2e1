/- jsonwire.ConsumeString over a text that begins with no string, walked: it answers an error. -/
import Derived.Test.YtldcoaigecnpfaaDoorGConsF
namespace Go.Proofs.YtldcoaigecnpfaaDoor
open Go.RowKit
theorem FInv.many {T : List UInt8} {k : Nat} (h : FInv true T k) : ∀ d, (∀ j, j < d → 128 ≤ atL T (k + j)) → k + d ≤ T.length → FInv true T (k + d)
  | 0, _, _ => h
  | d + 1, hd, hl => by
    have h1 := FInv.many h d (fun j hj => hd j (by omega)) (by omega)
    have h2 := hd d (by omega)
    exact h1.next (by omega) (by omega) 1 (stepN_one (by omega) (by omega) (Or.inr rfl))
def CsFail (V : Nat) (w : World) (en : Ending) (w' : World) : Prop := ∃ (z : Int) (er : Value), en = .returned (.tuple #[.int .i64 z, er]) ∧ ErrV er ∧ w.grownBy w' (some V)
/-- The block of a number in a function's code. -/
def fsAt (n : Nat) : Code → Option Code
  | .block k c => if k = n then some (.block k c) else fsAt n c
  | .seq a b => match fsAt n a with
    | some c => some c
    | none => fsAt n b
  | .loop c => fsAt n c
  | .scope c => fsAt n c
  | .cond _ a b => match fsAt n a with
    | some c => some c
    | none => fsAt n b
  | _ => none
noncomputable def fsBlk : Code := ((Tryd.f78.body.bind (fsAt 5)).getD .skip)
set_option maxRecDepth 1000000 in
/-- What stands behind the block. -/
def fsWE (w : World) (k V : Nat) (lo : Bool) (T : List UInt8) (c0 c1 c3 c4 c5 c6 c7 c10 c11 c12 c16 c21 c22 c23 c24 c25 c26 c27 c28 c29 c30 c31 c32 c33 c34 c35 c36 c37 c38 c39 c40 c41 c42 c43 c44 c45 c46 c47 c48 c49 c50 c51 c52 c53 c54 c55 c56 c57 c58 c59 c60 c61 c62 c63 c64 c65 c66 c67 c68 c69 c70 c71 c72 c73 c74 c75 c76 c77 c78 c79 c80 c81 c82 c83 c84 c85 c86 c87 c88 c334 c335 : Value) (a : Act) (w' : World) : Prop := ∃ (u2 u8 : Value) (u : Nat → Value), ((∃ z' : Int, u2 = .int .i64 z') ∧ ∃ (k' : Nat), k < k' ∧ u8 = .int .i64 (k' : Int) ∧ Hid (FInv lo T k') ∧ Hid (FV w' V true) ∧ Hid (w.grownBy w' (some V))) ∧ a = ⟨#[c0, c1, u2, c3, c4, c5, c6, c7, u8, u 9, c10, c11, c12, u 13, u 14, u 15, c16, u 17, u 18, u 19, u 20, c21, c22, c23, c24, c25, c26, c27, c28, c29, c30, c31, c32, c33, c34, c35, c36, c37, c38, c39, c40, c41, c42, c43, c44, c45, c46, c47, c48, c49, c50, c51, c52, c53, c54, c55, c56, c57, c58, c59, c60, c61, c62, c63, c64, c65, c66, c67, c68, c69, c70, c71, c72, c73, c74, c75, c76, c77, c78, c79, c80, c81, c82, c83, c84, c85, c86, c87, c88, u 89, u 90, u 91, u 92, u 93, u 94, u 95, u 96, u 97, u 98, u 99, u 100, u 101, u 102, u 103, u 104, u 105, u 106, u 107, u 108, u 109, u 110, u 111, u 112, u 113, u 114, u 115, u 116, u 117, u 118, u 119, u 120, u 121, u 122, u 123, u 124, u 125, u 126, u 127, u 128, u 129, u 130, u 131, u 132, u 133, u 134, u 135, u 136, u 137, u 138, u 139, u 140, u 141, u 142, u 143, u 144, u 145, u 146, u 147, u 148, u 149, u 150, u 151, u 152, u 153, u 154, u 155, u 156, u 157, u 158, u 159, u 160, u 161, u 162, u 163, u 164, u 165, u 166, u 167, u 168, u 169, u 170, u 171, u 172, u 173, u 174, u 175, u 176, u 177, u 178, u 179, u 180, u 181, u 182, u 183, u 184, u 185, u 186, u 187, u 188, u 189, u 190, u 191, u 192, u 193, u 194, u 195, u 196, u 197, u 198, u 199, u 200, u 201, u 202, u 203, u 204, u 205, u 206, u 207, u 208, u 209, u 210, u 211, u 212, u 213, u 214, u 215, u 216, u 217, u 218, u 219, u 220, u 221, u 222, u 223, u 224, u 225, u 226, u 227, u 228, u 229, u 230, u 231, u 232, u 233, u 234, u 235, u 236, u 237, u 238, u 239, u 240, u 241, u 242, u 243, u 244, u 245, u 246, u 247, u 248, u 249, u 250, u 251, u 252, u 253, u 254, u 255, u 256, u 257, u 258, u 259, u 260, u 261, u 262, u 263, u 264, u 265, u 266, u 267, u 268, u 269, u 270, u 271, u 272, u 273, u 274, u 275, u 276, u 277, u 278, u 279, u 280, u 281, u 282, u 283, u 284, u 285, u 286, u 287, u 288, u 289, u 290, u 291, u 292, u 293, u 294, u 295, u 296, u 297, u 298, u 299, u 300, u 301, u 302, u 303, u 304, u 305, u 306, u 307, u 308, u 309, u 310, u 311, u 312, u 313, u 314, u 315, u 316, u 317, u 318, u 319, u 320, u 321, u 322, u 323, u 324, u 325, u 326, u 327, u 328, u 329, u 330, u 331, u 332, u 333, c334, c335], []⟩
set_option maxRecDepth 1000000 in
/-- What stands where the block returns. -/
def fsFE (w : World) (V : Nat) (c0 c1 c3 c4 c5 c6 c7 c10 c11 c12 c16 c21 c22 c23 c24 c25 c26 c27 c28 c29 c30 c31 c32 c33 c34 c35 c36 c37 c38 c39 c40 c41 c42 c43 c44 c45 c46 c47 c48 c49 c50 c51 c52 c53 c54 c55 c56 c57 c58 c59 c60 c61 c62 c63 c64 c65 c66 c67 c68 c69 c70 c71 c72 c73 c74 c75 c76 c77 c78 c79 c80 c81 c82 c83 c84 c85 c86 c87 c88 c334 c335 : Value) (a : Act) (w' : World) : Prop := ∃ (u8 u9 : Value) (u : Nat → Value), ((∃ z : Int, u8 = .int .i64 z) ∧ ErrV u9 ∧ Hid (w.grownBy w' (some V))) ∧ a = ⟨#[c0, c1, u 2, c3, c4, c5, c6, c7, u8, u9, c10, c11, c12, u 13, u 14, u 15, c16, u 17, u 18, u 19, u 20, c21, c22, c23, c24, c25, c26, c27, c28, c29, c30, c31, c32, c33, c34, c35, c36, c37, c38, c39, c40, c41, c42, c43, c44, c45, c46, c47, c48, c49, c50, c51, c52, c53, c54, c55, c56, c57, c58, c59, c60, c61, c62, c63, c64, c65, c66, c67, c68, c69, c70, c71, c72, c73, c74, c75, c76, c77, c78, c79, c80, c81, c82, c83, c84, c85, c86, c87, c88, u 89, u 90, u 91, u 92, u 93, u 94, u 95, u 96, u 97, u 98, u 99, u 100, u 101, u 102, u 103, u 104, u 105, u 106, u 107, u 108, u 109, u 110, u 111, u 112, u 113, u 114, u 115, u 116, u 117, u 118, u 119, u 120, u 121, u 122, u 123, u 124, u 125, u 126, u 127, u 128, u 129, u 130, u 131, u 132, u 133, u 134, u 135, u 136, u 137, u 138, u 139, u 140, u 141, u 142, u 143, u 144, u 145, u 146, u 147, u 148, u 149, u 150, u 151, u 152, u 153, u 154, u 155, u 156, u 157, u 158, u 159, u 160, u 161, u 162, u 163, u 164, u 165, u 166, u 167, u 168, u 169, u 170, u 171, u 172, u 173, u 174, u 175, u 176, u 177, u 178, u 179, u 180, u 181, u 182, u 183, u 184, u 185, u 186, u 187, u 188, u 189, u 190, u 191, u 192, u 193, u 194, u 195, u 196, u 197, u 198, u 199, u 200, u 201, u 202, u 203, u 204, u 205, u 206, u 207, u 208, u 209, u 210, u 211, u 212, u 213, u 214, u 215, u 216, u 217, u 218, u 219, u 220, u 221, u 222, u 223, u 224, u 225, u 226, u 227, u 228, u 229, u 230, u 231, u 232, u 233, u 234, u 235, u 236, u 237, u 238, u 239, u 240, u 241, u 242, u 243, u 244, u 245, u 246, u 247, u 248, u 249, u 250, u 251, u 252, u 253, u 254, u 255, u 256, u 257, u 258, u 259, u 260, u 261, u 262, u 263, u 264, u 265, u 266, u 267, u 268, u 269, u 270, u 271, u 272, u 273, u 274, u 275, u 276, u 277, u 278, u 279, u 280, u 281, u 282, u 283, u 284, u 285, u 286, u 287, u 288, u 289, u 290, u 291, u 292, u 293, u 294, u 295, u 296, u 297, u 298, u 299, u 300, u 301, u 302, u 303, u 304, u 305, u 306, u 307, u 308, u 309, u 310, u 311, u 312, u 313, u 314, u 315, u 316, u 317, u 318, u 319, u 320, u 321, u 322, u 323, u 324, u 325, u 326, u 327, u 328, u 329, u 330, u 331, u 332, u 333, c334, c335], []⟩
section
variable {c4 c5 c6 c7 v9 c10 v13 v14 v15 c16 v17 v18 v19 v20 c21 c22 c23 c24 c25 c26 c27 c28 c29 c30 c31 c32 c33 c34 c35 c36 c37 c38 c39 c40 c41 c42 c43 c44 c45 c46 c47 c48 c49 c50 c51 c52 c53 c54 c55 c56 c57 c58 c59 c60 c61 c62 c63 c64 c65 c66 c67 c68 c69 c70 c71 c72 c73 c74 c75 c76 c77 c78 c79 c80 c81 c82 c83 c84 c85 c86 c87 c88 v89 v90 v91 v92 v93 v94 v95 v96 v97 v98 v99 v100 v101 v102 v103 v104 v105 v106 v107 v108 v109 v110 v111 v112 v113 v114 v115 v116 v117 v118 v119 v120 v121 v122 v123 v124 v125 v126 v127 v128 v129 v130 v131 v132 v133 v134 v135 v136 v137 v138 v139 v140 v141 v142 v143 v144 v145 v146 v147 v148 v149 v150 v151 v152 v153 v154 v155 v156 v157 v158 v159 v160 v161 v162 v163 v164 v165 v166 v167 v168 v169 v170 v171 v172 v173 v174 v175 v176 v177 v178 v179 v180 v181 v182 v183 v184 v185 v186 v187 v188 v189 v190 v191 v192 v193 v194 v195 v196 v197 v198 v199 v200 v201 v202 v203 v204 v205 v206 v207 v208 v209 v210 v211 v212 v213 v214 v215 v216 v217 v218 v219 v220 v221 v222 v223 v224 v225 v226 v227 v228 v229 v230 v231 v232 v233 v234 v235 v236 v237 v238 v239 v240 v241 v242 v243 v244 v245 v246 v247 v248 v249 v250 v251 v252 v253 v254 v255 v256 v257 v258 v259 v260 v261 v262 v263 v264 v265 v266 v267 v268 v269 v270 v271 v272 v273 v274 v275 v276 v277 v278 v279 v280 v281 v282 v283 v284 v285 v286 v287 v288 v289 v290 v291 v292 v293 v294 v295 v296 v297 v298 v299 v300 v301 v302 v303 v304 v305 v306 v307 v308 v309 v310 v311 v312 v313 v314 v315 v316 v317 v318 v319 v320 v321 v322 v323 v324 v325 v326 v327 v328 v329 v330 v331 v332 v333 c334 c335 : Value}
set_option maxRecDepth 1000000 in
set_option maxHeartbeats 8000000 in
theorem fsMul {K : Act → World → Prop} {Q' : Exit → Act → World → Prop} (w : World) (k V g n cap : Nat) (lo vb : Bool) (T : List UInt8) (E E2 : Addr) (z r : Int) (wd : Nat) (wr : World) (_hvb : Hid (vb = !lo)) (hk : k < n) (_hcp : n ≤ cap) (hnb : n ≤ 1000000) (hn : Hid (n = T.length)) (_hT : Hid (∀ w', w.grownBy w' (some V) → Tabs2 w' E E2)) (_hB : Hid (∀ w', w.grownBy w' (some V) → g < w'.heap.size ∧ BytesAt w' g 0 T)) (hF : Hid (FV wr V true)) (hG : Hid (w.grownBy wr (some V))) (_hI : Hid (FInv lo T k)) (hw2 : 2 ≤ wd) (HI : Hid (FInv lo T (k + wd)))
    (hK : ∀ a' w'', fsWE w k V lo T (.pointer (some ⟨V, 0, none⟩)) (.slice (some ⟨g, 0, none⟩) n cap) (.bool vb) c4 c5 c6 c7 c10 (.int .i32 r) (.int .i64 wd) c16 c21 c22 c23 c24 c25 c26 c27 c28 c29 c30 c31 c32 c33 c34 c35 c36 c37 c38 c39 c40 c41 c42 c43 c44 c45 c46 c47 c48 c49 c50 c51 c52 c53 c54 c55 c56 c57 c58 c59 c60 c61 c62 c63 c64 c65 c66 c67 c68 c69 c70 c71 c72 c73 c74 c75 c76 c77 c78 c79 c80 c81 c82 c83 c84 c85 c86 c87 c88 c334 c335 a' w'' → K a' w'')
    (_hR : ∀ a' w'', fsFE w V (.pointer (some ⟨V, 0, none⟩)) (.slice (some ⟨g, 0, none⟩) n cap) (.bool vb) c4 c5 c6 c7 c10 (.int .i32 r) (.int .i64 wd) c16 c21 c22 c23 c24 c25 c26 c27 c28 c29 c30 c31 c32 c33 c34 c35 c36 c37 c38 c39 c40 c41 c42 c43 c44 c45 c46 c47 c48 c49 c50 c51 c52 c53 c54 c55 c56 c57 c58 c59 c60 c61 c62 c63 c64 c65 c66 c67 c68 c69 c70 c71 c72 c73 c74 c75 c76 c77 c78 c79 c80 c81 c82 c83 c84 c85 c86 c87 c88 c334 c335 a' w'' → Q' .ret a' w'') :
    Code.wp Tryd.prog fsBlk (Exit.then K Q') ⟨#[.pointer (some ⟨V, 0, none⟩), .slice (some ⟨g, 0, none⟩) n cap, .int .i64 z, .bool vb, c4, c5, c6, c7, .int .i64 (k : Int), v9, c10, .int .i32 r, .int .i64 wd, v13, v14, v15, c16, v17, v18, v19, v20, c21, c22, c23, c24, c25, c26, c27, c28, c29, c30, c31, c32, c33, c34, c35, c36, c37, c38, c39, c40, c41, c42, c43, c44, c45, c46, c47, c48, c49, c50, c51, c52, c53, c54, c55, c56, c57, c58, c59, c60, c61, c62, c63, c64, c65, c66, c67, c68, c69, c70, c71, c72, c73, c74, c75, c76, c77, c78, c79, c80, c81, c82, c83, c84, c85, c86, c87, c88, v89, v90, v91, v92, v93, v94, v95, v96, v97, v98, v99, v100, v101, v102, v103, v104, v105, v106, v107, v108, v109, v110, v111, v112, v113, v114, v115, v116, v117, v118, v119, v120, v121, v122, v123, v124, v125, v126, v127, v128, v129, v130, v131, v132, v133, v134, v135, v136, v137, v138, v139, v140, v141, v142, v143, v144, v145, v146, v147, v148, v149, v150, v151, v152, v153, v154, v155, v156, v157, v158, v159, v160, v161, v162, v163, v164, v165, v166, v167, v168, v169, v170, v171, v172, v173, v174, v175, v176, v177, v178, v179, v180, v181, v182, v183, v184, v185, v186, v187, v188, v189, v190, v191, v192, v193, v194, v195, v196, v197, v198, v199, v200, v201, v202, v203, v204, v205, v206, v207, v208, v209, v210, v211, v212, v213, v214, v215, v216, v217, v218, v219, v220, v221, v222, v223, v224, v225, v226, v227, v228, v229, v230, v231, v232, v233, v234, v235, v236, v237, v238, v239, v240, v241, v242, v243, v244, v245, v246, v247, v248, v249, v250, v251, v252, v253, v254, v255, v256, v257, v258, v259, v260, v261, v262, v263, v264, v265, v266, v267, v268, v269, v270, v271, v272, v273, v274, v275, v276, v277, v278, v279, v280, v281, v282, v283, v284, v285, v286, v287, v288, v289, v290, v291, v292, v293, v294, v295, v296, v297, v298, v299, v300, v301, v302, v303, v304, v305, v306, v307, v308, v309, v310, v311, v312, v313, v314, v315, v316, v317, v318, v319, v320, v321, v322, v323, v324, v325, v326, v327, v328, v329, v330, v331, v332, v333, c334, c335], []⟩ wr := by
  conv => arg 2; whnf
  have hwd1 : decide ((wd : Int) > 1) = true := by simp; omega
  have hwd2 : decide ((1 : Int) < (wd : Int)) = true := by simp; omega
  have hkw := HI.out.le
  rw [← hn.out] at hkw
  go_wp2
  refine ⟨_, _, (fun i => [.nilFunc, .nilFunc, .nilFunc, .nilFunc, .nilFunc, .nilFunc, .nilFunc, .nilFunc, .nilFunc, _, .nilFunc, .nilFunc, .nilFunc, _, _, _, .nilFunc, _, _, _, _, .nilFunc, .nilFunc, .nilFunc, .nilFunc, .nilFunc, .nilFunc, .nilFunc, .nilFunc, .nilFunc, .nilFunc, .nilFunc, .nilFunc, .nilFunc, .nilFunc, .nilFunc, .nilFunc, .nilFunc, .nilFunc, .nilFunc, .nilFunc, .nilFunc, .nilFunc, .nilFunc, .nilFunc, .nilFunc, .nilFunc, .nilFunc, .nilFunc, .nilFunc, .nilFunc, .nilFunc, .nilFunc, .nilFunc, .nilFunc, .nilFunc, .nilFunc, .nilFunc, .nilFunc, .nilFunc, .nilFunc, .nilFunc, .nilFunc, .nilFunc, .nilFunc, .nilFunc, .nilFunc, .nilFunc, .nilFunc, .nilFunc, .nilFunc, .nilFunc, .nilFunc, .nilFunc, .nilFunc, .nilFunc, .nilFunc, .nilFunc, .nilFunc, .nilFunc, .nilFunc, .nilFunc, .nilFunc, .nilFunc, .nilFunc, .nilFunc, .nilFunc, .nilFunc, .nilFunc, _, _, _, _, _, _, _, _, _, _, _, _, _, _, _, _, _, _, _, _, _, _, _, _, _, _, _, _, _, _, _, _, _, _, _, _, _, _, _, _, _, _, _, _, _, _, _, _, _, _, _, _, _, _, _, _, _, _, _, _, _, _, _, _, _, _, _, _, _, _, _, _, _, _, _, _, _, _, _, _, _, _, _, _, _, _, _, _, _, _, _, _, _, _, _, _, _, _, _, _, _, _, _, _, _, _, _, _, _, _, _, _, _, _, _, _, _, _, _, _, _, _, _, _, _, _, _, _, _, _, _, _, _, _, _, _, _, _, _, _, _, _, _, _, _, _, _, _, _, _, _, _, _, _, _, _, _, _, _, _, _, _, _, _, _, _, _, _, _, _, _, _, _, _, _, _, _, _, _, _, _, _, _, _, _, _, _, _, _, _, _, _, _, _, _, _, _, _, _, _, _, _, _, _, _, _, _, _, _, _, _, _, _, _, _, _, _, _, _, _, _, _, _, _, _, _, _, _, _, _, _, _, _, _, _, _, _, _, _, _, _, _, _, _, _].getD i .nilFunc), ⟨⟨z, rfl⟩, k + wd, by omega, by go_num, HI, hF, hG⟩, rfl⟩
set_option maxRecDepth 1000000 in
set_option maxHeartbeats 8000000 in
theorem fsInvL {K : Act → World → Prop} {Q' : Exit → Act → World → Prop} (w : World) (k V g n cap : Nat) (lo vb : Bool) (T : List UInt8) (E E2 : Addr) (z : Int) (wr : World) (hvb : Hid (vb = !lo)) (hk : k < n) (hcp : n ≤ cap) (hnb : n ≤ 1000000) (hn : Hid (n = T.length)) (hT : Hid (∀ w', w.grownBy w' (some V) → Tabs2 w' E E2)) (hB : Hid (∀ w', w.grownBy w' (some V) → g < w'.heap.size ∧ BytesAt w' g 0 T)) (hF : Hid (FV wr V true)) (hG : Hid (w.grownBy wr (some V))) (_hI : Hid (FInv lo T k)) (hvf : vb = false) (h128 : Hid (128 ≤ natL (T.drop k) 0)) (HI : Hid (FInv lo T (k + 1)))
    (hK : ∀ a' w'', fsWE w k V lo T (.pointer (some ⟨V, 0, none⟩)) (.slice (some ⟨g, 0, none⟩) n cap) (.bool vb) c4 c5 c6 c7 c10 (.int .i32 65533) (.int .i64 1) c16 c21 c22 c23 c24 c25 c26 c27 c28 c29 c30 c31 c32 c33 c34 c35 c36 c37 c38 c39 c40 c41 c42 c43 c44 c45 c46 c47 c48 c49 c50 c51 c52 c53 c54 c55 c56 c57 c58 c59 c60 c61 c62 c63 c64 c65 c66 c67 c68 c69 c70 c71 c72 c73 c74 c75 c76 c77 c78 c79 c80 c81 c82 c83 c84 c85 c86 c87 c88 c334 c335 a' w'' → K a' w'')
    (hR : ∀ a' w'', fsFE w V (.pointer (some ⟨V, 0, none⟩)) (.slice (some ⟨g, 0, none⟩) n cap) (.bool vb) c4 c5 c6 c7 c10 (.int .i32 65533) (.int .i64 1) c16 c21 c22 c23 c24 c25 c26 c27 c28 c29 c30 c31 c32 c33 c34 c35 c36 c37 c38 c39 c40 c41 c42 c43 c44 c45 c46 c47 c48 c49 c50 c51 c52 c53 c54 c55 c56 c57 c58 c59 c60 c61 c62 c63 c64 c65 c66 c67 c68 c69 c70 c71 c72 c73 c74 c75 c76 c77 c78 c79 c80 c81 c82 c83 c84 c85 c86 c87 c88 c334 c335 a' w'' → Q' .ret a' w'') :
    Code.wp Tryd.prog fsBlk (Exit.then K Q') ⟨#[.pointer (some ⟨V, 0, none⟩), .slice (some ⟨g, 0, none⟩) n cap, .int .i64 z, .bool vb, c4, c5, c6, c7, .int .i64 (k : Int), v9, c10, .int .i32 65533, .int .i64 1, v13, v14, v15, c16, v17, v18, v19, v20, c21, c22, c23, c24, c25, c26, c27, c28, c29, c30, c31, c32, c33, c34, c35, c36, c37, c38, c39, c40, c41, c42, c43, c44, c45, c46, c47, c48, c49, c50, c51, c52, c53, c54, c55, c56, c57, c58, c59, c60, c61, c62, c63, c64, c65, c66, c67, c68, c69, c70, c71, c72, c73, c74, c75, c76, c77, c78, c79, c80, c81, c82, c83, c84, c85, c86, c87, c88, v89, v90, v91, v92, v93, v94, v95, v96, v97, v98, v99, v100, v101, v102, v103, v104, v105, v106, v107, v108, v109, v110, v111, v112, v113, v114, v115, v116, v117, v118, v119, v120, v121, v122, v123, v124, v125, v126, v127, v128, v129, v130, v131, v132, v133, v134, v135, v136, v137, v138, v139, v140, v141, v142, v143, v144, v145, v146, v147, v148, v149, v150, v151, v152, v153, v154, v155, v156, v157, v158, v159, v160, v161, v162, v163, v164, v165, v166, v167, v168, v169, v170, v171, v172, v173, v174, v175, v176, v177, v178, v179, v180, v181, v182, v183, v184, v185, v186, v187, v188, v189, v190, v191, v192, v193, v194, v195, v196, v197, v198, v199, v200, v201, v202, v203, v204, v205, v206, v207, v208, v209, v210, v211, v212, v213, v214, v215, v216, v217, v218, v219, v220, v221, v222, v223, v224, v225, v226, v227, v228, v229, v230, v231, v232, v233, v234, v235, v236, v237, v238, v239, v240, v241, v242, v243, v244, v245, v246, v247, v248, v249, v250, v251, v252, v253, v254, v255, v256, v257, v258, v259, v260, v261, v262, v263, v264, v265, v266, v267, v268, v269, v270, v271, v272, v273, v274, v275, v276, v277, v278, v279, v280, v281, v282, v283, v284, v285, v286, v287, v288, v289, v290, v291, v292, v293, v294, v295, v296, v297, v298, v299, v300, v301, v302, v303, v304, v305, v306, v307, v308, v309, v310, v311, v312, v313, v314, v315, v316, v317, v318, v319, v320, v321, v322, v323, v324, v325, v326, v327, v328, v329, v330, v331, v332, v333, c334, c335], []⟩ wr := by
  conv => arg 2; whnf
  subst hvf
  have hcx : ¬ cap = k := by omega
  have HFR : Hid (Calls Tryd.prog 76 #[.slice (some ⟨g, k, none⟩) (n - k) (cap - k)] wr (AnyBool wr)) := Lib.hid (by
    have h2 := anyRune (T.drop k) g k (cap - k) wr (hT.out wr hG.out).tabs.u8 (bytes_dropF (hB.out wr hG.out).2 k) h128.out (by rw [List.length_drop, ← hn.out]; omega) (by rw [List.length_drop, ← hn.out]; omega)
    rw [List.length_drop, ← hn.out] at h2
    exact h2)
  go_wp2_with fail
  refine HFR.out.mono ?_
  rintro e2 w2 ⟨⟨r, rfl⟩, hb2⟩
  have HF2 := Lib.hid (hF.out.below hb2)
  have HG2 := Lib.hid (grownV_below hG.out hb2)
  clear hb2 HFR hF hG
  cases r
  · have ce := (hT.out w2 HG2.out).eof
    have HGD : Hid (∀ m, w.grownBy (World.drewN w2 m) (some V)) := Lib.hid fun m => grownV_below HG2.out (Below.drewF (Below.refl _ _) _)
    go_wp2_with fail
    go_quiet (fail)
    go_wp2
    exact ⟨_, _, (fun i => [.nilFunc, .nilFunc, _, .nilFunc, .nilFunc, .nilFunc, .nilFunc, .nilFunc, .nilFunc, .nilFunc, .nilFunc, .nilFunc, .nilFunc, _, _, _, .nilFunc, _, _, _, _, .nilFunc, .nilFunc, .nilFunc, .nilFunc, .nilFunc, .nilFunc, .nilFunc, .nilFunc, .nilFunc, .nilFunc, .nilFunc, .nilFunc, .nilFunc, .nilFunc, .nilFunc, .nilFunc, .nilFunc, .nilFunc, .nilFunc, .nilFunc, .nilFunc, .nilFunc, .nilFunc, .nilFunc, .nilFunc, .nilFunc, .nilFunc, .nilFunc, .nilFunc, .nilFunc, .nilFunc, .nilFunc, .nilFunc, .nilFunc, .nilFunc, .nilFunc, .nilFunc, .nilFunc, .nilFunc, .nilFunc, .nilFunc, .nilFunc, .nilFunc, .nilFunc, .nilFunc, .nilFunc, .nilFunc, .nilFunc, .nilFunc, .nilFunc, .nilFunc, .nilFunc, .nilFunc, .nilFunc, .nilFunc, .nilFunc, .nilFunc, .nilFunc, .nilFunc, .nilFunc, .nilFunc, .nilFunc, .nilFunc, .nilFunc, .nilFunc, .nilFunc, .nilFunc, .nilFunc, _, _, _, _, _, _, _, _, _, _, _, _, _, _, _, _, _, _, _, _, _, _, _, _, _, _, _, _, _, _, _, _, _, _, _, _, _, _, _, _, _, _, _, _, _, _, _, _, _, _, _, _, _, _, _, _, _, _, _, _, _, _, _, _, _, _, _, _, _, _, _, _, _, _, _, _, _, _, _, _, _, _, _, _, _, _, _, _, _, _, _, _, _, _, _, _, _, _, _, _, _, _, _, _, _, _, _, _, _, _, _, _, _, _, _, _, _, _, _, _, _, _, _, _, _, _, _, _, _, _, _, _, _, _, _, _, _, _, _, _, _, _, _, _, _, _, _, _, _, _, _, _, _, _, _, _, _, _, _, _, _, _, _, _, _, _, _, _, _, _, _, _, _, _, _, _, _, _, _, _, _, _, _, _, _, _, _, _, _, _, _, _, _, _, _, _, _, _, _, _, _, _, _, _, _, _, _, _, _, _, _, _, _, _, _, _, _, _, _, _, _, _, _, _, _, _, _, _, _, _, _, _, _, _, _, _, _, _, _, _, _, _, _, _, _].getD i .nilFunc), ⟨⟨_, rfl⟩, ⟨_, _, rfl⟩, Lib.hid (HGD.out _)⟩, rfl⟩
  · have HJ := Lib.hid (joinS V 3 true true (by decide) (fun _ q => q) _ HF2.out)
    go_wp2_with fail
    refine HJ.out.mono ?_
    rintro e w3 ⟨rfl, hf3, hg3⟩
    have HF3 := Lib.hid hf3
    have HG3 := Lib.hid (grownV_trans HG2.out hg3)
    clear hf3 hg3 HJ HF2 HG2
    go_wp2
    refine ⟨_, _, (fun i => [.nilFunc, .nilFunc, .nilFunc, .nilFunc, .nilFunc, .nilFunc, .nilFunc, .nilFunc, .nilFunc, _, .nilFunc, .nilFunc, .nilFunc, _, _, _, .nilFunc, _, _, _, _, .nilFunc, .nilFunc, .nilFunc, .nilFunc, .nilFunc, .nilFunc, .nilFunc, .nilFunc, .nilFunc, .nilFunc, .nilFunc, .nilFunc, .nilFunc, .nilFunc, .nilFunc, .nilFunc, .nilFunc, .nilFunc, .nilFunc, .nilFunc, .nilFunc, .nilFunc, .nilFunc, .nilFunc, .nilFunc, .nilFunc, .nilFunc, .nilFunc, .nilFunc, .nilFunc, .nilFunc, .nilFunc, .nilFunc, .nilFunc, .nilFunc, .nilFunc, .nilFunc, .nilFunc, .nilFunc, .nilFunc, .nilFunc, .nilFunc, .nilFunc, .nilFunc, .nilFunc, .nilFunc, .nilFunc, .nilFunc, .nilFunc, .nilFunc, .nilFunc, .nilFunc, .nilFunc, .nilFunc, .nilFunc, .nilFunc, .nilFunc, .nilFunc, .nilFunc, .nilFunc, .nilFunc, .nilFunc, .nilFunc, .nilFunc, .nilFunc, .nilFunc, .nilFunc, .nilFunc, _, _, _, _, _, _, _, _, _, _, _, _, _, _, _, _, _, _, _, _, _, _, _, _, _, _, _, _, _, _, _, _, _, _, _, _, _, _, _, _, _, _, _, _, _, _, _, _, _, _, _, _, _, _, _, _, _, _, _, _, _, _, _, _, _, _, _, _, _, _, _, _, _, _, _, _, _, _, _, _, _, _, _, _, _, _, _, _, _, _, _, _, _, _, _, _, _, _, _, _, _, _, _, _, _, _, _, _, _, _, _, _, _, _, _, _, _, _, _, _, _, _, _, _, _, _, _, _, _, _, _, _, _, _, _, _, _, _, _, _, _, _, _, _, _, _, _, _, _, _, _, _, _, _, _, _, _, _, _, _, _, _, _, _, _, _, _, _, _, _, _, _, _, _, _, _, _, _, _, _, _, _, _, _, _, _, _, _, _, _, _, _, _, _, _, _, _, _, _, _, _, _, _, _, _, _, _, _, _, _, _, _, _, _, _, _, _, _, _, _, _, _, _, _, _, _, _, _, _, _, _, _, _, _, _, _, _, _, _, _, _, _, _, _, _].getD i .nilFunc), ⟨⟨z, rfl⟩, k + 1, by omega, by go_num, HI, HF3, HG3⟩, rfl⟩
set_option maxRecDepth 1000000 in
set_option maxHeartbeats 8000000 in
theorem fsInvS {K : Act → World → Prop} {Q' : Exit → Act → World → Prop} (w : World) (k V g n cap : Nat) (lo vb : Bool) (T : List UInt8) (E E2 : Addr) (z : Int) (wr : World) (hvb : Hid (vb = !lo)) (hk : k < n) (hcp : n ≤ cap) (hnb : n ≤ 1000000) (hn : Hid (n = T.length)) (hT : Hid (∀ w', w.grownBy w' (some V) → Tabs2 w' E E2)) (hB : Hid (∀ w', w.grownBy w' (some V) → g < w'.heap.size ∧ BytesAt w' g 0 T)) (hF : Hid (FV wr V true)) (hG : Hid (w.grownBy wr (some V))) (_hI : Hid (FInv lo T k)) (hvf : vb = true) (h128 : Hid (128 ≤ natL (T.drop k) 0))
    (hK : ∀ a' w'', fsWE w k V lo T (.pointer (some ⟨V, 0, none⟩)) (.slice (some ⟨g, 0, none⟩) n cap) (.bool vb) c4 c5 c6 c7 c10 (.int .i32 65533) (.int .i64 1) c16 c21 c22 c23 c24 c25 c26 c27 c28 c29 c30 c31 c32 c33 c34 c35 c36 c37 c38 c39 c40 c41 c42 c43 c44 c45 c46 c47 c48 c49 c50 c51 c52 c53 c54 c55 c56 c57 c58 c59 c60 c61 c62 c63 c64 c65 c66 c67 c68 c69 c70 c71 c72 c73 c74 c75 c76 c77 c78 c79 c80 c81 c82 c83 c84 c85 c86 c87 c88 c334 c335 a' w'' → K a' w'')
    (hR : ∀ a' w'', fsFE w V (.pointer (some ⟨V, 0, none⟩)) (.slice (some ⟨g, 0, none⟩) n cap) (.bool vb) c4 c5 c6 c7 c10 (.int .i32 65533) (.int .i64 1) c16 c21 c22 c23 c24 c25 c26 c27 c28 c29 c30 c31 c32 c33 c34 c35 c36 c37 c38 c39 c40 c41 c42 c43 c44 c45 c46 c47 c48 c49 c50 c51 c52 c53 c54 c55 c56 c57 c58 c59 c60 c61 c62 c63 c64 c65 c66 c67 c68 c69 c70 c71 c72 c73 c74 c75 c76 c77 c78 c79 c80 c81 c82 c83 c84 c85 c86 c87 c88 c334 c335 a' w'' → Q' .ret a' w'') :
    Code.wp Tryd.prog fsBlk (Exit.then K Q') ⟨#[.pointer (some ⟨V, 0, none⟩), .slice (some ⟨g, 0, none⟩) n cap, .int .i64 z, .bool vb, c4, c5, c6, c7, .int .i64 (k : Int), v9, c10, .int .i32 65533, .int .i64 1, v13, v14, v15, c16, v17, v18, v19, v20, c21, c22, c23, c24, c25, c26, c27, c28, c29, c30, c31, c32, c33, c34, c35, c36, c37, c38, c39, c40, c41, c42, c43, c44, c45, c46, c47, c48, c49, c50, c51, c52, c53, c54, c55, c56, c57, c58, c59, c60, c61, c62, c63, c64, c65, c66, c67, c68, c69, c70, c71, c72, c73, c74, c75, c76, c77, c78, c79, c80, c81, c82, c83, c84, c85, c86, c87, c88, v89, v90, v91, v92, v93, v94, v95, v96, v97, v98, v99, v100, v101, v102, v103, v104, v105, v106, v107, v108, v109, v110, v111, v112, v113, v114, v115, v116, v117, v118, v119, v120, v121, v122, v123, v124, v125, v126, v127, v128, v129, v130, v131, v132, v133, v134, v135, v136, v137, v138, v139, v140, v141, v142, v143, v144, v145, v146, v147, v148, v149, v150, v151, v152, v153, v154, v155, v156, v157, v158, v159, v160, v161, v162, v163, v164, v165, v166, v167, v168, v169, v170, v171, v172, v173, v174, v175, v176, v177, v178, v179, v180, v181, v182, v183, v184, v185, v186, v187, v188, v189, v190, v191, v192, v193, v194, v195, v196, v197, v198, v199, v200, v201, v202, v203, v204, v205, v206, v207, v208, v209, v210, v211, v212, v213, v214, v215, v216, v217, v218, v219, v220, v221, v222, v223, v224, v225, v226, v227, v228, v229, v230, v231, v232, v233, v234, v235, v236, v237, v238, v239, v240, v241, v242, v243, v244, v245, v246, v247, v248, v249, v250, v251, v252, v253, v254, v255, v256, v257, v258, v259, v260, v261, v262, v263, v264, v265, v266, v267, v268, v269, v270, v271, v272, v273, v274, v275, v276, v277, v278, v279, v280, v281, v282, v283, v284, v285, v286, v287, v288, v289, v290, v291, v292, v293, v294, v295, v296, v297, v298, v299, v300, v301, v302, v303, v304, v305, v306, v307, v308, v309, v310, v311, v312, v313, v314, v315, v316, v317, v318, v319, v320, v321, v322, v323, v324, v325, v326, v327, v328, v329, v330, v331, v332, v333, c334, c335], []⟩ wr := by
  conv => arg 2; whnf
  subst hvf
  have hcx : ¬ cap = k := by omega
  have HFR : Hid (Calls Tryd.prog 76 #[.slice (some ⟨g, k, none⟩) (n - k) (cap - k)] wr (AnyBool wr)) := Lib.hid (by
    have h2 := anyRune (T.drop k) g k (cap - k) wr (hT.out wr hG.out).tabs.u8 (bytes_dropF (hB.out wr hG.out).2 k) h128.out (by rw [List.length_drop, ← hn.out]; omega) (by rw [List.length_drop, ← hn.out]; omega)
    rw [List.length_drop, ← hn.out] at h2
    exact h2)
  go_wp2_with fail
  refine HFR.out.mono ?_
  rintro e2 w2 ⟨⟨r, rfl⟩, hb2⟩
  have HF2 := Lib.hid (hF.out.below hb2)
  have HG2 := Lib.hid (grownV_below hG.out hb2)
  clear hb2 HFR hF hG
  cases r
  · have ce := (hT.out w2 HG2.out).eof
    have HGD : Hid (∀ m, w.grownBy (World.drewN w2 m) (some V)) := Lib.hid fun m => grownV_below HG2.out (Below.drewF (Below.refl _ _) _)
    go_wp2_with fail
    go_quiet (fail)
    go_wp2
    exact ⟨_, _, (fun i => [.nilFunc, .nilFunc, _, .nilFunc, .nilFunc, .nilFunc, .nilFunc, .nilFunc, .nilFunc, .nilFunc, .nilFunc, .nilFunc, .nilFunc, _, _, _, .nilFunc, _, _, _, _, .nilFunc, .nilFunc, .nilFunc, .nilFunc, .nilFunc, .nilFunc, .nilFunc, .nilFunc, .nilFunc, .nilFunc, .nilFunc, .nilFunc, .nilFunc, .nilFunc, .nilFunc, .nilFunc, .nilFunc, .nilFunc, .nilFunc, .nilFunc, .nilFunc, .nilFunc, .nilFunc, .nilFunc, .nilFunc, .nilFunc, .nilFunc, .nilFunc, .nilFunc, .nilFunc, .nilFunc, .nilFunc, .nilFunc, .nilFunc, .nilFunc, .nilFunc, .nilFunc, .nilFunc, .nilFunc, .nilFunc, .nilFunc, .nilFunc, .nilFunc, .nilFunc, .nilFunc, .nilFunc, .nilFunc, .nilFunc, .nilFunc, .nilFunc, .nilFunc, .nilFunc, .nilFunc, .nilFunc, .nilFunc, .nilFunc, .nilFunc, .nilFunc, .nilFunc, .nilFunc, .nilFunc, .nilFunc, .nilFunc, .nilFunc, .nilFunc, .nilFunc, .nilFunc, .nilFunc, _, _, _, _, _, _, _, _, _, _, _, _, _, _, _, _, _, _, _, _, _, _, _, _, _, _, _, _, _, _, _, _, _, _, _, _, _, _, _, _, _, _, _, _, _, _, _, _, _, _, _, _, _, _, _, _, _, _, _, _, _, _, _, _, _, _, _, _, _, _, _, _, _, _, _, _, _, _, _, _, _, _, _, _, _, _, _, _, _, _, _, _, _, _, _, _, _, _, _, _, _, _, _, _, _, _, _, _, _, _, _, _, _, _, _, _, _, _, _, _, _, _, _, _, _, _, _, _, _, _, _, _, _, _, _, _, _, _, _, _, _, _, _, _, _, _, _, _, _, _, _, _, _, _, _, _, _, _, _, _, _, _, _, _, _, _, _, _, _, _, _, _, _, _, _, _, _, _, _, _, _, _, _, _, _, _, _, _, _, _, _, _, _, _, _, _, _, _, _, _, _, _, _, _, _, _, _, _, _, _, _, _, _, _, _, _, _, _, _, _, _, _, _, _, _, _, _, _, _, _, _, _, _, _, _, _, _, _, _, _, _, _, _, _, _].getD i .nilFunc), ⟨⟨_, rfl⟩, ⟨_, _, rfl⟩, Lib.hid (HGD.out _)⟩, rfl⟩
  · have HJ := Lib.hid (joinS V 3 true true (by decide) (fun _ q => q) _ HF2.out)
    go_wp2_with fail
    refine HJ.out.mono ?_
    rintro e w3 ⟨rfl, hf3, hg3⟩
    have HF3 := Lib.hid hf3
    have HG3 := Lib.hid (grownV_trans HG2.out hg3)
    clear hf3 hg3 HJ HF2 HG2
    have ci := (hT.out w3 HG3.out).tabs.inv
    have HGD : Hid (∀ m, w.grownBy (World.drewN w3 m) (some V)) := Lib.hid fun m => grownV_below HG3.out (Below.drewF (Below.refl _ _) _)
    go_wp2_with fail
    go_quiet (fail)
    go_wp2
    exact ⟨_, _, (fun i => [.nilFunc, .nilFunc, _, .nilFunc, .nilFunc, .nilFunc, .nilFunc, .nilFunc, .nilFunc, .nilFunc, .nilFunc, .nilFunc, .nilFunc, _, _, _, .nilFunc, _, _, _, _, .nilFunc, .nilFunc, .nilFunc, .nilFunc, .nilFunc, .nilFunc, .nilFunc, .nilFunc, .nilFunc, .nilFunc, .nilFunc, .nilFunc, .nilFunc, .nilFunc, .nilFunc, .nilFunc, .nilFunc, .nilFunc, .nilFunc, .nilFunc, .nilFunc, .nilFunc, .nilFunc, .nilFunc, .nilFunc, .nilFunc, .nilFunc, .nilFunc, .nilFunc, .nilFunc, .nilFunc, .nilFunc, .nilFunc, .nilFunc, .nilFunc, .nilFunc, .nilFunc, .nilFunc, .nilFunc, .nilFunc, .nilFunc, .nilFunc, .nilFunc, .nilFunc, .nilFunc, .nilFunc, .nilFunc, .nilFunc, .nilFunc, .nilFunc, .nilFunc, .nilFunc, .nilFunc, .nilFunc, .nilFunc, .nilFunc, .nilFunc, .nilFunc, .nilFunc, .nilFunc, .nilFunc, .nilFunc, .nilFunc, .nilFunc, .nilFunc, .nilFunc, .nilFunc, .nilFunc, _, _, _, _, _, _, _, _, _, _, _, _, _, _, _, _, _, _, _, _, _, _, _, _, _, _, _, _, _, _, _, _, _, _, _, _, _, _, _, _, _, _, _, _, _, _, _, _, _, _, _, _, _, _, _, _, _, _, _, _, _, _, _, _, _, _, _, _, _, _, _, _, _, _, _, _, _, _, _, _, _, _, _, _, _, _, _, _, _, _, _, _, _, _, _, _, _, _, _, _, _, _, _, _, _, _, _, _, _, _, _, _, _, _, _, _, _, _, _, _, _, _, _, _, _, _, _, _, _, _, _, _, _, _, _, _, _, _, _, _, _, _, _, _, _, _, _, _, _, _, _, _, _, _, _, _, _, _, _, _, _, _, _, _, _, _, _, _, _, _, _, _, _, _, _, _, _, _, _, _, _, _, _, _, _, _, _, _, _, _, _, _, _, _, _, _, _, _, _, _, _, _, _, _, _, _, _, _, _, _, _, _, _, _, _, _, _, _, _, _, _, _, _, _, _, _, _, _, _, _, _, _, _, _, _, _, _, _, _, _, _, _, _, _, _].getD i .nilFunc), ⟨⟨_, rfl⟩, ⟨_, _, rfl⟩, Lib.hid (HGD.out _)⟩, rfl⟩
set_option maxRecDepth 1000000 in
set_option maxHeartbeats 8000000 in
theorem fsLow {K : Act → World → Prop} {Q' : Exit → Act → World → Prop} (w : World) (k V g n cap : Nat) (lo vb : Bool) (T : List UInt8) (E E2 : Addr) (z : Int) (c : Nat) (wr : World) (_hvb : Hid (vb = !lo)) (hk : k < n) (hcp : n ≤ cap) (_hnb : n ≤ 1000000) (hn : Hid (n = T.length)) (hT : Hid (∀ w', w.grownBy w' (some V) → Tabs2 w' E E2)) (hB : Hid (∀ w', w.grownBy w' (some V) → g < w'.heap.size ∧ BytesAt w' g 0 T)) (hF : Hid (FV wr V true)) (hG : Hid (w.grownBy wr (some V))) (_hI : Hid (FInv lo T k)) (h32 : c < 32)
    (_hK : ∀ a' w'', fsWE w k V lo T (.pointer (some ⟨V, 0, none⟩)) (.slice (some ⟨g, 0, none⟩) n cap) (.bool vb) c4 c5 c6 c7 c10 (.int .i32 c) (.int .i64 1) c16 c21 c22 c23 c24 c25 c26 c27 c28 c29 c30 c31 c32 c33 c34 c35 c36 c37 c38 c39 c40 c41 c42 c43 c44 c45 c46 c47 c48 c49 c50 c51 c52 c53 c54 c55 c56 c57 c58 c59 c60 c61 c62 c63 c64 c65 c66 c67 c68 c69 c70 c71 c72 c73 c74 c75 c76 c77 c78 c79 c80 c81 c82 c83 c84 c85 c86 c87 c88 c334 c335 a' w'' → K a' w'')
    (hR : ∀ a' w'', fsFE w V (.pointer (some ⟨V, 0, none⟩)) (.slice (some ⟨g, 0, none⟩) n cap) (.bool vb) c4 c5 c6 c7 c10 (.int .i32 c) (.int .i64 1) c16 c21 c22 c23 c24 c25 c26 c27 c28 c29 c30 c31 c32 c33 c34 c35 c36 c37 c38 c39 c40 c41 c42 c43 c44 c45 c46 c47 c48 c49 c50 c51 c52 c53 c54 c55 c56 c57 c58 c59 c60 c61 c62 c63 c64 c65 c66 c67 c68 c69 c70 c71 c72 c73 c74 c75 c76 c77 c78 c79 c80 c81 c82 c83 c84 c85 c86 c87 c88 c334 c335 a' w'' → Q' .ret a' w'') :
    Code.wp Tryd.prog fsBlk (Exit.then K Q') ⟨#[.pointer (some ⟨V, 0, none⟩), .slice (some ⟨g, 0, none⟩) n cap, .int .i64 z, .bool vb, c4, c5, c6, c7, .int .i64 (k : Int), v9, c10, .int .i32 c, .int .i64 1, v13, v14, v15, c16, v17, v18, v19, v20, c21, c22, c23, c24, c25, c26, c27, c28, c29, c30, c31, c32, c33, c34, c35, c36, c37, c38, c39, c40, c41, c42, c43, c44, c45, c46, c47, c48, c49, c50, c51, c52, c53, c54, c55, c56, c57, c58, c59, c60, c61, c62, c63, c64, c65, c66, c67, c68, c69, c70, c71, c72, c73, c74, c75, c76, c77, c78, c79, c80, c81, c82, c83, c84, c85, c86, c87, c88, v89, v90, v91, v92, v93, v94, v95, v96, v97, v98, v99, v100, v101, v102, v103, v104, v105, v106, v107, v108, v109, v110, v111, v112, v113, v114, v115, v116, v117, v118, v119, v120, v121, v122, v123, v124, v125, v126, v127, v128, v129, v130, v131, v132, v133, v134, v135, v136, v137, v138, v139, v140, v141, v142, v143, v144, v145, v146, v147, v148, v149, v150, v151, v152, v153, v154, v155, v156, v157, v158, v159, v160, v161, v162, v163, v164, v165, v166, v167, v168, v169, v170, v171, v172, v173, v174, v175, v176, v177, v178, v179, v180, v181, v182, v183, v184, v185, v186, v187, v188, v189, v190, v191, v192, v193, v194, v195, v196, v197, v198, v199, v200, v201, v202, v203, v204, v205, v206, v207, v208, v209, v210, v211, v212, v213, v214, v215, v216, v217, v218, v219, v220, v221, v222, v223, v224, v225, v226, v227, v228, v229, v230, v231, v232, v233, v234, v235, v236, v237, v238, v239, v240, v241, v242, v243, v244, v245, v246, v247, v248, v249, v250, v251, v252, v253, v254, v255, v256, v257, v258, v259, v260, v261, v262, v263, v264, v265, v266, v267, v268, v269, v270, v271, v272, v273, v274, v275, v276, v277, v278, v279, v280, v281, v282, v283, v284, v285, v286, v287, v288, v289, v290, v291, v292, v293, v294, v295, v296, v297, v298, v299, v300, v301, v302, v303, v304, v305, v306, v307, v308, v309, v310, v311, v312, v313, v314, v315, v316, v317, v318, v319, v320, v321, v322, v323, v324, v325, v326, v327, v328, v329, v330, v331, v332, v333, c334, c335], []⟩ wr := by
  conv => arg 2; whnf
  have q92 : ((c : Int) == 92) = false := by simp; omega
  have qer : ((c : Int) == 65533) = false := by simp; omega
  have q32 : decide ((c : Int) < 32) = true := by simp; omega
  have hcx : ¬ cap = k := by omega
  have HJ := Lib.hid (joinS V 3 true true (by decide) (fun _ q => q) wr hF.out)
  go_wp2_with fail
  refine HJ.out.mono ?_
  rintro e w3 ⟨rfl, hf3, hg3⟩
  have HF3 := Lib.hid hf3
  have HG3 := Lib.hid (grownV_trans hG.out hg3)
  clear hf3 hg3 HJ hF hG
  have HNI : Hid (∀ x, Calls Tryd.prog 68 #[.slice (some ⟨g, k, none⟩) (n - k) (cap - k), .string x] w3 (OwnPost w3)) := Lib.hid fun x => by
    have h2 := newInvalid (T.drop k) g k (cap - k) x w3 (hT.out w3 HG3.out).tabs.u8 (bytes_dropF (hB.out w3 HG3.out).2 k) (by rw [List.length_drop, ← hn.out]; omega) (by rw [List.length_drop, ← hn.out]; omega) (hB.out w3 HG3.out).1
    rw [List.length_drop, ← hn.out] at h2
    exact h2
  go_wp2_with fail
  refine (HNI.out _).mono ?_
  rintro e w4 ⟨⟨pe, rfl⟩, hb4⟩
  have HG4 := Lib.hid (grownV_below HG3.out hb4)
  clear hb4 HNI
  go_wp2
  exact ⟨_, _, (fun i => [.nilFunc, .nilFunc, _, .nilFunc, .nilFunc, .nilFunc, .nilFunc, .nilFunc, .nilFunc, .nilFunc, .nilFunc, .nilFunc, .nilFunc, _, _, _, .nilFunc, _, _, _, _, .nilFunc, .nilFunc, .nilFunc, .nilFunc, .nilFunc, .nilFunc, .nilFunc, .nilFunc, .nilFunc, .nilFunc, .nilFunc, .nilFunc, .nilFunc, .nilFunc, .nilFunc, .nilFunc, .nilFunc, .nilFunc, .nilFunc, .nilFunc, .nilFunc, .nilFunc, .nilFunc, .nilFunc, .nilFunc, .nilFunc, .nilFunc, .nilFunc, .nilFunc, .nilFunc, .nilFunc, .nilFunc, .nilFunc, .nilFunc, .nilFunc, .nilFunc, .nilFunc, .nilFunc, .nilFunc, .nilFunc, .nilFunc, .nilFunc, .nilFunc, .nilFunc, .nilFunc, .nilFunc, .nilFunc, .nilFunc, .nilFunc, .nilFunc, .nilFunc, .nilFunc, .nilFunc, .nilFunc, .nilFunc, .nilFunc, .nilFunc, .nilFunc, .nilFunc, .nilFunc, .nilFunc, .nilFunc, .nilFunc, .nilFunc, .nilFunc, .nilFunc, .nilFunc, .nilFunc, _, _, _, _, _, _, _, _, _, _, _, _, _, _, _, _, _, _, _, _, _, _, _, _, _, _, _, _, _, _, _, _, _, _, _, _, _, _, _, _, _, _, _, _, _, _, _, _, _, _, _, _, _, _, _, _, _, _, _, _, _, _, _, _, _, _, _, _, _, _, _, _, _, _, _, _, _, _, _, _, _, _, _, _, _, _, _, _, _, _, _, _, _, _, _, _, _, _, _, _, _, _, _, _, _, _, _, _, _, _, _, _, _, _, _, _, _, _, _, _, _, _, _, _, _, _, _, _, _, _, _, _, _, _, _, _, _, _, _, _, _, _, _, _, _, _, _, _, _, _, _, _, _, _, _, _, _, _, _, _, _, _, _, _, _, _, _, _, _, _, _, _, _, _, _, _, _, _, _, _, _, _, _, _, _, _, _, _, _, _, _, _, _, _, _, _, _, _, _, _, _, _, _, _, _, _, _, _, _, _, _, _, _, _, _, _, _, _, _, _, _, _, _, _, _, _, _, _, _, _, _, _, _, _, _, _, _, _, _, _, _, _, _, _, _].getD i .nilFunc), ⟨⟨_, rfl⟩, ⟨_, _, rfl⟩, HG4⟩, rfl⟩
set_option maxRecDepth 1000000 in
set_option maxHeartbeats 8000000 in
theorem fsEscEnd {K : Act → World → Prop} {Q' : Exit → Act → World → Prop} (w : World) (k V g n cap : Nat) (lo vb : Bool) (T : List UInt8) (E E2 : Addr) (z : Int) (wr : World) (_hvb : Hid (vb = !lo)) (hk : k < n) (_hcp : n ≤ cap) (hnb : n ≤ 1000000) (_hn : Hid (n = T.length)) (hT : Hid (∀ w', w.grownBy w' (some V) → Tabs2 w' E E2)) (_hB : Hid (∀ w', w.grownBy w' (some V) → g < w'.heap.size ∧ BytesAt w' g 0 T)) (hF : Hid (FV wr V true)) (hG : Hid (w.grownBy wr (some V))) (_hI : Hid (FInv lo T k)) (hk2 : n < k + 2)
    (_hK : ∀ a' w'', fsWE w k V lo T (.pointer (some ⟨V, 0, none⟩)) (.slice (some ⟨g, 0, none⟩) n cap) (.bool vb) c4 c5 c6 c7 c10 (.int .i32 92) (.int .i64 1) c16 c21 c22 c23 c24 c25 c26 c27 c28 c29 c30 c31 c32 c33 c34 c35 c36 c37 c38 c39 c40 c41 c42 c43 c44 c45 c46 c47 c48 c49 c50 c51 c52 c53 c54 c55 c56 c57 c58 c59 c60 c61 c62 c63 c64 c65 c66 c67 c68 c69 c70 c71 c72 c73 c74 c75 c76 c77 c78 c79 c80 c81 c82 c83 c84 c85 c86 c87 c88 c334 c335 a' w'' → K a' w'')
    (hR : ∀ a' w'', fsFE w V (.pointer (some ⟨V, 0, none⟩)) (.slice (some ⟨g, 0, none⟩) n cap) (.bool vb) c4 c5 c6 c7 c10 (.int .i32 92) (.int .i64 1) c16 c21 c22 c23 c24 c25 c26 c27 c28 c29 c30 c31 c32 c33 c34 c35 c36 c37 c38 c39 c40 c41 c42 c43 c44 c45 c46 c47 c48 c49 c50 c51 c52 c53 c54 c55 c56 c57 c58 c59 c60 c61 c62 c63 c64 c65 c66 c67 c68 c69 c70 c71 c72 c73 c74 c75 c76 c77 c78 c79 c80 c81 c82 c83 c84 c85 c86 c87 c88 c334 c335 a' w'' → Q' .ret a' w'') :
    Code.wp Tryd.prog fsBlk (Exit.then K Q') ⟨#[.pointer (some ⟨V, 0, none⟩), .slice (some ⟨g, 0, none⟩) n cap, .int .i64 z, .bool vb, c4, c5, c6, c7, .int .i64 (k : Int), v9, c10, .int .i32 92, .int .i64 1, v13, v14, v15, c16, v17, v18, v19, v20, c21, c22, c23, c24, c25, c26, c27, c28, c29, c30, c31, c32, c33, c34, c35, c36, c37, c38, c39, c40, c41, c42, c43, c44, c45, c46, c47, c48, c49, c50, c51, c52, c53, c54, c55, c56, c57, c58, c59, c60, c61, c62, c63, c64, c65, c66, c67, c68, c69, c70, c71, c72, c73, c74, c75, c76, c77, c78, c79, c80, c81, c82, c83, c84, c85, c86, c87, c88, v89, v90, v91, v92, v93, v94, v95, v96, v97, v98, v99, v100, v101, v102, v103, v104, v105, v106, v107, v108, v109, v110, v111, v112, v113, v114, v115, v116, v117, v118, v119, v120, v121, v122, v123, v124, v125, v126, v127, v128, v129, v130, v131, v132, v133, v134, v135, v136, v137, v138, v139, v140, v141, v142, v143, v144, v145, v146, v147, v148, v149, v150, v151, v152, v153, v154, v155, v156, v157, v158, v159, v160, v161, v162, v163, v164, v165, v166, v167, v168, v169, v170, v171, v172, v173, v174, v175, v176, v177, v178, v179, v180, v181, v182, v183, v184, v185, v186, v187, v188, v189, v190, v191, v192, v193, v194, v195, v196, v197, v198, v199, v200, v201, v202, v203, v204, v205, v206, v207, v208, v209, v210, v211, v212, v213, v214, v215, v216, v217, v218, v219, v220, v221, v222, v223, v224, v225, v226, v227, v228, v229, v230, v231, v232, v233, v234, v235, v236, v237, v238, v239, v240, v241, v242, v243, v244, v245, v246, v247, v248, v249, v250, v251, v252, v253, v254, v255, v256, v257, v258, v259, v260, v261, v262, v263, v264, v265, v266, v267, v268, v269, v270, v271, v272, v273, v274, v275, v276, v277, v278, v279, v280, v281, v282, v283, v284, v285, v286, v287, v288, v289, v290, v291, v292, v293, v294, v295, v296, v297, v298, v299, v300, v301, v302, v303, v304, v305, v306, v307, v308, v309, v310, v311, v312, v313, v314, v315, v316, v317, v318, v319, v320, v321, v322, v323, v324, v325, v326, v327, v328, v329, v330, v331, v332, v333, c334, c335], []⟩ wr := by
  conv => arg 2; whnf
  have HJ := Lib.hid (joinS V 1 true true (by decide) (fun _ q => q) wr hF.out)
  go_wp2_with fail
  refine HJ.out.mono ?_
  rintro e w3 ⟨rfl, hf3, hg3⟩
  have HF3 := Lib.hid hf3
  have HG3 := Lib.hid (grownV_trans hG.out hg3)
  clear hf3 hg3 HJ hF hG
  have ce := (hT.out w3 HG3.out).eof
  have HGD : Hid (∀ m, w.grownBy (World.drewN w3 m) (some V)) := Lib.hid fun m => grownV_below HG3.out (Below.drewF (Below.refl _ _) _)
  go_wp2_with fail
  go_quiet (fail)
  go_wp2
  exact ⟨_, _, (fun i => [.nilFunc, .nilFunc, _, .nilFunc, .nilFunc, .nilFunc, .nilFunc, .nilFunc, .nilFunc, .nilFunc, .nilFunc, .nilFunc, .nilFunc, _, _, _, .nilFunc, _, _, _, _, .nilFunc, .nilFunc, .nilFunc, .nilFunc, .nilFunc, .nilFunc, .nilFunc, .nilFunc, .nilFunc, .nilFunc, .nilFunc, .nilFunc, .nilFunc, .nilFunc, .nilFunc, .nilFunc, .nilFunc, .nilFunc, .nilFunc, .nilFunc, .nilFunc, .nilFunc, .nilFunc, .nilFunc, .nilFunc, .nilFunc, .nilFunc, .nilFunc, .nilFunc, .nilFunc, .nilFunc, .nilFunc, .nilFunc, .nilFunc, .nilFunc, .nilFunc, .nilFunc, .nilFunc, .nilFunc, .nilFunc, .nilFunc, .nilFunc, .nilFunc, .nilFunc, .nilFunc, .nilFunc, .nilFunc, .nilFunc, .nilFunc, .nilFunc, .nilFunc, .nilFunc, .nilFunc, .nilFunc, .nilFunc, .nilFunc, .nilFunc, .nilFunc, .nilFunc, .nilFunc, .nilFunc, .nilFunc, .nilFunc, .nilFunc, .nilFunc, .nilFunc, .nilFunc, .nilFunc, _, _, _, _, _, _, _, _, _, _, _, _, _, _, _, _, _, _, _, _, _, _, _, _, _, _, _, _, _, _, _, _, _, _, _, _, _, _, _, _, _, _, _, _, _, _, _, _, _, _, _, _, _, _, _, _, _, _, _, _, _, _, _, _, _, _, _, _, _, _, _, _, _, _, _, _, _, _, _, _, _, _, _, _, _, _, _, _, _, _, _, _, _, _, _, _, _, _, _, _, _, _, _, _, _, _, _, _, _, _, _, _, _, _, _, _, _, _, _, _, _, _, _, _, _, _, _, _, _, _, _, _, _, _, _, _, _, _, _, _, _, _, _, _, _, _, _, _, _, _, _, _, _, _, _, _, _, _, _, _, _, _, _, _, _, _, _, _, _, _, _, _, _, _, _, _, _, _, _, _, _, _, _, _, _, _, _, _, _, _, _, _, _, _, _, _, _, _, _, _, _, _, _, _, _, _, _, _, _, _, _, _, _, _, _, _, _, _, _, _, _, _, _, _, _, _, _, _, _, _, _, _, _, _, _, _, _, _, _, _, _, _, _, _, _].getD i .nilFunc), ⟨⟨_, rfl⟩, ⟨_, _, rfl⟩, Lib.hid (HGD.out _)⟩, rfl⟩
set_option maxRecDepth 1000000 in
set_option maxHeartbeats 8000000 in
theorem fsEsc {K : Act → World → Prop} {Q' : Exit → Act → World → Prop} (w : World) (k V g n cap : Nat) (lo vb : Bool) (T : List UInt8) (E E2 : Addr) (z : Int) (wr : World) (hvb : Hid (vb = !lo)) (hk : k < n) (hcp : n ≤ cap) (hnb : n ≤ 1000000) (hn : Hid (n = T.length)) (hT : Hid (∀ w', w.grownBy w' (some V) → Tabs2 w' E E2)) (hB : Hid (∀ w', w.grownBy w' (some V) → g < w'.heap.size ∧ BytesAt w' g 0 T)) (hF : Hid (FV wr V true)) (hG : Hid (w.grownBy wr (some V))) (hI : Hid (FInv lo T k)) (hk2 : k + 2 ≤ n) (h92 : Hid (atL T k = 92)) (h34 : Hid (¬ atL T k = 34))
    (hK : ∀ a' w'', fsWE w k V lo T (.pointer (some ⟨V, 0, none⟩)) (.slice (some ⟨g, 0, none⟩) n cap) (.bool vb) c4 c5 c6 c7 c10 (.int .i32 92) (.int .i64 1) c16 c21 c22 c23 c24 c25 c26 c27 c28 c29 c30 c31 c32 c33 c34 c35 c36 c37 c38 c39 c40 c41 c42 c43 c44 c45 c46 c47 c48 c49 c50 c51 c52 c53 c54 c55 c56 c57 c58 c59 c60 c61 c62 c63 c64 c65 c66 c67 c68 c69 c70 c71 c72 c73 c74 c75 c76 c77 c78 c79 c80 c81 c82 c83 c84 c85 c86 c87 c88 c334 c335 a' w'' → K a' w'')
    (hR : ∀ a' w'', fsFE w V (.pointer (some ⟨V, 0, none⟩)) (.slice (some ⟨g, 0, none⟩) n cap) (.bool vb) c4 c5 c6 c7 c10 (.int .i32 92) (.int .i64 1) c16 c21 c22 c23 c24 c25 c26 c27 c28 c29 c30 c31 c32 c33 c34 c35 c36 c37 c38 c39 c40 c41 c42 c43 c44 c45 c46 c47 c48 c49 c50 c51 c52 c53 c54 c55 c56 c57 c58 c59 c60 c61 c62 c63 c64 c65 c66 c67 c68 c69 c70 c71 c72 c73 c74 c75 c76 c77 c78 c79 c80 c81 c82 c83 c84 c85 c86 c87 c88 c334 c335 a' w'' → Q' .ret a' w'') :
    Code.wp Tryd.prog fsBlk (Exit.then K Q') ⟨#[.pointer (some ⟨V, 0, none⟩), .slice (some ⟨g, 0, none⟩) n cap, .int .i64 z, .bool vb, c4, c5, c6, c7, .int .i64 (k : Int), v9, c10, .int .i32 92, .int .i64 1, v13, v14, v15, c16, v17, v18, v19, v20, c21, c22, c23, c24, c25, c26, c27, c28, c29, c30, c31, c32, c33, c34, c35, c36, c37, c38, c39, c40, c41, c42, c43, c44, c45, c46, c47, c48, c49, c50, c51, c52, c53, c54, c55, c56, c57, c58, c59, c60, c61, c62, c63, c64, c65, c66, c67, c68, c69, c70, c71, c72, c73, c74, c75, c76, c77, c78, c79, c80, c81, c82, c83, c84, c85, c86, c87, c88, v89, v90, v91, v92, v93, v94, v95, v96, v97, v98, v99, v100, v101, v102, v103, v104, v105, v106, v107, v108, v109, v110, v111, v112, v113, v114, v115, v116, v117, v118, v119, v120, v121, v122, v123, v124, v125, v126, v127, v128, v129, v130, v131, v132, v133, v134, v135, v136, v137, v138, v139, v140, v141, v142, v143, v144, v145, v146, v147, v148, v149, v150, v151, v152, v153, v154, v155, v156, v157, v158, v159, v160, v161, v162, v163, v164, v165, v166, v167, v168, v169, v170, v171, v172, v173, v174, v175, v176, v177, v178, v179, v180, v181, v182, v183, v184, v185, v186, v187, v188, v189, v190, v191, v192, v193, v194, v195, v196, v197, v198, v199, v200, v201, v202, v203, v204, v205, v206, v207, v208, v209, v210, v211, v212, v213, v214, v215, v216, v217, v218, v219, v220, v221, v222, v223, v224, v225, v226, v227, v228, v229, v230, v231, v232, v233, v234, v235, v236, v237, v238, v239, v240, v241, v242, v243, v244, v245, v246, v247, v248, v249, v250, v251, v252, v253, v254, v255, v256, v257, v258, v259, v260, v261, v262, v263, v264, v265, v266, v267, v268, v269, v270, v271, v272, v273, v274, v275, v276, v277, v278, v279, v280, v281, v282, v283, v284, v285, v286, v287, v288, v289, v290, v291, v292, v293, v294, v295, v296, v297, v298, v299, v300, v301, v302, v303, v304, v305, v306, v307, v308, v309, v310, v311, v312, v313, v314, v315, v316, v317, v318, v319, v320, v321, v322, v323, v324, v325, v326, v327, v328, v329, v330, v331, v332, v333, c334, c335], []⟩ wr := by
  conv => arg 2; whnf
  obtain ⟨c1, hc1⟩ : ∃ c1 : Nat, atL T (k + 1) = c1 := ⟨natL (T.drop (k + 1)) 0, by rw [← natL_at, atLd]⟩
  have HC1 := Lib.hid hc1
  have HK1 : Hid (∀ w9, w.grownBy w9 (some V) → w9.cell? ⟨g, k + 1, none⟩ = some (.int .u8 c1)) := Lib.hid fun w9 hf9 => by
    have h1 := (hB.out w9 hf9).2 (k + 1) (by rw [← hn.out]; omega)
    rw [Nat.zero_add, hc1] at h1
    exact h1
  clear hc1
  have HJ := Lib.hid (joinS V 1 true true (by decide) (fun _ q => q) wr hF.out)
  go_wp2_with fail
  refine HJ.out.mono ?_
  rintro e w3 ⟨rfl, hf3, hg3⟩
  have HF3 := Lib.hid hf3
  have HG3 := Lib.hid (grownV_trans hG.out hg3)
  clear hf3 hg3 HJ hF hG
  have ck2 := HK1.out w3 HG3.out
  go_upto_block 6 with fail
  refine wp_selfC (ftAll w k V g n cap lo vb T E E2 c1 w3 hvb hk hcp hnb hn hT hB HF3 HG3 hI hk2 h92 h34 HC1 ?_ ?_)
  · intro a' w'' hinv
    obtain ⟨u8, u, hinv⟩ := hinv
    obtain ⟨⟨k', hlt, rfl, hI', hF', hG'⟩, ha⟩ := hinv
    subst ha
    clear HF3 HG3 ck2 HC1
    go_wp2
    refine ⟨_, _, (fun i => [.nilFunc, .nilFunc, .nilFunc, .nilFunc, .nilFunc, .nilFunc, .nilFunc, .nilFunc, .nilFunc, _, .nilFunc, .nilFunc, .nilFunc, _, _, _, .nilFunc, _, _, _, _, .nilFunc, .nilFunc, .nilFunc, .nilFunc, .nilFunc, .nilFunc, .nilFunc, .nilFunc, .nilFunc, .nilFunc, .nilFunc, .nilFunc, .nilFunc, .nilFunc, .nilFunc, .nilFunc, .nilFunc, .nilFunc, .nilFunc, .nilFunc, .nilFunc, .nilFunc, .nilFunc, .nilFunc, .nilFunc, .nilFunc, .nilFunc, .nilFunc, .nilFunc, .nilFunc, .nilFunc, .nilFunc, .nilFunc, .nilFunc, .nilFunc, .nilFunc, .nilFunc, .nilFunc, .nilFunc, .nilFunc, .nilFunc, .nilFunc, .nilFunc, .nilFunc, .nilFunc, .nilFunc, .nilFunc, .nilFunc, .nilFunc, .nilFunc, .nilFunc, .nilFunc, .nilFunc, .nilFunc, .nilFunc, .nilFunc, .nilFunc, .nilFunc, .nilFunc, .nilFunc, .nilFunc, .nilFunc, .nilFunc, .nilFunc, .nilFunc, .nilFunc, .nilFunc, .nilFunc, _, _, _, _, _, _, _, _, _, _, _, _, _, _, _, _, _, _, _, _, _, _, _, _, _, _, _, _, _, _, _, _, _, _, _, _, _, _, _, _, _, _, _, _, _, _, _, _, _, _, _, _, _, _, _, _, _, _, _, _, _, _, _, _, _, _, _, _, _, _, _, _, _, _, _, _, _, _, _, _, _, _, _, _, _, _, _, _, _, _, _, _, _, _, _, _, _, _, _, _, _, _, _, _, _, _, _, _, _, _, _, _, _, _, _, _, _, _, _, _, _, _, _, _, _, _, _, _, _, _, _, _, _, _, _, _, _, _, _, _, _, _, _, _, _, _, _, _, _, _, _, _, _, _, _, _, _, _, _, _, _, _, _, _, _, _, _, _, _, _, _, _, _, _, _, _, _, _, _, _, _, _, _, _, _, _, _, _, _, _, _, _, _, _, _, _, _, _, _, _, _, _, _, _, _, _, _, _, _, _, _, _, _, _, _, _, _, _, _, _, _, _, _, _, _, _, _, _, _, _, _, _, _, _, _, _, _, _, _, _, _, _, _, _, _].getD i .nilFunc), ⟨⟨_, rfl⟩, k', by omega, by go_num, hI', hF', hG'⟩, rfl⟩
  · intro a' w'' hinv
    obtain ⟨u8, u9, u, hinv⟩ := hinv
    obtain ⟨⟨⟨z8, rfl⟩, ⟨t9, p9, rfl⟩, hG'⟩, ha⟩ := hinv
    subst ha
    exact hR _ _ ⟨_, _, (fun i => [.nilFunc, .nilFunc, _, .nilFunc, .nilFunc, .nilFunc, .nilFunc, .nilFunc, .nilFunc, .nilFunc, .nilFunc, .nilFunc, .nilFunc, _, _, _, .nilFunc, _, _, _, _, .nilFunc, .nilFunc, .nilFunc, .nilFunc, .nilFunc, .nilFunc, .nilFunc, .nilFunc, .nilFunc, .nilFunc, .nilFunc, .nilFunc, .nilFunc, .nilFunc, .nilFunc, .nilFunc, .nilFunc, .nilFunc, .nilFunc, .nilFunc, .nilFunc, .nilFunc, .nilFunc, .nilFunc, .nilFunc, .nilFunc, .nilFunc, .nilFunc, .nilFunc, .nilFunc, .nilFunc, .nilFunc, .nilFunc, .nilFunc, .nilFunc, .nilFunc, .nilFunc, .nilFunc, .nilFunc, .nilFunc, .nilFunc, .nilFunc, .nilFunc, .nilFunc, .nilFunc, .nilFunc, .nilFunc, .nilFunc, .nilFunc, .nilFunc, .nilFunc, .nilFunc, .nilFunc, .nilFunc, .nilFunc, .nilFunc, .nilFunc, .nilFunc, .nilFunc, .nilFunc, .nilFunc, .nilFunc, .nilFunc, .nilFunc, .nilFunc, .nilFunc, .nilFunc, .nilFunc, _, _, _, _, _, _, _, _, _, _, _, _, _, _, _, _, _, _, _, _, _, _, _, _, _, _, _, _, _, _, _, _, _, _, _, _, _, _, _, _, _, _, _, _, _, _, _, _, _, _, _, _, _, _, _, _, _, _, _, _, _, _, _, _, _, _, _, _, _, _, _, _, _, _, _, _, _, _, _, _, _, _, _, _, _, _, _, _, _, _, _, _, _, _, _, _, _, _, _, _, _, _, _, _, _, _, _, _, _, _, _, _, _, _, _, _, _, _, _, _, _, _, _, _, _, _, _, _, _, _, _, _, _, _, _, _, _, _, _, _, _, _, _, _, _, _, _, _, _, _, _, _, _, _, _, _, _, _, _, _, _, _, _, _, _, _, _, _, _, _, _, _, _, _, _, _, _, _, _, _, _, _, _, _, _, _, _, _, _, _, _, _, _, _, _, _, _, _, _, _, _, _, _, _, _, _, _, _, _, _, _, _, _, _, _, _, _, _, _, _, _, _, _, _, _, _, _, _, _, _, _, _, _, _, _, _, _, _, _, _, _, _, _, _, _].getD i .nilFunc), ⟨⟨_, rfl⟩, ⟨_, _, rfl⟩, hG'⟩, rfl⟩
/-- What the decoder tells of a byte that is no plain one. -/
def FsC (lo : Bool) (T : List UInt8) (k : Nat) (r : Int) (wd : Nat) : Prop :=
  (2 ≤ wd ∧ FInv lo T (k + wd)) ∨ (r = 65533 ∧ wd = 1 ∧ 128 ≤ natL (T.drop k) 0 ∧ (lo = true → FInv lo T (k + 1))) ∨ (∃ c : Nat, r = (c : Int) ∧ wd = 1 ∧ c < 32) ∨ (r = 92 ∧ wd = 1 ∧ atL T k = 92 ∧ ¬ atL T k = 34)
set_option maxRecDepth 1000000 in
set_option maxHeartbeats 8000000 in
theorem fsAll {K : Act → World → Prop} {Q' : Exit → Act → World → Prop} (w : World) (k V g n cap : Nat) (lo vb : Bool) (T : List UInt8) (E E2 : Addr) (z r : Int) (wd : Nat) (wr : World) (hvb : Hid (vb = !lo)) (hk : k < n) (hcp : n ≤ cap) (hnb : n ≤ 1000000) (hn : Hid (n = T.length)) (hT : Hid (∀ w', w.grownBy w' (some V) → Tabs2 w' E E2)) (hB : Hid (∀ w', w.grownBy w' (some V) → g < w'.heap.size ∧ BytesAt w' g 0 T)) (hF : Hid (FV wr V true)) (hG : Hid (w.grownBy wr (some V))) (hI : Hid (FInv lo T k)) (hc : Hid (FsC lo T k r wd))
    (hK : ∀ a' w'', fsWE w k V lo T (.pointer (some ⟨V, 0, none⟩)) (.slice (some ⟨g, 0, none⟩) n cap) (.bool vb) c4 c5 c6 c7 c10 (.int .i32 r) (.int .i64 wd) c16 c21 c22 c23 c24 c25 c26 c27 c28 c29 c30 c31 c32 c33 c34 c35 c36 c37 c38 c39 c40 c41 c42 c43 c44 c45 c46 c47 c48 c49 c50 c51 c52 c53 c54 c55 c56 c57 c58 c59 c60 c61 c62 c63 c64 c65 c66 c67 c68 c69 c70 c71 c72 c73 c74 c75 c76 c77 c78 c79 c80 c81 c82 c83 c84 c85 c86 c87 c88 c334 c335 a' w'' → K a' w'')
    (hR : ∀ a' w'', fsFE w V (.pointer (some ⟨V, 0, none⟩)) (.slice (some ⟨g, 0, none⟩) n cap) (.bool vb) c4 c5 c6 c7 c10 (.int .i32 r) (.int .i64 wd) c16 c21 c22 c23 c24 c25 c26 c27 c28 c29 c30 c31 c32 c33 c34 c35 c36 c37 c38 c39 c40 c41 c42 c43 c44 c45 c46 c47 c48 c49 c50 c51 c52 c53 c54 c55 c56 c57 c58 c59 c60 c61 c62 c63 c64 c65 c66 c67 c68 c69 c70 c71 c72 c73 c74 c75 c76 c77 c78 c79 c80 c81 c82 c83 c84 c85 c86 c87 c88 c334 c335 a' w'' → Q' .ret a' w'') :
    Code.wp Tryd.prog fsBlk (Exit.then K Q') ⟨#[.pointer (some ⟨V, 0, none⟩), .slice (some ⟨g, 0, none⟩) n cap, .int .i64 z, .bool vb, c4, c5, c6, c7, .int .i64 (k : Int), v9, c10, .int .i32 r, .int .i64 wd, v13, v14, v15, c16, v17, v18, v19, v20, c21, c22, c23, c24, c25, c26, c27, c28, c29, c30, c31, c32, c33, c34, c35, c36, c37, c38, c39, c40, c41, c42, c43, c44, c45, c46, c47, c48, c49, c50, c51, c52, c53, c54, c55, c56, c57, c58, c59, c60, c61, c62, c63, c64, c65, c66, c67, c68, c69, c70, c71, c72, c73, c74, c75, c76, c77, c78, c79, c80, c81, c82, c83, c84, c85, c86, c87, c88, v89, v90, v91, v92, v93, v94, v95, v96, v97, v98, v99, v100, v101, v102, v103, v104, v105, v106, v107, v108, v109, v110, v111, v112, v113, v114, v115, v116, v117, v118, v119, v120, v121, v122, v123, v124, v125, v126, v127, v128, v129, v130, v131, v132, v133, v134, v135, v136, v137, v138, v139, v140, v141, v142, v143, v144, v145, v146, v147, v148, v149, v150, v151, v152, v153, v154, v155, v156, v157, v158, v159, v160, v161, v162, v163, v164, v165, v166, v167, v168, v169, v170, v171, v172, v173, v174, v175, v176, v177, v178, v179, v180, v181, v182, v183, v184, v185, v186, v187, v188, v189, v190, v191, v192, v193, v194, v195, v196, v197, v198, v199, v200, v201, v202, v203, v204, v205, v206, v207, v208, v209, v210, v211, v212, v213, v214, v215, v216, v217, v218, v219, v220, v221, v222, v223, v224, v225, v226, v227, v228, v229, v230, v231, v232, v233, v234, v235, v236, v237, v238, v239, v240, v241, v242, v243, v244, v245, v246, v247, v248, v249, v250, v251, v252, v253, v254, v255, v256, v257, v258, v259, v260, v261, v262, v263, v264, v265, v266, v267, v268, v269, v270, v271, v272, v273, v274, v275, v276, v277, v278, v279, v280, v281, v282, v283, v284, v285, v286, v287, v288, v289, v290, v291, v292, v293, v294, v295, v296, v297, v298, v299, v300, v301, v302, v303, v304, v305, v306, v307, v308, v309, v310, v311, v312, v313, v314, v315, v316, v317, v318, v319, v320, v321, v322, v323, v324, v325, v326, v327, v328, v329, v330, v331, v332, v333, c334, c335], []⟩ wr := by
  rcases hc.out with ⟨a, b⟩ | ⟨rfl, rfl, a, b⟩ | ⟨c, rfl, rfl, a⟩ | ⟨rfl, rfl, a, b⟩
  · exact fsMul w k V g n cap lo vb T E E2 z r wd wr hvb hk hcp hnb hn hT hB hF hG hI a (Lib.hid b) hK hR
  · cases hlo : lo
    · subst hlo
      exact fsInvS w k V g n cap false vb T E E2 z wr hvb hk hcp hnb hn hT hB hF hG hI (by rw [hvb.out]; rfl) (Lib.hid a) hK hR
    · subst hlo
      exact fsInvL w k V g n cap true vb T E E2 z wr hvb hk hcp hnb hn hT hB hF hG hI (by rw [hvb.out]; rfl) (Lib.hid a) (Lib.hid (b rfl)) hK hR
  · exact fsLow w k V g n cap lo vb T E E2 z c wr hvb hk hcp hnb hn hT hB hF hG hI a hK hR
  · by_cases hk2 : k + 2 ≤ n
    · exact fsEsc w k V g n cap lo vb T E E2 z wr hvb hk hcp hnb hn hT hB hF hG hI hk2 (Lib.hid a) (Lib.hid b) hK hR
    · exact fsEscEnd w k V g n cap lo vb T E E2 z wr hvb hk hcp hnb hn hT hB hF hG hI (by omega) hK hR
set_option maxRecDepth 100000 in
set_option maxHeartbeats 16000000 in
theorem consF0 (V g cap : Nat) (lo vb : Bool) (T : List UInt8) (E E2 : Addr) (w : World) (_hvb : vb = !lo) (_hm : BytesAt w g 0 T) (_hcap : T.length ≤ cap) (_hnb : T.length ≤ 1000000) (_hF : FV w V true) (_hgV : g ≠ V) (_hgw : g < w.heap.size) (hTB : ∀ w', w.grownBy w' (some V) → Tabs2 w' E E2) (h0 : T.length = 0) :
    Calls Tryd.prog 78 #[.pointer (some ⟨V, 0, none⟩), .slice (some ⟨g, 0, none⟩) T.length cap, .int .i64 0, .bool vb] w (CsFail V w) := by
  have HTB := Lib.hid hTB
  have HG : Hid (w.grownBy w (some V)) := Lib.hid (World.grownBy.refl w _)
  rw [h0] at _hcap ⊢
  clear _hm _hF _hvb hTB _hnb
  go_enter Tryd.func78, Tryd.ntmps78
  have ce := (HTB.out w HG.out).eof
  have HGD : Hid (∀ m, w.grownBy (World.drewN w m) (some V)) := Lib.hid fun m => grownV_below HG.out (Below.drewF (Below.refl _ _) _)
  go_wp2_with fail
  go_quiet (fail)
  go_wp2
  go_ret2
  exact ⟨_, _, rfl, ⟨_, _, rfl⟩, HGD.out _⟩
set_option maxRecDepth 100000 in
set_option maxHeartbeats 16000000 in
theorem consFc (V g cap : Nat) (lo vb : Bool) (T : List UInt8) (E E2 : Addr) (w : World) (_hvb : vb = !lo) (hm : BytesAt w g 0 T) (hcap : T.length ≤ cap) (hnb : T.length ≤ 1000000) (_hF : FV w V true) (_hgV : g ≠ V) (hgw : g < w.heap.size) (hTB : ∀ w', w.grownBy w' (some V) → Tabs2 w' E E2) (h0 : 0 < T.length) (h34 : ¬ atL T 0 = 34) :
    Calls Tryd.prog 78 #[.pointer (some ⟨V, 0, none⟩), .slice (some ⟨g, 0, none⟩) T.length cap, .int .i64 0, .bool vb] w (CsFail V w) := by
  have HNI : Hid (∀ x, Calls Tryd.prog 68 #[.slice (some ⟨g, 0, none⟩) T.length cap, .string x] w (OwnPost w)) := Lib.hid fun x => newInvalid T g 0 cap x w (hTB w (World.grownBy.refl w _)).tabs.u8 hm h0 hcap hgw
  have c0 := hm 0 h0
  rw [Nat.add_zero] at c0
  have q34 : (atL T 0 == 34) = false := by simpa using h34
  have hn0 : ((T.length : Int) == 0) = false := beq_eq_false_iff_ne.2 (by omega)
  clear hm _hF _hvb hTB h34
  generalize atL T 0 = x0 at c0 q34
  generalize T.length = n at *
  go_enter Tryd.func78, Tryd.ntmps78
  go_wp2_with fail
  refine (HNI.out _).mono ?_
  rintro e w4 ⟨⟨pe, rfl⟩, hb4⟩
  have HG4 := Lib.hid (grownV_below (World.grownBy.refl w (some V)) hb4)
  clear hb4 HNI
  go_wp2
  go_ret2
  exact ⟨_, _, rfl, ⟨_, _, rfl⟩, HG4.out⟩
set_option maxRecDepth 100000 in
set_option maxHeartbeats 16000000 in
theorem consF1 (V g cap : Nat) (lo vb : Bool) (T : List UInt8) (E E2 : Addr) (w : World) (hvb : vb = !lo) (hm : BytesAt w g 0 T) (hcap : T.length ≤ cap) (hnb : T.length ≤ 1000000) (hF : FV w V true) (hgV : g ≠ V) (hgw : g < w.heap.size) (hTB : ∀ w', w.grownBy w' (some V) → Tabs2 w' E E2) (h0 : 0 < T.length) (h34 : atL T 0 = 34) (hno : strN lo T 1 = 0) :
    Calls Tryd.prog 78 #[.pointer (some ⟨V, 0, none⟩), .slice (some ⟨g, 0, none⟩) T.length cap, .int .i64 0, .bool vb] w (CsFail V w) := by
  have HST : Hid (FInv lo T 1) := Lib.hid ⟨Nat.le_refl _, h0, hno⟩
  obtain ⟨n, hn⟩ : ∃ n, n = T.length := ⟨_, rfl⟩
  have HB : Hid (∀ w', w.grownBy w' (some V) → g < w'.heap.size ∧ BytesAt w' g 0 T) := Lib.hid fun w' hg => ⟨Nat.lt_of_lt_of_le hgw hg.size, fun j hj => (World.cell?_of_block (a := ⟨g, 0 + j, none⟩) (hg.block g hgw (fun q => hgV (Option.some.inj q)))).trans (hm j hj)⟩
  have HTB := Lib.hid hTB
  have HVB := Lib.hid hvb
  have HN := Lib.hid hn
  have HF := Lib.hid hF
  have HG : Hid (w.grownBy w (some V)) := Lib.hid (World.grownBy.refl w _)
  have c0 := hm 0 h0
  rw [Nat.add_zero, h34] at c0
  rw [← hn] at hcap hnb h0 ⊢
  have hn0 : ((n : Int) == 0) = false := by simp; omega
  clear hm hn hvb hTB hF h34 hno
  go_enter Tryd.func78, Tryd.ntmps78
  go_wp2
  go_loopg [2, 8] n (fun q r2 i wx => (∃ z : Int, r2 = .int .i64 z) ∧ ∃ (k : Nat), q = n + 1 - k ∧ i = .int .i64 k ∧ Hid (FInv lo T k) ∧ Hid (FV wx V true) ∧ Hid (w.grownBy wx (some V)))
  case atStart => exact ⟨⟨0, rfl⟩, 1, rfl, rfl, HST, HF, HG⟩
  case round =>
    clear HST HF HG c0
    obtain ⟨⟨z, rfl⟩, k0, rfl, rfl, hI0, hF, hG⟩ := hrel
    have hk0 : k0 ≤ n := by have := hI0.out.le; rw [HN.out]; exact this
    by_cases hz2 : k0 < n
    · have hz1 : decide ((k0 : Int) < (n : Int)) = true := by simp; omega
      go_wp2
      go_loopg [8] (n + 1 - k0) (fun q y wx => ∃ k : Nat, k0 ≤ k ∧ q = n + 1 - k ∧ y = .int .i64 (k : Int) ∧ Hid (FInv lo T k) ∧ Hid (FV wx V true) ∧ Hid (w.grownBy wx (some V)))
      case atStart => exact ⟨k0, Nat.le_refl _, rfl, rfl, hI0, hF, hG⟩
      case round =>
        clear hI0 hz1 hz2 hF hG
        obtain ⟨k, hkk, rfl, rfl, hI, hF, hG⟩ := hrel
        have hke : k ≤ n := by have := hI.out.le; rw [HN.out]; exact this
        by_cases hk : k < n
        · have hkn2 : decide ((k : Int) < (n : Int)) = true := by simp; omega
          have hkn3 : decide ((n : Int) ≤ (k : Int)) = false := by simp; omega
          have hkT : Hid (k < T.length) := Lib.hid (by rw [← HN.out]; exact hk)
          have ck := (HB.out wr hG.out).2 k hkT.out
          rw [Nat.zero_add] at ck
          have h34 : Hid (¬ atL T k = 34) := Lib.hid (hI.out.not34 hkT.out)
          obtain ⟨c, hc⟩ : ∃ c : Nat, c = natL (T.drop k) 0 := ⟨_, rfl⟩
          have hat : Hid (atL T k = (c : Int)) := Lib.hid (by rw [hc, ← natL_at, atLd]; rfl)
          have hc256 : c < 256 := by rw [hc]; exact natL_lt _ _
          rw [hat.out] at ck
          have HC := Lib.hid hc
          clear hc
          by_cases hpl : plainB (c : Int) = true
          · have hcc : 32 ≤ c ∧ c < 128 ∧ ¬ c = 92 ∧ ¬ c = 34 := by unfold plainB at hpl; simp at hpl; omega
            have HI : Hid (FInv lo T (k + 1)) := Lib.hid (hI.out.next hkT.out h34.out 1 (stepN_one (by rw [hat.out]; omega) (by rw [hat.out]; omega) (Or.inl (by rw [hat.out]; omega))))
            clear hcc
            go_wp2_with fail
            refine (noEscapeC (c : Int) true hpl.symm _).mono ?_
            rintro e w' ⟨rfl, rfl⟩
            go_wp2
            go_roundg (n + 1 - (k + 1))
            case measure => omega
            case rel => exact ⟨k + 1, by omega, rfl, by go_num, HI, hF, hG⟩
          · have hpl' : plainB (c : Int) = false := by simpa using hpl
            clear hpl
            have hc34 : ¬ c = 34 := fun q => h34.out (by rw [hat.out, q]; rfl)
            have hcn : c = 92 ∨ 128 ≤ c ∨ c < 32 := by
              have h1 := hpl'
              unfold plainB at h1
              simp at h1
              omega
            have hx34 : ((c : Int) == 34) = false := by simp; omega
            have hcx : ¬ cap = k := by omega
            have hTl : (T.drop k).length = n - k := by rw [List.length_drop, ← HN.out]
            have hTpos : 0 < (T.drop k).length := by omega
            have hdec := decodeRune (T.drop k) g k (cap - k) wr (HTB.out wr hG.out).tabs.u8 (bytes_dropF (HB.out wr hG.out).2 k) hTpos
            rw [hTl] at hdec
            obtain ⟨d0, d1, d2, d3⟩ := dec_head (T.drop k) hTpos
            have hd1 : c < 128 → decN (T.drop k) = (c, 1) := fun q => by unfold decN Go.Lib.decodeN; rw [← HC.out, if_pos (by omega)]
            have hFC : FsC lo T k ((decN (T.drop k)).1 : Int) (decN (T.drop k)).2 := by
              by_cases h128 : 128 ≤ c
              · by_cases hz : rlL (T.drop k) = 0
                · rw [d0 hz]
                  exact .inr (.inl ⟨rfl, rfl, by rw [← HC.out]; exact h128, fun hlo => hI.out.next hkT.out h34.out 1 (stepN_one (by rw [hat.out]; omega) (by rw [hat.out]; omega) (Or.inr hlo))⟩)
                · obtain ⟨d4, d5, d6, d7⟩ := d1 hz
                  have hwl := (decW_range (T.drop k) hTpos).2
                  rw [List.length_drop] at hwl
                  rw [d2]
                  refine .inl ⟨d5 (by rw [← HC.out]; exact h128), ?_⟩
                  cases hlo : lo
                  · subst hlo
                    exact hI.out.next hkT.out h34.out _ (by rw [stepN_many (by rw [hat.out]; omega) (by rw [hat.out]; omega) (by rw [hat.out]; simp; omega), if_neg hz])
                  · subst hlo
                    refine hI.out.many _ (fun j hj => ?_) (by have := hkT.out; omega)
                    by_cases hj0 : j = 0
                    · subst hj0; rw [Nat.add_zero, hat.out]; omega
                    · have := rl_cont (T.drop k) hTpos j (by omega) hj
                      rw [atLd] at this; exact this
              · rw [hd1 (by omega)]
                by_cases h92 : c = 92
                · subst h92
                  exact .inr (.inr (.inr ⟨rfl, rfl, hat.out, h34.out⟩))
                · exact .inr (.inr (.inl ⟨c, rfl, rfl, by omega⟩))
            obtain ⟨wd, hwd⟩ : ∃ x, x = (decN (T.drop k)).2 := ⟨_, rfl⟩
            obtain ⟨r, hr⟩ : ∃ r, r = (decN (T.drop k)).1 := ⟨_, rfl⟩
            rw [← hr, ← hwd] at hdec hFC
            have HD := Lib.hid hdec
            have HFC := Lib.hid hFC
            clear hdec hFC d0 d1 d2 d3 hd1 hTl hTpos hwd hr hcn
            go_wp2_with fail
            refine (noEscapeC (c : Int) false hpl'.symm _).mono ?_
            rintro e w' ⟨rfl, rfl⟩
            go_wp2_with fail
            refine HD.out.mono ?_
            rintro e wg ⟨rfl, hbg⟩
            have HFX := Lib.hid (hF.out.below hbg)
            have HGX := Lib.hid (grownV_below hG.out hbg)
            clear hbg HD
            go_upto_block 5 with fail
            refine wp_selfC (fsAll w k V g n cap lo vb T E E2 _ (r : Int) wd wg HVB hk hcap hnb HN HTB HB HFX HGX hI HFC ?_ ?_)
            · intro a' w'' hinv
              obtain ⟨u2, u8, u, hinv⟩ := hinv
              obtain ⟨⟨⟨z', rfl⟩, k', hlt, rfl, hI', hF', hG'⟩, ha⟩ := hinv
              subst ha
              clear HFX HGX hI
              try dsimp only
              go_wp2
              go_roundg (n + 1 - k')
              case measure => have h1 := hI'.out.le; have h2 := HN.out; omega
              case rel => exact ⟨⟨z', rfl⟩, k', rfl, rfl, hI', hF', hG'⟩
            · intro a' w'' hinv
              obtain ⟨u8, u9, u, hinv⟩ := hinv
              obtain ⟨⟨⟨z8, rfl⟩, ⟨t9, p9, rfl⟩, hG'⟩, ha⟩ := hinv
              subst ha
              clear HFX HGX hI
              go_ret2
              exact ⟨_, _, rfl, ⟨_, _, rfl⟩, hG'.out⟩
        · obtain rfl : k = n := by omega
          clear hk hke
          have ce := (HTB.out wr hG.out).eof
          have HGD : Hid (∀ m, w.grownBy (World.drewN wr m) (some V)) := Lib.hid fun m => grownV_below hG.out (Below.drewF (Below.refl _ _) _)
          go_wp2_with fail
          go_quiet (fail)
          go_wp2
          go_ret2
          exact ⟨_, _, rfl, ⟨_, _, rfl⟩, HGD.out _⟩
    · obtain rfl : k0 = n := by omega
      clear hz2 hk0
      have ce := (HTB.out wr hG.out).eof
      have HGD : Hid (∀ m, w.grownBy (World.drewN wr m) (some V)) := Lib.hid fun m => grownV_below hG.out (Below.drewF (Below.refl _ _) _)
      go_wp2_with fail
      go_quiet (fail)
      go_wp2
      go_ret2
      exact ⟨_, _, rfl, ⟨_, _, rfl⟩, HGD.out _⟩
set_option maxRecDepth 100000 in
set_option maxHeartbeats 16000000 in
theorem consF (V g cap : Nat) (lo vb : Bool) (T : List UInt8) (E E2 : Addr) (w : World) (hvb : vb = !lo) (hm : BytesAt w g 0 T) (hcap : T.length ≤ cap) (hnb : T.length ≤ 1000000) (hF : FV w V true) (hgV : g ≠ V) (hgw : g < w.heap.size) (hTB : ∀ w', w.grownBy w' (some V) → Tabs2 w' E E2) (hno : strQ lo T 0 = 0) :
    Calls Tryd.prog 78 #[.pointer (some ⟨V, 0, none⟩), .slice (some ⟨g, 0, none⟩) T.length cap, .int .i64 0, .bool vb] w (CsFail V w) := by
  by_cases h0 : T.length = 0
  · exact consF0 V g cap lo vb T E E2 w hvb hm hcap hnb hF hgV hgw hTB h0
  · by_cases h34 : atL T 0 = 34
    · refine consF1 V g cap lo vb T E E2 w hvb hm hcap hnb hF hgV hgw hTB (by omega) h34 ?_
      unfold strQ at hno
      rw [seePat, if_pos h34] at hno
      exact hno
    · exact consFc V g cap lo vb T E E2 w hvb hm hcap hnb hF hgV hgw hTB (by omega) h34
set_option maxRecDepth 100000 in
set_option maxHeartbeats 4000000 in
theorem consumeF (V g cap : Nat) (lo vb : Bool) (T : List UInt8) (E E2 : Addr) (w : World) (hvb : vb = !lo) (hm : BytesAt w g 0 T) (hcap : T.length ≤ cap) (hnb : T.length ≤ 1000000) (hF : FV w V true) (hgV : g ≠ V) (hgw : g < w.heap.size) (hTB : ∀ w', w.grownBy w' (some V) → Tabs2 w' E E2) (hno : strQ lo T 0 = 0) :
    Calls Tryd.prog 51 #[.pointer (some ⟨V, 0, none⟩), .slice (some ⟨g, 0, none⟩) T.length cap, .bool vb] w (CsFail V w) := by
  have HC := Lib.hid (consF V g cap lo vb T E E2 w hvb hm hcap hnb hF hgV hgw hTB hno)
  clear hm hTB hF hno hvb hnb
  generalize T.length = n at *
  go_enter Tryd.func51, Tryd.ntmps51
  go_wp2_with fail
  refine HC.out.mono ?_
  rintro en w' ⟨z, er, rfl, he, hg⟩
  have HE := Lib.hid he
  have HG := Lib.hid hg
  clear he hg HC
  go_wp2
  go_ret2
  exact ⟨_, _, rfl, HE.out, HG.out⟩
end
end Go.Proofs.YtldcoaigecnpfaaDoor
