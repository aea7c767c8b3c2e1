/- The outer switch of jsonwire.AppendUnquote: a character of many bytes, an escape, what is no character: each a declaration of its own. -/
import Derived.Test.YtldcoaigecnpfaaDoorGAppUnqB
import Derived.Deep.DeepCutAuto
import Derived.Deep.CutBlock
namespace Go.Proofs.YtldcoaigecnpfaaDoor
open Go.RowKit
theorem decN_ascii (l : List UInt8) (h : natL l 0 < 128) : decN l = (natL l 0, 1) := by
  unfold decN Go.Lib.decodeN; rw [if_pos h]
theorem src_q {w : World} {g : Nat} {m : List UInt8} (h : BytesAt w g 0 (qT m)) (i k c : Nat) (hik : i ≤ k) (hk : k ≤ m.length) : Src w 23 (.slice (some ⟨g, i + 1, none⟩) (k - i) c) ((m.drop i).take (k - i)) := by
  have := src_part h (i + 1) (k + 1) c (by omega) (by rw [qT_length]; omega)
  rw [show k + 1 - (i + 1) = k - i by omega, qT_part m i k hik hk] at this
  exact this
theorem then_self (Q : Exit → Act → World → Prop) : Exit.then (Q .normal) Q = Q := by
  funext e; cases e <;> rfl
theorem wp_self {c : Code} {Q : Exit → Act → World → Prop} {a : Act} {w : World} (h : Code.wp Tryd.prog c (Exit.then (Q .normal) Q) a w) : Code.wp Tryd.prog c Q a w := then_self Q ▸ h
/-- The block of a number in a function's code. -/
def avAt (n : Nat) : Code → Option Code
  | .block k c => if k = n then some (.block k c) else avAt n c
  | .seq a b => match avAt n a with
    | some c => some c
    | none => avAt n b
  | .loop c => avAt n c
  | .scope c => avAt n c
  | .cond _ a b => match avAt n a with
    | some c => some c
    | none => avAt n b
  | _ => none
noncomputable def avBlk : Code := ((Tryd.f48.body.bind (avAt 5)).getD .skip)
set_option maxRecDepth 1000000 in
/-- What stands behind the block. -/
def avWE (w : World) (base : Nat) (G : Option (Nat × Nat)) (n k : Nat) (m l : List UInt8) (c1 c2 c3 c8 c9 c10 c17 c18 c19 c20 c21 c22 c23 c24 c25 c26 c27 c28 c29 c30 c31 c32 c33 c34 c35 c36 c37 c38 c39 c40 c41 c42 c43 c44 c45 c46 c47 c48 c49 c50 c51 c52 c53 c54 c55 c56 c57 c58 c59 c60 c61 c62 c63 c64 c65 c66 c67 c68 c69 c70 c71 c72 c73 c74 c75 c76 c77 c78 c79 c80 c81 c82 c83 c84 c85 c86 c87 c88 c89 c90 c91 c92 c93 c94 c95 c96 c97 c98 c99 c100 c101 c341 c342 c343 c344 c345 c346 c347 c348 : Value) (a : Act) (w' : World) : Prop := ∃ (u0 u5 u6 u7 : Value) (u : Nat → Value), (∃ (i' k' : Nat) (bad' : Bool) (out' : List UInt8), k' ≤ n ∧ i' ≤ k' ∧ k < k' ∧ u6 = .int .i64 ((i' : Int) + 1) ∧ u7 = .int .i64 ((k' : Int) + 1) ∧ Hid (bad' = false → u5 = .nilIface) ∧ Hid (Buf w' base G u0 (l ++ out')) ∧ Hid (Fr base G w w') ∧ Hid (UInv m k' i' out' bad')) ∧ a = ⟨#[u0, c1, c2, c3, u 4, u5, u6, u7, c8, c9, c10, u 11, u 12, u 13, u 14, u 15, u 16, c17, c18, c19, c20, c21, c22, c23, c24, c25, c26, c27, c28, c29, c30, c31, c32, c33, c34, c35, c36, c37, c38, c39, c40, c41, c42, c43, c44, c45, c46, c47, c48, c49, c50, c51, c52, c53, c54, c55, c56, c57, c58, c59, c60, c61, c62, c63, c64, c65, c66, c67, c68, c69, c70, c71, c72, c73, c74, c75, c76, c77, c78, c79, c80, c81, c82, c83, c84, c85, c86, c87, c88, c89, c90, c91, c92, c93, c94, c95, c96, c97, c98, c99, c100, c101, u 102, u 103, u 104, u 105, u 106, u 107, u 108, u 109, u 110, u 111, u 112, u 113, u 114, u 115, u 116, u 117, u 118, u 119, u 120, u 121, u 122, u 123, u 124, u 125, u 126, u 127, u 128, u 129, u 130, u 131, u 132, u 133, u 134, u 135, u 136, u 137, u 138, u 139, u 140, u 141, u 142, u 143, u 144, u 145, u 146, u 147, u 148, u 149, u 150, u 151, u 152, u 153, u 154, u 155, u 156, u 157, u 158, u 159, u 160, u 161, u 162, u 163, u 164, u 165, u 166, u 167, u 168, u 169, u 170, u 171, u 172, u 173, u 174, u 175, u 176, u 177, u 178, u 179, u 180, u 181, u 182, u 183, u 184, u 185, u 186, u 187, u 188, u 189, u 190, u 191, u 192, u 193, u 194, u 195, u 196, u 197, u 198, u 199, u 200, u 201, u 202, u 203, u 204, u 205, u 206, u 207, u 208, u 209, u 210, u 211, u 212, u 213, u 214, u 215, u 216, u 217, u 218, u 219, u 220, u 221, u 222, u 223, u 224, u 225, u 226, u 227, u 228, u 229, u 230, u 231, u 232, u 233, u 234, u 235, u 236, u 237, u 238, u 239, u 240, u 241, u 242, u 243, u 244, u 245, u 246, u 247, u 248, u 249, u 250, u 251, u 252, u 253, u 254, u 255, u 256, u 257, u 258, u 259, u 260, u 261, u 262, u 263, u 264, u 265, u 266, u 267, u 268, u 269, u 270, u 271, u 272, u 273, u 274, u 275, u 276, u 277, u 278, u 279, u 280, u 281, u 282, u 283, u 284, u 285, u 286, u 287, u 288, u 289, u 290, u 291, u 292, u 293, u 294, u 295, u 296, u 297, u 298, u 299, u 300, u 301, u 302, u 303, u 304, u 305, u 306, u 307, u 308, u 309, u 310, u 311, u 312, u 313, u 314, u 315, u 316, u 317, u 318, u 319, u 320, u 321, u 322, u 323, u 324, u 325, u 326, u 327, u 328, u 329, u 330, u 331, u 332, u 333, u 334, u 335, u 336, u 337, u 338, u 339, u 340, c341, c342, c343, c344, c345, c346, c347, c348], []⟩
section
variable {c2 c3 v4 c8 v11 v12 v13 v14 v15 v16 c17 c18 c19 c20 c21 c22 c23 c24 c25 c26 c27 c28 c29 c30 c31 c32 c33 c34 c35 c36 c37 c38 c39 c40 c41 c42 c43 c44 c45 c46 c47 c48 c49 c50 c51 c52 c53 c54 c55 c56 c57 c58 c59 c60 c61 c62 c63 c64 c65 c66 c67 c68 c69 c70 c71 c72 c73 c74 c75 c76 c77 c78 c79 c80 c81 c82 c83 c84 c85 c86 c87 c88 c89 c90 c91 c92 c93 c94 c95 c96 c97 c98 c99 c100 c101 v102 v103 v104 v105 v106 v107 v108 v109 v110 v111 v112 v113 v114 v115 v116 v117 v118 v119 v120 v121 v122 v123 v124 v125 v126 v127 v128 v129 v130 v131 v132 v133 v134 v135 v136 v137 v138 v139 v140 v141 v142 v143 v144 v145 v146 v147 v148 v149 v150 v151 v152 v153 v154 v155 v156 v157 v158 v159 v160 v161 v162 v163 v164 v165 v166 v167 v168 v169 v170 v171 v172 v173 v174 v175 v176 v177 v178 v179 v180 v181 v182 v183 v184 v185 v186 v187 v188 v189 v190 v191 v192 v193 v194 v195 v196 v197 v198 v199 v200 v201 v202 v203 v204 v205 v206 v207 v208 v209 v210 v211 v212 v213 v214 v215 v216 v217 v218 v219 v220 v221 v222 v223 v224 v225 v226 v227 v228 v229 v230 v231 v232 v233 v234 v235 v236 v237 v238 v239 v240 v241 v242 v243 v244 v245 v246 v247 v248 v249 v250 v251 v252 v253 v254 v255 v256 v257 v258 v259 v260 v261 v262 v263 v264 v265 v266 v267 v268 v269 v270 v271 v272 v273 v274 v275 v276 v277 v278 v279 v280 v281 v282 v283 v284 v285 v286 v287 v288 v289 v290 v291 v292 v293 v294 v295 v296 v297 v298 v299 v300 v301 v302 v303 v304 v305 v306 v307 v308 v309 v310 v311 v312 v313 v314 v315 v316 v317 v318 v319 v320 v321 v322 v323 v324 v325 v326 v327 v328 v329 v330 v331 v332 v333 v334 v335 v336 v337 v338 v339 v340 c341 c342 c343 c344 c345 c346 c347 c348 : Value}
set_option maxRecDepth 1000000 in
set_option maxHeartbeats 8000000 in
theorem avMul {K : Act → World → Prop} {Q' : Exit → Act → World → Prop} (w : World) (base : Nat) (G : Option (Nat × Nat)) (g cap n i k : Nat) (m l out : List UInt8) (D ev : Value) (bad : Bool) (E : Addr) (r : Int) (wd : Nat) (wr : World) (_hn : Hid (n = m.length)) (hk : k < n) (hik : i ≤ k) (_hcp : n + 2 ≤ cap) (hnb : n ≤ 100000000000) (_hlb : l.length ≤ 100000000000) (_hlen : Hid (out.length + (k - i) ≤ 4 * n)) (_hbase : base ≤ w.heap.size) (_hG : Hid (∀ g o, G = some (g, o) → g < base)) (_hg : g < base) (_hgG : Hid (∀ o, G ≠ some (g, o))) (_hT : Hid (∀ w', Fr base G w w' → Tabs w' E)) (hB : Hid (Buf wr base G D (l ++ out))) (hF : Hid (Fr base G w wr)) (_hM : Hid (∀ w', Fr base G w w' → BytesAt w' g 0 (qT m))) (hev : Hid (bad = false → ev = .nilIface)) (_hI : Hid (UInv m k i out bad)) (hw2 : 2 ≤ wd) (hwn : k + wd ≤ n) (HI : Hid (UInv m (k + wd) i out bad))
    (hK : ∀ a' w'', avWE w base G n k m l (.slice (some ⟨g, 0, none⟩) (n + 2) cap) c2 c3 c8 (.int .i32 r) (.int .i64 wd) c17 c18 c19 c20 c21 c22 c23 c24 c25 c26 c27 c28 c29 c30 c31 c32 c33 c34 c35 c36 c37 c38 c39 c40 c41 c42 c43 c44 c45 c46 c47 c48 c49 c50 c51 c52 c53 c54 c55 c56 c57 c58 c59 c60 c61 c62 c63 c64 c65 c66 c67 c68 c69 c70 c71 c72 c73 c74 c75 c76 c77 c78 c79 c80 c81 c82 c83 c84 c85 c86 c87 c88 c89 c90 c91 c92 c93 c94 c95 c96 c97 c98 c99 c100 c101 c341 c342 c343 c344 c345 c346 c347 c348 a' w'' → K a' w'') :
    Code.wp Tryd.prog avBlk (Exit.then K Q') ⟨#[D, .slice (some ⟨g, 0, none⟩) (n + 2) cap, c2, c3, v4, ev, .int .i64 ((i : Int) + 1), .int .i64 ((k : Int) + 1), c8, .int .i32 r, .int .i64 wd, v11, v12, v13, v14, v15, v16, c17, c18, c19, c20, c21, c22, c23, c24, c25, c26, c27, c28, c29, c30, c31, c32, c33, c34, c35, c36, c37, c38, c39, c40, c41, c42, c43, c44, c45, c46, c47, c48, c49, c50, c51, c52, c53, c54, c55, c56, c57, c58, c59, c60, c61, c62, c63, c64, c65, c66, c67, c68, c69, c70, c71, c72, c73, c74, c75, c76, c77, c78, c79, c80, c81, c82, c83, c84, c85, c86, c87, c88, c89, c90, c91, c92, c93, c94, c95, c96, c97, c98, c99, c100, c101, v102, v103, v104, v105, v106, v107, v108, v109, v110, v111, v112, v113, v114, v115, v116, v117, v118, v119, v120, v121, v122, v123, v124, v125, v126, v127, v128, v129, v130, v131, v132, v133, v134, v135, v136, v137, v138, v139, v140, v141, v142, v143, v144, v145, v146, v147, v148, v149, v150, v151, v152, v153, v154, v155, v156, v157, v158, v159, v160, v161, v162, v163, v164, v165, v166, v167, v168, v169, v170, v171, v172, v173, v174, v175, v176, v177, v178, v179, v180, v181, v182, v183, v184, v185, v186, v187, v188, v189, v190, v191, v192, v193, v194, v195, v196, v197, v198, v199, v200, v201, v202, v203, v204, v205, v206, v207, v208, v209, v210, v211, v212, v213, v214, v215, v216, v217, v218, v219, v220, v221, v222, v223, v224, v225, v226, v227, v228, v229, v230, v231, v232, v233, v234, v235, v236, v237, v238, v239, v240, v241, v242, v243, v244, v245, v246, v247, v248, v249, v250, v251, v252, v253, v254, v255, v256, v257, v258, v259, v260, v261, v262, v263, v264, v265, v266, v267, v268, v269, v270, v271, v272, v273, v274, v275, v276, v277, v278, v279, v280, v281, v282, v283, v284, v285, v286, v287, v288, v289, v290, v291, v292, v293, v294, v295, v296, v297, v298, v299, v300, v301, v302, v303, v304, v305, v306, v307, v308, v309, v310, v311, v312, v313, v314, v315, v316, v317, v318, v319, v320, v321, v322, v323, v324, v325, v326, v327, v328, v329, v330, v331, v332, v333, v334, v335, v336, v337, v338, v339, v340, c341, c342, c343, c344, c345, c346, c347, c348], []⟩ wr := by
  conv => arg 2; whnf
  have hwd1 : decide ((wd : Int) > 1) = true := by simp; omega
  have hwd2 : decide ((1 : Int) < (wd : Int)) = true := by simp; omega
  go_wp2
  refine ⟨_, _, _, _, (fun i => [.nilFunc, .nilFunc, .nilFunc, .nilFunc, _, .nilFunc, .nilFunc, .nilFunc, .nilFunc, .nilFunc, .nilFunc, _, _, _, _, _, _, .nilFunc, .nilFunc, .nilFunc, .nilFunc, .nilFunc, .nilFunc, .nilFunc, .nilFunc, .nilFunc, .nilFunc, .nilFunc, .nilFunc, .nilFunc, .nilFunc, .nilFunc, .nilFunc, .nilFunc, .nilFunc, .nilFunc, .nilFunc, .nilFunc, .nilFunc, .nilFunc, .nilFunc, .nilFunc, .nilFunc, .nilFunc, .nilFunc, .nilFunc, .nilFunc, .nilFunc, .nilFunc, .nilFunc, .nilFunc, .nilFunc, .nilFunc, .nilFunc, .nilFunc, .nilFunc, .nilFunc, .nilFunc, .nilFunc, .nilFunc, .nilFunc, .nilFunc, .nilFunc, .nilFunc, .nilFunc, .nilFunc, .nilFunc, .nilFunc, .nilFunc, .nilFunc, .nilFunc, .nilFunc, .nilFunc, .nilFunc, .nilFunc, .nilFunc, .nilFunc, .nilFunc, .nilFunc, .nilFunc, .nilFunc, .nilFunc, .nilFunc, .nilFunc, .nilFunc, .nilFunc, .nilFunc, .nilFunc, .nilFunc, .nilFunc, .nilFunc, .nilFunc, .nilFunc, .nilFunc, .nilFunc, .nilFunc, .nilFunc, .nilFunc, .nilFunc, .nilFunc, .nilFunc, .nilFunc, _, _, _, _, _, _, _, _, _, _, _, _, _, _, _, _, _, _, _, _, _, _, _, _, _, _, _, _, _, _, _, _, _, _, _, _, _, _, _, _, _, _, _, _, _, _, _, _, _, _, _, _, _, _, _, _, _, _, _, _, _, _, _, _, _, _, _, _, _, _, _, _, _, _, _, _, _, _, _, _, _, _, _, _, _, _, _, _, _, _, _, _, _, _, _, _, _, _, _, _, _, _, _, _, _, _, _, _, _, _, _, _, _, _, _, _, _, _, _, _, _, _, _, _, _, _, _, _, _, _, _, _, _, _, _, _, _, _, _, _, _, _, _, _, _, _, _, _, _, _, _, _, _, _, _, _, _, _, _, _, _, _, _, _, _, _, _, _, _, _, _, _, _, _, _, _, _, _, _, _, _, _, _, _, _, _, _, _, _, _, _, _, _, _, _, _, _, _, _, _, _, _, _, _, _, _, _, _, _, _, _, _, _, _, _, _, _, _, _, _, _, _, _, _, _, _, _, _, _, _, _, _, _, _, _, _, _, _, _].getD i .nilFunc), ⟨i, k + wd, bad, out, by omega, by omega, by omega, by go_num, by go_num, hev, hB, hF, HI⟩, rfl⟩
set_option maxRecDepth 1000000 in
set_option maxHeartbeats 8000000 in
theorem avInv {K : Act → World → Prop} {Q' : Exit → Act → World → Prop} (w : World) (base : Nat) (G : Option (Nat × Nat)) (g cap n i k : Nat) (m l out : List UInt8) (D ev : Value) (bad : Bool) (E : Addr) (wr : World) (hn : Hid (n = m.length)) (hk : k < n) (hik : i ≤ k) (hcp : n + 2 ≤ cap) (hnb : n ≤ 100000000000) (hlb : l.length ≤ 100000000000) (hlen : Hid (out.length + (k - i) ≤ 4 * n)) (hbase : base ≤ w.heap.size) (hG : Hid (∀ g o, G = some (g, o) → g < base)) (_hg : g < base) (_hgG : Hid (∀ o, G ≠ some (g, o))) (hT : Hid (∀ w', Fr base G w w' → Tabs w' E)) (hB : Hid (Buf wr base G D (l ++ out))) (hF : Hid (Fr base G w wr)) (hM : Hid (∀ w', Fr base G w w' → BytesAt w' g 0 (qT m))) (_hev : Hid (bad = false → ev = .nilIface)) (_hI : Hid (UInv m k i out bad)) (h128 : Hid (128 ≤ natL (m.drop k) 0)) (HI : Hid (UInv m (k + 1) (k + 1) (out ++ (m.drop i).take (k - i) ++ BR) true))
    (hK : ∀ a' w'', avWE w base G n k m l (.slice (some ⟨g, 0, none⟩) (n + 2) cap) c2 c3 c8 (.int .i32 65533) (.int .i64 1) c17 c18 c19 c20 c21 c22 c23 c24 c25 c26 c27 c28 c29 c30 c31 c32 c33 c34 c35 c36 c37 c38 c39 c40 c41 c42 c43 c44 c45 c46 c47 c48 c49 c50 c51 c52 c53 c54 c55 c56 c57 c58 c59 c60 c61 c62 c63 c64 c65 c66 c67 c68 c69 c70 c71 c72 c73 c74 c75 c76 c77 c78 c79 c80 c81 c82 c83 c84 c85 c86 c87 c88 c89 c90 c91 c92 c93 c94 c95 c96 c97 c98 c99 c100 c101 c341 c342 c343 c344 c345 c346 c347 c348 a' w'' → K a' w'') :
    Code.wp Tryd.prog avBlk (Exit.then K Q') ⟨#[D, .slice (some ⟨g, 0, none⟩) (n + 2) cap, c2, c3, v4, ev, .int .i64 ((i : Int) + 1), .int .i64 ((k : Int) + 1), c8, .int .i32 65533, .int .i64 1, v11, v12, v13, v14, v15, v16, c17, c18, c19, c20, c21, c22, c23, c24, c25, c26, c27, c28, c29, c30, c31, c32, c33, c34, c35, c36, c37, c38, c39, c40, c41, c42, c43, c44, c45, c46, c47, c48, c49, c50, c51, c52, c53, c54, c55, c56, c57, c58, c59, c60, c61, c62, c63, c64, c65, c66, c67, c68, c69, c70, c71, c72, c73, c74, c75, c76, c77, c78, c79, c80, c81, c82, c83, c84, c85, c86, c87, c88, c89, c90, c91, c92, c93, c94, c95, c96, c97, c98, c99, c100, c101, v102, v103, v104, v105, v106, v107, v108, v109, v110, v111, v112, v113, v114, v115, v116, v117, v118, v119, v120, v121, v122, v123, v124, v125, v126, v127, v128, v129, v130, v131, v132, v133, v134, v135, v136, v137, v138, v139, v140, v141, v142, v143, v144, v145, v146, v147, v148, v149, v150, v151, v152, v153, v154, v155, v156, v157, v158, v159, v160, v161, v162, v163, v164, v165, v166, v167, v168, v169, v170, v171, v172, v173, v174, v175, v176, v177, v178, v179, v180, v181, v182, v183, v184, v185, v186, v187, v188, v189, v190, v191, v192, v193, v194, v195, v196, v197, v198, v199, v200, v201, v202, v203, v204, v205, v206, v207, v208, v209, v210, v211, v212, v213, v214, v215, v216, v217, v218, v219, v220, v221, v222, v223, v224, v225, v226, v227, v228, v229, v230, v231, v232, v233, v234, v235, v236, v237, v238, v239, v240, v241, v242, v243, v244, v245, v246, v247, v248, v249, v250, v251, v252, v253, v254, v255, v256, v257, v258, v259, v260, v261, v262, v263, v264, v265, v266, v267, v268, v269, v270, v271, v272, v273, v274, v275, v276, v277, v278, v279, v280, v281, v282, v283, v284, v285, v286, v287, v288, v289, v290, v291, v292, v293, v294, v295, v296, v297, v298, v299, v300, v301, v302, v303, v304, v305, v306, v307, v308, v309, v310, v311, v312, v313, v314, v315, v316, v317, v318, v319, v320, v321, v322, v323, v324, v325, v326, v327, v328, v329, v330, v331, v332, v333, v334, v335, v336, v337, v338, v339, v340, c341, c342, c343, c344, c345, c346, c347, c348], []⟩ wr := by
  conv => arg 2; whnf
  have hkm : Hid (k < m.length) := by have := hn.out; show _ < _; omega
  have hcx : ¬ cap = k + 1 := by omega
  have HFR : Hid (∀ w9, Fr base G w w9 → Calls Tryd.prog 76 #[.slice (some ⟨g, k + 1, none⟩) (n + 1 - k) (cap - (k + 1))] w9 fun e w' => e = .returned (.bool true) ∧ Below w9.heap.size w9 w') := Lib.hid fun w9 hf9 => by
    have hTl : ((qT m).drop (k + 1)).length = n + 1 - k := by rw [List.length_drop, qT_length, ← hn.out]; omega
    have hn0 : natL ((qT m).drop (k + 1)) 0 = natL (m.drop k) 0 := qT_nat m k 0 (by have := hkm.out; omega)
    have hM9 := hM.out w9 hf9
    have := fullRune ((qT m).drop (k + 1)) g (k + 1) (cap - (k + 1)) w9 (hT.out w9 hf9).u8 (fun j hj => by
      have h1 := hM9 (k + 1 + j) (by rw [List.length_drop] at hj; omega)
      rw [Nat.zero_add] at h1
      rw [h1, atLd]) (by rw [hn0]; exact h128.out) (by rw [hTl]; omega) (by rw [hTl]; omega) (fun q => by
        have e : m.length = k + 1 := by rw [hTl] at q; rw [← hn.out]; omega
        have := qT_end m
        rw [e] at this
        rw [natL_drop]
        have h2 : (natL (qT m) (k + 1 + 1) : Int) = 34 := this
        omega) (fun q => by
        have e : m.length = k + 2 := by rw [hTl] at q; rw [← hn.out]; omega
        have := qT_end m
        rw [e] at this
        rw [natL_drop]
        have h2 : (natL (qT m) (k + 2 + 1) : Int) = 34 := this
        rw [show k + 1 + 2 = k + 2 + 1 by omega]; omega)
    rw [hTl] at this
    exact this
  go_wp2_with (at_builtin; refine wpList_append_buf rfl (.tmp 307) (.tmp 311) 23 rfl base G D (l ++ out) rfl hB.out _ _ rfl (src_q (hM.out wr hF.out) i k (cap - (i + 1)) hik (Nat.le_of_lt hkm.out)) ?c1 ?c2 hG.out ?_)
  case c1 => have h2 := hlen.out; have h3 := hn.out; simp; omega
  case c2 => have h1 := hF.out.size; omega
  intro v3 w3 hb3 hg3 hf3 _
  have HB3 : Hid (Buf w3 base G v3 (l ++ (out ++ (m.drop i).take (k - i)))) := Lib.hid (by simpa only [List.append_assoc] using hb3)
  have HF3 := Lib.hid (hF.out.trans hf3)
  clear hb3 hg3 hf3 hB hF
  have HFQ := Lib.hid (HFR.out w3 HF3.out)
  go_wp2_with fail
  refine HFQ.out.mono ?_
  rintro e w4 ⟨rfl, hb4⟩
  have HB4 := Lib.hid (HB3.out.belowAll hb4)
  have HF4 : Hid (Fr base G w w4) := Lib.hid (HF3.out.trans (Fr.of_belowAll hb4 (Nat.le_trans hbase HF3.out.size) hG.out))
  clear hb4 HB3 HF3 HFQ HFR
  go_wp2_with (at_builtin; refine wpList_append_buf rfl (.tmp 320) (.const (.string ⟨#[239, 191, 189]⟩)) 9 rfl base G v3 _ rfl HB4.out _ BR rfl (Src.text ⟨#[239, 191, 189]⟩) ?c1 ?c2 hG.out ?_)
  case c1 => have h2 := hlen.out; have h3 := hn.out; simp [BR]; omega
  case c2 => have h1 := HF4.out.size; omega
  intro v5 w5 hb5 hg5 hf5 _
  have HB5 : Hid (Buf w5 base G v5 (l ++ (out ++ (m.drop i).take (k - i) ++ BR))) := Lib.hid (by simpa only [List.append_assoc] using hb5)
  have hf6 := HF4.out.trans hf5
  have HF5 := Lib.hid hf6
  have hei := (hT.out w5 hf6).inv
  clear hf5 hg5 hb5 hf6 HB4 HF4
  go_wp2
  refine ⟨_, _, _, _, (fun i => [.nilFunc, .nilFunc, .nilFunc, .nilFunc, _, .nilFunc, .nilFunc, .nilFunc, .nilFunc, .nilFunc, .nilFunc, _, _, _, _, _, _, .nilFunc, .nilFunc, .nilFunc, .nilFunc, .nilFunc, .nilFunc, .nilFunc, .nilFunc, .nilFunc, .nilFunc, .nilFunc, .nilFunc, .nilFunc, .nilFunc, .nilFunc, .nilFunc, .nilFunc, .nilFunc, .nilFunc, .nilFunc, .nilFunc, .nilFunc, .nilFunc, .nilFunc, .nilFunc, .nilFunc, .nilFunc, .nilFunc, .nilFunc, .nilFunc, .nilFunc, .nilFunc, .nilFunc, .nilFunc, .nilFunc, .nilFunc, .nilFunc, .nilFunc, .nilFunc, .nilFunc, .nilFunc, .nilFunc, .nilFunc, .nilFunc, .nilFunc, .nilFunc, .nilFunc, .nilFunc, .nilFunc, .nilFunc, .nilFunc, .nilFunc, .nilFunc, .nilFunc, .nilFunc, .nilFunc, .nilFunc, .nilFunc, .nilFunc, .nilFunc, .nilFunc, .nilFunc, .nilFunc, .nilFunc, .nilFunc, .nilFunc, .nilFunc, .nilFunc, .nilFunc, .nilFunc, .nilFunc, .nilFunc, .nilFunc, .nilFunc, .nilFunc, .nilFunc, .nilFunc, .nilFunc, .nilFunc, .nilFunc, .nilFunc, .nilFunc, .nilFunc, .nilFunc, .nilFunc, _, _, _, _, _, _, _, _, _, _, _, _, _, _, _, _, _, _, _, _, _, _, _, _, _, _, _, _, _, _, _, _, _, _, _, _, _, _, _, _, _, _, _, _, _, _, _, _, _, _, _, _, _, _, _, _, _, _, _, _, _, _, _, _, _, _, _, _, _, _, _, _, _, _, _, _, _, _, _, _, _, _, _, _, _, _, _, _, _, _, _, _, _, _, _, _, _, _, _, _, _, _, _, _, _, _, _, _, _, _, _, _, _, _, _, _, _, _, _, _, _, _, _, _, _, _, _, _, _, _, _, _, _, _, _, _, _, _, _, _, _, _, _, _, _, _, _, _, _, _, _, _, _, _, _, _, _, _, _, _, _, _, _, _, _, _, _, _, _, _, _, _, _, _, _, _, _, _, _, _, _, _, _, _, _, _, _, _, _, _, _, _, _, _, _, _, _, _, _, _, _, _, _, _, _, _, _, _, _, _, _, _, _, _, _, _, _, _, _, _, _, _, _, _, _, _, _, _, _, _, _, _, _, _, _, _, _, _, _].getD i .nilFunc), ⟨k + 1, k + 1, true, out ++ (m.drop i).take (k - i) ++ BR, by omega, by omega, by omega, by go_num, by go_num, Lib.hid (fun q => by cases q), HB5, HF5, HI⟩, rfl⟩
set_option maxRecDepth 1000000 in
set_option maxHeartbeats 8000000 in
theorem avEsc {K : Act → World → Prop} {Q' : Exit → Act → World → Prop} (w : World) (base : Nat) (G : Option (Nat × Nat)) (g cap n i k : Nat) (m l out : List UInt8) (D ev : Value) (bad : Bool) (E : Addr) (wr : World) (hn : Hid (n = m.length)) (hk : k < n) (hik : i ≤ k) (hcp : n + 2 ≤ cap) (hnb : n ≤ 100000000000) (hlb : l.length ≤ 100000000000) (hlen : Hid (out.length + (k - i) ≤ 4 * n)) (hbase : base ≤ w.heap.size) (hG : Hid (∀ g o, G = some (g, o) → g < base)) (_hg : g < base) (_hgG : Hid (∀ o, G ≠ some (g, o))) (_hT : Hid (∀ w', Fr base G w w' → Tabs w' E)) (hB : Hid (Buf wr base G D (l ++ out))) (hF : Hid (Fr base G w wr)) (hM : Hid (∀ w', Fr base G w w' → BytesAt w' g 0 (qT m))) (hev : Hid (bad = false → ev = .nilIface)) (hI : Hid (UInv m k i out bad)) (h92 : Hid (natL (m.drop k) 0 = 92))
    (hK : ∀ a' w'', avWE w base G n k m l (.slice (some ⟨g, 0, none⟩) (n + 2) cap) c2 c3 c8 (.int .i32 92) (.int .i64 1) c17 c18 c19 c20 c21 c22 c23 c24 c25 c26 c27 c28 c29 c30 c31 c32 c33 c34 c35 c36 c37 c38 c39 c40 c41 c42 c43 c44 c45 c46 c47 c48 c49 c50 c51 c52 c53 c54 c55 c56 c57 c58 c59 c60 c61 c62 c63 c64 c65 c66 c67 c68 c69 c70 c71 c72 c73 c74 c75 c76 c77 c78 c79 c80 c81 c82 c83 c84 c85 c86 c87 c88 c89 c90 c91 c92 c93 c94 c95 c96 c97 c98 c99 c100 c101 c341 c342 c343 c344 c345 c346 c347 c348 a' w'' → K a' w'') :
    Code.wp Tryd.prog avBlk (Exit.then K Q') ⟨#[D, .slice (some ⟨g, 0, none⟩) (n + 2) cap, c2, c3, v4, ev, .int .i64 ((i : Int) + 1), .int .i64 ((k : Int) + 1), c8, .int .i32 92, .int .i64 1, v11, v12, v13, v14, v15, v16, c17, c18, c19, c20, c21, c22, c23, c24, c25, c26, c27, c28, c29, c30, c31, c32, c33, c34, c35, c36, c37, c38, c39, c40, c41, c42, c43, c44, c45, c46, c47, c48, c49, c50, c51, c52, c53, c54, c55, c56, c57, c58, c59, c60, c61, c62, c63, c64, c65, c66, c67, c68, c69, c70, c71, c72, c73, c74, c75, c76, c77, c78, c79, c80, c81, c82, c83, c84, c85, c86, c87, c88, c89, c90, c91, c92, c93, c94, c95, c96, c97, c98, c99, c100, c101, v102, v103, v104, v105, v106, v107, v108, v109, v110, v111, v112, v113, v114, v115, v116, v117, v118, v119, v120, v121, v122, v123, v124, v125, v126, v127, v128, v129, v130, v131, v132, v133, v134, v135, v136, v137, v138, v139, v140, v141, v142, v143, v144, v145, v146, v147, v148, v149, v150, v151, v152, v153, v154, v155, v156, v157, v158, v159, v160, v161, v162, v163, v164, v165, v166, v167, v168, v169, v170, v171, v172, v173, v174, v175, v176, v177, v178, v179, v180, v181, v182, v183, v184, v185, v186, v187, v188, v189, v190, v191, v192, v193, v194, v195, v196, v197, v198, v199, v200, v201, v202, v203, v204, v205, v206, v207, v208, v209, v210, v211, v212, v213, v214, v215, v216, v217, v218, v219, v220, v221, v222, v223, v224, v225, v226, v227, v228, v229, v230, v231, v232, v233, v234, v235, v236, v237, v238, v239, v240, v241, v242, v243, v244, v245, v246, v247, v248, v249, v250, v251, v252, v253, v254, v255, v256, v257, v258, v259, v260, v261, v262, v263, v264, v265, v266, v267, v268, v269, v270, v271, v272, v273, v274, v275, v276, v277, v278, v279, v280, v281, v282, v283, v284, v285, v286, v287, v288, v289, v290, v291, v292, v293, v294, v295, v296, v297, v298, v299, v300, v301, v302, v303, v304, v305, v306, v307, v308, v309, v310, v311, v312, v313, v314, v315, v316, v317, v318, v319, v320, v321, v322, v323, v324, v325, v326, v327, v328, v329, v330, v331, v332, v333, v334, v335, v336, v337, v338, v339, v340, c341, c342, c343, c344, c345, c346, c347, c348], []⟩ wr := by
  conv => arg 2; whnf
  have hkm : Hid (k < m.length) := by have := hn.out; show _ < _; omega
  have hcx : ¬ cap = k + 1 := by omega
  have hokc := hI.out.okc hkm.out
  have hwl := hI.out.wle hkm.out
  rw [← hn.out] at hwl
  have HOK : Hid (okPc (m.drop k) = true) := Lib.hid hokc
  have HWL : Hid (k + dcW (m.drop k) ≤ n) := Lib.hid hwl
  have HNX : Hid (∀ E w' bad', dcW (m.drop k) = w' → dcC (m.drop k) = E → (neatC (m.drop k) = true → bad' = bad) → UInv m (k + w') (k + w') (out ++ (m.drop i).take (k - i) ++ E) bad') := Lib.hid fun E w' b' hw hc hb => hI.out.esc hkm.out w' E b' hw hc hb
  have hk2 : k + 2 ≤ n := by
    have h1 := hokc
    unfold okPc at h1
    rw [if_pos h92.out, decide_eq_true_iff] at h1
    have h2 := h1.1
    rw [List.length_drop, ← hn.out] at h2
    omega
  have hol : (out ++ (m.drop i).take (k - i)).length ≤ 4 * n := by have := hlen.out; simp; omega
  obtain ⟨c1, hc1⟩ : ∃ c1, c1 = natL (m.drop k) 1 := ⟨_, rfl⟩
  have HC1 := Lib.hid hc1
  have HK1 : Hid (∀ w9, Fr base G w w9 → w9.cell? ⟨g, k + 2, none⟩ = some (.int .u8 c1)) := Lib.hid fun w9 hf9 => by
    have h1 := hM.out w9 hf9 (k + 2) (by rw [qT_length, ← hn.out]; omega)
    rw [Nat.zero_add, show k + 2 = (k + 1) + 1 by omega, qT_at m (k + 1) (by rw [← hn.out]; omega), natL_drop, show k + 1 + 0 = k + 1 by omega] at h1
    rw [show k + 2 = (k + 1) + 1 by omega, h1, hc1, natL_drop]
  clear hokc hwl hc1 hI
  go_wp2_with (at_builtin; refine wpList_append_buf rfl (.tmp 112) (.tmp 116) 23 rfl base G D (l ++ out) rfl hB.out _ _ rfl (src_q (hM.out wr hF.out) i k (cap - (i + 1)) hik (Nat.le_of_lt hkm.out)) ?c1 ?c2 hG.out ?_)
  case c1 => have h2 := hlen.out; have h3 := hn.out; simp; omega
  case c2 => have h1 := hF.out.size; omega
  intro v3 w3 hb3 hg3 hf3 _
  have HB3 : Hid (Buf w3 base G v3 (l ++ (out ++ (m.drop i).take (k - i)))) := Lib.hid (by simpa only [List.append_assoc] using hb3)
  have HF3 := Lib.hid (hF.out.trans hf3)
  clear hb3 hg3 hf3 hB hF
  have ck2 := HK1.out w3 HF3.out
  go_upto_block 6 with fail
  refine auAll w base G g cap n k m l (out ++ (m.drop i).take (k - i)) v3 ev bad c1 w3 hn hk hcp hnb hlb hol hbase hG HB3 HF3 hM hev HOK HWL h92 HNX HC1 ?_
  intro a' w'' hinv
  obtain ⟨u0, u5, u7, u, hinv⟩ := hinv
  obtain ⟨⟨k', bad', out', hk', hlt, rfl, hev', hB', hF', hI'⟩, ha⟩ := hinv
  subst ha
  clear HB3 HF3 ck2 HC1 hev
  go_wp2
  refine ⟨_, _, _, _, (fun i => [.nilFunc, .nilFunc, .nilFunc, .nilFunc, _, .nilFunc, .nilFunc, .nilFunc, .nilFunc, .nilFunc, .nilFunc, _, _, _, _, _, _, .nilFunc, .nilFunc, .nilFunc, .nilFunc, .nilFunc, .nilFunc, .nilFunc, .nilFunc, .nilFunc, .nilFunc, .nilFunc, .nilFunc, .nilFunc, .nilFunc, .nilFunc, .nilFunc, .nilFunc, .nilFunc, .nilFunc, .nilFunc, .nilFunc, .nilFunc, .nilFunc, .nilFunc, .nilFunc, .nilFunc, .nilFunc, .nilFunc, .nilFunc, .nilFunc, .nilFunc, .nilFunc, .nilFunc, .nilFunc, .nilFunc, .nilFunc, .nilFunc, .nilFunc, .nilFunc, .nilFunc, .nilFunc, .nilFunc, .nilFunc, .nilFunc, .nilFunc, .nilFunc, .nilFunc, .nilFunc, .nilFunc, .nilFunc, .nilFunc, .nilFunc, .nilFunc, .nilFunc, .nilFunc, .nilFunc, .nilFunc, .nilFunc, .nilFunc, .nilFunc, .nilFunc, .nilFunc, .nilFunc, .nilFunc, .nilFunc, .nilFunc, .nilFunc, .nilFunc, .nilFunc, .nilFunc, .nilFunc, .nilFunc, .nilFunc, .nilFunc, .nilFunc, .nilFunc, .nilFunc, .nilFunc, .nilFunc, .nilFunc, .nilFunc, .nilFunc, .nilFunc, .nilFunc, .nilFunc, _, _, _, _, _, _, _, _, _, _, _, _, _, _, _, _, _, _, _, _, _, _, _, _, _, _, _, _, _, _, _, _, _, _, _, _, _, _, _, _, _, _, _, _, _, _, _, _, _, _, _, _, _, _, _, _, _, _, _, _, _, _, _, _, _, _, _, _, _, _, _, _, _, _, _, _, _, _, _, _, _, _, _, _, _, _, _, _, _, _, _, _, _, _, _, _, _, _, _, _, _, _, _, _, _, _, _, _, _, _, _, _, _, _, _, _, _, _, _, _, _, _, _, _, _, _, _, _, _, _, _, _, _, _, _, _, _, _, _, _, _, _, _, _, _, _, _, _, _, _, _, _, _, _, _, _, _, _, _, _, _, _, _, _, _, _, _, _, _, _, _, _, _, _, _, _, _, _, _, _, _, _, _, _, _, _, _, _, _, _, _, _, _, _, _, _, _, _, _, _, _, _, _, _, _, _, _, _, _, _, _, _, _, _, _, _, _, _, _, _, _, _, _, _, _, _, _, _, _, _, _, _, _, _, _, _, _, _, _].getD i .nilFunc), ⟨k', k', bad', out', by omega, by omega, by omega, by go_num, by go_num, hev', hB', hF', hI'⟩, rfl⟩
end
end Go.Proofs.YtldcoaigecnpfaaDoor
