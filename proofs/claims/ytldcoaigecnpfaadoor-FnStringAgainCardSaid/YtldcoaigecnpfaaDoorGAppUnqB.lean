/- The switch over the escapes in jsonwire.AppendUnquote, each arm a declaration of its own. -/
import Derived.Test.YtldcoaigecnpfaaDoorGUInv
import Derived.Test.YtldcoaigecnpfaaDoorGUtf16
import Derived.Test.YtldcoaigecnpfaaDoorGFullRune
import Derived.Test.YtldcoaigecnpfaaDoorGAppendQuote
namespace Go.Proofs.YtldcoaigecnpfaaDoor
open Go.RowKit
/-- A quotation mark behind digits makes no unit. -/
theorem uV_app (L : List UInt8) : uV (L ++ [34]) = uV L := by
  have ha : ∀ j, j < L.length → atL (L ++ [34]) j = atL L j := fun j hj => by
    unfold atL
    rw [List.getD_eq_getElem?_getD, List.getD_eq_getElem?_getD, List.getElem?_append_left hj]
  by_cases h : 6 ≤ L.length
  · have eh : hexOk (L ++ [34]) ↔ hexOk L := by unfold hexOk; rw [ha 2 (by omega), ha 3 (by omega), ha 4 (by omega), ha 5 (by omega)]
    have ev : hexV (L ++ [34]) = hexV L := by unfold hexV; rw [ha 2 (by omega), ha 3 (by omega), ha 4 (by omega), ha 5 (by omega)]
    have e0 := ha 0 (by omega)
    have e1 := ha 1 (by omega)
    by_cases c : 6 ≤ L.length ∧ atL L 0 = 92 ∧ atL L 1 = 117 ∧ hexOk L
    · have c' : 6 ≤ (L ++ [34]).length ∧ atL (L ++ [34]) 0 = 92 ∧ atL (L ++ [34]) 1 = 117 ∧ hexOk (L ++ [34]) := ⟨by simp; omega, by rw [e0]; exact c.2.1, by rw [e1]; exact c.2.2.1, eh.2 c.2.2.2⟩
      unfold uV; rw [if_pos c, if_pos c', ev]
    · have c' : ¬ (6 ≤ (L ++ [34]).length ∧ atL (L ++ [34]) 0 = 92 ∧ atL (L ++ [34]) 1 = 117 ∧ hexOk (L ++ [34])) := fun q => c ⟨h, by rw [← e0]; exact q.2.1, by rw [← e1]; exact q.2.2.1, eh.1 q.2.2.2⟩
      unfold uV; rw [if_neg c, if_neg c']
  · have e2 : uV L = -1 := by unfold uV; rw [if_neg (fun q => h q.1)]
    rw [e2]
    by_cases h5 : L.length = 5
    · have e5 : atL (L ++ [34]) 5 = 34 := by
        unfold atL
        rw [List.getD_eq_getElem?_getD, List.getElem?_append_right (by omega), h5]; rfl
      unfold uV
      rw [if_neg (fun q => by have := q.2.2.2.2.2.2; rw [e5] at this; exact absurd this (by decide))]
    · unfold uV
      rw [if_neg (fun q => by have := q.1; rw [List.length_append] at this; simp at this; omega)]
theorem uV_qT (m : List UInt8) (k : Nat) (hk : k ≤ m.length) : uV ((qT m).drop (k + 1)) = uV (m.drop k) := by rw [qT_drop m k hk, uV_app]
/-- The bytes of a part of a row. -/
theorem part_bytes {w : World} {g : Nat} {T : List UInt8} (h : BytesAt w g 0 T) (a n : Nat) (hn : a + n ≤ T.length) : BytesAt w g a ((T.drop a).take n) := fun j hj => by
  rw [List.length_take, List.length_drop] at hj
  have := h (a + j) (by omega)
  rw [Nat.zero_add] at this
  rw [this, atL_take _ _ _ (by omega), atLd]
/-- The block of a number in a function's code. -/
def auAt (n : Nat) : Code → Option Code
  | .block k c => if k = n then some (.block k c) else auAt n c
  | .seq a b => match auAt n a with
    | some c => some c
    | none => auAt n b
  | .loop c => auAt n c
  | .scope c => auAt n c
  | .cond _ a b => match auAt n a with
    | some c => some c
    | none => auAt n b
  | _ => none
noncomputable def auBlk : Code := ((Tryd.f48.body.bind (auAt 6)).getD .skip)
set_option maxRecDepth 1000000 in
/-- What stands behind the block. -/
def auWE (w : World) (base : Nat) (G : Option (Nat × Nat)) (n k : Nat) (m l : List UInt8) (c1 c2 c3 c6 c8 c9 c10 c11 c17 c18 c19 c20 c21 c22 c23 c24 c25 c26 c27 c28 c29 c30 c31 c32 c33 c34 c35 c36 c37 c38 c39 c40 c41 c42 c43 c44 c45 c46 c47 c48 c49 c50 c51 c52 c53 c54 c55 c56 c57 c58 c59 c60 c61 c62 c63 c64 c65 c66 c67 c68 c69 c70 c71 c72 c73 c74 c75 c76 c77 c78 c79 c80 c81 c82 c83 c84 c85 c86 c87 c88 c89 c90 c91 c92 c93 c94 c95 c96 c97 c98 c99 c100 c101 c102 c103 c104 c105 c106 c107 c108 c109 c110 c111 c112 c113 c114 c115 c116 c117 c118 c119 c120 c121 c122 c123 c124 c125 c126 c127 c128 c129 c130 c131 c132 c303 c304 c305 c306 c307 c308 c309 c310 c311 c312 c313 c314 c315 c316 c317 c318 c319 c320 c321 c322 c323 c324 c325 c326 c327 c328 c329 c330 c331 c332 c333 c334 c335 c336 c337 c338 c339 c340 c341 c342 c343 c344 c345 c346 c347 c348 : Value) (a : Act) (w' : World) : Prop := ∃ (u0 u5 u7 : Value) (u : Nat → Value), (∃ (k' : Nat) (bad' : Bool) (out' : List UInt8), k' ≤ n ∧ k < k' ∧ u7 = .int .i64 ((k' : Int) + 1) ∧ Hid (bad' = false → u5 = .nilIface) ∧ Hid (Buf w' base G u0 (l ++ out')) ∧ Hid (Fr base G w w') ∧ Hid (UInv m k' k' out' bad')) ∧ a = ⟨#[u0, c1, c2, c3, u 4, u5, c6, u7, c8, c9, c10, c11, u 12, u 13, u 14, u 15, u 16, c17, c18, c19, c20, c21, c22, c23, c24, c25, c26, c27, c28, c29, c30, c31, c32, c33, c34, c35, c36, c37, c38, c39, c40, c41, c42, c43, c44, c45, c46, c47, c48, c49, c50, c51, c52, c53, c54, c55, c56, c57, c58, c59, c60, c61, c62, c63, c64, c65, c66, c67, c68, c69, c70, c71, c72, c73, c74, c75, c76, c77, c78, c79, c80, c81, c82, c83, c84, c85, c86, c87, c88, c89, c90, c91, c92, c93, c94, c95, c96, c97, c98, c99, c100, c101, c102, c103, c104, c105, c106, c107, c108, c109, c110, c111, c112, c113, c114, c115, c116, c117, c118, c119, c120, c121, c122, c123, c124, c125, c126, c127, c128, c129, c130, c131, c132, u 133, u 134, u 135, u 136, u 137, u 138, u 139, u 140, u 141, u 142, u 143, u 144, u 145, u 146, u 147, u 148, u 149, u 150, u 151, u 152, u 153, u 154, u 155, u 156, u 157, u 158, u 159, u 160, u 161, u 162, u 163, u 164, u 165, u 166, u 167, u 168, u 169, u 170, u 171, u 172, u 173, u 174, u 175, u 176, u 177, u 178, u 179, u 180, u 181, u 182, u 183, u 184, u 185, u 186, u 187, u 188, u 189, u 190, u 191, u 192, u 193, u 194, u 195, u 196, u 197, u 198, u 199, u 200, u 201, u 202, u 203, u 204, u 205, u 206, u 207, u 208, u 209, u 210, u 211, u 212, u 213, u 214, u 215, u 216, u 217, u 218, u 219, u 220, u 221, u 222, u 223, u 224, u 225, u 226, u 227, u 228, u 229, u 230, u 231, u 232, u 233, u 234, u 235, u 236, u 237, u 238, u 239, u 240, u 241, u 242, u 243, u 244, u 245, u 246, u 247, u 248, u 249, u 250, u 251, u 252, u 253, u 254, u 255, u 256, u 257, u 258, u 259, u 260, u 261, u 262, u 263, u 264, u 265, u 266, u 267, u 268, u 269, u 270, u 271, u 272, u 273, u 274, u 275, u 276, u 277, u 278, u 279, u 280, u 281, u 282, u 283, u 284, u 285, u 286, u 287, u 288, u 289, u 290, u 291, u 292, u 293, u 294, u 295, u 296, u 297, u 298, u 299, u 300, u 301, u 302, c303, c304, c305, c306, c307, c308, c309, c310, c311, c312, c313, c314, c315, c316, c317, c318, c319, c320, c321, c322, c323, c324, c325, c326, c327, c328, c329, c330, c331, c332, c333, c334, c335, c336, c337, c338, c339, c340, c341, c342, c343, c344, c345, c346, c347, c348], []⟩
section
variable {c2 c3 v4 c6 c8 c9 c10 v12 v13 v14 v15 v16 c17 c18 c19 c20 c21 c22 c23 c24 c25 c26 c27 c28 c29 c30 c31 c32 c33 c34 c35 c36 c37 c38 c39 c40 c41 c42 c43 c44 c45 c46 c47 c48 c49 c50 c51 c52 c53 c54 c55 c56 c57 c58 c59 c60 c61 c62 c63 c64 c65 c66 c67 c68 c69 c70 c71 c72 c73 c74 c75 c76 c77 c78 c79 c80 c81 c82 c83 c84 c85 c86 c87 c88 c89 c90 c91 c92 c93 c94 c95 c96 c97 c98 c99 c100 c101 c102 c103 c104 c105 c106 c107 c108 c109 c110 c111 c112 c113 c114 c115 c116 c117 c118 c119 c120 c121 c122 c123 c124 c125 c126 c127 c128 c129 c130 c131 v133 v134 v135 v136 v137 v138 v139 v140 v141 v142 v143 v144 v145 v146 v147 v148 v149 v150 v151 v152 v153 v154 v155 v156 v157 v158 v159 v160 v161 v162 v163 v164 v165 v166 v167 v168 v169 v170 v171 v172 v173 v174 v175 v176 v177 v178 v179 v180 v181 v182 v183 v184 v185 v186 v187 v188 v189 v190 v191 v192 v193 v194 v195 v196 v197 v198 v199 v200 v201 v202 v203 v204 v205 v206 v207 v208 v209 v210 v211 v212 v213 v214 v215 v216 v217 v218 v219 v220 v221 v222 v223 v224 v225 v226 v227 v228 v229 v230 v231 v232 v233 v234 v235 v236 v237 v238 v239 v240 v241 v242 v243 v244 v245 v246 v247 v248 v249 v250 v251 v252 v253 v254 v255 v256 v257 v258 v259 v260 v261 v262 v263 v264 v265 v266 v267 v268 v269 v270 v271 v272 v273 v274 v275 v276 v277 v278 v279 v280 v281 v282 v283 v284 v285 v286 v287 v288 v289 v290 v291 v292 v293 v294 v295 v296 v297 v298 v299 v300 v301 v302 c303 c304 c305 c306 c307 c308 c309 c310 c311 c312 c313 c314 c315 c316 c317 c318 c319 c320 c321 c322 c323 c324 c325 c326 c327 c328 c329 c330 c331 c332 c333 c334 c335 c336 c337 c338 c339 c340 c341 c342 c343 c344 c345 c346 c347 c348 : Value}
set_option maxRecDepth 1000000 in
set_option maxHeartbeats 8000000 in
theorem auL34 {K : Act → World → Prop} {Q' : Exit → Act → World → Prop} (w : World) (base : Nat) (G : Option (Nat × Nat)) (g cap n k : Nat) (m l out1 : List UInt8) (D ev : Value) (bad : Bool) (wr : World) (_hn : Hid (n = m.length)) (_hk : k < n) (_hcp : n + 2 ≤ cap) (hnb : n ≤ 100000000000) (hlb : l.length ≤ 100000000000) (hol : out1.length ≤ 4 * n) (hbase : base ≤ w.heap.size) (hG : Hid (∀ g o, G = some (g, o) → g < base)) (hB : Hid (Buf wr base G D (l ++ out1))) (hF : Hid (Fr base G w wr)) (_hM : Hid (∀ w', Fr base G w w' → BytesAt w' g 0 (qT m))) (hev : Hid (bad = false → ev = .nilIface)) (_hok : Hid (okPc (m.drop k) = true)) (hwl : Hid (k + dcW (m.drop k) ≤ n)) (h92 : Hid (natL (m.drop k) 0 = 92)) (HNX : Hid (∀ E w' bad', dcW (m.drop k) = w' → dcC (m.drop k) = E → (neatC (m.drop k) = true → bad' = bad) → UInv m (k + w') (k + w') (out1 ++ E) bad')) (hq : natL (m.drop k) 1 = 34)
    (hK : ∀ a' w'', auWE w base G n k m l (.slice (some ⟨g, 0, none⟩) (n + 2) cap) c2 c3 c6 c8 c9 c10 (.int .u8 34) c17 c18 c19 c20 c21 c22 c23 c24 c25 c26 c27 c28 c29 c30 c31 c32 c33 c34 c35 c36 c37 c38 c39 c40 c41 c42 c43 c44 c45 c46 c47 c48 c49 c50 c51 c52 c53 c54 c55 c56 c57 c58 c59 c60 c61 c62 c63 c64 c65 c66 c67 c68 c69 c70 c71 c72 c73 c74 c75 c76 c77 c78 c79 c80 c81 c82 c83 c84 c85 c86 c87 c88 c89 c90 c91 c92 c93 c94 c95 c96 c97 c98 c99 c100 c101 c102 c103 c104 c105 c106 c107 c108 c109 c110 c111 c112 c113 c114 c115 c116 c117 c118 c119 c120 c121 c122 c123 c124 c125 c126 c127 c128 c129 c130 c131 (.int .u8 34) c303 c304 c305 c306 c307 c308 c309 c310 c311 c312 c313 c314 c315 c316 c317 c318 c319 c320 c321 c322 c323 c324 c325 c326 c327 c328 c329 c330 c331 c332 c333 c334 c335 c336 c337 c338 c339 c340 c341 c342 c343 c344 c345 c346 c347 c348 a' w'' → K a' w'') :
    Code.wp Tryd.prog auBlk (Exit.then K Q') ⟨#[D, .slice (some ⟨g, 0, none⟩) (n + 2) cap, c2, c3, v4, ev, c6, .int .i64 ((k : Int) + 1), c8, c9, c10, .int .u8 34, v12, v13, v14, v15, v16, c17, c18, c19, c20, c21, c22, c23, c24, c25, c26, c27, c28, c29, c30, c31, c32, c33, c34, c35, c36, c37, c38, c39, c40, c41, c42, c43, c44, c45, c46, c47, c48, c49, c50, c51, c52, c53, c54, c55, c56, c57, c58, c59, c60, c61, c62, c63, c64, c65, c66, c67, c68, c69, c70, c71, c72, c73, c74, c75, c76, c77, c78, c79, c80, c81, c82, c83, c84, c85, c86, c87, c88, c89, c90, c91, c92, c93, c94, c95, c96, c97, c98, c99, c100, c101, c102, c103, c104, c105, c106, c107, c108, c109, c110, c111, c112, c113, c114, c115, c116, c117, c118, c119, c120, c121, c122, c123, c124, c125, c126, c127, c128, c129, c130, c131, .int .u8 34, v133, v134, v135, v136, v137, v138, v139, v140, v141, v142, v143, v144, v145, v146, v147, v148, v149, v150, v151, v152, v153, v154, v155, v156, v157, v158, v159, v160, v161, v162, v163, v164, v165, v166, v167, v168, v169, v170, v171, v172, v173, v174, v175, v176, v177, v178, v179, v180, v181, v182, v183, v184, v185, v186, v187, v188, v189, v190, v191, v192, v193, v194, v195, v196, v197, v198, v199, v200, v201, v202, v203, v204, v205, v206, v207, v208, v209, v210, v211, v212, v213, v214, v215, v216, v217, v218, v219, v220, v221, v222, v223, v224, v225, v226, v227, v228, v229, v230, v231, v232, v233, v234, v235, v236, v237, v238, v239, v240, v241, v242, v243, v244, v245, v246, v247, v248, v249, v250, v251, v252, v253, v254, v255, v256, v257, v258, v259, v260, v261, v262, v263, v264, v265, v266, v267, v268, v269, v270, v271, v272, v273, v274, v275, v276, v277, v278, v279, v280, v281, v282, v283, v284, v285, v286, v287, v288, v289, v290, v291, v292, v293, v294, v295, v296, v297, v298, v299, v300, v301, v302, c303, c304, c305, c306, c307, c308, c309, c310, c311, c312, c313, c314, c315, c316, c317, c318, c319, c320, c321, c322, c323, c324, c325, c326, c327, c328, c329, c330, c331, c332, c333, c334, c335, c336, c337, c338, c339, c340, c341, c342, c343, c344, c345, c346, c347, c348], []⟩ wr := by
  conv => arg 2; whnf
  have eC0 : dcC (m.drop k) = escC (m.drop k) := by unfold dcC; rw [if_pos h92.out]
  have eW0 : dcW (m.drop k) = escW (m.drop k) := by unfold dcW; rw [if_pos h92.out]
  have HEC : escC (m.drop k) = if natL (m.drop k) 1 = 98 then [8] else if natL (m.drop k) 1 = 102 then [12] else if natL (m.drop k) 1 = 110 then [10] else if natL (m.drop k) 1 = 114 then [13] else if natL (m.drop k) 1 = 116 then [9] else if natL (m.drop k) 1 = 117 then uniC (m.drop k) else [(m.drop k).getD 1 0] := rfl
  have HEW : escW (m.drop k) = if natL (m.drop k) 1 = 117 then uniW (m.drop k) else 2 := rfl
  rw [hq] at HEC HEW
  have eW : dcW (m.drop k) = 2 := by rw [eW0, HEW]; rfl
  have hx : (m.drop k).getD 1 0 = 34 := UInt8.toNat_inj.1 (by have h1 : natL (m.drop k) 1 = 34 := hq; have h2 : (34 : UInt8).toNat = 34 := rfl; unfold natL at h1; omega)
  have eC : dcC (m.drop k) = [34] := by rw [eC0, HEC, hx]; rfl
  have HI := Lib.hid (HNX.out [34] 2 bad eW eC (fun _ => rfl))
  have hw2 : k + 2 ≤ n := by have := hwl.out; rw [eW] at this; exact this
  clear HEC HEW eC0 eW0 eC eW HNX _hok hwl h92 _hM hq hx
  go_wp2_with (at_builtin; refine wpList_append_buf rfl (.tmp 144) (.tmp 146) 23 rfl base G D (l ++ out1) rfl (hB.out.alloc _) _ [34] rfl (Src.slice _ 0 1 [34] (bytes_new wr _ _)) ?c1 ?c2 hG.out ?_)
  case c1 => simp; omega
  case c2 => have := hF.out.size; simp; omega
  intro v3 w3 hb3 hg3 hf3 _
  have HB3 : Hid (Buf w3 base G v3 (l ++ (out1 ++ [34]))) := Lib.hid (by simpa only [List.append_assoc] using hb3)
  have HF3 := Lib.hid (Fr.trans (hF.out.alloc _ hbase hG.out) hf3)
  clear hb3 hg3 hf3 hB hF
  go_wp2
  refine ⟨_, _, _, (fun i => [.nilFunc, .nilFunc, .nilFunc, .nilFunc, _, .nilFunc, .nilFunc, .nilFunc, .nilFunc, .nilFunc, .nilFunc, .nilFunc, _, _, _, _, _, .nilFunc, .nilFunc, .nilFunc, .nilFunc, .nilFunc, .nilFunc, .nilFunc, .nilFunc, .nilFunc, .nilFunc, .nilFunc, .nilFunc, .nilFunc, .nilFunc, .nilFunc, .nilFunc, .nilFunc, .nilFunc, .nilFunc, .nilFunc, .nilFunc, .nilFunc, .nilFunc, .nilFunc, .nilFunc, .nilFunc, .nilFunc, .nilFunc, .nilFunc, .nilFunc, .nilFunc, .nilFunc, .nilFunc, .nilFunc, .nilFunc, .nilFunc, .nilFunc, .nilFunc, .nilFunc, .nilFunc, .nilFunc, .nilFunc, .nilFunc, .nilFunc, .nilFunc, .nilFunc, .nilFunc, .nilFunc, .nilFunc, .nilFunc, .nilFunc, .nilFunc, .nilFunc, .nilFunc, .nilFunc, .nilFunc, .nilFunc, .nilFunc, .nilFunc, .nilFunc, .nilFunc, .nilFunc, .nilFunc, .nilFunc, .nilFunc, .nilFunc, .nilFunc, .nilFunc, .nilFunc, .nilFunc, .nilFunc, .nilFunc, .nilFunc, .nilFunc, .nilFunc, .nilFunc, .nilFunc, .nilFunc, .nilFunc, .nilFunc, .nilFunc, .nilFunc, .nilFunc, .nilFunc, .nilFunc, .nilFunc, .nilFunc, .nilFunc, .nilFunc, .nilFunc, .nilFunc, .nilFunc, .nilFunc, .nilFunc, .nilFunc, .nilFunc, .nilFunc, .nilFunc, .nilFunc, .nilFunc, .nilFunc, .nilFunc, .nilFunc, .nilFunc, .nilFunc, .nilFunc, .nilFunc, .nilFunc, .nilFunc, .nilFunc, .nilFunc, .nilFunc, .nilFunc, .nilFunc, .nilFunc, .nilFunc, _, _, _, _, _, _, _, _, _, _, _, _, _, _, _, _, _, _, _, _, _, _, _, _, _, _, _, _, _, _, _, _, _, _, _, _, _, _, _, _, _, _, _, _, _, _, _, _, _, _, _, _, _, _, _, _, _, _, _, _, _, _, _, _, _, _, _, _, _, _, _, _, _, _, _, _, _, _, _, _, _, _, _, _, _, _, _, _, _, _, _, _, _, _, _, _, _, _, _, _, _, _, _, _, _, _, _, _, _, _, _, _, _, _, _, _, _, _, _, _, _, _, _, _, _, _, _, _, _, _, _, _, _, _, _, _, _, _, _, _, _, _, _, _, _, _, _, _, _, _, _, _, _, _, _, _, _, _, _, _, _, _, _, _, _, _, _, _, _, _].getD i .nilFunc), ⟨k + 2, bad, out1 ++ [34], by omega, by omega, by go_num, hev, HB3, HF3, HI⟩, rfl⟩
set_option maxRecDepth 1000000 in
set_option maxHeartbeats 8000000 in
theorem auL92 {K : Act → World → Prop} {Q' : Exit → Act → World → Prop} (w : World) (base : Nat) (G : Option (Nat × Nat)) (g cap n k : Nat) (m l out1 : List UInt8) (D ev : Value) (bad : Bool) (wr : World) (_hn : Hid (n = m.length)) (_hk : k < n) (_hcp : n + 2 ≤ cap) (hnb : n ≤ 100000000000) (hlb : l.length ≤ 100000000000) (hol : out1.length ≤ 4 * n) (hbase : base ≤ w.heap.size) (hG : Hid (∀ g o, G = some (g, o) → g < base)) (hB : Hid (Buf wr base G D (l ++ out1))) (hF : Hid (Fr base G w wr)) (_hM : Hid (∀ w', Fr base G w w' → BytesAt w' g 0 (qT m))) (hev : Hid (bad = false → ev = .nilIface)) (_hok : Hid (okPc (m.drop k) = true)) (hwl : Hid (k + dcW (m.drop k) ≤ n)) (h92 : Hid (natL (m.drop k) 0 = 92)) (HNX : Hid (∀ E w' bad', dcW (m.drop k) = w' → dcC (m.drop k) = E → (neatC (m.drop k) = true → bad' = bad) → UInv m (k + w') (k + w') (out1 ++ E) bad')) (hq : natL (m.drop k) 1 = 92)
    (hK : ∀ a' w'', auWE w base G n k m l (.slice (some ⟨g, 0, none⟩) (n + 2) cap) c2 c3 c6 c8 c9 c10 (.int .u8 92) c17 c18 c19 c20 c21 c22 c23 c24 c25 c26 c27 c28 c29 c30 c31 c32 c33 c34 c35 c36 c37 c38 c39 c40 c41 c42 c43 c44 c45 c46 c47 c48 c49 c50 c51 c52 c53 c54 c55 c56 c57 c58 c59 c60 c61 c62 c63 c64 c65 c66 c67 c68 c69 c70 c71 c72 c73 c74 c75 c76 c77 c78 c79 c80 c81 c82 c83 c84 c85 c86 c87 c88 c89 c90 c91 c92 c93 c94 c95 c96 c97 c98 c99 c100 c101 c102 c103 c104 c105 c106 c107 c108 c109 c110 c111 c112 c113 c114 c115 c116 c117 c118 c119 c120 c121 c122 c123 c124 c125 c126 c127 c128 c129 c130 c131 (.int .u8 92) c303 c304 c305 c306 c307 c308 c309 c310 c311 c312 c313 c314 c315 c316 c317 c318 c319 c320 c321 c322 c323 c324 c325 c326 c327 c328 c329 c330 c331 c332 c333 c334 c335 c336 c337 c338 c339 c340 c341 c342 c343 c344 c345 c346 c347 c348 a' w'' → K a' w'') :
    Code.wp Tryd.prog auBlk (Exit.then K Q') ⟨#[D, .slice (some ⟨g, 0, none⟩) (n + 2) cap, c2, c3, v4, ev, c6, .int .i64 ((k : Int) + 1), c8, c9, c10, .int .u8 92, v12, v13, v14, v15, v16, c17, c18, c19, c20, c21, c22, c23, c24, c25, c26, c27, c28, c29, c30, c31, c32, c33, c34, c35, c36, c37, c38, c39, c40, c41, c42, c43, c44, c45, c46, c47, c48, c49, c50, c51, c52, c53, c54, c55, c56, c57, c58, c59, c60, c61, c62, c63, c64, c65, c66, c67, c68, c69, c70, c71, c72, c73, c74, c75, c76, c77, c78, c79, c80, c81, c82, c83, c84, c85, c86, c87, c88, c89, c90, c91, c92, c93, c94, c95, c96, c97, c98, c99, c100, c101, c102, c103, c104, c105, c106, c107, c108, c109, c110, c111, c112, c113, c114, c115, c116, c117, c118, c119, c120, c121, c122, c123, c124, c125, c126, c127, c128, c129, c130, c131, .int .u8 92, v133, v134, v135, v136, v137, v138, v139, v140, v141, v142, v143, v144, v145, v146, v147, v148, v149, v150, v151, v152, v153, v154, v155, v156, v157, v158, v159, v160, v161, v162, v163, v164, v165, v166, v167, v168, v169, v170, v171, v172, v173, v174, v175, v176, v177, v178, v179, v180, v181, v182, v183, v184, v185, v186, v187, v188, v189, v190, v191, v192, v193, v194, v195, v196, v197, v198, v199, v200, v201, v202, v203, v204, v205, v206, v207, v208, v209, v210, v211, v212, v213, v214, v215, v216, v217, v218, v219, v220, v221, v222, v223, v224, v225, v226, v227, v228, v229, v230, v231, v232, v233, v234, v235, v236, v237, v238, v239, v240, v241, v242, v243, v244, v245, v246, v247, v248, v249, v250, v251, v252, v253, v254, v255, v256, v257, v258, v259, v260, v261, v262, v263, v264, v265, v266, v267, v268, v269, v270, v271, v272, v273, v274, v275, v276, v277, v278, v279, v280, v281, v282, v283, v284, v285, v286, v287, v288, v289, v290, v291, v292, v293, v294, v295, v296, v297, v298, v299, v300, v301, v302, c303, c304, c305, c306, c307, c308, c309, c310, c311, c312, c313, c314, c315, c316, c317, c318, c319, c320, c321, c322, c323, c324, c325, c326, c327, c328, c329, c330, c331, c332, c333, c334, c335, c336, c337, c338, c339, c340, c341, c342, c343, c344, c345, c346, c347, c348], []⟩ wr := by
  conv => arg 2; whnf
  have eC0 : dcC (m.drop k) = escC (m.drop k) := by unfold dcC; rw [if_pos h92.out]
  have eW0 : dcW (m.drop k) = escW (m.drop k) := by unfold dcW; rw [if_pos h92.out]
  have HEC : escC (m.drop k) = if natL (m.drop k) 1 = 98 then [8] else if natL (m.drop k) 1 = 102 then [12] else if natL (m.drop k) 1 = 110 then [10] else if natL (m.drop k) 1 = 114 then [13] else if natL (m.drop k) 1 = 116 then [9] else if natL (m.drop k) 1 = 117 then uniC (m.drop k) else [(m.drop k).getD 1 0] := rfl
  have HEW : escW (m.drop k) = if natL (m.drop k) 1 = 117 then uniW (m.drop k) else 2 := rfl
  rw [hq] at HEC HEW
  have eW : dcW (m.drop k) = 2 := by rw [eW0, HEW]; rfl
  have hx : (m.drop k).getD 1 0 = 92 := UInt8.toNat_inj.1 (by have h1 : natL (m.drop k) 1 = 92 := hq; have h2 : (92 : UInt8).toNat = 92 := rfl; unfold natL at h1; omega)
  have eC : dcC (m.drop k) = [92] := by rw [eC0, HEC, hx]; rfl
  have HI := Lib.hid (HNX.out [92] 2 bad eW eC (fun _ => rfl))
  have hw2 : k + 2 ≤ n := by have := hwl.out; rw [eW] at this; exact this
  clear HEC HEW eC0 eW0 eC eW HNX _hok hwl h92 _hM hq hx
  go_wp2_with (at_builtin; refine wpList_append_buf rfl (.tmp 144) (.tmp 146) 23 rfl base G D (l ++ out1) rfl (hB.out.alloc _) _ [92] rfl (Src.slice _ 0 1 [92] (bytes_new wr _ _)) ?c1 ?c2 hG.out ?_)
  case c1 => simp; omega
  case c2 => have := hF.out.size; simp; omega
  intro v3 w3 hb3 hg3 hf3 _
  have HB3 : Hid (Buf w3 base G v3 (l ++ (out1 ++ [92]))) := Lib.hid (by simpa only [List.append_assoc] using hb3)
  have HF3 := Lib.hid (Fr.trans (hF.out.alloc _ hbase hG.out) hf3)
  clear hb3 hg3 hf3 hB hF
  go_wp2
  refine ⟨_, _, _, (fun i => [.nilFunc, .nilFunc, .nilFunc, .nilFunc, _, .nilFunc, .nilFunc, .nilFunc, .nilFunc, .nilFunc, .nilFunc, .nilFunc, _, _, _, _, _, .nilFunc, .nilFunc, .nilFunc, .nilFunc, .nilFunc, .nilFunc, .nilFunc, .nilFunc, .nilFunc, .nilFunc, .nilFunc, .nilFunc, .nilFunc, .nilFunc, .nilFunc, .nilFunc, .nilFunc, .nilFunc, .nilFunc, .nilFunc, .nilFunc, .nilFunc, .nilFunc, .nilFunc, .nilFunc, .nilFunc, .nilFunc, .nilFunc, .nilFunc, .nilFunc, .nilFunc, .nilFunc, .nilFunc, .nilFunc, .nilFunc, .nilFunc, .nilFunc, .nilFunc, .nilFunc, .nilFunc, .nilFunc, .nilFunc, .nilFunc, .nilFunc, .nilFunc, .nilFunc, .nilFunc, .nilFunc, .nilFunc, .nilFunc, .nilFunc, .nilFunc, .nilFunc, .nilFunc, .nilFunc, .nilFunc, .nilFunc, .nilFunc, .nilFunc, .nilFunc, .nilFunc, .nilFunc, .nilFunc, .nilFunc, .nilFunc, .nilFunc, .nilFunc, .nilFunc, .nilFunc, .nilFunc, .nilFunc, .nilFunc, .nilFunc, .nilFunc, .nilFunc, .nilFunc, .nilFunc, .nilFunc, .nilFunc, .nilFunc, .nilFunc, .nilFunc, .nilFunc, .nilFunc, .nilFunc, .nilFunc, .nilFunc, .nilFunc, .nilFunc, .nilFunc, .nilFunc, .nilFunc, .nilFunc, .nilFunc, .nilFunc, .nilFunc, .nilFunc, .nilFunc, .nilFunc, .nilFunc, .nilFunc, .nilFunc, .nilFunc, .nilFunc, .nilFunc, .nilFunc, .nilFunc, .nilFunc, .nilFunc, .nilFunc, .nilFunc, .nilFunc, .nilFunc, .nilFunc, .nilFunc, .nilFunc, _, _, _, _, _, _, _, _, _, _, _, _, _, _, _, _, _, _, _, _, _, _, _, _, _, _, _, _, _, _, _, _, _, _, _, _, _, _, _, _, _, _, _, _, _, _, _, _, _, _, _, _, _, _, _, _, _, _, _, _, _, _, _, _, _, _, _, _, _, _, _, _, _, _, _, _, _, _, _, _, _, _, _, _, _, _, _, _, _, _, _, _, _, _, _, _, _, _, _, _, _, _, _, _, _, _, _, _, _, _, _, _, _, _, _, _, _, _, _, _, _, _, _, _, _, _, _, _, _, _, _, _, _, _, _, _, _, _, _, _, _, _, _, _, _, _, _, _, _, _, _, _, _, _, _, _, _, _, _, _, _, _, _, _, _, _, _, _, _, _].getD i .nilFunc), ⟨k + 2, bad, out1 ++ [92], by omega, by omega, by go_num, hev, HB3, HF3, HI⟩, rfl⟩
set_option maxRecDepth 1000000 in
set_option maxHeartbeats 8000000 in
theorem auL47 {K : Act → World → Prop} {Q' : Exit → Act → World → Prop} (w : World) (base : Nat) (G : Option (Nat × Nat)) (g cap n k : Nat) (m l out1 : List UInt8) (D ev : Value) (bad : Bool) (wr : World) (_hn : Hid (n = m.length)) (_hk : k < n) (_hcp : n + 2 ≤ cap) (hnb : n ≤ 100000000000) (hlb : l.length ≤ 100000000000) (hol : out1.length ≤ 4 * n) (hbase : base ≤ w.heap.size) (hG : Hid (∀ g o, G = some (g, o) → g < base)) (hB : Hid (Buf wr base G D (l ++ out1))) (hF : Hid (Fr base G w wr)) (_hM : Hid (∀ w', Fr base G w w' → BytesAt w' g 0 (qT m))) (hev : Hid (bad = false → ev = .nilIface)) (_hok : Hid (okPc (m.drop k) = true)) (hwl : Hid (k + dcW (m.drop k) ≤ n)) (h92 : Hid (natL (m.drop k) 0 = 92)) (HNX : Hid (∀ E w' bad', dcW (m.drop k) = w' → dcC (m.drop k) = E → (neatC (m.drop k) = true → bad' = bad) → UInv m (k + w') (k + w') (out1 ++ E) bad')) (hq : natL (m.drop k) 1 = 47)
    (hK : ∀ a' w'', auWE w base G n k m l (.slice (some ⟨g, 0, none⟩) (n + 2) cap) c2 c3 c6 c8 c9 c10 (.int .u8 47) c17 c18 c19 c20 c21 c22 c23 c24 c25 c26 c27 c28 c29 c30 c31 c32 c33 c34 c35 c36 c37 c38 c39 c40 c41 c42 c43 c44 c45 c46 c47 c48 c49 c50 c51 c52 c53 c54 c55 c56 c57 c58 c59 c60 c61 c62 c63 c64 c65 c66 c67 c68 c69 c70 c71 c72 c73 c74 c75 c76 c77 c78 c79 c80 c81 c82 c83 c84 c85 c86 c87 c88 c89 c90 c91 c92 c93 c94 c95 c96 c97 c98 c99 c100 c101 c102 c103 c104 c105 c106 c107 c108 c109 c110 c111 c112 c113 c114 c115 c116 c117 c118 c119 c120 c121 c122 c123 c124 c125 c126 c127 c128 c129 c130 c131 (.int .u8 47) c303 c304 c305 c306 c307 c308 c309 c310 c311 c312 c313 c314 c315 c316 c317 c318 c319 c320 c321 c322 c323 c324 c325 c326 c327 c328 c329 c330 c331 c332 c333 c334 c335 c336 c337 c338 c339 c340 c341 c342 c343 c344 c345 c346 c347 c348 a' w'' → K a' w'') :
    Code.wp Tryd.prog auBlk (Exit.then K Q') ⟨#[D, .slice (some ⟨g, 0, none⟩) (n + 2) cap, c2, c3, v4, ev, c6, .int .i64 ((k : Int) + 1), c8, c9, c10, .int .u8 47, v12, v13, v14, v15, v16, c17, c18, c19, c20, c21, c22, c23, c24, c25, c26, c27, c28, c29, c30, c31, c32, c33, c34, c35, c36, c37, c38, c39, c40, c41, c42, c43, c44, c45, c46, c47, c48, c49, c50, c51, c52, c53, c54, c55, c56, c57, c58, c59, c60, c61, c62, c63, c64, c65, c66, c67, c68, c69, c70, c71, c72, c73, c74, c75, c76, c77, c78, c79, c80, c81, c82, c83, c84, c85, c86, c87, c88, c89, c90, c91, c92, c93, c94, c95, c96, c97, c98, c99, c100, c101, c102, c103, c104, c105, c106, c107, c108, c109, c110, c111, c112, c113, c114, c115, c116, c117, c118, c119, c120, c121, c122, c123, c124, c125, c126, c127, c128, c129, c130, c131, .int .u8 47, v133, v134, v135, v136, v137, v138, v139, v140, v141, v142, v143, v144, v145, v146, v147, v148, v149, v150, v151, v152, v153, v154, v155, v156, v157, v158, v159, v160, v161, v162, v163, v164, v165, v166, v167, v168, v169, v170, v171, v172, v173, v174, v175, v176, v177, v178, v179, v180, v181, v182, v183, v184, v185, v186, v187, v188, v189, v190, v191, v192, v193, v194, v195, v196, v197, v198, v199, v200, v201, v202, v203, v204, v205, v206, v207, v208, v209, v210, v211, v212, v213, v214, v215, v216, v217, v218, v219, v220, v221, v222, v223, v224, v225, v226, v227, v228, v229, v230, v231, v232, v233, v234, v235, v236, v237, v238, v239, v240, v241, v242, v243, v244, v245, v246, v247, v248, v249, v250, v251, v252, v253, v254, v255, v256, v257, v258, v259, v260, v261, v262, v263, v264, v265, v266, v267, v268, v269, v270, v271, v272, v273, v274, v275, v276, v277, v278, v279, v280, v281, v282, v283, v284, v285, v286, v287, v288, v289, v290, v291, v292, v293, v294, v295, v296, v297, v298, v299, v300, v301, v302, c303, c304, c305, c306, c307, c308, c309, c310, c311, c312, c313, c314, c315, c316, c317, c318, c319, c320, c321, c322, c323, c324, c325, c326, c327, c328, c329, c330, c331, c332, c333, c334, c335, c336, c337, c338, c339, c340, c341, c342, c343, c344, c345, c346, c347, c348], []⟩ wr := by
  conv => arg 2; whnf
  have eC0 : dcC (m.drop k) = escC (m.drop k) := by unfold dcC; rw [if_pos h92.out]
  have eW0 : dcW (m.drop k) = escW (m.drop k) := by unfold dcW; rw [if_pos h92.out]
  have HEC : escC (m.drop k) = if natL (m.drop k) 1 = 98 then [8] else if natL (m.drop k) 1 = 102 then [12] else if natL (m.drop k) 1 = 110 then [10] else if natL (m.drop k) 1 = 114 then [13] else if natL (m.drop k) 1 = 116 then [9] else if natL (m.drop k) 1 = 117 then uniC (m.drop k) else [(m.drop k).getD 1 0] := rfl
  have HEW : escW (m.drop k) = if natL (m.drop k) 1 = 117 then uniW (m.drop k) else 2 := rfl
  rw [hq] at HEC HEW
  have eW : dcW (m.drop k) = 2 := by rw [eW0, HEW]; rfl
  have hx : (m.drop k).getD 1 0 = 47 := UInt8.toNat_inj.1 (by have h1 : natL (m.drop k) 1 = 47 := hq; have h2 : (47 : UInt8).toNat = 47 := rfl; unfold natL at h1; omega)
  have eC : dcC (m.drop k) = [47] := by rw [eC0, HEC, hx]; rfl
  have HI := Lib.hid (HNX.out [47] 2 bad eW eC (fun _ => rfl))
  have hw2 : k + 2 ≤ n := by have := hwl.out; rw [eW] at this; exact this
  clear HEC HEW eC0 eW0 eC eW HNX _hok hwl h92 _hM hq hx
  go_wp2_with (at_builtin; refine wpList_append_buf rfl (.tmp 144) (.tmp 146) 23 rfl base G D (l ++ out1) rfl (hB.out.alloc _) _ [47] rfl (Src.slice _ 0 1 [47] (bytes_new wr _ _)) ?c1 ?c2 hG.out ?_)
  case c1 => simp; omega
  case c2 => have := hF.out.size; simp; omega
  intro v3 w3 hb3 hg3 hf3 _
  have HB3 : Hid (Buf w3 base G v3 (l ++ (out1 ++ [47]))) := Lib.hid (by simpa only [List.append_assoc] using hb3)
  have HF3 := Lib.hid (Fr.trans (hF.out.alloc _ hbase hG.out) hf3)
  clear hb3 hg3 hf3 hB hF
  go_wp2
  refine ⟨_, _, _, (fun i => [.nilFunc, .nilFunc, .nilFunc, .nilFunc, _, .nilFunc, .nilFunc, .nilFunc, .nilFunc, .nilFunc, .nilFunc, .nilFunc, _, _, _, _, _, .nilFunc, .nilFunc, .nilFunc, .nilFunc, .nilFunc, .nilFunc, .nilFunc, .nilFunc, .nilFunc, .nilFunc, .nilFunc, .nilFunc, .nilFunc, .nilFunc, .nilFunc, .nilFunc, .nilFunc, .nilFunc, .nilFunc, .nilFunc, .nilFunc, .nilFunc, .nilFunc, .nilFunc, .nilFunc, .nilFunc, .nilFunc, .nilFunc, .nilFunc, .nilFunc, .nilFunc, .nilFunc, .nilFunc, .nilFunc, .nilFunc, .nilFunc, .nilFunc, .nilFunc, .nilFunc, .nilFunc, .nilFunc, .nilFunc, .nilFunc, .nilFunc, .nilFunc, .nilFunc, .nilFunc, .nilFunc, .nilFunc, .nilFunc, .nilFunc, .nilFunc, .nilFunc, .nilFunc, .nilFunc, .nilFunc, .nilFunc, .nilFunc, .nilFunc, .nilFunc, .nilFunc, .nilFunc, .nilFunc, .nilFunc, .nilFunc, .nilFunc, .nilFunc, .nilFunc, .nilFunc, .nilFunc, .nilFunc, .nilFunc, .nilFunc, .nilFunc, .nilFunc, .nilFunc, .nilFunc, .nilFunc, .nilFunc, .nilFunc, .nilFunc, .nilFunc, .nilFunc, .nilFunc, .nilFunc, .nilFunc, .nilFunc, .nilFunc, .nilFunc, .nilFunc, .nilFunc, .nilFunc, .nilFunc, .nilFunc, .nilFunc, .nilFunc, .nilFunc, .nilFunc, .nilFunc, .nilFunc, .nilFunc, .nilFunc, .nilFunc, .nilFunc, .nilFunc, .nilFunc, .nilFunc, .nilFunc, .nilFunc, .nilFunc, .nilFunc, .nilFunc, .nilFunc, .nilFunc, .nilFunc, .nilFunc, _, _, _, _, _, _, _, _, _, _, _, _, _, _, _, _, _, _, _, _, _, _, _, _, _, _, _, _, _, _, _, _, _, _, _, _, _, _, _, _, _, _, _, _, _, _, _, _, _, _, _, _, _, _, _, _, _, _, _, _, _, _, _, _, _, _, _, _, _, _, _, _, _, _, _, _, _, _, _, _, _, _, _, _, _, _, _, _, _, _, _, _, _, _, _, _, _, _, _, _, _, _, _, _, _, _, _, _, _, _, _, _, _, _, _, _, _, _, _, _, _, _, _, _, _, _, _, _, _, _, _, _, _, _, _, _, _, _, _, _, _, _, _, _, _, _, _, _, _, _, _, _, _, _, _, _, _, _, _, _, _, _, _, _, _, _, _, _, _, _].getD i .nilFunc), ⟨k + 2, bad, out1 ++ [47], by omega, by omega, by go_num, hev, HB3, HF3, HI⟩, rfl⟩
set_option maxRecDepth 1000000 in
set_option maxHeartbeats 8000000 in
theorem auL98 {K : Act → World → Prop} {Q' : Exit → Act → World → Prop} (w : World) (base : Nat) (G : Option (Nat × Nat)) (g cap n k : Nat) (m l out1 : List UInt8) (D ev : Value) (bad : Bool) (wr : World) (_hn : Hid (n = m.length)) (_hk : k < n) (_hcp : n + 2 ≤ cap) (hnb : n ≤ 100000000000) (hlb : l.length ≤ 100000000000) (hol : out1.length ≤ 4 * n) (hbase : base ≤ w.heap.size) (hG : Hid (∀ g o, G = some (g, o) → g < base)) (hB : Hid (Buf wr base G D (l ++ out1))) (hF : Hid (Fr base G w wr)) (_hM : Hid (∀ w', Fr base G w w' → BytesAt w' g 0 (qT m))) (hev : Hid (bad = false → ev = .nilIface)) (_hok : Hid (okPc (m.drop k) = true)) (hwl : Hid (k + dcW (m.drop k) ≤ n)) (h92 : Hid (natL (m.drop k) 0 = 92)) (HNX : Hid (∀ E w' bad', dcW (m.drop k) = w' → dcC (m.drop k) = E → (neatC (m.drop k) = true → bad' = bad) → UInv m (k + w') (k + w') (out1 ++ E) bad')) (hq : natL (m.drop k) 1 = 98)
    (hK : ∀ a' w'', auWE w base G n k m l (.slice (some ⟨g, 0, none⟩) (n + 2) cap) c2 c3 c6 c8 c9 c10 (.int .u8 98) c17 c18 c19 c20 c21 c22 c23 c24 c25 c26 c27 c28 c29 c30 c31 c32 c33 c34 c35 c36 c37 c38 c39 c40 c41 c42 c43 c44 c45 c46 c47 c48 c49 c50 c51 c52 c53 c54 c55 c56 c57 c58 c59 c60 c61 c62 c63 c64 c65 c66 c67 c68 c69 c70 c71 c72 c73 c74 c75 c76 c77 c78 c79 c80 c81 c82 c83 c84 c85 c86 c87 c88 c89 c90 c91 c92 c93 c94 c95 c96 c97 c98 c99 c100 c101 c102 c103 c104 c105 c106 c107 c108 c109 c110 c111 c112 c113 c114 c115 c116 c117 c118 c119 c120 c121 c122 c123 c124 c125 c126 c127 c128 c129 c130 c131 (.int .u8 98) c303 c304 c305 c306 c307 c308 c309 c310 c311 c312 c313 c314 c315 c316 c317 c318 c319 c320 c321 c322 c323 c324 c325 c326 c327 c328 c329 c330 c331 c332 c333 c334 c335 c336 c337 c338 c339 c340 c341 c342 c343 c344 c345 c346 c347 c348 a' w'' → K a' w'') :
    Code.wp Tryd.prog auBlk (Exit.then K Q') ⟨#[D, .slice (some ⟨g, 0, none⟩) (n + 2) cap, c2, c3, v4, ev, c6, .int .i64 ((k : Int) + 1), c8, c9, c10, .int .u8 98, v12, v13, v14, v15, v16, c17, c18, c19, c20, c21, c22, c23, c24, c25, c26, c27, c28, c29, c30, c31, c32, c33, c34, c35, c36, c37, c38, c39, c40, c41, c42, c43, c44, c45, c46, c47, c48, c49, c50, c51, c52, c53, c54, c55, c56, c57, c58, c59, c60, c61, c62, c63, c64, c65, c66, c67, c68, c69, c70, c71, c72, c73, c74, c75, c76, c77, c78, c79, c80, c81, c82, c83, c84, c85, c86, c87, c88, c89, c90, c91, c92, c93, c94, c95, c96, c97, c98, c99, c100, c101, c102, c103, c104, c105, c106, c107, c108, c109, c110, c111, c112, c113, c114, c115, c116, c117, c118, c119, c120, c121, c122, c123, c124, c125, c126, c127, c128, c129, c130, c131, .int .u8 98, v133, v134, v135, v136, v137, v138, v139, v140, v141, v142, v143, v144, v145, v146, v147, v148, v149, v150, v151, v152, v153, v154, v155, v156, v157, v158, v159, v160, v161, v162, v163, v164, v165, v166, v167, v168, v169, v170, v171, v172, v173, v174, v175, v176, v177, v178, v179, v180, v181, v182, v183, v184, v185, v186, v187, v188, v189, v190, v191, v192, v193, v194, v195, v196, v197, v198, v199, v200, v201, v202, v203, v204, v205, v206, v207, v208, v209, v210, v211, v212, v213, v214, v215, v216, v217, v218, v219, v220, v221, v222, v223, v224, v225, v226, v227, v228, v229, v230, v231, v232, v233, v234, v235, v236, v237, v238, v239, v240, v241, v242, v243, v244, v245, v246, v247, v248, v249, v250, v251, v252, v253, v254, v255, v256, v257, v258, v259, v260, v261, v262, v263, v264, v265, v266, v267, v268, v269, v270, v271, v272, v273, v274, v275, v276, v277, v278, v279, v280, v281, v282, v283, v284, v285, v286, v287, v288, v289, v290, v291, v292, v293, v294, v295, v296, v297, v298, v299, v300, v301, v302, c303, c304, c305, c306, c307, c308, c309, c310, c311, c312, c313, c314, c315, c316, c317, c318, c319, c320, c321, c322, c323, c324, c325, c326, c327, c328, c329, c330, c331, c332, c333, c334, c335, c336, c337, c338, c339, c340, c341, c342, c343, c344, c345, c346, c347, c348], []⟩ wr := by
  conv => arg 2; whnf
  have eC0 : dcC (m.drop k) = escC (m.drop k) := by unfold dcC; rw [if_pos h92.out]
  have eW0 : dcW (m.drop k) = escW (m.drop k) := by unfold dcW; rw [if_pos h92.out]
  have HEC : escC (m.drop k) = if natL (m.drop k) 1 = 98 then [8] else if natL (m.drop k) 1 = 102 then [12] else if natL (m.drop k) 1 = 110 then [10] else if natL (m.drop k) 1 = 114 then [13] else if natL (m.drop k) 1 = 116 then [9] else if natL (m.drop k) 1 = 117 then uniC (m.drop k) else [(m.drop k).getD 1 0] := rfl
  have HEW : escW (m.drop k) = if natL (m.drop k) 1 = 117 then uniW (m.drop k) else 2 := rfl
  rw [hq] at HEC HEW
  have eW : dcW (m.drop k) = 2 := by rw [eW0, HEW]; rfl
  have eC : dcC (m.drop k) = [8] := by rw [eC0, HEC]; rfl
  have HI := Lib.hid (HNX.out [8] 2 bad eW eC (fun _ => rfl))
  have hw2 : k + 2 ≤ n := by have := hwl.out; rw [eW] at this; exact this
  clear HEC HEW eC0 eW0 eC eW HNX _hok hwl h92 _hM hq
  go_wp2_with (at_builtin; refine wpList_append_buf rfl (.tmp 152) (.tmp 153) 23 rfl base G D (l ++ out1) rfl (hB.out.alloc _) _ [8] rfl (Src.slice _ 0 1 [8] (bytes_new wr _ _)) ?c1 ?c2 hG.out ?_)
  case c1 => simp; omega
  case c2 => have := hF.out.size; simp; omega
  intro v3 w3 hb3 hg3 hf3 _
  have HB3 : Hid (Buf w3 base G v3 (l ++ (out1 ++ [8]))) := Lib.hid (by simpa only [List.append_assoc] using hb3)
  have HF3 := Lib.hid (Fr.trans (hF.out.alloc _ hbase hG.out) hf3)
  clear hb3 hg3 hf3 hB hF
  go_wp2
  refine ⟨_, _, _, (fun i => [.nilFunc, .nilFunc, .nilFunc, .nilFunc, _, .nilFunc, .nilFunc, .nilFunc, .nilFunc, .nilFunc, .nilFunc, .nilFunc, _, _, _, _, _, .nilFunc, .nilFunc, .nilFunc, .nilFunc, .nilFunc, .nilFunc, .nilFunc, .nilFunc, .nilFunc, .nilFunc, .nilFunc, .nilFunc, .nilFunc, .nilFunc, .nilFunc, .nilFunc, .nilFunc, .nilFunc, .nilFunc, .nilFunc, .nilFunc, .nilFunc, .nilFunc, .nilFunc, .nilFunc, .nilFunc, .nilFunc, .nilFunc, .nilFunc, .nilFunc, .nilFunc, .nilFunc, .nilFunc, .nilFunc, .nilFunc, .nilFunc, .nilFunc, .nilFunc, .nilFunc, .nilFunc, .nilFunc, .nilFunc, .nilFunc, .nilFunc, .nilFunc, .nilFunc, .nilFunc, .nilFunc, .nilFunc, .nilFunc, .nilFunc, .nilFunc, .nilFunc, .nilFunc, .nilFunc, .nilFunc, .nilFunc, .nilFunc, .nilFunc, .nilFunc, .nilFunc, .nilFunc, .nilFunc, .nilFunc, .nilFunc, .nilFunc, .nilFunc, .nilFunc, .nilFunc, .nilFunc, .nilFunc, .nilFunc, .nilFunc, .nilFunc, .nilFunc, .nilFunc, .nilFunc, .nilFunc, .nilFunc, .nilFunc, .nilFunc, .nilFunc, .nilFunc, .nilFunc, .nilFunc, .nilFunc, .nilFunc, .nilFunc, .nilFunc, .nilFunc, .nilFunc, .nilFunc, .nilFunc, .nilFunc, .nilFunc, .nilFunc, .nilFunc, .nilFunc, .nilFunc, .nilFunc, .nilFunc, .nilFunc, .nilFunc, .nilFunc, .nilFunc, .nilFunc, .nilFunc, .nilFunc, .nilFunc, .nilFunc, .nilFunc, .nilFunc, .nilFunc, .nilFunc, .nilFunc, .nilFunc, _, _, _, _, _, _, _, _, _, _, _, _, _, _, _, _, _, _, _, _, _, _, _, _, _, _, _, _, _, _, _, _, _, _, _, _, _, _, _, _, _, _, _, _, _, _, _, _, _, _, _, _, _, _, _, _, _, _, _, _, _, _, _, _, _, _, _, _, _, _, _, _, _, _, _, _, _, _, _, _, _, _, _, _, _, _, _, _, _, _, _, _, _, _, _, _, _, _, _, _, _, _, _, _, _, _, _, _, _, _, _, _, _, _, _, _, _, _, _, _, _, _, _, _, _, _, _, _, _, _, _, _, _, _, _, _, _, _, _, _, _, _, _, _, _, _, _, _, _, _, _, _, _, _, _, _, _, _, _, _, _, _, _, _, _, _, _, _, _, _].getD i .nilFunc), ⟨k + 2, bad, out1 ++ [8], by omega, by omega, by go_num, hev, HB3, HF3, HI⟩, rfl⟩
set_option maxRecDepth 1000000 in
set_option maxHeartbeats 8000000 in
theorem auL102 {K : Act → World → Prop} {Q' : Exit → Act → World → Prop} (w : World) (base : Nat) (G : Option (Nat × Nat)) (g cap n k : Nat) (m l out1 : List UInt8) (D ev : Value) (bad : Bool) (wr : World) (_hn : Hid (n = m.length)) (_hk : k < n) (_hcp : n + 2 ≤ cap) (hnb : n ≤ 100000000000) (hlb : l.length ≤ 100000000000) (hol : out1.length ≤ 4 * n) (hbase : base ≤ w.heap.size) (hG : Hid (∀ g o, G = some (g, o) → g < base)) (hB : Hid (Buf wr base G D (l ++ out1))) (hF : Hid (Fr base G w wr)) (_hM : Hid (∀ w', Fr base G w w' → BytesAt w' g 0 (qT m))) (hev : Hid (bad = false → ev = .nilIface)) (_hok : Hid (okPc (m.drop k) = true)) (hwl : Hid (k + dcW (m.drop k) ≤ n)) (h92 : Hid (natL (m.drop k) 0 = 92)) (HNX : Hid (∀ E w' bad', dcW (m.drop k) = w' → dcC (m.drop k) = E → (neatC (m.drop k) = true → bad' = bad) → UInv m (k + w') (k + w') (out1 ++ E) bad')) (hq : natL (m.drop k) 1 = 102)
    (hK : ∀ a' w'', auWE w base G n k m l (.slice (some ⟨g, 0, none⟩) (n + 2) cap) c2 c3 c6 c8 c9 c10 (.int .u8 102) c17 c18 c19 c20 c21 c22 c23 c24 c25 c26 c27 c28 c29 c30 c31 c32 c33 c34 c35 c36 c37 c38 c39 c40 c41 c42 c43 c44 c45 c46 c47 c48 c49 c50 c51 c52 c53 c54 c55 c56 c57 c58 c59 c60 c61 c62 c63 c64 c65 c66 c67 c68 c69 c70 c71 c72 c73 c74 c75 c76 c77 c78 c79 c80 c81 c82 c83 c84 c85 c86 c87 c88 c89 c90 c91 c92 c93 c94 c95 c96 c97 c98 c99 c100 c101 c102 c103 c104 c105 c106 c107 c108 c109 c110 c111 c112 c113 c114 c115 c116 c117 c118 c119 c120 c121 c122 c123 c124 c125 c126 c127 c128 c129 c130 c131 (.int .u8 102) c303 c304 c305 c306 c307 c308 c309 c310 c311 c312 c313 c314 c315 c316 c317 c318 c319 c320 c321 c322 c323 c324 c325 c326 c327 c328 c329 c330 c331 c332 c333 c334 c335 c336 c337 c338 c339 c340 c341 c342 c343 c344 c345 c346 c347 c348 a' w'' → K a' w'') :
    Code.wp Tryd.prog auBlk (Exit.then K Q') ⟨#[D, .slice (some ⟨g, 0, none⟩) (n + 2) cap, c2, c3, v4, ev, c6, .int .i64 ((k : Int) + 1), c8, c9, c10, .int .u8 102, v12, v13, v14, v15, v16, c17, c18, c19, c20, c21, c22, c23, c24, c25, c26, c27, c28, c29, c30, c31, c32, c33, c34, c35, c36, c37, c38, c39, c40, c41, c42, c43, c44, c45, c46, c47, c48, c49, c50, c51, c52, c53, c54, c55, c56, c57, c58, c59, c60, c61, c62, c63, c64, c65, c66, c67, c68, c69, c70, c71, c72, c73, c74, c75, c76, c77, c78, c79, c80, c81, c82, c83, c84, c85, c86, c87, c88, c89, c90, c91, c92, c93, c94, c95, c96, c97, c98, c99, c100, c101, c102, c103, c104, c105, c106, c107, c108, c109, c110, c111, c112, c113, c114, c115, c116, c117, c118, c119, c120, c121, c122, c123, c124, c125, c126, c127, c128, c129, c130, c131, .int .u8 102, v133, v134, v135, v136, v137, v138, v139, v140, v141, v142, v143, v144, v145, v146, v147, v148, v149, v150, v151, v152, v153, v154, v155, v156, v157, v158, v159, v160, v161, v162, v163, v164, v165, v166, v167, v168, v169, v170, v171, v172, v173, v174, v175, v176, v177, v178, v179, v180, v181, v182, v183, v184, v185, v186, v187, v188, v189, v190, v191, v192, v193, v194, v195, v196, v197, v198, v199, v200, v201, v202, v203, v204, v205, v206, v207, v208, v209, v210, v211, v212, v213, v214, v215, v216, v217, v218, v219, v220, v221, v222, v223, v224, v225, v226, v227, v228, v229, v230, v231, v232, v233, v234, v235, v236, v237, v238, v239, v240, v241, v242, v243, v244, v245, v246, v247, v248, v249, v250, v251, v252, v253, v254, v255, v256, v257, v258, v259, v260, v261, v262, v263, v264, v265, v266, v267, v268, v269, v270, v271, v272, v273, v274, v275, v276, v277, v278, v279, v280, v281, v282, v283, v284, v285, v286, v287, v288, v289, v290, v291, v292, v293, v294, v295, v296, v297, v298, v299, v300, v301, v302, c303, c304, c305, c306, c307, c308, c309, c310, c311, c312, c313, c314, c315, c316, c317, c318, c319, c320, c321, c322, c323, c324, c325, c326, c327, c328, c329, c330, c331, c332, c333, c334, c335, c336, c337, c338, c339, c340, c341, c342, c343, c344, c345, c346, c347, c348], []⟩ wr := by
  conv => arg 2; whnf
  have eC0 : dcC (m.drop k) = escC (m.drop k) := by unfold dcC; rw [if_pos h92.out]
  have eW0 : dcW (m.drop k) = escW (m.drop k) := by unfold dcW; rw [if_pos h92.out]
  have HEC : escC (m.drop k) = if natL (m.drop k) 1 = 98 then [8] else if natL (m.drop k) 1 = 102 then [12] else if natL (m.drop k) 1 = 110 then [10] else if natL (m.drop k) 1 = 114 then [13] else if natL (m.drop k) 1 = 116 then [9] else if natL (m.drop k) 1 = 117 then uniC (m.drop k) else [(m.drop k).getD 1 0] := rfl
  have HEW : escW (m.drop k) = if natL (m.drop k) 1 = 117 then uniW (m.drop k) else 2 := rfl
  rw [hq] at HEC HEW
  have eW : dcW (m.drop k) = 2 := by rw [eW0, HEW]; rfl
  have eC : dcC (m.drop k) = [12] := by rw [eC0, HEC]; rfl
  have HI := Lib.hid (HNX.out [12] 2 bad eW eC (fun _ => rfl))
  have hw2 : k + 2 ≤ n := by have := hwl.out; rw [eW] at this; exact this
  clear HEC HEW eC0 eW0 eC eW HNX _hok hwl h92 _hM hq
  go_wp2_with (at_builtin; refine wpList_append_buf rfl (.tmp 159) (.tmp 160) 23 rfl base G D (l ++ out1) rfl (hB.out.alloc _) _ [12] rfl (Src.slice _ 0 1 [12] (bytes_new wr _ _)) ?c1 ?c2 hG.out ?_)
  case c1 => simp; omega
  case c2 => have := hF.out.size; simp; omega
  intro v3 w3 hb3 hg3 hf3 _
  have HB3 : Hid (Buf w3 base G v3 (l ++ (out1 ++ [12]))) := Lib.hid (by simpa only [List.append_assoc] using hb3)
  have HF3 := Lib.hid (Fr.trans (hF.out.alloc _ hbase hG.out) hf3)
  clear hb3 hg3 hf3 hB hF
  go_wp2
  refine ⟨_, _, _, (fun i => [.nilFunc, .nilFunc, .nilFunc, .nilFunc, _, .nilFunc, .nilFunc, .nilFunc, .nilFunc, .nilFunc, .nilFunc, .nilFunc, _, _, _, _, _, .nilFunc, .nilFunc, .nilFunc, .nilFunc, .nilFunc, .nilFunc, .nilFunc, .nilFunc, .nilFunc, .nilFunc, .nilFunc, .nilFunc, .nilFunc, .nilFunc, .nilFunc, .nilFunc, .nilFunc, .nilFunc, .nilFunc, .nilFunc, .nilFunc, .nilFunc, .nilFunc, .nilFunc, .nilFunc, .nilFunc, .nilFunc, .nilFunc, .nilFunc, .nilFunc, .nilFunc, .nilFunc, .nilFunc, .nilFunc, .nilFunc, .nilFunc, .nilFunc, .nilFunc, .nilFunc, .nilFunc, .nilFunc, .nilFunc, .nilFunc, .nilFunc, .nilFunc, .nilFunc, .nilFunc, .nilFunc, .nilFunc, .nilFunc, .nilFunc, .nilFunc, .nilFunc, .nilFunc, .nilFunc, .nilFunc, .nilFunc, .nilFunc, .nilFunc, .nilFunc, .nilFunc, .nilFunc, .nilFunc, .nilFunc, .nilFunc, .nilFunc, .nilFunc, .nilFunc, .nilFunc, .nilFunc, .nilFunc, .nilFunc, .nilFunc, .nilFunc, .nilFunc, .nilFunc, .nilFunc, .nilFunc, .nilFunc, .nilFunc, .nilFunc, .nilFunc, .nilFunc, .nilFunc, .nilFunc, .nilFunc, .nilFunc, .nilFunc, .nilFunc, .nilFunc, .nilFunc, .nilFunc, .nilFunc, .nilFunc, .nilFunc, .nilFunc, .nilFunc, .nilFunc, .nilFunc, .nilFunc, .nilFunc, .nilFunc, .nilFunc, .nilFunc, .nilFunc, .nilFunc, .nilFunc, .nilFunc, .nilFunc, .nilFunc, .nilFunc, .nilFunc, .nilFunc, .nilFunc, .nilFunc, .nilFunc, _, _, _, _, _, _, _, _, _, _, _, _, _, _, _, _, _, _, _, _, _, _, _, _, _, _, _, _, _, _, _, _, _, _, _, _, _, _, _, _, _, _, _, _, _, _, _, _, _, _, _, _, _, _, _, _, _, _, _, _, _, _, _, _, _, _, _, _, _, _, _, _, _, _, _, _, _, _, _, _, _, _, _, _, _, _, _, _, _, _, _, _, _, _, _, _, _, _, _, _, _, _, _, _, _, _, _, _, _, _, _, _, _, _, _, _, _, _, _, _, _, _, _, _, _, _, _, _, _, _, _, _, _, _, _, _, _, _, _, _, _, _, _, _, _, _, _, _, _, _, _, _, _, _, _, _, _, _, _, _, _, _, _, _, _, _, _, _, _, _].getD i .nilFunc), ⟨k + 2, bad, out1 ++ [12], by omega, by omega, by go_num, hev, HB3, HF3, HI⟩, rfl⟩
set_option maxRecDepth 1000000 in
set_option maxHeartbeats 8000000 in
theorem auL110 {K : Act → World → Prop} {Q' : Exit → Act → World → Prop} (w : World) (base : Nat) (G : Option (Nat × Nat)) (g cap n k : Nat) (m l out1 : List UInt8) (D ev : Value) (bad : Bool) (wr : World) (_hn : Hid (n = m.length)) (_hk : k < n) (_hcp : n + 2 ≤ cap) (hnb : n ≤ 100000000000) (hlb : l.length ≤ 100000000000) (hol : out1.length ≤ 4 * n) (hbase : base ≤ w.heap.size) (hG : Hid (∀ g o, G = some (g, o) → g < base)) (hB : Hid (Buf wr base G D (l ++ out1))) (hF : Hid (Fr base G w wr)) (_hM : Hid (∀ w', Fr base G w w' → BytesAt w' g 0 (qT m))) (hev : Hid (bad = false → ev = .nilIface)) (_hok : Hid (okPc (m.drop k) = true)) (hwl : Hid (k + dcW (m.drop k) ≤ n)) (h92 : Hid (natL (m.drop k) 0 = 92)) (HNX : Hid (∀ E w' bad', dcW (m.drop k) = w' → dcC (m.drop k) = E → (neatC (m.drop k) = true → bad' = bad) → UInv m (k + w') (k + w') (out1 ++ E) bad')) (hq : natL (m.drop k) 1 = 110)
    (hK : ∀ a' w'', auWE w base G n k m l (.slice (some ⟨g, 0, none⟩) (n + 2) cap) c2 c3 c6 c8 c9 c10 (.int .u8 110) c17 c18 c19 c20 c21 c22 c23 c24 c25 c26 c27 c28 c29 c30 c31 c32 c33 c34 c35 c36 c37 c38 c39 c40 c41 c42 c43 c44 c45 c46 c47 c48 c49 c50 c51 c52 c53 c54 c55 c56 c57 c58 c59 c60 c61 c62 c63 c64 c65 c66 c67 c68 c69 c70 c71 c72 c73 c74 c75 c76 c77 c78 c79 c80 c81 c82 c83 c84 c85 c86 c87 c88 c89 c90 c91 c92 c93 c94 c95 c96 c97 c98 c99 c100 c101 c102 c103 c104 c105 c106 c107 c108 c109 c110 c111 c112 c113 c114 c115 c116 c117 c118 c119 c120 c121 c122 c123 c124 c125 c126 c127 c128 c129 c130 c131 (.int .u8 110) c303 c304 c305 c306 c307 c308 c309 c310 c311 c312 c313 c314 c315 c316 c317 c318 c319 c320 c321 c322 c323 c324 c325 c326 c327 c328 c329 c330 c331 c332 c333 c334 c335 c336 c337 c338 c339 c340 c341 c342 c343 c344 c345 c346 c347 c348 a' w'' → K a' w'') :
    Code.wp Tryd.prog auBlk (Exit.then K Q') ⟨#[D, .slice (some ⟨g, 0, none⟩) (n + 2) cap, c2, c3, v4, ev, c6, .int .i64 ((k : Int) + 1), c8, c9, c10, .int .u8 110, v12, v13, v14, v15, v16, c17, c18, c19, c20, c21, c22, c23, c24, c25, c26, c27, c28, c29, c30, c31, c32, c33, c34, c35, c36, c37, c38, c39, c40, c41, c42, c43, c44, c45, c46, c47, c48, c49, c50, c51, c52, c53, c54, c55, c56, c57, c58, c59, c60, c61, c62, c63, c64, c65, c66, c67, c68, c69, c70, c71, c72, c73, c74, c75, c76, c77, c78, c79, c80, c81, c82, c83, c84, c85, c86, c87, c88, c89, c90, c91, c92, c93, c94, c95, c96, c97, c98, c99, c100, c101, c102, c103, c104, c105, c106, c107, c108, c109, c110, c111, c112, c113, c114, c115, c116, c117, c118, c119, c120, c121, c122, c123, c124, c125, c126, c127, c128, c129, c130, c131, .int .u8 110, v133, v134, v135, v136, v137, v138, v139, v140, v141, v142, v143, v144, v145, v146, v147, v148, v149, v150, v151, v152, v153, v154, v155, v156, v157, v158, v159, v160, v161, v162, v163, v164, v165, v166, v167, v168, v169, v170, v171, v172, v173, v174, v175, v176, v177, v178, v179, v180, v181, v182, v183, v184, v185, v186, v187, v188, v189, v190, v191, v192, v193, v194, v195, v196, v197, v198, v199, v200, v201, v202, v203, v204, v205, v206, v207, v208, v209, v210, v211, v212, v213, v214, v215, v216, v217, v218, v219, v220, v221, v222, v223, v224, v225, v226, v227, v228, v229, v230, v231, v232, v233, v234, v235, v236, v237, v238, v239, v240, v241, v242, v243, v244, v245, v246, v247, v248, v249, v250, v251, v252, v253, v254, v255, v256, v257, v258, v259, v260, v261, v262, v263, v264, v265, v266, v267, v268, v269, v270, v271, v272, v273, v274, v275, v276, v277, v278, v279, v280, v281, v282, v283, v284, v285, v286, v287, v288, v289, v290, v291, v292, v293, v294, v295, v296, v297, v298, v299, v300, v301, v302, c303, c304, c305, c306, c307, c308, c309, c310, c311, c312, c313, c314, c315, c316, c317, c318, c319, c320, c321, c322, c323, c324, c325, c326, c327, c328, c329, c330, c331, c332, c333, c334, c335, c336, c337, c338, c339, c340, c341, c342, c343, c344, c345, c346, c347, c348], []⟩ wr := by
  conv => arg 2; whnf
  have eC0 : dcC (m.drop k) = escC (m.drop k) := by unfold dcC; rw [if_pos h92.out]
  have eW0 : dcW (m.drop k) = escW (m.drop k) := by unfold dcW; rw [if_pos h92.out]
  have HEC : escC (m.drop k) = if natL (m.drop k) 1 = 98 then [8] else if natL (m.drop k) 1 = 102 then [12] else if natL (m.drop k) 1 = 110 then [10] else if natL (m.drop k) 1 = 114 then [13] else if natL (m.drop k) 1 = 116 then [9] else if natL (m.drop k) 1 = 117 then uniC (m.drop k) else [(m.drop k).getD 1 0] := rfl
  have HEW : escW (m.drop k) = if natL (m.drop k) 1 = 117 then uniW (m.drop k) else 2 := rfl
  rw [hq] at HEC HEW
  have eW : dcW (m.drop k) = 2 := by rw [eW0, HEW]; rfl
  have eC : dcC (m.drop k) = [10] := by rw [eC0, HEC]; rfl
  have HI := Lib.hid (HNX.out [10] 2 bad eW eC (fun _ => rfl))
  have hw2 : k + 2 ≤ n := by have := hwl.out; rw [eW] at this; exact this
  clear HEC HEW eC0 eW0 eC eW HNX _hok hwl h92 _hM hq
  go_wp2_with (at_builtin; refine wpList_append_buf rfl (.tmp 166) (.tmp 167) 23 rfl base G D (l ++ out1) rfl (hB.out.alloc _) _ [10] rfl (Src.slice _ 0 1 [10] (bytes_new wr _ _)) ?c1 ?c2 hG.out ?_)
  case c1 => simp; omega
  case c2 => have := hF.out.size; simp; omega
  intro v3 w3 hb3 hg3 hf3 _
  have HB3 : Hid (Buf w3 base G v3 (l ++ (out1 ++ [10]))) := Lib.hid (by simpa only [List.append_assoc] using hb3)
  have HF3 := Lib.hid (Fr.trans (hF.out.alloc _ hbase hG.out) hf3)
  clear hb3 hg3 hf3 hB hF
  go_wp2
  refine ⟨_, _, _, (fun i => [.nilFunc, .nilFunc, .nilFunc, .nilFunc, _, .nilFunc, .nilFunc, .nilFunc, .nilFunc, .nilFunc, .nilFunc, .nilFunc, _, _, _, _, _, .nilFunc, .nilFunc, .nilFunc, .nilFunc, .nilFunc, .nilFunc, .nilFunc, .nilFunc, .nilFunc, .nilFunc, .nilFunc, .nilFunc, .nilFunc, .nilFunc, .nilFunc, .nilFunc, .nilFunc, .nilFunc, .nilFunc, .nilFunc, .nilFunc, .nilFunc, .nilFunc, .nilFunc, .nilFunc, .nilFunc, .nilFunc, .nilFunc, .nilFunc, .nilFunc, .nilFunc, .nilFunc, .nilFunc, .nilFunc, .nilFunc, .nilFunc, .nilFunc, .nilFunc, .nilFunc, .nilFunc, .nilFunc, .nilFunc, .nilFunc, .nilFunc, .nilFunc, .nilFunc, .nilFunc, .nilFunc, .nilFunc, .nilFunc, .nilFunc, .nilFunc, .nilFunc, .nilFunc, .nilFunc, .nilFunc, .nilFunc, .nilFunc, .nilFunc, .nilFunc, .nilFunc, .nilFunc, .nilFunc, .nilFunc, .nilFunc, .nilFunc, .nilFunc, .nilFunc, .nilFunc, .nilFunc, .nilFunc, .nilFunc, .nilFunc, .nilFunc, .nilFunc, .nilFunc, .nilFunc, .nilFunc, .nilFunc, .nilFunc, .nilFunc, .nilFunc, .nilFunc, .nilFunc, .nilFunc, .nilFunc, .nilFunc, .nilFunc, .nilFunc, .nilFunc, .nilFunc, .nilFunc, .nilFunc, .nilFunc, .nilFunc, .nilFunc, .nilFunc, .nilFunc, .nilFunc, .nilFunc, .nilFunc, .nilFunc, .nilFunc, .nilFunc, .nilFunc, .nilFunc, .nilFunc, .nilFunc, .nilFunc, .nilFunc, .nilFunc, .nilFunc, .nilFunc, .nilFunc, .nilFunc, .nilFunc, _, _, _, _, _, _, _, _, _, _, _, _, _, _, _, _, _, _, _, _, _, _, _, _, _, _, _, _, _, _, _, _, _, _, _, _, _, _, _, _, _, _, _, _, _, _, _, _, _, _, _, _, _, _, _, _, _, _, _, _, _, _, _, _, _, _, _, _, _, _, _, _, _, _, _, _, _, _, _, _, _, _, _, _, _, _, _, _, _, _, _, _, _, _, _, _, _, _, _, _, _, _, _, _, _, _, _, _, _, _, _, _, _, _, _, _, _, _, _, _, _, _, _, _, _, _, _, _, _, _, _, _, _, _, _, _, _, _, _, _, _, _, _, _, _, _, _, _, _, _, _, _, _, _, _, _, _, _, _, _, _, _, _, _, _, _, _, _, _, _].getD i .nilFunc), ⟨k + 2, bad, out1 ++ [10], by omega, by omega, by go_num, hev, HB3, HF3, HI⟩, rfl⟩
set_option maxRecDepth 1000000 in
set_option maxHeartbeats 8000000 in
theorem auL114 {K : Act → World → Prop} {Q' : Exit → Act → World → Prop} (w : World) (base : Nat) (G : Option (Nat × Nat)) (g cap n k : Nat) (m l out1 : List UInt8) (D ev : Value) (bad : Bool) (wr : World) (_hn : Hid (n = m.length)) (_hk : k < n) (_hcp : n + 2 ≤ cap) (hnb : n ≤ 100000000000) (hlb : l.length ≤ 100000000000) (hol : out1.length ≤ 4 * n) (hbase : base ≤ w.heap.size) (hG : Hid (∀ g o, G = some (g, o) → g < base)) (hB : Hid (Buf wr base G D (l ++ out1))) (hF : Hid (Fr base G w wr)) (_hM : Hid (∀ w', Fr base G w w' → BytesAt w' g 0 (qT m))) (hev : Hid (bad = false → ev = .nilIface)) (_hok : Hid (okPc (m.drop k) = true)) (hwl : Hid (k + dcW (m.drop k) ≤ n)) (h92 : Hid (natL (m.drop k) 0 = 92)) (HNX : Hid (∀ E w' bad', dcW (m.drop k) = w' → dcC (m.drop k) = E → (neatC (m.drop k) = true → bad' = bad) → UInv m (k + w') (k + w') (out1 ++ E) bad')) (hq : natL (m.drop k) 1 = 114)
    (hK : ∀ a' w'', auWE w base G n k m l (.slice (some ⟨g, 0, none⟩) (n + 2) cap) c2 c3 c6 c8 c9 c10 (.int .u8 114) c17 c18 c19 c20 c21 c22 c23 c24 c25 c26 c27 c28 c29 c30 c31 c32 c33 c34 c35 c36 c37 c38 c39 c40 c41 c42 c43 c44 c45 c46 c47 c48 c49 c50 c51 c52 c53 c54 c55 c56 c57 c58 c59 c60 c61 c62 c63 c64 c65 c66 c67 c68 c69 c70 c71 c72 c73 c74 c75 c76 c77 c78 c79 c80 c81 c82 c83 c84 c85 c86 c87 c88 c89 c90 c91 c92 c93 c94 c95 c96 c97 c98 c99 c100 c101 c102 c103 c104 c105 c106 c107 c108 c109 c110 c111 c112 c113 c114 c115 c116 c117 c118 c119 c120 c121 c122 c123 c124 c125 c126 c127 c128 c129 c130 c131 (.int .u8 114) c303 c304 c305 c306 c307 c308 c309 c310 c311 c312 c313 c314 c315 c316 c317 c318 c319 c320 c321 c322 c323 c324 c325 c326 c327 c328 c329 c330 c331 c332 c333 c334 c335 c336 c337 c338 c339 c340 c341 c342 c343 c344 c345 c346 c347 c348 a' w'' → K a' w'') :
    Code.wp Tryd.prog auBlk (Exit.then K Q') ⟨#[D, .slice (some ⟨g, 0, none⟩) (n + 2) cap, c2, c3, v4, ev, c6, .int .i64 ((k : Int) + 1), c8, c9, c10, .int .u8 114, v12, v13, v14, v15, v16, c17, c18, c19, c20, c21, c22, c23, c24, c25, c26, c27, c28, c29, c30, c31, c32, c33, c34, c35, c36, c37, c38, c39, c40, c41, c42, c43, c44, c45, c46, c47, c48, c49, c50, c51, c52, c53, c54, c55, c56, c57, c58, c59, c60, c61, c62, c63, c64, c65, c66, c67, c68, c69, c70, c71, c72, c73, c74, c75, c76, c77, c78, c79, c80, c81, c82, c83, c84, c85, c86, c87, c88, c89, c90, c91, c92, c93, c94, c95, c96, c97, c98, c99, c100, c101, c102, c103, c104, c105, c106, c107, c108, c109, c110, c111, c112, c113, c114, c115, c116, c117, c118, c119, c120, c121, c122, c123, c124, c125, c126, c127, c128, c129, c130, c131, .int .u8 114, v133, v134, v135, v136, v137, v138, v139, v140, v141, v142, v143, v144, v145, v146, v147, v148, v149, v150, v151, v152, v153, v154, v155, v156, v157, v158, v159, v160, v161, v162, v163, v164, v165, v166, v167, v168, v169, v170, v171, v172, v173, v174, v175, v176, v177, v178, v179, v180, v181, v182, v183, v184, v185, v186, v187, v188, v189, v190, v191, v192, v193, v194, v195, v196, v197, v198, v199, v200, v201, v202, v203, v204, v205, v206, v207, v208, v209, v210, v211, v212, v213, v214, v215, v216, v217, v218, v219, v220, v221, v222, v223, v224, v225, v226, v227, v228, v229, v230, v231, v232, v233, v234, v235, v236, v237, v238, v239, v240, v241, v242, v243, v244, v245, v246, v247, v248, v249, v250, v251, v252, v253, v254, v255, v256, v257, v258, v259, v260, v261, v262, v263, v264, v265, v266, v267, v268, v269, v270, v271, v272, v273, v274, v275, v276, v277, v278, v279, v280, v281, v282, v283, v284, v285, v286, v287, v288, v289, v290, v291, v292, v293, v294, v295, v296, v297, v298, v299, v300, v301, v302, c303, c304, c305, c306, c307, c308, c309, c310, c311, c312, c313, c314, c315, c316, c317, c318, c319, c320, c321, c322, c323, c324, c325, c326, c327, c328, c329, c330, c331, c332, c333, c334, c335, c336, c337, c338, c339, c340, c341, c342, c343, c344, c345, c346, c347, c348], []⟩ wr := by
  conv => arg 2; whnf
  have eC0 : dcC (m.drop k) = escC (m.drop k) := by unfold dcC; rw [if_pos h92.out]
  have eW0 : dcW (m.drop k) = escW (m.drop k) := by unfold dcW; rw [if_pos h92.out]
  have HEC : escC (m.drop k) = if natL (m.drop k) 1 = 98 then [8] else if natL (m.drop k) 1 = 102 then [12] else if natL (m.drop k) 1 = 110 then [10] else if natL (m.drop k) 1 = 114 then [13] else if natL (m.drop k) 1 = 116 then [9] else if natL (m.drop k) 1 = 117 then uniC (m.drop k) else [(m.drop k).getD 1 0] := rfl
  have HEW : escW (m.drop k) = if natL (m.drop k) 1 = 117 then uniW (m.drop k) else 2 := rfl
  rw [hq] at HEC HEW
  have eW : dcW (m.drop k) = 2 := by rw [eW0, HEW]; rfl
  have eC : dcC (m.drop k) = [13] := by rw [eC0, HEC]; rfl
  have HI := Lib.hid (HNX.out [13] 2 bad eW eC (fun _ => rfl))
  have hw2 : k + 2 ≤ n := by have := hwl.out; rw [eW] at this; exact this
  clear HEC HEW eC0 eW0 eC eW HNX _hok hwl h92 _hM hq
  go_wp2_with (at_builtin; refine wpList_append_buf rfl (.tmp 173) (.tmp 174) 23 rfl base G D (l ++ out1) rfl (hB.out.alloc _) _ [13] rfl (Src.slice _ 0 1 [13] (bytes_new wr _ _)) ?c1 ?c2 hG.out ?_)
  case c1 => simp; omega
  case c2 => have := hF.out.size; simp; omega
  intro v3 w3 hb3 hg3 hf3 _
  have HB3 : Hid (Buf w3 base G v3 (l ++ (out1 ++ [13]))) := Lib.hid (by simpa only [List.append_assoc] using hb3)
  have HF3 := Lib.hid (Fr.trans (hF.out.alloc _ hbase hG.out) hf3)
  clear hb3 hg3 hf3 hB hF
  go_wp2
  refine ⟨_, _, _, (fun i => [.nilFunc, .nilFunc, .nilFunc, .nilFunc, _, .nilFunc, .nilFunc, .nilFunc, .nilFunc, .nilFunc, .nilFunc, .nilFunc, _, _, _, _, _, .nilFunc, .nilFunc, .nilFunc, .nilFunc, .nilFunc, .nilFunc, .nilFunc, .nilFunc, .nilFunc, .nilFunc, .nilFunc, .nilFunc, .nilFunc, .nilFunc, .nilFunc, .nilFunc, .nilFunc, .nilFunc, .nilFunc, .nilFunc, .nilFunc, .nilFunc, .nilFunc, .nilFunc, .nilFunc, .nilFunc, .nilFunc, .nilFunc, .nilFunc, .nilFunc, .nilFunc, .nilFunc, .nilFunc, .nilFunc, .nilFunc, .nilFunc, .nilFunc, .nilFunc, .nilFunc, .nilFunc, .nilFunc, .nilFunc, .nilFunc, .nilFunc, .nilFunc, .nilFunc, .nilFunc, .nilFunc, .nilFunc, .nilFunc, .nilFunc, .nilFunc, .nilFunc, .nilFunc, .nilFunc, .nilFunc, .nilFunc, .nilFunc, .nilFunc, .nilFunc, .nilFunc, .nilFunc, .nilFunc, .nilFunc, .nilFunc, .nilFunc, .nilFunc, .nilFunc, .nilFunc, .nilFunc, .nilFunc, .nilFunc, .nilFunc, .nilFunc, .nilFunc, .nilFunc, .nilFunc, .nilFunc, .nilFunc, .nilFunc, .nilFunc, .nilFunc, .nilFunc, .nilFunc, .nilFunc, .nilFunc, .nilFunc, .nilFunc, .nilFunc, .nilFunc, .nilFunc, .nilFunc, .nilFunc, .nilFunc, .nilFunc, .nilFunc, .nilFunc, .nilFunc, .nilFunc, .nilFunc, .nilFunc, .nilFunc, .nilFunc, .nilFunc, .nilFunc, .nilFunc, .nilFunc, .nilFunc, .nilFunc, .nilFunc, .nilFunc, .nilFunc, .nilFunc, .nilFunc, .nilFunc, .nilFunc, _, _, _, _, _, _, _, _, _, _, _, _, _, _, _, _, _, _, _, _, _, _, _, _, _, _, _, _, _, _, _, _, _, _, _, _, _, _, _, _, _, _, _, _, _, _, _, _, _, _, _, _, _, _, _, _, _, _, _, _, _, _, _, _, _, _, _, _, _, _, _, _, _, _, _, _, _, _, _, _, _, _, _, _, _, _, _, _, _, _, _, _, _, _, _, _, _, _, _, _, _, _, _, _, _, _, _, _, _, _, _, _, _, _, _, _, _, _, _, _, _, _, _, _, _, _, _, _, _, _, _, _, _, _, _, _, _, _, _, _, _, _, _, _, _, _, _, _, _, _, _, _, _, _, _, _, _, _, _, _, _, _, _, _, _, _, _, _, _, _].getD i .nilFunc), ⟨k + 2, bad, out1 ++ [13], by omega, by omega, by go_num, hev, HB3, HF3, HI⟩, rfl⟩
set_option maxRecDepth 1000000 in
set_option maxHeartbeats 8000000 in
theorem auL116 {K : Act → World → Prop} {Q' : Exit → Act → World → Prop} (w : World) (base : Nat) (G : Option (Nat × Nat)) (g cap n k : Nat) (m l out1 : List UInt8) (D ev : Value) (bad : Bool) (wr : World) (_hn : Hid (n = m.length)) (_hk : k < n) (_hcp : n + 2 ≤ cap) (hnb : n ≤ 100000000000) (hlb : l.length ≤ 100000000000) (hol : out1.length ≤ 4 * n) (hbase : base ≤ w.heap.size) (hG : Hid (∀ g o, G = some (g, o) → g < base)) (hB : Hid (Buf wr base G D (l ++ out1))) (hF : Hid (Fr base G w wr)) (_hM : Hid (∀ w', Fr base G w w' → BytesAt w' g 0 (qT m))) (hev : Hid (bad = false → ev = .nilIface)) (_hok : Hid (okPc (m.drop k) = true)) (hwl : Hid (k + dcW (m.drop k) ≤ n)) (h92 : Hid (natL (m.drop k) 0 = 92)) (HNX : Hid (∀ E w' bad', dcW (m.drop k) = w' → dcC (m.drop k) = E → (neatC (m.drop k) = true → bad' = bad) → UInv m (k + w') (k + w') (out1 ++ E) bad')) (hq : natL (m.drop k) 1 = 116)
    (hK : ∀ a' w'', auWE w base G n k m l (.slice (some ⟨g, 0, none⟩) (n + 2) cap) c2 c3 c6 c8 c9 c10 (.int .u8 116) c17 c18 c19 c20 c21 c22 c23 c24 c25 c26 c27 c28 c29 c30 c31 c32 c33 c34 c35 c36 c37 c38 c39 c40 c41 c42 c43 c44 c45 c46 c47 c48 c49 c50 c51 c52 c53 c54 c55 c56 c57 c58 c59 c60 c61 c62 c63 c64 c65 c66 c67 c68 c69 c70 c71 c72 c73 c74 c75 c76 c77 c78 c79 c80 c81 c82 c83 c84 c85 c86 c87 c88 c89 c90 c91 c92 c93 c94 c95 c96 c97 c98 c99 c100 c101 c102 c103 c104 c105 c106 c107 c108 c109 c110 c111 c112 c113 c114 c115 c116 c117 c118 c119 c120 c121 c122 c123 c124 c125 c126 c127 c128 c129 c130 c131 (.int .u8 116) c303 c304 c305 c306 c307 c308 c309 c310 c311 c312 c313 c314 c315 c316 c317 c318 c319 c320 c321 c322 c323 c324 c325 c326 c327 c328 c329 c330 c331 c332 c333 c334 c335 c336 c337 c338 c339 c340 c341 c342 c343 c344 c345 c346 c347 c348 a' w'' → K a' w'') :
    Code.wp Tryd.prog auBlk (Exit.then K Q') ⟨#[D, .slice (some ⟨g, 0, none⟩) (n + 2) cap, c2, c3, v4, ev, c6, .int .i64 ((k : Int) + 1), c8, c9, c10, .int .u8 116, v12, v13, v14, v15, v16, c17, c18, c19, c20, c21, c22, c23, c24, c25, c26, c27, c28, c29, c30, c31, c32, c33, c34, c35, c36, c37, c38, c39, c40, c41, c42, c43, c44, c45, c46, c47, c48, c49, c50, c51, c52, c53, c54, c55, c56, c57, c58, c59, c60, c61, c62, c63, c64, c65, c66, c67, c68, c69, c70, c71, c72, c73, c74, c75, c76, c77, c78, c79, c80, c81, c82, c83, c84, c85, c86, c87, c88, c89, c90, c91, c92, c93, c94, c95, c96, c97, c98, c99, c100, c101, c102, c103, c104, c105, c106, c107, c108, c109, c110, c111, c112, c113, c114, c115, c116, c117, c118, c119, c120, c121, c122, c123, c124, c125, c126, c127, c128, c129, c130, c131, .int .u8 116, v133, v134, v135, v136, v137, v138, v139, v140, v141, v142, v143, v144, v145, v146, v147, v148, v149, v150, v151, v152, v153, v154, v155, v156, v157, v158, v159, v160, v161, v162, v163, v164, v165, v166, v167, v168, v169, v170, v171, v172, v173, v174, v175, v176, v177, v178, v179, v180, v181, v182, v183, v184, v185, v186, v187, v188, v189, v190, v191, v192, v193, v194, v195, v196, v197, v198, v199, v200, v201, v202, v203, v204, v205, v206, v207, v208, v209, v210, v211, v212, v213, v214, v215, v216, v217, v218, v219, v220, v221, v222, v223, v224, v225, v226, v227, v228, v229, v230, v231, v232, v233, v234, v235, v236, v237, v238, v239, v240, v241, v242, v243, v244, v245, v246, v247, v248, v249, v250, v251, v252, v253, v254, v255, v256, v257, v258, v259, v260, v261, v262, v263, v264, v265, v266, v267, v268, v269, v270, v271, v272, v273, v274, v275, v276, v277, v278, v279, v280, v281, v282, v283, v284, v285, v286, v287, v288, v289, v290, v291, v292, v293, v294, v295, v296, v297, v298, v299, v300, v301, v302, c303, c304, c305, c306, c307, c308, c309, c310, c311, c312, c313, c314, c315, c316, c317, c318, c319, c320, c321, c322, c323, c324, c325, c326, c327, c328, c329, c330, c331, c332, c333, c334, c335, c336, c337, c338, c339, c340, c341, c342, c343, c344, c345, c346, c347, c348], []⟩ wr := by
  conv => arg 2; whnf
  have eC0 : dcC (m.drop k) = escC (m.drop k) := by unfold dcC; rw [if_pos h92.out]
  have eW0 : dcW (m.drop k) = escW (m.drop k) := by unfold dcW; rw [if_pos h92.out]
  have HEC : escC (m.drop k) = if natL (m.drop k) 1 = 98 then [8] else if natL (m.drop k) 1 = 102 then [12] else if natL (m.drop k) 1 = 110 then [10] else if natL (m.drop k) 1 = 114 then [13] else if natL (m.drop k) 1 = 116 then [9] else if natL (m.drop k) 1 = 117 then uniC (m.drop k) else [(m.drop k).getD 1 0] := rfl
  have HEW : escW (m.drop k) = if natL (m.drop k) 1 = 117 then uniW (m.drop k) else 2 := rfl
  rw [hq] at HEC HEW
  have eW : dcW (m.drop k) = 2 := by rw [eW0, HEW]; rfl
  have eC : dcC (m.drop k) = [9] := by rw [eC0, HEC]; rfl
  have HI := Lib.hid (HNX.out [9] 2 bad eW eC (fun _ => rfl))
  have hw2 : k + 2 ≤ n := by have := hwl.out; rw [eW] at this; exact this
  clear HEC HEW eC0 eW0 eC eW HNX _hok hwl h92 _hM hq
  go_wp2_with (at_builtin; refine wpList_append_buf rfl (.tmp 180) (.tmp 181) 23 rfl base G D (l ++ out1) rfl (hB.out.alloc _) _ [9] rfl (Src.slice _ 0 1 [9] (bytes_new wr _ _)) ?c1 ?c2 hG.out ?_)
  case c1 => simp; omega
  case c2 => have := hF.out.size; simp; omega
  intro v3 w3 hb3 hg3 hf3 _
  have HB3 : Hid (Buf w3 base G v3 (l ++ (out1 ++ [9]))) := Lib.hid (by simpa only [List.append_assoc] using hb3)
  have HF3 := Lib.hid (Fr.trans (hF.out.alloc _ hbase hG.out) hf3)
  clear hb3 hg3 hf3 hB hF
  go_wp2
  refine ⟨_, _, _, (fun i => [.nilFunc, .nilFunc, .nilFunc, .nilFunc, _, .nilFunc, .nilFunc, .nilFunc, .nilFunc, .nilFunc, .nilFunc, .nilFunc, _, _, _, _, _, .nilFunc, .nilFunc, .nilFunc, .nilFunc, .nilFunc, .nilFunc, .nilFunc, .nilFunc, .nilFunc, .nilFunc, .nilFunc, .nilFunc, .nilFunc, .nilFunc, .nilFunc, .nilFunc, .nilFunc, .nilFunc, .nilFunc, .nilFunc, .nilFunc, .nilFunc, .nilFunc, .nilFunc, .nilFunc, .nilFunc, .nilFunc, .nilFunc, .nilFunc, .nilFunc, .nilFunc, .nilFunc, .nilFunc, .nilFunc, .nilFunc, .nilFunc, .nilFunc, .nilFunc, .nilFunc, .nilFunc, .nilFunc, .nilFunc, .nilFunc, .nilFunc, .nilFunc, .nilFunc, .nilFunc, .nilFunc, .nilFunc, .nilFunc, .nilFunc, .nilFunc, .nilFunc, .nilFunc, .nilFunc, .nilFunc, .nilFunc, .nilFunc, .nilFunc, .nilFunc, .nilFunc, .nilFunc, .nilFunc, .nilFunc, .nilFunc, .nilFunc, .nilFunc, .nilFunc, .nilFunc, .nilFunc, .nilFunc, .nilFunc, .nilFunc, .nilFunc, .nilFunc, .nilFunc, .nilFunc, .nilFunc, .nilFunc, .nilFunc, .nilFunc, .nilFunc, .nilFunc, .nilFunc, .nilFunc, .nilFunc, .nilFunc, .nilFunc, .nilFunc, .nilFunc, .nilFunc, .nilFunc, .nilFunc, .nilFunc, .nilFunc, .nilFunc, .nilFunc, .nilFunc, .nilFunc, .nilFunc, .nilFunc, .nilFunc, .nilFunc, .nilFunc, .nilFunc, .nilFunc, .nilFunc, .nilFunc, .nilFunc, .nilFunc, .nilFunc, .nilFunc, .nilFunc, .nilFunc, .nilFunc, .nilFunc, _, _, _, _, _, _, _, _, _, _, _, _, _, _, _, _, _, _, _, _, _, _, _, _, _, _, _, _, _, _, _, _, _, _, _, _, _, _, _, _, _, _, _, _, _, _, _, _, _, _, _, _, _, _, _, _, _, _, _, _, _, _, _, _, _, _, _, _, _, _, _, _, _, _, _, _, _, _, _, _, _, _, _, _, _, _, _, _, _, _, _, _, _, _, _, _, _, _, _, _, _, _, _, _, _, _, _, _, _, _, _, _, _, _, _, _, _, _, _, _, _, _, _, _, _, _, _, _, _, _, _, _, _, _, _, _, _, _, _, _, _, _, _, _, _, _, _, _, _, _, _, _, _, _, _, _, _, _, _, _, _, _, _, _, _, _, _, _, _, _].getD i .nilFunc), ⟨k + 2, bad, out1 ++ [9], by omega, by omega, by go_num, hev, HB3, HF3, HI⟩, rfl⟩
set_option maxRecDepth 1000000 in
set_option maxHeartbeats 8000000 in
theorem auUn {K : Act → World → Prop} {Q' : Exit → Act → World → Prop} (w : World) (base : Nat) (G : Option (Nat × Nat)) (g cap n k : Nat) (m l out1 : List UInt8) (D ev : Value) (bad : Bool) (wr : World) (hn : Hid (n = m.length)) (hk : k < n) (hcp : n + 2 ≤ cap) (hnb : n ≤ 100000000000) (hlb : l.length ≤ 100000000000) (hol : out1.length ≤ 4 * n) (hbase : base ≤ w.heap.size) (hG : Hid (∀ g o, G = some (g, o) → g < base)) (hB : Hid (Buf wr base G D (l ++ out1))) (hF : Hid (Fr base G w wr)) (hM : Hid (∀ w', Fr base G w w' → BytesAt w' g 0 (qT m))) (hev : Hid (bad = false → ev = .nilIface)) (_hok : Hid (okPc (m.drop k) = true)) (_hwl : Hid (k + dcW (m.drop k) ≤ n)) (h92 : Hid (natL (m.drop k) 0 = 92)) (HNX : Hid (∀ E w' bad', dcW (m.drop k) = w' → dcC (m.drop k) = E → (neatC (m.drop k) = true → bad' = bad) → UInv m (k + w') (k + w') (out1 ++ E) bad')) (hq : natL (m.drop k) 1 = 117) (huu : 0 ≤ uV (m.drop k)) (hh : ¬ halfU (uV (m.drop k)))
    (hK : ∀ a' w'', auWE w base G n k m l (.slice (some ⟨g, 0, none⟩) (n + 2) cap) c2 c3 c6 c8 c9 c10 (.int .u8 117) c17 c18 c19 c20 c21 c22 c23 c24 c25 c26 c27 c28 c29 c30 c31 c32 c33 c34 c35 c36 c37 c38 c39 c40 c41 c42 c43 c44 c45 c46 c47 c48 c49 c50 c51 c52 c53 c54 c55 c56 c57 c58 c59 c60 c61 c62 c63 c64 c65 c66 c67 c68 c69 c70 c71 c72 c73 c74 c75 c76 c77 c78 c79 c80 c81 c82 c83 c84 c85 c86 c87 c88 c89 c90 c91 c92 c93 c94 c95 c96 c97 c98 c99 c100 c101 c102 c103 c104 c105 c106 c107 c108 c109 c110 c111 c112 c113 c114 c115 c116 c117 c118 c119 c120 c121 c122 c123 c124 c125 c126 c127 c128 c129 c130 c131 (.int .u8 117) c303 c304 c305 c306 c307 c308 c309 c310 c311 c312 c313 c314 c315 c316 c317 c318 c319 c320 c321 c322 c323 c324 c325 c326 c327 c328 c329 c330 c331 c332 c333 c334 c335 c336 c337 c338 c339 c340 c341 c342 c343 c344 c345 c346 c347 c348 a' w'' → K a' w'') :
    Code.wp Tryd.prog auBlk (Exit.then K Q') ⟨#[D, .slice (some ⟨g, 0, none⟩) (n + 2) cap, c2, c3, v4, ev, c6, .int .i64 ((k : Int) + 1), c8, c9, c10, .int .u8 117, v12, v13, v14, v15, v16, c17, c18, c19, c20, c21, c22, c23, c24, c25, c26, c27, c28, c29, c30, c31, c32, c33, c34, c35, c36, c37, c38, c39, c40, c41, c42, c43, c44, c45, c46, c47, c48, c49, c50, c51, c52, c53, c54, c55, c56, c57, c58, c59, c60, c61, c62, c63, c64, c65, c66, c67, c68, c69, c70, c71, c72, c73, c74, c75, c76, c77, c78, c79, c80, c81, c82, c83, c84, c85, c86, c87, c88, c89, c90, c91, c92, c93, c94, c95, c96, c97, c98, c99, c100, c101, c102, c103, c104, c105, c106, c107, c108, c109, c110, c111, c112, c113, c114, c115, c116, c117, c118, c119, c120, c121, c122, c123, c124, c125, c126, c127, c128, c129, c130, c131, .int .u8 117, v133, v134, v135, v136, v137, v138, v139, v140, v141, v142, v143, v144, v145, v146, v147, v148, v149, v150, v151, v152, v153, v154, v155, v156, v157, v158, v159, v160, v161, v162, v163, v164, v165, v166, v167, v168, v169, v170, v171, v172, v173, v174, v175, v176, v177, v178, v179, v180, v181, v182, v183, v184, v185, v186, v187, v188, v189, v190, v191, v192, v193, v194, v195, v196, v197, v198, v199, v200, v201, v202, v203, v204, v205, v206, v207, v208, v209, v210, v211, v212, v213, v214, v215, v216, v217, v218, v219, v220, v221, v222, v223, v224, v225, v226, v227, v228, v229, v230, v231, v232, v233, v234, v235, v236, v237, v238, v239, v240, v241, v242, v243, v244, v245, v246, v247, v248, v249, v250, v251, v252, v253, v254, v255, v256, v257, v258, v259, v260, v261, v262, v263, v264, v265, v266, v267, v268, v269, v270, v271, v272, v273, v274, v275, v276, v277, v278, v279, v280, v281, v282, v283, v284, v285, v286, v287, v288, v289, v290, v291, v292, v293, v294, v295, v296, v297, v298, v299, v300, v301, v302, c303, c304, c305, c306, c307, c308, c309, c310, c311, c312, c313, c314, c315, c316, c317, c318, c319, c320, c321, c322, c323, c324, c325, c326, c327, c328, c329, c330, c331, c332, c333, c334, c335, c336, c337, c338, c339, c340, c341, c342, c343, c344, c345, c346, c347, c348], []⟩ wr := by
  conv => arg 2; whnf
  have eC0 : dcC (m.drop k) = escC (m.drop k) := by unfold dcC; rw [if_pos h92.out]
  have eW0 : dcW (m.drop k) = escW (m.drop k) := by unfold dcW; rw [if_pos h92.out]
  have HEC : escC (m.drop k) = if natL (m.drop k) 1 = 98 then [8] else if natL (m.drop k) 1 = 102 then [12] else if natL (m.drop k) 1 = 110 then [10] else if natL (m.drop k) 1 = 114 then [13] else if natL (m.drop k) 1 = 116 then [9] else if natL (m.drop k) 1 = 117 then uniC (m.drop k) else [(m.drop k).getD 1 0] := rfl
  have HEW : escW (m.drop k) = if natL (m.drop k) 1 = 117 then uniW (m.drop k) else 2 := rfl
  rw [hq] at HEC HEW
  have hkl : k ≤ m.length := by rw [← hn.out]; exact Nat.le_of_lt hk
  have hu1 : 0 ≤ uV ((qT m).drop (k + 1)) := by rw [uV_qT m k hkl]; exact huu
  have hx1 := uV_ok hu1
  have hl1 : ((qT m).drop (k + 1)).length = n + 1 - k := by rw [List.length_drop, qT_length, ← hn.out]; omega
  have hv1 : uV (m.drop k) = hexV ((qT m).drop (k + 1)) := by rw [← uV_qT m k hkl]; unfold uV; rw [if_pos hx1]
  have h6 : k + 6 ≤ n := by have := (uV_ok huu).1; rw [List.length_drop, ← hn.out] at this; omega
  have hm0 := hM.out wr hF.out
  have HPX := parseHex ((qT m).drop (k + 1)) g (k + 3) (cap - (k + 3)) wr (fun j hj => by
    have := hm0 (k + 3 + j) (by rw [qT_length, ← hn.out]; omega)
    rw [Nat.zero_add] at this
    rw [this, atLd, show k + 1 + (2 + j) = k + 3 + j by omega])
  have HP1 : Hid (Calls Tryd.prog 72 #[.slice (some ⟨g, k + 3, none⟩) 4 (cap - (k + 3))] wr fun e w' => e = .returned (.tuple #[.int .u16 (uV (m.drop k)), .bool true]) ∧ w' = wr) := Lib.hid (HPX.mono fun e w' ⟨a, b⟩ => by
    rcases a with ⟨_, a⟩ | ⟨a, _⟩
    · exact ⟨by rw [a, hv1], b⟩
    · exact absurd hx1.2.2.2 a)
  have hr1 := uV_range (m.drop k)
  have eW : dcW (m.drop k) = uniW (m.drop k) := by rw [eW0, HEW]; rfl
  have eC : dcC (m.drop k) = uniC (m.drop k) := by rw [eC0, HEC]; rfl
  have hUC : uniC (m.drop k) = if halfU (uV (m.drop k)) then (if pairOk (uV (m.drop k)) (uV ((m.drop k).drop 6)) then Lib.encodeRune (pairV (uV (m.drop k)) (uV ((m.drop k).drop 6))) else BR) else Lib.encodeRune (uV (m.drop k)) := rfl
  have hUW : uniW (m.drop k) = if pairOk (uV (m.drop k)) (uV ((m.drop k).drop 6)) then 12 else 6 := rfl
  have hNC : neatC (m.drop k) = !decide (natL (m.drop k) 1 = 117 ∧ halfU (uV (m.drop k)) ∧ ¬ pairOk (uV (m.drop k)) (uV ((m.drop k).drop 6))) := by unfold neatC; rw [if_pos h92.out]
  have hd6 : (m.drop k).drop 6 = m.drop (k + 6) := by rw [List.drop_drop]
  rw [hd6] at hUC hUW hNC
  have hcx1 : ¬ cap = k + 3 := by omega
  have hIS : ∀ W, Calls Tryd.prog 73 #[.int .i32 (uV (m.drop k))] W fun e w' => e = .returned (.bool (decide (halfU (uV (m.drop k))))) ∧ w' = W := fun W => isSurr (uV (m.drop k)) _ rfl W
  have HAR : Hid (∀ (r : Int) W, 0 ≤ r → r ≤ 1114111 → ¬ (55296 ≤ r ∧ r ≤ 57343) → Fr base G w W → Buf W base G D (l ++ out1) → Calls Tryd.prog 74 #[D, .int .i32 r] W (RunePut base G (l ++ out1 ++ Lib.encodeRune r) W)) := Lib.hid fun r W a b c f hb => appendRune r a b c base G D (l ++ out1) W hb (by rw [List.length_append]; omega) (Nat.le_trans hbase f.size) hG.out
  have hnp : ¬ pairOk (uV (m.drop k)) (uV (m.drop (k + 6))) := fun q => hh ⟨q.1, by have := q.2.1; omega⟩
  rw [if_neg hh] at hUC
  rw [if_neg hnp] at hUW
  have HI := Lib.hid (HNX.out _ 6 bad (by rw [eW, hUW]) (by rw [eC, hUC]) (fun _ => rfl))
  have HIS2 : Hid (∀ W, Calls Tryd.prog 73 #[.int .i32 (uV (m.drop k))] W fun e w' => e = .returned (.bool false) ∧ w' = W) := Lib.hid fun W => by
    have := hIS W
    rw [decide_eq_false hh] at this; exact this
  have HA := Lib.hid (HAR.out (uV (m.drop k)) wr huu (by omega) hh hF.out hB.out)
  clear HNX HPX hm0 hv1 hx1 hu1 hl1 hUC hUW hNC hd6 hIS HAR HEC HEW eC0 eW0 eC eW hnp _hok _hwl h92 hM hkl hB hh hq
  generalize uV (m.drop k) = cc at *
  generalize Lib.encodeRune cc = E at *
  go_wp2_with fail
  refine HP1.out.mono ?_
  rintro e w2 ⟨rfl, rfl⟩
  clear HP1
  go_wp2_with fail
  refine (HIS2.out _).mono ?_
  rintro e w2 ⟨rfl, rfl⟩
  clear HIS2
  go_wp2_with fail
  refine HA.out.mono ?_
  rintro e w5 ⟨v5, rfl, hb5, hf5, _⟩
  have HB5 : Hid (Buf w5 base G v5 (l ++ (out1 ++ E))) := Lib.hid (by simpa only [List.append_assoc] using hb5)
  have HF5 := Lib.hid (Fr.trans hF.out hf5)
  clear hb5 hf5 HA
  go_wp2
  refine ⟨_, _, _, (fun i => [.nilFunc, .nilFunc, .nilFunc, .nilFunc, _, .nilFunc, .nilFunc, .nilFunc, .nilFunc, .nilFunc, .nilFunc, .nilFunc, _, _, _, _, _, .nilFunc, .nilFunc, .nilFunc, .nilFunc, .nilFunc, .nilFunc, .nilFunc, .nilFunc, .nilFunc, .nilFunc, .nilFunc, .nilFunc, .nilFunc, .nilFunc, .nilFunc, .nilFunc, .nilFunc, .nilFunc, .nilFunc, .nilFunc, .nilFunc, .nilFunc, .nilFunc, .nilFunc, .nilFunc, .nilFunc, .nilFunc, .nilFunc, .nilFunc, .nilFunc, .nilFunc, .nilFunc, .nilFunc, .nilFunc, .nilFunc, .nilFunc, .nilFunc, .nilFunc, .nilFunc, .nilFunc, .nilFunc, .nilFunc, .nilFunc, .nilFunc, .nilFunc, .nilFunc, .nilFunc, .nilFunc, .nilFunc, .nilFunc, .nilFunc, .nilFunc, .nilFunc, .nilFunc, .nilFunc, .nilFunc, .nilFunc, .nilFunc, .nilFunc, .nilFunc, .nilFunc, .nilFunc, .nilFunc, .nilFunc, .nilFunc, .nilFunc, .nilFunc, .nilFunc, .nilFunc, .nilFunc, .nilFunc, .nilFunc, .nilFunc, .nilFunc, .nilFunc, .nilFunc, .nilFunc, .nilFunc, .nilFunc, .nilFunc, .nilFunc, .nilFunc, .nilFunc, .nilFunc, .nilFunc, .nilFunc, .nilFunc, .nilFunc, .nilFunc, .nilFunc, .nilFunc, .nilFunc, .nilFunc, .nilFunc, .nilFunc, .nilFunc, .nilFunc, .nilFunc, .nilFunc, .nilFunc, .nilFunc, .nilFunc, .nilFunc, .nilFunc, .nilFunc, .nilFunc, .nilFunc, .nilFunc, .nilFunc, .nilFunc, .nilFunc, .nilFunc, .nilFunc, .nilFunc, .nilFunc, .nilFunc, _, _, _, _, _, _, _, _, _, _, _, _, _, _, _, _, _, _, _, _, _, _, _, _, _, _, _, _, _, _, _, _, _, _, _, _, _, _, _, _, _, _, _, _, _, _, _, _, _, _, _, _, _, _, _, _, _, _, _, _, _, _, _, _, _, _, _, _, _, _, _, _, _, _, _, _, _, _, _, _, _, _, _, _, _, _, _, _, _, _, _, _, _, _, _, _, _, _, _, _, _, _, _, _, _, _, _, _, _, _, _, _, _, _, _, _, _, _, _, _, _, _, _, _, _, _, _, _, _, _, _, _, _, _, _, _, _, _, _, _, _, _, _, _, _, _, _, _, _, _, _, _, _, _, _, _, _, _, _, _, _, _, _, _, _, _, _, _, _, _].getD i .nilFunc), ⟨k + 6, bad, out1 ++ E, by omega, by omega, by go_num, hev, HB5, HF5, HI⟩, rfl⟩
set_option maxRecDepth 1000000 in
set_option maxHeartbeats 8000000 in
theorem auUp {K : Act → World → Prop} {Q' : Exit → Act → World → Prop} (w : World) (base : Nat) (G : Option (Nat × Nat)) (g cap n k : Nat) (m l out1 : List UInt8) (D ev : Value) (bad : Bool) (wr : World) (hn : Hid (n = m.length)) (hk : k < n) (hcp : n + 2 ≤ cap) (hnb : n ≤ 100000000000) (hlb : l.length ≤ 100000000000) (hol : out1.length ≤ 4 * n) (hbase : base ≤ w.heap.size) (hG : Hid (∀ g o, G = some (g, o) → g < base)) (hB : Hid (Buf wr base G D (l ++ out1))) (hF : Hid (Fr base G w wr)) (hM : Hid (∀ w', Fr base G w w' → BytesAt w' g 0 (qT m))) (hev : Hid (bad = false → ev = .nilIface)) (_hok : Hid (okPc (m.drop k) = true)) (_hwl : Hid (k + dcW (m.drop k) ≤ n)) (h92 : Hid (natL (m.drop k) 0 = 92)) (HNX : Hid (∀ E w' bad', dcW (m.drop k) = w' → dcC (m.drop k) = E → (neatC (m.drop k) = true → bad' = bad) → UInv m (k + w') (k + w') (out1 ++ E) bad')) (hq : natL (m.drop k) 1 = 117) (huu : 0 ≤ uV (m.drop k)) (hh : halfU (uV (m.drop k))) (hp : pairOk (uV (m.drop k)) (uV (m.drop (k + 6))))
    (hK : ∀ a' w'', auWE w base G n k m l (.slice (some ⟨g, 0, none⟩) (n + 2) cap) c2 c3 c6 c8 c9 c10 (.int .u8 117) c17 c18 c19 c20 c21 c22 c23 c24 c25 c26 c27 c28 c29 c30 c31 c32 c33 c34 c35 c36 c37 c38 c39 c40 c41 c42 c43 c44 c45 c46 c47 c48 c49 c50 c51 c52 c53 c54 c55 c56 c57 c58 c59 c60 c61 c62 c63 c64 c65 c66 c67 c68 c69 c70 c71 c72 c73 c74 c75 c76 c77 c78 c79 c80 c81 c82 c83 c84 c85 c86 c87 c88 c89 c90 c91 c92 c93 c94 c95 c96 c97 c98 c99 c100 c101 c102 c103 c104 c105 c106 c107 c108 c109 c110 c111 c112 c113 c114 c115 c116 c117 c118 c119 c120 c121 c122 c123 c124 c125 c126 c127 c128 c129 c130 c131 (.int .u8 117) c303 c304 c305 c306 c307 c308 c309 c310 c311 c312 c313 c314 c315 c316 c317 c318 c319 c320 c321 c322 c323 c324 c325 c326 c327 c328 c329 c330 c331 c332 c333 c334 c335 c336 c337 c338 c339 c340 c341 c342 c343 c344 c345 c346 c347 c348 a' w'' → K a' w'') :
    Code.wp Tryd.prog auBlk (Exit.then K Q') ⟨#[D, .slice (some ⟨g, 0, none⟩) (n + 2) cap, c2, c3, v4, ev, c6, .int .i64 ((k : Int) + 1), c8, c9, c10, .int .u8 117, v12, v13, v14, v15, v16, c17, c18, c19, c20, c21, c22, c23, c24, c25, c26, c27, c28, c29, c30, c31, c32, c33, c34, c35, c36, c37, c38, c39, c40, c41, c42, c43, c44, c45, c46, c47, c48, c49, c50, c51, c52, c53, c54, c55, c56, c57, c58, c59, c60, c61, c62, c63, c64, c65, c66, c67, c68, c69, c70, c71, c72, c73, c74, c75, c76, c77, c78, c79, c80, c81, c82, c83, c84, c85, c86, c87, c88, c89, c90, c91, c92, c93, c94, c95, c96, c97, c98, c99, c100, c101, c102, c103, c104, c105, c106, c107, c108, c109, c110, c111, c112, c113, c114, c115, c116, c117, c118, c119, c120, c121, c122, c123, c124, c125, c126, c127, c128, c129, c130, c131, .int .u8 117, v133, v134, v135, v136, v137, v138, v139, v140, v141, v142, v143, v144, v145, v146, v147, v148, v149, v150, v151, v152, v153, v154, v155, v156, v157, v158, v159, v160, v161, v162, v163, v164, v165, v166, v167, v168, v169, v170, v171, v172, v173, v174, v175, v176, v177, v178, v179, v180, v181, v182, v183, v184, v185, v186, v187, v188, v189, v190, v191, v192, v193, v194, v195, v196, v197, v198, v199, v200, v201, v202, v203, v204, v205, v206, v207, v208, v209, v210, v211, v212, v213, v214, v215, v216, v217, v218, v219, v220, v221, v222, v223, v224, v225, v226, v227, v228, v229, v230, v231, v232, v233, v234, v235, v236, v237, v238, v239, v240, v241, v242, v243, v244, v245, v246, v247, v248, v249, v250, v251, v252, v253, v254, v255, v256, v257, v258, v259, v260, v261, v262, v263, v264, v265, v266, v267, v268, v269, v270, v271, v272, v273, v274, v275, v276, v277, v278, v279, v280, v281, v282, v283, v284, v285, v286, v287, v288, v289, v290, v291, v292, v293, v294, v295, v296, v297, v298, v299, v300, v301, v302, c303, c304, c305, c306, c307, c308, c309, c310, c311, c312, c313, c314, c315, c316, c317, c318, c319, c320, c321, c322, c323, c324, c325, c326, c327, c328, c329, c330, c331, c332, c333, c334, c335, c336, c337, c338, c339, c340, c341, c342, c343, c344, c345, c346, c347, c348], []⟩ wr := by
  conv => arg 2; whnf
  have eC0 : dcC (m.drop k) = escC (m.drop k) := by unfold dcC; rw [if_pos h92.out]
  have eW0 : dcW (m.drop k) = escW (m.drop k) := by unfold dcW; rw [if_pos h92.out]
  have HEC : escC (m.drop k) = if natL (m.drop k) 1 = 98 then [8] else if natL (m.drop k) 1 = 102 then [12] else if natL (m.drop k) 1 = 110 then [10] else if natL (m.drop k) 1 = 114 then [13] else if natL (m.drop k) 1 = 116 then [9] else if natL (m.drop k) 1 = 117 then uniC (m.drop k) else [(m.drop k).getD 1 0] := rfl
  have HEW : escW (m.drop k) = if natL (m.drop k) 1 = 117 then uniW (m.drop k) else 2 := rfl
  rw [hq] at HEC HEW
  have hkl : k ≤ m.length := by rw [← hn.out]; exact Nat.le_of_lt hk
  have hu1 : 0 ≤ uV ((qT m).drop (k + 1)) := by rw [uV_qT m k hkl]; exact huu
  have hx1 := uV_ok hu1
  have hl1 : ((qT m).drop (k + 1)).length = n + 1 - k := by rw [List.length_drop, qT_length, ← hn.out]; omega
  have hv1 : uV (m.drop k) = hexV ((qT m).drop (k + 1)) := by rw [← uV_qT m k hkl]; unfold uV; rw [if_pos hx1]
  have h6 : k + 6 ≤ n := by have := (uV_ok huu).1; rw [List.length_drop, ← hn.out] at this; omega
  have hm0 := hM.out wr hF.out
  have HPX := parseHex ((qT m).drop (k + 1)) g (k + 3) (cap - (k + 3)) wr (fun j hj => by
    have := hm0 (k + 3 + j) (by rw [qT_length, ← hn.out]; omega)
    rw [Nat.zero_add] at this
    rw [this, atLd, show k + 1 + (2 + j) = k + 3 + j by omega])
  have HP1 : Hid (Calls Tryd.prog 72 #[.slice (some ⟨g, k + 3, none⟩) 4 (cap - (k + 3))] wr fun e w' => e = .returned (.tuple #[.int .u16 (uV (m.drop k)), .bool true]) ∧ w' = wr) := Lib.hid (HPX.mono fun e w' ⟨a, b⟩ => by
    rcases a with ⟨_, a⟩ | ⟨a, _⟩
    · exact ⟨by rw [a, hv1], b⟩
    · exact absurd hx1.2.2.2 a)
  have hr1 := uV_range (m.drop k)
  have eW : dcW (m.drop k) = uniW (m.drop k) := by rw [eW0, HEW]; rfl
  have eC : dcC (m.drop k) = uniC (m.drop k) := by rw [eC0, HEC]; rfl
  have hUC : uniC (m.drop k) = if halfU (uV (m.drop k)) then (if pairOk (uV (m.drop k)) (uV ((m.drop k).drop 6)) then Lib.encodeRune (pairV (uV (m.drop k)) (uV ((m.drop k).drop 6))) else BR) else Lib.encodeRune (uV (m.drop k)) := rfl
  have hUW : uniW (m.drop k) = if pairOk (uV (m.drop k)) (uV ((m.drop k).drop 6)) then 12 else 6 := rfl
  have hNC : neatC (m.drop k) = !decide (natL (m.drop k) 1 = 117 ∧ halfU (uV (m.drop k)) ∧ ¬ pairOk (uV (m.drop k)) (uV ((m.drop k).drop 6))) := by unfold neatC; rw [if_pos h92.out]
  have hd6 : (m.drop k).drop 6 = m.drop (k + 6) := by rw [List.drop_drop]
  rw [hd6] at hUC hUW hNC
  have hcx1 : ¬ cap = k + 3 := by omega
  have hIS : ∀ W, Calls Tryd.prog 73 #[.int .i32 (uV (m.drop k))] W fun e w' => e = .returned (.bool (decide (halfU (uV (m.drop k))))) ∧ w' = W := fun W => isSurr (uV (m.drop k)) _ rfl W
  have HAR : Hid (∀ (r : Int) W, 0 ≤ r → r ≤ 1114111 → ¬ (55296 ≤ r ∧ r ≤ 57343) → Fr base G w W → Buf W base G D (l ++ out1) → Calls Tryd.prog 74 #[D, .int .i32 r] W (RunePut base G (l ++ out1 ++ Lib.encodeRune r) W)) := Lib.hid fun r W a b c f hb => appendRune r a b c base G D (l ++ out1) W hb (by rw [List.length_append]; omega) (Nat.le_trans hbase f.size) hG.out
  have HIS2 : Hid (∀ W, Calls Tryd.prog 73 #[.int .i32 (uV (m.drop k))] W fun e w' => e = .returned (.bool true) ∧ w' = W) := Lib.hid fun W => by
    have := hIS W
    rw [decide_eq_true hh] at this; exact this
  have hl2 : ((qT m).drop (k + 7)).length = n - (k + 5) := by rw [List.length_drop, qT_length, ← hn.out]; omega
  have hu2 : uV ((qT m).drop (k + 7)) = uV (m.drop (k + 6)) := by rw [show k + 7 = (k + 6) + 1 by omega, uV_qT m (k + 6) (by rw [← hn.out]; omega)]
  have hr2 := uV_range (m.drop (k + 6))
  have hb2 : BytesAt wr g (k + 7) ((qT m).drop (k + 7)) := fun j hj => by
    have := hm0 (k + 7 + j) (by rw [List.length_drop] at hj; omega)
    rw [Nat.zero_add] at this
    rw [this, atLd]
  have hpp := hp.2.2
  have hge : 0 ≤ uV ((qT m).drop (k + 7)) := by rw [hu2]; omega
  have hx2 := uV_ok hge
  have hl12 : k + 12 ≤ n := by have := (uV_ok (show 0 ≤ uV (m.drop (k + 6)) by omega)).1; rw [List.length_drop, ← hn.out] at this; omega
  have hcx2 : ¬ cap = k + 9 := by omega
  have c7 := hb2 0 (by rw [hl2]; omega)
  have c8 := hb2 1 (by rw [hl2]; omega)
  rw [Nat.add_zero] at c7
  have HPY := parseHex ((qT m).drop (k + 7)) g (k + 9) (cap - (k + 9)) wr (fun j hj => by
    have := hb2 (2 + j) (by rw [hl2]; omega)
    rw [← Nat.add_assoc] at this
    exact this)
  have h12 : decide ((n : Int) + 2 < (k : Int) + 1 + 6 + 6) = false := by simp; omega
  have hv2 : uV (m.drop (k + 6)) = hexV ((qT m).drop (k + 7)) := by rw [← hu2]; unfold uV; rw [if_pos hx2]
  rw [hx2.2.1] at c7
  rw [hx2.2.2.1] at c8
  have HP2 : Hid (Calls Tryd.prog 72 #[.slice (some ⟨g, k + 9, none⟩) 4 (cap - (k + 9))] wr fun e w' => e = .returned (.tuple #[.int .u16 (uV (m.drop (k + 6))), .bool true]) ∧ w' = wr) := Lib.hid (HPY.mono fun e w' ⟨a, b⟩ => by
    rcases a with ⟨_, a⟩ | ⟨a, _⟩
    · exact ⟨by rw [a, hv2], b⟩
    · exact absurd hx2.2.2.2 a)
  have HDR : Hid (∀ W, Calls Tryd.prog 75 #[.int .i32 (uV (m.drop k)), .int .i32 (uV (m.drop (k + 6)))] W fun e w' => e = .returned (.int .i32 (pairV (uV (m.drop k)) (uV (m.drop (k + 6))))) ∧ w' = W) := Lib.hid fun W => by
    have := decRune16 (uV (m.drop k)) (uV (m.drop (k + 6))) (by omega) (by omega) W
    rw [if_pos hp] at this; exact this
  rw [if_pos hh, if_pos hp] at hUC
  rw [if_pos hp] at hUW
  have hpr := pairV_range hp
  have HI := Lib.hid (HNX.out _ 12 bad (by rw [eW, hUW]) (by rw [eC, hUC]) (fun _ => rfl))
  have HA := Lib.hid (HAR.out (pairV (uV (m.drop k)) (uV (m.drop (k + 6)))) wr (by omega) (by omega) (by omega) hF.out hB.out)
  clear HNX HPX HPY hm0 hv1 hv2 hx1 hx2 hu1 hu2 hge hl1 hl2 hb2 hpp hUC hUW hNC hd6 hIS HAR HEC HEW eC0 eW0 eC eW _hok _hwl h92 hM hkl hB hh hq hp
  generalize pairV (uV (m.drop k)) (uV (m.drop (k + 6))) = z at *
  generalize uV (m.drop (k + 6)) = d at *
  generalize uV (m.drop k) = cc at *
  generalize Lib.encodeRune z = E at *
  have hz : (z == 65533) = false := by simp; omega
  go_wp2_with fail
  refine HP1.out.mono ?_
  rintro e w2 ⟨rfl, rfl⟩
  clear HP1
  go_wp2_with fail
  refine (HIS2.out _).mono ?_
  rintro e w2 ⟨rfl, rfl⟩
  clear HIS2
  go_wp2_with fail
  refine HP2.out.mono ?_
  rintro e w2 ⟨rfl, rfl⟩
  clear HP2
  go_wp2_with fail
  refine (HDR.out _).mono ?_
  rintro e w2 ⟨rfl, rfl⟩
  clear HDR
  go_wp2_with fail
  refine HA.out.mono ?_
  rintro e w5 ⟨v5, rfl, hb5, hf5, _⟩
  have HB5 : Hid (Buf w5 base G v5 (l ++ (out1 ++ E))) := Lib.hid (by simpa only [List.append_assoc] using hb5)
  have HF5 := Lib.hid (Fr.trans hF.out hf5)
  clear hb5 hf5 HA
  go_wp2
  refine ⟨_, _, _, (fun i => [.nilFunc, .nilFunc, .nilFunc, .nilFunc, _, .nilFunc, .nilFunc, .nilFunc, .nilFunc, .nilFunc, .nilFunc, .nilFunc, _, _, _, _, _, .nilFunc, .nilFunc, .nilFunc, .nilFunc, .nilFunc, .nilFunc, .nilFunc, .nilFunc, .nilFunc, .nilFunc, .nilFunc, .nilFunc, .nilFunc, .nilFunc, .nilFunc, .nilFunc, .nilFunc, .nilFunc, .nilFunc, .nilFunc, .nilFunc, .nilFunc, .nilFunc, .nilFunc, .nilFunc, .nilFunc, .nilFunc, .nilFunc, .nilFunc, .nilFunc, .nilFunc, .nilFunc, .nilFunc, .nilFunc, .nilFunc, .nilFunc, .nilFunc, .nilFunc, .nilFunc, .nilFunc, .nilFunc, .nilFunc, .nilFunc, .nilFunc, .nilFunc, .nilFunc, .nilFunc, .nilFunc, .nilFunc, .nilFunc, .nilFunc, .nilFunc, .nilFunc, .nilFunc, .nilFunc, .nilFunc, .nilFunc, .nilFunc, .nilFunc, .nilFunc, .nilFunc, .nilFunc, .nilFunc, .nilFunc, .nilFunc, .nilFunc, .nilFunc, .nilFunc, .nilFunc, .nilFunc, .nilFunc, .nilFunc, .nilFunc, .nilFunc, .nilFunc, .nilFunc, .nilFunc, .nilFunc, .nilFunc, .nilFunc, .nilFunc, .nilFunc, .nilFunc, .nilFunc, .nilFunc, .nilFunc, .nilFunc, .nilFunc, .nilFunc, .nilFunc, .nilFunc, .nilFunc, .nilFunc, .nilFunc, .nilFunc, .nilFunc, .nilFunc, .nilFunc, .nilFunc, .nilFunc, .nilFunc, .nilFunc, .nilFunc, .nilFunc, .nilFunc, .nilFunc, .nilFunc, .nilFunc, .nilFunc, .nilFunc, .nilFunc, .nilFunc, .nilFunc, .nilFunc, .nilFunc, .nilFunc, _, _, _, _, _, _, _, _, _, _, _, _, _, _, _, _, _, _, _, _, _, _, _, _, _, _, _, _, _, _, _, _, _, _, _, _, _, _, _, _, _, _, _, _, _, _, _, _, _, _, _, _, _, _, _, _, _, _, _, _, _, _, _, _, _, _, _, _, _, _, _, _, _, _, _, _, _, _, _, _, _, _, _, _, _, _, _, _, _, _, _, _, _, _, _, _, _, _, _, _, _, _, _, _, _, _, _, _, _, _, _, _, _, _, _, _, _, _, _, _, _, _, _, _, _, _, _, _, _, _, _, _, _, _, _, _, _, _, _, _, _, _, _, _, _, _, _, _, _, _, _, _, _, _, _, _, _, _, _, _, _, _, _, _, _, _, _, _, _, _].getD i .nilFunc), ⟨k + 12, bad, out1 ++ E, by omega, by omega, by go_num, hev, HB5, HF5, HI⟩, rfl⟩
set_option maxRecDepth 1000000 in
set_option maxHeartbeats 8000000 in
theorem auBs {K : Act → World → Prop} {Q' : Exit → Act → World → Prop} (w : World) (base : Nat) (G : Option (Nat × Nat)) (g cap n k : Nat) (m l out1 : List UInt8) (D ev : Value) (bad : Bool) (wr : World) (hn : Hid (n = m.length)) (hk : k < n) (hcp : n + 2 ≤ cap) (hnb : n ≤ 100000000000) (hlb : l.length ≤ 100000000000) (hol : out1.length ≤ 4 * n) (hbase : base ≤ w.heap.size) (hG : Hid (∀ g o, G = some (g, o) → g < base)) (hB : Hid (Buf wr base G D (l ++ out1))) (hF : Hid (Fr base G w wr)) (hM : Hid (∀ w', Fr base G w w' → BytesAt w' g 0 (qT m))) (_hev : Hid (bad = false → ev = .nilIface)) (_hok : Hid (okPc (m.drop k) = true)) (_hwl : Hid (k + dcW (m.drop k) ≤ n)) (h92 : Hid (natL (m.drop k) 0 = 92)) (HNX : Hid (∀ E w' bad', dcW (m.drop k) = w' → dcC (m.drop k) = E → (neatC (m.drop k) = true → bad' = bad) → UInv m (k + w') (k + w') (out1 ++ E) bad')) (hq : natL (m.drop k) 1 = 117) (huu : 0 ≤ uV (m.drop k)) (hh : halfU (uV (m.drop k))) (hp : ¬ pairOk (uV (m.drop k)) (uV (m.drop (k + 6)))) (hsh : n < k + 11)
    (hK : ∀ a' w'', auWE w base G n k m l (.slice (some ⟨g, 0, none⟩) (n + 2) cap) c2 c3 c6 c8 c9 c10 (.int .u8 117) c17 c18 c19 c20 c21 c22 c23 c24 c25 c26 c27 c28 c29 c30 c31 c32 c33 c34 c35 c36 c37 c38 c39 c40 c41 c42 c43 c44 c45 c46 c47 c48 c49 c50 c51 c52 c53 c54 c55 c56 c57 c58 c59 c60 c61 c62 c63 c64 c65 c66 c67 c68 c69 c70 c71 c72 c73 c74 c75 c76 c77 c78 c79 c80 c81 c82 c83 c84 c85 c86 c87 c88 c89 c90 c91 c92 c93 c94 c95 c96 c97 c98 c99 c100 c101 c102 c103 c104 c105 c106 c107 c108 c109 c110 c111 c112 c113 c114 c115 c116 c117 c118 c119 c120 c121 c122 c123 c124 c125 c126 c127 c128 c129 c130 c131 (.int .u8 117) c303 c304 c305 c306 c307 c308 c309 c310 c311 c312 c313 c314 c315 c316 c317 c318 c319 c320 c321 c322 c323 c324 c325 c326 c327 c328 c329 c330 c331 c332 c333 c334 c335 c336 c337 c338 c339 c340 c341 c342 c343 c344 c345 c346 c347 c348 a' w'' → K a' w'') :
    Code.wp Tryd.prog auBlk (Exit.then K Q') ⟨#[D, .slice (some ⟨g, 0, none⟩) (n + 2) cap, c2, c3, v4, ev, c6, .int .i64 ((k : Int) + 1), c8, c9, c10, .int .u8 117, v12, v13, v14, v15, v16, c17, c18, c19, c20, c21, c22, c23, c24, c25, c26, c27, c28, c29, c30, c31, c32, c33, c34, c35, c36, c37, c38, c39, c40, c41, c42, c43, c44, c45, c46, c47, c48, c49, c50, c51, c52, c53, c54, c55, c56, c57, c58, c59, c60, c61, c62, c63, c64, c65, c66, c67, c68, c69, c70, c71, c72, c73, c74, c75, c76, c77, c78, c79, c80, c81, c82, c83, c84, c85, c86, c87, c88, c89, c90, c91, c92, c93, c94, c95, c96, c97, c98, c99, c100, c101, c102, c103, c104, c105, c106, c107, c108, c109, c110, c111, c112, c113, c114, c115, c116, c117, c118, c119, c120, c121, c122, c123, c124, c125, c126, c127, c128, c129, c130, c131, .int .u8 117, v133, v134, v135, v136, v137, v138, v139, v140, v141, v142, v143, v144, v145, v146, v147, v148, v149, v150, v151, v152, v153, v154, v155, v156, v157, v158, v159, v160, v161, v162, v163, v164, v165, v166, v167, v168, v169, v170, v171, v172, v173, v174, v175, v176, v177, v178, v179, v180, v181, v182, v183, v184, v185, v186, v187, v188, v189, v190, v191, v192, v193, v194, v195, v196, v197, v198, v199, v200, v201, v202, v203, v204, v205, v206, v207, v208, v209, v210, v211, v212, v213, v214, v215, v216, v217, v218, v219, v220, v221, v222, v223, v224, v225, v226, v227, v228, v229, v230, v231, v232, v233, v234, v235, v236, v237, v238, v239, v240, v241, v242, v243, v244, v245, v246, v247, v248, v249, v250, v251, v252, v253, v254, v255, v256, v257, v258, v259, v260, v261, v262, v263, v264, v265, v266, v267, v268, v269, v270, v271, v272, v273, v274, v275, v276, v277, v278, v279, v280, v281, v282, v283, v284, v285, v286, v287, v288, v289, v290, v291, v292, v293, v294, v295, v296, v297, v298, v299, v300, v301, v302, c303, c304, c305, c306, c307, c308, c309, c310, c311, c312, c313, c314, c315, c316, c317, c318, c319, c320, c321, c322, c323, c324, c325, c326, c327, c328, c329, c330, c331, c332, c333, c334, c335, c336, c337, c338, c339, c340, c341, c342, c343, c344, c345, c346, c347, c348], []⟩ wr := by
  conv => arg 2; whnf
  have eC0 : dcC (m.drop k) = escC (m.drop k) := by unfold dcC; rw [if_pos h92.out]
  have eW0 : dcW (m.drop k) = escW (m.drop k) := by unfold dcW; rw [if_pos h92.out]
  have HEC : escC (m.drop k) = if natL (m.drop k) 1 = 98 then [8] else if natL (m.drop k) 1 = 102 then [12] else if natL (m.drop k) 1 = 110 then [10] else if natL (m.drop k) 1 = 114 then [13] else if natL (m.drop k) 1 = 116 then [9] else if natL (m.drop k) 1 = 117 then uniC (m.drop k) else [(m.drop k).getD 1 0] := rfl
  have HEW : escW (m.drop k) = if natL (m.drop k) 1 = 117 then uniW (m.drop k) else 2 := rfl
  rw [hq] at HEC HEW
  have hkl : k ≤ m.length := by rw [← hn.out]; exact Nat.le_of_lt hk
  have hu1 : 0 ≤ uV ((qT m).drop (k + 1)) := by rw [uV_qT m k hkl]; exact huu
  have hx1 := uV_ok hu1
  have hl1 : ((qT m).drop (k + 1)).length = n + 1 - k := by rw [List.length_drop, qT_length, ← hn.out]; omega
  have hv1 : uV (m.drop k) = hexV ((qT m).drop (k + 1)) := by rw [← uV_qT m k hkl]; unfold uV; rw [if_pos hx1]
  have h6 : k + 6 ≤ n := by have := (uV_ok huu).1; rw [List.length_drop, ← hn.out] at this; omega
  have hm0 := hM.out wr hF.out
  have HPX := parseHex ((qT m).drop (k + 1)) g (k + 3) (cap - (k + 3)) wr (fun j hj => by
    have := hm0 (k + 3 + j) (by rw [qT_length, ← hn.out]; omega)
    rw [Nat.zero_add] at this
    rw [this, atLd, show k + 1 + (2 + j) = k + 3 + j by omega])
  have HP1 : Hid (Calls Tryd.prog 72 #[.slice (some ⟨g, k + 3, none⟩) 4 (cap - (k + 3))] wr fun e w' => e = .returned (.tuple #[.int .u16 (uV (m.drop k)), .bool true]) ∧ w' = wr) := Lib.hid (HPX.mono fun e w' ⟨a, b⟩ => by
    rcases a with ⟨_, a⟩ | ⟨a, _⟩
    · exact ⟨by rw [a, hv1], b⟩
    · exact absurd hx1.2.2.2 a)
  have hr1 := uV_range (m.drop k)
  have eW : dcW (m.drop k) = uniW (m.drop k) := by rw [eW0, HEW]; rfl
  have eC : dcC (m.drop k) = uniC (m.drop k) := by rw [eC0, HEC]; rfl
  have hUC : uniC (m.drop k) = if halfU (uV (m.drop k)) then (if pairOk (uV (m.drop k)) (uV ((m.drop k).drop 6)) then Lib.encodeRune (pairV (uV (m.drop k)) (uV ((m.drop k).drop 6))) else BR) else Lib.encodeRune (uV (m.drop k)) := rfl
  have hUW : uniW (m.drop k) = if pairOk (uV (m.drop k)) (uV ((m.drop k).drop 6)) then 12 else 6 := rfl
  have hNC : neatC (m.drop k) = !decide (natL (m.drop k) 1 = 117 ∧ halfU (uV (m.drop k)) ∧ ¬ pairOk (uV (m.drop k)) (uV ((m.drop k).drop 6))) := by unfold neatC; rw [if_pos h92.out]
  have hd6 : (m.drop k).drop 6 = m.drop (k + 6) := by rw [List.drop_drop]
  rw [hd6] at hUC hUW hNC
  have hcx1 : ¬ cap = k + 3 := by omega
  have hIS : ∀ W, Calls Tryd.prog 73 #[.int .i32 (uV (m.drop k))] W fun e w' => e = .returned (.bool (decide (halfU (uV (m.drop k))))) ∧ w' = W := fun W => isSurr (uV (m.drop k)) _ rfl W
  have HAR : Hid (∀ (r : Int) W, 0 ≤ r → r ≤ 1114111 → ¬ (55296 ≤ r ∧ r ≤ 57343) → Fr base G w W → Buf W base G D (l ++ out1) → Calls Tryd.prog 74 #[D, .int .i32 r] W (RunePut base G (l ++ out1 ++ Lib.encodeRune r) W)) := Lib.hid fun r W a b c f hb => appendRune r a b c base G D (l ++ out1) W hb (by rw [List.length_append]; omega) (Nat.le_trans hbase f.size) hG.out
  have HIS2 : Hid (∀ W, Calls Tryd.prog 73 #[.int .i32 (uV (m.drop k))] W fun e w' => e = .returned (.bool true) ∧ w' = W) := Lib.hid fun W => by
    have := hIS W
    rw [decide_eq_true hh] at this; exact this
  have hl2 : ((qT m).drop (k + 7)).length = n - (k + 5) := by rw [List.length_drop, qT_length, ← hn.out]; omega
  have hu2 : uV ((qT m).drop (k + 7)) = uV (m.drop (k + 6)) := by rw [show k + 7 = (k + 6) + 1 by omega, uV_qT m (k + 6) (by rw [← hn.out]; omega)]
  have hr2 := uV_range (m.drop (k + 6))
  have hb2 : BytesAt wr g (k + 7) ((qT m).drop (k + 7)) := fun j hj => by
    have := hm0 (k + 7 + j) (by rw [List.length_drop] at hj; omega)
    rw [Nat.zero_add] at this
    rw [this, atLd]
  rw [if_pos hh, if_neg hp] at hUC
  rw [if_neg hp] at hUW
  have HI := Lib.hid (HNX.out _ 6 true (by rw [eW, hUW]) (by rw [eC, hUC]) (fun q => by rw [hNC, decide_eq_true ⟨hq, hh, hp⟩] at q; cases q))
  have HARB : Hid (∀ W, Fr base G w W → Buf W base G D (l ++ out1) → Calls Tryd.prog 74 #[D, .int .i32 65533] W (RunePut base G (l ++ out1 ++ BR) W)) := Lib.hid fun W f hb => by
    have := HAR.out 65533 W (by omega) (by omega) (by omega) f hb
    rw [BR_enc] at this; exact this
  have h12 : decide ((n : Int) + 2 < (k : Int) + 1 + 6 + 6) = true := by simp; omega
  have hok6 := HI.out.ok
  have hnpx : ¬ atL ((qT m).drop (k + 7)) 0 = 92 ∨ (2 ≤ ((qT m).drop (k + 7)).length ∧ ¬ atL ((qT m).drop (k + 7)) 1 = 117) := by
    have e7 : (qT m).drop (k + 7) = m.drop (k + 6) ++ [34] := by rw [show k + 7 = (k + 6) + 1 by omega, qT_drop m (k + 6) (by rw [← hn.out]; omega)]
    by_cases z : k + 6 < n
    · have hp6 : 0 < (m.drop (k + 6)).length := by rw [List.length_drop, ← hn.out]; omega
      have hpc := (okL_step hok6 hp6).1
      have ha : ∀ j, j < (m.drop (k + 6)).length → atL ((qT m).drop (k + 7)) j = atL (m.drop (k + 6)) j := fun j hj => by
        rw [e7]; unfold atL
        rw [List.getD_eq_getElem?_getD, List.getD_eq_getElem?_getD, List.getElem?_append_left hj]
      rw [ha 0 hp6]
      by_cases z92 : atL (m.drop (k + 6)) 0 = 92
      · right
        have n92 : natL (m.drop (k + 6)) 0 = 92 := by have : (natL (m.drop (k + 6)) 0 : Int) = atL (m.drop (k + 6)) 0 := rfl; omega
        unfold okPc at hpc
        rw [if_pos n92, decide_eq_true_iff] at hpc
        refine ⟨by rw [hl2]; omega, ?_⟩
        rw [ha 1 (by omega)]
        intro h117
        have n117 : natL (m.drop (k + 6)) 1 = 117 := by have : (natL (m.drop (k + 6)) 1 : Int) = atL (m.drop (k + 6)) 1 := rfl; omega
        have hu6 : 0 ≤ uV (m.drop (k + 6)) := by omega
        have := (uV_ok hu6).1
        rw [List.length_drop, ← hn.out] at this
        omega
      · exact .inl z92
    · left
      rw [e7, List.drop_of_length_le (by rw [← hn.out]; omega)]
      decide
  have HNP := noPrefix ((qT m).drop (k + 7)) g (k + 7) (cap - (k + 7)) true wr hb2 (by rw [hl2]; omega) (by rw [hl2]; omega) hnpx
  rw [hl2] at HNP
  have HNP2 := Lib.hid HNP
  have HEE := newEscErr ((qT m).drop (k + 1)) g (k + 1) (cap - (k + 1)) wr (fun j hj => by
    have := hm0 (k + 1 + j) (by rw [List.length_drop] at hj; omega)
    rw [Nat.zero_add] at this
    rw [this, atLd]) (by rw [hl1]; omega)
  rw [hl1] at HEE
  have HER := Lib.hid HEE
  have hcx3 : ¬ cap = k + 7 := by omega
  have hcx4 : ¬ cap = k + 1 := by omega
  clear HNP HEE hnpx hok6 hl2 hp
  clear HNX HPX hm0 hv1 hx1 hu1 hu2 hl1 hb2 hUC hUW hNC hd6 hIS HAR HEC HEW eC0 eW0 eC eW _hok _hwl h92 hM hkl hh hq
  generalize uV (m.drop (k + 6)) = d at *
  generalize uV (m.drop k) = cc at *
  generalize BR = E at *
  go_wp2_with fail
  refine HP1.out.mono ?_
  rintro e w2 ⟨rfl, rfl⟩
  clear HP1
  go_wp2_with fail
  refine (HIS2.out _).mono ?_
  rintro e w2 ⟨rfl, rfl⟩
  clear HIS2
  go_wp2_with fail
  refine HNP2.out.mono ?_
  rintro e w2 ⟨rfl, rfl⟩
  clear HNP2
  go_wp2_with fail
  refine HER.out.mono ?_
  rintro e w4 ⟨⟨p, rfl⟩, hb4⟩
  have hF4 : Fr base G w w4 := hF.out.trans (Fr.of_belowAll hb4 (Nat.le_trans hbase hF.out.size) hG.out)
  have HA := Lib.hid (HARB.out w4 hF4 (hB.out.belowAll hb4))
  have HF4 := Lib.hid hF4
  clear hF4 hb4 HER HARB hB
  go_wp2_with fail
  refine HA.out.mono ?_
  rintro e w5 ⟨v5, rfl, hb5, hf5, _⟩
  have HB5 : Hid (Buf w5 base G v5 (l ++ (out1 ++ E))) := Lib.hid (by simpa only [List.append_assoc] using hb5)
  have HF5 := Lib.hid (Fr.trans HF4.out hf5)
  clear hb5 hf5 HA
  go_wp2
  refine ⟨_, _, _, (fun i => [.nilFunc, .nilFunc, .nilFunc, .nilFunc, _, .nilFunc, .nilFunc, .nilFunc, .nilFunc, .nilFunc, .nilFunc, .nilFunc, _, _, _, _, _, .nilFunc, .nilFunc, .nilFunc, .nilFunc, .nilFunc, .nilFunc, .nilFunc, .nilFunc, .nilFunc, .nilFunc, .nilFunc, .nilFunc, .nilFunc, .nilFunc, .nilFunc, .nilFunc, .nilFunc, .nilFunc, .nilFunc, .nilFunc, .nilFunc, .nilFunc, .nilFunc, .nilFunc, .nilFunc, .nilFunc, .nilFunc, .nilFunc, .nilFunc, .nilFunc, .nilFunc, .nilFunc, .nilFunc, .nilFunc, .nilFunc, .nilFunc, .nilFunc, .nilFunc, .nilFunc, .nilFunc, .nilFunc, .nilFunc, .nilFunc, .nilFunc, .nilFunc, .nilFunc, .nilFunc, .nilFunc, .nilFunc, .nilFunc, .nilFunc, .nilFunc, .nilFunc, .nilFunc, .nilFunc, .nilFunc, .nilFunc, .nilFunc, .nilFunc, .nilFunc, .nilFunc, .nilFunc, .nilFunc, .nilFunc, .nilFunc, .nilFunc, .nilFunc, .nilFunc, .nilFunc, .nilFunc, .nilFunc, .nilFunc, .nilFunc, .nilFunc, .nilFunc, .nilFunc, .nilFunc, .nilFunc, .nilFunc, .nilFunc, .nilFunc, .nilFunc, .nilFunc, .nilFunc, .nilFunc, .nilFunc, .nilFunc, .nilFunc, .nilFunc, .nilFunc, .nilFunc, .nilFunc, .nilFunc, .nilFunc, .nilFunc, .nilFunc, .nilFunc, .nilFunc, .nilFunc, .nilFunc, .nilFunc, .nilFunc, .nilFunc, .nilFunc, .nilFunc, .nilFunc, .nilFunc, .nilFunc, .nilFunc, .nilFunc, .nilFunc, .nilFunc, .nilFunc, .nilFunc, .nilFunc, .nilFunc, _, _, _, _, _, _, _, _, _, _, _, _, _, _, _, _, _, _, _, _, _, _, _, _, _, _, _, _, _, _, _, _, _, _, _, _, _, _, _, _, _, _, _, _, _, _, _, _, _, _, _, _, _, _, _, _, _, _, _, _, _, _, _, _, _, _, _, _, _, _, _, _, _, _, _, _, _, _, _, _, _, _, _, _, _, _, _, _, _, _, _, _, _, _, _, _, _, _, _, _, _, _, _, _, _, _, _, _, _, _, _, _, _, _, _, _, _, _, _, _, _, _, _, _, _, _, _, _, _, _, _, _, _, _, _, _, _, _, _, _, _, _, _, _, _, _, _, _, _, _, _, _, _, _, _, _, _, _, _, _, _, _, _, _, _, _, _, _, _, _].getD i .nilFunc), ⟨k + 6, true, out1 ++ E, by omega, by omega, by go_num, Lib.hid (fun q => by cases q), HB5, HF5, HI⟩, rfl⟩
set_option maxRecDepth 1000000 in
set_option maxHeartbeats 8000000 in
theorem auBp {K : Act → World → Prop} {Q' : Exit → Act → World → Prop} (w : World) (base : Nat) (G : Option (Nat × Nat)) (g cap n k : Nat) (m l out1 : List UInt8) (D ev : Value) (bad : Bool) (wr : World) (hn : Hid (n = m.length)) (hk : k < n) (hcp : n + 2 ≤ cap) (hnb : n ≤ 100000000000) (hlb : l.length ≤ 100000000000) (hol : out1.length ≤ 4 * n) (hbase : base ≤ w.heap.size) (hG : Hid (∀ g o, G = some (g, o) → g < base)) (hB : Hid (Buf wr base G D (l ++ out1))) (hF : Hid (Fr base G w wr)) (hM : Hid (∀ w', Fr base G w w' → BytesAt w' g 0 (qT m))) (_hev : Hid (bad = false → ev = .nilIface)) (_hok : Hid (okPc (m.drop k) = true)) (_hwl : Hid (k + dcW (m.drop k) ≤ n)) (h92 : Hid (natL (m.drop k) 0 = 92)) (HNX : Hid (∀ E w' bad', dcW (m.drop k) = w' → dcC (m.drop k) = E → (neatC (m.drop k) = true → bad' = bad) → UInv m (k + w') (k + w') (out1 ++ E) bad')) (hq : natL (m.drop k) 1 = 117) (huu : 0 ≤ uV (m.drop k)) (hh : halfU (uV (m.drop k))) (hp : ¬ pairOk (uV (m.drop k)) (uV (m.drop (k + 6)))) (hsh : ¬ n < k + 11) (h2u : 0 ≤ uV (m.drop (k + 6)))
    (hK : ∀ a' w'', auWE w base G n k m l (.slice (some ⟨g, 0, none⟩) (n + 2) cap) c2 c3 c6 c8 c9 c10 (.int .u8 117) c17 c18 c19 c20 c21 c22 c23 c24 c25 c26 c27 c28 c29 c30 c31 c32 c33 c34 c35 c36 c37 c38 c39 c40 c41 c42 c43 c44 c45 c46 c47 c48 c49 c50 c51 c52 c53 c54 c55 c56 c57 c58 c59 c60 c61 c62 c63 c64 c65 c66 c67 c68 c69 c70 c71 c72 c73 c74 c75 c76 c77 c78 c79 c80 c81 c82 c83 c84 c85 c86 c87 c88 c89 c90 c91 c92 c93 c94 c95 c96 c97 c98 c99 c100 c101 c102 c103 c104 c105 c106 c107 c108 c109 c110 c111 c112 c113 c114 c115 c116 c117 c118 c119 c120 c121 c122 c123 c124 c125 c126 c127 c128 c129 c130 c131 (.int .u8 117) c303 c304 c305 c306 c307 c308 c309 c310 c311 c312 c313 c314 c315 c316 c317 c318 c319 c320 c321 c322 c323 c324 c325 c326 c327 c328 c329 c330 c331 c332 c333 c334 c335 c336 c337 c338 c339 c340 c341 c342 c343 c344 c345 c346 c347 c348 a' w'' → K a' w'') :
    Code.wp Tryd.prog auBlk (Exit.then K Q') ⟨#[D, .slice (some ⟨g, 0, none⟩) (n + 2) cap, c2, c3, v4, ev, c6, .int .i64 ((k : Int) + 1), c8, c9, c10, .int .u8 117, v12, v13, v14, v15, v16, c17, c18, c19, c20, c21, c22, c23, c24, c25, c26, c27, c28, c29, c30, c31, c32, c33, c34, c35, c36, c37, c38, c39, c40, c41, c42, c43, c44, c45, c46, c47, c48, c49, c50, c51, c52, c53, c54, c55, c56, c57, c58, c59, c60, c61, c62, c63, c64, c65, c66, c67, c68, c69, c70, c71, c72, c73, c74, c75, c76, c77, c78, c79, c80, c81, c82, c83, c84, c85, c86, c87, c88, c89, c90, c91, c92, c93, c94, c95, c96, c97, c98, c99, c100, c101, c102, c103, c104, c105, c106, c107, c108, c109, c110, c111, c112, c113, c114, c115, c116, c117, c118, c119, c120, c121, c122, c123, c124, c125, c126, c127, c128, c129, c130, c131, .int .u8 117, v133, v134, v135, v136, v137, v138, v139, v140, v141, v142, v143, v144, v145, v146, v147, v148, v149, v150, v151, v152, v153, v154, v155, v156, v157, v158, v159, v160, v161, v162, v163, v164, v165, v166, v167, v168, v169, v170, v171, v172, v173, v174, v175, v176, v177, v178, v179, v180, v181, v182, v183, v184, v185, v186, v187, v188, v189, v190, v191, v192, v193, v194, v195, v196, v197, v198, v199, v200, v201, v202, v203, v204, v205, v206, v207, v208, v209, v210, v211, v212, v213, v214, v215, v216, v217, v218, v219, v220, v221, v222, v223, v224, v225, v226, v227, v228, v229, v230, v231, v232, v233, v234, v235, v236, v237, v238, v239, v240, v241, v242, v243, v244, v245, v246, v247, v248, v249, v250, v251, v252, v253, v254, v255, v256, v257, v258, v259, v260, v261, v262, v263, v264, v265, v266, v267, v268, v269, v270, v271, v272, v273, v274, v275, v276, v277, v278, v279, v280, v281, v282, v283, v284, v285, v286, v287, v288, v289, v290, v291, v292, v293, v294, v295, v296, v297, v298, v299, v300, v301, v302, c303, c304, c305, c306, c307, c308, c309, c310, c311, c312, c313, c314, c315, c316, c317, c318, c319, c320, c321, c322, c323, c324, c325, c326, c327, c328, c329, c330, c331, c332, c333, c334, c335, c336, c337, c338, c339, c340, c341, c342, c343, c344, c345, c346, c347, c348], []⟩ wr := by
  conv => arg 2; whnf
  have eC0 : dcC (m.drop k) = escC (m.drop k) := by unfold dcC; rw [if_pos h92.out]
  have eW0 : dcW (m.drop k) = escW (m.drop k) := by unfold dcW; rw [if_pos h92.out]
  have HEC : escC (m.drop k) = if natL (m.drop k) 1 = 98 then [8] else if natL (m.drop k) 1 = 102 then [12] else if natL (m.drop k) 1 = 110 then [10] else if natL (m.drop k) 1 = 114 then [13] else if natL (m.drop k) 1 = 116 then [9] else if natL (m.drop k) 1 = 117 then uniC (m.drop k) else [(m.drop k).getD 1 0] := rfl
  have HEW : escW (m.drop k) = if natL (m.drop k) 1 = 117 then uniW (m.drop k) else 2 := rfl
  rw [hq] at HEC HEW
  have hkl : k ≤ m.length := by rw [← hn.out]; exact Nat.le_of_lt hk
  have hu1 : 0 ≤ uV ((qT m).drop (k + 1)) := by rw [uV_qT m k hkl]; exact huu
  have hx1 := uV_ok hu1
  have hl1 : ((qT m).drop (k + 1)).length = n + 1 - k := by rw [List.length_drop, qT_length, ← hn.out]; omega
  have hv1 : uV (m.drop k) = hexV ((qT m).drop (k + 1)) := by rw [← uV_qT m k hkl]; unfold uV; rw [if_pos hx1]
  have h6 : k + 6 ≤ n := by have := (uV_ok huu).1; rw [List.length_drop, ← hn.out] at this; omega
  have hm0 := hM.out wr hF.out
  have HPX := parseHex ((qT m).drop (k + 1)) g (k + 3) (cap - (k + 3)) wr (fun j hj => by
    have := hm0 (k + 3 + j) (by rw [qT_length, ← hn.out]; omega)
    rw [Nat.zero_add] at this
    rw [this, atLd, show k + 1 + (2 + j) = k + 3 + j by omega])
  have HP1 : Hid (Calls Tryd.prog 72 #[.slice (some ⟨g, k + 3, none⟩) 4 (cap - (k + 3))] wr fun e w' => e = .returned (.tuple #[.int .u16 (uV (m.drop k)), .bool true]) ∧ w' = wr) := Lib.hid (HPX.mono fun e w' ⟨a, b⟩ => by
    rcases a with ⟨_, a⟩ | ⟨a, _⟩
    · exact ⟨by rw [a, hv1], b⟩
    · exact absurd hx1.2.2.2 a)
  have hr1 := uV_range (m.drop k)
  have eW : dcW (m.drop k) = uniW (m.drop k) := by rw [eW0, HEW]; rfl
  have eC : dcC (m.drop k) = uniC (m.drop k) := by rw [eC0, HEC]; rfl
  have hUC : uniC (m.drop k) = if halfU (uV (m.drop k)) then (if pairOk (uV (m.drop k)) (uV ((m.drop k).drop 6)) then Lib.encodeRune (pairV (uV (m.drop k)) (uV ((m.drop k).drop 6))) else BR) else Lib.encodeRune (uV (m.drop k)) := rfl
  have hUW : uniW (m.drop k) = if pairOk (uV (m.drop k)) (uV ((m.drop k).drop 6)) then 12 else 6 := rfl
  have hNC : neatC (m.drop k) = !decide (natL (m.drop k) 1 = 117 ∧ halfU (uV (m.drop k)) ∧ ¬ pairOk (uV (m.drop k)) (uV ((m.drop k).drop 6))) := by unfold neatC; rw [if_pos h92.out]
  have hd6 : (m.drop k).drop 6 = m.drop (k + 6) := by rw [List.drop_drop]
  rw [hd6] at hUC hUW hNC
  have hcx1 : ¬ cap = k + 3 := by omega
  have hIS : ∀ W, Calls Tryd.prog 73 #[.int .i32 (uV (m.drop k))] W fun e w' => e = .returned (.bool (decide (halfU (uV (m.drop k))))) ∧ w' = W := fun W => isSurr (uV (m.drop k)) _ rfl W
  have HAR : Hid (∀ (r : Int) W, 0 ≤ r → r ≤ 1114111 → ¬ (55296 ≤ r ∧ r ≤ 57343) → Fr base G w W → Buf W base G D (l ++ out1) → Calls Tryd.prog 74 #[D, .int .i32 r] W (RunePut base G (l ++ out1 ++ Lib.encodeRune r) W)) := Lib.hid fun r W a b c f hb => appendRune r a b c base G D (l ++ out1) W hb (by rw [List.length_append]; omega) (Nat.le_trans hbase f.size) hG.out
  have HIS2 : Hid (∀ W, Calls Tryd.prog 73 #[.int .i32 (uV (m.drop k))] W fun e w' => e = .returned (.bool true) ∧ w' = W) := Lib.hid fun W => by
    have := hIS W
    rw [decide_eq_true hh] at this; exact this
  have hl2 : ((qT m).drop (k + 7)).length = n - (k + 5) := by rw [List.length_drop, qT_length, ← hn.out]; omega
  have hu2 : uV ((qT m).drop (k + 7)) = uV (m.drop (k + 6)) := by rw [show k + 7 = (k + 6) + 1 by omega, uV_qT m (k + 6) (by rw [← hn.out]; omega)]
  have hr2 := uV_range (m.drop (k + 6))
  have hb2 : BytesAt wr g (k + 7) ((qT m).drop (k + 7)) := fun j hj => by
    have := hm0 (k + 7 + j) (by rw [List.length_drop] at hj; omega)
    rw [Nat.zero_add] at this
    rw [this, atLd]
  rw [if_pos hh, if_neg hp] at hUC
  rw [if_neg hp] at hUW
  have HI := Lib.hid (HNX.out _ 6 true (by rw [eW, hUW]) (by rw [eC, hUC]) (fun q => by rw [hNC, decide_eq_true ⟨hq, hh, hp⟩] at q; cases q))
  have HARB : Hid (∀ W, Fr base G w W → Buf W base G D (l ++ out1) → Calls Tryd.prog 74 #[D, .int .i32 65533] W (RunePut base G (l ++ out1 ++ BR) W)) := Lib.hid fun W f hb => by
    have := HAR.out 65533 W (by omega) (by omega) (by omega) f hb
    rw [BR_enc] at this; exact this
  have hcx2 : ¬ cap = k + 9 := by omega
  have c7 := hb2 0 (by rw [hl2]; omega)
  have c8 := hb2 1 (by rw [hl2]; omega)
  rw [Nat.add_zero] at c7
  have HPY := parseHex ((qT m).drop (k + 7)) g (k + 9) (cap - (k + 9)) wr (fun j hj => by
    have := hb2 (2 + j) (by rw [hl2]; omega)
    rw [← Nat.add_assoc] at this
    exact this)
  have h12 : decide ((n : Int) + 2 < (k : Int) + 1 + 6 + 6) = false := by simp; omega
  have hge : 0 ≤ uV ((qT m).drop (k + 7)) := by rw [hu2]; exact h2u
  have hx2 := uV_ok hge
  have hv2 : uV (m.drop (k + 6)) = hexV ((qT m).drop (k + 7)) := by rw [← hu2]; unfold uV; rw [if_pos hx2]
  rw [hx2.2.1] at c7
  rw [hx2.2.2.1] at c8
  have HP2 : Hid (Calls Tryd.prog 72 #[.slice (some ⟨g, k + 9, none⟩) 4 (cap - (k + 9))] wr fun e w' => e = .returned (.tuple #[.int .u16 (uV (m.drop (k + 6))), .bool true]) ∧ w' = wr) := Lib.hid (HPY.mono fun e w' ⟨a, b⟩ => by
    rcases a with ⟨_, a⟩ | ⟨a, _⟩
    · exact ⟨by rw [a, hv2], b⟩
    · exact absurd hx2.2.2.2 a)
  have HDR : Hid (∀ W, Calls Tryd.prog 75 #[.int .i32 (uV (m.drop k)), .int .i32 (uV (m.drop (k + 6)))] W fun e w' => e = .returned (.int .i32 65533) ∧ w' = W) := Lib.hid fun W => by
    have := decRune16 (uV (m.drop k)) (uV (m.drop (k + 6))) (by omega) (by omega) W
    rw [if_neg hp] at this; exact this
  have HEE := newEscErr (((qT m).drop (k + 1)).take 12) g (k + 1) (cap - (k + 1)) wr (part_bytes hm0 (k + 1) 12 (by rw [qT_length, ← hn.out]; omega)) (by rw [List.length_take]; omega)
  rw [show (((qT m).drop (k + 1)).take 12).length = 12 by rw [List.length_take, hl1]; omega] at HEE
  have HER := Lib.hid HEE
  clear HEE HPY hv2 hx2 hge hl2 hp
  clear HNX HPX hm0 hv1 hx1 hu1 hu2 hl1 hb2 hUC hUW hNC hd6 hIS HAR HEC HEW eC0 eW0 eC eW _hok _hwl h92 hM hkl hh hq
  generalize uV (m.drop (k + 6)) = d at *
  generalize uV (m.drop k) = cc at *
  generalize BR = E at *
  go_wp2_with fail
  refine HP1.out.mono ?_
  rintro e w2 ⟨rfl, rfl⟩
  clear HP1
  go_wp2_with fail
  refine (HIS2.out _).mono ?_
  rintro e w2 ⟨rfl, rfl⟩
  clear HIS2
  go_wp2_with fail
  refine HP2.out.mono ?_
  rintro e w2 ⟨rfl, rfl⟩
  clear HP2
  go_wp2_with fail
  refine (HDR.out _).mono ?_
  rintro e w2 ⟨rfl, rfl⟩
  clear HDR
  go_wp2_with fail
  refine HER.out.mono ?_
  rintro e w4 ⟨⟨p, rfl⟩, hb4⟩
  have hF4 : Fr base G w w4 := hF.out.trans (Fr.of_belowAll hb4 (Nat.le_trans hbase hF.out.size) hG.out)
  have HA := Lib.hid (HARB.out w4 hF4 (hB.out.belowAll hb4))
  have HF4 := Lib.hid hF4
  clear hF4 hb4 HER HARB hB
  go_wp2_with fail
  refine HA.out.mono ?_
  rintro e w5 ⟨v5, rfl, hb5, hf5, _⟩
  have HB5 : Hid (Buf w5 base G v5 (l ++ (out1 ++ E))) := Lib.hid (by simpa only [List.append_assoc] using hb5)
  have HF5 := Lib.hid (Fr.trans HF4.out hf5)
  clear hb5 hf5 HA
  go_wp2
  refine ⟨_, _, _, (fun i => [.nilFunc, .nilFunc, .nilFunc, .nilFunc, _, .nilFunc, .nilFunc, .nilFunc, .nilFunc, .nilFunc, .nilFunc, .nilFunc, _, _, _, _, _, .nilFunc, .nilFunc, .nilFunc, .nilFunc, .nilFunc, .nilFunc, .nilFunc, .nilFunc, .nilFunc, .nilFunc, .nilFunc, .nilFunc, .nilFunc, .nilFunc, .nilFunc, .nilFunc, .nilFunc, .nilFunc, .nilFunc, .nilFunc, .nilFunc, .nilFunc, .nilFunc, .nilFunc, .nilFunc, .nilFunc, .nilFunc, .nilFunc, .nilFunc, .nilFunc, .nilFunc, .nilFunc, .nilFunc, .nilFunc, .nilFunc, .nilFunc, .nilFunc, .nilFunc, .nilFunc, .nilFunc, .nilFunc, .nilFunc, .nilFunc, .nilFunc, .nilFunc, .nilFunc, .nilFunc, .nilFunc, .nilFunc, .nilFunc, .nilFunc, .nilFunc, .nilFunc, .nilFunc, .nilFunc, .nilFunc, .nilFunc, .nilFunc, .nilFunc, .nilFunc, .nilFunc, .nilFunc, .nilFunc, .nilFunc, .nilFunc, .nilFunc, .nilFunc, .nilFunc, .nilFunc, .nilFunc, .nilFunc, .nilFunc, .nilFunc, .nilFunc, .nilFunc, .nilFunc, .nilFunc, .nilFunc, .nilFunc, .nilFunc, .nilFunc, .nilFunc, .nilFunc, .nilFunc, .nilFunc, .nilFunc, .nilFunc, .nilFunc, .nilFunc, .nilFunc, .nilFunc, .nilFunc, .nilFunc, .nilFunc, .nilFunc, .nilFunc, .nilFunc, .nilFunc, .nilFunc, .nilFunc, .nilFunc, .nilFunc, .nilFunc, .nilFunc, .nilFunc, .nilFunc, .nilFunc, .nilFunc, .nilFunc, .nilFunc, .nilFunc, .nilFunc, .nilFunc, .nilFunc, .nilFunc, .nilFunc, _, _, _, _, _, _, _, _, _, _, _, _, _, _, _, _, _, _, _, _, _, _, _, _, _, _, _, _, _, _, _, _, _, _, _, _, _, _, _, _, _, _, _, _, _, _, _, _, _, _, _, _, _, _, _, _, _, _, _, _, _, _, _, _, _, _, _, _, _, _, _, _, _, _, _, _, _, _, _, _, _, _, _, _, _, _, _, _, _, _, _, _, _, _, _, _, _, _, _, _, _, _, _, _, _, _, _, _, _, _, _, _, _, _, _, _, _, _, _, _, _, _, _, _, _, _, _, _, _, _, _, _, _, _, _, _, _, _, _, _, _, _, _, _, _, _, _, _, _, _, _, _, _, _, _, _, _, _, _, _, _, _, _, _, _, _, _, _, _, _].getD i .nilFunc), ⟨k + 6, true, out1 ++ E, by omega, by omega, by go_num, Lib.hid (fun q => by cases q), HB5, HF5, HI⟩, rfl⟩
set_option maxRecDepth 1000000 in
set_option maxHeartbeats 8000000 in
theorem auBx {K : Act → World → Prop} {Q' : Exit → Act → World → Prop} (w : World) (base : Nat) (G : Option (Nat × Nat)) (g cap n k : Nat) (m l out1 : List UInt8) (D ev : Value) (bad : Bool) (wr : World) (hn : Hid (n = m.length)) (hk : k < n) (hcp : n + 2 ≤ cap) (hnb : n ≤ 100000000000) (hlb : l.length ≤ 100000000000) (hol : out1.length ≤ 4 * n) (hbase : base ≤ w.heap.size) (hG : Hid (∀ g o, G = some (g, o) → g < base)) (hB : Hid (Buf wr base G D (l ++ out1))) (hF : Hid (Fr base G w wr)) (hM : Hid (∀ w', Fr base G w w' → BytesAt w' g 0 (qT m))) (_hev : Hid (bad = false → ev = .nilIface)) (_hok : Hid (okPc (m.drop k) = true)) (_hwl : Hid (k + dcW (m.drop k) ≤ n)) (h92 : Hid (natL (m.drop k) 0 = 92)) (HNX : Hid (∀ E w' bad', dcW (m.drop k) = w' → dcC (m.drop k) = E → (neatC (m.drop k) = true → bad' = bad) → UInv m (k + w') (k + w') (out1 ++ E) bad')) (hq : natL (m.drop k) 1 = 117) (huu : 0 ≤ uV (m.drop k)) (hh : halfU (uV (m.drop k))) (hp : ¬ pairOk (uV (m.drop k)) (uV (m.drop (k + 6)))) (hsh : ¬ n < k + 11) (h2u : uV (m.drop (k + 6)) < 0)
    (hK : ∀ a' w'', auWE w base G n k m l (.slice (some ⟨g, 0, none⟩) (n + 2) cap) c2 c3 c6 c8 c9 c10 (.int .u8 117) c17 c18 c19 c20 c21 c22 c23 c24 c25 c26 c27 c28 c29 c30 c31 c32 c33 c34 c35 c36 c37 c38 c39 c40 c41 c42 c43 c44 c45 c46 c47 c48 c49 c50 c51 c52 c53 c54 c55 c56 c57 c58 c59 c60 c61 c62 c63 c64 c65 c66 c67 c68 c69 c70 c71 c72 c73 c74 c75 c76 c77 c78 c79 c80 c81 c82 c83 c84 c85 c86 c87 c88 c89 c90 c91 c92 c93 c94 c95 c96 c97 c98 c99 c100 c101 c102 c103 c104 c105 c106 c107 c108 c109 c110 c111 c112 c113 c114 c115 c116 c117 c118 c119 c120 c121 c122 c123 c124 c125 c126 c127 c128 c129 c130 c131 (.int .u8 117) c303 c304 c305 c306 c307 c308 c309 c310 c311 c312 c313 c314 c315 c316 c317 c318 c319 c320 c321 c322 c323 c324 c325 c326 c327 c328 c329 c330 c331 c332 c333 c334 c335 c336 c337 c338 c339 c340 c341 c342 c343 c344 c345 c346 c347 c348 a' w'' → K a' w'') :
    Code.wp Tryd.prog auBlk (Exit.then K Q') ⟨#[D, .slice (some ⟨g, 0, none⟩) (n + 2) cap, c2, c3, v4, ev, c6, .int .i64 ((k : Int) + 1), c8, c9, c10, .int .u8 117, v12, v13, v14, v15, v16, c17, c18, c19, c20, c21, c22, c23, c24, c25, c26, c27, c28, c29, c30, c31, c32, c33, c34, c35, c36, c37, c38, c39, c40, c41, c42, c43, c44, c45, c46, c47, c48, c49, c50, c51, c52, c53, c54, c55, c56, c57, c58, c59, c60, c61, c62, c63, c64, c65, c66, c67, c68, c69, c70, c71, c72, c73, c74, c75, c76, c77, c78, c79, c80, c81, c82, c83, c84, c85, c86, c87, c88, c89, c90, c91, c92, c93, c94, c95, c96, c97, c98, c99, c100, c101, c102, c103, c104, c105, c106, c107, c108, c109, c110, c111, c112, c113, c114, c115, c116, c117, c118, c119, c120, c121, c122, c123, c124, c125, c126, c127, c128, c129, c130, c131, .int .u8 117, v133, v134, v135, v136, v137, v138, v139, v140, v141, v142, v143, v144, v145, v146, v147, v148, v149, v150, v151, v152, v153, v154, v155, v156, v157, v158, v159, v160, v161, v162, v163, v164, v165, v166, v167, v168, v169, v170, v171, v172, v173, v174, v175, v176, v177, v178, v179, v180, v181, v182, v183, v184, v185, v186, v187, v188, v189, v190, v191, v192, v193, v194, v195, v196, v197, v198, v199, v200, v201, v202, v203, v204, v205, v206, v207, v208, v209, v210, v211, v212, v213, v214, v215, v216, v217, v218, v219, v220, v221, v222, v223, v224, v225, v226, v227, v228, v229, v230, v231, v232, v233, v234, v235, v236, v237, v238, v239, v240, v241, v242, v243, v244, v245, v246, v247, v248, v249, v250, v251, v252, v253, v254, v255, v256, v257, v258, v259, v260, v261, v262, v263, v264, v265, v266, v267, v268, v269, v270, v271, v272, v273, v274, v275, v276, v277, v278, v279, v280, v281, v282, v283, v284, v285, v286, v287, v288, v289, v290, v291, v292, v293, v294, v295, v296, v297, v298, v299, v300, v301, v302, c303, c304, c305, c306, c307, c308, c309, c310, c311, c312, c313, c314, c315, c316, c317, c318, c319, c320, c321, c322, c323, c324, c325, c326, c327, c328, c329, c330, c331, c332, c333, c334, c335, c336, c337, c338, c339, c340, c341, c342, c343, c344, c345, c346, c347, c348], []⟩ wr := by
  conv => arg 2; whnf
  have eC0 : dcC (m.drop k) = escC (m.drop k) := by unfold dcC; rw [if_pos h92.out]
  have eW0 : dcW (m.drop k) = escW (m.drop k) := by unfold dcW; rw [if_pos h92.out]
  have HEC : escC (m.drop k) = if natL (m.drop k) 1 = 98 then [8] else if natL (m.drop k) 1 = 102 then [12] else if natL (m.drop k) 1 = 110 then [10] else if natL (m.drop k) 1 = 114 then [13] else if natL (m.drop k) 1 = 116 then [9] else if natL (m.drop k) 1 = 117 then uniC (m.drop k) else [(m.drop k).getD 1 0] := rfl
  have HEW : escW (m.drop k) = if natL (m.drop k) 1 = 117 then uniW (m.drop k) else 2 := rfl
  rw [hq] at HEC HEW
  have hkl : k ≤ m.length := by rw [← hn.out]; exact Nat.le_of_lt hk
  have hu1 : 0 ≤ uV ((qT m).drop (k + 1)) := by rw [uV_qT m k hkl]; exact huu
  have hx1 := uV_ok hu1
  have hl1 : ((qT m).drop (k + 1)).length = n + 1 - k := by rw [List.length_drop, qT_length, ← hn.out]; omega
  have hv1 : uV (m.drop k) = hexV ((qT m).drop (k + 1)) := by rw [← uV_qT m k hkl]; unfold uV; rw [if_pos hx1]
  have h6 : k + 6 ≤ n := by have := (uV_ok huu).1; rw [List.length_drop, ← hn.out] at this; omega
  have hm0 := hM.out wr hF.out
  have HPX := parseHex ((qT m).drop (k + 1)) g (k + 3) (cap - (k + 3)) wr (fun j hj => by
    have := hm0 (k + 3 + j) (by rw [qT_length, ← hn.out]; omega)
    rw [Nat.zero_add] at this
    rw [this, atLd, show k + 1 + (2 + j) = k + 3 + j by omega])
  have HP1 : Hid (Calls Tryd.prog 72 #[.slice (some ⟨g, k + 3, none⟩) 4 (cap - (k + 3))] wr fun e w' => e = .returned (.tuple #[.int .u16 (uV (m.drop k)), .bool true]) ∧ w' = wr) := Lib.hid (HPX.mono fun e w' ⟨a, b⟩ => by
    rcases a with ⟨_, a⟩ | ⟨a, _⟩
    · exact ⟨by rw [a, hv1], b⟩
    · exact absurd hx1.2.2.2 a)
  have hr1 := uV_range (m.drop k)
  have eW : dcW (m.drop k) = uniW (m.drop k) := by rw [eW0, HEW]; rfl
  have eC : dcC (m.drop k) = uniC (m.drop k) := by rw [eC0, HEC]; rfl
  have hUC : uniC (m.drop k) = if halfU (uV (m.drop k)) then (if pairOk (uV (m.drop k)) (uV ((m.drop k).drop 6)) then Lib.encodeRune (pairV (uV (m.drop k)) (uV ((m.drop k).drop 6))) else BR) else Lib.encodeRune (uV (m.drop k)) := rfl
  have hUW : uniW (m.drop k) = if pairOk (uV (m.drop k)) (uV ((m.drop k).drop 6)) then 12 else 6 := rfl
  have hNC : neatC (m.drop k) = !decide (natL (m.drop k) 1 = 117 ∧ halfU (uV (m.drop k)) ∧ ¬ pairOk (uV (m.drop k)) (uV ((m.drop k).drop 6))) := by unfold neatC; rw [if_pos h92.out]
  have hd6 : (m.drop k).drop 6 = m.drop (k + 6) := by rw [List.drop_drop]
  rw [hd6] at hUC hUW hNC
  have hcx1 : ¬ cap = k + 3 := by omega
  have hIS : ∀ W, Calls Tryd.prog 73 #[.int .i32 (uV (m.drop k))] W fun e w' => e = .returned (.bool (decide (halfU (uV (m.drop k))))) ∧ w' = W := fun W => isSurr (uV (m.drop k)) _ rfl W
  have HAR : Hid (∀ (r : Int) W, 0 ≤ r → r ≤ 1114111 → ¬ (55296 ≤ r ∧ r ≤ 57343) → Fr base G w W → Buf W base G D (l ++ out1) → Calls Tryd.prog 74 #[D, .int .i32 r] W (RunePut base G (l ++ out1 ++ Lib.encodeRune r) W)) := Lib.hid fun r W a b c f hb => appendRune r a b c base G D (l ++ out1) W hb (by rw [List.length_append]; omega) (Nat.le_trans hbase f.size) hG.out
  have HIS2 : Hid (∀ W, Calls Tryd.prog 73 #[.int .i32 (uV (m.drop k))] W fun e w' => e = .returned (.bool true) ∧ w' = W) := Lib.hid fun W => by
    have := hIS W
    rw [decide_eq_true hh] at this; exact this
  have hl2 : ((qT m).drop (k + 7)).length = n - (k + 5) := by rw [List.length_drop, qT_length, ← hn.out]; omega
  have hu2 : uV ((qT m).drop (k + 7)) = uV (m.drop (k + 6)) := by rw [show k + 7 = (k + 6) + 1 by omega, uV_qT m (k + 6) (by rw [← hn.out]; omega)]
  have hr2 := uV_range (m.drop (k + 6))
  have hb2 : BytesAt wr g (k + 7) ((qT m).drop (k + 7)) := fun j hj => by
    have := hm0 (k + 7 + j) (by rw [List.length_drop] at hj; omega)
    rw [Nat.zero_add] at this
    rw [this, atLd]
  rw [if_pos hh, if_neg hp] at hUC
  rw [if_neg hp] at hUW
  have HI := Lib.hid (HNX.out _ 6 true (by rw [eW, hUW]) (by rw [eC, hUC]) (fun q => by rw [hNC, decide_eq_true ⟨hq, hh, hp⟩] at q; cases q))
  have HARB : Hid (∀ W, Fr base G w W → Buf W base G D (l ++ out1) → Calls Tryd.prog 74 #[D, .int .i32 65533] W (RunePut base G (l ++ out1 ++ BR) W)) := Lib.hid fun W f hb => by
    have := HAR.out 65533 W (by omega) (by omega) (by omega) f hb
    rw [BR_enc] at this; exact this
  have hcx2 : ¬ cap = k + 9 := by omega
  have c7 := hb2 0 (by rw [hl2]; omega)
  have c8 := hb2 1 (by rw [hl2]; omega)
  rw [Nat.add_zero] at c7
  have HPY := parseHex ((qT m).drop (k + 7)) g (k + 9) (cap - (k + 9)) wr (fun j hj => by
    have := hb2 (2 + j) (by rw [hl2]; omega)
    rw [← Nat.add_assoc] at this
    exact this)
  have h12 : decide ((n : Int) + 2 < (k : Int) + 1 + 6 + 6) = false := by simp; omega
  have HEE := newEscErr (((qT m).drop (k + 1)).take 12) g (k + 1) (cap - (k + 1)) wr (part_bytes hm0 (k + 1) 12 (by rw [qT_length, ← hn.out]; omega)) (by rw [List.length_take]; omega)
  rw [show (((qT m).drop (k + 1)).take 12).length = 12 by rw [List.length_take, hl1]; omega] at HEE
  have HER := Lib.hid HEE
  have hnx : ¬ (atL ((qT m).drop (k + 7)) 0 = 92 ∧ atL ((qT m).drop (k + 7)) 1 = 117 ∧ hexOk ((qT m).drop (k + 7))) := fun q => by
    have : uV ((qT m).drop (k + 7)) = hexV ((qT m).drop (k + 7)) := by unfold uV; rw [if_pos ⟨by rw [hl2]; omega, q⟩]
    have h3 := hexV_range _ q.2.2
    rw [hu2] at this
    omega
  have HPZ : Hid (∃ (ok : Bool) (v : Int), (ok = true → ¬ (atL ((qT m).drop (k + 7)) 0 = 92 ∧ atL ((qT m).drop (k + 7)) 1 = 117)) ∧ Calls Tryd.prog 72 #[.slice (some ⟨g, k + 9, none⟩) 4 (cap - (k + 9))] wr fun e w' => e = .returned (.tuple #[.int .u16 v, .bool ok]) ∧ w' = wr) := Lib.hid (by
    by_cases q : hexOk ((qT m).drop (k + 7))
    · exact ⟨true, _, fun _ z => hnx ⟨z.1, z.2, q⟩, HPY.mono fun e w' ⟨a, b⟩ => by
        rcases a with ⟨_, a⟩ | ⟨a, _⟩
        · exact ⟨a, b⟩
        · exact absurd q a⟩
    · exact ⟨false, 0, (fun z => by cases z), HPY.mono fun e w' ⟨a, b⟩ => by
        rcases a with ⟨a, _⟩ | ⟨_, a⟩
        · exact absurd a q
        · exact ⟨a, b⟩⟩)
  obtain ⟨ok2, v2, hokv, hp2⟩ := HPZ.out
  have HP2 := Lib.hid hp2
  generalize atL ((qT m).drop (k + 7)) 0 = x7 at *
  generalize atL ((qT m).drop (k + 7)) 1 = x8 at *
  clear HEE HPY HPZ hp2 hnx hl2 hp
  clear HNX HPX hm0 hv1 hx1 hu1 hu2 hl1 hb2 hUC hUW hNC hd6 hIS HAR HEC HEW eC0 eW0 eC eW _hok _hwl h92 hM hkl hh hq
  generalize uV (m.drop (k + 6)) = d at *
  generalize uV (m.drop k) = cc at *
  generalize BR = E at *
  by_cases h7 : x7 = 92
  · subst h7
    by_cases h8 : x8 = 117
    · subst h8
      obtain rfl : ok2 = false := by
        cases ok2
        · rfl
        · exact absurd ⟨rfl, rfl⟩ (hokv rfl)
      clear hokv
      go_wp2_with fail
      refine HP1.out.mono ?_
      rintro e w2 ⟨rfl, rfl⟩
      clear HP1
      go_wp2_with fail
      refine (HIS2.out _).mono ?_
      rintro e w2 ⟨rfl, rfl⟩
      clear HIS2
      go_wp2_with fail
      refine HP2.out.mono ?_
      rintro e w2 ⟨rfl, rfl⟩
      clear HP2
      go_wp2_with fail
      refine HER.out.mono ?_
      rintro e w4 ⟨⟨p, rfl⟩, hb4⟩
      have hF4 : Fr base G w w4 := hF.out.trans (Fr.of_belowAll hb4 (Nat.le_trans hbase hF.out.size) hG.out)
      have HA := Lib.hid (HARB.out w4 hF4 (hB.out.belowAll hb4))
      have HF4 := Lib.hid hF4
      clear hF4 hb4 HER HARB hB
      go_wp2_with fail
      refine HA.out.mono ?_
      rintro e w5 ⟨v5, rfl, hb5, hf5, _⟩
      have HB5 : Hid (Buf w5 base G v5 (l ++ (out1 ++ E))) := Lib.hid (by simpa only [List.append_assoc] using hb5)
      have HF5 := Lib.hid (Fr.trans HF4.out hf5)
      clear hb5 hf5 HA
      go_wp2
      refine ⟨_, _, _, (fun i => [.nilFunc, .nilFunc, .nilFunc, .nilFunc, _, .nilFunc, .nilFunc, .nilFunc, .nilFunc, .nilFunc, .nilFunc, .nilFunc, _, _, _, _, _, .nilFunc, .nilFunc, .nilFunc, .nilFunc, .nilFunc, .nilFunc, .nilFunc, .nilFunc, .nilFunc, .nilFunc, .nilFunc, .nilFunc, .nilFunc, .nilFunc, .nilFunc, .nilFunc, .nilFunc, .nilFunc, .nilFunc, .nilFunc, .nilFunc, .nilFunc, .nilFunc, .nilFunc, .nilFunc, .nilFunc, .nilFunc, .nilFunc, .nilFunc, .nilFunc, .nilFunc, .nilFunc, .nilFunc, .nilFunc, .nilFunc, .nilFunc, .nilFunc, .nilFunc, .nilFunc, .nilFunc, .nilFunc, .nilFunc, .nilFunc, .nilFunc, .nilFunc, .nilFunc, .nilFunc, .nilFunc, .nilFunc, .nilFunc, .nilFunc, .nilFunc, .nilFunc, .nilFunc, .nilFunc, .nilFunc, .nilFunc, .nilFunc, .nilFunc, .nilFunc, .nilFunc, .nilFunc, .nilFunc, .nilFunc, .nilFunc, .nilFunc, .nilFunc, .nilFunc, .nilFunc, .nilFunc, .nilFunc, .nilFunc, .nilFunc, .nilFunc, .nilFunc, .nilFunc, .nilFunc, .nilFunc, .nilFunc, .nilFunc, .nilFunc, .nilFunc, .nilFunc, .nilFunc, .nilFunc, .nilFunc, .nilFunc, .nilFunc, .nilFunc, .nilFunc, .nilFunc, .nilFunc, .nilFunc, .nilFunc, .nilFunc, .nilFunc, .nilFunc, .nilFunc, .nilFunc, .nilFunc, .nilFunc, .nilFunc, .nilFunc, .nilFunc, .nilFunc, .nilFunc, .nilFunc, .nilFunc, .nilFunc, .nilFunc, .nilFunc, .nilFunc, .nilFunc, .nilFunc, .nilFunc, .nilFunc, _, _, _, _, _, _, _, _, _, _, _, _, _, _, _, _, _, _, _, _, _, _, _, _, _, _, _, _, _, _, _, _, _, _, _, _, _, _, _, _, _, _, _, _, _, _, _, _, _, _, _, _, _, _, _, _, _, _, _, _, _, _, _, _, _, _, _, _, _, _, _, _, _, _, _, _, _, _, _, _, _, _, _, _, _, _, _, _, _, _, _, _, _, _, _, _, _, _, _, _, _, _, _, _, _, _, _, _, _, _, _, _, _, _, _, _, _, _, _, _, _, _, _, _, _, _, _, _, _, _, _, _, _, _, _, _, _, _, _, _, _, _, _, _, _, _, _, _, _, _, _, _, _, _, _, _, _, _, _, _, _, _, _, _, _, _, _, _, _, _].getD i .nilFunc), ⟨k + 6, true, out1 ++ E, by omega, by omega, by go_num, Lib.hid (fun q => by cases q), HB5, HF5, HI⟩, rfl⟩
    · have e8 : (x8 != 117) = true := by simpa using h8
      clear hokv h8
      go_wp2_with fail
      refine HP1.out.mono ?_
      rintro e w2 ⟨rfl, rfl⟩
      clear HP1
      go_wp2_with fail
      refine (HIS2.out _).mono ?_
      rintro e w2 ⟨rfl, rfl⟩
      clear HIS2
      go_wp2_with fail
      refine HP2.out.mono ?_
      rintro e w2 ⟨rfl, rfl⟩
      clear HP2
      go_wp2_with fail
      refine HER.out.mono ?_
      rintro e w4 ⟨⟨p, rfl⟩, hb4⟩
      have hF4 : Fr base G w w4 := hF.out.trans (Fr.of_belowAll hb4 (Nat.le_trans hbase hF.out.size) hG.out)
      have HA := Lib.hid (HARB.out w4 hF4 (hB.out.belowAll hb4))
      have HF4 := Lib.hid hF4
      clear hF4 hb4 HER HARB hB
      go_wp2_with fail
      refine HA.out.mono ?_
      rintro e w5 ⟨v5, rfl, hb5, hf5, _⟩
      have HB5 : Hid (Buf w5 base G v5 (l ++ (out1 ++ E))) := Lib.hid (by simpa only [List.append_assoc] using hb5)
      have HF5 := Lib.hid (Fr.trans HF4.out hf5)
      clear hb5 hf5 HA
      go_wp2
      refine ⟨_, _, _, (fun i => [.nilFunc, .nilFunc, .nilFunc, .nilFunc, _, .nilFunc, .nilFunc, .nilFunc, .nilFunc, .nilFunc, .nilFunc, .nilFunc, _, _, _, _, _, .nilFunc, .nilFunc, .nilFunc, .nilFunc, .nilFunc, .nilFunc, .nilFunc, .nilFunc, .nilFunc, .nilFunc, .nilFunc, .nilFunc, .nilFunc, .nilFunc, .nilFunc, .nilFunc, .nilFunc, .nilFunc, .nilFunc, .nilFunc, .nilFunc, .nilFunc, .nilFunc, .nilFunc, .nilFunc, .nilFunc, .nilFunc, .nilFunc, .nilFunc, .nilFunc, .nilFunc, .nilFunc, .nilFunc, .nilFunc, .nilFunc, .nilFunc, .nilFunc, .nilFunc, .nilFunc, .nilFunc, .nilFunc, .nilFunc, .nilFunc, .nilFunc, .nilFunc, .nilFunc, .nilFunc, .nilFunc, .nilFunc, .nilFunc, .nilFunc, .nilFunc, .nilFunc, .nilFunc, .nilFunc, .nilFunc, .nilFunc, .nilFunc, .nilFunc, .nilFunc, .nilFunc, .nilFunc, .nilFunc, .nilFunc, .nilFunc, .nilFunc, .nilFunc, .nilFunc, .nilFunc, .nilFunc, .nilFunc, .nilFunc, .nilFunc, .nilFunc, .nilFunc, .nilFunc, .nilFunc, .nilFunc, .nilFunc, .nilFunc, .nilFunc, .nilFunc, .nilFunc, .nilFunc, .nilFunc, .nilFunc, .nilFunc, .nilFunc, .nilFunc, .nilFunc, .nilFunc, .nilFunc, .nilFunc, .nilFunc, .nilFunc, .nilFunc, .nilFunc, .nilFunc, .nilFunc, .nilFunc, .nilFunc, .nilFunc, .nilFunc, .nilFunc, .nilFunc, .nilFunc, .nilFunc, .nilFunc, .nilFunc, .nilFunc, .nilFunc, .nilFunc, .nilFunc, .nilFunc, .nilFunc, .nilFunc, _, _, _, _, _, _, _, _, _, _, _, _, _, _, _, _, _, _, _, _, _, _, _, _, _, _, _, _, _, _, _, _, _, _, _, _, _, _, _, _, _, _, _, _, _, _, _, _, _, _, _, _, _, _, _, _, _, _, _, _, _, _, _, _, _, _, _, _, _, _, _, _, _, _, _, _, _, _, _, _, _, _, _, _, _, _, _, _, _, _, _, _, _, _, _, _, _, _, _, _, _, _, _, _, _, _, _, _, _, _, _, _, _, _, _, _, _, _, _, _, _, _, _, _, _, _, _, _, _, _, _, _, _, _, _, _, _, _, _, _, _, _, _, _, _, _, _, _, _, _, _, _, _, _, _, _, _, _, _, _, _, _, _, _, _, _, _, _, _, _].getD i .nilFunc), ⟨k + 6, true, out1 ++ E, by omega, by omega, by go_num, Lib.hid (fun q => by cases q), HB5, HF5, HI⟩, rfl⟩
  · have e7 : (x7 != 92) = true := by simpa using h7
    clear hokv h7
    go_wp2_with fail
    refine HP1.out.mono ?_
    rintro e w2 ⟨rfl, rfl⟩
    clear HP1
    go_wp2_with fail
    refine (HIS2.out _).mono ?_
    rintro e w2 ⟨rfl, rfl⟩
    clear HIS2
    go_wp2_with fail
    refine HP2.out.mono ?_
    rintro e w2 ⟨rfl, rfl⟩
    clear HP2
    go_wp2_with fail
    refine HER.out.mono ?_
    rintro e w4 ⟨⟨p, rfl⟩, hb4⟩
    have hF4 : Fr base G w w4 := hF.out.trans (Fr.of_belowAll hb4 (Nat.le_trans hbase hF.out.size) hG.out)
    have HA := Lib.hid (HARB.out w4 hF4 (hB.out.belowAll hb4))
    have HF4 := Lib.hid hF4
    clear hF4 hb4 HER HARB hB
    go_wp2_with fail
    refine HA.out.mono ?_
    rintro e w5 ⟨v5, rfl, hb5, hf5, _⟩
    have HB5 : Hid (Buf w5 base G v5 (l ++ (out1 ++ E))) := Lib.hid (by simpa only [List.append_assoc] using hb5)
    have HF5 := Lib.hid (Fr.trans HF4.out hf5)
    clear hb5 hf5 HA
    go_wp2
    refine ⟨_, _, _, (fun i => [.nilFunc, .nilFunc, .nilFunc, .nilFunc, _, .nilFunc, .nilFunc, .nilFunc, .nilFunc, .nilFunc, .nilFunc, .nilFunc, _, _, _, _, _, .nilFunc, .nilFunc, .nilFunc, .nilFunc, .nilFunc, .nilFunc, .nilFunc, .nilFunc, .nilFunc, .nilFunc, .nilFunc, .nilFunc, .nilFunc, .nilFunc, .nilFunc, .nilFunc, .nilFunc, .nilFunc, .nilFunc, .nilFunc, .nilFunc, .nilFunc, .nilFunc, .nilFunc, .nilFunc, .nilFunc, .nilFunc, .nilFunc, .nilFunc, .nilFunc, .nilFunc, .nilFunc, .nilFunc, .nilFunc, .nilFunc, .nilFunc, .nilFunc, .nilFunc, .nilFunc, .nilFunc, .nilFunc, .nilFunc, .nilFunc, .nilFunc, .nilFunc, .nilFunc, .nilFunc, .nilFunc, .nilFunc, .nilFunc, .nilFunc, .nilFunc, .nilFunc, .nilFunc, .nilFunc, .nilFunc, .nilFunc, .nilFunc, .nilFunc, .nilFunc, .nilFunc, .nilFunc, .nilFunc, .nilFunc, .nilFunc, .nilFunc, .nilFunc, .nilFunc, .nilFunc, .nilFunc, .nilFunc, .nilFunc, .nilFunc, .nilFunc, .nilFunc, .nilFunc, .nilFunc, .nilFunc, .nilFunc, .nilFunc, .nilFunc, .nilFunc, .nilFunc, .nilFunc, .nilFunc, .nilFunc, .nilFunc, .nilFunc, .nilFunc, .nilFunc, .nilFunc, .nilFunc, .nilFunc, .nilFunc, .nilFunc, .nilFunc, .nilFunc, .nilFunc, .nilFunc, .nilFunc, .nilFunc, .nilFunc, .nilFunc, .nilFunc, .nilFunc, .nilFunc, .nilFunc, .nilFunc, .nilFunc, .nilFunc, .nilFunc, .nilFunc, .nilFunc, .nilFunc, .nilFunc, .nilFunc, _, _, _, _, _, _, _, _, _, _, _, _, _, _, _, _, _, _, _, _, _, _, _, _, _, _, _, _, _, _, _, _, _, _, _, _, _, _, _, _, _, _, _, _, _, _, _, _, _, _, _, _, _, _, _, _, _, _, _, _, _, _, _, _, _, _, _, _, _, _, _, _, _, _, _, _, _, _, _, _, _, _, _, _, _, _, _, _, _, _, _, _, _, _, _, _, _, _, _, _, _, _, _, _, _, _, _, _, _, _, _, _, _, _, _, _, _, _, _, _, _, _, _, _, _, _, _, _, _, _, _, _, _, _, _, _, _, _, _, _, _, _, _, _, _, _, _, _, _, _, _, _, _, _, _, _, _, _, _, _, _, _, _, _, _, _, _, _, _, _].getD i .nilFunc), ⟨k + 6, true, out1 ++ E, by omega, by omega, by go_num, Lib.hid (fun q => by cases q), HB5, HF5, HI⟩, rfl⟩
set_option maxRecDepth 1000000 in
set_option maxHeartbeats 8000000 in
theorem auAll {K : Act → World → Prop} {Q' : Exit → Act → World → Prop} (w : World) (base : Nat) (G : Option (Nat × Nat)) (g cap n k : Nat) (m l out1 : List UInt8) (D ev : Value) (bad : Bool) (c : Nat) (wr : World) (hn : Hid (n = m.length)) (hk : k < n) (hcp : n + 2 ≤ cap) (hnb : n ≤ 100000000000) (hlb : l.length ≤ 100000000000) (hol : out1.length ≤ 4 * n) (hbase : base ≤ w.heap.size) (hG : Hid (∀ g o, G = some (g, o) → g < base)) (hB : Hid (Buf wr base G D (l ++ out1))) (hF : Hid (Fr base G w wr)) (hM : Hid (∀ w', Fr base G w w' → BytesAt w' g 0 (qT m))) (hev : Hid (bad = false → ev = .nilIface)) (hok : Hid (okPc (m.drop k) = true)) (hwl : Hid (k + dcW (m.drop k) ≤ n)) (h92 : Hid (natL (m.drop k) 0 = 92)) (HNX : Hid (∀ E w' bad', dcW (m.drop k) = w' → dcC (m.drop k) = E → (neatC (m.drop k) = true → bad' = bad) → UInv m (k + w') (k + w') (out1 ++ E) bad')) (hc : Hid (c = natL (m.drop k) 1))
    (hK : ∀ a' w'', auWE w base G n k m l (.slice (some ⟨g, 0, none⟩) (n + 2) cap) c2 c3 c6 c8 c9 c10 (.int .u8 c) c17 c18 c19 c20 c21 c22 c23 c24 c25 c26 c27 c28 c29 c30 c31 c32 c33 c34 c35 c36 c37 c38 c39 c40 c41 c42 c43 c44 c45 c46 c47 c48 c49 c50 c51 c52 c53 c54 c55 c56 c57 c58 c59 c60 c61 c62 c63 c64 c65 c66 c67 c68 c69 c70 c71 c72 c73 c74 c75 c76 c77 c78 c79 c80 c81 c82 c83 c84 c85 c86 c87 c88 c89 c90 c91 c92 c93 c94 c95 c96 c97 c98 c99 c100 c101 c102 c103 c104 c105 c106 c107 c108 c109 c110 c111 c112 c113 c114 c115 c116 c117 c118 c119 c120 c121 c122 c123 c124 c125 c126 c127 c128 c129 c130 c131 (.int .u8 c) c303 c304 c305 c306 c307 c308 c309 c310 c311 c312 c313 c314 c315 c316 c317 c318 c319 c320 c321 c322 c323 c324 c325 c326 c327 c328 c329 c330 c331 c332 c333 c334 c335 c336 c337 c338 c339 c340 c341 c342 c343 c344 c345 c346 c347 c348 a' w'' → K a' w'') :
    Code.wp Tryd.prog auBlk (Exit.then K Q') ⟨#[D, .slice (some ⟨g, 0, none⟩) (n + 2) cap, c2, c3, v4, ev, c6, .int .i64 ((k : Int) + 1), c8, c9, c10, .int .u8 c, v12, v13, v14, v15, v16, c17, c18, c19, c20, c21, c22, c23, c24, c25, c26, c27, c28, c29, c30, c31, c32, c33, c34, c35, c36, c37, c38, c39, c40, c41, c42, c43, c44, c45, c46, c47, c48, c49, c50, c51, c52, c53, c54, c55, c56, c57, c58, c59, c60, c61, c62, c63, c64, c65, c66, c67, c68, c69, c70, c71, c72, c73, c74, c75, c76, c77, c78, c79, c80, c81, c82, c83, c84, c85, c86, c87, c88, c89, c90, c91, c92, c93, c94, c95, c96, c97, c98, c99, c100, c101, c102, c103, c104, c105, c106, c107, c108, c109, c110, c111, c112, c113, c114, c115, c116, c117, c118, c119, c120, c121, c122, c123, c124, c125, c126, c127, c128, c129, c130, c131, .int .u8 c, v133, v134, v135, v136, v137, v138, v139, v140, v141, v142, v143, v144, v145, v146, v147, v148, v149, v150, v151, v152, v153, v154, v155, v156, v157, v158, v159, v160, v161, v162, v163, v164, v165, v166, v167, v168, v169, v170, v171, v172, v173, v174, v175, v176, v177, v178, v179, v180, v181, v182, v183, v184, v185, v186, v187, v188, v189, v190, v191, v192, v193, v194, v195, v196, v197, v198, v199, v200, v201, v202, v203, v204, v205, v206, v207, v208, v209, v210, v211, v212, v213, v214, v215, v216, v217, v218, v219, v220, v221, v222, v223, v224, v225, v226, v227, v228, v229, v230, v231, v232, v233, v234, v235, v236, v237, v238, v239, v240, v241, v242, v243, v244, v245, v246, v247, v248, v249, v250, v251, v252, v253, v254, v255, v256, v257, v258, v259, v260, v261, v262, v263, v264, v265, v266, v267, v268, v269, v270, v271, v272, v273, v274, v275, v276, v277, v278, v279, v280, v281, v282, v283, v284, v285, v286, v287, v288, v289, v290, v291, v292, v293, v294, v295, v296, v297, v298, v299, v300, v301, v302, c303, c304, c305, c306, c307, c308, c309, c310, c311, c312, c313, c314, c315, c316, c317, c318, c319, c320, c321, c322, c323, c324, c325, c326, c327, c328, c329, c330, c331, c332, c333, c334, c335, c336, c337, c338, c339, c340, c341, c342, c343, c344, c345, c346, c347, c348], []⟩ wr := by
  have hokc := hok.out
  unfold okPc at hokc
  rw [if_pos h92.out, decide_eq_true_iff] at hokc
  have hcq := hc.out
  rcases hokc.2 with q | q | q | q | q | q | q | q | ⟨q, hu⟩
  · obtain rfl : c = 34 := by omega
    exact auL34 w base G g cap n k m l out1 D ev bad wr hn hk hcp hnb hlb hol hbase hG hB hF hM hev hok hwl h92 HNX q hK
  · obtain rfl : c = 92 := by omega
    exact auL92 w base G g cap n k m l out1 D ev bad wr hn hk hcp hnb hlb hol hbase hG hB hF hM hev hok hwl h92 HNX q hK
  · obtain rfl : c = 47 := by omega
    exact auL47 w base G g cap n k m l out1 D ev bad wr hn hk hcp hnb hlb hol hbase hG hB hF hM hev hok hwl h92 HNX q hK
  · obtain rfl : c = 98 := by omega
    exact auL98 w base G g cap n k m l out1 D ev bad wr hn hk hcp hnb hlb hol hbase hG hB hF hM hev hok hwl h92 HNX q hK
  · obtain rfl : c = 102 := by omega
    exact auL102 w base G g cap n k m l out1 D ev bad wr hn hk hcp hnb hlb hol hbase hG hB hF hM hev hok hwl h92 HNX q hK
  · obtain rfl : c = 110 := by omega
    exact auL110 w base G g cap n k m l out1 D ev bad wr hn hk hcp hnb hlb hol hbase hG hB hF hM hev hok hwl h92 HNX q hK
  · obtain rfl : c = 114 := by omega
    exact auL114 w base G g cap n k m l out1 D ev bad wr hn hk hcp hnb hlb hol hbase hG hB hF hM hev hok hwl h92 HNX q hK
  · obtain rfl : c = 116 := by omega
    exact auL116 w base G g cap n k m l out1 D ev bad wr hn hk hcp hnb hlb hol hbase hG hB hF hM hev hok hwl h92 HNX q hK
  · obtain rfl : c = 117 := by omega
    by_cases hh : halfU (uV (m.drop k))
    · by_cases hp : pairOk (uV (m.drop k)) (uV (m.drop (k + 6)))
      · exact auUp w base G g cap n k m l out1 D ev bad wr hn hk hcp hnb hlb hol hbase hG hB hF hM hev hok hwl h92 HNX q hu hh hp hK
      · by_cases hs : n < k + 11
        · exact auBs w base G g cap n k m l out1 D ev bad wr hn hk hcp hnb hlb hol hbase hG hB hF hM hev hok hwl h92 HNX q hu hh hp hs hK
        · by_cases h2 : 0 ≤ uV (m.drop (k + 6))
          · exact auBp w base G g cap n k m l out1 D ev bad wr hn hk hcp hnb hlb hol hbase hG hB hF hM hev hok hwl h92 HNX q hu hh hp hs h2 hK
          · exact auBx w base G g cap n k m l out1 D ev bad wr hn hk hcp hnb hlb hol hbase hG hB hF hM hev hok hwl h92 HNX q hu hh hp hs (by omega) hK
    · exact auUn w base G g cap n k m l out1 D ev bad wr hn hk hcp hnb hlb hol hbase hG hB hF hM hev hok hwl h92 HNX q hu hh hK
end
end Go.Proofs.YtldcoaigecnpfaaDoor
