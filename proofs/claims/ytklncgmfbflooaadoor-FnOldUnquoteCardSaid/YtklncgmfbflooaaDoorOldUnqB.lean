/- The switch of jsonscan.unquoteBytes' second loop, each arm a declaration of its own. -/
import Derived.Test.YtklncgmfbflooaaDoorGetu4
import Derived.Test.YtklncgmfbflooaaDoorDecode
import Derived.Test.YtklncgmfbflooaaDoorDec
import Derived.Test.YtklncgmfbflooaaDoorClose
namespace Go.Proofs.YtklncgmfbflooaaDoor
open Go.RowKit
/-- getu4 at whatever place. -/
theorem getu4_at (l : List UInt8) (g o cap : Nat) (w : World) (hb : BytesAt w g o l) (hc : l.length ≤ cap) (hm : l.length ≤ 140737488355328) :
    Calls Tryd.prog 84 #[.slice (some ⟨g, o, none⟩) l.length cap] w fun e w' => e = .returned (.int .i32 (uV l)) ∧ w' = w := by
  by_cases h : 6 ≤ l.length
  · exact getu4_long l g o cap w hb h hc hm
  · have e : uV l = -1 := by unfold uV; rw [if_neg (fun q => h q.1)]
    rw [e]
    exact getu4_short _ _ _ w (by omega)
/-- What DecodeRune tells at the head of a list. -/
theorem dec_head2 (l : List UInt8) (hl : 0 < l.length) : (rlL l = 0 → decN l = (65533, 1)) ∧ (¬ rlL l = 0 → decN l = ((decN l).1, decW l) ∧ ¬ ((decN l).1 = 65533 ∧ decW l = 1)) := by
  have h := dec_rl l.length (natL l 0) (natL l 1) (natL l 2) (natL l 3) hl (natL_lt _ _) (natL_lt _ _) (natL_lt _ _) (natL_lt _ _)
  have e : rl l.length (natL l 0) (natL l 1) (natL l 2) (natL l 3) = rlL l := rfl
  rw [e] at h
  have hw := decN_two l hl
  have hd : decN l = Go.Lib.decodeN l.length (natL l 0) (natL l 1) (natL l 2) (natL l 3) := rfl
  rw [← hd] at h
  refine ⟨h.1, fun q => ⟨by rw [← hw], ?_⟩⟩
  rintro ⟨a, b⟩
  obtain ⟨h1, h2, h3, h4, _⟩ := h.2 q
  have := h4.1 a
  have h5 := h2 (by omega)
  have hr := rlL_range l hl
  rw [← hw] at b
  omega
theorem u8_below {a b n : Nat} {w w' : World} (h : Lib.Utf8Tabs a b w) (hb : Below n w w') (ha : a < n) (hb' : b < n) : Lib.Utf8Tabs a b w' :=
  ⟨fun c hc => (hb.cell (p := ⟨a, c, none⟩) ha).trans (h.1 c hc), fun i hi => ⟨(hb.cell (p := ⟨b, 2 * i, none⟩) hb').trans (h.2 i hi).1, (hb.cell (p := ⟨b, 2 * i + 1, none⟩) hb').trans (h.2 i hi).2⟩⟩
/-- The block of a number in a function's code. -/
def ouAt (n : Nat) : Code → Option Code
  | .block k c => if k = n then some (.block k c) else ouAt n c
  | .seq a b => match ouAt n a with
    | some c => some c
    | none => ouAt n b
  | .loop c => ouAt n c
  | .scope c => ouAt n c
  | .cond _ a b => match ouAt n a with
    | some c => some c
    | none => ouAt n b
  | _ => none
noncomputable def ouBlk : Code := ((Tryd.f69.body.bind (ouAt 4)).getD .skip)
set_option maxRecDepth 1000000 in
/-- What stands behind the block. -/
def ouWE (w : World) (gb L n k0 : Nat) (m : List UInt8) (c0 c1 c2 c3 c5 c6 c7 c8 c10 c11 c17 c18 c19 c20 c21 c22 c23 c24 c25 c26 c27 c28 c29 c30 c31 c32 c33 c34 c35 c36 c37 c38 c39 c40 c41 c42 c43 c44 c45 c46 c47 c48 c49 c50 c51 c52 c53 c54 c55 c56 c57 c58 c59 c60 c61 c62 c63 c64 c65 c66 c67 c68 c69 c70 c71 c72 c73 c74 c75 c76 c77 c78 c79 c80 c81 c82 c83 c84 c85 c86 c87 c88 c89 c90 c91 c92 c93 c94 c95 c96 c97 c98 c99 c100 c101 c102 c103 c104 c105 c106 c107 c108 c109 c110 c111 c258 c259 c260 : Value) (a : Act) (w' : World) : Prop := ∃ u4 u9 u12 u13 u14 u15 u16 u112 u113 u114 u115 u116 u117 u118 u119 u120 u121 u122 u123 u124 u125 u126 u127 u128 u129 u130 u131 u132 u133 u134 u135 u136 u137 u138 u139 u140 u141 u142 u143 u144 u145 u146 u147 u148 u149 u150 u151 u152 u153 u154 u155 u156 u157 u158 u159 u160 u161 u162 u163 u164 u165 u166 u167 u168 u169 u170 u171 u172 u173 u174 u175 u176 u177 u178 u179 u180 u181 u182 u183 u184 u185 u186 u187 u188 u189 u190 u191 u192 u193 u194 u195 u196 u197 u198 u199 u200 u201 u202 u203 u204 u205 u206 u207 u208 u209 u210 u211 u212 u213 u214 u215 u216 u217 u218 u219 u220 u221 u222 u223 u224 u225 u226 u227 u228 u229 u230 u231 u232 u233 u234 u235 u236 u237 u238 u239 u240 u241 u242 u243 u244 u245 u246 u247 u248 u249 u250 u251 u252 u253 u254 u255 u256 u257 : Value, (∃ (k : Nat) (out : List UInt8), k ≤ n ∧ k0 < k ∧ u4 = .int .i64 k ∧ u9 = .int .i64 out.length ∧ Hid (PBuf w' gb L out) ∧ Below w.heap.size w w' ∧ Hid (DInv m k out)) ∧ a = ⟨#[c0, c1, c2, c3, u4, c5, c6, c7, c8, u9, c10, c11, u12, u13, u14, u15, u16, c17, c18, c19, c20, c21, c22, c23, c24, c25, c26, c27, c28, c29, c30, c31, c32, c33, c34, c35, c36, c37, c38, c39, c40, c41, c42, c43, c44, c45, c46, c47, c48, c49, c50, c51, c52, c53, c54, c55, c56, c57, c58, c59, c60, c61, c62, c63, c64, c65, c66, c67, c68, c69, c70, c71, c72, c73, c74, c75, c76, c77, c78, c79, c80, c81, c82, c83, c84, c85, c86, c87, c88, c89, c90, c91, c92, c93, c94, c95, c96, c97, c98, c99, c100, c101, c102, c103, c104, c105, c106, c107, c108, c109, c110, c111, u112, u113, u114, u115, u116, u117, u118, u119, u120, u121, u122, u123, u124, u125, u126, u127, u128, u129, u130, u131, u132, u133, u134, u135, u136, u137, u138, u139, u140, u141, u142, u143, u144, u145, u146, u147, u148, u149, u150, u151, u152, u153, u154, u155, u156, u157, u158, u159, u160, u161, u162, u163, u164, u165, u166, u167, u168, u169, u170, u171, u172, u173, u174, u175, u176, u177, u178, u179, u180, u181, u182, u183, u184, u185, u186, u187, u188, u189, u190, u191, u192, u193, u194, u195, u196, u197, u198, u199, u200, u201, u202, u203, u204, u205, u206, u207, u208, u209, u210, u211, u212, u213, u214, u215, u216, u217, u218, u219, u220, u221, u222, u223, u224, u225, u226, u227, u228, u229, u230, u231, u232, u233, u234, u235, u236, u237, u238, u239, u240, u241, u242, u243, u244, u245, u246, u247, u248, u249, u250, u251, u252, u253, u254, u255, u256, u257, c258, c259, c260], []⟩
set_option maxRecDepth 1000000 in
set_option maxHeartbeats 8000000 in
theorem ouL34 {c1 c2 c3 c5 c6 c7 c10 v12 v13 v14 v15 v16 c17 c18 c19 c20 c21 c22 c23 c24 c25 c26 c27 c28 c29 c30 c31 c32 c33 c34 c35 c36 c37 c38 c39 c40 c41 c42 c43 c44 c45 c46 c47 c48 c49 c50 c51 c52 c53 c54 c55 c56 c57 c58 c59 c60 c61 c62 c63 c64 c65 c66 c67 c68 c69 c70 c71 c72 c73 c74 c75 c76 c77 c78 c79 c80 c81 c82 c83 c84 c85 c86 c87 c88 c89 c90 c91 c92 c93 c94 c95 c96 c97 c98 c99 c100 c101 c102 c103 c104 c105 c106 c107 c108 c109 c110 c111 v112 v113 v114 v115 v116 v117 v118 v119 v120 v121 v122 v123 v124 v125 v126 v127 v128 v129 v130 v131 v132 v133 v134 v135 v136 v137 v138 v139 v140 v141 v142 v143 v144 v145 v146 v147 v148 v149 v150 v151 v152 v153 v154 v155 v156 v157 v158 v159 v160 v161 v162 v163 v164 v165 v166 v167 v168 v169 v170 v171 v172 v173 v174 v175 v176 v177 v178 v179 v180 v181 v182 v183 v184 v185 v186 v187 v188 v189 v190 v191 v192 v193 v194 v195 v196 v197 v198 v199 v200 v201 v202 v203 v204 v205 v206 v207 v208 v209 v210 v211 v212 v213 v214 v215 v216 v217 v218 v219 v220 v221 v222 v223 v224 v225 v226 v227 v228 v229 v230 v231 v232 v233 v234 v235 v236 v237 v238 v239 v240 v241 v242 v243 v244 v245 v246 v247 v248 v249 v250 v251 v252 v253 v254 v255 v256 v257 c258 c259 c260 : Value} {K : Act → World → Prop} {Q' : Exit → Act → World → Prop} (w : World) (g cp gb L n k : Nat) (m out : List UInt8) (wr : World) (hn : Hid (n = m.length)) (hk : k < n) (hcp : n + 1 ≤ cp) (hnn : n ≤ 1000000) (hgb : w.heap.size ≤ gb) (hLo : out.length + 8 ≤ L) (hLn : L ≤ 8 * n + 24) (hP : Hid (PBuf wr gb L out)) (hbel : Below w.heap.size w wr) (hI : Hid (DInv m k out)) (hqb : Hid (BytesAt wr g (1 + k) (m.drop k))) (hc : Hid ((92 : Nat) = natL (m.drop k) 0)) (hq : natL (m.drop k) 1 = 34)
    (hK : ∀ a' w'', ouWE w gb L n k m (.slice (some ⟨g, 1, none⟩) n cp) c1 c2 c3 c5 c6 c7 (.slice (some ⟨gb, 0, none⟩) L L) c10 (.int .u8 92) c17 c18 c19 c20 c21 c22 c23 c24 c25 c26 c27 c28 c29 c30 c31 c32 c33 c34 c35 c36 c37 c38 c39 c40 c41 c42 c43 c44 c45 c46 c47 c48 c49 c50 c51 c52 c53 c54 c55 c56 c57 c58 c59 c60 c61 c62 c63 c64 c65 c66 c67 c68 c69 c70 c71 c72 c73 c74 c75 c76 c77 c78 c79 c80 c81 c82 c83 c84 c85 c86 c87 c88 c89 c90 c91 c92 c93 c94 c95 c96 c97 c98 c99 c100 c101 c102 c103 c104 c105 c106 c107 c108 c109 c110 c111 c258 c259 c260 a' w'' → K a' w'') :
    Code.wp Tryd.prog ouBlk (Exit.then K Q') ⟨#[.slice (some ⟨g, 1, none⟩) n cp, c1, c2, c3, .int .i64 k, c5, c6, c7, .slice (some ⟨gb, 0, none⟩) L L, .int .i64 out.length, c10, .int .u8 92, v12, v13, v14, v15, v16, c17, c18, c19, c20, c21, c22, c23, c24, c25, c26, c27, c28, c29, c30, c31, c32, c33, c34, c35, c36, c37, c38, c39, c40, c41, c42, c43, c44, c45, c46, c47, c48, c49, c50, c51, c52, c53, c54, c55, c56, c57, c58, c59, c60, c61, c62, c63, c64, c65, c66, c67, c68, c69, c70, c71, c72, c73, c74, c75, c76, c77, c78, c79, c80, c81, c82, c83, c84, c85, c86, c87, c88, c89, c90, c91, c92, c93, c94, c95, c96, c97, c98, c99, c100, c101, c102, c103, c104, c105, c106, c107, c108, c109, c110, c111, v112, v113, v114, v115, v116, v117, v118, v119, v120, v121, v122, v123, v124, v125, v126, v127, v128, v129, v130, v131, v132, v133, v134, v135, v136, v137, v138, v139, v140, v141, v142, v143, v144, v145, v146, v147, v148, v149, v150, v151, v152, v153, v154, v155, v156, v157, v158, v159, v160, v161, v162, v163, v164, v165, v166, v167, v168, v169, v170, v171, v172, v173, v174, v175, v176, v177, v178, v179, v180, v181, v182, v183, v184, v185, v186, v187, v188, v189, v190, v191, v192, v193, v194, v195, v196, v197, v198, v199, v200, v201, v202, v203, v204, v205, v206, v207, v208, v209, v210, v211, v212, v213, v214, v215, v216, v217, v218, v219, v220, v221, v222, v223, v224, v225, v226, v227, v228, v229, v230, v231, v232, v233, v234, v235, v236, v237, v238, v239, v240, v241, v242, v243, v244, v245, v246, v247, v248, v249, v250, v251, v252, v253, v254, v255, v256, v257, c258, c259, c260], []⟩ wr := by
  conv => arg 2; whnf
  have hkm : Hid (k < m.length) := by have := hn.out; show _ < _; omega
  have hpos := UInv.pos hkm.out
  have hdl : (m.drop k).length = n - k := by rw [List.length_drop, ← hn.out]
  have hokc := hI.out.okc hkm.out
  have hwl := hI.out.wle hkm.out
  have hnx := hI.out.next hkm.out
  rw [← hn.out] at hwl
  obtain ⟨v0, hv0⟩ := Option.isSome_iff_exists.1 (hP.out.some out.length (by omega))
  have hf0 := hP.out.fz out.length
  have hlo : out.length < L := by omega
  have hnl : ¬ L = out.length := by omega
  have h92' : natL (m.drop k) 0 = 92 := hc.out.symm
  have eC0 : dcC (m.drop k) = escC (m.drop k) := by unfold dcC; rw [if_pos h92']
  have eW0 : dcW (m.drop k) = escW (m.drop k) := by unfold dcW; rw [if_pos h92']
  rw [eC0, eW0] at hnx
  rw [eW0] at hwl
  unfold okPc at hokc
  rw [if_pos h92', decide_eq_true_iff, hdl] at hokc
  have h2 := hokc.1
  have ck1 := hqb.out 1 (by rw [hdl]; omega)
  rw [natL_at, show 1 + k + 1 = 1 + (k + 1) by omega] at ck1
  have HEC : escC (m.drop k) = if natL (m.drop k) 1 = 98 then [8] else if natL (m.drop k) 1 = 102 then [12] else if natL (m.drop k) 1 = 110 then [10] else if natL (m.drop k) 1 = 114 then [13] else if natL (m.drop k) 1 = 116 then [9] else if natL (m.drop k) 1 = 117 then uniC (m.drop k) else [(m.drop k).getD 1 0] := rfl
  have HEW : escW (m.drop k) = if natL (m.drop k) 1 = 117 then uniW (m.drop k) else 2 := rfl
  have hk1 : k + 1 < n := by omega
  rw [hq] at HEC HEW ck1
  have eW : escW (m.drop k) = 2 := by rw [HEW]; rfl
  have eC : escC (m.drop k) = [(m.drop k).getD 1 0] := by rw [HEC]; rfl
  rw [eC, eW] at hnx
  have ck0 := hqb.out 0 hpos
  rw [Nat.add_zero, natL_at, h92'] at ck0
  have ckk : wr.cell? ⟨g, 1 + k, none⟩ = some (.int .u8 92) := ck0
  have ck2 : wr.cell? ⟨g, 1 + (k + 1), none⟩ = some (.int .u8 34) := ck1
  have hx : (((m.drop k).getD 1 0).toNat : Int) = 34 := by have : natL (m.drop k) 1 = 34 := hq; unfold natL at this; omega
  have hp := hP.out.put ((m.drop k).getD 1 0) (by omega)
  rw [hx] at hp
  generalize (m.drop k).getD 1 0 = x at *
  have HP2 := Lib.hid hp
  have HB2 := Lib.hid (Below.setCell (p := ⟨gb, out.length, none⟩) hbel hgb (.int .u8 34))
  have HN := Lib.hid hnx
  clear hp hnx eC eW eC0 eW0 HEC HEW hq ck1 ck0 hqb hP hI hpos h92' hc hokc hdl hkm hbel
  go_wp2
  refine ⟨_, _, _, _, _, _, _, _, _, _, _, _, _, _, _, _, _, _, _, _, _, _, _, _, _, _, _, _, _, _, _, _, _, _, _, _, _, _, _, _, _, _, _, _, _, _, _, _, _, _, _, _, _, _, _, _, _, _, _, _, _, _, _, _, _, _, _, _, _, _, _, _, _, _, _, _, _, _, _, _, _, _, _, _, _, _, _, _, _, _, _, _, _, _, _, _, _, _, _, _, _, _, _, _, _, _, _, _, _, _, _, _, _, _, _, _, _, _, _, _, _, _, _, _, _, _, _, _, _, _, _, _, _, _, _, _, _, _, _, _, _, _, _, _, _, _, _, _, _, _, _, _, _, ⟨k + 2, out ++ [x], by omega, by omega, by go_num, by simp, HP2, HB2.out, HN⟩, rfl⟩
set_option maxRecDepth 1000000 in
set_option maxHeartbeats 8000000 in
theorem ouL92 {c1 c2 c3 c5 c6 c7 c10 v12 v13 v14 v15 v16 c17 c18 c19 c20 c21 c22 c23 c24 c25 c26 c27 c28 c29 c30 c31 c32 c33 c34 c35 c36 c37 c38 c39 c40 c41 c42 c43 c44 c45 c46 c47 c48 c49 c50 c51 c52 c53 c54 c55 c56 c57 c58 c59 c60 c61 c62 c63 c64 c65 c66 c67 c68 c69 c70 c71 c72 c73 c74 c75 c76 c77 c78 c79 c80 c81 c82 c83 c84 c85 c86 c87 c88 c89 c90 c91 c92 c93 c94 c95 c96 c97 c98 c99 c100 c101 c102 c103 c104 c105 c106 c107 c108 c109 c110 c111 v112 v113 v114 v115 v116 v117 v118 v119 v120 v121 v122 v123 v124 v125 v126 v127 v128 v129 v130 v131 v132 v133 v134 v135 v136 v137 v138 v139 v140 v141 v142 v143 v144 v145 v146 v147 v148 v149 v150 v151 v152 v153 v154 v155 v156 v157 v158 v159 v160 v161 v162 v163 v164 v165 v166 v167 v168 v169 v170 v171 v172 v173 v174 v175 v176 v177 v178 v179 v180 v181 v182 v183 v184 v185 v186 v187 v188 v189 v190 v191 v192 v193 v194 v195 v196 v197 v198 v199 v200 v201 v202 v203 v204 v205 v206 v207 v208 v209 v210 v211 v212 v213 v214 v215 v216 v217 v218 v219 v220 v221 v222 v223 v224 v225 v226 v227 v228 v229 v230 v231 v232 v233 v234 v235 v236 v237 v238 v239 v240 v241 v242 v243 v244 v245 v246 v247 v248 v249 v250 v251 v252 v253 v254 v255 v256 v257 c258 c259 c260 : Value} {K : Act → World → Prop} {Q' : Exit → Act → World → Prop} (w : World) (g cp gb L n k : Nat) (m out : List UInt8) (wr : World) (hn : Hid (n = m.length)) (hk : k < n) (hcp : n + 1 ≤ cp) (hnn : n ≤ 1000000) (hgb : w.heap.size ≤ gb) (hLo : out.length + 8 ≤ L) (hLn : L ≤ 8 * n + 24) (hP : Hid (PBuf wr gb L out)) (hbel : Below w.heap.size w wr) (hI : Hid (DInv m k out)) (hqb : Hid (BytesAt wr g (1 + k) (m.drop k))) (hc : Hid ((92 : Nat) = natL (m.drop k) 0)) (hq : natL (m.drop k) 1 = 92)
    (hK : ∀ a' w'', ouWE w gb L n k m (.slice (some ⟨g, 1, none⟩) n cp) c1 c2 c3 c5 c6 c7 (.slice (some ⟨gb, 0, none⟩) L L) c10 (.int .u8 92) c17 c18 c19 c20 c21 c22 c23 c24 c25 c26 c27 c28 c29 c30 c31 c32 c33 c34 c35 c36 c37 c38 c39 c40 c41 c42 c43 c44 c45 c46 c47 c48 c49 c50 c51 c52 c53 c54 c55 c56 c57 c58 c59 c60 c61 c62 c63 c64 c65 c66 c67 c68 c69 c70 c71 c72 c73 c74 c75 c76 c77 c78 c79 c80 c81 c82 c83 c84 c85 c86 c87 c88 c89 c90 c91 c92 c93 c94 c95 c96 c97 c98 c99 c100 c101 c102 c103 c104 c105 c106 c107 c108 c109 c110 c111 c258 c259 c260 a' w'' → K a' w'') :
    Code.wp Tryd.prog ouBlk (Exit.then K Q') ⟨#[.slice (some ⟨g, 1, none⟩) n cp, c1, c2, c3, .int .i64 k, c5, c6, c7, .slice (some ⟨gb, 0, none⟩) L L, .int .i64 out.length, c10, .int .u8 92, v12, v13, v14, v15, v16, c17, c18, c19, c20, c21, c22, c23, c24, c25, c26, c27, c28, c29, c30, c31, c32, c33, c34, c35, c36, c37, c38, c39, c40, c41, c42, c43, c44, c45, c46, c47, c48, c49, c50, c51, c52, c53, c54, c55, c56, c57, c58, c59, c60, c61, c62, c63, c64, c65, c66, c67, c68, c69, c70, c71, c72, c73, c74, c75, c76, c77, c78, c79, c80, c81, c82, c83, c84, c85, c86, c87, c88, c89, c90, c91, c92, c93, c94, c95, c96, c97, c98, c99, c100, c101, c102, c103, c104, c105, c106, c107, c108, c109, c110, c111, v112, v113, v114, v115, v116, v117, v118, v119, v120, v121, v122, v123, v124, v125, v126, v127, v128, v129, v130, v131, v132, v133, v134, v135, v136, v137, v138, v139, v140, v141, v142, v143, v144, v145, v146, v147, v148, v149, v150, v151, v152, v153, v154, v155, v156, v157, v158, v159, v160, v161, v162, v163, v164, v165, v166, v167, v168, v169, v170, v171, v172, v173, v174, v175, v176, v177, v178, v179, v180, v181, v182, v183, v184, v185, v186, v187, v188, v189, v190, v191, v192, v193, v194, v195, v196, v197, v198, v199, v200, v201, v202, v203, v204, v205, v206, v207, v208, v209, v210, v211, v212, v213, v214, v215, v216, v217, v218, v219, v220, v221, v222, v223, v224, v225, v226, v227, v228, v229, v230, v231, v232, v233, v234, v235, v236, v237, v238, v239, v240, v241, v242, v243, v244, v245, v246, v247, v248, v249, v250, v251, v252, v253, v254, v255, v256, v257, c258, c259, c260], []⟩ wr := by
  conv => arg 2; whnf
  have hkm : Hid (k < m.length) := by have := hn.out; show _ < _; omega
  have hpos := UInv.pos hkm.out
  have hdl : (m.drop k).length = n - k := by rw [List.length_drop, ← hn.out]
  have hokc := hI.out.okc hkm.out
  have hwl := hI.out.wle hkm.out
  have hnx := hI.out.next hkm.out
  rw [← hn.out] at hwl
  obtain ⟨v0, hv0⟩ := Option.isSome_iff_exists.1 (hP.out.some out.length (by omega))
  have hf0 := hP.out.fz out.length
  have hlo : out.length < L := by omega
  have hnl : ¬ L = out.length := by omega
  have h92' : natL (m.drop k) 0 = 92 := hc.out.symm
  have eC0 : dcC (m.drop k) = escC (m.drop k) := by unfold dcC; rw [if_pos h92']
  have eW0 : dcW (m.drop k) = escW (m.drop k) := by unfold dcW; rw [if_pos h92']
  rw [eC0, eW0] at hnx
  rw [eW0] at hwl
  unfold okPc at hokc
  rw [if_pos h92', decide_eq_true_iff, hdl] at hokc
  have h2 := hokc.1
  have ck1 := hqb.out 1 (by rw [hdl]; omega)
  rw [natL_at, show 1 + k + 1 = 1 + (k + 1) by omega] at ck1
  have HEC : escC (m.drop k) = if natL (m.drop k) 1 = 98 then [8] else if natL (m.drop k) 1 = 102 then [12] else if natL (m.drop k) 1 = 110 then [10] else if natL (m.drop k) 1 = 114 then [13] else if natL (m.drop k) 1 = 116 then [9] else if natL (m.drop k) 1 = 117 then uniC (m.drop k) else [(m.drop k).getD 1 0] := rfl
  have HEW : escW (m.drop k) = if natL (m.drop k) 1 = 117 then uniW (m.drop k) else 2 := rfl
  have hk1 : k + 1 < n := by omega
  rw [hq] at HEC HEW ck1
  have eW : escW (m.drop k) = 2 := by rw [HEW]; rfl
  have eC : escC (m.drop k) = [(m.drop k).getD 1 0] := by rw [HEC]; rfl
  rw [eC, eW] at hnx
  have ck0 := hqb.out 0 hpos
  rw [Nat.add_zero, natL_at, h92'] at ck0
  have ckk : wr.cell? ⟨g, 1 + k, none⟩ = some (.int .u8 92) := ck0
  have ck2 : wr.cell? ⟨g, 1 + (k + 1), none⟩ = some (.int .u8 92) := ck1
  have hx : (((m.drop k).getD 1 0).toNat : Int) = 92 := by have : natL (m.drop k) 1 = 92 := hq; unfold natL at this; omega
  have hp := hP.out.put ((m.drop k).getD 1 0) (by omega)
  rw [hx] at hp
  generalize (m.drop k).getD 1 0 = x at *
  have HP2 := Lib.hid hp
  have HB2 := Lib.hid (Below.setCell (p := ⟨gb, out.length, none⟩) hbel hgb (.int .u8 92))
  have HN := Lib.hid hnx
  clear hp hnx eC eW eC0 eW0 HEC HEW hq ck1 ck0 hqb hP hI hpos h92' hc hokc hdl hkm hbel
  go_wp2
  refine ⟨_, _, _, _, _, _, _, _, _, _, _, _, _, _, _, _, _, _, _, _, _, _, _, _, _, _, _, _, _, _, _, _, _, _, _, _, _, _, _, _, _, _, _, _, _, _, _, _, _, _, _, _, _, _, _, _, _, _, _, _, _, _, _, _, _, _, _, _, _, _, _, _, _, _, _, _, _, _, _, _, _, _, _, _, _, _, _, _, _, _, _, _, _, _, _, _, _, _, _, _, _, _, _, _, _, _, _, _, _, _, _, _, _, _, _, _, _, _, _, _, _, _, _, _, _, _, _, _, _, _, _, _, _, _, _, _, _, _, _, _, _, _, _, _, _, _, _, _, _, _, _, _, _, ⟨k + 2, out ++ [x], by omega, by omega, by go_num, by simp, HP2, HB2.out, HN⟩, rfl⟩
set_option maxRecDepth 1000000 in
set_option maxHeartbeats 8000000 in
theorem ouL47 {c1 c2 c3 c5 c6 c7 c10 v12 v13 v14 v15 v16 c17 c18 c19 c20 c21 c22 c23 c24 c25 c26 c27 c28 c29 c30 c31 c32 c33 c34 c35 c36 c37 c38 c39 c40 c41 c42 c43 c44 c45 c46 c47 c48 c49 c50 c51 c52 c53 c54 c55 c56 c57 c58 c59 c60 c61 c62 c63 c64 c65 c66 c67 c68 c69 c70 c71 c72 c73 c74 c75 c76 c77 c78 c79 c80 c81 c82 c83 c84 c85 c86 c87 c88 c89 c90 c91 c92 c93 c94 c95 c96 c97 c98 c99 c100 c101 c102 c103 c104 c105 c106 c107 c108 c109 c110 c111 v112 v113 v114 v115 v116 v117 v118 v119 v120 v121 v122 v123 v124 v125 v126 v127 v128 v129 v130 v131 v132 v133 v134 v135 v136 v137 v138 v139 v140 v141 v142 v143 v144 v145 v146 v147 v148 v149 v150 v151 v152 v153 v154 v155 v156 v157 v158 v159 v160 v161 v162 v163 v164 v165 v166 v167 v168 v169 v170 v171 v172 v173 v174 v175 v176 v177 v178 v179 v180 v181 v182 v183 v184 v185 v186 v187 v188 v189 v190 v191 v192 v193 v194 v195 v196 v197 v198 v199 v200 v201 v202 v203 v204 v205 v206 v207 v208 v209 v210 v211 v212 v213 v214 v215 v216 v217 v218 v219 v220 v221 v222 v223 v224 v225 v226 v227 v228 v229 v230 v231 v232 v233 v234 v235 v236 v237 v238 v239 v240 v241 v242 v243 v244 v245 v246 v247 v248 v249 v250 v251 v252 v253 v254 v255 v256 v257 c258 c259 c260 : Value} {K : Act → World → Prop} {Q' : Exit → Act → World → Prop} (w : World) (g cp gb L n k : Nat) (m out : List UInt8) (wr : World) (hn : Hid (n = m.length)) (hk : k < n) (hcp : n + 1 ≤ cp) (hnn : n ≤ 1000000) (hgb : w.heap.size ≤ gb) (hLo : out.length + 8 ≤ L) (hLn : L ≤ 8 * n + 24) (hP : Hid (PBuf wr gb L out)) (hbel : Below w.heap.size w wr) (hI : Hid (DInv m k out)) (hqb : Hid (BytesAt wr g (1 + k) (m.drop k))) (hc : Hid ((92 : Nat) = natL (m.drop k) 0)) (hq : natL (m.drop k) 1 = 47)
    (hK : ∀ a' w'', ouWE w gb L n k m (.slice (some ⟨g, 1, none⟩) n cp) c1 c2 c3 c5 c6 c7 (.slice (some ⟨gb, 0, none⟩) L L) c10 (.int .u8 92) c17 c18 c19 c20 c21 c22 c23 c24 c25 c26 c27 c28 c29 c30 c31 c32 c33 c34 c35 c36 c37 c38 c39 c40 c41 c42 c43 c44 c45 c46 c47 c48 c49 c50 c51 c52 c53 c54 c55 c56 c57 c58 c59 c60 c61 c62 c63 c64 c65 c66 c67 c68 c69 c70 c71 c72 c73 c74 c75 c76 c77 c78 c79 c80 c81 c82 c83 c84 c85 c86 c87 c88 c89 c90 c91 c92 c93 c94 c95 c96 c97 c98 c99 c100 c101 c102 c103 c104 c105 c106 c107 c108 c109 c110 c111 c258 c259 c260 a' w'' → K a' w'') :
    Code.wp Tryd.prog ouBlk (Exit.then K Q') ⟨#[.slice (some ⟨g, 1, none⟩) n cp, c1, c2, c3, .int .i64 k, c5, c6, c7, .slice (some ⟨gb, 0, none⟩) L L, .int .i64 out.length, c10, .int .u8 92, v12, v13, v14, v15, v16, c17, c18, c19, c20, c21, c22, c23, c24, c25, c26, c27, c28, c29, c30, c31, c32, c33, c34, c35, c36, c37, c38, c39, c40, c41, c42, c43, c44, c45, c46, c47, c48, c49, c50, c51, c52, c53, c54, c55, c56, c57, c58, c59, c60, c61, c62, c63, c64, c65, c66, c67, c68, c69, c70, c71, c72, c73, c74, c75, c76, c77, c78, c79, c80, c81, c82, c83, c84, c85, c86, c87, c88, c89, c90, c91, c92, c93, c94, c95, c96, c97, c98, c99, c100, c101, c102, c103, c104, c105, c106, c107, c108, c109, c110, c111, v112, v113, v114, v115, v116, v117, v118, v119, v120, v121, v122, v123, v124, v125, v126, v127, v128, v129, v130, v131, v132, v133, v134, v135, v136, v137, v138, v139, v140, v141, v142, v143, v144, v145, v146, v147, v148, v149, v150, v151, v152, v153, v154, v155, v156, v157, v158, v159, v160, v161, v162, v163, v164, v165, v166, v167, v168, v169, v170, v171, v172, v173, v174, v175, v176, v177, v178, v179, v180, v181, v182, v183, v184, v185, v186, v187, v188, v189, v190, v191, v192, v193, v194, v195, v196, v197, v198, v199, v200, v201, v202, v203, v204, v205, v206, v207, v208, v209, v210, v211, v212, v213, v214, v215, v216, v217, v218, v219, v220, v221, v222, v223, v224, v225, v226, v227, v228, v229, v230, v231, v232, v233, v234, v235, v236, v237, v238, v239, v240, v241, v242, v243, v244, v245, v246, v247, v248, v249, v250, v251, v252, v253, v254, v255, v256, v257, c258, c259, c260], []⟩ wr := by
  conv => arg 2; whnf
  have hkm : Hid (k < m.length) := by have := hn.out; show _ < _; omega
  have hpos := UInv.pos hkm.out
  have hdl : (m.drop k).length = n - k := by rw [List.length_drop, ← hn.out]
  have hokc := hI.out.okc hkm.out
  have hwl := hI.out.wle hkm.out
  have hnx := hI.out.next hkm.out
  rw [← hn.out] at hwl
  obtain ⟨v0, hv0⟩ := Option.isSome_iff_exists.1 (hP.out.some out.length (by omega))
  have hf0 := hP.out.fz out.length
  have hlo : out.length < L := by omega
  have hnl : ¬ L = out.length := by omega
  have h92' : natL (m.drop k) 0 = 92 := hc.out.symm
  have eC0 : dcC (m.drop k) = escC (m.drop k) := by unfold dcC; rw [if_pos h92']
  have eW0 : dcW (m.drop k) = escW (m.drop k) := by unfold dcW; rw [if_pos h92']
  rw [eC0, eW0] at hnx
  rw [eW0] at hwl
  unfold okPc at hokc
  rw [if_pos h92', decide_eq_true_iff, hdl] at hokc
  have h2 := hokc.1
  have ck1 := hqb.out 1 (by rw [hdl]; omega)
  rw [natL_at, show 1 + k + 1 = 1 + (k + 1) by omega] at ck1
  have HEC : escC (m.drop k) = if natL (m.drop k) 1 = 98 then [8] else if natL (m.drop k) 1 = 102 then [12] else if natL (m.drop k) 1 = 110 then [10] else if natL (m.drop k) 1 = 114 then [13] else if natL (m.drop k) 1 = 116 then [9] else if natL (m.drop k) 1 = 117 then uniC (m.drop k) else [(m.drop k).getD 1 0] := rfl
  have HEW : escW (m.drop k) = if natL (m.drop k) 1 = 117 then uniW (m.drop k) else 2 := rfl
  have hk1 : k + 1 < n := by omega
  rw [hq] at HEC HEW ck1
  have eW : escW (m.drop k) = 2 := by rw [HEW]; rfl
  have eC : escC (m.drop k) = [(m.drop k).getD 1 0] := by rw [HEC]; rfl
  rw [eC, eW] at hnx
  have ck0 := hqb.out 0 hpos
  rw [Nat.add_zero, natL_at, h92'] at ck0
  have ckk : wr.cell? ⟨g, 1 + k, none⟩ = some (.int .u8 92) := ck0
  have ck2 : wr.cell? ⟨g, 1 + (k + 1), none⟩ = some (.int .u8 47) := ck1
  have hx : (((m.drop k).getD 1 0).toNat : Int) = 47 := by have : natL (m.drop k) 1 = 47 := hq; unfold natL at this; omega
  have hp := hP.out.put ((m.drop k).getD 1 0) (by omega)
  rw [hx] at hp
  generalize (m.drop k).getD 1 0 = x at *
  have HP2 := Lib.hid hp
  have HB2 := Lib.hid (Below.setCell (p := ⟨gb, out.length, none⟩) hbel hgb (.int .u8 47))
  have HN := Lib.hid hnx
  clear hp hnx eC eW eC0 eW0 HEC HEW hq ck1 ck0 hqb hP hI hpos h92' hc hokc hdl hkm hbel
  go_wp2
  refine ⟨_, _, _, _, _, _, _, _, _, _, _, _, _, _, _, _, _, _, _, _, _, _, _, _, _, _, _, _, _, _, _, _, _, _, _, _, _, _, _, _, _, _, _, _, _, _, _, _, _, _, _, _, _, _, _, _, _, _, _, _, _, _, _, _, _, _, _, _, _, _, _, _, _, _, _, _, _, _, _, _, _, _, _, _, _, _, _, _, _, _, _, _, _, _, _, _, _, _, _, _, _, _, _, _, _, _, _, _, _, _, _, _, _, _, _, _, _, _, _, _, _, _, _, _, _, _, _, _, _, _, _, _, _, _, _, _, _, _, _, _, _, _, _, _, _, _, _, _, _, _, _, _, _, ⟨k + 2, out ++ [x], by omega, by omega, by go_num, by simp, HP2, HB2.out, HN⟩, rfl⟩
set_option maxRecDepth 1000000 in
set_option maxHeartbeats 8000000 in
theorem ouL98 {c1 c2 c3 c5 c6 c7 c10 v12 v13 v14 v15 v16 c17 c18 c19 c20 c21 c22 c23 c24 c25 c26 c27 c28 c29 c30 c31 c32 c33 c34 c35 c36 c37 c38 c39 c40 c41 c42 c43 c44 c45 c46 c47 c48 c49 c50 c51 c52 c53 c54 c55 c56 c57 c58 c59 c60 c61 c62 c63 c64 c65 c66 c67 c68 c69 c70 c71 c72 c73 c74 c75 c76 c77 c78 c79 c80 c81 c82 c83 c84 c85 c86 c87 c88 c89 c90 c91 c92 c93 c94 c95 c96 c97 c98 c99 c100 c101 c102 c103 c104 c105 c106 c107 c108 c109 c110 c111 v112 v113 v114 v115 v116 v117 v118 v119 v120 v121 v122 v123 v124 v125 v126 v127 v128 v129 v130 v131 v132 v133 v134 v135 v136 v137 v138 v139 v140 v141 v142 v143 v144 v145 v146 v147 v148 v149 v150 v151 v152 v153 v154 v155 v156 v157 v158 v159 v160 v161 v162 v163 v164 v165 v166 v167 v168 v169 v170 v171 v172 v173 v174 v175 v176 v177 v178 v179 v180 v181 v182 v183 v184 v185 v186 v187 v188 v189 v190 v191 v192 v193 v194 v195 v196 v197 v198 v199 v200 v201 v202 v203 v204 v205 v206 v207 v208 v209 v210 v211 v212 v213 v214 v215 v216 v217 v218 v219 v220 v221 v222 v223 v224 v225 v226 v227 v228 v229 v230 v231 v232 v233 v234 v235 v236 v237 v238 v239 v240 v241 v242 v243 v244 v245 v246 v247 v248 v249 v250 v251 v252 v253 v254 v255 v256 v257 c258 c259 c260 : Value} {K : Act → World → Prop} {Q' : Exit → Act → World → Prop} (w : World) (g cp gb L n k : Nat) (m out : List UInt8) (wr : World) (hn : Hid (n = m.length)) (hk : k < n) (hcp : n + 1 ≤ cp) (hnn : n ≤ 1000000) (hgb : w.heap.size ≤ gb) (hLo : out.length + 8 ≤ L) (hLn : L ≤ 8 * n + 24) (hP : Hid (PBuf wr gb L out)) (hbel : Below w.heap.size w wr) (hI : Hid (DInv m k out)) (hqb : Hid (BytesAt wr g (1 + k) (m.drop k))) (hc : Hid ((92 : Nat) = natL (m.drop k) 0)) (hq : natL (m.drop k) 1 = 98)
    (hK : ∀ a' w'', ouWE w gb L n k m (.slice (some ⟨g, 1, none⟩) n cp) c1 c2 c3 c5 c6 c7 (.slice (some ⟨gb, 0, none⟩) L L) c10 (.int .u8 92) c17 c18 c19 c20 c21 c22 c23 c24 c25 c26 c27 c28 c29 c30 c31 c32 c33 c34 c35 c36 c37 c38 c39 c40 c41 c42 c43 c44 c45 c46 c47 c48 c49 c50 c51 c52 c53 c54 c55 c56 c57 c58 c59 c60 c61 c62 c63 c64 c65 c66 c67 c68 c69 c70 c71 c72 c73 c74 c75 c76 c77 c78 c79 c80 c81 c82 c83 c84 c85 c86 c87 c88 c89 c90 c91 c92 c93 c94 c95 c96 c97 c98 c99 c100 c101 c102 c103 c104 c105 c106 c107 c108 c109 c110 c111 c258 c259 c260 a' w'' → K a' w'') :
    Code.wp Tryd.prog ouBlk (Exit.then K Q') ⟨#[.slice (some ⟨g, 1, none⟩) n cp, c1, c2, c3, .int .i64 k, c5, c6, c7, .slice (some ⟨gb, 0, none⟩) L L, .int .i64 out.length, c10, .int .u8 92, v12, v13, v14, v15, v16, c17, c18, c19, c20, c21, c22, c23, c24, c25, c26, c27, c28, c29, c30, c31, c32, c33, c34, c35, c36, c37, c38, c39, c40, c41, c42, c43, c44, c45, c46, c47, c48, c49, c50, c51, c52, c53, c54, c55, c56, c57, c58, c59, c60, c61, c62, c63, c64, c65, c66, c67, c68, c69, c70, c71, c72, c73, c74, c75, c76, c77, c78, c79, c80, c81, c82, c83, c84, c85, c86, c87, c88, c89, c90, c91, c92, c93, c94, c95, c96, c97, c98, c99, c100, c101, c102, c103, c104, c105, c106, c107, c108, c109, c110, c111, v112, v113, v114, v115, v116, v117, v118, v119, v120, v121, v122, v123, v124, v125, v126, v127, v128, v129, v130, v131, v132, v133, v134, v135, v136, v137, v138, v139, v140, v141, v142, v143, v144, v145, v146, v147, v148, v149, v150, v151, v152, v153, v154, v155, v156, v157, v158, v159, v160, v161, v162, v163, v164, v165, v166, v167, v168, v169, v170, v171, v172, v173, v174, v175, v176, v177, v178, v179, v180, v181, v182, v183, v184, v185, v186, v187, v188, v189, v190, v191, v192, v193, v194, v195, v196, v197, v198, v199, v200, v201, v202, v203, v204, v205, v206, v207, v208, v209, v210, v211, v212, v213, v214, v215, v216, v217, v218, v219, v220, v221, v222, v223, v224, v225, v226, v227, v228, v229, v230, v231, v232, v233, v234, v235, v236, v237, v238, v239, v240, v241, v242, v243, v244, v245, v246, v247, v248, v249, v250, v251, v252, v253, v254, v255, v256, v257, c258, c259, c260], []⟩ wr := by
  conv => arg 2; whnf
  have hkm : Hid (k < m.length) := by have := hn.out; show _ < _; omega
  have hpos := UInv.pos hkm.out
  have hdl : (m.drop k).length = n - k := by rw [List.length_drop, ← hn.out]
  have hokc := hI.out.okc hkm.out
  have hwl := hI.out.wle hkm.out
  have hnx := hI.out.next hkm.out
  rw [← hn.out] at hwl
  obtain ⟨v0, hv0⟩ := Option.isSome_iff_exists.1 (hP.out.some out.length (by omega))
  have hf0 := hP.out.fz out.length
  have hlo : out.length < L := by omega
  have hnl : ¬ L = out.length := by omega
  have h92' : natL (m.drop k) 0 = 92 := hc.out.symm
  have eC0 : dcC (m.drop k) = escC (m.drop k) := by unfold dcC; rw [if_pos h92']
  have eW0 : dcW (m.drop k) = escW (m.drop k) := by unfold dcW; rw [if_pos h92']
  rw [eC0, eW0] at hnx
  rw [eW0] at hwl
  unfold okPc at hokc
  rw [if_pos h92', decide_eq_true_iff, hdl] at hokc
  have h2 := hokc.1
  have ck1 := hqb.out 1 (by rw [hdl]; omega)
  rw [natL_at, show 1 + k + 1 = 1 + (k + 1) by omega] at ck1
  have HEC : escC (m.drop k) = if natL (m.drop k) 1 = 98 then [8] else if natL (m.drop k) 1 = 102 then [12] else if natL (m.drop k) 1 = 110 then [10] else if natL (m.drop k) 1 = 114 then [13] else if natL (m.drop k) 1 = 116 then [9] else if natL (m.drop k) 1 = 117 then uniC (m.drop k) else [(m.drop k).getD 1 0] := rfl
  have HEW : escW (m.drop k) = if natL (m.drop k) 1 = 117 then uniW (m.drop k) else 2 := rfl
  have hk1 : k + 1 < n := by omega
  rw [hq] at HEC HEW ck1
  have eW : escW (m.drop k) = 2 := by rw [HEW]; rfl
  have eC : escC (m.drop k) = [8] := by rw [HEC]; rfl
  rw [eC, eW] at hnx
  have ck0 := hqb.out 0 hpos
  rw [Nat.add_zero, natL_at, h92'] at ck0
  have ckk : wr.cell? ⟨g, 1 + k, none⟩ = some (.int .u8 92) := ck0
  have ck2 : wr.cell? ⟨g, 1 + (k + 1), none⟩ = some (.int .u8 98) := ck1
  have hp : PBuf (wr.setCell ⟨gb, out.length, none⟩ (.int .u8 8)) gb L (out ++ [8]) := hP.out.put 8 (by omega)
  have HP2 := Lib.hid hp
  have HB2 := Lib.hid (Below.setCell (p := ⟨gb, out.length, none⟩) hbel hgb (.int .u8 8))
  have HN := Lib.hid hnx
  clear hp hnx eC eW eC0 eW0 HEC HEW hq ck1 ck0 hqb hP hI hpos h92' hc hokc hdl hkm hbel
  go_wp2
  refine ⟨_, _, _, _, _, _, _, _, _, _, _, _, _, _, _, _, _, _, _, _, _, _, _, _, _, _, _, _, _, _, _, _, _, _, _, _, _, _, _, _, _, _, _, _, _, _, _, _, _, _, _, _, _, _, _, _, _, _, _, _, _, _, _, _, _, _, _, _, _, _, _, _, _, _, _, _, _, _, _, _, _, _, _, _, _, _, _, _, _, _, _, _, _, _, _, _, _, _, _, _, _, _, _, _, _, _, _, _, _, _, _, _, _, _, _, _, _, _, _, _, _, _, _, _, _, _, _, _, _, _, _, _, _, _, _, _, _, _, _, _, _, _, _, _, _, _, _, _, _, _, _, _, _, ⟨k + 2, out ++ [8], by omega, by omega, by go_num, by simp, HP2, HB2.out, HN⟩, rfl⟩
set_option maxRecDepth 1000000 in
set_option maxHeartbeats 8000000 in
theorem ouL102 {c1 c2 c3 c5 c6 c7 c10 v12 v13 v14 v15 v16 c17 c18 c19 c20 c21 c22 c23 c24 c25 c26 c27 c28 c29 c30 c31 c32 c33 c34 c35 c36 c37 c38 c39 c40 c41 c42 c43 c44 c45 c46 c47 c48 c49 c50 c51 c52 c53 c54 c55 c56 c57 c58 c59 c60 c61 c62 c63 c64 c65 c66 c67 c68 c69 c70 c71 c72 c73 c74 c75 c76 c77 c78 c79 c80 c81 c82 c83 c84 c85 c86 c87 c88 c89 c90 c91 c92 c93 c94 c95 c96 c97 c98 c99 c100 c101 c102 c103 c104 c105 c106 c107 c108 c109 c110 c111 v112 v113 v114 v115 v116 v117 v118 v119 v120 v121 v122 v123 v124 v125 v126 v127 v128 v129 v130 v131 v132 v133 v134 v135 v136 v137 v138 v139 v140 v141 v142 v143 v144 v145 v146 v147 v148 v149 v150 v151 v152 v153 v154 v155 v156 v157 v158 v159 v160 v161 v162 v163 v164 v165 v166 v167 v168 v169 v170 v171 v172 v173 v174 v175 v176 v177 v178 v179 v180 v181 v182 v183 v184 v185 v186 v187 v188 v189 v190 v191 v192 v193 v194 v195 v196 v197 v198 v199 v200 v201 v202 v203 v204 v205 v206 v207 v208 v209 v210 v211 v212 v213 v214 v215 v216 v217 v218 v219 v220 v221 v222 v223 v224 v225 v226 v227 v228 v229 v230 v231 v232 v233 v234 v235 v236 v237 v238 v239 v240 v241 v242 v243 v244 v245 v246 v247 v248 v249 v250 v251 v252 v253 v254 v255 v256 v257 c258 c259 c260 : Value} {K : Act → World → Prop} {Q' : Exit → Act → World → Prop} (w : World) (g cp gb L n k : Nat) (m out : List UInt8) (wr : World) (hn : Hid (n = m.length)) (hk : k < n) (hcp : n + 1 ≤ cp) (hnn : n ≤ 1000000) (hgb : w.heap.size ≤ gb) (hLo : out.length + 8 ≤ L) (hLn : L ≤ 8 * n + 24) (hP : Hid (PBuf wr gb L out)) (hbel : Below w.heap.size w wr) (hI : Hid (DInv m k out)) (hqb : Hid (BytesAt wr g (1 + k) (m.drop k))) (hc : Hid ((92 : Nat) = natL (m.drop k) 0)) (hq : natL (m.drop k) 1 = 102)
    (hK : ∀ a' w'', ouWE w gb L n k m (.slice (some ⟨g, 1, none⟩) n cp) c1 c2 c3 c5 c6 c7 (.slice (some ⟨gb, 0, none⟩) L L) c10 (.int .u8 92) c17 c18 c19 c20 c21 c22 c23 c24 c25 c26 c27 c28 c29 c30 c31 c32 c33 c34 c35 c36 c37 c38 c39 c40 c41 c42 c43 c44 c45 c46 c47 c48 c49 c50 c51 c52 c53 c54 c55 c56 c57 c58 c59 c60 c61 c62 c63 c64 c65 c66 c67 c68 c69 c70 c71 c72 c73 c74 c75 c76 c77 c78 c79 c80 c81 c82 c83 c84 c85 c86 c87 c88 c89 c90 c91 c92 c93 c94 c95 c96 c97 c98 c99 c100 c101 c102 c103 c104 c105 c106 c107 c108 c109 c110 c111 c258 c259 c260 a' w'' → K a' w'') :
    Code.wp Tryd.prog ouBlk (Exit.then K Q') ⟨#[.slice (some ⟨g, 1, none⟩) n cp, c1, c2, c3, .int .i64 k, c5, c6, c7, .slice (some ⟨gb, 0, none⟩) L L, .int .i64 out.length, c10, .int .u8 92, v12, v13, v14, v15, v16, c17, c18, c19, c20, c21, c22, c23, c24, c25, c26, c27, c28, c29, c30, c31, c32, c33, c34, c35, c36, c37, c38, c39, c40, c41, c42, c43, c44, c45, c46, c47, c48, c49, c50, c51, c52, c53, c54, c55, c56, c57, c58, c59, c60, c61, c62, c63, c64, c65, c66, c67, c68, c69, c70, c71, c72, c73, c74, c75, c76, c77, c78, c79, c80, c81, c82, c83, c84, c85, c86, c87, c88, c89, c90, c91, c92, c93, c94, c95, c96, c97, c98, c99, c100, c101, c102, c103, c104, c105, c106, c107, c108, c109, c110, c111, v112, v113, v114, v115, v116, v117, v118, v119, v120, v121, v122, v123, v124, v125, v126, v127, v128, v129, v130, v131, v132, v133, v134, v135, v136, v137, v138, v139, v140, v141, v142, v143, v144, v145, v146, v147, v148, v149, v150, v151, v152, v153, v154, v155, v156, v157, v158, v159, v160, v161, v162, v163, v164, v165, v166, v167, v168, v169, v170, v171, v172, v173, v174, v175, v176, v177, v178, v179, v180, v181, v182, v183, v184, v185, v186, v187, v188, v189, v190, v191, v192, v193, v194, v195, v196, v197, v198, v199, v200, v201, v202, v203, v204, v205, v206, v207, v208, v209, v210, v211, v212, v213, v214, v215, v216, v217, v218, v219, v220, v221, v222, v223, v224, v225, v226, v227, v228, v229, v230, v231, v232, v233, v234, v235, v236, v237, v238, v239, v240, v241, v242, v243, v244, v245, v246, v247, v248, v249, v250, v251, v252, v253, v254, v255, v256, v257, c258, c259, c260], []⟩ wr := by
  conv => arg 2; whnf
  have hkm : Hid (k < m.length) := by have := hn.out; show _ < _; omega
  have hpos := UInv.pos hkm.out
  have hdl : (m.drop k).length = n - k := by rw [List.length_drop, ← hn.out]
  have hokc := hI.out.okc hkm.out
  have hwl := hI.out.wle hkm.out
  have hnx := hI.out.next hkm.out
  rw [← hn.out] at hwl
  obtain ⟨v0, hv0⟩ := Option.isSome_iff_exists.1 (hP.out.some out.length (by omega))
  have hf0 := hP.out.fz out.length
  have hlo : out.length < L := by omega
  have hnl : ¬ L = out.length := by omega
  have h92' : natL (m.drop k) 0 = 92 := hc.out.symm
  have eC0 : dcC (m.drop k) = escC (m.drop k) := by unfold dcC; rw [if_pos h92']
  have eW0 : dcW (m.drop k) = escW (m.drop k) := by unfold dcW; rw [if_pos h92']
  rw [eC0, eW0] at hnx
  rw [eW0] at hwl
  unfold okPc at hokc
  rw [if_pos h92', decide_eq_true_iff, hdl] at hokc
  have h2 := hokc.1
  have ck1 := hqb.out 1 (by rw [hdl]; omega)
  rw [natL_at, show 1 + k + 1 = 1 + (k + 1) by omega] at ck1
  have HEC : escC (m.drop k) = if natL (m.drop k) 1 = 98 then [8] else if natL (m.drop k) 1 = 102 then [12] else if natL (m.drop k) 1 = 110 then [10] else if natL (m.drop k) 1 = 114 then [13] else if natL (m.drop k) 1 = 116 then [9] else if natL (m.drop k) 1 = 117 then uniC (m.drop k) else [(m.drop k).getD 1 0] := rfl
  have HEW : escW (m.drop k) = if natL (m.drop k) 1 = 117 then uniW (m.drop k) else 2 := rfl
  have hk1 : k + 1 < n := by omega
  rw [hq] at HEC HEW ck1
  have eW : escW (m.drop k) = 2 := by rw [HEW]; rfl
  have eC : escC (m.drop k) = [12] := by rw [HEC]; rfl
  rw [eC, eW] at hnx
  have ck0 := hqb.out 0 hpos
  rw [Nat.add_zero, natL_at, h92'] at ck0
  have ckk : wr.cell? ⟨g, 1 + k, none⟩ = some (.int .u8 92) := ck0
  have ck2 : wr.cell? ⟨g, 1 + (k + 1), none⟩ = some (.int .u8 102) := ck1
  have hp : PBuf (wr.setCell ⟨gb, out.length, none⟩ (.int .u8 12)) gb L (out ++ [12]) := hP.out.put 12 (by omega)
  have HP2 := Lib.hid hp
  have HB2 := Lib.hid (Below.setCell (p := ⟨gb, out.length, none⟩) hbel hgb (.int .u8 12))
  have HN := Lib.hid hnx
  clear hp hnx eC eW eC0 eW0 HEC HEW hq ck1 ck0 hqb hP hI hpos h92' hc hokc hdl hkm hbel
  go_wp2
  refine ⟨_, _, _, _, _, _, _, _, _, _, _, _, _, _, _, _, _, _, _, _, _, _, _, _, _, _, _, _, _, _, _, _, _, _, _, _, _, _, _, _, _, _, _, _, _, _, _, _, _, _, _, _, _, _, _, _, _, _, _, _, _, _, _, _, _, _, _, _, _, _, _, _, _, _, _, _, _, _, _, _, _, _, _, _, _, _, _, _, _, _, _, _, _, _, _, _, _, _, _, _, _, _, _, _, _, _, _, _, _, _, _, _, _, _, _, _, _, _, _, _, _, _, _, _, _, _, _, _, _, _, _, _, _, _, _, _, _, _, _, _, _, _, _, _, _, _, _, _, _, _, _, _, _, ⟨k + 2, out ++ [12], by omega, by omega, by go_num, by simp, HP2, HB2.out, HN⟩, rfl⟩
set_option maxRecDepth 1000000 in
set_option maxHeartbeats 8000000 in
theorem ouL110 {c1 c2 c3 c5 c6 c7 c10 v12 v13 v14 v15 v16 c17 c18 c19 c20 c21 c22 c23 c24 c25 c26 c27 c28 c29 c30 c31 c32 c33 c34 c35 c36 c37 c38 c39 c40 c41 c42 c43 c44 c45 c46 c47 c48 c49 c50 c51 c52 c53 c54 c55 c56 c57 c58 c59 c60 c61 c62 c63 c64 c65 c66 c67 c68 c69 c70 c71 c72 c73 c74 c75 c76 c77 c78 c79 c80 c81 c82 c83 c84 c85 c86 c87 c88 c89 c90 c91 c92 c93 c94 c95 c96 c97 c98 c99 c100 c101 c102 c103 c104 c105 c106 c107 c108 c109 c110 c111 v112 v113 v114 v115 v116 v117 v118 v119 v120 v121 v122 v123 v124 v125 v126 v127 v128 v129 v130 v131 v132 v133 v134 v135 v136 v137 v138 v139 v140 v141 v142 v143 v144 v145 v146 v147 v148 v149 v150 v151 v152 v153 v154 v155 v156 v157 v158 v159 v160 v161 v162 v163 v164 v165 v166 v167 v168 v169 v170 v171 v172 v173 v174 v175 v176 v177 v178 v179 v180 v181 v182 v183 v184 v185 v186 v187 v188 v189 v190 v191 v192 v193 v194 v195 v196 v197 v198 v199 v200 v201 v202 v203 v204 v205 v206 v207 v208 v209 v210 v211 v212 v213 v214 v215 v216 v217 v218 v219 v220 v221 v222 v223 v224 v225 v226 v227 v228 v229 v230 v231 v232 v233 v234 v235 v236 v237 v238 v239 v240 v241 v242 v243 v244 v245 v246 v247 v248 v249 v250 v251 v252 v253 v254 v255 v256 v257 c258 c259 c260 : Value} {K : Act → World → Prop} {Q' : Exit → Act → World → Prop} (w : World) (g cp gb L n k : Nat) (m out : List UInt8) (wr : World) (hn : Hid (n = m.length)) (hk : k < n) (hcp : n + 1 ≤ cp) (hnn : n ≤ 1000000) (hgb : w.heap.size ≤ gb) (hLo : out.length + 8 ≤ L) (hLn : L ≤ 8 * n + 24) (hP : Hid (PBuf wr gb L out)) (hbel : Below w.heap.size w wr) (hI : Hid (DInv m k out)) (hqb : Hid (BytesAt wr g (1 + k) (m.drop k))) (hc : Hid ((92 : Nat) = natL (m.drop k) 0)) (hq : natL (m.drop k) 1 = 110)
    (hK : ∀ a' w'', ouWE w gb L n k m (.slice (some ⟨g, 1, none⟩) n cp) c1 c2 c3 c5 c6 c7 (.slice (some ⟨gb, 0, none⟩) L L) c10 (.int .u8 92) c17 c18 c19 c20 c21 c22 c23 c24 c25 c26 c27 c28 c29 c30 c31 c32 c33 c34 c35 c36 c37 c38 c39 c40 c41 c42 c43 c44 c45 c46 c47 c48 c49 c50 c51 c52 c53 c54 c55 c56 c57 c58 c59 c60 c61 c62 c63 c64 c65 c66 c67 c68 c69 c70 c71 c72 c73 c74 c75 c76 c77 c78 c79 c80 c81 c82 c83 c84 c85 c86 c87 c88 c89 c90 c91 c92 c93 c94 c95 c96 c97 c98 c99 c100 c101 c102 c103 c104 c105 c106 c107 c108 c109 c110 c111 c258 c259 c260 a' w'' → K a' w'') :
    Code.wp Tryd.prog ouBlk (Exit.then K Q') ⟨#[.slice (some ⟨g, 1, none⟩) n cp, c1, c2, c3, .int .i64 k, c5, c6, c7, .slice (some ⟨gb, 0, none⟩) L L, .int .i64 out.length, c10, .int .u8 92, v12, v13, v14, v15, v16, c17, c18, c19, c20, c21, c22, c23, c24, c25, c26, c27, c28, c29, c30, c31, c32, c33, c34, c35, c36, c37, c38, c39, c40, c41, c42, c43, c44, c45, c46, c47, c48, c49, c50, c51, c52, c53, c54, c55, c56, c57, c58, c59, c60, c61, c62, c63, c64, c65, c66, c67, c68, c69, c70, c71, c72, c73, c74, c75, c76, c77, c78, c79, c80, c81, c82, c83, c84, c85, c86, c87, c88, c89, c90, c91, c92, c93, c94, c95, c96, c97, c98, c99, c100, c101, c102, c103, c104, c105, c106, c107, c108, c109, c110, c111, v112, v113, v114, v115, v116, v117, v118, v119, v120, v121, v122, v123, v124, v125, v126, v127, v128, v129, v130, v131, v132, v133, v134, v135, v136, v137, v138, v139, v140, v141, v142, v143, v144, v145, v146, v147, v148, v149, v150, v151, v152, v153, v154, v155, v156, v157, v158, v159, v160, v161, v162, v163, v164, v165, v166, v167, v168, v169, v170, v171, v172, v173, v174, v175, v176, v177, v178, v179, v180, v181, v182, v183, v184, v185, v186, v187, v188, v189, v190, v191, v192, v193, v194, v195, v196, v197, v198, v199, v200, v201, v202, v203, v204, v205, v206, v207, v208, v209, v210, v211, v212, v213, v214, v215, v216, v217, v218, v219, v220, v221, v222, v223, v224, v225, v226, v227, v228, v229, v230, v231, v232, v233, v234, v235, v236, v237, v238, v239, v240, v241, v242, v243, v244, v245, v246, v247, v248, v249, v250, v251, v252, v253, v254, v255, v256, v257, c258, c259, c260], []⟩ wr := by
  conv => arg 2; whnf
  have hkm : Hid (k < m.length) := by have := hn.out; show _ < _; omega
  have hpos := UInv.pos hkm.out
  have hdl : (m.drop k).length = n - k := by rw [List.length_drop, ← hn.out]
  have hokc := hI.out.okc hkm.out
  have hwl := hI.out.wle hkm.out
  have hnx := hI.out.next hkm.out
  rw [← hn.out] at hwl
  obtain ⟨v0, hv0⟩ := Option.isSome_iff_exists.1 (hP.out.some out.length (by omega))
  have hf0 := hP.out.fz out.length
  have hlo : out.length < L := by omega
  have hnl : ¬ L = out.length := by omega
  have h92' : natL (m.drop k) 0 = 92 := hc.out.symm
  have eC0 : dcC (m.drop k) = escC (m.drop k) := by unfold dcC; rw [if_pos h92']
  have eW0 : dcW (m.drop k) = escW (m.drop k) := by unfold dcW; rw [if_pos h92']
  rw [eC0, eW0] at hnx
  rw [eW0] at hwl
  unfold okPc at hokc
  rw [if_pos h92', decide_eq_true_iff, hdl] at hokc
  have h2 := hokc.1
  have ck1 := hqb.out 1 (by rw [hdl]; omega)
  rw [natL_at, show 1 + k + 1 = 1 + (k + 1) by omega] at ck1
  have HEC : escC (m.drop k) = if natL (m.drop k) 1 = 98 then [8] else if natL (m.drop k) 1 = 102 then [12] else if natL (m.drop k) 1 = 110 then [10] else if natL (m.drop k) 1 = 114 then [13] else if natL (m.drop k) 1 = 116 then [9] else if natL (m.drop k) 1 = 117 then uniC (m.drop k) else [(m.drop k).getD 1 0] := rfl
  have HEW : escW (m.drop k) = if natL (m.drop k) 1 = 117 then uniW (m.drop k) else 2 := rfl
  have hk1 : k + 1 < n := by omega
  rw [hq] at HEC HEW ck1
  have eW : escW (m.drop k) = 2 := by rw [HEW]; rfl
  have eC : escC (m.drop k) = [10] := by rw [HEC]; rfl
  rw [eC, eW] at hnx
  have ck0 := hqb.out 0 hpos
  rw [Nat.add_zero, natL_at, h92'] at ck0
  have ckk : wr.cell? ⟨g, 1 + k, none⟩ = some (.int .u8 92) := ck0
  have ck2 : wr.cell? ⟨g, 1 + (k + 1), none⟩ = some (.int .u8 110) := ck1
  have hp : PBuf (wr.setCell ⟨gb, out.length, none⟩ (.int .u8 10)) gb L (out ++ [10]) := hP.out.put 10 (by omega)
  have HP2 := Lib.hid hp
  have HB2 := Lib.hid (Below.setCell (p := ⟨gb, out.length, none⟩) hbel hgb (.int .u8 10))
  have HN := Lib.hid hnx
  clear hp hnx eC eW eC0 eW0 HEC HEW hq ck1 ck0 hqb hP hI hpos h92' hc hokc hdl hkm hbel
  go_wp2
  refine ⟨_, _, _, _, _, _, _, _, _, _, _, _, _, _, _, _, _, _, _, _, _, _, _, _, _, _, _, _, _, _, _, _, _, _, _, _, _, _, _, _, _, _, _, _, _, _, _, _, _, _, _, _, _, _, _, _, _, _, _, _, _, _, _, _, _, _, _, _, _, _, _, _, _, _, _, _, _, _, _, _, _, _, _, _, _, _, _, _, _, _, _, _, _, _, _, _, _, _, _, _, _, _, _, _, _, _, _, _, _, _, _, _, _, _, _, _, _, _, _, _, _, _, _, _, _, _, _, _, _, _, _, _, _, _, _, _, _, _, _, _, _, _, _, _, _, _, _, _, _, _, _, _, _, ⟨k + 2, out ++ [10], by omega, by omega, by go_num, by simp, HP2, HB2.out, HN⟩, rfl⟩
set_option maxRecDepth 1000000 in
set_option maxHeartbeats 8000000 in
theorem ouL114 {c1 c2 c3 c5 c6 c7 c10 v12 v13 v14 v15 v16 c17 c18 c19 c20 c21 c22 c23 c24 c25 c26 c27 c28 c29 c30 c31 c32 c33 c34 c35 c36 c37 c38 c39 c40 c41 c42 c43 c44 c45 c46 c47 c48 c49 c50 c51 c52 c53 c54 c55 c56 c57 c58 c59 c60 c61 c62 c63 c64 c65 c66 c67 c68 c69 c70 c71 c72 c73 c74 c75 c76 c77 c78 c79 c80 c81 c82 c83 c84 c85 c86 c87 c88 c89 c90 c91 c92 c93 c94 c95 c96 c97 c98 c99 c100 c101 c102 c103 c104 c105 c106 c107 c108 c109 c110 c111 v112 v113 v114 v115 v116 v117 v118 v119 v120 v121 v122 v123 v124 v125 v126 v127 v128 v129 v130 v131 v132 v133 v134 v135 v136 v137 v138 v139 v140 v141 v142 v143 v144 v145 v146 v147 v148 v149 v150 v151 v152 v153 v154 v155 v156 v157 v158 v159 v160 v161 v162 v163 v164 v165 v166 v167 v168 v169 v170 v171 v172 v173 v174 v175 v176 v177 v178 v179 v180 v181 v182 v183 v184 v185 v186 v187 v188 v189 v190 v191 v192 v193 v194 v195 v196 v197 v198 v199 v200 v201 v202 v203 v204 v205 v206 v207 v208 v209 v210 v211 v212 v213 v214 v215 v216 v217 v218 v219 v220 v221 v222 v223 v224 v225 v226 v227 v228 v229 v230 v231 v232 v233 v234 v235 v236 v237 v238 v239 v240 v241 v242 v243 v244 v245 v246 v247 v248 v249 v250 v251 v252 v253 v254 v255 v256 v257 c258 c259 c260 : Value} {K : Act → World → Prop} {Q' : Exit → Act → World → Prop} (w : World) (g cp gb L n k : Nat) (m out : List UInt8) (wr : World) (hn : Hid (n = m.length)) (hk : k < n) (hcp : n + 1 ≤ cp) (hnn : n ≤ 1000000) (hgb : w.heap.size ≤ gb) (hLo : out.length + 8 ≤ L) (hLn : L ≤ 8 * n + 24) (hP : Hid (PBuf wr gb L out)) (hbel : Below w.heap.size w wr) (hI : Hid (DInv m k out)) (hqb : Hid (BytesAt wr g (1 + k) (m.drop k))) (hc : Hid ((92 : Nat) = natL (m.drop k) 0)) (hq : natL (m.drop k) 1 = 114)
    (hK : ∀ a' w'', ouWE w gb L n k m (.slice (some ⟨g, 1, none⟩) n cp) c1 c2 c3 c5 c6 c7 (.slice (some ⟨gb, 0, none⟩) L L) c10 (.int .u8 92) c17 c18 c19 c20 c21 c22 c23 c24 c25 c26 c27 c28 c29 c30 c31 c32 c33 c34 c35 c36 c37 c38 c39 c40 c41 c42 c43 c44 c45 c46 c47 c48 c49 c50 c51 c52 c53 c54 c55 c56 c57 c58 c59 c60 c61 c62 c63 c64 c65 c66 c67 c68 c69 c70 c71 c72 c73 c74 c75 c76 c77 c78 c79 c80 c81 c82 c83 c84 c85 c86 c87 c88 c89 c90 c91 c92 c93 c94 c95 c96 c97 c98 c99 c100 c101 c102 c103 c104 c105 c106 c107 c108 c109 c110 c111 c258 c259 c260 a' w'' → K a' w'') :
    Code.wp Tryd.prog ouBlk (Exit.then K Q') ⟨#[.slice (some ⟨g, 1, none⟩) n cp, c1, c2, c3, .int .i64 k, c5, c6, c7, .slice (some ⟨gb, 0, none⟩) L L, .int .i64 out.length, c10, .int .u8 92, v12, v13, v14, v15, v16, c17, c18, c19, c20, c21, c22, c23, c24, c25, c26, c27, c28, c29, c30, c31, c32, c33, c34, c35, c36, c37, c38, c39, c40, c41, c42, c43, c44, c45, c46, c47, c48, c49, c50, c51, c52, c53, c54, c55, c56, c57, c58, c59, c60, c61, c62, c63, c64, c65, c66, c67, c68, c69, c70, c71, c72, c73, c74, c75, c76, c77, c78, c79, c80, c81, c82, c83, c84, c85, c86, c87, c88, c89, c90, c91, c92, c93, c94, c95, c96, c97, c98, c99, c100, c101, c102, c103, c104, c105, c106, c107, c108, c109, c110, c111, v112, v113, v114, v115, v116, v117, v118, v119, v120, v121, v122, v123, v124, v125, v126, v127, v128, v129, v130, v131, v132, v133, v134, v135, v136, v137, v138, v139, v140, v141, v142, v143, v144, v145, v146, v147, v148, v149, v150, v151, v152, v153, v154, v155, v156, v157, v158, v159, v160, v161, v162, v163, v164, v165, v166, v167, v168, v169, v170, v171, v172, v173, v174, v175, v176, v177, v178, v179, v180, v181, v182, v183, v184, v185, v186, v187, v188, v189, v190, v191, v192, v193, v194, v195, v196, v197, v198, v199, v200, v201, v202, v203, v204, v205, v206, v207, v208, v209, v210, v211, v212, v213, v214, v215, v216, v217, v218, v219, v220, v221, v222, v223, v224, v225, v226, v227, v228, v229, v230, v231, v232, v233, v234, v235, v236, v237, v238, v239, v240, v241, v242, v243, v244, v245, v246, v247, v248, v249, v250, v251, v252, v253, v254, v255, v256, v257, c258, c259, c260], []⟩ wr := by
  conv => arg 2; whnf
  have hkm : Hid (k < m.length) := by have := hn.out; show _ < _; omega
  have hpos := UInv.pos hkm.out
  have hdl : (m.drop k).length = n - k := by rw [List.length_drop, ← hn.out]
  have hokc := hI.out.okc hkm.out
  have hwl := hI.out.wle hkm.out
  have hnx := hI.out.next hkm.out
  rw [← hn.out] at hwl
  obtain ⟨v0, hv0⟩ := Option.isSome_iff_exists.1 (hP.out.some out.length (by omega))
  have hf0 := hP.out.fz out.length
  have hlo : out.length < L := by omega
  have hnl : ¬ L = out.length := by omega
  have h92' : natL (m.drop k) 0 = 92 := hc.out.symm
  have eC0 : dcC (m.drop k) = escC (m.drop k) := by unfold dcC; rw [if_pos h92']
  have eW0 : dcW (m.drop k) = escW (m.drop k) := by unfold dcW; rw [if_pos h92']
  rw [eC0, eW0] at hnx
  rw [eW0] at hwl
  unfold okPc at hokc
  rw [if_pos h92', decide_eq_true_iff, hdl] at hokc
  have h2 := hokc.1
  have ck1 := hqb.out 1 (by rw [hdl]; omega)
  rw [natL_at, show 1 + k + 1 = 1 + (k + 1) by omega] at ck1
  have HEC : escC (m.drop k) = if natL (m.drop k) 1 = 98 then [8] else if natL (m.drop k) 1 = 102 then [12] else if natL (m.drop k) 1 = 110 then [10] else if natL (m.drop k) 1 = 114 then [13] else if natL (m.drop k) 1 = 116 then [9] else if natL (m.drop k) 1 = 117 then uniC (m.drop k) else [(m.drop k).getD 1 0] := rfl
  have HEW : escW (m.drop k) = if natL (m.drop k) 1 = 117 then uniW (m.drop k) else 2 := rfl
  have hk1 : k + 1 < n := by omega
  rw [hq] at HEC HEW ck1
  have eW : escW (m.drop k) = 2 := by rw [HEW]; rfl
  have eC : escC (m.drop k) = [13] := by rw [HEC]; rfl
  rw [eC, eW] at hnx
  have ck0 := hqb.out 0 hpos
  rw [Nat.add_zero, natL_at, h92'] at ck0
  have ckk : wr.cell? ⟨g, 1 + k, none⟩ = some (.int .u8 92) := ck0
  have ck2 : wr.cell? ⟨g, 1 + (k + 1), none⟩ = some (.int .u8 114) := ck1
  have hp : PBuf (wr.setCell ⟨gb, out.length, none⟩ (.int .u8 13)) gb L (out ++ [13]) := hP.out.put 13 (by omega)
  have HP2 := Lib.hid hp
  have HB2 := Lib.hid (Below.setCell (p := ⟨gb, out.length, none⟩) hbel hgb (.int .u8 13))
  have HN := Lib.hid hnx
  clear hp hnx eC eW eC0 eW0 HEC HEW hq ck1 ck0 hqb hP hI hpos h92' hc hokc hdl hkm hbel
  go_wp2
  refine ⟨_, _, _, _, _, _, _, _, _, _, _, _, _, _, _, _, _, _, _, _, _, _, _, _, _, _, _, _, _, _, _, _, _, _, _, _, _, _, _, _, _, _, _, _, _, _, _, _, _, _, _, _, _, _, _, _, _, _, _, _, _, _, _, _, _, _, _, _, _, _, _, _, _, _, _, _, _, _, _, _, _, _, _, _, _, _, _, _, _, _, _, _, _, _, _, _, _, _, _, _, _, _, _, _, _, _, _, _, _, _, _, _, _, _, _, _, _, _, _, _, _, _, _, _, _, _, _, _, _, _, _, _, _, _, _, _, _, _, _, _, _, _, _, _, _, _, _, _, _, _, _, _, _, ⟨k + 2, out ++ [13], by omega, by omega, by go_num, by simp, HP2, HB2.out, HN⟩, rfl⟩
set_option maxRecDepth 1000000 in
set_option maxHeartbeats 8000000 in
theorem ouL116 {c1 c2 c3 c5 c6 c7 c10 v12 v13 v14 v15 v16 c17 c18 c19 c20 c21 c22 c23 c24 c25 c26 c27 c28 c29 c30 c31 c32 c33 c34 c35 c36 c37 c38 c39 c40 c41 c42 c43 c44 c45 c46 c47 c48 c49 c50 c51 c52 c53 c54 c55 c56 c57 c58 c59 c60 c61 c62 c63 c64 c65 c66 c67 c68 c69 c70 c71 c72 c73 c74 c75 c76 c77 c78 c79 c80 c81 c82 c83 c84 c85 c86 c87 c88 c89 c90 c91 c92 c93 c94 c95 c96 c97 c98 c99 c100 c101 c102 c103 c104 c105 c106 c107 c108 c109 c110 c111 v112 v113 v114 v115 v116 v117 v118 v119 v120 v121 v122 v123 v124 v125 v126 v127 v128 v129 v130 v131 v132 v133 v134 v135 v136 v137 v138 v139 v140 v141 v142 v143 v144 v145 v146 v147 v148 v149 v150 v151 v152 v153 v154 v155 v156 v157 v158 v159 v160 v161 v162 v163 v164 v165 v166 v167 v168 v169 v170 v171 v172 v173 v174 v175 v176 v177 v178 v179 v180 v181 v182 v183 v184 v185 v186 v187 v188 v189 v190 v191 v192 v193 v194 v195 v196 v197 v198 v199 v200 v201 v202 v203 v204 v205 v206 v207 v208 v209 v210 v211 v212 v213 v214 v215 v216 v217 v218 v219 v220 v221 v222 v223 v224 v225 v226 v227 v228 v229 v230 v231 v232 v233 v234 v235 v236 v237 v238 v239 v240 v241 v242 v243 v244 v245 v246 v247 v248 v249 v250 v251 v252 v253 v254 v255 v256 v257 c258 c259 c260 : Value} {K : Act → World → Prop} {Q' : Exit → Act → World → Prop} (w : World) (g cp gb L n k : Nat) (m out : List UInt8) (wr : World) (hn : Hid (n = m.length)) (hk : k < n) (hcp : n + 1 ≤ cp) (hnn : n ≤ 1000000) (hgb : w.heap.size ≤ gb) (hLo : out.length + 8 ≤ L) (hLn : L ≤ 8 * n + 24) (hP : Hid (PBuf wr gb L out)) (hbel : Below w.heap.size w wr) (hI : Hid (DInv m k out)) (hqb : Hid (BytesAt wr g (1 + k) (m.drop k))) (hc : Hid ((92 : Nat) = natL (m.drop k) 0)) (hq : natL (m.drop k) 1 = 116)
    (hK : ∀ a' w'', ouWE w gb L n k m (.slice (some ⟨g, 1, none⟩) n cp) c1 c2 c3 c5 c6 c7 (.slice (some ⟨gb, 0, none⟩) L L) c10 (.int .u8 92) c17 c18 c19 c20 c21 c22 c23 c24 c25 c26 c27 c28 c29 c30 c31 c32 c33 c34 c35 c36 c37 c38 c39 c40 c41 c42 c43 c44 c45 c46 c47 c48 c49 c50 c51 c52 c53 c54 c55 c56 c57 c58 c59 c60 c61 c62 c63 c64 c65 c66 c67 c68 c69 c70 c71 c72 c73 c74 c75 c76 c77 c78 c79 c80 c81 c82 c83 c84 c85 c86 c87 c88 c89 c90 c91 c92 c93 c94 c95 c96 c97 c98 c99 c100 c101 c102 c103 c104 c105 c106 c107 c108 c109 c110 c111 c258 c259 c260 a' w'' → K a' w'') :
    Code.wp Tryd.prog ouBlk (Exit.then K Q') ⟨#[.slice (some ⟨g, 1, none⟩) n cp, c1, c2, c3, .int .i64 k, c5, c6, c7, .slice (some ⟨gb, 0, none⟩) L L, .int .i64 out.length, c10, .int .u8 92, v12, v13, v14, v15, v16, c17, c18, c19, c20, c21, c22, c23, c24, c25, c26, c27, c28, c29, c30, c31, c32, c33, c34, c35, c36, c37, c38, c39, c40, c41, c42, c43, c44, c45, c46, c47, c48, c49, c50, c51, c52, c53, c54, c55, c56, c57, c58, c59, c60, c61, c62, c63, c64, c65, c66, c67, c68, c69, c70, c71, c72, c73, c74, c75, c76, c77, c78, c79, c80, c81, c82, c83, c84, c85, c86, c87, c88, c89, c90, c91, c92, c93, c94, c95, c96, c97, c98, c99, c100, c101, c102, c103, c104, c105, c106, c107, c108, c109, c110, c111, v112, v113, v114, v115, v116, v117, v118, v119, v120, v121, v122, v123, v124, v125, v126, v127, v128, v129, v130, v131, v132, v133, v134, v135, v136, v137, v138, v139, v140, v141, v142, v143, v144, v145, v146, v147, v148, v149, v150, v151, v152, v153, v154, v155, v156, v157, v158, v159, v160, v161, v162, v163, v164, v165, v166, v167, v168, v169, v170, v171, v172, v173, v174, v175, v176, v177, v178, v179, v180, v181, v182, v183, v184, v185, v186, v187, v188, v189, v190, v191, v192, v193, v194, v195, v196, v197, v198, v199, v200, v201, v202, v203, v204, v205, v206, v207, v208, v209, v210, v211, v212, v213, v214, v215, v216, v217, v218, v219, v220, v221, v222, v223, v224, v225, v226, v227, v228, v229, v230, v231, v232, v233, v234, v235, v236, v237, v238, v239, v240, v241, v242, v243, v244, v245, v246, v247, v248, v249, v250, v251, v252, v253, v254, v255, v256, v257, c258, c259, c260], []⟩ wr := by
  conv => arg 2; whnf
  have hkm : Hid (k < m.length) := by have := hn.out; show _ < _; omega
  have hpos := UInv.pos hkm.out
  have hdl : (m.drop k).length = n - k := by rw [List.length_drop, ← hn.out]
  have hokc := hI.out.okc hkm.out
  have hwl := hI.out.wle hkm.out
  have hnx := hI.out.next hkm.out
  rw [← hn.out] at hwl
  obtain ⟨v0, hv0⟩ := Option.isSome_iff_exists.1 (hP.out.some out.length (by omega))
  have hf0 := hP.out.fz out.length
  have hlo : out.length < L := by omega
  have hnl : ¬ L = out.length := by omega
  have h92' : natL (m.drop k) 0 = 92 := hc.out.symm
  have eC0 : dcC (m.drop k) = escC (m.drop k) := by unfold dcC; rw [if_pos h92']
  have eW0 : dcW (m.drop k) = escW (m.drop k) := by unfold dcW; rw [if_pos h92']
  rw [eC0, eW0] at hnx
  rw [eW0] at hwl
  unfold okPc at hokc
  rw [if_pos h92', decide_eq_true_iff, hdl] at hokc
  have h2 := hokc.1
  have ck1 := hqb.out 1 (by rw [hdl]; omega)
  rw [natL_at, show 1 + k + 1 = 1 + (k + 1) by omega] at ck1
  have HEC : escC (m.drop k) = if natL (m.drop k) 1 = 98 then [8] else if natL (m.drop k) 1 = 102 then [12] else if natL (m.drop k) 1 = 110 then [10] else if natL (m.drop k) 1 = 114 then [13] else if natL (m.drop k) 1 = 116 then [9] else if natL (m.drop k) 1 = 117 then uniC (m.drop k) else [(m.drop k).getD 1 0] := rfl
  have HEW : escW (m.drop k) = if natL (m.drop k) 1 = 117 then uniW (m.drop k) else 2 := rfl
  have hk1 : k + 1 < n := by omega
  rw [hq] at HEC HEW ck1
  have eW : escW (m.drop k) = 2 := by rw [HEW]; rfl
  have eC : escC (m.drop k) = [9] := by rw [HEC]; rfl
  rw [eC, eW] at hnx
  have ck0 := hqb.out 0 hpos
  rw [Nat.add_zero, natL_at, h92'] at ck0
  have ckk : wr.cell? ⟨g, 1 + k, none⟩ = some (.int .u8 92) := ck0
  have ck2 : wr.cell? ⟨g, 1 + (k + 1), none⟩ = some (.int .u8 116) := ck1
  have hp : PBuf (wr.setCell ⟨gb, out.length, none⟩ (.int .u8 9)) gb L (out ++ [9]) := hP.out.put 9 (by omega)
  have HP2 := Lib.hid hp
  have HB2 := Lib.hid (Below.setCell (p := ⟨gb, out.length, none⟩) hbel hgb (.int .u8 9))
  have HN := Lib.hid hnx
  clear hp hnx eC eW eC0 eW0 HEC HEW hq ck1 ck0 hqb hP hI hpos h92' hc hokc hdl hkm hbel
  go_wp2
  refine ⟨_, _, _, _, _, _, _, _, _, _, _, _, _, _, _, _, _, _, _, _, _, _, _, _, _, _, _, _, _, _, _, _, _, _, _, _, _, _, _, _, _, _, _, _, _, _, _, _, _, _, _, _, _, _, _, _, _, _, _, _, _, _, _, _, _, _, _, _, _, _, _, _, _, _, _, _, _, _, _, _, _, _, _, _, _, _, _, _, _, _, _, _, _, _, _, _, _, _, _, _, _, _, _, _, _, _, _, _, _, _, _, _, _, _, _, _, _, _, _, _, _, _, _, _, _, _, _, _, _, _, _, _, _, _, _, _, _, _, _, _, _, _, _, _, _, _, _, _, _, _, _, _, _, ⟨k + 2, out ++ [9], by omega, by omega, by go_num, by simp, HP2, HB2.out, HN⟩, rfl⟩
set_option maxRecDepth 1000000 in
set_option maxHeartbeats 8000000 in
theorem ouAsc {c1 c2 c3 c5 c6 c7 c10 v12 v13 v14 v15 v16 c17 c18 c19 c20 c21 c22 c23 c24 c25 c26 c27 c28 c29 c30 c31 c32 c33 c34 c35 c36 c37 c38 c39 c40 c41 c42 c43 c44 c45 c46 c47 c48 c49 c50 c51 c52 c53 c54 c55 c56 c57 c58 c59 c60 c61 c62 c63 c64 c65 c66 c67 c68 c69 c70 c71 c72 c73 c74 c75 c76 c77 c78 c79 c80 c81 c82 c83 c84 c85 c86 c87 c88 c89 c90 c91 c92 c93 c94 c95 c96 c97 c98 c99 c100 c101 c102 c103 c104 c105 c106 c107 c108 c109 c110 c111 v112 v113 v114 v115 v116 v117 v118 v119 v120 v121 v122 v123 v124 v125 v126 v127 v128 v129 v130 v131 v132 v133 v134 v135 v136 v137 v138 v139 v140 v141 v142 v143 v144 v145 v146 v147 v148 v149 v150 v151 v152 v153 v154 v155 v156 v157 v158 v159 v160 v161 v162 v163 v164 v165 v166 v167 v168 v169 v170 v171 v172 v173 v174 v175 v176 v177 v178 v179 v180 v181 v182 v183 v184 v185 v186 v187 v188 v189 v190 v191 v192 v193 v194 v195 v196 v197 v198 v199 v200 v201 v202 v203 v204 v205 v206 v207 v208 v209 v210 v211 v212 v213 v214 v215 v216 v217 v218 v219 v220 v221 v222 v223 v224 v225 v226 v227 v228 v229 v230 v231 v232 v233 v234 v235 v236 v237 v238 v239 v240 v241 v242 v243 v244 v245 v246 v247 v248 v249 v250 v251 v252 v253 v254 v255 v256 v257 c258 c259 c260 : Value} {K : Act → World → Prop} {Q' : Exit → Act → World → Prop} (w : World) (g cp gb L n k : Nat) (m out : List UInt8) (c : Nat) (wr : World) (hn : Hid (n = m.length)) (hk : k < n) (hcp : n + 1 ≤ cp) (hnn : n ≤ 1000000) (hgb : w.heap.size ≤ gb) (hLo : out.length + 8 ≤ L) (hLn : L ≤ 8 * n + 24) (hP : Hid (PBuf wr gb L out)) (hbel : Below w.heap.size w wr) (hI : Hid (DInv m k out)) (hqb : Hid (BytesAt wr g (1 + k) (m.drop k))) (hc : Hid (c = natL (m.drop k) 0)) (hq : ¬ c = 92 ∧ c < 128)
    (hK : ∀ a' w'', ouWE w gb L n k m (.slice (some ⟨g, 1, none⟩) n cp) c1 c2 c3 c5 c6 c7 (.slice (some ⟨gb, 0, none⟩) L L) c10 (.int .u8 c) c17 c18 c19 c20 c21 c22 c23 c24 c25 c26 c27 c28 c29 c30 c31 c32 c33 c34 c35 c36 c37 c38 c39 c40 c41 c42 c43 c44 c45 c46 c47 c48 c49 c50 c51 c52 c53 c54 c55 c56 c57 c58 c59 c60 c61 c62 c63 c64 c65 c66 c67 c68 c69 c70 c71 c72 c73 c74 c75 c76 c77 c78 c79 c80 c81 c82 c83 c84 c85 c86 c87 c88 c89 c90 c91 c92 c93 c94 c95 c96 c97 c98 c99 c100 c101 c102 c103 c104 c105 c106 c107 c108 c109 c110 c111 c258 c259 c260 a' w'' → K a' w'') :
    Code.wp Tryd.prog ouBlk (Exit.then K Q') ⟨#[.slice (some ⟨g, 1, none⟩) n cp, c1, c2, c3, .int .i64 k, c5, c6, c7, .slice (some ⟨gb, 0, none⟩) L L, .int .i64 out.length, c10, .int .u8 c, v12, v13, v14, v15, v16, c17, c18, c19, c20, c21, c22, c23, c24, c25, c26, c27, c28, c29, c30, c31, c32, c33, c34, c35, c36, c37, c38, c39, c40, c41, c42, c43, c44, c45, c46, c47, c48, c49, c50, c51, c52, c53, c54, c55, c56, c57, c58, c59, c60, c61, c62, c63, c64, c65, c66, c67, c68, c69, c70, c71, c72, c73, c74, c75, c76, c77, c78, c79, c80, c81, c82, c83, c84, c85, c86, c87, c88, c89, c90, c91, c92, c93, c94, c95, c96, c97, c98, c99, c100, c101, c102, c103, c104, c105, c106, c107, c108, c109, c110, c111, v112, v113, v114, v115, v116, v117, v118, v119, v120, v121, v122, v123, v124, v125, v126, v127, v128, v129, v130, v131, v132, v133, v134, v135, v136, v137, v138, v139, v140, v141, v142, v143, v144, v145, v146, v147, v148, v149, v150, v151, v152, v153, v154, v155, v156, v157, v158, v159, v160, v161, v162, v163, v164, v165, v166, v167, v168, v169, v170, v171, v172, v173, v174, v175, v176, v177, v178, v179, v180, v181, v182, v183, v184, v185, v186, v187, v188, v189, v190, v191, v192, v193, v194, v195, v196, v197, v198, v199, v200, v201, v202, v203, v204, v205, v206, v207, v208, v209, v210, v211, v212, v213, v214, v215, v216, v217, v218, v219, v220, v221, v222, v223, v224, v225, v226, v227, v228, v229, v230, v231, v232, v233, v234, v235, v236, v237, v238, v239, v240, v241, v242, v243, v244, v245, v246, v247, v248, v249, v250, v251, v252, v253, v254, v255, v256, v257, c258, c259, c260], []⟩ wr := by
  conv => arg 2; whnf
  have hkm : Hid (k < m.length) := by have := hn.out; show _ < _; omega
  have hpos := UInv.pos hkm.out
  have hdl : (m.drop k).length = n - k := by rw [List.length_drop, ← hn.out]
  have hokc := hI.out.okc hkm.out
  have hwl := hI.out.wle hkm.out
  have hnx := hI.out.next hkm.out
  rw [← hn.out] at hwl
  obtain ⟨v0, hv0⟩ := Option.isSome_iff_exists.1 (hP.out.some out.length (by omega))
  have hf0 := hP.out.fz out.length
  have hlo : out.length < L := by omega
  have hnl : ¬ L = out.length := by omega
  have hne : ¬ natL (m.drop k) 0 = 92 := by rw [← hc.out]; exact hq.1
  have hpp := plain_piece _ hpos (by rw [← hc.out]; exact hq.2) hne
  rw [hpp.1, hpp.2, takeD1 _ hpos] at hnx
  unfold okPc at hokc
  rw [if_neg hne, decide_eq_true_iff, ← hc.out] at hokc
  have hx : (((m.drop k).getD 0 0).toNat : Int) = (c : Int) := by have := hc.out; unfold natL at this; omega
  have hp := hP.out.put ((m.drop k).getD 0 0) (by omega)
  rw [hx] at hp
  generalize (m.drop k).getD 0 0 = x at *
  have HP2 := Lib.hid hp
  have HB2 := Lib.hid (Below.setCell (p := ⟨gb, out.length, none⟩) hbel hgb (.int .u8 c))
  have HN := Lib.hid hnx
  have e1 : ((c : Int) == 92) = false := by simp; omega
  have e2 : ((c : Int) == 34) = false := by simp; omega
  have e3 : decide ((c : Int) < 32) = false := by simp; omega
  have e4 : decide ((c : Int) < 128) = true := by simp; omega
  clear hp hnx hpp hne hqb hP hI hpos hc hokc hdl hkm hbel hx hwl
  go_wp2
  refine ⟨_, _, _, _, _, _, _, _, _, _, _, _, _, _, _, _, _, _, _, _, _, _, _, _, _, _, _, _, _, _, _, _, _, _, _, _, _, _, _, _, _, _, _, _, _, _, _, _, _, _, _, _, _, _, _, _, _, _, _, _, _, _, _, _, _, _, _, _, _, _, _, _, _, _, _, _, _, _, _, _, _, _, _, _, _, _, _, _, _, _, _, _, _, _, _, _, _, _, _, _, _, _, _, _, _, _, _, _, _, _, _, _, _, _, _, _, _, _, _, _, _, _, _, _, _, _, _, _, _, _, _, _, _, _, _, _, _, _, _, _, _, _, _, _, _, _, _, _, _, _, _, _, _, ⟨k + 1, out ++ [x], by omega, by omega, by go_num, by simp, HP2, HB2.out, HN⟩, rfl⟩
theorem dec_head3 (l : List UInt8) (hl : 0 < l.length) : (decN l).1 < 1114112 := by
  have h := dec_rl l.length (natL l 0) (natL l 1) (natL l 2) (natL l 3) hl (natL_lt _ _) (natL_lt _ _) (natL_lt _ _) (natL_lt _ _)
  have e : rl l.length (natL l 0) (natL l 1) (natL l 2) (natL l 3) = rlL l := rfl
  rw [e] at h
  have hd : decN l = Go.Lib.decodeN l.length (natL l 0) (natL l 1) (natL l 2) (natL l 3) := rfl
  rw [← hd] at h
  by_cases q : rlL l = 0
  · rw [h.1 q]; decide
  · exact (h.2 q).2.2.1
set_option maxRecDepth 1000000 in
set_option maxHeartbeats 8000000 in
theorem ouMul {c1 c2 c3 c5 c6 c7 c10 v12 v13 v14 v15 v16 c17 c18 c19 c20 c21 c22 c23 c24 c25 c26 c27 c28 c29 c30 c31 c32 c33 c34 c35 c36 c37 c38 c39 c40 c41 c42 c43 c44 c45 c46 c47 c48 c49 c50 c51 c52 c53 c54 c55 c56 c57 c58 c59 c60 c61 c62 c63 c64 c65 c66 c67 c68 c69 c70 c71 c72 c73 c74 c75 c76 c77 c78 c79 c80 c81 c82 c83 c84 c85 c86 c87 c88 c89 c90 c91 c92 c93 c94 c95 c96 c97 c98 c99 c100 c101 c102 c103 c104 c105 c106 c107 c108 c109 c110 c111 v112 v113 v114 v115 v116 v117 v118 v119 v120 v121 v122 v123 v124 v125 v126 v127 v128 v129 v130 v131 v132 v133 v134 v135 v136 v137 v138 v139 v140 v141 v142 v143 v144 v145 v146 v147 v148 v149 v150 v151 v152 v153 v154 v155 v156 v157 v158 v159 v160 v161 v162 v163 v164 v165 v166 v167 v168 v169 v170 v171 v172 v173 v174 v175 v176 v177 v178 v179 v180 v181 v182 v183 v184 v185 v186 v187 v188 v189 v190 v191 v192 v193 v194 v195 v196 v197 v198 v199 v200 v201 v202 v203 v204 v205 v206 v207 v208 v209 v210 v211 v212 v213 v214 v215 v216 v217 v218 v219 v220 v221 v222 v223 v224 v225 v226 v227 v228 v229 v230 v231 v232 v233 v234 v235 v236 v237 v238 v239 v240 v241 v242 v243 v244 v245 v246 v247 v248 v249 v250 v251 v252 v253 v254 v255 v256 v257 c258 c259 c260 : Value} {K : Act → World → Prop} {Q' : Exit → Act → World → Prop} (w : World) (g cp gb L n k : Nat) (m out : List UInt8) (c : Nat) (wr : World) (hn : Hid (n = m.length)) (hk : k < n) (hcp : n + 1 ≤ cp) (hnn : n ≤ 1000000) (hgb : w.heap.size ≤ gb) (hLo : out.length + 8 ≤ L) (hLn : L ≤ 8 * n + 24) (hP : Hid (PBuf wr gb L out)) (hbel : Below w.heap.size w wr) (hI : Hid (DInv m k out)) (hqb : Hid (BytesAt wr g (1 + k) (m.drop k))) (hc : Hid (c = natL (m.drop k) 0)) (hq : 128 ≤ c) (hc256 : c < 256) (hT : Hid (Lib.Utf8Tabs 3 4 wr))
    (hK : ∀ a' w'', ouWE w gb L n k m (.slice (some ⟨g, 1, none⟩) n cp) c1 c2 c3 c5 c6 c7 (.slice (some ⟨gb, 0, none⟩) L L) c10 (.int .u8 c) c17 c18 c19 c20 c21 c22 c23 c24 c25 c26 c27 c28 c29 c30 c31 c32 c33 c34 c35 c36 c37 c38 c39 c40 c41 c42 c43 c44 c45 c46 c47 c48 c49 c50 c51 c52 c53 c54 c55 c56 c57 c58 c59 c60 c61 c62 c63 c64 c65 c66 c67 c68 c69 c70 c71 c72 c73 c74 c75 c76 c77 c78 c79 c80 c81 c82 c83 c84 c85 c86 c87 c88 c89 c90 c91 c92 c93 c94 c95 c96 c97 c98 c99 c100 c101 c102 c103 c104 c105 c106 c107 c108 c109 c110 c111 c258 c259 c260 a' w'' → K a' w'') :
    Code.wp Tryd.prog ouBlk (Exit.then K Q') ⟨#[.slice (some ⟨g, 1, none⟩) n cp, c1, c2, c3, .int .i64 k, c5, c6, c7, .slice (some ⟨gb, 0, none⟩) L L, .int .i64 out.length, c10, .int .u8 c, v12, v13, v14, v15, v16, c17, c18, c19, c20, c21, c22, c23, c24, c25, c26, c27, c28, c29, c30, c31, c32, c33, c34, c35, c36, c37, c38, c39, c40, c41, c42, c43, c44, c45, c46, c47, c48, c49, c50, c51, c52, c53, c54, c55, c56, c57, c58, c59, c60, c61, c62, c63, c64, c65, c66, c67, c68, c69, c70, c71, c72, c73, c74, c75, c76, c77, c78, c79, c80, c81, c82, c83, c84, c85, c86, c87, c88, c89, c90, c91, c92, c93, c94, c95, c96, c97, c98, c99, c100, c101, c102, c103, c104, c105, c106, c107, c108, c109, c110, c111, v112, v113, v114, v115, v116, v117, v118, v119, v120, v121, v122, v123, v124, v125, v126, v127, v128, v129, v130, v131, v132, v133, v134, v135, v136, v137, v138, v139, v140, v141, v142, v143, v144, v145, v146, v147, v148, v149, v150, v151, v152, v153, v154, v155, v156, v157, v158, v159, v160, v161, v162, v163, v164, v165, v166, v167, v168, v169, v170, v171, v172, v173, v174, v175, v176, v177, v178, v179, v180, v181, v182, v183, v184, v185, v186, v187, v188, v189, v190, v191, v192, v193, v194, v195, v196, v197, v198, v199, v200, v201, v202, v203, v204, v205, v206, v207, v208, v209, v210, v211, v212, v213, v214, v215, v216, v217, v218, v219, v220, v221, v222, v223, v224, v225, v226, v227, v228, v229, v230, v231, v232, v233, v234, v235, v236, v237, v238, v239, v240, v241, v242, v243, v244, v245, v246, v247, v248, v249, v250, v251, v252, v253, v254, v255, v256, v257, c258, c259, c260], []⟩ wr := by
  conv => arg 2; whnf
  have hkm : Hid (k < m.length) := by have := hn.out; show _ < _; omega
  have hpos := UInv.pos hkm.out
  have hdl : (m.drop k).length = n - k := by rw [List.length_drop, ← hn.out]
  have hokc := hI.out.okc hkm.out
  have hwl := hI.out.wle hkm.out
  have hnx := hI.out.next hkm.out
  rw [← hn.out] at hwl
  obtain ⟨v0, hv0⟩ := Option.isSome_iff_exists.1 (hP.out.some out.length (by omega))
  have hf0 := hP.out.fz out.length
  have hlo : out.length < L := by omega
  have hnl : ¬ L = out.length := by omega
  have hne : ¬ natL (m.drop k) 0 = 92 := by rw [← hc.out]; omega
  have eC : dcC (m.drop k) = Lib.encodeRune ((decN (m.drop k)).1 : Int) := by unfold dcC; rw [if_neg hne, enc_dec _ hpos]
  have eW : dcW (m.drop k) = decW (m.drop k) := by unfold dcW; rw [if_neg hne]
  have hdw := decN_two (m.drop k) hpos
  rw [eW] at hwl
  rw [eC, eW] at hnx
  have hdec := decodeRune (m.drop k) g (1 + k) (cp - k) wr hT.out hqb.out hpos
  rw [hdl, hdw] at hdec
  have hrr : (decN (m.drop k)).1 < 1114112 := (dec_head3 (m.drop k) hpos)
  have hw1 := (decW_range (m.drop k) hpos).1
  unfold okPc at hokc
  rw [if_neg hne, decide_eq_true_iff, ← hc.out] at hokc
  generalize (decN (m.drop k)).1 = r at *
  generalize decW (m.drop k) = wd at *
  have hel := enc_length (r : Int)
  have HER : Hid (∀ w9, PBuf w9 gb L out → Calls Tryd.prog 87 #[.slice (some ⟨gb, out.length, none⟩) (L - out.length) (L - out.length), .int .i32 r] w9 (EncPost (w9.setCells gb out.length (nums (Lib.encodeRune r))) (Lib.encodeRune r).length)) := Lib.hid fun w9 h => encRune r (by omega) (by omega) gb L out w9 h (by omega)
  have HD := Lib.hid hdec
  have HN := Lib.hid hnx
  have e1 : ((c : Int) == 92) = false := by simp; omega
  have e2 : ((c : Int) == 34) = false := by simp; omega
  have e3 : decide ((c : Int) < 32) = false := by simp; omega
  have e4 : decide ((c : Int) < 128) = false := by simp; omega
  have hput : Hid (∀ w9, PBuf w9 gb L out → PBuf (w9.setCells gb out.length (nums (Lib.encodeRune r))) gb L (out ++ Lib.encodeRune r)) := Lib.hid fun w9 h => h.puts _ (by omega)
  generalize Lib.encodeRune r = E at *
  have hcx : ¬ cp = k := by omega
  clear hdec hnx eC eW hdw hne hI hpos hc hokc hdl hkm hqb hT hv0 hf0
  go_wp2_with fail
  refine HD.out.mono ?_
  rintro e w2 ⟨rfl, hb2⟩
  have hP2 := hP.out.below hb2
  have hbel2 := hbel.trans (hb2.mono hbel.size)
  have HE2 := Lib.hid (HER.out w2 hP2)
  have HP3 := Lib.hid (hput.out w2 hP2)
  have HB3 := Lib.hid (below_sets hbel2 hgb out.length (nums E))
  clear hP2 hbel2 hb2 HD HER hput hP hbel
  go_wp2_with fail
  refine HE2.out.mono ?_
  rintro e w3 ⟨rfl, rfl⟩
  clear HE2
  go_wp2
  refine ⟨_, _, _, _, _, _, _, _, _, _, _, _, _, _, _, _, _, _, _, _, _, _, _, _, _, _, _, _, _, _, _, _, _, _, _, _, _, _, _, _, _, _, _, _, _, _, _, _, _, _, _, _, _, _, _, _, _, _, _, _, _, _, _, _, _, _, _, _, _, _, _, _, _, _, _, _, _, _, _, _, _, _, _, _, _, _, _, _, _, _, _, _, _, _, _, _, _, _, _, _, _, _, _, _, _, _, _, _, _, _, _, _, _, _, _, _, _, _, _, _, _, _, _, _, _, _, _, _, _, _, _, _, _, _, _, _, _, _, _, _, _, _, _, _, _, _, _, _, _, _, _, _, _, ⟨k + wd, out ++ E, by omega, by omega, by go_num, by simp, HP3, HB3.out, HN⟩, rfl⟩
set_option maxRecDepth 1000000 in
set_option maxHeartbeats 8000000 in
theorem ouUn {c1 c2 c3 c5 c6 c7 c10 v12 v13 v14 v15 v16 c17 c18 c19 c20 c21 c22 c23 c24 c25 c26 c27 c28 c29 c30 c31 c32 c33 c34 c35 c36 c37 c38 c39 c40 c41 c42 c43 c44 c45 c46 c47 c48 c49 c50 c51 c52 c53 c54 c55 c56 c57 c58 c59 c60 c61 c62 c63 c64 c65 c66 c67 c68 c69 c70 c71 c72 c73 c74 c75 c76 c77 c78 c79 c80 c81 c82 c83 c84 c85 c86 c87 c88 c89 c90 c91 c92 c93 c94 c95 c96 c97 c98 c99 c100 c101 c102 c103 c104 c105 c106 c107 c108 c109 c110 c111 v112 v113 v114 v115 v116 v117 v118 v119 v120 v121 v122 v123 v124 v125 v126 v127 v128 v129 v130 v131 v132 v133 v134 v135 v136 v137 v138 v139 v140 v141 v142 v143 v144 v145 v146 v147 v148 v149 v150 v151 v152 v153 v154 v155 v156 v157 v158 v159 v160 v161 v162 v163 v164 v165 v166 v167 v168 v169 v170 v171 v172 v173 v174 v175 v176 v177 v178 v179 v180 v181 v182 v183 v184 v185 v186 v187 v188 v189 v190 v191 v192 v193 v194 v195 v196 v197 v198 v199 v200 v201 v202 v203 v204 v205 v206 v207 v208 v209 v210 v211 v212 v213 v214 v215 v216 v217 v218 v219 v220 v221 v222 v223 v224 v225 v226 v227 v228 v229 v230 v231 v232 v233 v234 v235 v236 v237 v238 v239 v240 v241 v242 v243 v244 v245 v246 v247 v248 v249 v250 v251 v252 v253 v254 v255 v256 v257 c258 c259 c260 : Value} {K : Act → World → Prop} {Q' : Exit → Act → World → Prop} (w : World) (g cp gb L n k : Nat) (m out : List UInt8) (wr : World) (hn : Hid (n = m.length)) (hk : k < n) (hcp : n + 1 ≤ cp) (hnn : n ≤ 1000000) (hgb : w.heap.size ≤ gb) (hLo : out.length + 8 ≤ L) (hLn : L ≤ 8 * n + 24) (hP : Hid (PBuf wr gb L out)) (hbel : Below w.heap.size w wr) (hI : Hid (DInv m k out)) (hqb : Hid (BytesAt wr g (1 + k) (m.drop k))) (hc : Hid ((92 : Nat) = natL (m.drop k) 0)) (hq : natL (m.drop k) 1 = 117) (huu : 0 ≤ uV (m.drop k)) (hh : ¬ halfU (uV (m.drop k)))
    (hK : ∀ a' w'', ouWE w gb L n k m (.slice (some ⟨g, 1, none⟩) n cp) c1 c2 c3 c5 c6 c7 (.slice (some ⟨gb, 0, none⟩) L L) c10 (.int .u8 92) c17 c18 c19 c20 c21 c22 c23 c24 c25 c26 c27 c28 c29 c30 c31 c32 c33 c34 c35 c36 c37 c38 c39 c40 c41 c42 c43 c44 c45 c46 c47 c48 c49 c50 c51 c52 c53 c54 c55 c56 c57 c58 c59 c60 c61 c62 c63 c64 c65 c66 c67 c68 c69 c70 c71 c72 c73 c74 c75 c76 c77 c78 c79 c80 c81 c82 c83 c84 c85 c86 c87 c88 c89 c90 c91 c92 c93 c94 c95 c96 c97 c98 c99 c100 c101 c102 c103 c104 c105 c106 c107 c108 c109 c110 c111 c258 c259 c260 a' w'' → K a' w'') :
    Code.wp Tryd.prog ouBlk (Exit.then K Q') ⟨#[.slice (some ⟨g, 1, none⟩) n cp, c1, c2, c3, .int .i64 k, c5, c6, c7, .slice (some ⟨gb, 0, none⟩) L L, .int .i64 out.length, c10, .int .u8 92, v12, v13, v14, v15, v16, c17, c18, c19, c20, c21, c22, c23, c24, c25, c26, c27, c28, c29, c30, c31, c32, c33, c34, c35, c36, c37, c38, c39, c40, c41, c42, c43, c44, c45, c46, c47, c48, c49, c50, c51, c52, c53, c54, c55, c56, c57, c58, c59, c60, c61, c62, c63, c64, c65, c66, c67, c68, c69, c70, c71, c72, c73, c74, c75, c76, c77, c78, c79, c80, c81, c82, c83, c84, c85, c86, c87, c88, c89, c90, c91, c92, c93, c94, c95, c96, c97, c98, c99, c100, c101, c102, c103, c104, c105, c106, c107, c108, c109, c110, c111, v112, v113, v114, v115, v116, v117, v118, v119, v120, v121, v122, v123, v124, v125, v126, v127, v128, v129, v130, v131, v132, v133, v134, v135, v136, v137, v138, v139, v140, v141, v142, v143, v144, v145, v146, v147, v148, v149, v150, v151, v152, v153, v154, v155, v156, v157, v158, v159, v160, v161, v162, v163, v164, v165, v166, v167, v168, v169, v170, v171, v172, v173, v174, v175, v176, v177, v178, v179, v180, v181, v182, v183, v184, v185, v186, v187, v188, v189, v190, v191, v192, v193, v194, v195, v196, v197, v198, v199, v200, v201, v202, v203, v204, v205, v206, v207, v208, v209, v210, v211, v212, v213, v214, v215, v216, v217, v218, v219, v220, v221, v222, v223, v224, v225, v226, v227, v228, v229, v230, v231, v232, v233, v234, v235, v236, v237, v238, v239, v240, v241, v242, v243, v244, v245, v246, v247, v248, v249, v250, v251, v252, v253, v254, v255, v256, v257, c258, c259, c260], []⟩ wr := by
  conv => arg 2; whnf
  have hkm : Hid (k < m.length) := by have := hn.out; show _ < _; omega
  have hpos := UInv.pos hkm.out
  have hdl : (m.drop k).length = n - k := by rw [List.length_drop, ← hn.out]
  have hokc := hI.out.okc hkm.out
  have hwl := hI.out.wle hkm.out
  have hnx := hI.out.next hkm.out
  rw [← hn.out] at hwl
  obtain ⟨v0, hv0⟩ := Option.isSome_iff_exists.1 (hP.out.some out.length (by omega))
  have hf0 := hP.out.fz out.length
  have hlo : out.length < L := by omega
  have hnl : ¬ L = out.length := by omega
  have h92' : natL (m.drop k) 0 = 92 := hc.out.symm
  have eC0 : dcC (m.drop k) = escC (m.drop k) := by unfold dcC; rw [if_pos h92']
  have eW0 : dcW (m.drop k) = escW (m.drop k) := by unfold dcW; rw [if_pos h92']
  rw [eC0, eW0] at hnx
  rw [eW0] at hwl
  unfold okPc at hokc
  rw [if_pos h92', decide_eq_true_iff, hdl] at hokc
  have h2 := hokc.1
  have ck1 := hqb.out 1 (by rw [hdl]; omega)
  rw [natL_at, show 1 + k + 1 = 1 + (k + 1) by omega] at ck1
  have HEC : escC (m.drop k) = if natL (m.drop k) 1 = 98 then [8] else if natL (m.drop k) 1 = 102 then [12] else if natL (m.drop k) 1 = 110 then [10] else if natL (m.drop k) 1 = 114 then [13] else if natL (m.drop k) 1 = 116 then [9] else if natL (m.drop k) 1 = 117 then uniC (m.drop k) else [(m.drop k).getD 1 0] := rfl
  have HEW : escW (m.drop k) = if natL (m.drop k) 1 = 117 then uniW (m.drop k) else 2 := rfl
  have hk1 : k + 1 < n := by omega
  rw [hq] at HEC HEW ck1
  have hu : 0 ≤ uV (m.drop k) := huu
  have h6 := (uV_ok hu).1
  rw [hdl] at h6
  have eW : escW (m.drop k) = uniW (m.drop k) := by rw [HEW]; rfl
  have eC : escC (m.drop k) = uniC (m.drop k) := by rw [HEC]; rfl
  rw [eC, eW] at hnx
  rw [eW] at hwl
  have ck0 := hqb.out 0 hpos
  rw [Nat.add_zero, natL_at, h92'] at ck0
  have ckk : wr.cell? ⟨g, 1 + k, none⟩ = some (.int .u8 92) := ck0
  have ck2 : wr.cell? ⟨g, 1 + (k + 1), none⟩ = some (.int .u8 117) := ck1
  have hU1 := getu4_at (m.drop k) g (1 + k) (cp - k) wr hqb.out (by rw [hdl]; omega) (by rw [hdl]; omega)
  rw [hdl] at hU1
  have HU1 := Lib.hid hU1
  have hr1 := uV_range (m.drop k)
  have hUC : uniC (m.drop k) = if halfU (uV (m.drop k)) then (if pairOk (uV (m.drop k)) (uV ((m.drop k).drop 6)) then Lib.encodeRune (pairV (uV (m.drop k)) (uV ((m.drop k).drop 6))) else BR) else Lib.encodeRune (uV (m.drop k)) := rfl
  have hUW : uniW (m.drop k) = if pairOk (uV (m.drop k)) (uV ((m.drop k).drop 6)) then 12 else 6 := rfl
  have hd6 : (m.drop k).drop 6 = m.drop (k + 6) := by rw [List.drop_drop]
  have hqb6 : BytesAt wr g (1 + (k + 6)) (m.drop (k + 6)) := fun j hj => by
    rw [List.length_drop] at hj
    have := hqb.out (6 + j) (by rw [List.length_drop]; omega)
    rw [show 1 + (k + 6) + j = 1 + k + (6 + j) by omega, this, atLd, atLd]
    congr 3
    omega
  have hU2 := getu4_at (m.drop (k + 6)) g (1 + (k + 6)) (cp - (k + 6)) wr hqb6 (by rw [List.length_drop]; have := hn.out; omega) (by rw [List.length_drop]; have := hn.out; omega)
  rw [List.length_drop, ← hn.out] at hU2
  have hr2 := uV_range (m.drop (k + 6))
  rw [hd6] at hUC hUW
  have HU2 := Lib.hid hU2
  have hcx1 : ¬ cp = k := by omega
  have hcx2 : ¬ cp = k + 6 := by omega
  clear hU1 hU2 hqb6 hd6 HEC HEW eC eW eC0 eW0 ck1 ck0 hq hokc h2
  generalize uV (m.drop (k + 6)) = d at *
  generalize uV (m.drop k) = cc at *
  generalize uniC (m.drop k) = UC at *
  generalize uniW (m.drop k) = UW at *
  have HIS : Hid (∀ W, Calls Tryd.prog 85 #[.int .i32 cc] W fun e w' => e = .returned (.bool (decide (halfU cc))) ∧ w' = W) := Lib.hid fun W => isSurr cc _ rfl W
  have HDR : Hid (∀ W, Calls Tryd.prog 86 #[.int .i32 cc, .int .i32 d] W fun e w' => e = .returned (.int .i32 (if pairOk cc d then pairV cc d else 65533)) ∧ w' = W) := Lib.hid fun W => decRune16 cc d (by omega) (by omega) W
  have hfin : Hid (∀ r : Int, -2147483648 ≤ r → r ≤ 2147483647 → Calls Tryd.prog 87 #[.slice (some ⟨gb, out.length, none⟩) (L - out.length) (L - out.length), .int .i32 r] wr (EncPost (wr.setCells gb out.length (nums (Lib.encodeRune r))) (Lib.encodeRune r).length) ∧ PBuf (wr.setCells gb out.length (nums (Lib.encodeRune r))) gb L (out ++ Lib.encodeRune r) ∧ Below w.heap.size w (wr.setCells gb out.length (nums (Lib.encodeRune r))) ∧ (Lib.encodeRune r).length ≤ 4) := Lib.hid fun r a b => by
    have hel := enc_length r
    exact ⟨encRune r a b gb L out wr hP.out (by omega), hP.out.puts _ (by omega), below_sets hbel hgb _ _, hel.2⟩
  have hnp : ¬ pairOk cc d := fun q => hh ⟨q.1, by have := q.2.1; omega⟩
  rw [if_neg hh] at hUC
  rw [if_neg hnp] at hUW
  subst hUC hUW
  have HIS2 : Hid (∀ W, Calls Tryd.prog 85 #[.int .i32 cc] W fun e w' => e = .returned (.bool false) ∧ w' = W) := Lib.hid fun W => by
    have := HIS.out W
    rw [decide_eq_false hh] at this; exact this
  obtain ⟨hE, hp3, hb3, hel⟩ := hfin.out (cc) (by omega) (by omega)
  have HE := Lib.hid hE
  have HP3 := Lib.hid hp3
  have HB3 := Lib.hid hb3
  clear hE hp3 hb3
  generalize Lib.encodeRune cc = E at *
  have HN := Lib.hid hnx
  clear HIS HDR hh hnp HU2 hnx
  clear hr1 hr2 hqb hpos h92' hc hdl hkm hP hI hbel hfin hv0 hf0
  go_wp2_with fail
  refine HU1.out.mono ?_
  rintro e w2 ⟨rfl, rfl⟩
  go_wp2_with fail
  refine (HIS2.out _).mono ?_
  rintro e w2 ⟨rfl, rfl⟩
  go_wp2_with fail
  refine HE.out.mono ?_
  rintro e w3 ⟨rfl, rfl⟩
  go_wp2
  refine ⟨_, _, _, _, _, _, _, _, _, _, _, _, _, _, _, _, _, _, _, _, _, _, _, _, _, _, _, _, _, _, _, _, _, _, _, _, _, _, _, _, _, _, _, _, _, _, _, _, _, _, _, _, _, _, _, _, _, _, _, _, _, _, _, _, _, _, _, _, _, _, _, _, _, _, _, _, _, _, _, _, _, _, _, _, _, _, _, _, _, _, _, _, _, _, _, _, _, _, _, _, _, _, _, _, _, _, _, _, _, _, _, _, _, _, _, _, _, _, _, _, _, _, _, _, _, _, _, _, _, _, _, _, _, _, _, _, _, _, _, _, _, _, _, _, _, _, _, _, _, _, _, _, _, ⟨k + 6, out ++ E, by omega, by omega, by go_num, by simp, HP3, HB3.out, HN⟩, rfl⟩
set_option maxRecDepth 1000000 in
set_option maxHeartbeats 8000000 in
theorem ouUp {c1 c2 c3 c5 c6 c7 c10 v12 v13 v14 v15 v16 c17 c18 c19 c20 c21 c22 c23 c24 c25 c26 c27 c28 c29 c30 c31 c32 c33 c34 c35 c36 c37 c38 c39 c40 c41 c42 c43 c44 c45 c46 c47 c48 c49 c50 c51 c52 c53 c54 c55 c56 c57 c58 c59 c60 c61 c62 c63 c64 c65 c66 c67 c68 c69 c70 c71 c72 c73 c74 c75 c76 c77 c78 c79 c80 c81 c82 c83 c84 c85 c86 c87 c88 c89 c90 c91 c92 c93 c94 c95 c96 c97 c98 c99 c100 c101 c102 c103 c104 c105 c106 c107 c108 c109 c110 c111 v112 v113 v114 v115 v116 v117 v118 v119 v120 v121 v122 v123 v124 v125 v126 v127 v128 v129 v130 v131 v132 v133 v134 v135 v136 v137 v138 v139 v140 v141 v142 v143 v144 v145 v146 v147 v148 v149 v150 v151 v152 v153 v154 v155 v156 v157 v158 v159 v160 v161 v162 v163 v164 v165 v166 v167 v168 v169 v170 v171 v172 v173 v174 v175 v176 v177 v178 v179 v180 v181 v182 v183 v184 v185 v186 v187 v188 v189 v190 v191 v192 v193 v194 v195 v196 v197 v198 v199 v200 v201 v202 v203 v204 v205 v206 v207 v208 v209 v210 v211 v212 v213 v214 v215 v216 v217 v218 v219 v220 v221 v222 v223 v224 v225 v226 v227 v228 v229 v230 v231 v232 v233 v234 v235 v236 v237 v238 v239 v240 v241 v242 v243 v244 v245 v246 v247 v248 v249 v250 v251 v252 v253 v254 v255 v256 v257 c258 c259 c260 : Value} {K : Act → World → Prop} {Q' : Exit → Act → World → Prop} (w : World) (g cp gb L n k : Nat) (m out : List UInt8) (wr : World) (hn : Hid (n = m.length)) (hk : k < n) (hcp : n + 1 ≤ cp) (hnn : n ≤ 1000000) (hgb : w.heap.size ≤ gb) (hLo : out.length + 8 ≤ L) (hLn : L ≤ 8 * n + 24) (hP : Hid (PBuf wr gb L out)) (hbel : Below w.heap.size w wr) (hI : Hid (DInv m k out)) (hqb : Hid (BytesAt wr g (1 + k) (m.drop k))) (hc : Hid ((92 : Nat) = natL (m.drop k) 0)) (hq : natL (m.drop k) 1 = 117) (huu : 0 ≤ uV (m.drop k)) (hh : halfU (uV (m.drop k))) (hp : pairOk (uV (m.drop k)) (uV (m.drop (k + 6))))
    (hK : ∀ a' w'', ouWE w gb L n k m (.slice (some ⟨g, 1, none⟩) n cp) c1 c2 c3 c5 c6 c7 (.slice (some ⟨gb, 0, none⟩) L L) c10 (.int .u8 92) c17 c18 c19 c20 c21 c22 c23 c24 c25 c26 c27 c28 c29 c30 c31 c32 c33 c34 c35 c36 c37 c38 c39 c40 c41 c42 c43 c44 c45 c46 c47 c48 c49 c50 c51 c52 c53 c54 c55 c56 c57 c58 c59 c60 c61 c62 c63 c64 c65 c66 c67 c68 c69 c70 c71 c72 c73 c74 c75 c76 c77 c78 c79 c80 c81 c82 c83 c84 c85 c86 c87 c88 c89 c90 c91 c92 c93 c94 c95 c96 c97 c98 c99 c100 c101 c102 c103 c104 c105 c106 c107 c108 c109 c110 c111 c258 c259 c260 a' w'' → K a' w'') :
    Code.wp Tryd.prog ouBlk (Exit.then K Q') ⟨#[.slice (some ⟨g, 1, none⟩) n cp, c1, c2, c3, .int .i64 k, c5, c6, c7, .slice (some ⟨gb, 0, none⟩) L L, .int .i64 out.length, c10, .int .u8 92, v12, v13, v14, v15, v16, c17, c18, c19, c20, c21, c22, c23, c24, c25, c26, c27, c28, c29, c30, c31, c32, c33, c34, c35, c36, c37, c38, c39, c40, c41, c42, c43, c44, c45, c46, c47, c48, c49, c50, c51, c52, c53, c54, c55, c56, c57, c58, c59, c60, c61, c62, c63, c64, c65, c66, c67, c68, c69, c70, c71, c72, c73, c74, c75, c76, c77, c78, c79, c80, c81, c82, c83, c84, c85, c86, c87, c88, c89, c90, c91, c92, c93, c94, c95, c96, c97, c98, c99, c100, c101, c102, c103, c104, c105, c106, c107, c108, c109, c110, c111, v112, v113, v114, v115, v116, v117, v118, v119, v120, v121, v122, v123, v124, v125, v126, v127, v128, v129, v130, v131, v132, v133, v134, v135, v136, v137, v138, v139, v140, v141, v142, v143, v144, v145, v146, v147, v148, v149, v150, v151, v152, v153, v154, v155, v156, v157, v158, v159, v160, v161, v162, v163, v164, v165, v166, v167, v168, v169, v170, v171, v172, v173, v174, v175, v176, v177, v178, v179, v180, v181, v182, v183, v184, v185, v186, v187, v188, v189, v190, v191, v192, v193, v194, v195, v196, v197, v198, v199, v200, v201, v202, v203, v204, v205, v206, v207, v208, v209, v210, v211, v212, v213, v214, v215, v216, v217, v218, v219, v220, v221, v222, v223, v224, v225, v226, v227, v228, v229, v230, v231, v232, v233, v234, v235, v236, v237, v238, v239, v240, v241, v242, v243, v244, v245, v246, v247, v248, v249, v250, v251, v252, v253, v254, v255, v256, v257, c258, c259, c260], []⟩ wr := by
  conv => arg 2; whnf
  have hkm : Hid (k < m.length) := by have := hn.out; show _ < _; omega
  have hpos := UInv.pos hkm.out
  have hdl : (m.drop k).length = n - k := by rw [List.length_drop, ← hn.out]
  have hokc := hI.out.okc hkm.out
  have hwl := hI.out.wle hkm.out
  have hnx := hI.out.next hkm.out
  rw [← hn.out] at hwl
  obtain ⟨v0, hv0⟩ := Option.isSome_iff_exists.1 (hP.out.some out.length (by omega))
  have hf0 := hP.out.fz out.length
  have hlo : out.length < L := by omega
  have hnl : ¬ L = out.length := by omega
  have h92' : natL (m.drop k) 0 = 92 := hc.out.symm
  have eC0 : dcC (m.drop k) = escC (m.drop k) := by unfold dcC; rw [if_pos h92']
  have eW0 : dcW (m.drop k) = escW (m.drop k) := by unfold dcW; rw [if_pos h92']
  rw [eC0, eW0] at hnx
  rw [eW0] at hwl
  unfold okPc at hokc
  rw [if_pos h92', decide_eq_true_iff, hdl] at hokc
  have h2 := hokc.1
  have ck1 := hqb.out 1 (by rw [hdl]; omega)
  rw [natL_at, show 1 + k + 1 = 1 + (k + 1) by omega] at ck1
  have HEC : escC (m.drop k) = if natL (m.drop k) 1 = 98 then [8] else if natL (m.drop k) 1 = 102 then [12] else if natL (m.drop k) 1 = 110 then [10] else if natL (m.drop k) 1 = 114 then [13] else if natL (m.drop k) 1 = 116 then [9] else if natL (m.drop k) 1 = 117 then uniC (m.drop k) else [(m.drop k).getD 1 0] := rfl
  have HEW : escW (m.drop k) = if natL (m.drop k) 1 = 117 then uniW (m.drop k) else 2 := rfl
  have hk1 : k + 1 < n := by omega
  rw [hq] at HEC HEW ck1
  have hu : 0 ≤ uV (m.drop k) := huu
  have h6 := (uV_ok hu).1
  rw [hdl] at h6
  have eW : escW (m.drop k) = uniW (m.drop k) := by rw [HEW]; rfl
  have eC : escC (m.drop k) = uniC (m.drop k) := by rw [HEC]; rfl
  rw [eC, eW] at hnx
  rw [eW] at hwl
  have ck0 := hqb.out 0 hpos
  rw [Nat.add_zero, natL_at, h92'] at ck0
  have ckk : wr.cell? ⟨g, 1 + k, none⟩ = some (.int .u8 92) := ck0
  have ck2 : wr.cell? ⟨g, 1 + (k + 1), none⟩ = some (.int .u8 117) := ck1
  have hU1 := getu4_at (m.drop k) g (1 + k) (cp - k) wr hqb.out (by rw [hdl]; omega) (by rw [hdl]; omega)
  rw [hdl] at hU1
  have HU1 := Lib.hid hU1
  have hr1 := uV_range (m.drop k)
  have hUC : uniC (m.drop k) = if halfU (uV (m.drop k)) then (if pairOk (uV (m.drop k)) (uV ((m.drop k).drop 6)) then Lib.encodeRune (pairV (uV (m.drop k)) (uV ((m.drop k).drop 6))) else BR) else Lib.encodeRune (uV (m.drop k)) := rfl
  have hUW : uniW (m.drop k) = if pairOk (uV (m.drop k)) (uV ((m.drop k).drop 6)) then 12 else 6 := rfl
  have hd6 : (m.drop k).drop 6 = m.drop (k + 6) := by rw [List.drop_drop]
  have hqb6 : BytesAt wr g (1 + (k + 6)) (m.drop (k + 6)) := fun j hj => by
    rw [List.length_drop] at hj
    have := hqb.out (6 + j) (by rw [List.length_drop]; omega)
    rw [show 1 + (k + 6) + j = 1 + k + (6 + j) by omega, this, atLd, atLd]
    congr 3
    omega
  have hU2 := getu4_at (m.drop (k + 6)) g (1 + (k + 6)) (cp - (k + 6)) wr hqb6 (by rw [List.length_drop]; have := hn.out; omega) (by rw [List.length_drop]; have := hn.out; omega)
  rw [List.length_drop, ← hn.out] at hU2
  have hr2 := uV_range (m.drop (k + 6))
  rw [hd6] at hUC hUW
  have HU2 := Lib.hid hU2
  have hcx1 : ¬ cp = k := by omega
  have hcx2 : ¬ cp = k + 6 := by omega
  clear hU1 hU2 hqb6 hd6 HEC HEW eC eW eC0 eW0 ck1 ck0 hq hokc h2
  generalize uV (m.drop (k + 6)) = d at *
  generalize uV (m.drop k) = cc at *
  generalize uniC (m.drop k) = UC at *
  generalize uniW (m.drop k) = UW at *
  have HIS : Hid (∀ W, Calls Tryd.prog 85 #[.int .i32 cc] W fun e w' => e = .returned (.bool (decide (halfU cc))) ∧ w' = W) := Lib.hid fun W => isSurr cc _ rfl W
  have HDR : Hid (∀ W, Calls Tryd.prog 86 #[.int .i32 cc, .int .i32 d] W fun e w' => e = .returned (.int .i32 (if pairOk cc d then pairV cc d else 65533)) ∧ w' = W) := Lib.hid fun W => decRune16 cc d (by omega) (by omega) W
  have hfin : Hid (∀ r : Int, -2147483648 ≤ r → r ≤ 2147483647 → Calls Tryd.prog 87 #[.slice (some ⟨gb, out.length, none⟩) (L - out.length) (L - out.length), .int .i32 r] wr (EncPost (wr.setCells gb out.length (nums (Lib.encodeRune r))) (Lib.encodeRune r).length) ∧ PBuf (wr.setCells gb out.length (nums (Lib.encodeRune r))) gb L (out ++ Lib.encodeRune r) ∧ Below w.heap.size w (wr.setCells gb out.length (nums (Lib.encodeRune r))) ∧ (Lib.encodeRune r).length ≤ 4) := Lib.hid fun r a b => by
    have hel := enc_length r
    exact ⟨encRune r a b gb L out wr hP.out (by omega), hP.out.puts _ (by omega), below_sets hbel hgb _ _, hel.2⟩
  rw [if_pos hh, if_pos hp] at hUC
  rw [if_pos hp] at hUW
  subst hUC hUW
  have HIS2 : Hid (∀ W, Calls Tryd.prog 85 #[.int .i32 cc] W fun e w' => e = .returned (.bool true) ∧ w' = W) := Lib.hid fun W => by
    have := HIS.out W
    rw [decide_eq_true hh] at this; exact this
  have hpr := pairV_range hp
  obtain ⟨hE, hp3, hb3, hel⟩ := hfin.out (pairV cc d) (by omega) (by omega)
  have HE := Lib.hid hE
  have HP3 := Lib.hid hp3
  have HB3 := Lib.hid hb3
  clear hE hp3 hb3
  have HDR2 : Hid (∀ W, Calls Tryd.prog 86 #[.int .i32 cc, .int .i32 d] W fun e w' => e = .returned (.int .i32 (pairV cc d)) ∧ w' = W) := Lib.hid fun W => by
    have := HDR.out W
    rw [if_pos hp] at this; exact this
  generalize Lib.encodeRune (pairV cc d) = E at *
  generalize pairV cc d = z at *
  have hz : (z != 65533) = true := by simp; omega
  have HN := Lib.hid hnx
  clear HIS HDR hh hp hnx
  clear hr1 hr2 hqb hpos h92' hc hdl hkm hP hI hbel hfin hv0 hf0
  go_wp2_with fail
  refine HU1.out.mono ?_
  rintro e w2 ⟨rfl, rfl⟩
  go_wp2_with fail
  refine (HIS2.out _).mono ?_
  rintro e w2 ⟨rfl, rfl⟩
  go_wp2_with fail
  refine HU2.out.mono ?_
  rintro e w2 ⟨rfl, rfl⟩
  go_wp2_with fail
  refine (HDR2.out _).mono ?_
  rintro e w2 ⟨rfl, rfl⟩
  go_wp2_with fail
  refine HE.out.mono ?_
  rintro e w3 ⟨rfl, rfl⟩
  go_wp2
  refine ⟨_, _, _, _, _, _, _, _, _, _, _, _, _, _, _, _, _, _, _, _, _, _, _, _, _, _, _, _, _, _, _, _, _, _, _, _, _, _, _, _, _, _, _, _, _, _, _, _, _, _, _, _, _, _, _, _, _, _, _, _, _, _, _, _, _, _, _, _, _, _, _, _, _, _, _, _, _, _, _, _, _, _, _, _, _, _, _, _, _, _, _, _, _, _, _, _, _, _, _, _, _, _, _, _, _, _, _, _, _, _, _, _, _, _, _, _, _, _, _, _, _, _, _, _, _, _, _, _, _, _, _, _, _, _, _, _, _, _, _, _, _, _, _, _, _, _, _, _, _, _, _, _, _, ⟨k + 12, out ++ E, by omega, by omega, by go_num, by simp, HP3, HB3.out, HN⟩, rfl⟩
set_option maxRecDepth 1000000 in
set_option maxHeartbeats 8000000 in
theorem ouUb {c1 c2 c3 c5 c6 c7 c10 v12 v13 v14 v15 v16 c17 c18 c19 c20 c21 c22 c23 c24 c25 c26 c27 c28 c29 c30 c31 c32 c33 c34 c35 c36 c37 c38 c39 c40 c41 c42 c43 c44 c45 c46 c47 c48 c49 c50 c51 c52 c53 c54 c55 c56 c57 c58 c59 c60 c61 c62 c63 c64 c65 c66 c67 c68 c69 c70 c71 c72 c73 c74 c75 c76 c77 c78 c79 c80 c81 c82 c83 c84 c85 c86 c87 c88 c89 c90 c91 c92 c93 c94 c95 c96 c97 c98 c99 c100 c101 c102 c103 c104 c105 c106 c107 c108 c109 c110 c111 v112 v113 v114 v115 v116 v117 v118 v119 v120 v121 v122 v123 v124 v125 v126 v127 v128 v129 v130 v131 v132 v133 v134 v135 v136 v137 v138 v139 v140 v141 v142 v143 v144 v145 v146 v147 v148 v149 v150 v151 v152 v153 v154 v155 v156 v157 v158 v159 v160 v161 v162 v163 v164 v165 v166 v167 v168 v169 v170 v171 v172 v173 v174 v175 v176 v177 v178 v179 v180 v181 v182 v183 v184 v185 v186 v187 v188 v189 v190 v191 v192 v193 v194 v195 v196 v197 v198 v199 v200 v201 v202 v203 v204 v205 v206 v207 v208 v209 v210 v211 v212 v213 v214 v215 v216 v217 v218 v219 v220 v221 v222 v223 v224 v225 v226 v227 v228 v229 v230 v231 v232 v233 v234 v235 v236 v237 v238 v239 v240 v241 v242 v243 v244 v245 v246 v247 v248 v249 v250 v251 v252 v253 v254 v255 v256 v257 c258 c259 c260 : Value} {K : Act → World → Prop} {Q' : Exit → Act → World → Prop} (w : World) (g cp gb L n k : Nat) (m out : List UInt8) (wr : World) (hn : Hid (n = m.length)) (hk : k < n) (hcp : n + 1 ≤ cp) (hnn : n ≤ 1000000) (hgb : w.heap.size ≤ gb) (hLo : out.length + 8 ≤ L) (hLn : L ≤ 8 * n + 24) (hP : Hid (PBuf wr gb L out)) (hbel : Below w.heap.size w wr) (hI : Hid (DInv m k out)) (hqb : Hid (BytesAt wr g (1 + k) (m.drop k))) (hc : Hid ((92 : Nat) = natL (m.drop k) 0)) (hq : natL (m.drop k) 1 = 117) (huu : 0 ≤ uV (m.drop k)) (hh : halfU (uV (m.drop k))) (hp : ¬ pairOk (uV (m.drop k)) (uV (m.drop (k + 6))))
    (hK : ∀ a' w'', ouWE w gb L n k m (.slice (some ⟨g, 1, none⟩) n cp) c1 c2 c3 c5 c6 c7 (.slice (some ⟨gb, 0, none⟩) L L) c10 (.int .u8 92) c17 c18 c19 c20 c21 c22 c23 c24 c25 c26 c27 c28 c29 c30 c31 c32 c33 c34 c35 c36 c37 c38 c39 c40 c41 c42 c43 c44 c45 c46 c47 c48 c49 c50 c51 c52 c53 c54 c55 c56 c57 c58 c59 c60 c61 c62 c63 c64 c65 c66 c67 c68 c69 c70 c71 c72 c73 c74 c75 c76 c77 c78 c79 c80 c81 c82 c83 c84 c85 c86 c87 c88 c89 c90 c91 c92 c93 c94 c95 c96 c97 c98 c99 c100 c101 c102 c103 c104 c105 c106 c107 c108 c109 c110 c111 c258 c259 c260 a' w'' → K a' w'') :
    Code.wp Tryd.prog ouBlk (Exit.then K Q') ⟨#[.slice (some ⟨g, 1, none⟩) n cp, c1, c2, c3, .int .i64 k, c5, c6, c7, .slice (some ⟨gb, 0, none⟩) L L, .int .i64 out.length, c10, .int .u8 92, v12, v13, v14, v15, v16, c17, c18, c19, c20, c21, c22, c23, c24, c25, c26, c27, c28, c29, c30, c31, c32, c33, c34, c35, c36, c37, c38, c39, c40, c41, c42, c43, c44, c45, c46, c47, c48, c49, c50, c51, c52, c53, c54, c55, c56, c57, c58, c59, c60, c61, c62, c63, c64, c65, c66, c67, c68, c69, c70, c71, c72, c73, c74, c75, c76, c77, c78, c79, c80, c81, c82, c83, c84, c85, c86, c87, c88, c89, c90, c91, c92, c93, c94, c95, c96, c97, c98, c99, c100, c101, c102, c103, c104, c105, c106, c107, c108, c109, c110, c111, v112, v113, v114, v115, v116, v117, v118, v119, v120, v121, v122, v123, v124, v125, v126, v127, v128, v129, v130, v131, v132, v133, v134, v135, v136, v137, v138, v139, v140, v141, v142, v143, v144, v145, v146, v147, v148, v149, v150, v151, v152, v153, v154, v155, v156, v157, v158, v159, v160, v161, v162, v163, v164, v165, v166, v167, v168, v169, v170, v171, v172, v173, v174, v175, v176, v177, v178, v179, v180, v181, v182, v183, v184, v185, v186, v187, v188, v189, v190, v191, v192, v193, v194, v195, v196, v197, v198, v199, v200, v201, v202, v203, v204, v205, v206, v207, v208, v209, v210, v211, v212, v213, v214, v215, v216, v217, v218, v219, v220, v221, v222, v223, v224, v225, v226, v227, v228, v229, v230, v231, v232, v233, v234, v235, v236, v237, v238, v239, v240, v241, v242, v243, v244, v245, v246, v247, v248, v249, v250, v251, v252, v253, v254, v255, v256, v257, c258, c259, c260], []⟩ wr := by
  conv => arg 2; whnf
  have hkm : Hid (k < m.length) := by have := hn.out; show _ < _; omega
  have hpos := UInv.pos hkm.out
  have hdl : (m.drop k).length = n - k := by rw [List.length_drop, ← hn.out]
  have hokc := hI.out.okc hkm.out
  have hwl := hI.out.wle hkm.out
  have hnx := hI.out.next hkm.out
  rw [← hn.out] at hwl
  obtain ⟨v0, hv0⟩ := Option.isSome_iff_exists.1 (hP.out.some out.length (by omega))
  have hf0 := hP.out.fz out.length
  have hlo : out.length < L := by omega
  have hnl : ¬ L = out.length := by omega
  have h92' : natL (m.drop k) 0 = 92 := hc.out.symm
  have eC0 : dcC (m.drop k) = escC (m.drop k) := by unfold dcC; rw [if_pos h92']
  have eW0 : dcW (m.drop k) = escW (m.drop k) := by unfold dcW; rw [if_pos h92']
  rw [eC0, eW0] at hnx
  rw [eW0] at hwl
  unfold okPc at hokc
  rw [if_pos h92', decide_eq_true_iff, hdl] at hokc
  have h2 := hokc.1
  have ck1 := hqb.out 1 (by rw [hdl]; omega)
  rw [natL_at, show 1 + k + 1 = 1 + (k + 1) by omega] at ck1
  have HEC : escC (m.drop k) = if natL (m.drop k) 1 = 98 then [8] else if natL (m.drop k) 1 = 102 then [12] else if natL (m.drop k) 1 = 110 then [10] else if natL (m.drop k) 1 = 114 then [13] else if natL (m.drop k) 1 = 116 then [9] else if natL (m.drop k) 1 = 117 then uniC (m.drop k) else [(m.drop k).getD 1 0] := rfl
  have HEW : escW (m.drop k) = if natL (m.drop k) 1 = 117 then uniW (m.drop k) else 2 := rfl
  have hk1 : k + 1 < n := by omega
  rw [hq] at HEC HEW ck1
  have hu : 0 ≤ uV (m.drop k) := huu
  have h6 := (uV_ok hu).1
  rw [hdl] at h6
  have eW : escW (m.drop k) = uniW (m.drop k) := by rw [HEW]; rfl
  have eC : escC (m.drop k) = uniC (m.drop k) := by rw [HEC]; rfl
  rw [eC, eW] at hnx
  rw [eW] at hwl
  have ck0 := hqb.out 0 hpos
  rw [Nat.add_zero, natL_at, h92'] at ck0
  have ckk : wr.cell? ⟨g, 1 + k, none⟩ = some (.int .u8 92) := ck0
  have ck2 : wr.cell? ⟨g, 1 + (k + 1), none⟩ = some (.int .u8 117) := ck1
  have hU1 := getu4_at (m.drop k) g (1 + k) (cp - k) wr hqb.out (by rw [hdl]; omega) (by rw [hdl]; omega)
  rw [hdl] at hU1
  have HU1 := Lib.hid hU1
  have hr1 := uV_range (m.drop k)
  have hUC : uniC (m.drop k) = if halfU (uV (m.drop k)) then (if pairOk (uV (m.drop k)) (uV ((m.drop k).drop 6)) then Lib.encodeRune (pairV (uV (m.drop k)) (uV ((m.drop k).drop 6))) else BR) else Lib.encodeRune (uV (m.drop k)) := rfl
  have hUW : uniW (m.drop k) = if pairOk (uV (m.drop k)) (uV ((m.drop k).drop 6)) then 12 else 6 := rfl
  have hd6 : (m.drop k).drop 6 = m.drop (k + 6) := by rw [List.drop_drop]
  have hqb6 : BytesAt wr g (1 + (k + 6)) (m.drop (k + 6)) := fun j hj => by
    rw [List.length_drop] at hj
    have := hqb.out (6 + j) (by rw [List.length_drop]; omega)
    rw [show 1 + (k + 6) + j = 1 + k + (6 + j) by omega, this, atLd, atLd]
    congr 3
    omega
  have hU2 := getu4_at (m.drop (k + 6)) g (1 + (k + 6)) (cp - (k + 6)) wr hqb6 (by rw [List.length_drop]; have := hn.out; omega) (by rw [List.length_drop]; have := hn.out; omega)
  rw [List.length_drop, ← hn.out] at hU2
  have hr2 := uV_range (m.drop (k + 6))
  rw [hd6] at hUC hUW
  have HU2 := Lib.hid hU2
  have hcx1 : ¬ cp = k := by omega
  have hcx2 : ¬ cp = k + 6 := by omega
  clear hU1 hU2 hqb6 hd6 HEC HEW eC eW eC0 eW0 ck1 ck0 hq hokc h2
  generalize uV (m.drop (k + 6)) = d at *
  generalize uV (m.drop k) = cc at *
  generalize uniC (m.drop k) = UC at *
  generalize uniW (m.drop k) = UW at *
  have HIS : Hid (∀ W, Calls Tryd.prog 85 #[.int .i32 cc] W fun e w' => e = .returned (.bool (decide (halfU cc))) ∧ w' = W) := Lib.hid fun W => isSurr cc _ rfl W
  have HDR : Hid (∀ W, Calls Tryd.prog 86 #[.int .i32 cc, .int .i32 d] W fun e w' => e = .returned (.int .i32 (if pairOk cc d then pairV cc d else 65533)) ∧ w' = W) := Lib.hid fun W => decRune16 cc d (by omega) (by omega) W
  have hfin : Hid (∀ r : Int, -2147483648 ≤ r → r ≤ 2147483647 → Calls Tryd.prog 87 #[.slice (some ⟨gb, out.length, none⟩) (L - out.length) (L - out.length), .int .i32 r] wr (EncPost (wr.setCells gb out.length (nums (Lib.encodeRune r))) (Lib.encodeRune r).length) ∧ PBuf (wr.setCells gb out.length (nums (Lib.encodeRune r))) gb L (out ++ Lib.encodeRune r) ∧ Below w.heap.size w (wr.setCells gb out.length (nums (Lib.encodeRune r))) ∧ (Lib.encodeRune r).length ≤ 4) := Lib.hid fun r a b => by
    have hel := enc_length r
    exact ⟨encRune r a b gb L out wr hP.out (by omega), hP.out.puts _ (by omega), below_sets hbel hgb _ _, hel.2⟩
  rw [if_pos hh, if_neg hp] at hUC
  rw [if_neg hp] at hUW
  subst hUC hUW
  have HIS2 : Hid (∀ W, Calls Tryd.prog 85 #[.int .i32 cc] W fun e w' => e = .returned (.bool true) ∧ w' = W) := Lib.hid fun W => by
    have := HIS.out W
    rw [decide_eq_true hh] at this; exact this
  obtain ⟨hE, hp3, hb3, hel⟩ := hfin.out (65533) (by omega) (by omega)
  have HE := Lib.hid hE
  have HP3 := Lib.hid hp3
  have HB3 := Lib.hid hb3
  clear hE hp3 hb3
  rw [BR_enc] at HE HP3 HB3 hel
  have HDR2 : Hid (∀ W, Calls Tryd.prog 86 #[.int .i32 cc, .int .i32 d] W fun e w' => e = .returned (.int .i32 65533) ∧ w' = W) := Lib.hid fun W => by
    have := HDR.out W
    rw [if_neg hp] at this; exact this
  generalize BR = E at *
  have HN := Lib.hid hnx
  clear HIS HDR hh hp hnx
  clear hr1 hr2 hqb hpos h92' hc hdl hkm hP hI hbel hfin hv0 hf0
  go_wp2_with fail
  refine HU1.out.mono ?_
  rintro e w2 ⟨rfl, rfl⟩
  go_wp2_with fail
  refine (HIS2.out _).mono ?_
  rintro e w2 ⟨rfl, rfl⟩
  go_wp2_with fail
  refine HU2.out.mono ?_
  rintro e w2 ⟨rfl, rfl⟩
  go_wp2_with fail
  refine (HDR2.out _).mono ?_
  rintro e w2 ⟨rfl, rfl⟩
  go_wp2_with fail
  refine HE.out.mono ?_
  rintro e w3 ⟨rfl, rfl⟩
  go_wp2
  refine ⟨_, _, _, _, _, _, _, _, _, _, _, _, _, _, _, _, _, _, _, _, _, _, _, _, _, _, _, _, _, _, _, _, _, _, _, _, _, _, _, _, _, _, _, _, _, _, _, _, _, _, _, _, _, _, _, _, _, _, _, _, _, _, _, _, _, _, _, _, _, _, _, _, _, _, _, _, _, _, _, _, _, _, _, _, _, _, _, _, _, _, _, _, _, _, _, _, _, _, _, _, _, _, _, _, _, _, _, _, _, _, _, _, _, _, _, _, _, _, _, _, _, _, _, _, _, _, _, _, _, _, _, _, _, _, _, _, _, _, _, _, _, _, _, _, _, _, _, _, _, _, _, _, _, ⟨k + 6, out ++ E, by omega, by omega, by go_num, by simp, HP3, HB3.out, HN⟩, rfl⟩
set_option maxRecDepth 1000000 in
set_option maxHeartbeats 8000000 in
theorem ouAll {c1 c2 c3 c5 c6 c7 c10 v12 v13 v14 v15 v16 c17 c18 c19 c20 c21 c22 c23 c24 c25 c26 c27 c28 c29 c30 c31 c32 c33 c34 c35 c36 c37 c38 c39 c40 c41 c42 c43 c44 c45 c46 c47 c48 c49 c50 c51 c52 c53 c54 c55 c56 c57 c58 c59 c60 c61 c62 c63 c64 c65 c66 c67 c68 c69 c70 c71 c72 c73 c74 c75 c76 c77 c78 c79 c80 c81 c82 c83 c84 c85 c86 c87 c88 c89 c90 c91 c92 c93 c94 c95 c96 c97 c98 c99 c100 c101 c102 c103 c104 c105 c106 c107 c108 c109 c110 c111 v112 v113 v114 v115 v116 v117 v118 v119 v120 v121 v122 v123 v124 v125 v126 v127 v128 v129 v130 v131 v132 v133 v134 v135 v136 v137 v138 v139 v140 v141 v142 v143 v144 v145 v146 v147 v148 v149 v150 v151 v152 v153 v154 v155 v156 v157 v158 v159 v160 v161 v162 v163 v164 v165 v166 v167 v168 v169 v170 v171 v172 v173 v174 v175 v176 v177 v178 v179 v180 v181 v182 v183 v184 v185 v186 v187 v188 v189 v190 v191 v192 v193 v194 v195 v196 v197 v198 v199 v200 v201 v202 v203 v204 v205 v206 v207 v208 v209 v210 v211 v212 v213 v214 v215 v216 v217 v218 v219 v220 v221 v222 v223 v224 v225 v226 v227 v228 v229 v230 v231 v232 v233 v234 v235 v236 v237 v238 v239 v240 v241 v242 v243 v244 v245 v246 v247 v248 v249 v250 v251 v252 v253 v254 v255 v256 v257 c258 c259 c260 : Value} {K : Act → World → Prop} {Q' : Exit → Act → World → Prop} (w : World) (g cp gb L n k : Nat) (m out : List UInt8) (c : Nat) (wr : World) (hn : Hid (n = m.length)) (hk : k < n) (hcp : n + 1 ≤ cp) (hnn : n ≤ 1000000) (hgb : w.heap.size ≤ gb) (hLo : out.length + 8 ≤ L) (hLn : L ≤ 8 * n + 24) (hP : Hid (PBuf wr gb L out)) (hbel : Below w.heap.size w wr) (hI : Hid (DInv m k out)) (hqb : Hid (BytesAt wr g (1 + k) (m.drop k))) (hc : Hid (c = natL (m.drop k) 0)) (hc256 : c < 256) (hT : Hid (Lib.Utf8Tabs 3 4 wr))
    (hK : ∀ a' w'', ouWE w gb L n k m (.slice (some ⟨g, 1, none⟩) n cp) c1 c2 c3 c5 c6 c7 (.slice (some ⟨gb, 0, none⟩) L L) c10 (.int .u8 c) c17 c18 c19 c20 c21 c22 c23 c24 c25 c26 c27 c28 c29 c30 c31 c32 c33 c34 c35 c36 c37 c38 c39 c40 c41 c42 c43 c44 c45 c46 c47 c48 c49 c50 c51 c52 c53 c54 c55 c56 c57 c58 c59 c60 c61 c62 c63 c64 c65 c66 c67 c68 c69 c70 c71 c72 c73 c74 c75 c76 c77 c78 c79 c80 c81 c82 c83 c84 c85 c86 c87 c88 c89 c90 c91 c92 c93 c94 c95 c96 c97 c98 c99 c100 c101 c102 c103 c104 c105 c106 c107 c108 c109 c110 c111 c258 c259 c260 a' w'' → K a' w'') :
    Code.wp Tryd.prog ouBlk (Exit.then K Q') ⟨#[.slice (some ⟨g, 1, none⟩) n cp, c1, c2, c3, .int .i64 k, c5, c6, c7, .slice (some ⟨gb, 0, none⟩) L L, .int .i64 out.length, c10, .int .u8 c, v12, v13, v14, v15, v16, c17, c18, c19, c20, c21, c22, c23, c24, c25, c26, c27, c28, c29, c30, c31, c32, c33, c34, c35, c36, c37, c38, c39, c40, c41, c42, c43, c44, c45, c46, c47, c48, c49, c50, c51, c52, c53, c54, c55, c56, c57, c58, c59, c60, c61, c62, c63, c64, c65, c66, c67, c68, c69, c70, c71, c72, c73, c74, c75, c76, c77, c78, c79, c80, c81, c82, c83, c84, c85, c86, c87, c88, c89, c90, c91, c92, c93, c94, c95, c96, c97, c98, c99, c100, c101, c102, c103, c104, c105, c106, c107, c108, c109, c110, c111, v112, v113, v114, v115, v116, v117, v118, v119, v120, v121, v122, v123, v124, v125, v126, v127, v128, v129, v130, v131, v132, v133, v134, v135, v136, v137, v138, v139, v140, v141, v142, v143, v144, v145, v146, v147, v148, v149, v150, v151, v152, v153, v154, v155, v156, v157, v158, v159, v160, v161, v162, v163, v164, v165, v166, v167, v168, v169, v170, v171, v172, v173, v174, v175, v176, v177, v178, v179, v180, v181, v182, v183, v184, v185, v186, v187, v188, v189, v190, v191, v192, v193, v194, v195, v196, v197, v198, v199, v200, v201, v202, v203, v204, v205, v206, v207, v208, v209, v210, v211, v212, v213, v214, v215, v216, v217, v218, v219, v220, v221, v222, v223, v224, v225, v226, v227, v228, v229, v230, v231, v232, v233, v234, v235, v236, v237, v238, v239, v240, v241, v242, v243, v244, v245, v246, v247, v248, v249, v250, v251, v252, v253, v254, v255, v256, v257, c258, c259, c260], []⟩ wr := by
  have hkm : k < m.length := by have := hn.out; omega
  have hokc := hI.out.okc hkm
  unfold okPc at hokc
  by_cases h92 : c = 92
  · subst h92
    have h92' : natL (m.drop k) 0 = 92 := hc.out.symm
    rw [if_pos h92', decide_eq_true_iff] at hokc
    rcases hokc.2 with q | q | q | q | q | q | q | q | ⟨q, hu⟩
    · exact ouL34 w g cp gb L n k m out wr hn hk hcp hnn hgb hLo hLn hP hbel hI hqb hc q hK
    · exact ouL92 w g cp gb L n k m out wr hn hk hcp hnn hgb hLo hLn hP hbel hI hqb hc q hK
    · exact ouL47 w g cp gb L n k m out wr hn hk hcp hnn hgb hLo hLn hP hbel hI hqb hc q hK
    · exact ouL98 w g cp gb L n k m out wr hn hk hcp hnn hgb hLo hLn hP hbel hI hqb hc q hK
    · exact ouL102 w g cp gb L n k m out wr hn hk hcp hnn hgb hLo hLn hP hbel hI hqb hc q hK
    · exact ouL110 w g cp gb L n k m out wr hn hk hcp hnn hgb hLo hLn hP hbel hI hqb hc q hK
    · exact ouL114 w g cp gb L n k m out wr hn hk hcp hnn hgb hLo hLn hP hbel hI hqb hc q hK
    · exact ouL116 w g cp gb L n k m out wr hn hk hcp hnn hgb hLo hLn hP hbel hI hqb hc q hK
    · by_cases hh : halfU (uV (m.drop k))
      · by_cases hp : pairOk (uV (m.drop k)) (uV (m.drop (k + 6)))
        · exact ouUp w g cp gb L n k m out wr hn hk hcp hnn hgb hLo hLn hP hbel hI hqb hc q hu hh hp hK
        · exact ouUb w g cp gb L n k m out wr hn hk hcp hnn hgb hLo hLn hP hbel hI hqb hc q hu hh hp hK
      · exact ouUn w g cp gb L n k m out wr hn hk hcp hnn hgb hLo hLn hP hbel hI hqb hc q hu hh hK
  · by_cases h128 : c < 128
    · exact ouAsc w g cp gb L n k m out c wr hn hk hcp hnn hgb hLo hLn hP hbel hI hqb hc ⟨h92, h128⟩ hK
    · exact ouMul w g cp gb L n k m out c wr hn hk hcp hnn hgb hLo hLn hP hbel hI hqb hc (by omega) hc256 hT hK
end Go.Proofs.YtklncgmfbflooaaDoor
