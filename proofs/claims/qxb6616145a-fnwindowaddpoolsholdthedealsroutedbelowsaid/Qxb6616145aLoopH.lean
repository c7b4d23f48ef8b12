import Derived.Test.Qxb6616145aLoopG
namespace Go.Proofs.Qxb6616145a
open Go.RowKit

set_option maxRecDepth 100000 in
set_option maxHeartbeats 4000000 in
theorem loop3 (N : Act → World → Prop) (W U : Nat) (a0 a1 a2 : Option Addr) (n0 n1 n2 c0 c1 c2 n : Nat) (rel rt : Nat → Int) (ia : Nat → Option Addr) (il ic : Nat → Nat) (ms : Nat → Nat → Int) (dbs : Nat → Nat) (pvs : Nat → Value) (gss : Nat → List Grp) (w2 w0 : World)
    (hS : Still w2 W U a0 a1 a2 n0 n1 n2 n rel rt ia il ic ms dbs pvs gss) (hn0 : n ≤ n0) (hn1 : n ≤ n1) (hn2 : n ≤ n2) (hn4 : n ≤ 4096) (hsum : sumTo il n ≤ 1048576) (hms : ∀ i, i < n → ∀ j, j < il i → -9223372036854775808 ≤ ms i j ∧ ms i j ≤ 9223372036854775807) (hfr0 : Fr (fun k => w2.heap.size ≤ k) w2 w0) (hm0 : ∃ mg, FRow w0 w2.heap.size 3 n mg) (c3 c4 c5 c6 c10 c12 c15 c16 c17 c18 c19 c20 c21 c22 c23 c24 c25 c26 c27 c28 c29 c30 c31 c32 c33 c34 c35 c36 c37 c38 c39 c40 c41 c42 c43 c44 c45 c46 c47 c48 c49 c50 c51 c52 c53 c54 c55 c56 c57 c58 c59 c60 c61 c62 c63 c64 c65 c66 c67 c68 c69 c70 c71 c72 c73 c74 c75 c76 c77 c78 c79 c80 c81 c82 c83 c84 c85 c86 c87 c88 c89 c90 c91 c92 c93 c94 c95 c96 c97 c98 c99 c100 c101 c102 c103 c104 c105 c106 c107 c108 c109 c110 c111 c112 c113 c114 c115 c116 c117 c118 c119 c120 c121 c122 c123 c124 c125 c126 c127 c128 c129 c130 c131 c132 c133 c134 c135 c136 c137 c138 c139 c140 c141 c142 c143 c144 c145 c146 c147 c148 c149 c150 c151 c152 c153 c154 c155 c156 c157 c158 c159 c160 c161 c162 c163 c164 c165 c166 c167 c168 c169 c170 c171 c172 c173 c174 c175 c176 c177 c178 c179 c180 c181 c182 c183 c184 c185 c186 c187 c188 c189 c190 c191 c192 c193 c194 c195 c196 c197 c198 c199 c200 c201 c202 c203 c204 c205 c206 c207 c208 c209 c210 c211 c212 c213 c214 c215 c216 c217 c218 c219 c220 c221 c222 c223 c224 c225 c226 c227 c228 c229 c230 c231 c232 c233 c234 c235 c236 c237 c238 c239 c240 c241 c242 c243 c244 c245 c246 c247 c248 c249 c250 c251 c252 c253 c254 c255 c256 c257 c258 c259 c260 c261 c262 c263 c264 c265 c266 c267 c268 c269 c270 c271 c272 c273 c274 c275 c276 c277 c278 c279 c280 c281 c282 c283 c284 c285 c286 c287 c288 c289 c290 c291 c292 c293 c294 c295 c296 : Value)
    (hexit : ∀ (wr : World) (v6 v14 v15 v16 v17 v18 v19 v20 v21 v22 v23 v24 v25 v26 v27 v28 v29 v106 v107 v108 v109 v110 v111 v112 v113 v114 v115 v116 v117 v118 v119 v120 v121 v122 v123 v124 v125 v126 v127 v128 v129 v130 v131 v132 v133 v134 v135 v136 v137 v138 v139 v140 v141 v142 v143 v144 v145 v146 v147 v148 v149 v150 v151 v152 v153 v154 v155 v156 v157 v158 v159 v160 v161 v162 v163 v164 v165 v166 v167 v168 v169 v170 v171 v172 v173 v174 v175 v176 v177 v178 v179 v180 v181 v182 v183 v184 v185 v186 v187 v188 v189 v190 v191 v192 v193 v194 v195 v196 v197 v198 v199 v200 v201 v202 v203 v204 v205 v206 v207 v208 v209 v210 v211 v212 v213 v214 v215 v216 v217 v218 v219 v220 v221 v222 v223 v224 v225 v226 v227 v228 v229 v230 v231 v232 v233 v234 v235 v236 v237 v238 v239 v240 v241 v242 v243 v244 v245 v246 v247 v248 v249 v250 v251 v252 v253 v254 v255 v256 v257 v258 v259 v260 v261 v262 v263 v264 v265 v266 v267 v268 v269 v270 v271 v272 v273 v274 v275 v276 v277 v278 v279 v280 v281 v282 v283 v284 v285 v286 v287 v288 v289 v290 v291 v292 v293 v294 v295 v296 : Value), Fr (fun k => w2.heap.size ≤ k) w2 wr → N ⟨#[.slice a0 n0 c0, .slice a1 n1 c1, .slice a2 n2 c2, c3, c4, c5, v6, .int .i64 n, .slice (some ⟨W, 0, none⟩) n n, .slice (some ⟨W + 1, 0, none⟩) n n, c10, .pointer (some ⟨U, 0, none⟩), c12, .slice (some ⟨w2.heap.size, 0, none⟩) n n, v14, v15, v16, v17, v18, v19, v20, v21, v22, v23, v24, v25, v26, v27, v28, v29, c30, c31, c32, c33, c34, c35, c36, c37, c38, c39, c40, c41, c42, c43, c44, c45, c46, c47, c48, c49, c50, c51, c52, c53, c54, c55, c56, c57, c58, c59, c60, c61, c62, c63, c64, c65, c66, c67, c68, c69, c70, c71, c72, c73, c74, c75, c76, c77, c78, c79, c80, c81, c82, c83, c84, c85, c86, c87, c88, c89, c90, c91, c92, c93, c94, c95, c96, c97, c98, c99, c100, c101, c102, c103, c104, c105, v106, v107, v108, v109, v110, v111, v112, v113, v114, v115, v116, v117, v118, v119, v120, v121, v122, v123, v124, v125, v126, v127, v128, v129, v130, v131, v132, v133, v134, v135, v136, v137, v138, v139, v140, v141, v142, v143, v144, v145, v146, v147, v148, v149, v150, v151, v152, v153, v154, v155, v156, v157, v158, v159, v160, v161, v162, v163, v164, v165, v166, v167, v168, v169, v170, v171, v172, v173, v174, v175, v176, v177, v178, v179, v180, v181, v182, v183, v184, v185, v186, v187, v188, v189, v190, v191, v192, v193, v194, v195, v196, v197, v198, v199, v200, v201, v202, v203, v204, v205, v206, v207, v208, v209, v210, v211, v212, v213, v214, v215, v216, v217, v218, v219, v220, v221, v222, v223, v224, v225, v226, v227, v228, v229, v230, v231, v232, v233, v234, v235, v236, v237, v238, v239, v240, v241, v242, v243, v244, v245, v246, v247, v248, v249, v250, v251, v252, v253, v254, v255, v256, v257, v258, v259, v260, v261, v262, v263, v264, v265, v266, v267, v268, v269, v270, v271, v272, v273, v274, v275, v276, v277, v278, v279, v280, v281, v282, v283, v284, v285, v286, v287, v288, v289, v290, v291, v292, v293, v294, v295, v296], []⟩ wr) :
    Code.wp Try.prog (blk 2) (Exit.then N (fun _ _ _ => False)) ⟨#[.slice a0 n0 c0, .slice a1 n1 c1, .slice a2 n2 c2, c3, c4, c5, c6, .int .i64 n, .slice (some ⟨W, 0, none⟩) n n, .slice (some ⟨W + 1, 0, none⟩) n n, c10, .pointer (some ⟨U, 0, none⟩), c12, .slice (some ⟨w2.heap.size, 0, none⟩) n n, .int .i64 0, c15, c16, c17, c18, c19, c20, c21, c22, c23, c24, c25, c26, c27, c28, c29, c30, c31, c32, c33, c34, c35, c36, c37, c38, c39, c40, c41, c42, c43, c44, c45, c46, c47, c48, c49, c50, c51, c52, c53, c54, c55, c56, c57, c58, c59, c60, c61, c62, c63, c64, c65, c66, c67, c68, c69, c70, c71, c72, c73, c74, c75, c76, c77, c78, c79, c80, c81, c82, c83, c84, c85, c86, c87, c88, c89, c90, c91, c92, c93, c94, c95, c96, c97, c98, c99, c100, c101, c102, c103, c104, c105, c106, c107, c108, c109, c110, c111, c112, c113, c114, c115, c116, c117, c118, c119, c120, c121, c122, c123, c124, c125, c126, c127, c128, c129, c130, c131, c132, c133, c134, c135, c136, c137, c138, c139, c140, c141, c142, c143, c144, c145, c146, c147, c148, c149, c150, c151, c152, c153, c154, c155, c156, c157, c158, c159, c160, c161, c162, c163, c164, c165, c166, c167, c168, c169, c170, c171, c172, c173, c174, c175, c176, c177, c178, c179, c180, c181, c182, c183, c184, c185, c186, c187, c188, c189, c190, c191, c192, c193, c194, c195, c196, c197, c198, c199, c200, c201, c202, c203, c204, c205, c206, c207, c208, c209, c210, c211, c212, c213, c214, c215, c216, c217, c218, c219, c220, c221, c222, c223, c224, c225, c226, c227, c228, c229, c230, c231, c232, c233, c234, c235, c236, c237, c238, c239, c240, c241, c242, c243, c244, c245, c246, c247, c248, c249, c250, c251, c252, c253, c254, c255, c256, c257, c258, c259, c260, c261, c262, c263, c264, c265, c266, c267, c268, c269, c270, c271, c272, c273, c274, c275, c276, c277, c278, c279, c280, c281, c282, c283, c284, c285, c286, c287, c288, c289, c290, c291, c292, c293, c294, c295, c296], []⟩ w0 := by
  have HS : Hid (Still w2 W U a0 a1 a2 n0 n1 n2 n rel rt ia il ic ms dbs pvs gss) := hS
  have HSUM : Hid (sumTo il n ≤ 1048576) := hsum
  have HMS : Hid (∀ i, i < n → ∀ j, j < il i → -9223372036854775808 ≤ ms i j ∧ ms i j ≤ 9223372036854775807) := hms
  have HM0 : Hid (∃ mg, FRow w0 w2.heap.size 3 n mg) := hm0
  have HFR0 : Hid (Fr (fun k => w2.heap.size ≤ k) w2 w0) := hfr0
  have HEX := Hid.mk' hexit
  clear hS hexit hsum hms hm0 hfr0
  conv => arg 2; whnf
  conv => arg 4; zeta
  go_wp2
  go_loopg [14, 15, 16, 17, 18, 19, 20, 21, 22, 23, 24, 25, 26, 27, 28, 29] 5 (fun gk s14 _ _ _ _ _ _ _ _ _ _ _ _ _ _ _ wr => ∃ (b : Nat), s14 = .int .i64 b ∧ b ≤ 4 ∧ 4 - b < gk ∧ Fr (fun k => w2.heap.size ≤ k) w2 wr ∧ ∃ mg, FRow wr w2.heap.size 3 n mg)
  case atStart => exact ⟨0, rfl, by omega, by omega, HFR0.out, HM0.out⟩
  case round =>
    obtain ⟨b, rfl, hb4, hgk, hfr, hmg⟩ := hrel
    have HFR : Hid (Fr (fun k => w2.heap.size ≤ k) w2 wr) := hfr
    have HMG : Hid (∃ mg, FRow wr w2.heap.size 3 n mg) := hmg
    clear hfr hmg
    by_cases hb : b < 4
    · have hb3 : (b : Int) ≤ 3 := by omega
      go_upto_block 6 with fail
      refine wp_normal (loop4 _ W U a0 a1 a2 n0 n1 n2 c0 c1 c2 n b rel rt ia il ic ms dbs pvs gss w2 wr HS.out hn0 hn2 hn4 hb HFR.out HMG.out _ _ _ _ _ _ _ _ _ _ _ _ _ _ _ _ _ _ _ _ _ _ _ _ _ _ _ _ _ _ _ _ _ _ _ _ _ _ _ _ _ _ _ _ _ _ _ _ _ _ _ _ _ _ _ _ _ _ _ _ _ _ _ _ _ _ _ _ _ _ _ _ _ _ _ _ _ _ _ _ _ _ _ _ _ _ _ _ _ _ _ _ _ _ _ _ _ _ _ _ _ _ _ _ _ _ _ _ _ _ _ _ _ _ _ _ _ _ _ _ _ _ _ _ _ _ _ _ _ _ _ _ _ _ _ _ _ _ _ _ _ _ _ _ _ _ _ _ _ _ _ _ _ _ _ _ _ _ _ _ _ _ _ _ _ _ _ _ _ _ _ _ _ _ _ _ _ _ _ _ _ _ _ _ _ _ _ _ _ _ _ _ _ _ _ _ _ _ _ _ _ _ _ _ _ _ _ _ _ _ _ _ _ _ _ _ _ _ _ _ _ _ _ _ _ _ _ _ _ _ _ _ _ _ _ _ _ _ _ _ _ _ _ _ _ _ _ _ _ _ _ _ _ _ _ _ _ _ _ _ _ _ _ _ _ _ _ _ _ _ _ _ _ _ _ _ _ _ _ _ _ _ _ _ _ _ _ ?_)
      intro w4 v15 v16 x17 x18 x110 x111 x112 x113 x114 x115 x116 x117 x118 x119 x120 x121 x122 x123 x124 x125 x126 x127 x128 x129 x130 x131 x132 x133 x134 x135 x136 x137 x138 x139 x140 x141 x142 x143 x144 x145 x146 x147 x148 x149 x150 x151 x152 x153 x154 x155 x156 x157 x158 x159 x160 x161 x162 x163 x164 x165 x166 x167 x168 x169 x170 x171 x172 x173 hm4
      obtain ⟨pk, ck, rfl, -, -, hpk⟩ := own_read _ (0, 0) _ hm4.o5
      obtain ⟨pr, cr, rfl, -, -, hpr⟩ := own_read _ (0, 0) _ hm4.o6
      obtain ⟨L, hL⟩ : ∃ L, (keys rt rel (mskOf il ms) b n).length = L := ⟨_, rfl⟩
      rw [hL] at hm4 hpk hpr ⊢
      have HM4 := Hid.mk' hm4
      have HST : Hid (Still w4 W U a0 a1 a2 n0 n1 n2 n rel rt ia il ic ms dbs pvs gss) := HS.out.fr hm4.fr
      have HPK := Hid.mk' hpk
      have HPR := Hid.mk' hpr
      have HL : Hid ((keys rt rel (mskOf il ms) b n).length = L) := hL
      have hc11 := poolGroups U U b pvs gss w4 HST.out.win hb
      rw [(HST.out.grp hb).1, hL] at hc11
      have HC11 := Hid.mk' hc11
      have HMB : Hid (∀ j, j < n → w4.cell? ⟨w2.heap.size, j, none⟩ = some (.int .i64 (memb rt rel (mskOf il ms) b j))) := by
        obtain ⟨mg, h1, h2⟩ := hm4.row
        exact fun j hj => by rw [h1.cell hj, h2 j hj]
      clear hm4 hpk hpr hL hc11
      go_upto_block 10 with (go_at_call 11; refine HC11.out.mono ?_; rintro e w4 ⟨rfl, rfl⟩; dsimp only)
      refine wp_normal (loop6 _ W U w2.heap.size a0 a1 a2 n0 n1 n2 c1 n b L ck cr pk pr rel rt ia il ic ms dbs pvs gss w4 HST.out hn1 hn4 hb HL.out HSUM.out HMS.out HMB.out HPK.out HPR.out _ _ _ _ _ _ _ _ _ _ _ _ _ _ _ _ _ _ _ _ _ _ _ _ _ _ _ _ _ _ _ _ _ _ _ _ _ _ _ _ _ _ _ _ _ _ _ _ _ _ _ _ _ _ _ _ _ _ _ _ _ _ _ _ _ _ _ _ _ _ _ _ _ _ _ _ _ _ _ _ _ _ _ _ _ _ _ _ _ _ _ _ _ _ _ _ _ _ _ _ _ _ _ _ _ _ _ _ _ _ _ _ _ _ _ _ _ _ _ _ _ _ _ _ _ _ _ _ _ _ _ _ _ _ _ _ _ _ _ _ _ _ _ _ _ _ _ _ _ _ _ _ _ _ _ _ _ _ _ _ _ _ _ _ _ _ _ _ _ _ _ _ _ _ _ _ _ _ _ _ _ _ _ _ _ _ _ _ _ _ _ _ _ _ _ _ _ _ _ _ _ _ _ _ _ _ _ _ _ _ _ _ _ _ _ _ _ _ _ _ _ _ _ _ _ _ _ _ _ _ _ _ _ _ _ _ _ _ _ _ _ _ _ _ _ _ _ _ _ _ _ _ _ _ _ _ _ _ _ _ _ _ _ _ _ _ _ _ _ _ _ _ _ _ _ _ _ _ _ _ _ _ _ _ _ _ _ _ ?_)
      intro w6 y6 y19 y20 y21 y22 y23 y24 y25 y26 y27 y28 y29 y180 y181 y182 y183 y184 y185 y186 y187 y188 y189 y190 y191 y192 y193 y194 y195 y196 y197 y198 y199 y200 y201 y202 y203 y204 y205 y206 y207 y208 y209 y210 y211 y212 y213 y214 y215 y216 y217 y218 y219 y220 y221 y222 y223 y224 y225 y226 y227 y228 y229 y230 y231 y232 y233 y234 y235 y236 y237 y238 y239 y240 y241 y242 y243 y244 y245 y246 y247 y248 y249 y250 y251 y252 y253 y254 y255 y256 y257 y258 y259 y260 y261 y262 y263 y264 y265 y266 y267 y268 y269 y270 y271 y272 y273 y274 y275 y276 y277 y278 y279 y280 y281 y282 y283 y284 y285 y286 y287 y288 y289 y290 y291 y292 y293 y294 y295 y296 hf6
      have HM6 := Hid.mk' (HM4.out.keep hf6)
      have HFR6 : Hid (Fr (fun k => w2.heap.size ≤ k) w2 w6) := HM6.out.fr
      have HMG6 : Hid (∃ mg, FRow w6 w2.heap.size 3 n mg) := by
        obtain ⟨mg, h1, -⟩ := HM6.out.row
        exact ⟨mg, h1⟩
      clear hf6
      go_wp2
      go_roundg (gk - 1)
      case measure => omega
      case rel => exact ⟨b + 1, by go_num, by omega, by omega, HFR6.out, HMG6.out⟩
    · obtain rfl : b = 4 := by omega
      go_wp2
      exact HEX.out wr _ _ _ _ _ _ _ _ _ _ _ _ _ _ _ _ _ _ _ _ _ _ _ _ _ _ _ _ _ _ _ _ _ _ _ _ _ _ _ _ _ _ _ _ _ _ _ _ _ _ _ _ _ _ _ _ _ _ _ _ _ _ _ _ _ _ _ _ _ _ _ _ _ _ _ _ _ _ _ _ _ _ _ _ _ _ _ _ _ _ _ _ _ _ _ _ _ _ _ _ _ _ _ _ _ _ _ _ _ _ _ _ _ _ _ _ _ _ _ _ _ _ _ _ _ _ _ _ _ _ _ _ _ _ _ _ _ _ _ _ _ _ _ _ _ _ _ _ _ _ _ _ _ _ _ _ _ _ _ _ _ _ _ _ _ _ _ _ _ _ _ _ _ _ _ _ _ _ _ _ _ _ _ _ _ _ _ _ _ _ _ _ _ _ _ _ _ _ _ _ _ _ _ _ _ _ _ _ HFR.out
end Go.Proofs.Qxb6616145a
