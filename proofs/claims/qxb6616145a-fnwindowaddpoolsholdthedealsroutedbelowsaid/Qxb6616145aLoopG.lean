import Derived.Test.Qxb6616145aLoopD
import Derived.Test.Qxb6616145aLoopE
import Derived.Test.Qxb6616145aLoopF
namespace Go.Proofs.Qxb6616145a
open Go.RowKit

theorem RowAt.ints {w : World} {pa : Option Addr} {n : Nat} {f : Nat → Int} (h : RowAt w pa n (fun g => .int .i64 (f g))) : Ints w w.heap.size pa n f := by
  rcases h with h | ⟨b, h1, h2⟩
  · exact .inl h
  · by_cases h0 : n = 0
    · exact .inl h0
    · exact .inr ⟨b, 0, h1, World.block_lt_of_cell? _ _ (h2 0 (by omega)), fun j hj => by rw [Nat.zero_add]; exact h2 j hj⟩
theorem inG_mem {rt rel msk : Nat → Int} {b g n j : Nat} (h : j ∈ inG rt rel msk b g n) : j < n := by
  induction n with
  | zero => simp [inG] at h
  | succ n ih =>
    simp only [inG] at h
    split at h
    · rcases List.mem_append.1 h with h | h
      · have := ih h; omega
      · simp at h; omega
    · have := ih h; omega
theorem flat_range {rt rel msk : Nat → Int} {b g n : Nat} {il : Nat → Nat} {ms : Nat → Nat → Int} (hms : ∀ i, i < n → ∀ j, j < il i → -9223372036854775808 ≤ ms i j ∧ ms i j ≤ 9223372036854775807) {y : Int} (hy : y ∈ (inG rt rel msk b g n).flatMap (klOf il ms)) : -9223372036854775808 ≤ y ∧ y ≤ 9223372036854775807 := by
  obtain ⟨i, hi, hy⟩ := List.mem_flatMap.1 hy
  unfold klOf at hy
  obtain ⟨j, hj, rfl⟩ := List.mem_map.1 hy
  exact hms i (inG_mem hi) j (List.mem_range.1 hj)

set_option maxRecDepth 8000 in
set_option maxHeartbeats 4000000 in
theorem loop6 (N : Act → World → Prop) (W U V : Nat) (a0 a1 a2 : Option Addr) (n0 n1 n2 c1 n b L ck cr : Nat) (pk pr : Option Addr) (rel rt : Nat → Int) (ia : Nat → Option Addr) (il ic : Nat → Nat) (ms : Nat → Nat → Int) (dbs : Nat → Nat) (pvs : Nat → Value) (gss : Nat → List Grp) (w0 : World)
    (hS : Still w0 W U a0 a1 a2 n0 n1 n2 n rel rt ia il ic ms dbs pvs gss) (hn1 : n ≤ n1) (hn4 : n ≤ 4096) (hb : b < 4) (hL : (keys rt rel (mskOf il ms) b n).length = L) (hsum : sumTo il n ≤ 1048576) (hms : ∀ i, i < n → ∀ j, j < il i → -9223372036854775808 ≤ ms i j ∧ ms i j ≤ 9223372036854775807) (hmem : ∀ j, j < n → w0.cell? ⟨V, j, none⟩ = some (.int .i64 (memb rt rel (mskOf il ms) b j)))
    (hpk : RowAt w0 pk L (fun g => .int .u32 ((keys rt rel (mskOf il ms) b n).getD g (0, 0)).1)) (hpr : RowAt w0 pr L (fun g => .int .i64 ((keys rt rel (mskOf il ms) b n).getD g (0, 0)).2)) (c0 c2 c3 c4 c5 c6 c9 c10 c12 c17 c18 c20 c21 c22 c23 c24 c25 c26 c27 c28 c29 c30 c31 c32 c33 c34 c35 c36 c37 c38 c39 c40 c41 c42 c43 c44 c45 c46 c47 c48 c49 c50 c51 c52 c53 c54 c55 c56 c57 c58 c59 c60 c61 c62 c63 c64 c65 c66 c67 c68 c69 c70 c71 c72 c73 c74 c75 c76 c77 c78 c79 c80 c81 c82 c83 c84 c85 c86 c87 c88 c89 c90 c91 c92 c93 c94 c95 c96 c97 c98 c99 c100 c101 c102 c103 c104 c105 c106 c107 c108 c109 c110 c111 c112 c113 c114 c115 c116 c117 c118 c119 c120 c121 c122 c123 c124 c125 c126 c127 c128 c129 c130 c131 c132 c133 c134 c135 c136 c137 c138 c139 c140 c141 c142 c143 c144 c145 c146 c147 c148 c149 c150 c151 c152 c153 c154 c155 c156 c157 c158 c159 c160 c161 c162 c163 c164 c165 c166 c167 c168 c169 c170 c171 c172 c173 c174 c175 c176 c177 c178 c179 c180 c181 c182 c183 c184 c185 c186 c187 c188 c189 c190 c191 c192 c193 c194 c195 c196 c197 c198 c199 c200 c201 c202 c203 c204 c205 c206 c207 c208 c209 c210 c211 c212 c213 c214 c215 c216 c217 c218 c219 c220 c221 c222 c223 c224 c225 c226 c227 c228 c229 c230 c231 c232 c233 c234 c235 c236 c237 c238 c239 c240 c241 c242 c243 c244 c245 c246 c247 c248 c249 c250 c251 c252 c253 c254 c255 c256 c257 c258 c259 c260 c261 c262 c263 c264 c265 c266 c267 c268 c269 c270 c271 c272 c273 c274 c275 c276 c277 c278 c279 c280 c281 c282 c283 c284 c285 c286 c287 c288 c289 c290 c291 c292 c293 c294 c295 c296 : Value)
    (hexit : ∀ (wr : World) (v6 v19 v20 v21 v22 v23 v24 v25 v26 v27 v28 v29 v180 v181 v182 v183 v184 v185 v186 v187 v188 v189 v190 v191 v192 v193 v194 v195 v196 v197 v198 v199 v200 v201 v202 v203 v204 v205 v206 v207 v208 v209 v210 v211 v212 v213 v214 v215 v216 v217 v218 v219 v220 v221 v222 v223 v224 v225 v226 v227 v228 v229 v230 v231 v232 v233 v234 v235 v236 v237 v238 v239 v240 v241 v242 v243 v244 v245 v246 v247 v248 v249 v250 v251 v252 v253 v254 v255 v256 v257 v258 v259 v260 v261 v262 v263 v264 v265 v266 v267 v268 v269 v270 v271 v272 v273 v274 v275 v276 v277 v278 v279 v280 v281 v282 v283 v284 v285 v286 v287 v288 v289 v290 v291 v292 v293 v294 v295 v296 : Value), Fr (fun _ => False) w0 wr → N ⟨#[c0, .slice a1 n1 c1, c2, c3, c4, c5, v6, .int .i64 n, .slice (some ⟨W, 0, none⟩) n n, c9, c10, .pointer (some ⟨U, 0, none⟩), c12, .slice (some ⟨V, 0, none⟩) n n, .int .i64 b, .slice pk L ck, .slice pr L cr, c17, c18, v19, v20, v21, v22, v23, v24, v25, v26, v27, v28, v29, c30, c31, c32, c33, c34, c35, c36, c37, c38, c39, c40, c41, c42, c43, c44, c45, c46, c47, c48, c49, c50, c51, c52, c53, c54, c55, c56, c57, c58, c59, c60, c61, c62, c63, c64, c65, c66, c67, c68, c69, c70, c71, c72, c73, c74, c75, c76, c77, c78, c79, c80, c81, c82, c83, c84, c85, c86, c87, c88, c89, c90, c91, c92, c93, c94, c95, c96, c97, c98, c99, c100, c101, c102, c103, c104, c105, c106, c107, c108, c109, c110, c111, c112, c113, c114, c115, c116, c117, c118, c119, c120, c121, c122, c123, c124, c125, c126, c127, c128, c129, c130, c131, c132, c133, c134, c135, c136, c137, c138, c139, c140, c141, c142, c143, c144, c145, c146, c147, c148, c149, c150, c151, c152, c153, c154, c155, c156, c157, c158, c159, c160, c161, c162, c163, c164, c165, c166, c167, c168, c169, c170, c171, c172, c173, c174, c175, c176, c177, c178, c179, v180, v181, v182, v183, v184, v185, v186, v187, v188, v189, v190, v191, v192, v193, v194, v195, v196, v197, v198, v199, v200, v201, v202, v203, v204, v205, v206, v207, v208, v209, v210, v211, v212, v213, v214, v215, v216, v217, v218, v219, v220, v221, v222, v223, v224, v225, v226, v227, v228, v229, v230, v231, v232, v233, v234, v235, v236, v237, v238, v239, v240, v241, v242, v243, v244, v245, v246, v247, v248, v249, v250, v251, v252, v253, v254, v255, v256, v257, v258, v259, v260, v261, v262, v263, v264, v265, v266, v267, v268, v269, v270, v271, v272, v273, v274, v275, v276, v277, v278, v279, v280, v281, v282, v283, v284, v285, v286, v287, v288, v289, v290, v291, v292, v293, v294, v295, v296], []⟩ wr) :
    Code.wp Try.prog (blk 5) (Exit.then N (fun _ _ _ => False)) ⟨#[c0, .slice a1 n1 c1, c2, c3, c4, c5, c6, .int .i64 n, .slice (some ⟨W, 0, none⟩) n n, c9, c10, .pointer (some ⟨U, 0, none⟩), c12, .slice (some ⟨V, 0, none⟩) n n, .int .i64 b, .slice pk L ck, .slice pr L cr, c17, c18, .int .i64 0, c20, c21, c22, c23, c24, c25, c26, c27, c28, c29, c30, c31, c32, c33, c34, c35, c36, c37, c38, c39, c40, c41, c42, c43, c44, c45, c46, c47, c48, c49, c50, c51, c52, c53, c54, c55, c56, c57, c58, c59, c60, c61, c62, c63, c64, c65, c66, c67, c68, c69, c70, c71, c72, c73, c74, c75, c76, c77, c78, c79, c80, c81, c82, c83, c84, c85, c86, c87, c88, c89, c90, c91, c92, c93, c94, c95, c96, c97, c98, c99, c100, c101, c102, c103, c104, c105, c106, c107, c108, c109, c110, c111, c112, c113, c114, c115, c116, c117, c118, c119, c120, c121, c122, c123, c124, c125, c126, c127, c128, c129, c130, c131, c132, c133, c134, c135, c136, c137, c138, c139, c140, c141, c142, c143, c144, c145, c146, c147, c148, c149, c150, c151, c152, c153, c154, c155, c156, c157, c158, c159, c160, c161, c162, c163, c164, c165, c166, c167, c168, c169, c170, c171, c172, c173, c174, c175, c176, c177, c178, c179, c180, c181, c182, c183, c184, c185, c186, c187, c188, c189, c190, c191, c192, c193, c194, c195, c196, c197, c198, c199, c200, c201, c202, c203, c204, c205, c206, c207, c208, c209, c210, c211, c212, c213, c214, c215, c216, c217, c218, c219, c220, c221, c222, c223, c224, c225, c226, c227, c228, c229, c230, c231, c232, c233, c234, c235, c236, c237, c238, c239, c240, c241, c242, c243, c244, c245, c246, c247, c248, c249, c250, c251, c252, c253, c254, c255, c256, c257, c258, c259, c260, c261, c262, c263, c264, c265, c266, c267, c268, c269, c270, c271, c272, c273, c274, c275, c276, c277, c278, c279, c280, c281, c282, c283, c284, c285, c286, c287, c288, c289, c290, c291, c292, c293, c294, c295, c296], []⟩ w0 := by
  have HS : Hid (Still w0 W U a0 a1 a2 n0 n1 n2 n rel rt ia il ic ms dbs pvs gss) := hS
  have HMEM : Hid (∀ j, j < n → w0.cell? ⟨V, j, none⟩ = some (.int .i64 (memb rt rel (mskOf il ms) b j))) := hmem
  have HSUM : Hid (sumTo il n ≤ 1048576) := hsum
  have HMS : Hid (∀ i, i < n → ∀ j, j < il i → -9223372036854775808 ≤ ms i j ∧ ms i j ≤ 9223372036854775807) := hms
  have HPK : Hid (RowAt w0 pk L (fun g => .int .u32 ((keys rt rel (mskOf il ms) b n).getD g (0, 0)).1)) := hpk
  have HPR : Hid (RowAt w0 pr L (fun g => .int .i64 ((keys rt rel (mskOf il ms) b n).getD g (0, 0)).2)) := hpr
  have HL : Hid ((keys rt rel (mskOf il ms) b n).length = L) := hL
  have hL4 : L ≤ 4096 := by have := keys_len rt rel (mskOf il ms) b n; omega
  have hgr := hS.grp hb
  have HGB : Hid (∀ g, g < L → g < (gss b).length ∧ g < (keys rt rel (mskOf il ms) b n).length) := fun g hg => by have := hgr.1; omega
  have HGK : Hid (∀ g, g < L → (gat (gss b) g).ks = (inG rt rel (mskOf il ms) b g n).flatMap (klOf il ms)) := fun g hg => (hgr.2 g (by omega)).2.1
  have HC12 : Hid (∀ (V : World), Fr (fun _ => False) w0 V → ∀ g, g < L → Calls Try.prog 12 #[.pointer (some ⟨U, 0, none⟩), .int .i64 b, .int .i64 g] V fun e w' => e = .returned (.tuple #[.int .u32 ((keys rt rel (mskOf il ms) b n).getD g (0, 0)).1, .int .i64 ((keys rt rel (mskOf il ms) b n).getD g (0, 0)).2]) ∧ Fr (fun _ => False) w0 w') := by
    intro V fr g hg
    refine (groupShape U U b g pvs gss V (hS.win.fr (fun k hk => fr.block k hk id)) hb (HGB.out g hg).1).mono ?_
    rintro e w' ⟨rfl, q⟩
    exact ⟨by rw [(hgr.2 g (by omega)).2.2], fr.trans q (fun _ _ e => e)⟩
  have HC13 : Hid (∀ (V : World), Fr (fun _ => False) w0 V → ∀ g, g < L → Calls Try.prog 13 #[.pointer (some ⟨U, 0, none⟩), .int .i64 b, .int .i64 g] V fun e w' => e = .returned (.int .i64 ((inG rt rel (mskOf il ms) b g n).length : Nat)) ∧ w' = V) := by
    intro V fr g hg
    refine (groupLen U U b g pvs gss V (hS.win.fr (fun k hk => fr.block k hk id)) hb (HGB.out g hg).1).mono ?_
    rintro e w' ⟨rfl, rfl⟩
    exact ⟨by rw [(hgr.2 g (by omega)).1, List.length_map], rfl⟩
  have HC17 : Hid (∀ (V : World), Fr (fun _ => False) w0 V → ∀ g, g < L → ∀ ys, ys.Perm ((inG rt rel (mskOf il ms) b g n).flatMap (klOf il ms)) → Srt ys → Calls Try.prog 17 #[.pointer (some ⟨U, 0, none⟩), .int .i64 b, .int .i64 g] V fun e w' => e = .returned (.int .i64 (dist ys ys.length : Nat)) ∧ w' = V) := by
    intro V fr g hg ys hp hs
    refine (groupSumsLen U U b g pvs gss V (hS.win.fr (fun k hk => fr.block k hk id)) hb (HGB.out g hg).1).mono ?_
    rintro e w' ⟨rfl, rfl⟩
    exact ⟨by rw [HGK.out g hg, dist_fold hs hp], rfl⟩
  have HEX := Hid.mk' hexit
  clear hS hmem hexit hsum hgr hms hpk hpr hL
  conv => arg 2; whnf
  go_wp2
  go_loopg [19, 20, 21, 22, 23, 24, 25, 26, 27, 28, 29] (L + 1) (fun gk s19 _ _ _ _ _ _ _ _ _ _ wr => ∃ (g : Nat), s19 = .int .i64 g ∧ g ≤ L ∧ L - g < gk ∧ Fr (fun _ => False) w0 wr)
  case atStart => exact ⟨0, rfl, by omega, by omega, Fr.refl _ _⟩
  case round =>
    obtain ⟨g, rfl, hgL, hgk, hfr⟩ := hrel
    have HFR : Hid (Fr (fun _ => False) w0 wr) := hfr
    clear hfr
    by_cases hg : g < L
    · have hg2 : (g : Int) < L := by omega
      obtain ⟨⟨x1, x2⟩, hx⟩ : ∃ x, (keys rt rel (mskOf il ms) b n).getD g (0, 0) = x := ⟨_, rfl⟩
      have hc12 := HC12.out wr HFR.out g hg
      rw [hx] at hc12
      have HC12' := Hid.mk' hc12
      obtain ⟨b5, rfl, p5⟩ : ∃ b5, pk = some ⟨b5, 0, none⟩ ∧ w0.cell? ⟨b5, g, none⟩ = some (.int .u32 x1) := by
        rcases HPK.out with h | ⟨b, h1, h2⟩
        · omega
        · exact ⟨b, h1, by have := h2 g hg; simp only [hx] at this; exact this⟩
      obtain ⟨b6, rfl, p6⟩ : ∃ b6, pr = some ⟨b6, 0, none⟩ ∧ w0.cell? ⟨b6, g, none⟩ = some (.int .i64 x2) := by
        rcases HPR.out with h | ⟨b, h1, h2⟩
        · omega
        · exact ⟨b, h1, by have := h2 g hg; simp only [hx] at this; exact this⟩
      have HP5 := Hid.mk' p5
      have HP6 := Hid.mk' p6
      clear hc12 hx p5 p6
      go_upto_region 45 with (go_at_call 12; refine HC12'.out.mono ?_; rintro e w4 ⟨rfl, hf4⟩; have HF4 : Hid (Fr (fun _ => False) w0 w4) := hf4; clear hf4)
      have g5 : w4.cell? ⟨b5, g, none⟩ = some (.int .u32 x1) := (HF4.out.cell (World.block_lt_of_cell? _ _ HP5.out) id).trans HP5.out
      have g6 : w4.cell? ⟨b6, g, none⟩ = some (.int .i64 x2) := (HF4.out.cell (World.block_lt_of_cell? _ _ HP6.out) id).trans HP6.out
      go_upto_block 12 with fail
      clear g5 g6
      refine wp_normal (loop7 _ W U V a0 a1 a2 n0 n1 n2 c1 n b g rel rt ia il ic ms dbs pvs gss w4 (HS.out.fr (HF4.out.mono (fun _ _ e => e.elim))) hn1 hn4 hb (HGB.out g hg).2 HSUM.out (fun j hj => (HF4.out.cell (World.block_lt_of_cell? _ _ (HMEM.out j hj)) id).trans (HMEM.out j hj)) _ _ _ _ _ _ _ _ _ _ _ _ _ _ _ _ _ _ _ _ _ _ _ _ _ _ _ _ _ _ _ _ _ _ _ _ _ _ _ _ _ _ _ _ _ _ _ _ _ _ _ _ _ _ _ _ _ _ _ _ _ _ _ _ _ _ _ _ _ _ _ _ _ _ _ _ _ _ _ _ _ _ _ _ _ _ _ _ _ _ _ _ _ _ _ _ _ _ _ _ _ _ _ _ _ _ _ _ _ _ _ _ _ _ _ _ _ _ _ _ _ _ _ _ _ _ _ _ _ _ _ _ _ _ _ _ _ _ _ _ _ _ _ _ _ _ _ _ _ _ _ _ _ _ _ _ _ _ _ _ _ _ _ _ _ _ _ _ _ _ _ _ _ _ _ _ _ _ _ _ _ _ _ _ _ _ _ _ _ _ _ _ _ _ _ _ _ _ _ _ _ _ _ _ _ _ _ _ _ _ _ _ _ _ _ _ _ _ _ _ _ _ _ _ _ _ _ _ _ _ _ _ _ _ _ _ _ _ _ _ _ _ _ _ _ _ _ _ _ _ _ _ _ _ _ _ _ _ _ _ _ _ _ _ _ _ _ _ _ _ _ _ _ _ _ _ _ _ _ _ _ _ _ _ _ _ _ ?_)
      intro w5 d x6 v23 x24 x207 x208 x209 x210 x211 x212 x213 x214 x215 x216 x217 x218 x219 x220 x221 x222 x223 x224 x225 x226 x227 x228 x229 x230 x231 x232 x233 x234 x235 x236 x237 x238 x239 x240 x241 x242 x243 hd hown hf5
      have HF5 : Hid (Fr (fun _ => False) w0 w5) := HF4.out.trans hf5 (fun _ _ e => e)
      have hc13 := HC13.out w5 HF5.out g hg
      rw [← hd] at hc13
      have HC13' := Hid.mk' hc13
      obtain ⟨X, hX⟩ : ∃ X, (inG rt rel (mskOf il ms) b g n).flatMap (klOf il ms) = X := ⟨_, rfl⟩
      rw [hX] at hown
      have hXl : X.length ≤ 1048576 := by
        have h1 := (inG_len rt rel (mskOf il ms) b g il ms n).2
        have h2 := HSUM.out
        rw [hX] at h1
        omega
      have HX : Hid ((inG rt rel (mskOf il ms) b g n).flatMap (klOf il ms) = X) := hX
      obtain ⟨pa, ca, rfl, -, -, hrow⟩ := own_read X (0 : Int) (fun x => Value.int .i64 x) hown
      have HINT : Hid (Ints w5 w5.heap.size pa X.length (fun j => X.getD j 0)) := hrow.ints
      obtain ⟨l, hl⟩ : ∃ l, X.length = l := ⟨_, rfl⟩
      rw [hl] at HINT hXl ⊢
      have HLX : Hid (X.length = l) := hl
      have hdn : d ≤ n := by rw [hd]; exact (inG_len rt rel (mskOf il ms) b g il ms n).1
      clear hc13 hd hown hf5 hX hrow hl
      go_upto_block 14 with (first
        | (go_at_call 15; (refine (sortInts pa l ca w5.heap.size X w5 HLX.out HINT.out (Nat.le_refl _) (by omega)).mono ?_); rintro e w6 ⟨S, ys, rfl, hr6, hp6, hs6, hf6⟩; have HR6 := Hid.mk' hr6; have HPM := Hid.mk' hp6; have HSR := Hid.mk' hs6; have HF6 : Hid (Fr (fun _ => False) w0 w6) := HF5.out.trans (hf6.mono (Y := fun _ => False) (fun k hk e => absurd hk (Nat.not_lt.2 e))) (fun _ _ e => e); clear hr6 hp6 hs6 hf6)
        | (go_at_call 13; refine HC13'.out.mono ?_; rintro e w5 ⟨rfl, rfl⟩))
      have HYL : Hid (ys.length = l) := HPM.out.length_eq.trans HLX.out
      refine wp_normal (loop8 _ U b g S l pvs gss ys w6 (HS.out.win.fr (fun k hk => HF6.out.block k hk id)) hb (HGB.out g hg).1 HR6.out HYL.out (by omega) (fun y hy => ⟨by rw [HGK.out g hg, HX.out]; exact List.contains_iff_mem.2 (HPM.out.mem_iff.1 hy), flat_range HMS.out (by rw [HX.out]; exact HPM.out.mem_iff.1 hy)⟩) _ _ _ _ _ _ _ _ _ _ _ _ _ _ _ _ _ _ _ _ _ _ _ _ _ _ _ _ _ _ _ _ _ _ _ _ _ _ _ _ _ _ _ _ _ _ _ _ _ _ _ _ _ _ _ _ _ _ _ _ _ _ _ _ _ _ _ _ _ _ _ _ _ _ _ _ _ _ _ _ _ _ _ _ _ _ _ _ _ _ _ _ _ _ _ _ _ _ _ _ _ _ _ _ _ _ _ _ _ _ _ _ _ _ _ _ _ _ _ _ _ _ _ _ _ _ _ _ _ _ _ _ _ _ _ _ _ _ _ _ _ _ _ _ _ _ _ _ _ _ _ _ _ _ _ _ _ _ _ _ _ _ _ _ _ _ _ _ _ _ _ _ _ _ _ _ _ _ _ _ _ _ _ _ _ _ _ _ _ _ _ _ _ _ _ _ _ _ _ _ _ _ _ _ _ _ _ _ _ _ _ _ _ _ _ _ _ _ _ _ _ _ _ _ _ _ _ _ _ _ _ _ _ _ _ _ _ _ _ _ _ _ _ _ _ _ _ _ _ _ _ _ _ _ _ _ _ _ _ _ _ _ _ _ _ _ _ _ _ _ _ _ _ _ _ _ _ _ _ _ _ _ _ _ _ _ _ _ _ _ _ ?_)
      intro w7 d8 y6 y27 y28 y29 y252 y253 y254 y255 y256 y257 y258 y259 y260 y261 y262 y263 y264 y265 y266 y267 y268 y269 y270 y271 y272 y273 y274 y275 y276 y277 y278 y279 y280 y281 y282 y283 y284 y285 y286 y287 y288 y289 y290 hd8 hf7
      have HF7 : Hid (Fr (fun _ => False) w0 w7) := HF6.out.trans hf7 (fun _ _ e => e)
      have hc17 := HC17.out w7 HF7.out g hg ys (by rw [HX.out]; exact HPM.out) HSR.out
      rw [HYL.out, ← hd8] at hc17
      have HC17' := Hid.mk' hc17
      have hd8l : d8 ≤ l := by rw [hd8]; exact dist_le ys l
      clear hc17 hd8 hf7
      go_wp2_with (go_at_call 17; refine HC17'.out.mono ?_; rintro e w7 ⟨rfl, rfl⟩)
      go_roundg (gk - 1)
      case measure => omega
      case rel => exact ⟨g + 1, by go_num, by omega, by omega, HF7.out⟩
    · obtain rfl : g = L := by omega
      go_wp2
      exact HEX.out wr _ _ _ _ _ _ _ _ _ _ _ _ _ _ _ _ _ _ _ _ _ _ _ _ _ _ _ _ _ _ _ _ _ _ _ _ _ _ _ _ _ _ _ _ _ _ _ _ _ _ _ _ _ _ _ _ _ _ _ _ _ _ _ _ _ _ _ _ _ _ _ _ _ _ _ _ _ _ _ _ _ _ _ _ _ _ _ _ _ _ _ _ _ _ _ _ _ _ _ _ _ _ _ _ _ _ _ _ _ _ _ _ _ _ _ _ _ _ _ _ _ _ _ _ _ _ _ _ _ HFR.out
end Go.Proofs.Qxb6616145a
