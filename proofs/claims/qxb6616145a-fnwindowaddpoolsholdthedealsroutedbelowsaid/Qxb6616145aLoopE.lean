import Derived.Test.Qxb6616145aLoopC
namespace Go.Proofs.Qxb6616145a
open Go.RowKit

theorem dist_same {ys : List Int} {i : Nat} (h : 0 < i ∧ ys.getD i 0 = ys.getD (i - 1) 0) : dist ys (i + 1) = dist ys i := if_pos h
theorem dist_new {ys : List Int} {i : Nat} (h : ¬ (0 < i ∧ ys.getD i 0 = ys.getD (i - 1) 0)) : dist ys (i + 1) = dist ys i + 1 := if_neg h
theorem getD_mem {ys : List Int} {i : Nat} (h : i < ys.length) : ys.getD i 0 ∈ ys := by
  simp [List.getD, List.getElem?_eq_getElem h]

set_option maxRecDepth 8000 in
set_option maxHeartbeats 4000000 in
theorem loop8 (N : Act → World → Prop) (U b g S l : Nat) (pvs : Nat → Value) (gss : Nat → List Grp) (ys : List Int) (w0 : World) (hW : WinOk w0 U U pvs gss) (hb : b < 4) (hg : g < (gss b).length) (hR : Row w0 S ys) (hl : ys.length = l) (hl2 : l ≤ 1073741824)
    (hks : ∀ y, y ∈ ys → (gat (gss b) g).ks.contains y = true ∧ -9223372036854775808 ≤ y ∧ y ≤ 9223372036854775807) (c0 c1 c2 c3 c4 c5 c6 c7 c8 c9 c10 c12 c13 c15 c16 c17 c18 c20 c21 c22 c23 c24 c28 c29 c30 c31 c32 c33 c34 c35 c36 c37 c38 c39 c40 c41 c42 c43 c44 c45 c46 c47 c48 c49 c50 c51 c52 c53 c54 c55 c56 c57 c58 c59 c60 c61 c62 c63 c64 c65 c66 c67 c68 c69 c70 c71 c72 c73 c74 c75 c76 c77 c78 c79 c80 c81 c82 c83 c84 c85 c86 c87 c88 c89 c90 c91 c92 c93 c94 c95 c96 c97 c98 c99 c100 c101 c102 c103 c104 c105 c106 c107 c108 c109 c110 c111 c112 c113 c114 c115 c116 c117 c118 c119 c120 c121 c122 c123 c124 c125 c126 c127 c128 c129 c130 c131 c132 c133 c134 c135 c136 c137 c138 c139 c140 c141 c142 c143 c144 c145 c146 c147 c148 c149 c150 c151 c152 c153 c154 c155 c156 c157 c158 c159 c160 c161 c162 c163 c164 c165 c166 c167 c168 c169 c170 c171 c172 c173 c174 c175 c176 c177 c178 c179 c180 c181 c182 c183 c184 c185 c186 c187 c188 c189 c190 c191 c192 c193 c194 c195 c196 c197 c198 c199 c200 c201 c202 c203 c204 c205 c206 c207 c208 c209 c210 c211 c212 c213 c214 c215 c216 c217 c218 c219 c220 c221 c222 c223 c224 c225 c226 c227 c228 c229 c230 c231 c232 c233 c234 c235 c236 c237 c238 c239 c240 c241 c242 c243 c244 c245 c246 c247 c248 c249 c250 c251 c252 c253 c254 c255 c256 c257 c258 c259 c260 c261 c262 c263 c264 c265 c266 c267 c268 c269 c270 c271 c272 c273 c274 c275 c276 c277 c278 c279 c280 c281 c282 c283 c284 c285 c286 c287 c288 c289 c290 c291 c292 c293 c294 c295 c296 : Value)
    (hexit : ∀ (wr : World) (d : Nat) (v6 v27 v28 v29 v252 v253 v254 v255 v256 v257 v258 v259 v260 v261 v262 v263 v264 v265 v266 v267 v268 v269 v270 v271 v272 v273 v274 v275 v276 v277 v278 v279 v280 v281 v282 v283 v284 v285 v286 v287 v288 v289 v290 : Value), d = dist ys l → Fr (fun _ => False) w0 wr → N ⟨#[c0, c1, c2, c3, c4, c5, v6, c7, c8, c9, c10, .pointer (some ⟨U, 0, none⟩), c12, c13, .int .i64 b, c15, c16, c17, c18, .int .i64 g, c20, c21, c22, c23, c24, .slice (some ⟨S, 0, none⟩) l l, .int .i64 d, v27, v28, v29, c30, c31, c32, c33, c34, c35, c36, c37, c38, c39, c40, c41, c42, c43, c44, c45, c46, c47, c48, c49, c50, c51, c52, c53, c54, c55, c56, c57, c58, c59, c60, c61, c62, c63, c64, c65, c66, c67, c68, c69, c70, c71, c72, c73, c74, c75, c76, c77, c78, c79, c80, c81, c82, c83, c84, c85, c86, c87, c88, c89, c90, c91, c92, c93, c94, c95, c96, c97, c98, c99, c100, c101, c102, c103, c104, c105, c106, c107, c108, c109, c110, c111, c112, c113, c114, c115, c116, c117, c118, c119, c120, c121, c122, c123, c124, c125, c126, c127, c128, c129, c130, c131, c132, c133, c134, c135, c136, c137, c138, c139, c140, c141, c142, c143, c144, c145, c146, c147, c148, c149, c150, c151, c152, c153, c154, c155, c156, c157, c158, c159, c160, c161, c162, c163, c164, c165, c166, c167, c168, c169, c170, c171, c172, c173, c174, c175, c176, c177, c178, c179, c180, c181, c182, c183, c184, c185, c186, c187, c188, c189, c190, c191, c192, c193, c194, c195, c196, c197, c198, c199, c200, c201, c202, c203, c204, c205, c206, c207, c208, c209, c210, c211, c212, c213, c214, c215, c216, c217, c218, c219, c220, c221, c222, c223, c224, c225, c226, c227, c228, c229, c230, c231, c232, c233, c234, c235, c236, c237, c238, c239, c240, c241, c242, c243, c244, c245, c246, c247, c248, c249, c250, c251, v252, v253, v254, v255, v256, v257, v258, v259, v260, v261, v262, v263, v264, v265, v266, v267, v268, v269, v270, v271, v272, v273, v274, v275, v276, v277, v278, v279, v280, v281, v282, v283, v284, v285, v286, v287, v288, v289, v290, c291, c292, c293, c294, c295, c296], []⟩ wr) :
    Code.wp Try.prog (blk 7) (Exit.then N (fun _ _ _ => False)) ⟨#[c0, c1, c2, c3, c4, c5, c6, c7, c8, c9, c10, .pointer (some ⟨U, 0, none⟩), c12, c13, .int .i64 b, c15, c16, c17, c18, .int .i64 g, c20, c21, c22, c23, c24, .slice (some ⟨S, 0, none⟩) l l, .int .i64 0, .int .i64 0, c28, c29, c30, c31, c32, c33, c34, c35, c36, c37, c38, c39, c40, c41, c42, c43, c44, c45, c46, c47, c48, c49, c50, c51, c52, c53, c54, c55, c56, c57, c58, c59, c60, c61, c62, c63, c64, c65, c66, c67, c68, c69, c70, c71, c72, c73, c74, c75, c76, c77, c78, c79, c80, c81, c82, c83, c84, c85, c86, c87, c88, c89, c90, c91, c92, c93, c94, c95, c96, c97, c98, c99, c100, c101, c102, c103, c104, c105, c106, c107, c108, c109, c110, c111, c112, c113, c114, c115, c116, c117, c118, c119, c120, c121, c122, c123, c124, c125, c126, c127, c128, c129, c130, c131, c132, c133, c134, c135, c136, c137, c138, c139, c140, c141, c142, c143, c144, c145, c146, c147, c148, c149, c150, c151, c152, c153, c154, c155, c156, c157, c158, c159, c160, c161, c162, c163, c164, c165, c166, c167, c168, c169, c170, c171, c172, c173, c174, c175, c176, c177, c178, c179, c180, c181, c182, c183, c184, c185, c186, c187, c188, c189, c190, c191, c192, c193, c194, c195, c196, c197, c198, c199, c200, c201, c202, c203, c204, c205, c206, c207, c208, c209, c210, c211, c212, c213, c214, c215, c216, c217, c218, c219, c220, c221, c222, c223, c224, c225, c226, c227, c228, c229, c230, c231, c232, c233, c234, c235, c236, c237, c238, c239, c240, c241, c242, c243, c244, c245, c246, c247, c248, c249, c250, c251, c252, c253, c254, c255, c256, c257, c258, c259, c260, c261, c262, c263, c264, c265, c266, c267, c268, c269, c270, c271, c272, c273, c274, c275, c276, c277, c278, c279, c280, c281, c282, c283, c284, c285, c286, c287, c288, c289, c290, c291, c292, c293, c294, c295, c296], []⟩ w0 := by
  have HL : Hid (ys.length = l) := hl
  have HRW : Hid (Row w0 S ys) := hR
  have HC : Hid (∀ (V : World) (y : Int), Fr (fun _ => False) w0 V → y ∈ ys → Calls Try.prog 16 #[.pointer (some ⟨U, 0, none⟩), .int .i64 b, .int .i64 g, .int .i64 y] V fun e w' => e = .returned (.tuple #[.bool true, .int .i64 0]) ∧ Fr (fun _ => False) w0 w') := by
    intro V y fr hy
    refine (groupSum U U b g y pvs gss V (hW.fr (fun k hk => fr.block k hk id)) hb hg (hks y hy).2).mono ?_
    rintro e w' ⟨rfl, q⟩
    refine ⟨by rw [(hks y hy).1], fr.trans q (fun _ _ e => e)⟩
  have HEX := Hid.mk' hexit
  clear hW hR hks hexit hl
  conv => arg 2; whnf
  go_wp2
  go_loopg [26, 27, 28, 29] (l + 1) (fun gk s26 s27 _ _ wr => ∃ (i d : Nat), s26 = .int .i64 d ∧ s27 = .int .i64 i ∧ i ≤ l ∧ l - i < gk ∧ d = dist ys i ∧ Fr (fun _ => False) w0 wr)
  case atStart => exact ⟨0, 0, rfl, rfl, by omega, by omega, rfl, Fr.refl _ _⟩
  case round =>
    obtain ⟨i, d, rfl, rfl, hil, hgk, hd, hfr⟩ := hrel
    have HD : Hid (d = dist ys i) := hd
    have HFR : Hid (Fr (fun _ => False) w0 wr) := hfr
    have hdi : d ≤ i := by rw [hd]; exact dist_le ys i
    clear hd hfr
    by_cases hi : i < l
    · have HROW : Hid (Row wr S ys) := (HFR.out.block S HRW.out.lt id).trans HRW.out
      have cy := HROW.out.cell (j := i) (by have := HL.out; omega)
      have HMEM : Hid (ys.getD i 0 ∈ ys) := getD_mem (by have := HL.out; omega)
      obtain ⟨y, hy⟩ : ∃ y, ys.getD i 0 = y := ⟨_, rfl⟩
      rw [hy] at cy
      have HY : Hid (ys.getD i 0 = y) := hy
      have HM : Hid (y ∈ ys) := by have := HMEM.out; rw [hy] at this; exact this
      clear hy HMEM
      have hil2 : (i : Int) < l := by omega
      cases i with
      | zero =>
        have HDN : Hid (d + 1 = dist ys (0 + 1)) := by show _ = _; rw [dist_new (by omega), HD.out]
        go_wp2
        go_quiet (fail)
        go_wp2_with (go_at_call 16; refine (HC.out (wr.drewN nq) y (HFR.out.drewN nq) HM.out).mono ?_; rintro e w4 ⟨rfl, hf4⟩; have HF4 : Hid (Fr (fun _ => False) w0 w4) := hf4; clear hf4)
        go_roundg (gk - 1)
        case measure => omega
        case rel => exact ⟨0 + 1, d + 1, by go_num, by go_num, by omega, by omega, HDN.out, HF4.out⟩
      | succ i =>
        have cz := HROW.out.cell (j := i) (by have := HL.out; omega)
        obtain ⟨z, hz⟩ : ∃ z, ys.getD i 0 = z := ⟨_, rfl⟩
        rw [hz] at cz
        have HZ : Hid (ys.getD i 0 = z) := hz
        clear hz
        have hil3 : (i : Int) < l := by omega
        by_cases hyz : y = z
        · have HDN : Hid (d = dist ys (i + 1 + 1)) := by show _ = _; rw [dist_same ⟨by omega, by rw [HY.out]; exact hyz.trans HZ.out.symm⟩, HD.out]
          go_wp2
          go_quiet (fail)
          go_wp2
          go_roundg (gk - 1)
          case measure => omega
          case rel => exact ⟨i + 1 + 1, d, rfl, by go_num, by omega, by omega, HDN.out, HFR.out.drewN _⟩
        · have HDN : Hid (d + 1 = dist ys (i + 1 + 1)) := by show _ = _; rw [dist_new (fun e => hyz (by rw [← HY.out, ← HZ.out]; exact e.2)), HD.out]
          go_wp2
          go_quiet (fail)
          go_wp2_with (go_at_call 16; refine (HC.out (wr.drewN nq) y (HFR.out.drewN nq) HM.out).mono ?_; rintro e w4 ⟨rfl, hf4⟩; have HF4 : Hid (Fr (fun _ => False) w0 w4) := hf4; clear hf4)
          go_roundg (gk - 1)
          case measure => omega
          case rel => exact ⟨i + 1 + 1, d + 1, by go_num, by go_num, by omega, by omega, HDN.out, HF4.out⟩
    · obtain rfl : i = l := by omega
      go_wp2
      exact HEX.out wr d _ _ _ _ _ _ _ _ _ _ _ _ _ _ _ _ _ _ _ _ _ _ _ _ _ _ _ _ _ _ _ _ _ _ _ _ _ _ _ _ _ _ _ HD.out HFR.out
end Go.Proofs.Qxb6616145a
