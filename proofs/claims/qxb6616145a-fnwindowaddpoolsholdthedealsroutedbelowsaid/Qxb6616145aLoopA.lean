import Derived.Test.Qxb6616145aInp
namespace Go.Proofs.Qxb6616145a
open Go.RowKit

/-- The blocks round a loop, in the text's order. -/
def blocksOf : Code → List Code
  | .block i (.loop c) => .block i (.loop c) :: blocksOf c
  | .block _ c => blocksOf c
  | .loop c => blocksOf c
  | .scope c => blocksOf c
  | .seq a b => blocksOf a ++ blocksOf b
  | .cond _ a b => blocksOf a ++ blocksOf b
  | _ => []
noncomputable def blk (k : Nat) : Code := ((((Try.f3.body).map blocksOf).getD [])[k]?).getD .skip

theorem newDealD (rel : Int) (a : Option Addr) (n c B : Nat) (f : Nat → Int) (w : World) (H : Ints w B a n f) (hB : B ≤ w.heap.size) (hn : n ≤ 1048576) :
    Calls Try.prog 7 #[.int .i64 rel, .slice a n c] w.drew fun e w' => e = .returned (.pointer (some ⟨w.heap.size, 0, none⟩)) ∧ Deal w' w'.heap.size w.heap.size rel n f ∧ Fr (fun _ => False) w w' := by
  refine (newDeal rel a n c B f w.drew H hB hn).mono ?_
  rintro e w' ⟨rfl, h1, h2⟩
  exact ⟨rfl, h1, h2.os, h2.output, h2.size, h2.block⟩

set_option maxRecDepth 8000 in
set_option maxHeartbeats 4000000 in
theorem loop1 (N : Act → World → Prop) (a0 a1 a2 : Option Addr) (n0 n1 n2 c0 c1 c2 n : Nat) (rel rt : Nat → Int) (ia : Nat → Option Addr) (il ic : Nat → Nat) (ms : Nat → Nat → Int) (w w0 : World) (hI : Inp w w.heap.size a0 a1 a2 n0 n1 n2 rel rt ia il ic ms)
    (l1 : n ≤ n0) (l2 : n ≤ n1) (hn4 : n ≤ 4096) (hil : ∀ i, i < n1 → il i ≤ 1048576) (hM : Made w w0 n 0 rel il ms (fun _ => 0)) (c3 c4 c5 c6 c11 c12 c13 c14 c15 c16 c17 c18 c19 c20 c21 c22 c23 c24 c25 c26 c27 c28 c29 c30 c31 c32 c33 c34 c35 c36 c37 c38 c39 c40 c41 c42 c43 c44 c45 c46 c47 c48 c49 c50 c51 c52 c53 c54 c55 c56 c57 c58 c59 c60 c61 c62 c63 c64 c65 c66 c67 c68 c69 c70 c71 c72 c73 c74 c75 c76 c77 c78 c79 c80 c81 c82 c83 c84 c85 c86 c87 c88 c89 c90 c91 c92 c93 c94 c95 c96 c97 c98 c99 c100 c101 c102 c103 c104 c105 c106 c107 c108 c109 c110 c111 c112 c113 c114 c115 c116 c117 c118 c119 c120 c121 c122 c123 c124 c125 c126 c127 c128 c129 c130 c131 c132 c133 c134 c135 c136 c137 c138 c139 c140 c141 c142 c143 c144 c145 c146 c147 c148 c149 c150 c151 c152 c153 c154 c155 c156 c157 c158 c159 c160 c161 c162 c163 c164 c165 c166 c167 c168 c169 c170 c171 c172 c173 c174 c175 c176 c177 c178 c179 c180 c181 c182 c183 c184 c185 c186 c187 c188 c189 c190 c191 c192 c193 c194 c195 c196 c197 c198 c199 c200 c201 c202 c203 c204 c205 c206 c207 c208 c209 c210 c211 c212 c213 c214 c215 c216 c217 c218 c219 c220 c221 c222 c223 c224 c225 c226 c227 c228 c229 c230 c231 c232 c233 c234 c235 c236 c237 c238 c239 c240 c241 c242 c243 c244 c245 c246 c247 c248 c249 c250 c251 c252 c253 c254 c255 c256 c257 c258 c259 c260 c261 c262 c263 c264 c265 c266 c267 c268 c269 c270 c271 c272 c273 c274 c275 c276 c277 c278 c279 c280 c281 c282 c283 c284 c285 c286 c287 c288 c289 c290 c291 c292 c293 c294 c295 c296 : Value)
    (hexit : ∀ (wr : World) (dbs : Nat → Nat) (v10 v54 v55 v56 v57 v58 v59 v60 v61 v62 v63 v64 v65 v66 v67 v68 v69 v70 v71 v72 v73 v74 v75 v76 v77 v78 : Value), Made w wr n n rel il ms dbs → N ⟨#[.slice a0 n0 c0, .slice a1 n1 c1, .slice a2 n2 c2, c3, c4, c5, c6, .int .i64 n, .slice (some ⟨w.heap.size, 0, none⟩) n n, .slice (some ⟨w.heap.size + 1, 0, none⟩) n n, v10, c11, c12, c13, c14, c15, c16, c17, c18, c19, c20, c21, c22, c23, c24, c25, c26, c27, c28, c29, c30, c31, c32, c33, c34, c35, c36, c37, c38, c39, c40, c41, c42, c43, c44, c45, c46, c47, c48, c49, c50, c51, c52, c53, v54, v55, v56, v57, v58, v59, v60, v61, v62, v63, v64, v65, v66, v67, v68, v69, v70, v71, v72, v73, v74, v75, v76, v77, v78, c79, c80, c81, c82, c83, c84, c85, c86, c87, c88, c89, c90, c91, c92, c93, c94, c95, c96, c97, c98, c99, c100, c101, c102, c103, c104, c105, c106, c107, c108, c109, c110, c111, c112, c113, c114, c115, c116, c117, c118, c119, c120, c121, c122, c123, c124, c125, c126, c127, c128, c129, c130, c131, c132, c133, c134, c135, c136, c137, c138, c139, c140, c141, c142, c143, c144, c145, c146, c147, c148, c149, c150, c151, c152, c153, c154, c155, c156, c157, c158, c159, c160, c161, c162, c163, c164, c165, c166, c167, c168, c169, c170, c171, c172, c173, c174, c175, c176, c177, c178, c179, c180, c181, c182, c183, c184, c185, c186, c187, c188, c189, c190, c191, c192, c193, c194, c195, c196, c197, c198, c199, c200, c201, c202, c203, c204, c205, c206, c207, c208, c209, c210, c211, c212, c213, c214, c215, c216, c217, c218, c219, c220, c221, c222, c223, c224, c225, c226, c227, c228, c229, c230, c231, c232, c233, c234, c235, c236, c237, c238, c239, c240, c241, c242, c243, c244, c245, c246, c247, c248, c249, c250, c251, c252, c253, c254, c255, c256, c257, c258, c259, c260, c261, c262, c263, c264, c265, c266, c267, c268, c269, c270, c271, c272, c273, c274, c275, c276, c277, c278, c279, c280, c281, c282, c283, c284, c285, c286, c287, c288, c289, c290, c291, c292, c293, c294, c295, c296], []⟩ wr) :
    Code.wp Try.prog (blk 0) (Exit.then N (fun _ _ _ => False)) ⟨#[.slice a0 n0 c0, .slice a1 n1 c1, .slice a2 n2 c2, c3, c4, c5, c6, .int .i64 n, .slice (some ⟨w.heap.size, 0, none⟩) n n, .slice (some ⟨w.heap.size + 1, 0, none⟩) n n, .int .i64 0, c11, c12, c13, c14, c15, c16, c17, c18, c19, c20, c21, c22, c23, c24, c25, c26, c27, c28, c29, c30, c31, c32, c33, c34, c35, c36, c37, c38, c39, c40, c41, c42, c43, c44, c45, c46, c47, c48, c49, c50, c51, c52, c53, c54, c55, c56, c57, c58, c59, c60, c61, c62, c63, c64, c65, c66, c67, c68, c69, c70, c71, c72, c73, c74, c75, c76, c77, c78, c79, c80, c81, c82, c83, c84, c85, c86, c87, c88, c89, c90, c91, c92, c93, c94, c95, c96, c97, c98, c99, c100, c101, c102, c103, c104, c105, c106, c107, c108, c109, c110, c111, c112, c113, c114, c115, c116, c117, c118, c119, c120, c121, c122, c123, c124, c125, c126, c127, c128, c129, c130, c131, c132, c133, c134, c135, c136, c137, c138, c139, c140, c141, c142, c143, c144, c145, c146, c147, c148, c149, c150, c151, c152, c153, c154, c155, c156, c157, c158, c159, c160, c161, c162, c163, c164, c165, c166, c167, c168, c169, c170, c171, c172, c173, c174, c175, c176, c177, c178, c179, c180, c181, c182, c183, c184, c185, c186, c187, c188, c189, c190, c191, c192, c193, c194, c195, c196, c197, c198, c199, c200, c201, c202, c203, c204, c205, c206, c207, c208, c209, c210, c211, c212, c213, c214, c215, c216, c217, c218, c219, c220, c221, c222, c223, c224, c225, c226, c227, c228, c229, c230, c231, c232, c233, c234, c235, c236, c237, c238, c239, c240, c241, c242, c243, c244, c245, c246, c247, c248, c249, c250, c251, c252, c253, c254, c255, c256, c257, c258, c259, c260, c261, c262, c263, c264, c265, c266, c267, c268, c269, c270, c271, c272, c273, c274, c275, c276, c277, c278, c279, c280, c281, c282, c283, c284, c285, c286, c287, c288, c289, c290, c291, c292, c293, c294, c295, c296], []⟩ w0 := by
  have HI : Hid (Inp w w.heap.size a0 a1 a2 n0 n1 n2 rel rt ia il ic ms) := hI
  have HIL : Hid (∀ i, i < n1 → il i ≤ 1048576) := hil
  have HM0 : Hid (Made w w0 n 0 rel il ms (fun _ => 0)) := hM
  have HEX := Hid.mk' hexit
  clear hI hil hM hexit
  conv => arg 2; whnf
  go_wp2
  go_loopg [10] (n + 1) (fun gk s10 wr => ∃ (i : Nat) (dbs : Nat → Nat), s10 = .int .i64 i ∧ i ≤ n ∧ n - i < gk ∧ Made w wr n i rel il ms dbs)
  case atStart => exact ⟨0, _, rfl, by omega, by omega, HM0.out⟩
  case round =>
    obtain ⟨i, dbs, rfl, hin, hgk, hmade⟩ := hrel
    have HM : Hid (Made w wr n i rel il ms dbs) := hmade
    clear hmade
    by_cases hi : i < n
    · have hInp := HI.out.fr HM.out.fr (Nat.le_refl _)
      obtain ⟨b0, o0, e0, f0, g0⟩ : ∃ b0 o0, a0 = some ⟨b0, o0, none⟩ ∧ b0 < w.heap.size ∧ wr.cell? ⟨b0, o0 + i, none⟩ = some (.int .i64 (rel i)) := by
        rcases hInp.r0 with h | ⟨b, o, q1, q2, q3⟩
        · omega
        · exact ⟨b, o, q1, q2, q3 i (by omega)⟩
      obtain ⟨b1, o1, e1, f1, g1⟩ : ∃ b1 o1, a1 = some ⟨b1, o1, none⟩ ∧ b1 < w.heap.size ∧ wr.cell? ⟨b1, o1 + i, none⟩ = some (.slice (ia i) (il i) (ic i)) := by
        rcases hInp.r1 with h | ⟨b, o, q1, q2, q3⟩
        · omega
        · exact ⟨b, o, q1, q2, q3 i (by omega)⟩
      subst e0 e1
      have hb0 := World.block_lt_of_cell? _ _ g0
      have hb1 := World.block_lt_of_cell? _ _ g1
      have HIN : Hid (Ints wr w.heap.size (ia i) (il i) (ms i)) := hInp.ri i (by omega)
      have HC : Hid (∀ W, Fr (fun _ => False) wr W → W.cell? ⟨b0, o0 + i, none⟩ = some (.int .i64 (rel i)) ∧ W.cell? ⟨b1, o1 + i, none⟩ = some (.slice (ia i) (il i) (ic i))) := fun W fr => ⟨(fr.cell hb0 id).trans g0, (fr.cell hb1 id).trans g1⟩
      have HS0 : Hid (wr.drew.cell? ⟨b0, o0 + i, none⟩ = some (.int .i64 (rel i)) ∧ wr.drew.cell? ⟨b1, o1 + i, none⟩ = some (.slice (ia i) (il i) (ic i))) := ⟨g0, g1⟩
      have hWs : w.heap.size ≤ wr.heap.size := HM.out.fr.size
      have hili := HIL.out i (by omega)
      clear hInp g0 g1 hb0 hb1
      go_upto_region 13 with fail
      go_region_held (fun w' => w'.cell? ⟨b0, o0 + i, none⟩ = some (.int .i64 (rel i)) ∧ w'.cell? ⟨b1, o1 + i, none⟩ = some (.slice (ia i) (il i) (ic i)))
        (first | exact HS2.out | exact HS1.out | exact HS0.out)
        (first
          | (go_at_call 7
             refine (newDealD (rel i) (ia i) (il i) (ic i) w.heap.size (ms i) wr HIN.out hWs hili).mono ?_
             rintro e w4 ⟨rfl, hd4, hf4⟩
             obtain ⟨dg, hdg, _⟩ := HM.out.drow
             obtain ⟨mg, hmg, _⟩ := HM.out.mrow
             have hdg4 : FRow w4 w.heap.size 28 n dg := hdg.fr (hf4.block _ hdg.lt id)
             have hmg4 : FRow w4 (w.heap.size + 1) 30 n mg := hmg.fr (hf4.block _ hmg.lt id)
             have k1 : w4.cell? ⟨w.heap.size, i, none⟩ = some (dg i) := hdg4.cell hi
             have k2 : w4.frozen? ⟨w.heap.size, i, none⟩ = false := frozen_heap hdg4 i
             have hmg5 := hmg4.fr (Below.heap_setCell w4 ⟨w.heap.size, i, none⟩ (.pointer (some ⟨wr.heap.size, 0, none⟩)) (w.heap.size + 1) (by show w.heap.size + 1 ≠ w.heap.size; omega))
             have k3 : (w4.setCell ⟨w.heap.size, i, none⟩ (.pointer (some ⟨wr.heap.size, 0, none⟩))).cell? ⟨w.heap.size + 1, i, none⟩ = some (mg i) := hmg5.cell hi
             have k4 : (w4.setCell ⟨w.heap.size, i, none⟩ (.pointer (some ⟨wr.heap.size, 0, none⟩))).frozen? ⟨w.heap.size + 1, i, none⟩ = false := frozen_heap hmg5 i
             have HS1 : Hid (w4.cell? ⟨b0, o0 + i, none⟩ = some (.int .i64 (rel i)) ∧ w4.cell? ⟨b1, o1 + i, none⟩ = some (.slice (ia i) (il i) (ic i))) := HC.out w4 hf4
             have HS2 : Hid ((w4.setCell ⟨w.heap.size, i, none⟩ (.pointer (some ⟨wr.heap.size, 0, none⟩))).cell? ⟨b0, o0 + i, none⟩ = some (.int .i64 (rel i)) ∧ (w4.setCell ⟨w.heap.size, i, none⟩ (.pointer (some ⟨wr.heap.size, 0, none⟩))).cell? ⟨b1, o1 + i, none⟩ = some (.slice (ia i) (il i) (ic i))) := ⟨(World.cell?_of_block (w := w4) (a := ⟨b0, o0 + i, none⟩) (Below.heap_setCell _ _ _ _ (by show b0 ≠ w.heap.size; omega))).trans HS1.out.1, (World.cell?_of_block (w := w4) (a := ⟨b1, o1 + i, none⟩) (Below.heap_setCell _ _ _ _ (by show b1 ≠ w.heap.size; omega))).trans HS1.out.2⟩
             have HIN5 : Hid (Ints (w4.setCell ⟨w.heap.size, i, none⟩ (.pointer (some ⟨wr.heap.size, 0, none⟩))) w.heap.size (ia i) (il i) (ms i)) := (HIN.out.fr (hf4.mono (fun _ _ e => e.elim)) hWs).fr (Fr.setCell (p := ⟨w.heap.size, i, none⟩) (Fr.refl _ w4) (fun _ => Nat.le_refl _) _) (Nat.le_trans hWs hf4.size)
             have HST : Hid (Made w ((w4.setCell ⟨w.heap.size, i, none⟩ (.pointer (some ⟨wr.heap.size, 0, none⟩))).setCell ⟨w.heap.size + 1, i, none⟩ (.int .u32 (maskTo (ms i) (il i)))) n (i + 1) rel il ms (upd dbs i wr.heap.size)) := made_step HM.out hd4 hf4
             clear hdg hmg hdg4 hmg4 hmg5 hd4 hf4))
      all_goals
        obtain ⟨x0, x1⟩ := HS2.out
        go_wp2_with (go_at_call 8; refine (zzMask (ia i) (il i) (ic i) w.heap.size (ms i) _ HIN5.out hili).mono ?_; rintro e w ⟨rfl, rfl⟩)
        go_roundg (gk - 1)
        case measure => omega
        case rel => exact ⟨i + 1, _, by go_num, by omega, by omega, HST.out⟩
    · obtain rfl : i = n := by omega
      go_wp2
      exact HEX.out wr dbs _ _ _ _ _ _ _ _ _ _ _ _ _ _ _ _ _ _ _ _ _ _ _ _ _ _ HM.out
end Go.Proofs.Qxb6616145a
