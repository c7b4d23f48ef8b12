import Derived.Test.Qxb6616145aLoopC
import Derived.Deep.CutBlock
namespace Go.Proofs.Qxb6616145a
open Go.RowKit

/-- A fragment's way out, put into what follows. -/
theorem wp_normal {P : Program} {c : Code} {Q : Exit → Act → World → Prop} {a : Act} {w : World} (h : c.wp P (Exit.then (fun a w => Q .normal a w) (fun _ _ _ => False)) a w) : c.wp P Q a w :=
  wp_mono h (fun e a w hq => by cases e <;> first | exact hq | exact hq.elim)

/-- The keys met so far, and whose each deal is. -/
structure Mem4 (w2 wr : World) (rt rel msk : Nat → Int) (b n i : Nat) (k5 k6 : List (Int × Int)) (s5 s6 : Value) : Prop where
  row : ∃ mg, FRow wr w2.heap.size 3 n mg ∧ ∀ j, j < i → mg j = .int .i64 (memb rt rel msk b j)
  o5 : wr.ownsRow (w2.heap.size + 1) 30 1 s5 k5.length (k5.map fun k => .int .u32 k.1)
  o6 : wr.ownsRow (w2.heap.size + 1) 3 1 s6 k6.length (k6.map fun k => .int .i64 k.2)
  fr : Fr (fun k => w2.heap.size ≤ k) w2 wr
theorem Mem4.start {w2 w0 : World} {rt rel msk : Nat → Int} {b n : Nat} (h : ∃ mg, FRow w0 w2.heap.size 3 n mg) (fr : Fr (fun k => w2.heap.size ≤ k) w2 w0) : Mem4 w2 w0 rt rel msk b n 0 [] [] (.slice none 0 0) (.slice none 0 0) := by
  obtain ⟨mg, hmg⟩ := h
  exact ⟨⟨mg, hmg, fun j hj => absurd hj (Nat.not_lt_zero _)⟩, ⟨by simp, .inl ⟨rfl, rfl⟩⟩, ⟨by simp, .inl ⟨rfl, rfl⟩⟩, fr⟩
theorem Mem4.keep {w2 wr w' : World} {rt rel msk : Nat → Int} {b n i : Nat} {k5 k6 : List (Int × Int)} {s5 s6 : Value} (h : Mem4 w2 wr rt rel msk b n i k5 k6 s5 s6) (hf : Fr (fun _ => False) wr w') : Mem4 w2 w' rt rel msk b n i k5 k6 s5 s6 := by
  obtain ⟨⟨mg, h1, h2⟩, h3, h4, h5⟩ := h
  exact ⟨⟨mg, h1.fr (hf.block _ h1.lt id), h2⟩, own_fr h3 (fun k hk => hf.block k (h3.lt k hk).2 id), own_fr h4 (fun k hk => hf.block k (h4.lt k hk).2 id), h5.trans hf (fun _ _ e => e.elim)⟩
theorem Mem4.put {w2 wr : World} {rt rel msk : Nat → Int} {b n i : Nat} {k5 k6 : List (Int × Int)} {s5 s6 : Value} (h : Mem4 w2 wr rt rel msk b n i k5 k6 s5 s6) (v : Int) : Mem4 w2 (wr.setCell ⟨w2.heap.size, i, none⟩ (.int .i64 v)) rt rel msk b n i k5 k6 s5 s6 ∧ (v = memb rt rel msk b i → Mem4 w2 (wr.setCell ⟨w2.heap.size, i, none⟩ (.int .i64 v)) rt rel msk b n (i + 1) k5 k6 s5 s6) := by
  obtain ⟨⟨mg, h1, h2⟩, h3, h4, h5⟩ := h
  have e3 := own_fr (w' := wr.setCell ⟨w2.heap.size, i, none⟩ (.int .i64 v)) h3 (fun k hk => Below.heap_setCell _ _ _ _ (by have := (h3.lt k hk).1; show k ≠ w2.heap.size; omega))
  have e4 := own_fr (w' := wr.setCell ⟨w2.heap.size, i, none⟩ (.int .i64 v)) h4 (fun k hk => Below.heap_setCell _ _ _ _ (by have := (h4.lt k hk).1; show k ≠ w2.heap.size; omega))
  have e5 : Fr (fun k => w2.heap.size ≤ k) w2 (wr.setCell ⟨w2.heap.size, i, none⟩ (.int .i64 v)) := Fr.setCell (p := ⟨w2.heap.size, i, none⟩) h5 (fun _ => Nat.le_refl _) _
  refine ⟨⟨⟨_, h1.set _, fun j hj => ?_⟩, e3, e4, e5⟩, fun hv => ⟨⟨_, h1.set _, fun j hj => ?_⟩, e3, e4, e5⟩⟩
  · rw [upd_other _ _ (by omega)]
    exact h2 j hj
  · by_cases e : j = i
    · subst e; rw [upd_same, hv]
    · rw [upd_other _ _ e]
      exact h2 j (by omega)
theorem Mem4.more5 {w2 wr w7 : World} {rt rel msk : Nat → Int} {b n i : Nat} {k5 k6 : List (Int × Int)} {s5 s6 s5' : Value} {x : Int × Int} (h : Mem4 w2 wr rt rel msk b n i k5 k6 s5 s6) (hO : w7.ownsRow (w2.heap.size + 1) 30 1 s5' (k5.length + 1) ((k5.map fun k => Value.int .u32 k.1) ++ [.int .u32 x.1])) (hG : (wr.alloc (.cells #[.int .u32 x.1] 30)).grownBy w7 s5.ownBlock) :
    Mem4 w2 w7 rt rel msk b n i (k5 ++ [x]) k6 s5' s6 := by
  obtain ⟨⟨mg, h1, h2⟩, h3, h4, h5⟩ := h
  have hf : Fr (fun k => s5.ownBlock = some k) wr w7 := Fr.trans (X := fun k => s5.ownBlock = some k) (b := wr.alloc (.cells #[.int .u32 x.1] 30)) ((Fr.refl _ wr).alloc _) (own_grown hG) (fun _ _ e => e)
  refine ⟨⟨mg, h1.fr (hf.block _ h1.lt (fun e => by have := (h3.lt _ e).1; omega)), h2⟩, ?_, own_fr h4 (fun k hk => hf.block k (h4.lt k hk).2 (fun e => ?_)), h5.trans hf (fun k _ e => by have := (h3.lt _ e).1; omega)⟩
  · simpa using hO
  · obtain ⟨c1, q1⟩ := own_tag h3 e
    obtain ⟨c2, q2⟩ := own_tag h4 hk
    rw [q1] at q2
    cases q2
theorem Mem4.more6 {w2 wr w7 : World} {rt rel msk : Nat → Int} {b n i : Nat} {k5 k6 : List (Int × Int)} {s5 s6 s6' : Value} {x : Int × Int} (h : Mem4 w2 wr rt rel msk b n i k5 k6 s5 s6) (hO : w7.ownsRow (w2.heap.size + 1) 3 1 s6' (k6.length + 1) ((k6.map fun k => Value.int .i64 k.2) ++ [.int .i64 x.2])) (hG : (wr.alloc (.cells #[.int .i64 x.2] 3)).grownBy w7 s6.ownBlock) :
    Mem4 w2 w7 rt rel msk b n i k5 (k6 ++ [x]) s5 s6' := by
  obtain ⟨⟨mg, h1, h2⟩, h3, h4, h5⟩ := h
  have hf : Fr (fun k => s6.ownBlock = some k) wr w7 := Fr.trans (X := fun k => s6.ownBlock = some k) (b := wr.alloc (.cells #[.int .i64 x.2] 3)) ((Fr.refl _ wr).alloc _) (own_grown hG) (fun _ _ e => e)
  refine ⟨⟨mg, h1.fr (hf.block _ h1.lt (fun e => by have := (h4.lt _ e).1; omega)), h2⟩, own_fr h3 (fun k hk => hf.block k (h3.lt k hk).2 (fun e => ?_)), ?_, h5.trans hf (fun k _ e => by have := (h4.lt _ e).1; omega)⟩
  · obtain ⟨c1, q1⟩ := own_tag h4 e
    obtain ⟨c2, q2⟩ := own_tag h3 hk
    rw [q1] at q2
    cases q2
  · simpa using hO
theorem keys_len (rt rel msk : Nat → Int) (b i : Nat) : (keys rt rel msk b i).length ≤ i := by
  induction i with
  | zero => simp [keys]
  | succ i ih =>
    simp only [keys]
    split
    · simp; omega
    · omega
theorem own_at {α : Type} {w : World} {B : Nat} {e : TypeId} {pa : Option Addr} {L c : Nat} {l : List α} (d : α) {h : α → Value} (hL : l.length = L) (H : w.ownsRow B e 1 (.slice pa L c) l.length (l.map h)) : RowAt w pa L (fun g => h (l.getD g d)) := by
  obtain ⟨pa', c', e1, -, -, h2⟩ := own_read l d h H
  injection e1 with e2
  subst e2 hL
  exact h2
theorem keys_same {rt rel msk : Nat → Int} {b i : Nat} (h : ¬ (rt i < (b : Int) ∧ (msk i, rel i) ∉ keys rt rel msk b i)) : keys rt rel msk b (i + 1) = keys rt rel msk b i := if_neg h
theorem keys_new {rt rel msk : Nat → Int} {b i : Nat} (h : rt i < (b : Int) ∧ (msk i, rel i) ∉ keys rt rel msk b i) : keys rt rel msk b (i + 1) = keys rt rel msk b i ++ [(msk i, rel i)] := if_pos h

set_option maxRecDepth 8000 in
set_option maxHeartbeats 4000000 in
theorem loop4 (N : Act → World → Prop) (W U : Nat) (a0 a1 a2 : Option Addr) (n0 n1 n2 c0 c1 c2 n b : Nat) (rel rt : Nat → Int) (ia : Nat → Option Addr) (il ic : Nat → Nat) (ms : Nat → Nat → Int) (dbs : Nat → Nat) (pvs : Nat → Value) (gss : Nat → List Grp) (w2 w0 : World)
    (hS : Still w2 W U a0 a1 a2 n0 n1 n2 n rel rt ia il ic ms dbs pvs gss) (hn0 : n ≤ n0) (hn2 : n ≤ n2) (hn4 : n ≤ 4096) (_hb : b < 4) (hfr0 : Fr (fun k => w2.heap.size ≤ k) w2 w0) (hm0 : ∃ mg, FRow w0 w2.heap.size 3 n mg) (c3 c4 c5 c6 c8 c10 c11 c12 c18 c19 c20 c21 c22 c23 c24 c25 c26 c27 c28 c29 c30 c31 c32 c33 c34 c35 c36 c37 c38 c39 c40 c41 c42 c43 c44 c45 c46 c47 c48 c49 c50 c51 c52 c53 c54 c55 c56 c57 c58 c59 c60 c61 c62 c63 c64 c65 c66 c67 c68 c69 c70 c71 c72 c73 c74 c75 c76 c77 c78 c79 c80 c81 c82 c83 c84 c85 c86 c87 c88 c89 c90 c91 c92 c93 c94 c95 c96 c97 c98 c99 c100 c101 c102 c103 c104 c105 c106 c107 c108 c109 c110 c111 c112 c113 c114 c115 c116 c117 c118 c119 c120 c121 c122 c123 c124 c125 c126 c127 c128 c129 c130 c131 c132 c133 c134 c135 c136 c137 c138 c139 c140 c141 c142 c143 c144 c145 c146 c147 c148 c149 c150 c151 c152 c153 c154 c155 c156 c157 c158 c159 c160 c161 c162 c163 c164 c165 c166 c167 c168 c169 c170 c171 c172 c173 c174 c175 c176 c177 c178 c179 c180 c181 c182 c183 c184 c185 c186 c187 c188 c189 c190 c191 c192 c193 c194 c195 c196 c197 c198 c199 c200 c201 c202 c203 c204 c205 c206 c207 c208 c209 c210 c211 c212 c213 c214 c215 c216 c217 c218 c219 c220 c221 c222 c223 c224 c225 c226 c227 c228 c229 c230 c231 c232 c233 c234 c235 c236 c237 c238 c239 c240 c241 c242 c243 c244 c245 c246 c247 c248 c249 c250 c251 c252 c253 c254 c255 c256 c257 c258 c259 c260 c261 c262 c263 c264 c265 c266 c267 c268 c269 c270 c271 c272 c273 c274 c275 c276 c277 c278 c279 c280 c281 c282 c283 c284 c285 c286 c287 c288 c289 c290 c291 c292 c293 c294 c295 c296 : Value)
    (hexit : ∀ (wr : World) (v15 v16 v17 v18 v110 v111 v112 v113 v114 v115 v116 v117 v118 v119 v120 v121 v122 v123 v124 v125 v126 v127 v128 v129 v130 v131 v132 v133 v134 v135 v136 v137 v138 v139 v140 v141 v142 v143 v144 v145 v146 v147 v148 v149 v150 v151 v152 v153 v154 v155 v156 v157 v158 v159 v160 v161 v162 v163 v164 v165 v166 v167 v168 v169 v170 v171 v172 v173 : Value), Mem4 w2 wr rt rel (mskOf il ms) b n n (keys rt rel (mskOf il ms) b n) (keys rt rel (mskOf il ms) b n) v15 v16 → N ⟨#[.slice a0 n0 c0, .slice a1 n1 c1, .slice a2 n2 c2, c3, c4, c5, c6, .int .i64 n, c8, .slice (some ⟨W + 1, 0, none⟩) n n, c10, c11, c12, .slice (some ⟨w2.heap.size, 0, none⟩) n n, .int .i64 b, v15, v16, v17, v18, c19, c20, c21, c22, c23, c24, c25, c26, c27, c28, c29, c30, c31, c32, c33, c34, c35, c36, c37, c38, c39, c40, c41, c42, c43, c44, c45, c46, c47, c48, c49, c50, c51, c52, c53, c54, c55, c56, c57, c58, c59, c60, c61, c62, c63, c64, c65, c66, c67, c68, c69, c70, c71, c72, c73, c74, c75, c76, c77, c78, c79, c80, c81, c82, c83, c84, c85, c86, c87, c88, c89, c90, c91, c92, c93, c94, c95, c96, c97, c98, c99, c100, c101, c102, c103, c104, c105, c106, c107, c108, c109, v110, v111, v112, v113, v114, v115, v116, v117, v118, v119, v120, v121, v122, v123, v124, v125, v126, v127, v128, v129, v130, v131, v132, v133, v134, v135, v136, v137, v138, v139, v140, v141, v142, v143, v144, v145, v146, v147, v148, v149, v150, v151, v152, v153, v154, v155, v156, v157, v158, v159, v160, v161, v162, v163, v164, v165, v166, v167, v168, v169, v170, v171, v172, v173, c174, c175, c176, c177, c178, c179, c180, c181, c182, c183, c184, c185, c186, c187, c188, c189, c190, c191, c192, c193, c194, c195, c196, c197, c198, c199, c200, c201, c202, c203, c204, c205, c206, c207, c208, c209, c210, c211, c212, c213, c214, c215, c216, c217, c218, c219, c220, c221, c222, c223, c224, c225, c226, c227, c228, c229, c230, c231, c232, c233, c234, c235, c236, c237, c238, c239, c240, c241, c242, c243, c244, c245, c246, c247, c248, c249, c250, c251, c252, c253, c254, c255, c256, c257, c258, c259, c260, c261, c262, c263, c264, c265, c266, c267, c268, c269, c270, c271, c272, c273, c274, c275, c276, c277, c278, c279, c280, c281, c282, c283, c284, c285, c286, c287, c288, c289, c290, c291, c292, c293, c294, c295, c296], []⟩ wr) :
    Code.wp Try.prog (blk 3) (Exit.then N (fun _ _ _ => False)) ⟨#[.slice a0 n0 c0, .slice a1 n1 c1, .slice a2 n2 c2, c3, c4, c5, c6, .int .i64 n, c8, .slice (some ⟨W + 1, 0, none⟩) n n, c10, c11, c12, .slice (some ⟨w2.heap.size, 0, none⟩) n n, .int .i64 b, .slice none 0 0, .slice none 0 0, .int .i64 0, c18, c19, c20, c21, c22, c23, c24, c25, c26, c27, c28, c29, c30, c31, c32, c33, c34, c35, c36, c37, c38, c39, c40, c41, c42, c43, c44, c45, c46, c47, c48, c49, c50, c51, c52, c53, c54, c55, c56, c57, c58, c59, c60, c61, c62, c63, c64, c65, c66, c67, c68, c69, c70, c71, c72, c73, c74, c75, c76, c77, c78, c79, c80, c81, c82, c83, c84, c85, c86, c87, c88, c89, c90, c91, c92, c93, c94, c95, c96, c97, c98, c99, c100, c101, c102, c103, c104, c105, c106, c107, c108, c109, c110, c111, c112, c113, c114, c115, c116, c117, c118, c119, c120, c121, c122, c123, c124, c125, c126, c127, c128, c129, c130, c131, c132, c133, c134, c135, c136, c137, c138, c139, c140, c141, c142, c143, c144, c145, c146, c147, c148, c149, c150, c151, c152, c153, c154, c155, c156, c157, c158, c159, c160, c161, c162, c163, c164, c165, c166, c167, c168, c169, c170, c171, c172, c173, c174, c175, c176, c177, c178, c179, c180, c181, c182, c183, c184, c185, c186, c187, c188, c189, c190, c191, c192, c193, c194, c195, c196, c197, c198, c199, c200, c201, c202, c203, c204, c205, c206, c207, c208, c209, c210, c211, c212, c213, c214, c215, c216, c217, c218, c219, c220, c221, c222, c223, c224, c225, c226, c227, c228, c229, c230, c231, c232, c233, c234, c235, c236, c237, c238, c239, c240, c241, c242, c243, c244, c245, c246, c247, c248, c249, c250, c251, c252, c253, c254, c255, c256, c257, c258, c259, c260, c261, c262, c263, c264, c265, c266, c267, c268, c269, c270, c271, c272, c273, c274, c275, c276, c277, c278, c279, c280, c281, c282, c283, c284, c285, c286, c287, c288, c289, c290, c291, c292, c293, c294, c295, c296], []⟩ w0 := by
  have HS : Hid (Still w2 W U a0 a1 a2 n0 n1 n2 n rel rt ia il ic ms dbs pvs gss) := hS
  have HM0 : Hid (Mem4 w2 w0 rt rel (mskOf il ms) b n 0 [] [] (.slice none 0 0) (.slice none 0 0)) := Mem4.start hm0 hfr0
  have HEX := Hid.mk' hexit
  clear hS hfr0 hm0 hexit
  obtain ⟨I5, hi5, hz5, hsz5, hby5⟩ := info30
  obtain ⟨I6, hi6, hz6, hsz6, hby6⟩ := info3
  conv => arg 2; whnf
  go_wp2
  go_loopg [15, 16, 17, 18] (n + 1) (fun gk s15 s16 s17 _ wr => ∃ (i : Nat), s17 = .int .i64 i ∧ i ≤ n ∧ n - i < gk ∧ Mem4 w2 wr rt rel (mskOf il ms) b n i (keys rt rel (mskOf il ms) b i) (keys rt rel (mskOf il ms) b i) s15 s16)
  case atStart => exact ⟨0, rfl, by omega, by omega, HM0.out⟩
  case round =>
    obtain ⟨i, rfl, hin, hgk, hmem⟩ := hrel
    by_cases hi : i < n
    · obtain ⟨pk, ck, rfl, -, -, hrk⟩ := own_read _ (0, 0) _ hmem.o5
      obtain ⟨pr, cr, rfl, -, -, hrr⟩ := own_read _ (0, 0) _ hmem.o6
      have hlen := keys_len rt rel (mskOf il ms) b i
      obtain ⟨L, hL⟩ : ∃ L, (keys rt rel (mskOf il ms) b i).length = L := ⟨_, rfl⟩
      rw [hL] at hmem hlen ⊢
      have HL : Hid ((keys rt rel (mskOf il ms) b i).length = L) := hL
      have hst := HS.out.fr hmem.fr
      obtain ⟨b0, o0, rfl, g0⟩ := hst.inp.at0 (i := i) (by omega)
      obtain ⟨b2, o2, rfl, g2⟩ := hst.inp.at2 (i := i) (by omega)
      have hst1 := HS.out.fr (hmem.put (-1)).1.fr
      obtain ⟨mg, hmg, -⟩ := hmem.row
      have k1 : wr.cell? ⟨w2.heap.size, i, none⟩ = some (mg i) := hmg.cell hi
      have k2 : wr.frozen? ⟨w2.heap.size, i, none⟩ = false := frozen_heap hmg i
      obtain ⟨b2', o2', e2, g21⟩ := hst1.inp.at2 (i := i) (by omega)
      cases e2
      obtain ⟨b0', o0', e0, g01⟩ := hst1.inp.at0 (i := i) (by omega)
      cases e0
      have gm1 := hst1.mr i hi
      have HP1 : Hid (Mem4 w2 (wr.setCell ⟨w2.heap.size, i, none⟩ (.int .i64 (-1))) rt rel (mskOf il ms) b n i (keys rt rel (mskOf il ms) b i) (keys rt rel (mskOf il ms) b i) (.slice pk L ck) (.slice pr L cr)) := (hmem.put (-1)).1
      have HP2 : Hid (-1 = memb rt rel (mskOf il ms) b i → Mem4 w2 (wr.setCell ⟨w2.heap.size, i, none⟩ (.int .i64 (-1))) rt rel (mskOf il ms) b n (i + 1) (keys rt rel (mskOf il ms) b i) (keys rt rel (mskOf il ms) b i) (.slice pk L ck) (.slice pr L cr)) := (hmem.put (-1)).2
      have HG01 : Hid ((wr.setCell ⟨w2.heap.size, i, none⟩ (.int .i64 (-1))).cell? ⟨b0, o0 + i, none⟩ = some (.int .i64 (rel i))) := g01
      have HGM1 : Hid ((wr.setCell ⟨w2.heap.size, i, none⟩ (.int .i64 (-1))).cell? ⟨W + 1, i, none⟩ = some (.int .u32 (mskOf il ms i))) := gm1
      have hin2 : (i : Int) < n := by omega
      clear hmem hst hst1 hmg hL g0 g2 g01 gm1 hrk hrr
      obtain ⟨R, hR⟩ : ∃ R, rt i = R := ⟨_, rfl⟩
      rw [hR] at g21
      have HR : Hid (rt i = R) := hR
      clear hR
      by_cases hrb : (b : Int) ≤ R
      · go_wp2
        go_roundg (gk - 1)
        case measure => omega
        case rel =>
          refine ⟨i + 1, by go_num, by omega, by omega, ?_⟩
          rw [keys_same (fun e => by have := HR.out; omega)]
          exact HP2.out (by have := HR.out; simp only [memb]; rw [if_neg (by omega)])
      · go_upto_block 8 with fail
        refine wp_normal (loop5 _ b0 o0 n0 c0 (W + 1) n i L ck cr pk pr (keys rt rel (mskOf il ms) b i) (mskOf il ms i) (rel i) _ HL.out (by omega) hi hn4 hn0 (own_at _ HL.out HP1.out.o5) (own_at _ HL.out HP1.out.o6) HGM1.out HG01.out _ _ _ _ _ _ _ _ _ _ _ _ _ _ _ _ _ _ _ _ _ _ _ _ _ _ _ _ _ _ _ _ _ _ _ _ _ _ _ _ _ _ _ _ _ _ _ _ _ _ _ _ _ _ _ _ _ _ _ _ _ _ _ _ _ _ _ _ _ _ _ _ _ _ _ _ _ _ _ _ _ _ _ _ _ _ _ _ _ _ _ _ _ _ _ _ _ _ _ _ _ _ _ _ _ _ _ _ _ _ _ _ _ _ _ _ _ _ _ _ _ _ _ _ _ _ _ _ _ _ _ _ _ _ _ _ _ _ _ _ _ _ _ _ _ _ _ _ _ _ _ _ _ _ _ _ _ _ _ _ _ _ _ _ _ _ _ _ _ _ _ _ _ _ _ _ _ _ _ _ _ _ _ _ _ _ _ _ _ _ _ _ _ _ _ _ _ _ _ _ _ _ _ _ _ _ _ _ _ _ _ _ _ _ _ _ _ _ _ _ _ _ _ _ _ _ _ _ _ _ _ _ _ _ _ _ _ _ _ _ _ _ _ _ _ _ _ _ _ _ _ _ _ _ _ _ _ _ _ _ _ _ _ _ _ _ _ _ _ _ _ _ _ _ _ _ _ _ _ _ _ _ _ _ _ _ _ _ _ _ _ ?_)
        intro w3 k x124 x125 x126 x127 x128 x129 x130 x131 x132 x133 x134 x135 x136 x137 x138 x139 x140 x141 x142 x143 x144 x145 x146 x147 x148 x149 x150 x151 hidx hf3
        have HIDX : Hid ((keys rt rel (mskOf il ms) b i).idxOf (mskOf il ms i, rel i) = k) := hidx
        have HP3 : Hid (Mem4 w2 w3 rt rel (mskOf il ms) b n i (keys rt rel (mskOf il ms) b i) (keys rt rel (mskOf il ms) b i) (.slice pk L ck) (.slice pr L cr)) := HP1.out.keep hf3
        obtain ⟨mg3, hmg3, -⟩ := HP3.out.row
        have hV3 := hmg3.lt
        have hkL : k ≤ L := by
          have h1 : (keys rt rel (mskOf il ms) b i).idxOf (mskOf il ms i, rel i) ≤ (keys rt rel (mskOf il ms) b i).length := List.idxOf_le_length
          have h2 := HL.out
          omega
        have HMB : Hid ((k : Int) = memb rt rel (mskOf il ms) b i) := by
          show _ = _
          have := HR.out
          simp only [memb]
          rw [if_pos (by omega), HIDX.out]
        clear hidx hf3 k1 k2 g21
        by_cases hk : k < L
        · have k3 : w3.cell? ⟨w2.heap.size, i, none⟩ = some (mg3 i) := hmg3.cell hi
          have k4 : w3.frozen? ⟨w2.heap.size, i, none⟩ = false := frozen_heap hmg3 i
          clear hmg3
          go_wp2
          go_roundg (gk - 1)
          case measure => omega
          case rel =>
            refine ⟨i + 1, by go_num, by omega, by omega, ?_⟩
            rw [keys_same (fun e => e.2 (List.idxOf_lt_length_iff.1 (by rw [HIDX.out, HL.out]; exact hk)))]
            exact (HP3.out.put _).2 HMB.out
        · obtain rfl : k = L := by omega
          have hst3 := HS.out.fr HP3.out.fr
          have gm3 := hst3.mr i hi
          clear hst3 hmg3
          go_upto_region 37 with (at_builtin; refine wpList_append_lies _ rfl (.tmp 156) (.tmp 161) 27 rfl (w2.heap.size + 1) 30 I5 (.int .u32 0) 1 4 Try.underlying27 hi5 hz5 hsz5 hby5 rfl (by decide) _ k ((keys rt rel (mskOf il ms) b i).map fun k => Value.int .u32 k.1) rfl (by have := HP3.out.o5.alloc (.cells #[.int .u32 (mskOf il ms i)] 30); rw [HL.out] at this; exact this) ⟨w3.heap.size, 0, none⟩ 1 1 [.int .u32 (mskOf il ms i)] rfl rfl ?c1 ?c2 (by decide) ?c3 ?c4 ?c5 _ rfl ?_)
          case c2 => rfl
          case c3 => unfold maxLen; omega
          case c4 => omega
          case c5 => omega
          intro ng cap w7 hown7 hgrow _ _
          have HP7 : Hid (Mem4 w2 w7 rt rel (mskOf il ms) b n i (keys rt rel (mskOf il ms) b i ++ [(mskOf il ms i, rel i)]) (keys rt rel (mskOf il ms) b i) (.slice (some ⟨ng, 0, none⟩) (k + 1) cap) (.slice pr k cr)) := HP3.out.more5 (by rw [HL.out]; exact hown7) hgrow
          clear hown7 hgrow gm3
          have hst7 := HS.out.fr HP7.out.fr
          obtain ⟨b0', o0', e0, g07⟩ := hst7.inp.at0 (i := i) (by omega)
          cases e0
          obtain ⟨mg7, hmg7, -⟩ := HP7.out.row
          have hV7 := hmg7.lt
          clear hst7 hmg7
          go_wp2_with (at_builtin; (refine wpList_append_lies _ rfl (.tmp 163) (.tmp 168) 22 rfl (w2.heap.size + 1) 3 I6 (.int .i64 0) 1 8 Try.underlying22 hi6 hz6 hsz6 hby6 rfl (by decide) _ k ((keys rt rel (mskOf il ms) b i).map fun k => Value.int .i64 k.2) rfl (by have := HP7.out.o6.alloc (.cells #[.int .i64 (rel i)] 3); rw [HL.out] at this; exact this) ⟨w7.heap.size, 0, none⟩ 1 1 [.int .i64 (rel i)] rfl rfl ?d1 ?d2 (by decide) ?d3 ?d4 ?d5 _ rfl ?_))
          case d1 => exact cell_one_new _ _ _
          case d2 =>
            intro u hu
            simp at hu
            subst hu
            rfl
          case d3 => unfold maxLen; omega
          case d4 => omega
          case d5 => simp; omega
          intro ng8 cap8 w8 hown8 hgrow8 _ _
          have HP8 : Hid (Mem4 w2 w8 rt rel (mskOf il ms) b n i (keys rt rel (mskOf il ms) b i ++ [(mskOf il ms i, rel i)]) (keys rt rel (mskOf il ms) b i ++ [(mskOf il ms i, rel i)]) (.slice (some ⟨ng, 0, none⟩) (k + 1) cap) (.slice (some ⟨ng8, 0, none⟩) (k + 1) cap8)) := HP7.out.more6 (by rw [HL.out]; exact hown8) hgrow8
          clear hown8 hgrow8 g07
          obtain ⟨mg8, hmg8, -⟩ := HP8.out.row
          have k3 : w8.cell? ⟨w2.heap.size, i, none⟩ = some (mg8 i) := hmg8.cell hi
          have k4 : w8.frozen? ⟨w2.heap.size, i, none⟩ = false := frozen_heap hmg8 i
          clear hmg8
          go_wp2
          go_roundg (gk - 1)
          case measure => omega
          case rel =>
            refine ⟨i + 1, by go_num, by omega, by omega, ?_⟩
            rw [keys_new ⟨by have := HR.out; omega, fun hm => by have := List.idxOf_lt_length_iff.2 hm; rw [HIDX.out, HL.out] at this; omega⟩]
            exact (HP8.out.put _).2 HMB.out
    · obtain rfl : i = n := by omega
      have HM : Hid (Mem4 w2 wr rt rel (mskOf il ms) b i i (keys rt rel (mskOf il ms) b i) (keys rt rel (mskOf il ms) b i) u15 u16) := hmem
      clear hmem
      go_wp2
      exact HEX.out wr _ _ _ _ _ _ _ _ _ _ _ _ _ _ _ _ _ _ _ _ _ _ _ _ _ _ _ _ _ _ _ _ _ _ _ _ _ _ _ _ _ _ _ _ _ _ _ _ _ _ _ _ _ _ _ _ _ _ _ _ _ _ _ _ _ _ _ _ HM.out
end Go.Proofs.Qxb6616145a
