import Derived.Test.Qxb6616145aLoopB
namespace Go.Proofs.Qxb6616145a
open Go.RowKit

/-- Values in a row, as they are read. -/
def RowAt (w : World) (pa : Option Addr) (L : Nat) (f : Nat → Value) : Prop := L = 0 ∨ ∃ b, pa = some ⟨b, 0, none⟩ ∧ ∀ g, g < L → w.cell? ⟨b, g, none⟩ = some (f g)
theorem own_read {α : Type} {w : World} {B : Nat} {e : TypeId} {v : Value} (l : List α) (d : α) (h : α → Value) (H : w.ownsRow B e 1 v l.length (l.map h)) :
    ∃ pa c, v = .slice pa l.length c ∧ l.length ≤ c ∧ c ≤ 9223372036854775807 ∧ RowAt w pa l.length (fun g => h (l.getD g d)) := by
  rcases H.2 with ⟨rfl, h0⟩ | ⟨g, cap, cur, rfl, hb, hg, hle, hm, hs, ht⟩
  · exact ⟨none, 0, by rw [h0], by omega, by omega, .inl h0⟩
  · refine ⟨_, cap, rfl, hle, hm, .inr ⟨g, rfl, fun j hj => ?_⟩⟩
    rw [Nat.mul_one] at ht
    rw [cell_heap hg]
    have := congrArg (fun l : List Value => l[j]?) ht
    simp only [List.getElem?_take, if_pos hj, Array.getElem?_toList] at this
    rw [this, List.getElem?_map, List.getElem?_eq_getElem hj]
    simp [List.getD, List.getElem?_eq_getElem hj]
theorem RowAt.fr {w w' : World} {pa : Option Addr} {L : Nat} {f : Nat → Value} (h : RowAt w pa L f) (fr : Fr (fun _ => False) w w') : RowAt w' pa L f := by
  rcases h with h | ⟨b, h1, h2⟩
  · exact .inl h
  · exact .inr ⟨b, h1, fun g hg => (fr.cell (World.block_lt_of_cell? _ _ (h2 g hg)) id).trans (h2 g hg)⟩
/-- What the third phase reads. -/
structure Still (w : World) (W U : Nat) (a0 a1 a2 : Option Addr) (n0 n1 n2 n : Nat) (rel rt : Nat → Int) (ia : Nat → Option Addr) (il ic : Nat → Nat) (ms : Nat → Nat → Int) (dbs : Nat → Nat) (pvs : Nat → Value) (gss : Nat → List Grp) : Prop where
  inp : Inp w W a0 a1 a2 n0 n1 n2 rel rt ia il ic ms
  dr : ∀ j, j < n → w.cell? ⟨W, j, none⟩ = some (.pointer (some ⟨dbs j, 0, none⟩))
  mr : ∀ j, j < n → w.cell? ⟨W + 1, j, none⟩ = some (.int .u32 (mskOf il ms j))
  win : WinOk w U U pvs gss
  st : ∀ b, b < 4 → St gss b = pool rt rel (mskOf il ms) dbs (klOf il ms) b n
  lt : W + 1 < U ∧ U < w.heap.size
theorem Still.fr {w w' : World} {W U : Nat} {a0 a1 a2 : Option Addr} {n0 n1 n2 n : Nat} {rel rt : Nat → Int} {ia : Nat → Option Addr} {il ic : Nat → Nat} {ms : Nat → Nat → Int} {dbs : Nat → Nat} {pvs : Nat → Value} {gss : Nat → List Grp} (h : Still w W U a0 a1 a2 n0 n1 n2 n rel rt ia il ic ms dbs pvs gss) (fr : Fr (fun k => w.heap.size ≤ k) w w') :
    Still w' W U a0 a1 a2 n0 n1 n2 n rel rt ia il ic ms dbs pvs gss := by
  have hl := h.lt
  have hs := fr.size
  exact ⟨h.inp.fr (fr.mono (fun k _ e => by omega)) (by omega), fun j hj => (fr.cell (p := ⟨W, j, none⟩) (by show W < _; omega) (by show ¬ _ ≤ W; omega)).trans (h.dr j hj), fun j hj => (fr.cell (p := ⟨W + 1, j, none⟩) (by show W + 1 < _; omega) (by show ¬ _ ≤ W + 1; omega)).trans (h.mr j hj), h.win.fr (fun k hk => fr.block k hk (by omega)), h.st, by omega, by omega⟩
theorem Inp.at0 {w : World} {W : Nat} {a0 a1 a2 : Option Addr} {n0 n1 n2 : Nat} {rel rt : Nat → Int} {ia : Nat → Option Addr} {il ic : Nat → Nat} {ms : Nat → Nat → Int} (h : Inp w W a0 a1 a2 n0 n1 n2 rel rt ia il ic ms) {i : Nat} (hi : i < n0) : ∃ b o, a0 = some ⟨b, o, none⟩ ∧ w.cell? ⟨b, o + i, none⟩ = some (.int .i64 (rel i)) := by
  rcases h.r0 with h | ⟨b, o, q1, q2, q3⟩
  · omega
  · exact ⟨b, o, q1, q3 i hi⟩
theorem Inp.at1 {w : World} {W : Nat} {a0 a1 a2 : Option Addr} {n0 n1 n2 : Nat} {rel rt : Nat → Int} {ia : Nat → Option Addr} {il ic : Nat → Nat} {ms : Nat → Nat → Int} (h : Inp w W a0 a1 a2 n0 n1 n2 rel rt ia il ic ms) {i : Nat} (hi : i < n1) : ∃ b o, a1 = some ⟨b, o, none⟩ ∧ w.cell? ⟨b, o + i, none⟩ = some (.slice (ia i) (il i) (ic i)) := by
  rcases h.r1 with h | ⟨b, o, q1, q2, q3⟩
  · omega
  · exact ⟨b, o, q1, q3 i hi⟩
theorem Inp.at2 {w : World} {W : Nat} {a0 a1 a2 : Option Addr} {n0 n1 n2 : Nat} {rel rt : Nat → Int} {ia : Nat → Option Addr} {il ic : Nat → Nat} {ms : Nat → Nat → Int} (h : Inp w W a0 a1 a2 n0 n1 n2 rel rt ia il ic ms) {i : Nat} (hi : i < n2) : ∃ b o, a2 = some ⟨b, o, none⟩ ∧ w.cell? ⟨b, o + i, none⟩ = some (.int .i64 (rt i)) := by
  rcases h.r2 with h | ⟨b, o, q1, q2, q3⟩
  · omega
  · exact ⟨b, o, q1, q3 i hi⟩
/-- The first place, found. -/
theorem idx_found {ks : List (Int × Int)} {m r : Int} {k : Nat} (h : ∀ g, g < k → ks.getD g (0, 0) ≠ (m, r)) (hk : k < ks.length) (he : ks.getD k (0, 0) = (m, r)) : ks.idxOf (m, r) = k := by
  induction ks generalizing k with
  | nil => simp at hk
  | cons x ks ih =>
    cases k with
    | zero =>
      have : x = (m, r) := by simpa using he
      simp [this]
    | succ k =>
      have hx : ¬ x = (m, r) := by simpa using h 0 (by omega)
      have := ih (k := k) (fun g hg => by simpa using h (g + 1) (by omega)) (by simpa using hk) (by simpa using he)
      rw [List.idxOf_cons, beq_eq_false_iff_ne.2 hx]
      simp [this]
theorem idx_none {ks : List (Int × Int)} {m r : Int} (h : ∀ g, g < ks.length → ks.getD g (0, 0) ≠ (m, r)) : ks.idxOf (m, r) = ks.length := by
  apply List.idxOf_eq_length
  intro hm
  obtain ⟨g, hg, e⟩ := List.getElem_of_mem hm
  exact h g hg (by simp [List.getD, List.getElem?_eq_getElem hg, e])
theorem ne_more {ks : List (Int × Int)} {m r : Int} {k : Nat} (h : ∀ g, g < k → ks.getD g (0, 0) ≠ (m, r)) (hk : ks.getD k (0, 0) ≠ (m, r)) : ∀ g, g < k + 1 → ks.getD g (0, 0) ≠ (m, r) := fun g hg => by
  by_cases e : g = k
  · subst e; exact hk
  · exact h g (by omega)

set_option maxRecDepth 8000 in
set_option maxHeartbeats 4000000 in
theorem loop5 (N : Act → World → Prop) (b0 o0 n0 c0 M n i L ck cr : Nat) (pk pr : Option Addr) (ks : List (Int × Int)) (m r : Int) (w0 : World) (hL : ks.length = L) (hL4 : L ≤ 4096) (hi : i < n) (_hn4 : n ≤ 4096) (hn0 : n ≤ n0)
    (hpk : RowAt w0 pk L (fun g => .int .u32 (ks.getD g (0, 0)).1)) (hpr : RowAt w0 pr L (fun g => .int .i64 (ks.getD g (0, 0)).2)) (hm : w0.cell? ⟨M, i, none⟩ = some (.int .u32 m)) (hr : w0.cell? ⟨b0, o0 + i, none⟩ = some (.int .i64 r)) (c1 c2 c3 c4 c5 c6 c7 c8 c10 c11 c12 c13 c14 c19 c20 c21 c22 c23 c24 c25 c26 c27 c28 c29 c30 c31 c32 c33 c34 c35 c36 c37 c38 c39 c40 c41 c42 c43 c44 c45 c46 c47 c48 c49 c50 c51 c52 c53 c54 c55 c56 c57 c58 c59 c60 c61 c62 c63 c64 c65 c66 c67 c68 c69 c70 c71 c72 c73 c74 c75 c76 c77 c78 c79 c80 c81 c82 c83 c84 c85 c86 c87 c88 c89 c90 c91 c92 c93 c94 c95 c96 c97 c98 c99 c100 c101 c102 c103 c104 c105 c106 c107 c108 c109 c110 c111 c112 c113 c114 c115 c116 c117 c118 c119 c120 c121 c122 c123 c124 c125 c126 c127 c128 c129 c130 c131 c132 c133 c134 c135 c136 c137 c138 c139 c140 c141 c142 c143 c144 c145 c146 c147 c148 c149 c150 c151 c152 c153 c154 c155 c156 c157 c158 c159 c160 c161 c162 c163 c164 c165 c166 c167 c168 c169 c170 c171 c172 c173 c174 c175 c176 c177 c178 c179 c180 c181 c182 c183 c184 c185 c186 c187 c188 c189 c190 c191 c192 c193 c194 c195 c196 c197 c198 c199 c200 c201 c202 c203 c204 c205 c206 c207 c208 c209 c210 c211 c212 c213 c214 c215 c216 c217 c218 c219 c220 c221 c222 c223 c224 c225 c226 c227 c228 c229 c230 c231 c232 c233 c234 c235 c236 c237 c238 c239 c240 c241 c242 c243 c244 c245 c246 c247 c248 c249 c250 c251 c252 c253 c254 c255 c256 c257 c258 c259 c260 c261 c262 c263 c264 c265 c266 c267 c268 c269 c270 c271 c272 c273 c274 c275 c276 c277 c278 c279 c280 c281 c282 c283 c284 c285 c286 c287 c288 c289 c290 c291 c292 c293 c294 c295 c296 : Value)
    (hexit : ∀ (wr : World) (k : Nat) (v124 v125 v126 v127 v128 v129 v130 v131 v132 v133 v134 v135 v136 v137 v138 v139 v140 v141 v142 v143 v144 v145 v146 v147 v148 v149 v150 v151 : Value), ks.idxOf (m, r) = k → Fr (fun _ => False) w0 wr → N ⟨#[.slice (some ⟨b0, o0, none⟩) n0 c0, c1, c2, c3, c4, c5, c6, c7, c8, .slice (some ⟨M, 0, none⟩) n n, c10, c11, c12, c13, c14, .slice pk L ck, .slice pr L cr, .int .i64 i, .int .i64 k, c19, c20, c21, c22, c23, c24, c25, c26, c27, c28, c29, c30, c31, c32, c33, c34, c35, c36, c37, c38, c39, c40, c41, c42, c43, c44, c45, c46, c47, c48, c49, c50, c51, c52, c53, c54, c55, c56, c57, c58, c59, c60, c61, c62, c63, c64, c65, c66, c67, c68, c69, c70, c71, c72, c73, c74, c75, c76, c77, c78, c79, c80, c81, c82, c83, c84, c85, c86, c87, c88, c89, c90, c91, c92, c93, c94, c95, c96, c97, c98, c99, c100, c101, c102, c103, c104, c105, c106, c107, c108, c109, c110, c111, c112, c113, c114, c115, c116, c117, c118, c119, c120, c121, c122, c123, v124, v125, v126, v127, v128, v129, v130, v131, v132, v133, v134, v135, v136, v137, v138, v139, v140, v141, v142, v143, v144, v145, v146, v147, v148, v149, v150, v151, c152, c153, c154, c155, c156, c157, c158, c159, c160, c161, c162, c163, c164, c165, c166, c167, c168, c169, c170, c171, c172, c173, c174, c175, c176, c177, c178, c179, c180, c181, c182, c183, c184, c185, c186, c187, c188, c189, c190, c191, c192, c193, c194, c195, c196, c197, c198, c199, c200, c201, c202, c203, c204, c205, c206, c207, c208, c209, c210, c211, c212, c213, c214, c215, c216, c217, c218, c219, c220, c221, c222, c223, c224, c225, c226, c227, c228, c229, c230, c231, c232, c233, c234, c235, c236, c237, c238, c239, c240, c241, c242, c243, c244, c245, c246, c247, c248, c249, c250, c251, c252, c253, c254, c255, c256, c257, c258, c259, c260, c261, c262, c263, c264, c265, c266, c267, c268, c269, c270, c271, c272, c273, c274, c275, c276, c277, c278, c279, c280, c281, c282, c283, c284, c285, c286, c287, c288, c289, c290, c291, c292, c293, c294, c295, c296], []⟩ wr) :
    Code.wp Try.prog (blk 4) (Exit.then N (fun _ _ _ => False)) ⟨#[.slice (some ⟨b0, o0, none⟩) n0 c0, c1, c2, c3, c4, c5, c6, c7, c8, .slice (some ⟨M, 0, none⟩) n n, c10, c11, c12, c13, c14, .slice pk L ck, .slice pr L cr, .int .i64 i, .int .i64 0, c19, c20, c21, c22, c23, c24, c25, c26, c27, c28, c29, c30, c31, c32, c33, c34, c35, c36, c37, c38, c39, c40, c41, c42, c43, c44, c45, c46, c47, c48, c49, c50, c51, c52, c53, c54, c55, c56, c57, c58, c59, c60, c61, c62, c63, c64, c65, c66, c67, c68, c69, c70, c71, c72, c73, c74, c75, c76, c77, c78, c79, c80, c81, c82, c83, c84, c85, c86, c87, c88, c89, c90, c91, c92, c93, c94, c95, c96, c97, c98, c99, c100, c101, c102, c103, c104, c105, c106, c107, c108, c109, c110, c111, c112, c113, c114, c115, c116, c117, c118, c119, c120, c121, c122, c123, c124, c125, c126, c127, c128, c129, c130, c131, c132, c133, c134, c135, c136, c137, c138, c139, c140, c141, c142, c143, c144, c145, c146, c147, c148, c149, c150, c151, c152, c153, c154, c155, c156, c157, c158, c159, c160, c161, c162, c163, c164, c165, c166, c167, c168, c169, c170, c171, c172, c173, c174, c175, c176, c177, c178, c179, c180, c181, c182, c183, c184, c185, c186, c187, c188, c189, c190, c191, c192, c193, c194, c195, c196, c197, c198, c199, c200, c201, c202, c203, c204, c205, c206, c207, c208, c209, c210, c211, c212, c213, c214, c215, c216, c217, c218, c219, c220, c221, c222, c223, c224, c225, c226, c227, c228, c229, c230, c231, c232, c233, c234, c235, c236, c237, c238, c239, c240, c241, c242, c243, c244, c245, c246, c247, c248, c249, c250, c251, c252, c253, c254, c255, c256, c257, c258, c259, c260, c261, c262, c263, c264, c265, c266, c267, c268, c269, c270, c271, c272, c273, c274, c275, c276, c277, c278, c279, c280, c281, c282, c283, c284, c285, c286, c287, c288, c289, c290, c291, c292, c293, c294, c295, c296], []⟩ w0 := by
  have HL : Hid (ks.length = L) := hL
  have HPK : Hid (RowAt w0 pk L (fun g => .int .u32 (ks.getD g (0, 0)).1)) := hpk
  have HPR : Hid (RowAt w0 pr L (fun g => .int .i64 (ks.getD g (0, 0)).2)) := hpr
  have HMC : Hid (w0.cell? ⟨M, i, none⟩ = some (.int .u32 m)) := hm
  have HRC : Hid (w0.cell? ⟨b0, o0 + i, none⟩ = some (.int .i64 r)) := hr
  have HEX := Hid.mk' hexit
  clear hL hpk hpr hm hr hexit
  conv => arg 2; whnf
  go_wp2
  go_loopg [18] (L + 1) (fun gk s18 wr => ∃ (k : Nat), s18 = .int .i64 k ∧ k ≤ L ∧ L - k < gk ∧ (∀ g, g < k → ks.getD g (0, 0) ≠ (m, r)) ∧ Fr (fun _ => False) w0 wr)
  case atStart => exact ⟨0, rfl, by omega, by omega, fun g hg => absurd hg (Nat.not_lt_zero _), Fr.refl _ _⟩
  case round =>
    obtain ⟨k, rfl, hkL, hgk, hne, hfr⟩ := hrel
    have HNE : Hid (∀ g, g < k → ks.getD g (0, 0) ≠ (m, r)) := hne
    have HFR : Hid (Fr (fun _ => False) w0 wr) := hfr
    have g1 : wr.cell? ⟨M, i, none⟩ = some (.int .u32 m) := (hfr.cell (World.block_lt_of_cell? _ _ HMC.out) id).trans HMC.out
    have g2 : wr.cell? ⟨b0, o0 + i, none⟩ = some (.int .i64 r) := (hfr.cell (World.block_lt_of_cell? _ _ HRC.out) id).trans HRC.out
    clear hne hfr
    by_cases hk : k < L
    · obtain ⟨b5, rfl, g3⟩ : ∃ b5, pk = some ⟨b5, 0, none⟩ ∧ wr.cell? ⟨b5, k, none⟩ = some (.int .u32 (ks.getD k (0, 0)).1) := by
        rcases HPK.out.fr HFR.out with h | ⟨b, h1, h2⟩
        · omega
        · exact ⟨b, h1, h2 k hk⟩
      obtain ⟨b6, rfl, g4⟩ : ∃ b6, pr = some ⟨b6, 0, none⟩ ∧ wr.cell? ⟨b6, k, none⟩ = some (.int .i64 (ks.getD k (0, 0)).2) := by
        rcases HPR.out.fr HFR.out with h | ⟨b, h1, h2⟩
        · omega
        · exact ⟨b, h1, h2 k hk⟩
      obtain ⟨⟨x1, x2⟩, hx⟩ : ∃ x, ks.getD k (0, 0) = x := ⟨_, rfl⟩
      rw [hx] at g3 g4
      have HX : Hid (ks.getD k (0, 0) = (x1, x2)) := hx
      clear hx
      have hkL2 : (k : Int) < L := by omega
      have hin2 : (i : Int) < n := by omega
      have hin0 : (i : Int) < n0 := by omega
      replace g3 : wr.cell? ⟨b5, k, none⟩ = some (.int .u32 x1) := g3
      replace g4 : wr.cell? ⟨b6, k, none⟩ = some (.int .i64 x2) := g4
      by_cases h1 : x1 = m
      · by_cases h2 : x2 = r
        · subst h1 h2
          have HID : Hid (ks.idxOf (x1, x2) = k) := idx_found HNE.out (by have := HL.out; omega) HX.out
          go_wp2
          go_quiet (fail)
          go_wp2
          exact HEX.out _ k _ _ _ _ _ _ _ _ _ _ _ _ _ _ _ _ _ _ _ _ _ _ _ _ _ _ _ _ HID.out (HFR.out.drewN _)
        · have HN2 : Hid (∀ g, g < k + 1 → ks.getD g (0, 0) ≠ (m, r)) := ne_more HNE.out (by rw [HX.out]; intro e; cases e; exact h2 rfl)
          go_wp2
          go_quiet (fail)
          go_wp2
          go_roundg (gk - 1)
          case measure => omega
          case rel => exact ⟨k + 1, by go_num, by omega, by omega, HN2.out, HFR.out.drewN _⟩
      · have HN2 : Hid (∀ g, g < k + 1 → ks.getD g (0, 0) ≠ (m, r)) := ne_more HNE.out (by rw [HX.out]; intro e; cases e; exact h1 rfl)
        go_wp2
        go_quiet (fail)
        go_wp2
        go_roundg (gk - 1)
        case measure => omega
        case rel => exact ⟨k + 1, by go_num, by omega, by omega, HN2.out, HFR.out.drewN _⟩
    · obtain rfl : k = L := by omega
      have HID : Hid (ks.idxOf (m, r) = k) := (idx_none (fun g hg => HNE.out g (by have := HL.out; omega))).trans HL.out
      go_wp2
      go_quiet (fail)
      go_wp2
      exact HEX.out _ k _ _ _ _ _ _ _ _ _ _ _ _ _ _ _ _ _ _ _ _ _ _ _ _ _ _ _ _ HID.out (HFR.out.drewN _)
end Go.Proofs.Qxb6616145a
