import Derived.Test.Qxb6616145aLoopA
namespace Go.Proofs.Qxb6616145a
open Go.RowKit

/-- The four pools after the first i deals. -/
def Pools (w : World) (U : Nat) (rt rel msk : Nat → Int) (dbs : Nat → Nat) (kl : Nat → List Int) (i : Nat) : Prop :=
  ∃ pvs gss, WinOk w U U pvs gss ∧ ∀ b, b < 4 → St gss b = pool rt rel msk dbs kl b i
def klOf (il : Nat → Nat) (ms : Nat → Nat → Int) : Nat → List Int := fun j => (List.range (il j)).map (ms j)
def mskOf (il : Nat → Nat) (ms : Nat → Nat → Int) : Nat → Int := fun j => maskTo (ms j) (il j)
theorem klOf_len (il : Nat → Nat) (ms : Nat → Nat → Int) : (fun j => (klOf il ms j).length) = il := by
  funext j
  simp [klOf]
theorem pools_start (w : World) (rt rel msk : Nat → Int) (dbs : Nat → Nat) (kl : Nat → List Int) : Pools (w.alloc (.cells #[.slice none 0 0, .slice none 0 0, .slice none 0 0, .slice none 0 0] 64)) w.heap.size rt rel msk dbs kl 0 :=
  ⟨_, _, win_start w _, fun _ _ => rfl⟩
theorem windowAddD (U i : Nat) (rt rel : Nat → Int) (il : Nat → Nat) (ms : Nat → Nat → Int) (dbs : Nat → Nat) (w : World) (h : Pools w U rt rel (mskOf il ms) dbs (klOf il ms) i) (hD : Deal w U (dbs i) (rel i) (il i) (ms i)) (hU : U ≤ w.heap.size) (hn : il i ≤ 1048576) (hi : i ≤ 4095) (hsum : sumTo il i ≤ 1048576)
    (hrt : -1 ≤ rt i ∧ rt i < 9223372036854775807) (hf : rt i < 3 → ∀ j, j < il i → 0 ≤ ms i j ∧ ms i j ≤ 9223372036854775807) :
    Calls Try.prog 10 #[.pointer (some ⟨U, 0, none⟩), .pointer (some ⟨dbs i, 0, none⟩), .int .i64 (rt i)] w.drew fun e w' => e = .returned (.tuple #[]) ∧ Pools w' U rt rel (mskOf il ms) dbs (klOf il ms) (i + 1) ∧ Fr (fun k => U ≤ k) w w' := by
  obtain ⟨pvs, gss, h1, h2⟩ := h
  have hs : Small (St gss) 4095 := fun b hb => by
    rw [h2 b hb]
    have h3 := pool_small rt rel (mskOf il ms) dbs (klOf il ms) b i
    rw [klOf_len] at h3
    exact ⟨Nat.le_trans h3.1 hi, fun g hg => ⟨Nat.le_trans (h3.2 g hg).1 hi, by have := (h3.2 g hg).2; omega⟩⟩
  have hW : WinOk w.drew U U pvs gss := h1.fr (fun _ _ => rfl)
  have hDd : Deal w.drew U (dbs i) (rel i) (il i) (ms i) := hD
  refine (windowAdd U U U (dbs i) pvs gss (rel i) (rt i) (il i) (ms i) w.drew hW hDd (Nat.le_refl _) (Nat.le_refl _) hU hn hrt hf hs).mono ?_
  rintro e w' ⟨rfl, pvs', gss', q1, q2, q3⟩
  refine ⟨rfl, ⟨pvs', gss', q1, fun b hb => ?_⟩, q3.os, q3.output, q3.size, q3.block⟩
  rw [q2 b hb]
  unfold pushTo
  simp only [pool]
  by_cases hc : rt i < (b : Int)
  · rw [if_pos ⟨hc, by omega⟩, if_pos hc, h2 b hb]
    rfl
  · rw [if_neg (fun e => hc e.1), if_neg hc, h2 b hb]
theorem Pools.fr {w w' : World} {U i : Nat} {rt rel msk : Nat → Int} {dbs : Nat → Nat} {kl : Nat → List Int} (h : Pools w U rt rel msk dbs kl i) (hb : ∀ k, k < w.heap.size → w'.heap[k]? = w.heap[k]?) : Pools w' U rt rel msk dbs kl i := by
  obtain ⟨pvs, gss, h1, h2⟩ := h
  exact ⟨pvs, gss, h1.fr hb, h2⟩

set_option maxRecDepth 8000 in
set_option maxHeartbeats 4000000 in
theorem loop2 (N : Act → World → Prop) (a0 a1 a2 : Option Addr) (n0 n1 n2 c0 c1 c2 n W : Nat) (rel rt : Nat → Int) (il : Nat → Nat) (ms : Nat → Nat → Int) (dbs : Nat → Nat) (dg : Nat → Value) (w1 w0 : World)
    (hn2 : n ≤ n2) (hn4 : n ≤ 4096) (hWU : W < w1.heap.size) (hR2 : Ints w1 W a2 n2 rt) (hdg : FRow w1 W 28 n dg) (hdg2 : ∀ j, j < n → dg j = .pointer (some ⟨dbs j, 0, none⟩))
    (hD : ∀ j, j < n → Deal w1 w1.heap.size (dbs j) (rel j) (il j) (ms j)) (hsum : sumTo il n ≤ 1048576)
    (hrt : ∀ j, j < n → -1 ≤ rt j ∧ rt j < 9223372036854775807) (hf : ∀ i, i < n → rt i < 3 → ∀ j, j < il i → 0 ≤ ms i j ∧ ms i j ≤ 9223372036854775807)
    (hP : Pools w0 w1.heap.size rt rel (mskOf il ms) dbs (klOf il ms) 0) (hfr : Fr (fun k => w1.heap.size ≤ k) w1 w0) (c3 c4 c5 c6 c10 c13 c14 c15 c16 c17 c18 c19 c20 c21 c22 c23 c24 c25 c26 c27 c28 c29 c30 c31 c32 c33 c34 c35 c36 c37 c38 c39 c40 c41 c42 c43 c44 c45 c46 c47 c48 c49 c50 c51 c52 c53 c54 c55 c56 c57 c58 c59 c60 c61 c62 c63 c64 c65 c66 c67 c68 c69 c70 c71 c72 c73 c74 c75 c76 c77 c78 c79 c80 c81 c82 c83 c84 c85 c86 c87 c88 c89 c90 c91 c92 c93 c94 c95 c96 c97 c98 c99 c100 c101 c102 c103 c104 c105 c106 c107 c108 c109 c110 c111 c112 c113 c114 c115 c116 c117 c118 c119 c120 c121 c122 c123 c124 c125 c126 c127 c128 c129 c130 c131 c132 c133 c134 c135 c136 c137 c138 c139 c140 c141 c142 c143 c144 c145 c146 c147 c148 c149 c150 c151 c152 c153 c154 c155 c156 c157 c158 c159 c160 c161 c162 c163 c164 c165 c166 c167 c168 c169 c170 c171 c172 c173 c174 c175 c176 c177 c178 c179 c180 c181 c182 c183 c184 c185 c186 c187 c188 c189 c190 c191 c192 c193 c194 c195 c196 c197 c198 c199 c200 c201 c202 c203 c204 c205 c206 c207 c208 c209 c210 c211 c212 c213 c214 c215 c216 c217 c218 c219 c220 c221 c222 c223 c224 c225 c226 c227 c228 c229 c230 c231 c232 c233 c234 c235 c236 c237 c238 c239 c240 c241 c242 c243 c244 c245 c246 c247 c248 c249 c250 c251 c252 c253 c254 c255 c256 c257 c258 c259 c260 c261 c262 c263 c264 c265 c266 c267 c268 c269 c270 c271 c272 c273 c274 c275 c276 c277 c278 c279 c280 c281 c282 c283 c284 c285 c286 c287 c288 c289 c290 c291 c292 c293 c294 c295 c296 : Value)
    (hexit : ∀ (wr : World) (v12 v80 v81 v82 v83 v84 v85 v86 v87 v88 v89 v90 v91 v92 v93 v94 v95 v96 v97 v98 v99 v100 v101 v102 v103 : Value), Pools wr w1.heap.size rt rel (mskOf il ms) dbs (klOf il ms) n → Fr (fun k => w1.heap.size ≤ k) w1 wr → N ⟨#[.slice a0 n0 c0, .slice a1 n1 c1, .slice a2 n2 c2, c3, c4, c5, c6, .int .i64 n, .slice (some ⟨W, 0, none⟩) n n, .slice (some ⟨W + 1, 0, none⟩) n n, c10, .pointer (some ⟨w1.heap.size, 0, none⟩), v12, c13, c14, c15, c16, c17, c18, c19, c20, c21, c22, c23, c24, c25, c26, c27, c28, c29, c30, c31, c32, c33, c34, c35, c36, c37, c38, c39, c40, c41, c42, c43, c44, c45, c46, c47, c48, c49, c50, c51, c52, c53, c54, c55, c56, c57, c58, c59, c60, c61, c62, c63, c64, c65, c66, c67, c68, c69, c70, c71, c72, c73, c74, c75, c76, c77, c78, c79, v80, v81, v82, v83, v84, v85, v86, v87, v88, v89, v90, v91, v92, v93, v94, v95, v96, v97, v98, v99, v100, v101, v102, v103, c104, c105, c106, c107, c108, c109, c110, c111, c112, c113, c114, c115, c116, c117, c118, c119, c120, c121, c122, c123, c124, c125, c126, c127, c128, c129, c130, c131, c132, c133, c134, c135, c136, c137, c138, c139, c140, c141, c142, c143, c144, c145, c146, c147, c148, c149, c150, c151, c152, c153, c154, c155, c156, c157, c158, c159, c160, c161, c162, c163, c164, c165, c166, c167, c168, c169, c170, c171, c172, c173, c174, c175, c176, c177, c178, c179, c180, c181, c182, c183, c184, c185, c186, c187, c188, c189, c190, c191, c192, c193, c194, c195, c196, c197, c198, c199, c200, c201, c202, c203, c204, c205, c206, c207, c208, c209, c210, c211, c212, c213, c214, c215, c216, c217, c218, c219, c220, c221, c222, c223, c224, c225, c226, c227, c228, c229, c230, c231, c232, c233, c234, c235, c236, c237, c238, c239, c240, c241, c242, c243, c244, c245, c246, c247, c248, c249, c250, c251, c252, c253, c254, c255, c256, c257, c258, c259, c260, c261, c262, c263, c264, c265, c266, c267, c268, c269, c270, c271, c272, c273, c274, c275, c276, c277, c278, c279, c280, c281, c282, c283, c284, c285, c286, c287, c288, c289, c290, c291, c292, c293, c294, c295, c296], []⟩ wr) :
    Code.wp Try.prog (blk 1) (Exit.then N (fun _ _ _ => False)) ⟨#[.slice a0 n0 c0, .slice a1 n1 c1, .slice a2 n2 c2, c3, c4, c5, c6, .int .i64 n, .slice (some ⟨W, 0, none⟩) n n, .slice (some ⟨W + 1, 0, none⟩) n n, c10, .pointer (some ⟨w1.heap.size, 0, none⟩), .int .i64 0, c13, c14, c15, c16, c17, c18, c19, c20, c21, c22, c23, c24, c25, c26, c27, c28, c29, c30, c31, c32, c33, c34, c35, c36, c37, c38, c39, c40, c41, c42, c43, c44, c45, c46, c47, c48, c49, c50, c51, c52, c53, c54, c55, c56, c57, c58, c59, c60, c61, c62, c63, c64, c65, c66, c67, c68, c69, c70, c71, c72, c73, c74, c75, c76, c77, c78, c79, c80, c81, c82, c83, c84, c85, c86, c87, c88, c89, c90, c91, c92, c93, c94, c95, c96, c97, c98, c99, c100, c101, c102, c103, c104, c105, c106, c107, c108, c109, c110, c111, c112, c113, c114, c115, c116, c117, c118, c119, c120, c121, c122, c123, c124, c125, c126, c127, c128, c129, c130, c131, c132, c133, c134, c135, c136, c137, c138, c139, c140, c141, c142, c143, c144, c145, c146, c147, c148, c149, c150, c151, c152, c153, c154, c155, c156, c157, c158, c159, c160, c161, c162, c163, c164, c165, c166, c167, c168, c169, c170, c171, c172, c173, c174, c175, c176, c177, c178, c179, c180, c181, c182, c183, c184, c185, c186, c187, c188, c189, c190, c191, c192, c193, c194, c195, c196, c197, c198, c199, c200, c201, c202, c203, c204, c205, c206, c207, c208, c209, c210, c211, c212, c213, c214, c215, c216, c217, c218, c219, c220, c221, c222, c223, c224, c225, c226, c227, c228, c229, c230, c231, c232, c233, c234, c235, c236, c237, c238, c239, c240, c241, c242, c243, c244, c245, c246, c247, c248, c249, c250, c251, c252, c253, c254, c255, c256, c257, c258, c259, c260, c261, c262, c263, c264, c265, c266, c267, c268, c269, c270, c271, c272, c273, c274, c275, c276, c277, c278, c279, c280, c281, c282, c283, c284, c285, c286, c287, c288, c289, c290, c291, c292, c293, c294, c295, c296], []⟩ w0 := by
  have HR2 : Hid (Ints w1 W a2 n2 rt) := hR2
  have HDG : Hid (FRow w1 W 28 n dg) := hdg
  have HDG2 : Hid (∀ j, j < n → dg j = .pointer (some ⟨dbs j, 0, none⟩)) := hdg2
  have HD : Hid (∀ j, j < n → Deal w1 w1.heap.size (dbs j) (rel j) (il j) (ms j)) := hD
  have HRT : Hid (∀ j, j < n → -1 ≤ rt j ∧ rt j < 9223372036854775807) := hrt
  have HF : Hid (∀ i, i < n → rt i < 3 → ∀ j, j < il i → 0 ≤ ms i j ∧ ms i j ≤ 9223372036854775807) := hf
  have HSUM : Hid (sumTo il n ≤ 1048576) := hsum
  have HP0 : Hid (Pools w0 w1.heap.size rt rel (mskOf il ms) dbs (klOf il ms) 0) := hP
  have HFR0 : Hid (Fr (fun k => w1.heap.size ≤ k) w1 w0) := hfr
  have HEX := Hid.mk' hexit
  clear hR2 hdg hdg2 hD hrt hf hsum hP hfr hexit
  conv => arg 2; whnf
  go_wp2
  go_loopg [12] (n + 1) (fun gk s12 wr => ∃ (i : Nat), s12 = .int .i64 i ∧ i ≤ n ∧ n - i < gk ∧ Pools wr w1.heap.size rt rel (mskOf il ms) dbs (klOf il ms) i ∧ Fr (fun k => w1.heap.size ≤ k) w1 wr)
  case atStart => exact ⟨0, rfl, by omega, by omega, HP0.out, HFR0.out⟩
  case round =>
    obtain ⟨i, rfl, hin, hgk, hpools, hfr⟩ := hrel
    have HP : Hid (Pools wr w1.heap.size rt rel (mskOf il ms) dbs (klOf il ms) i) := hpools
    have HFR : Hid (Fr (fun k => w1.heap.size ≤ k) w1 wr) := hfr
    clear hpools hfr
    by_cases hi : i < n
    · obtain ⟨b2, o2, e2, f2, g2⟩ : ∃ b2 o2, a2 = some ⟨b2, o2, none⟩ ∧ b2 < W ∧ w1.cell? ⟨b2, o2 + i, none⟩ = some (.int .i64 (rt i)) := by
        rcases HR2.out with h | ⟨b, o, q1, q2, q3⟩
        · omega
        · exact ⟨b, o, q1, q2, q3 i (by omega)⟩
      subst e2
      have g1 : w1.cell? ⟨W, i, none⟩ = some (.pointer (some ⟨dbs i, 0, none⟩)) := by rw [HDG.out.cell hi, HDG2.out i hi]
      have HC : Hid (∀ V, Fr (fun k => w1.heap.size ≤ k) w1 V → V.cell? ⟨W, i, none⟩ = some (.pointer (some ⟨dbs i, 0, none⟩)) ∧ V.cell? ⟨b2, o2 + i, none⟩ = some (.int .i64 (rt i))) := fun V fr => ⟨(fr.cell (p := ⟨W, i, none⟩) (by show W < _; omega) (by show ¬ _ ≤ W; omega)).trans g1, (fr.cell (p := ⟨b2, o2 + i, none⟩) (by show b2 < _; omega) (by show ¬ _ ≤ b2; omega)).trans g2⟩
      have HS0 : Hid (wr.drew.cell? ⟨W, i, none⟩ = some (.pointer (some ⟨dbs i, 0, none⟩)) ∧ wr.drew.cell? ⟨b2, o2 + i, none⟩ = some (.int .i64 (rt i))) := HC.out wr HFR.out
      have HDW : Hid (Deal wr w1.heap.size (dbs i) (rel i) (il i) (ms i)) := (HD.out i hi).fr HFR.out (Nat.le_refl _)
      have HILI : Hid (il i ≤ 1048576 ∧ sumTo il i ≤ 1048576) := by
        have h1 := sumTo_get (f := il) hi
        have h2 := HSUM.out
        exact ⟨by omega, by omega⟩
      clear g1 g2
      go_upto_region 19 with fail
      go_region_held (fun w' => w'.cell? ⟨W, i, none⟩ = some (.pointer (some ⟨dbs i, 0, none⟩)) ∧ w'.cell? ⟨b2, o2 + i, none⟩ = some (.int .i64 (rt i)))
        (first | exact HS1.out | exact HS0.out)
        (first
          | (go_at_call 10
             refine (windowAddD w1.heap.size i rt rel il ms dbs wr HP.out HDW.out HFR.out.size HILI.out.1 (by omega) HILI.out.2 (HRT.out i hi) (HF.out i hi)).mono ?_
             rintro e w4 ⟨rfl, hp4, hf4⟩
             have HP4 : Hid (Pools w4 w1.heap.size rt rel (mskOf il ms) dbs (klOf il ms) (i + 1)) := hp4
             have HF4 : Hid (Fr (fun k => w1.heap.size ≤ k) w1 w4) := HFR.out.trans hf4 (fun _ _ e => e)
             have HS1 : Hid (w4.cell? ⟨W, i, none⟩ = some (.pointer (some ⟨dbs i, 0, none⟩)) ∧ w4.cell? ⟨b2, o2 + i, none⟩ = some (.int .i64 (rt i))) := HC.out w4 HF4.out
             clear hp4 hf4))
      all_goals
        have HT0 : Hid (w4.drew.cell? ⟨W, i, none⟩ = some (.pointer (some ⟨dbs i, 0, none⟩)) ∧ w4.drew.cell? ⟨b2, o2 + i, none⟩ = some (.int .i64 (rt i))) := HS1.out
        go_upto_region 20 with fail
        go_region_held (fun w' => w'.cell? ⟨W, i, none⟩ = some (.pointer (some ⟨dbs i, 0, none⟩)) ∧ w'.cell? ⟨b2, o2 + i, none⟩ = some (.int .i64 (rt i)))
          (first | exact HT0.out)
          (first
            | (go_at_call 10
               refine (windowAddNil (dbs i) (rt i) w4.drew).mono ?_
               rintro e w5 ⟨rfl, rfl⟩))
        all_goals
          go_wp2
          go_roundg (gk - 1)
          case measure => omega
          case rel => exact ⟨i + 1, by go_num, by omega, by omega, HP4.out.fr (fun _ _ => rfl), HF4.out.os, HF4.out.output, HF4.out.size, HF4.out.block⟩
    · obtain rfl : i = n := by omega
      go_wp2
      exact HEX.out wr _ _ _ _ _ _ _ _ _ _ _ _ _ _ _ _ _ _ _ _ _ _ _ _ _ HP.out HFR.out
end Go.Proofs.Qxb6616145a
