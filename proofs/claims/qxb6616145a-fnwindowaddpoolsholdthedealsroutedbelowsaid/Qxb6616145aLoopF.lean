import Derived.Test.Qxb6616145aLoopC
import Derived.Maps.AppendAt
import Derived.Lib.Builder
namespace Go.Proofs.Qxb6616145a
open Go.RowKit

theorem app_none {P : Program} {w : World} {ops : Array Oper} {rest : List Oper} {o : Oper} {a : Act} {Q : Exit → Act → World → Prop} (hgd : o.guard = none) (s x : Operand) (t : TypeId)
    (ho : o.op = .call { callee := .builtin .append, args := #[s, x], argTypes := #[t, t] })
    (base : Nat) (e : TypeId) (i : TypeInfo) (size : Nat) (ht : P.underlying t = some (.slice e)) (hi : P.info? e = some i)
    (v : Value) (n c : Nat) (xs : List Value) (hs : a.eval s = v) (hown : w.ownsRow base e size v n xs) (hx : a.eval x = .slice none 0 c)
    (h : wpList P ops Q rest (a.put o.dst v) w) : wpList P ops Q (o :: rest) a w := by
  refine wpList_plain hgd fun K hK => ?_
  have hrun : (Builtin.append_ #[t, t] o.type #[v, .slice none 0 c]).run P w = .ok v w := by
    rcases hown.2 with ⟨rfl, rfl⟩ | ⟨g, cap, cur, rfl, _, _, hnc, _⟩
    · simp [Builtin.append_, run_underlying ht, sizeOf, typeInfo, hi, Builtin.lenOf, Builtin.firstCells]
    · simp [Builtin.append_, run_underlying ht, sizeOf, typeInfo, hi, Builtin.lenOf, Builtin.firstCells, hnc, storeCells]
  unfold Oper.wp
  simp [execOp, ho, resolve, invoke, builtin, hs, hx, hrun, Result.andThen]
  exact hK _ _ h

theorem neq28 (W : World) (a : Addr) : (binOp .neq 28 (.pointer (some a)) (.pointer (some a))).run Try.prog W = .ok (.bool false) W := by
  have h : (Try.prog.info? 51).isSome = true := by kernel_rfl
  obtain ⟨j, hj⟩ := Option.isSome_iff_exists.1 h
  exact Lib.run_neq_ptr_same W a Try.underlying28 hj
theorem kl_news {w : World} {W n : Nat} {ad : Addr} {f : Nat → Int} (h : Ints w W (some ad) n f) : ∀ j u, (ints ((List.range n).map f))[j]? = some u → w.cell? (ad.add j) = some u := by
  intro j u hj
  have hjn : j < n := by
    have := (List.getElem?_eq_some_iff.1 hj).1
    simpa [ints] using this
  rcases h with h | ⟨b, o, h1, h2, h3⟩
  · omega
  · cases h1
    rw [Lib.addr_add, h3 j hjn, ← hj]
    simp [ints, hjn]

theorem inG_pre (rt rel msk : Nat → Int) (b g i n : Nat) (h : i ≤ n) : ∃ t, inG rt rel msk b g n = inG rt rel msk b g i ++ t := by
  induction n with
  | zero => obtain rfl : i = 0 := by omega
            exact ⟨[], by simp⟩
  | succ n ih =>
    by_cases e : i = n + 1
    · subst e; exact ⟨[], by simp⟩
    · obtain ⟨t, ht⟩ := ih (by omega)
      simp only [inG]
      split
      · exact ⟨t ++ [n], by rw [ht, List.append_assoc]⟩
      · exact ⟨t, ht⟩
theorem inG_hit {rt rel msk : Nat → Int} {b g i : Nat} (h : memb rt rel msk b i = g) : inG rt rel msk b g (i + 1) = inG rt rel msk b g i ++ [i] := if_pos h
theorem inG_miss {rt rel msk : Nat → Int} {b g i : Nat} (h : ¬ memb rt rel msk b i = g) : inG rt rel msk b g (i + 1) = inG rt rel msk b g i := if_neg h
theorem inG_at {rt rel msk : Nat → Int} {b g i n : Nat} (h : memb rt rel msk b i = g) (hi : i < n) : (inG rt rel msk b g n)[(inG rt rel msk b g i).length]? = some i := by
  obtain ⟨t, ht⟩ := inG_pre rt rel msk b g (i + 1) n hi
  rw [ht, inG_hit h]
  simp
theorem inG_len (rt rel msk : Nat → Int) (b g : Nat) (il : Nat → Nat) (ms : Nat → Nat → Int) (i : Nat) : (inG rt rel msk b g i).length ≤ i ∧ ((inG rt rel msk b g i).flatMap (klOf il ms)).length ≤ sumTo il i := by
  induction i with
  | zero => simp [inG, sumTo]
  | succ i ih =>
    simp only [inG, sumTo]
    split
    · rw [List.flatMap_append, List.length_append, List.length_append]
      have : ([i].flatMap (klOf il ms)).length = il i := by simp [klOf]
      simp only [List.length_singleton]
      omega
    · omega

/-- The groups, as the plain law has them. -/
theorem Still.grp {w : World} {W U : Nat} {a0 a1 a2 : Option Addr} {n0 n1 n2 n : Nat} {rel rt : Nat → Int} {ia : Nat → Option Addr} {il ic : Nat → Nat} {ms : Nat → Nat → Int} {dbs : Nat → Nat} {pvs : Nat → Value} {gss : Nat → List Grp} (h : Still w W U a0 a1 a2 n0 n1 n2 n rel rt ia il ic ms dbs pvs gss) {b : Nat} (hb : b < 4) :
    (gss b).length = (keys rt rel (mskOf il ms) b n).length ∧ ∀ g, g < (keys rt rel (mskOf il ms) b n).length → (gat (gss b) g).ds = (inG rt rel (mskOf il ms) b g n).map dbs ∧ (gat (gss b) g).ks = (inG rt rel (mskOf il ms) b g n).flatMap (klOf il ms) ∧ (keys rt rel (mskOf il ms) b n).getD g (0, 0) = ((gat (gss b) g).mask, (gat (gss b) g).rel) := by
  have hst := h.st b hb
  have hk := pool_keys rt rel (mskOf il ms) dbs (klOf il ms) b n
  have hlen : (gss b).length = (keys rt rel (mskOf il ms) b n).length := by
    rw [← hk, ← hst]
    simp [St]
  refine ⟨hlen, fun g hg => ?_⟩
  have hget : (St gss b)[g]? = some (gat (gss b) g).abs := by
    unfold St
    rw [List.getElem?_map, gat_get (by omega)]
    rfl
  have hp := pool_at rt rel (mskOf il ms) dbs (klOf il ms) b g n
  rw [← hst, hget, if_pos hg] at hp
  simp only [Option.map_some, Option.some.injEq, Prod.mk.injEq] at hp
  refine ⟨hp.1, hp.2, ?_⟩
  rw [← hk, ← hst]
  simp [List.getD, hget, AG.key, Grp.abs]

set_option maxRecDepth 8000 in
set_option maxHeartbeats 4000000 in
theorem loop7 (N : Act → World → Prop) (W U V : Nat) (a0 a1 a2 : Option Addr) (n0 n1 n2 c1 n b g : Nat) (rel rt : Nat → Int) (ia : Nat → Option Addr) (il ic : Nat → Nat) (ms : Nat → Nat → Int) (dbs : Nat → Nat) (pvs : Nat → Value) (gss : Nat → List Grp) (w0 : World)
    (hS : Still w0 W U a0 a1 a2 n0 n1 n2 n rel rt ia il ic ms dbs pvs gss) (hn1 : n ≤ n1) (hn4 : n ≤ 4096) (hb : b < 4) (hg : g < (keys rt rel (mskOf il ms) b n).length) (hsum : sumTo il n ≤ 1048576) (hmem : ∀ j, j < n → w0.cell? ⟨V, j, none⟩ = some (.int .i64 (memb rt rel (mskOf il ms) b j))) (c0 c2 c3 c4 c5 c6 c9 c10 c12 c15 c16 c17 c18 c20 c21 c25 c26 c27 c28 c29 c30 c31 c32 c33 c34 c35 c36 c37 c38 c39 c40 c41 c42 c43 c44 c45 c46 c47 c48 c49 c50 c51 c52 c53 c54 c55 c56 c57 c58 c59 c60 c61 c62 c63 c64 c65 c66 c67 c68 c69 c70 c71 c72 c73 c74 c75 c76 c77 c78 c79 c80 c81 c82 c83 c84 c85 c86 c87 c88 c89 c90 c91 c92 c93 c94 c95 c96 c97 c98 c99 c100 c101 c102 c103 c104 c105 c106 c107 c108 c109 c110 c111 c112 c113 c114 c115 c116 c117 c118 c119 c120 c121 c122 c123 c124 c125 c126 c127 c128 c129 c130 c131 c132 c133 c134 c135 c136 c137 c138 c139 c140 c141 c142 c143 c144 c145 c146 c147 c148 c149 c150 c151 c152 c153 c154 c155 c156 c157 c158 c159 c160 c161 c162 c163 c164 c165 c166 c167 c168 c169 c170 c171 c172 c173 c174 c175 c176 c177 c178 c179 c180 c181 c182 c183 c184 c185 c186 c187 c188 c189 c190 c191 c192 c193 c194 c195 c196 c197 c198 c199 c200 c201 c202 c203 c204 c205 c206 c207 c208 c209 c210 c211 c212 c213 c214 c215 c216 c217 c218 c219 c220 c221 c222 c223 c224 c225 c226 c227 c228 c229 c230 c231 c232 c233 c234 c235 c236 c237 c238 c239 c240 c241 c242 c243 c244 c245 c246 c247 c248 c249 c250 c251 c252 c253 c254 c255 c256 c257 c258 c259 c260 c261 c262 c263 c264 c265 c266 c267 c268 c269 c270 c271 c272 c273 c274 c275 c276 c277 c278 c279 c280 c281 c282 c283 c284 c285 c286 c287 c288 c289 c290 c291 c292 c293 c294 c295 c296 : Value)
    (hexit : ∀ (wr : World) (d : Nat) (v6 v23 v24 v207 v208 v209 v210 v211 v212 v213 v214 v215 v216 v217 v218 v219 v220 v221 v222 v223 v224 v225 v226 v227 v228 v229 v230 v231 v232 v233 v234 v235 v236 v237 v238 v239 v240 v241 v242 v243 : Value), d = (inG rt rel (mskOf il ms) b g n).length → wr.ownsRow w0.heap.size 3 1 v23 ((inG rt rel (mskOf il ms) b g n).flatMap (klOf il ms)).length (ints ((inG rt rel (mskOf il ms) b g n).flatMap (klOf il ms))) → Fr (fun _ => False) w0 wr → N ⟨#[c0, .slice a1 n1 c1, c2, c3, c4, c5, v6, .int .i64 n, .slice (some ⟨W, 0, none⟩) n n, c9, c10, .pointer (some ⟨U, 0, none⟩), c12, .slice (some ⟨V, 0, none⟩) n n, .int .i64 b, c15, c16, c17, c18, .int .i64 g, c20, c21, .int .i64 d, v23, v24, c25, c26, c27, c28, c29, c30, c31, c32, c33, c34, c35, c36, c37, c38, c39, c40, c41, c42, c43, c44, c45, c46, c47, c48, c49, c50, c51, c52, c53, c54, c55, c56, c57, c58, c59, c60, c61, c62, c63, c64, c65, c66, c67, c68, c69, c70, c71, c72, c73, c74, c75, c76, c77, c78, c79, c80, c81, c82, c83, c84, c85, c86, c87, c88, c89, c90, c91, c92, c93, c94, c95, c96, c97, c98, c99, c100, c101, c102, c103, c104, c105, c106, c107, c108, c109, c110, c111, c112, c113, c114, c115, c116, c117, c118, c119, c120, c121, c122, c123, c124, c125, c126, c127, c128, c129, c130, c131, c132, c133, c134, c135, c136, c137, c138, c139, c140, c141, c142, c143, c144, c145, c146, c147, c148, c149, c150, c151, c152, c153, c154, c155, c156, c157, c158, c159, c160, c161, c162, c163, c164, c165, c166, c167, c168, c169, c170, c171, c172, c173, c174, c175, c176, c177, c178, c179, c180, c181, c182, c183, c184, c185, c186, c187, c188, c189, c190, c191, c192, c193, c194, c195, c196, c197, c198, c199, c200, c201, c202, c203, c204, c205, c206, v207, v208, v209, v210, v211, v212, v213, v214, v215, v216, v217, v218, v219, v220, v221, v222, v223, v224, v225, v226, v227, v228, v229, v230, v231, v232, v233, v234, v235, v236, v237, v238, v239, v240, v241, v242, v243, c244, c245, c246, c247, c248, c249, c250, c251, c252, c253, c254, c255, c256, c257, c258, c259, c260, c261, c262, c263, c264, c265, c266, c267, c268, c269, c270, c271, c272, c273, c274, c275, c276, c277, c278, c279, c280, c281, c282, c283, c284, c285, c286, c287, c288, c289, c290, c291, c292, c293, c294, c295, c296], []⟩ wr) :
    Code.wp Try.prog (blk 6) (Exit.then N (fun _ _ _ => False)) ⟨#[c0, .slice a1 n1 c1, c2, c3, c4, c5, c6, .int .i64 n, .slice (some ⟨W, 0, none⟩) n n, c9, c10, .pointer (some ⟨U, 0, none⟩), c12, .slice (some ⟨V, 0, none⟩) n n, .int .i64 b, c15, c16, c17, c18, .int .i64 g, c20, c21, .int .i64 0, .slice none 0 0, .int .i64 0, c25, c26, c27, c28, c29, c30, c31, c32, c33, c34, c35, c36, c37, c38, c39, c40, c41, c42, c43, c44, c45, c46, c47, c48, c49, c50, c51, c52, c53, c54, c55, c56, c57, c58, c59, c60, c61, c62, c63, c64, c65, c66, c67, c68, c69, c70, c71, c72, c73, c74, c75, c76, c77, c78, c79, c80, c81, c82, c83, c84, c85, c86, c87, c88, c89, c90, c91, c92, c93, c94, c95, c96, c97, c98, c99, c100, c101, c102, c103, c104, c105, c106, c107, c108, c109, c110, c111, c112, c113, c114, c115, c116, c117, c118, c119, c120, c121, c122, c123, c124, c125, c126, c127, c128, c129, c130, c131, c132, c133, c134, c135, c136, c137, c138, c139, c140, c141, c142, c143, c144, c145, c146, c147, c148, c149, c150, c151, c152, c153, c154, c155, c156, c157, c158, c159, c160, c161, c162, c163, c164, c165, c166, c167, c168, c169, c170, c171, c172, c173, c174, c175, c176, c177, c178, c179, c180, c181, c182, c183, c184, c185, c186, c187, c188, c189, c190, c191, c192, c193, c194, c195, c196, c197, c198, c199, c200, c201, c202, c203, c204, c205, c206, c207, c208, c209, c210, c211, c212, c213, c214, c215, c216, c217, c218, c219, c220, c221, c222, c223, c224, c225, c226, c227, c228, c229, c230, c231, c232, c233, c234, c235, c236, c237, c238, c239, c240, c241, c242, c243, c244, c245, c246, c247, c248, c249, c250, c251, c252, c253, c254, c255, c256, c257, c258, c259, c260, c261, c262, c263, c264, c265, c266, c267, c268, c269, c270, c271, c272, c273, c274, c275, c276, c277, c278, c279, c280, c281, c282, c283, c284, c285, c286, c287, c288, c289, c290, c291, c292, c293, c294, c295, c296], []⟩ w0 := by
  obtain ⟨I6, hi6, hz6, hsz6, hby6⟩ := info3
  have HS : Hid (Still w0 W U a0 a1 a2 n0 n1 n2 n rel rt ia il ic ms dbs pvs gss) := hS
  have HMEM : Hid (∀ j, j < n → w0.cell? ⟨V, j, none⟩ = some (.int .i64 (memb rt rel (mskOf il ms) b j))) := hmem
  have HSUM : Hid (sumTo il n ≤ 1048576) := hsum
  have hgr := hS.grp hb
  have hgb : g < (gss b).length := by omega
  obtain ⟨hds, hks, -⟩ := hgr.2 g hg
  have HC13 : Hid (∀ (wr : World), Fr (fun _ => False) w0 wr → ∀ m, Calls Try.prog 13 #[.pointer (some ⟨U, 0, none⟩), .int .i64 b, .int .i64 g] (wr.drewN m) fun e w' => e = .returned (.int .i64 ((inG rt rel (mskOf il ms) b g n).length : Nat)) ∧ w' = wr.drewN m) := by
    intro wr fr m
    refine (groupLen U U b g pvs gss (wr.drewN m) (hS.win.fr (fun k hk => fr.block k hk id)) hb hgb).mono ?_
    rintro e w' ⟨rfl, rfl⟩
    exact ⟨by rw [hds, List.length_map], rfl⟩
  have HC14 : Hid (∀ (wr : World), Fr (fun _ => False) w0 wr → ∀ i, i < n → memb rt rel (mskOf il ms) b i = g → ∀ m, Calls Try.prog 14 #[.pointer (some ⟨U, 0, none⟩), .int .i64 b, .int .i64 g, .int .i64 ((inG rt rel (mskOf il ms) b g i).length : Nat)] (wr.drewN m) fun e w' => e = .returned (.pointer (some ⟨dbs i, 0, none⟩)) ∧ w' = wr.drewN m) := by
    intro wr fr i hi hm m
    have hat := inG_at hm hi
    have hat2 : (gat (gss b) g).ds[(inG rt rel (mskOf il ms) b g i).length]? = some (dbs i) := by rw [hds, List.getElem?_map, hat]; rfl
    obtain ⟨hlt, he⟩ := List.getElem?_eq_some_iff.1 hat2
    refine (groupDeal U U b g _ pvs gss (wr.drewN m) (hS.win.fr (fun k hk => fr.block k hk id)) hb hgb hlt).mono ?_
    rintro e w' ⟨rfl, rfl⟩
    exact ⟨by rw [he], rfl⟩
  have HEX := Hid.mk' hexit
  clear hS hmem hexit hsum hgr hds hks
  conv => arg 2; whnf
  go_wp2
  go_loopg [22, 23, 24] (n + 1) (fun gk s22 s23 s24 wr => ∃ (i A : Nat), s22 = .int .i64 A ∧ s24 = .int .i64 i ∧ i ≤ n ∧ n - i < gk ∧ A = (inG rt rel (mskOf il ms) b g i).length ∧ wr.ownsRow w0.heap.size 3 1 s23 ((inG rt rel (mskOf il ms) b g i).flatMap (klOf il ms)).length (ints ((inG rt rel (mskOf il ms) b g i).flatMap (klOf il ms))) ∧ Fr (fun _ => False) w0 wr)
  case atStart => exact ⟨0, 0, rfl, rfl, by omega, by omega, rfl, ⟨by simp [inG, ints], .inl ⟨rfl, rfl⟩⟩, Fr.refl _ _⟩
  case round =>
    obtain ⟨i, A, rfl, rfl, hin, hgk, hA, hown, hfr⟩ := hrel
    have HA : Hid (A = (inG rt rel (mskOf il ms) b g i).length) := hA
    have HO : Hid (wr.ownsRow w0.heap.size 3 1 u23 ((inG rt rel (mskOf il ms) b g i).flatMap (klOf il ms)).length (ints ((inG rt rel (mskOf il ms) b g i).flatMap (klOf il ms)))) := hown
    have HFR : Hid (Fr (fun _ => False) w0 wr) := hfr
    have hl := inG_len rt rel (mskOf il ms) b g il ms i
    have hAi : A ≤ i := by omega
    have HLS : Hid (((inG rt rel (mskOf il ms) b g i).flatMap (klOf il ms)).length ≤ sumTo il i) := hl.2
    clear hA hown hfr hl
    by_cases hi : i < n
    · have cm : wr.cell? ⟨V, i, none⟩ = some (.int .i64 (memb rt rel (mskOf il ms) b i)) := (HFR.out.cell (World.block_lt_of_cell? _ _ (HMEM.out i hi)) id).trans (HMEM.out i hi)
      obtain ⟨M, hM⟩ : ∃ M, memb rt rel (mskOf il ms) b i = M := ⟨_, rfl⟩
      rw [hM] at cm
      have HM : Hid (memb rt rel (mskOf il ms) b i = M) := hM
      clear hM
      have hin2 : (i : Int) < n := by omega
      by_cases hMg : M = (g : Int)
      · subst hMg
        have HST : Hid (Still wr W U a0 a1 a2 n0 n1 n2 n rel rt ia il ic ms dbs pvs gss) := HS.out.fr (HFR.out.mono (fun _ _ e => e.elim))
        obtain ⟨b1, o1, rfl, g1⟩ := HST.out.inp.at1 (i := i) (by omega)
        have gd := HST.out.dr i hi
        have hin3 : (i : Int) < n1 := by omega
        have hc13 := HC13.out wr HFR.out
        have hc14 := HC14.out wr HFR.out i hi HM.out
        rw [← HA.out] at hc14
        obtain ⟨T, hT⟩ : ∃ T, (inG rt rel (mskOf il ms) b g n).length = T := ⟨_, rfl⟩
        rw [hT] at hc13
        have hAT : (A : Int) < T := by
          have := (List.getElem?_eq_some_iff.1 (inG_at HM.out hi)).1
          have := HA.out
          omega
        have hd1 : decide ((T : Int) ≤ (A : Int)) = false := decide_eq_false (by omega)
        have hd2 : decide (T ≤ A) = false := decide_eq_false (by omega)
        have hq := fun W => neq28 W ⟨dbs i, 0, none⟩
        have HC13' := Hid.mk' hc13
        have HC14' := Hid.mk' hc14
        clear hc13 hc14 hT
        have HOW : Hid (∀ m, (wr.drewN m).ownsRow w0.heap.size 3 1 u23 ((inG rt rel (mskOf il ms) b g i).flatMap (klOf il ms)).length (ints ((inG rt rel (mskOf il ms) b g i).flatMap (klOf il ms)))) := fun m => own_fr HO.out (fun _ _ => rfl)
        have HRI : Hid (Ints wr W (ia i) (il i) (ms i)) := HST.out.inp.ri i (by omega)
        have hilb : sumTo il i + il i ≤ 1048576 := by
          have h1 := sumTo_get (f := il) hi
          have h2 := HSUM.out
          omega
        obtain ⟨X, hX⟩ : ∃ X, X = ((inG rt rel (mskOf il ms) b g i).flatMap (klOf il ms)) := ⟨_, rfl⟩
        have hXl : X.length ≤ sumTo il i := by rw [hX]; exact HLS.out
        rw [← hX] at HOW
        have HX : Hid (X = ((inG rt rel (mskOf il ms) b g i).flatMap (klOf il ms))) := hX
        have HXN : Hid ((inG rt rel (mskOf il ms) b g (i + 1)).flatMap (klOf il ms) = X ++ klOf il ms i) := by
          show _ = _
          rw [inG_hit HM.out, List.flatMap_append, hX]
          simp
        have HWS : Hid (w0.heap.size ≤ wr.heap.size) := HFR.out.size
        clear hX
        have HAN : Hid (A + 1 = (inG rt rel (mskOf il ms) b g (i + 1)).length) := by
          show _ = _
          rw [inG_hit HM.out, List.length_append, ← HA.out]
          rfl
        obtain ⟨p, hp⟩ : ∃ p, ia i = p := ⟨_, rfl⟩
        rw [hp] at g1 HRI
        clear hp
        cases p with
        | none =>
          have hz : il i = 0 := by
            rcases HRI.out with h | ⟨_, _, h, _⟩
            · exact h
            · cases h
          rw [hz] at g1
          have HK0 : Hid (klOf il ms i = []) := by show _ = _; simp [klOf, hz]
          go_wp2
          go_quiet (first | (go_at_call 13; refine Calls.quiet_of_same (HC13'.out _)) | (go_at_call 14; refine Calls.quiet_of_same (HC14'.out _)))
          go_wp2_with (at_builtin; refine app_none rfl (.tmp 238) (.tmp 242) 22 rfl w0.heap.size 3 I6 1 Try.underlying22 hi6 u23 X.length (ic i) (ints X) rfl (HOW.out nq) rfl ?_)
          go_roundg (gk - 1)
          case measure => omega
          case rel =>
            refine ⟨i + 1, A + 1, by go_num, by go_num, by omega, by omega, HAN.out, ?_, HFR.out.drewN _⟩
            rw [HXN.out, HK0.out, List.append_nil]
            exact HOW.out _
        | some ad =>
          have HNW := Hid.mk' (kl_news HRI.out)
          have HKL : Hid (klOf il ms i = (List.range (il i)).map (ms i)) := rfl
          go_wp2
          go_quiet (first | (go_at_call 13; refine Calls.quiet_of_same (HC13'.out _)) | (go_at_call 14; refine Calls.quiet_of_same (HC14'.out _)))
          go_wp2_with (at_builtin; refine wpList_append_own_at _ rfl (.tmp 238) (.tmp 242) 22 rfl w0.heap.size 3 I6 (.int .i64 0) 1 8 Try.underlying22 hi6 hz6 hsz6 hby6 rfl (by decide) u23 X.length (ints X) rfl (HOW.out nq) ad (il i) (ic i) (ints ((List.range (il i)).map (ms i))) rfl ?e1 HNW.out ?e2 ?e3 ?e4 ?e5 ?_)
          case e1 => simp [ints]
          case e2 =>
            intro u hu
            simp only [ints, List.mem_map] at hu
            obtain ⟨x, _, rfl⟩ := hu
            rfl
          case e3 => unfold maxLen; omega
          case e4 => omega
          case e5 => exact HWS.out
          intro v' w7 hown7 hgrow hnil hat
          have HO7 : Hid (w7.ownsRow w0.heap.size 3 1 v' ((inG rt rel (mskOf il ms) b g (i + 1)).flatMap (klOf il ms)).length (ints ((inG rt rel (mskOf il ms) b g (i + 1)).flatMap (klOf il ms)))) := by
            show w7.ownsRow _ _ _ _ _ _
            rw [HXN.out, HKL.out, List.length_append]
            simpa [ints] using hown7
          have HF7 : Hid (Fr (fun _ => False) w0 w7) := (HFR.out.drewN nq).trans (own_grown hgrow) (fun k hk e => by have := (HO.out.lt k e).1; omega)
          clear hown7 hgrow hnil hat
          go_wp2
          go_roundg (gk - 1)
          case measure => omega
          case rel => exact ⟨i + 1, A + 1, by go_num, by go_num, by omega, by omega, HAN.out, HO7.out, HF7.out⟩
      · go_wp2
        go_roundg (gk - 1)
        case measure => omega
        case rel =>
          refine ⟨i + 1, A, rfl, by go_num, by omega, by omega, ?_, ?_, HFR.out⟩
          · rw [inG_miss (fun e => hMg (HM.out.symm.trans e))]; exact HA.out
          · rw [inG_miss (fun e => hMg (HM.out.symm.trans e))]; exact HO.out
    · obtain rfl : i = n := by omega
      go_wp2
      exact HEX.out wr A _ _ _ _ _ _ _ _ _ _ _ _ _ _ _ _ _ _ _ _ _ _ _ _ _ _ _ _ _ _ _ _ _ _ _ _ _ _ _ _ HA.out HO.out HFR.out
end Go.Proofs.Qxb6616145a
