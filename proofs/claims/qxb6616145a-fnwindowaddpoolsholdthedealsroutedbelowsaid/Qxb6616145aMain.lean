import Derived.Test.Qxb6616145aLoopH
namespace Go.Proofs.Qxb6616145a
open Go.RowKit

theorem still_of {w w1 w2 : World} {a0 a1 a2 : Option Addr} {n0 n1 n2 n : Nat} {rel rt : Nat → Int} {ia : Nat → Option Addr} {il ic : Nat → Nat} {ms : Nat → Nat → Int} {dbs : Nat → Nat} {pvs : Nat → Value} {gss : Nat → List Grp} (hI : Inp w w.heap.size a0 a1 a2 n0 n1 n2 rel rt ia il ic ms) (hM : Made w w1 n n rel il ms dbs) (hf : Fr (fun k => w1.heap.size ≤ k) w1 w2) (hW : WinOk w2 w1.heap.size w1.heap.size pvs gss) (hst : ∀ b, b < 4 → St gss b = pool rt rel (mskOf il ms) dbs (klOf il ms) b n) :
    Still w2 w.heap.size w1.heap.size a0 a1 a2 n0 n1 n2 n rel rt ia il ic ms dbs pvs gss := by
  obtain ⟨dg, d1, d2⟩ := hM.drow
  obtain ⟨mg, m1, m2⟩ := hM.mrow
  have h1 := m1.lt
  refine ⟨(hI.fr hM.fr (Nat.le_refl _)).fr (hf.mono (fun k _ e => by omega)) (by omega), fun j hj => ?_, fun j hj => ?_, hW, hst, h1, lt_heap hW.blk⟩
  · rw [hf.cell (p := ⟨w.heap.size, j, none⟩) (by show w.heap.size < _; omega) (by show ¬ _ ≤ w.heap.size; omega), d1.cell hj, d2 j hj]
  · rw [hf.cell (p := ⟨w.heap.size + 1, j, none⟩) (by show w.heap.size + 1 < _; omega) (by show ¬ _ ≤ w.heap.size + 1; omega), m1.cell hj, m2 j hj]
    rfl

set_option maxRecDepth 100000 in
set_option maxHeartbeats 4000000 in
theorem law_go (a0 a1 a2 : Option Addr) (n0 n1 n2 c0 c1 c2 n : Nat) (rel rt : Nat → Int) (ia : Nat → Option Addr) (il ic : Nat → Nat) (ms : Nat → Nat → Int) (w : World) (hI : Inp w w.heap.size a0 a1 a2 n0 n1 n2 rel rt ia il ic ms)
    (hn : n = min (min n0 n1) n2) (h4 : n0 ≤ 4096 ∧ n1 ≤ 4096 ∧ n2 ≤ 4096) (hil : ∀ i, i < n1 → il i ≤ 1048576) (hsum : sumTo il n ≤ 1048576) (hms : ∀ i, i < n → ∀ j, j < il i → -9223372036854775808 ≤ ms i j ∧ ms i j ≤ 9223372036854775807)
    (hrt : ∀ j, j < n → -1 ≤ rt j ∧ rt j < 9223372036854775807) (hf : ∀ i, i < n → rt i < 3 → ∀ j, j < il i → 0 ≤ ms i j ∧ ms i j ≤ 9223372036854775807)
    (hzb : Calls Try.prog 4 #[.slice a0 n0 c0, .slice a1 n1 c1, .slice a2 n2 c2] w fun e w' => e = .returned (.bool true) ∧ w' = w)
    (htb : Calls Try.prog 5 #[.slice a0 n0 c0, .slice a1 n1 c1, .slice a2 n2 c2] w fun e w' => e = .returned (.bool false) ∧ w' = w)
    (hod : Calls Try.prog 6 #[.slice a1 n1 c1, .slice a2 n2 c2, .int .i64 n, .int .i64 (-1), .int .i64 3] w fun e w' => e = .returned (.bool false) ∧ w' = w) :
    Calls Try.prog 3 #[.slice a0 n0 c0, .slice a1 n1 c1, .slice a2 n2 c2] w fun e w' => e = .returned (.bool true) ∧ Fr (fun k => w.heap.size ≤ k) w w' := by
  have HI : Hid (Inp w w.heap.size a0 a1 a2 n0 n1 n2 rel rt ia il ic ms) := hI
  have HN : Hid (n = min (min n0 n1) n2) := hn
  have HIL : Hid (∀ i, i < n1 → il i ≤ 1048576) := hil
  have HSUM := Hid.mk' hsum
  have HMS := Hid.mk' hms
  have HRT := Hid.mk' hrt
  have HF := Hid.mk' hf
  have HZB := Hid.mk' hzb
  have HTB := Hid.mk' htb
  have HOD := Hid.mk' hod
  have hn4 : n ≤ 4096 := by omega
  have hn0 : n ≤ n0 ∧ n ≤ n1 ∧ n ≤ n2 := by omega
  have mk26 := make26 n (by omega)
  have mk27 := make27 n (by omega)
  have mk22 := make22 n (by omega)
  clear hI hn hil hzb htb hod hsum hms hrt hf
  obtain ⟨m1, m2, m3⟩ := h4
  obtain ⟨l1, l2, l3⟩ := hn0
  go_enter Try.func3, Try.ntmps3
  go_upto_region 5 with (first
    | (go_at_call 4; refine HZB.out.mono ?_; rintro e w ⟨rfl, rfl⟩)
    | (go_at_call 5; refine HTB.out.mono ?_; rintro e w ⟨rfl, rfl⟩))
  go_cut [7] from 30 (fun s7 wc => s7 = .int .i64 n ∧ wc = w)
  case first =>
    go_wp2
    all_goals
      go_meet
      case rel =>
        refine ⟨?_, rfl⟩
        have := HN.out
        rw [this]
        congr 1
        omega
  case rest =>
    obtain ⟨rfl, rfl⟩ := hcut
    go_upto_block 0 with (go_at_call 6; refine HOD.out.mono ?_; rintro e w ⟨rfl, rfl⟩; dsimp only)
    have HM0 : Hid (Made w ((w.alloc (.cells ((List.range n).map (fun _ => Value.pointer none)).toArray 28)).alloc (.cells ((List.range n).map (fun _ => Value.int .u32 0)).toArray 30)) n 0 rel il ms (fun _ => 0)) := made_start w n rel il ms
    clear mk26 mk27 HZB HTB HOD
    refine wp_normal (loop1 _ a0 a1 a2 n0 n1 n2 c0 c1 c2 n rel rt ia il ic ms w _ HI.out l1 l2 hn4 HIL.out HM0.out _ _ _ _ _ _ _ _ _ _ _ _ _ _ _ _ _ _ _ _ _ _ _ _ _ _ _ _ _ _ _ _ _ _ _ _ _ _ _ _ _ _ _ _ _ _ _ _ _ _ _ _ _ _ _ _ _ _ _ _ _ _ _ _ _ _ _ _ _ _ _ _ _ _ _ _ _ _ _ _ _ _ _ _ _ _ _ _ _ _ _ _ _ _ _ _ _ _ _ _ _ _ _ _ _ _ _ _ _ _ _ _ _ _ _ _ _ _ _ _ _ _ _ _ _ _ _ _ _ _ _ _ _ _ _ _ _ _ _ _ _ _ _ _ _ _ _ _ _ _ _ _ _ _ _ _ _ _ _ _ _ _ _ _ _ _ _ _ _ _ _ _ _ _ _ _ _ _ _ _ _ _ _ _ _ _ _ _ _ _ _ _ _ _ _ _ _ _ _ _ _ _ _ _ _ _ _ _ _ _ _ _ _ _ _ _ _ _ _ _ _ _ _ _ _ _ _ _ _ _ _ _ _ _ _ _ _ _ _ _ _ _ _ _ _ _ _ _ _ _ _ _ _ _ _ _ _ _ _ _ _ _ _ _ _ _ _ _ _ _ _ _ _ _ _ _ _ _ _ _ _ _ _ _ _ _ _ _ _ _ ?_)
    intro w1 dbs v10 v54 v55 v56 v57 v58 v59 v60 v61 v62 v63 v64 v65 v66 v67 v68 v69 v70 v71 v72 v73 v74 v75 v76 v77 v78 hM
    have HM := Hid.mk' hM
    clear hM
    go_upto_block 2 with (go_at_call 9; refine (newWindow w1).mono ?_; rintro e w1' ⟨rfl, hw1⟩; have HW1 := Hid.mk' hw1; clear hw1; dsimp only)
    have HPL : Hid (Pools w1' w1.heap.size rt rel (mskOf il ms) dbs (klOf il ms) 0 ∧ Fr (fun k => w1.heap.size ≤ k) w1 w1') := by
      have := HW1.out
      subst this
      exact ⟨pools_start _ _ _ _ _ _, (Fr.refl _ _).alloc _⟩
    obtain ⟨dg, d1, d2⟩ := HM.out.drow
    obtain ⟨mg, q1, -⟩ := HM.out.mrow
    have hWU := d1.lt
    have HDG := Hid.mk' d1
    have HDG2 := Hid.mk' d2
    clear d1 d2 q1
    refine wp_normal (loop2 _ a0 a1 a2 n0 n1 n2 c0 c1 c2 n w.heap.size rel rt il ms dbs dg w1 w1' l3 hn4 hWU (HI.out.fr HM.out.fr (Nat.le_refl _)).r2 HDG.out HDG2.out (fun j hj => (HM.out.deal j hj).2) HSUM.out HRT.out HF.out HPL.out.1 HPL.out.2 _ _ _ _ _ _ _ _ _ _ _ _ _ _ _ _ _ _ _ _ _ _ _ _ _ _ _ _ _ _ _ _ _ _ _ _ _ _ _ _ _ _ _ _ _ _ _ _ _ _ _ _ _ _ _ _ _ _ _ _ _ _ _ _ _ _ _ _ _ _ _ _ _ _ _ _ _ _ _ _ _ _ _ _ _ _ _ _ _ _ _ _ _ _ _ _ _ _ _ _ _ _ _ _ _ _ _ _ _ _ _ _ _ _ _ _ _ _ _ _ _ _ _ _ _ _ _ _ _ _ _ _ _ _ _ _ _ _ _ _ _ _ _ _ _ _ _ _ _ _ _ _ _ _ _ _ _ _ _ _ _ _ _ _ _ _ _ _ _ _ _ _ _ _ _ _ _ _ _ _ _ _ _ _ _ _ _ _ _ _ _ _ _ _ _ _ _ _ _ _ _ _ _ _ _ _ _ _ _ _ _ _ _ _ _ _ _ _ _ _ _ _ _ _ _ _ _ _ _ _ _ _ _ _ _ _ _ _ _ _ _ _ _ _ _ _ _ _ _ _ _ _ _ _ _ _ _ _ _ _ _ _ _ _ _ _ _ _ _ _ _ _ _ _ _ _ _ _ _ _ _ _ _ _ _ _ _ _ _ ?_)
    intro w2 x12 x80 x81 x82 x83 x84 x85 x86 x87 x88 x89 x90 x91 x92 x93 x94 x95 x96 x97 x98 x99 x100 x101 x102 x103 hP2 hf2
    obtain ⟨pvs, gss, hwin, hst⟩ := hP2
    have HS2 : Hid (Still w2 w.heap.size w1.heap.size a0 a1 a2 n0 n1 n2 n rel rt ia il ic ms dbs pvs gss) := still_of HI.out HM.out hf2 hwin hst
    have HF2 : Hid (Fr (fun k => w.heap.size ≤ k) w w2) := HM.out.fr.trans hf2 (fun k hk e => by omega)
    clear hwin hst hf2
    go_upto_block 4 with fail
    refine wp_normal (loop3 _ w.heap.size w1.heap.size a0 a1 a2 n0 n1 n2 c0 c1 c2 n rel rt ia il ic ms dbs pvs gss w2 _ HS2.out l1 l2 l3 hn4 HSUM.out HMS.out ((Fr.refl _ _).alloc _) ⟨_, blockTop _ _ _ rfl⟩ _ _ _ _ _ _ _ _ _ _ _ _ _ _ _ _ _ _ _ _ _ _ _ _ _ _ _ _ _ _ _ _ _ _ _ _ _ _ _ _ _ _ _ _ _ _ _ _ _ _ _ _ _ _ _ _ _ _ _ _ _ _ _ _ _ _ _ _ _ _ _ _ _ _ _ _ _ _ _ _ _ _ _ _ _ _ _ _ _ _ _ _ _ _ _ _ _ _ _ _ _ _ _ _ _ _ _ _ _ _ _ _ _ _ _ _ _ _ _ _ _ _ _ _ _ _ _ _ _ _ _ _ _ _ _ _ _ _ _ _ _ _ _ _ _ _ _ _ _ _ _ _ _ _ _ _ _ _ _ _ _ _ _ _ _ _ _ _ _ _ _ _ _ _ _ _ _ _ _ _ _ _ _ _ _ _ _ _ _ _ _ _ _ _ _ _ _ _ _ _ _ _ _ _ _ _ _ _ _ _ _ _ _ _ _ _ _ _ _ _ _ _ _ _ _ _ _ _ _ _ _ _ _ _ _ _ _ _ _ _ _ _ _ _ _ _ _ _ _ _ _ _ _ _ _ _ _ _ _ _ _ _ _ _ _ _ _ _ _ _ _ _ _ _ _ _ _ _ _ _ _ _ _ _ _ _ _ _ ?_)
    intro w3 y6 y14 y15 y16 y17 y18 y19 y20 y21 y22 y23 y24 y25 y26 y27 y28 y29 y106 y107 y108 y109 y110 y111 y112 y113 y114 y115 y116 y117 y118 y119 y120 y121 y122 y123 y124 y125 y126 y127 y128 y129 y130 y131 y132 y133 y134 y135 y136 y137 y138 y139 y140 y141 y142 y143 y144 y145 y146 y147 y148 y149 y150 y151 y152 y153 y154 y155 y156 y157 y158 y159 y160 y161 y162 y163 y164 y165 y166 y167 y168 y169 y170 y171 y172 y173 y174 y175 y176 y177 y178 y179 y180 y181 y182 y183 y184 y185 y186 y187 y188 y189 y190 y191 y192 y193 y194 y195 y196 y197 y198 y199 y200 y201 y202 y203 y204 y205 y206 y207 y208 y209 y210 y211 y212 y213 y214 y215 y216 y217 y218 y219 y220 y221 y222 y223 y224 y225 y226 y227 y228 y229 y230 y231 y232 y233 y234 y235 y236 y237 y238 y239 y240 y241 y242 y243 y244 y245 y246 y247 y248 y249 y250 y251 y252 y253 y254 y255 y256 y257 y258 y259 y260 y261 y262 y263 y264 y265 y266 y267 y268 y269 y270 y271 y272 y273 y274 y275 y276 y277 y278 y279 y280 y281 y282 y283 y284 y285 y286 y287 y288 y289 y290 y291 y292 y293 y294 y295 y296 hf3
    have HF3 : Hid (Fr (fun k => w.heap.size ≤ k) w w3) := HF2.out.trans hf3 (fun k hk e => by have := HF2.out.size; omega)
    clear hf3
    go_wp2
    go_ret
    exact ⟨rfl, HF3.out⟩
end Go.Proofs.Qxb6616145a
