import Derived.Test.Qxb6616145aHit
import Derived.Deep.Cut
namespace Go.Proofs.Qxb6616145a
open Go.RowKit

theorem found_row' {w W : World} {N : Nat} {pa : Option Addr} {gs : List Grp} (fr : Fr (fun _ => False) w W) (hc : N = 0 ∨ ∃ pb, pa = some ⟨pb, 0, none⟩ ∧ ∀ j, j < N → w.cell? ⟨pb, j, none⟩ = some (.pointer (some ⟨(gat gs j).blk, 0, none⟩))) :
    Hid (N = 0 ∨ ∃ pb', pa = some ⟨pb', 0, none⟩ ∧ ∀ j, j < N → W.cell? ⟨pb', j, none⟩ = some (.pointer (some ⟨(gat gs j).blk, 0, none⟩))) := by
  rcases hc with h | ⟨pb, rfl, h⟩
  · exact .inl h
  · exact found_row fr h

/-- Behind the laying of the new group. -/
def Mid (w : World) (B wb b : Nat) (cs : Array Value) (pv : Value) (gs : List Grp) (m r : Int) (wc : World) : Prop :=
  ∃ pv' g0, PoolOk wc B pv' (gs ++ g0 :: []) ∧ g0.abs = ⟨m, r, [], []⟩ ∧ wc.heap[wb]? = some (.cells (cs.setIfInBounds b pv') 64 (0, 0)) ∧ (∀ k, foot g0 k → w.heap.size ≤ k) ∧ (∀ k, pv'.ownBlock = some k → pv.ownBlock = some k ∨ w.heap.size ≤ k) ∧ Fr (fun k => k = wb ∨ pv.ownBlock = some k) w wc

/-- The world at the append. -/
def W4 (w3 : World) (m r : Int) : World := (((w3.drew).alloc (.map #[] 0)).alloc (.cells #[.int .u32 m, .int .i64 r, .slice none 0 0, .map (some w3.heap.size)] 73)).alloc (.cells #[.pointer (some ⟨w3.heap.size + 1, 0, none⟩)] 74)
theorem w4_size (w3 : World) (m r : Int) : (W4 w3 m r).heap.size = w3.heap.size + 3 := by simp [W4]
theorem w4_at (w3 : World) (m r : Int) : (W4 w3 m r).heap[w3.heap.size]? = some (.map #[] 0) ∧ (W4 w3 m r).heap[w3.heap.size + 1]? = some (.cells #[.int .u32 m, .int .i64 r, .slice none 0 0, .map (some w3.heap.size)] 73 (0, 0)) ∧ (W4 w3 m r).heap[w3.heap.size + 2]? = some (.cells #[.pointer (some ⟨w3.heap.size + 1, 0, none⟩)] 74 (0, 0)) := by
  refine ⟨?_, ?_, ?_⟩
  · rw [W4, Below.heap_alloc _ _ _ (by simp; omega), Below.heap_alloc _ _ _ (by simp)]
    exact blockTop _ _ _ rfl
  · rw [W4, Below.heap_alloc _ _ _ (by simp)]
    exact blockTop _ _ _ (by simp)
  · exact blockTop _ _ _ (by simp)
theorem w4_news (w3 : World) (m r : Int) : ∀ j u, ([.pointer (some ⟨w3.heap.size + 1, 0, none⟩)] : List Value)[j]? = some u → (W4 w3 m r).cell? ((⟨w3.heap.size + 2, 0, none⟩ : Addr).add j) = some u := by
  intro j u hj
  rw [Lib.addr_add, Nat.zero_add, cell_heap (w4_at w3 m r).2.2, List.getElem?_toArray]
  exact hj
theorem Hid.mk' {p : Prop} (h : p) : Hid p := h
theorem mid_wb {w w3 w7 : World} {B wb c N : Nat} {m r : Int} {cs : Array Value} {pa : Option Addr} {gs : List Grp} (hP : PoolOk w B (.slice pa gs.length c) gs) (hw : w.heap[wb]? = some (.cells cs 64 (0, 0))) (hA : Fr (fun _ => False) w (W4 w3 m r)) (hG : (W4 w3 m r).grownBy w7 (Value.slice pa N c).ownBlock) (hN : gs.length = N) : w7.heap[wb]? = some (.cells cs 64 (0, 0)) := by
  subst hN
  rw [(own_grown hG).block wb (Nat.lt_of_lt_of_le (lt_heap hw) hA.size) (fun e => ?_), hA.block wb (lt_heap hw) id]
  · exact hw
  · obtain ⟨c1, h5⟩ := own_tag hP.row e
    rw [hw] at h5
    cases h5
theorem mid_end {w w3 w7 : World} {B wb b c N ng cap : Nat} {m r : Int} {cs : Array Value} {pa : Option Addr} {gs : List Grp} (hP : PoolOk w B (.slice pa gs.length c) gs) (hw7 : w7.heap[wb]? = some (.cells cs 64 (0, 0))) (hA : Fr (fun _ => False) w (W4 w3 m r)) (hsz : w.heap.size ≤ w3.heap.size) (hBw : B ≤ w.heap.size)
    (hO : w7.ownsRow B 74 1 (.slice (some ⟨ng, 0, none⟩) (N + 1) cap) (N + 1) (ptrs (gs.map (·.blk)) ++ [.pointer (some ⟨w3.heap.size + 1, 0, none⟩)])) (hG : (W4 w3 m r).grownBy w7 (Value.slice pa N c).ownBlock) (hat : (Value.slice pa N c).ownBlock = some ng ∨ ng = w3.heap.size + 3) (hN : gs.length = N) :
    Mid w B wb b cs (.slice pa gs.length c) gs m r (w7.setCell ⟨wb, b, none⟩ (.slice (some ⟨ng, 0, none⟩) (N + 1) cap)) := by
  subst hN
  have hs4 := w4_size w3 m r
  obtain ⟨q0, q1, q2⟩ := w4_at w3 m r
  have far : ∀ k, w.heap.size ≤ k → k < w3.heap.size + 3 → w7.heap[k]? = (W4 w3 m r).heap[k]? := fun k h1 h2 => (own_grown hG).block k (by omega) (fun e => by have := (hP.row.lt k e).2; omega)
  have e0 : w7.heap[w3.heap.size]? = some (.map #[] 0) := (far _ hsz (by omega)).trans q0
  have e1 : w7.heap[w3.heap.size + 1]? = some (.cells #[.int .u32 m, .int .i64 r, .slice none 0 0, .map (some w3.heap.size)] 73 (0, 0)) := (far _ (by omega) (by omega)).trans q1
  have n0 : w3.heap.size ≠ wb := fun e => by rw [← e, e0] at hw7; cases hw7
  have n1 : w3.heap.size + 1 ≠ wb := fun e => by rw [← e, e1] at hw7; cases hw7
  have n2 : ng ≠ wb := fun e => by
    obtain ⟨c1, h5⟩ := own_tag hO rfl
    rw [e, hw7] at h5
    cases h5
  have frS : Fr (fun k => k = wb ∨ (Value.slice pa gs.length c).ownBlock = some k) w (w7.setCell ⟨wb, b, none⟩ (.slice (some ⟨ng, 0, none⟩) (gs.length + 1) cap)) := by
    refine Fr.setCell (X := fun k => k = wb ∨ (Value.slice pa gs.length c).ownBlock = some k) ?_ (p := ⟨wb, b, none⟩) (fun _ => .inl rfl) _
    exact (hA.mono (fun _ _ e => e.elim)).trans (own_grown hG) (fun i _ e => .inr e)
  have hf : ∀ k, foot ⟨w3.heap.size + 1, w3.heap.size, .slice none 0 0, m, r, [], []⟩ k → w.heap.size ≤ k := by
    rintro k (h | h | h)
    · simp at h; omega
    · simp at h; omega
    · cases h
  refine ⟨.slice (some ⟨ng, 0, none⟩) (gs.length + 1) cap, ⟨w3.heap.size + 1, w3.heap.size, .slice none 0 0, m, r, [], []⟩, ?_, rfl, by rw [heap_setCell hw7], hf, ?_, frS⟩
  · have hg0 : GrpOk w7 B ⟨w3.heap.size + 1, w3.heap.size, .slice none 0 0, m, r, [], []⟩ := by
      refine ⟨⟨?_, ?_⟩, e1, ⟨by simp [ptrs], .inl ⟨rfl, rfl⟩⟩, ?_⟩
      · show B ≤ w3.heap.size + 1; omega
      · show B ≤ w3.heap.size; omega
      · exact (SumMap.made w3).fr (e0.trans (blockTop w3 _ _ rfl).symm)
    have hp7 : PoolOk w7 B (.slice (some ⟨ng, 0, none⟩) (gs.length + 1) cap) (gs ++ [⟨w3.heap.size + 1, w3.heap.size, .slice none 0 0, m, r, [], []⟩]) :=
      hP.snoc hg0 hf ((hA.mono (fun _ _ e => e.elim)).trans (own_grown hG) (fun i _ e => e)) hO
    exact hp7.fr (fun k hk => Below.heap_setCell _ _ _ _ (fun e => pfoot_not hp7 hw7 (by decide) (by decide) (by decide) (show pfoot _ _ wb from (show k = wb from e) ▸ hk)))
  · intro k hk
    simp [Value.ownBlock] at hk
    subst hk
    rcases hat with h | h
    · exact .inl h
    · right; omega

def Mid0 (w : World) (B wb b : Nat) (cs : Array Value) (pv : Value) (gs : List Grp) (m r : Int) (wc : World) (pv' : Value) (g0 : Grp) : Prop :=
  PoolOk wc B pv' (gs ++ g0 :: []) ∧ g0.abs = ⟨m, r, [], []⟩ ∧ wc.heap[wb]? = some (.cells (cs.setIfInBounds b pv') 64 (0, 0)) ∧ (∀ k, foot g0 k → w.heap.size ≤ k) ∧ (∀ k, pv'.ownBlock = some k → pv.ownBlock = some k ∨ w.heap.size ≤ k) ∧ Fr (fun k => k = wb ∨ pv.ownBlock = some k) w wc
theorem miss_end {w wc W : World} {B wb b db : Nat} {cs : Array Value} {pv pv' : Value} {gs : List Grp} {m r : Int} {g0 g' : Grp} {ks : List Int} (h : Mid0 w B wb b cs pv gs m r wc pv' g0) (q1 : PoolOk W B pv' (gs ++ g' :: [])) (q2 : g'.abs = ⟨g0.mask, g0.rel, g0.ds ++ [db], g0.ks ++ ks⟩) (q3 : ∀ k, foot g' k → foot g0 k ∨ wc.heap.size ≤ k) (q4 : Fr (fun k => foot g0 k) wc W) :
    ∃ pv' g', PoolOk W B pv' (gs ++ [g']) ∧ g'.abs = ⟨m, r, [db], ks⟩ ∧ W.heap[wb]? = some (.cells (cs.setIfInBounds b pv') 64 (0, 0)) ∧ (∀ k, foot g' k → w.heap.size ≤ k) ∧ (∀ k, pv'.ownBlock = some k → pv.ownBlock = some k ∨ w.heap.size ≤ k) ∧ Fr (fun k => k = wb ∨ pv.ownBlock = some k) w W := by
  obtain ⟨h1, h2, h3, h4, h5, h6⟩ := h
  refine ⟨pv', g', q1, ?_, ?_, fun k hk => ?_, h5, h6.trans q4 (fun i hi e => absurd (h4 i e) (by omega))⟩
  · rw [q2]
    simp only [Grp.abs, AG.mk.injEq] at h2
    obtain ⟨e1, e2, e3, e4⟩ := h2
    rw [e1, e2, e3, e4]
    rfl
  · rw [q4.block wb (lt_heap h3) (foot_not (h1.grp g0 (by simp)) h3 (by decide) (by decide))]
    exact h3
  · rcases q3 k hk with e | e
    · exact h4 k e
    · exact Nat.le_trans h6.size e

set_option maxRecDepth 4000 in
set_option maxHeartbeats 1000000 in
theorem push_miss (wb b U B db : Nat) (cs : Array Value) (pv : Value) (gs : List Grp) (rel : Int) (n : Nat) (f : Nat → Int) (w : World) (hw : w.heap[wb]? = some (.cells cs 64 (0, 0))) (hcs : cs[b]? = some pv) (hP : PoolOk w B pv gs) (hD : Deal w U db rel n f) (hUB : U ≤ B) (hUw : U ≤ wb) (hBw : B ≤ w.heap.size) (hn : n ≤ 1048576)
    (hf : ∀ j, j < n → 0 ≤ f j ∧ f j ≤ 9223372036854775807) (h1 : ∀ x ∈ gs, ¬ (x.mask = maskTo f n ∧ x.rel = rel)) (hlg : gs.length ≤ 4096) :
    Calls Try.prog 20 #[.pointer (some ⟨wb, b, none⟩), .pointer (some ⟨db, 0, none⟩)] w fun e w' => e = .returned (.tuple #[]) ∧ ∃ pv' g', PoolOk w' B pv' (gs ++ [g']) ∧ g'.abs = ⟨maskTo f n, rel, [db], (List.range n).map f⟩ ∧ w'.heap[wb]? = some (.cells (cs.setIfInBounds b pv') 64 (0, 0)) ∧ (∀ k, foot g' k → w.heap.size ≤ k) ∧ (∀ k, pv'.ownBlock = some k → pv.ownBlock = some k ∨ w.heap.size ≤ k) ∧ Fr (fun k => k = wb ∨ pv.ownBlock = some k) w w' := by
  obtain ⟨pa, c, rfl, hnc, hcm, hrow⟩ := hP.read
  obtain ⟨i0, hi, hz, hsz, hby⟩ := info74
  have hmm := @run_makeMap Try.prog
  have hwlt := lt_heap hw
  have HP : Hid (PoolOk w B (.slice pa gs.length c) gs) := hP
  have HD : Hid (Deal w U db rel n f) := hD
  have HF : Hid (∀ j, j < n → 0 ≤ f j ∧ f j ≤ 9223372036854775807) := hf
  have HW : Hid (w.heap[wb]? = some (.cells cs 64 (0, 0)) ∧ cs[b]? = some (.slice pa gs.length c)) := ⟨hw, hcs⟩
  have HH1 : Hid (∀ x ∈ gs, ¬ (x.mask = maskTo f n ∧ x.rel = rel)) := h1
  obtain ⟨N, hN⟩ : ∃ N, gs.length = N := ⟨_, rfl⟩
  rw [hN] at hlg hnc hrow
  have HROW : Hid (N = 0 ∨ ∃ pb, pa = some ⟨pb, 0, none⟩ ∧ ∀ j, j < N → w.cell? ⟨pb, j, none⟩ = some (.pointer (some ⟨(gat gs j).blk, 0, none⟩))) := hrow
  have HN : Hid (gs.length = N) := hN
  have cwb : ∀ (W : World), Fr (fun _ => False) w W → W.cell? ⟨wb, b, none⟩ = some (.slice pa N c) := fun W fr => by
    rw [fr.cell (p := ⟨wb, b, none⟩) hwlt id, cell_heap hw, hcs, hN]
  have HCWB : Hid (∀ (W : World), Fr (fun _ => False) w W → W.cell? ⟨wb, b, none⟩ = some (.slice pa N c)) := cwb
  clear hP hD hf hw hcs h1 hrow cwb hN
  go_enter Try.func20, Try.ntmps20
  go_upto_region 4 with (first
    | (go_at_call 24
       refine (indexFunc pa N c w1.heap.size (maskTo f n) rel (fun j => (gat gs j).blk) (fun j => (gat gs j).mask) (fun j => (gat gs j).rel) _ (by omega) d0 d1 (found_row' HF2.out HROW.out) (found_grp HF2.out HP.out HN.out)).mono ?_
       rintro e w3 ⟨⟨i, rfl, hi⟩, q, hq⟩
       obtain rfl : i = -1 := found_miss (by unfold FoundAt; rw [HN.out]; exact hi) HH1.out
       have hfr3 : Fr (fun _ => False) w w3 := by rw [hq]; exact HF2.out.drewN q
       have cb3 : w3.cell? ⟨wb, b, none⟩ = some (.slice pa N c) := HCWB.out _ hfr3
       have s0 : w3.cell? ⟨w1.heap.size, 0, none⟩ = some (.int .u32 (maskTo f n)) := by rw [hq]; exact d0
       have s1 : w3.cell? ⟨w1.heap.size, 1, none⟩ = some (.int .i64 rel) := by rw [hq]; exact d1
       have HF3 : Hid (Fr (fun _ => False) w w3) := hfr3
       clear hi hq hfr3 d0 d1 cb HF1 HF2)
    | (go_at_call 23
       refine (shapeOf U db rel n f w HD.out (by omega) hn (fun j hj => (HF.out j hj).1)).mono ?_
       rintro e w1 ⟨rfl, hfr1⟩
       have HF1 : Hid (Fr (fun _ => False) w w1) := hfr1
       have HF2 : Hid (Fr (fun _ => False) w (w1.alloc (.cells #[.int .u32 (maskTo f n), .int .i64 rel] 69))) := hfr1.alloc _
       have d0 : (w1.alloc (.cells #[.int .u32 (maskTo f n), .int .i64 rel] 69)).cell? ⟨w1.heap.size, 0, none⟩ = some (.int .u32 (maskTo f n)) := by rw [cell_heap (blockTop _ _ _ rfl)]; rfl
       have d1 : (w1.alloc (.cells #[.int .u32 (maskTo f n), .int .i64 rel] 69)).cell? ⟨w1.heap.size, 1, none⟩ = some (.int .i64 rel) := by rw [cell_heap (blockTop _ _ _ rfl)]; rfl
       have cb : (w1.alloc (.cells #[.int .u32 (maskTo f n), .int .i64 rel] 69)).cell? ⟨wb, b, none⟩ = some (.slice pa N c) := HCWB.out _ (hfr1.alloc _)
       clear hfr1))
  go_cut [5] from 9 (fun s5 wc => s5 = .int .i64 N ∧ Mid w B wb b cs (.slice pa gs.length c) gs (maskTo f n) rel wc)
  case first =>
    have a1 : ∀ o, (w3.alloc o).cell? ⟨wb, b, none⟩ = some (.slice pa N c) := fun o => HCWB.out _ (HF3.out.alloc o)
    have a2 : ∀ o o2, ((w3.alloc o).alloc o2).cell? ⟨wb, b, none⟩ = some (.slice pa N c) := fun o o2 => HCWB.out _ ((HF3.out.alloc o).alloc o2)
    have a3 : ∀ o o2 o3, (((w3.alloc o).alloc o2).alloc o3).cell? ⟨wb, b, none⟩ = some (.slice pa N c) := fun o o2 o3 => HCWB.out _ (((HF3.out.alloc o).alloc o2).alloc o3)
    have hsb := World.block_lt_of_cell? _ _ s0
    have t0 : ∀ o, (w3.alloc o).cell? ⟨w1.heap.size, 0, none⟩ = some (.int .u32 (maskTo f n)) := fun o => (World.cell?_of_block (w := w3) (a := ⟨w1.heap.size, 0, none⟩) (Below.heap_alloc w3 o _ hsb)).trans s0
    have t1 : ∀ o, (w3.alloc o).cell? ⟨w1.heap.size, 1, none⟩ = some (.int .i64 rel) := fun o => (World.cell?_of_block (w := w3) (a := ⟨w1.heap.size, 1, none⟩) (Below.heap_alloc w3 o _ hsb)).trans s1
    have HA : Hid (Fr (fun _ => False) w (W4 w3 (maskTo f n) rel)) := (((HF3.out.drew).alloc _).alloc _).alloc _
    have HRW : Hid ((W4 w3 (maskTo f n) rel).ownsRow B 74 1 (.slice pa N c) N (ptrs (gs.map (·.blk)))) := by
      have h5 := HP.out.row
      rw [HN.out] at h5
      exact own_fr h5 (fun k hk => HA.out.block k (by rw [← HN.out] at hk; exact (HP.out.row.lt k hk).2) id)
    have HNEW := Hid.mk' (w4_news w3 (maskTo f n) rel)
    have HSZ : Hid (w.heap.size ≤ w3.heap.size) := HF3.out.size
    go_region_law (
      refine step_append_lies (W4 w3 (maskTo f n) rel) rfl (.tmp 28) (.tmp 33) 59 rfl B 74 i0 (.pointer none) 1 8 Try.underlying59 hi hz hsz hby rfl (by decide) (.slice pa N c) N (ptrs (gs.map (·.blk))) rfl HRW.out ⟨w3.heap.size + 2, 0, none⟩ 1 1 [.pointer (some ⟨w3.heap.size + 1, 0, none⟩)] rfl rfl HNEW.out (by intro u hu; simp at hu; subst hu; rfl) (by decide) (by unfold maxLen; omega) (by omega) (by have := HSZ.out; rw [w4_size]; omega) (w3.heap.size + 3) (w4_size _ _ _) ?_
      intro ng cap w7 hown7 hgrow hat hlt7
      have hwb7 : w7.heap[wb]? = some (.cells cs 64 (0, 0)) := mid_wb HP.out HW.out.1 HA.out hgrow HN.out
      have c7 : w7.cell? ⟨wb, b, none⟩ = some (.slice pa N c) := by rw [cell_heap hwb7, HW.out.2, HN.out]
      have f7 : w7.frozen? ⟨wb, b, none⟩ = false := frozen_heap hwb7 b
      have HM7 : Hid (Mid w B wb b cs (.slice pa gs.length c) gs (maskTo f n) rel (w7.setCell ⟨wb, b, none⟩ (.slice (some ⟨ng, 0, none⟩) (N + 1) cap))) := mid_end HP.out hwb7 HA.out HSZ.out hBw hown7 hgrow hat HN.out
      clear hown7 hgrow hat hlt7 hwb7)
    all_goals
      go_wp2_with fail
      go_meet
      case rel => exact ⟨rfl, HM7.out⟩
  case rest =>
    obtain ⟨rfl, pv', g0, hP4, habs, hwb4, hf4, hpv4, fr4⟩ := hcut
    obtain ⟨pa', c', rfl, hnc', hcm', hrow'⟩ := hP4.read
    obtain ⟨i1, hi1, hz1, hsz1, hby1⟩ := info28
    obtain ⟨pb, rfl, hc⟩ : ∃ pb, pa' = some ⟨pb, 0, none⟩ ∧ ∀ j, j < (gs ++ g0 :: []).length → wc.cell? ⟨pb, j, none⟩ = some (.pointer (some ⟨(gat (gs ++ g0 :: []) j).blk, 0, none⟩)) := by
      rcases hrow' with h | h
      · simp at h
      · exact h
    have hlen : (gs ++ g0 :: []).length = N + 1 := by simp [HN.out]
    rw [hlen] at hnc' hc hwb4
    have gp3 : wc.cell? ⟨pb, N, none⟩ = some (.pointer (some ⟨g0.blk, 0, none⟩)) := by
      rw [hc N (by omega)]
      have := gat_mid (l1 := gs) (l2 := []) (g := g0)
      rw [HN.out] at this
      rw [this]
    have hbs : b < cs.size := (Array.getElem?_eq_some_iff.1 HW.out.2).1
    have cb3 : wc.cell? ⟨wb, b, none⟩ = some (.slice (some ⟨pb, 0, none⟩) (N + 1) c') := by
      rw [cell_heap hwb4, Array.getElem?_setIfInBounds_self_of_lt hbs]
    have hD4 : Deal wc U db rel n f := HD.out.fr (fr4.mono (fun i hi e => by
      rcases e with e | e
      · show U ≤ i; omega
      · have := (HP.out.row.lt i e).1; show U ≤ i; omega)) (by omega)
    obtain ⟨fa, cf, c6, e8, hnf, hcf, hdU, hfig⟩ := hD4.read
    have HM : Hid (Mid0 w B wb b cs (.slice pa gs.length c) gs (maskTo f n) rel wc (.slice (some ⟨pb, 0, none⟩) (gs ++ g0 :: []).length c') g0) := ⟨hP4, habs, by rw [hlen]; exact hwb4, hf4, hpv4, fr4⟩
    have HP4 : Hid (PoolOk wc B (.slice (some ⟨pb, 0, none⟩) (gs ++ g0 :: []).length c') (gs ++ g0 :: [])) := hP4
    have HFIG : Hid (n = 0 ∨ ∃ fb, fa = some ⟨fb, 0, none⟩ ∧ fb < U ∧ ∀ j, j < n → wc.cell? ⟨fb, j * 3, none⟩ = some (.int .i64 (f j)) ∧ wc.cell? ⟨fb, j * 3 + 1, none⟩ = some (.int .i64 0) ∧ wc.cell? ⟨fb, j * 3 + 2, none⟩ = some (.pointer none)) := hfig
    have HF3 : Hid (Fr (fun _ => False) wc wc) := Fr.refl _ _
    have hBw4 : B ≤ wc.heap.size := Nat.le_trans hBw fr4.size
    have HLO : Hid (g0.blk < wc.heap.size ∧ (B ≤ g0.blk ∧ B ≤ g0.mb) ∧ g0.blk ≠ g0.mb) := by
      have hgo := hP4.grp g0 (by simp)
      refine ⟨lt_heap hgo.cells, hgo.lo, fun e => ?_⟩
      obtain ⟨es, cl, h5⟩ := sum_tag hgo.sums
      rw [← e, hgo.cells] at h5
      cases h5
    have hlk : g0.ks.length ≤ 1073741824 := by have := congrArg (fun x : AG => x.ks.length) habs; simp [Grp.abs] at this; simp [this]
    have hld : g0.ds.length ≤ 4096 := by have := congrArg (fun x : AG => x.ds.length) habs; simp [Grp.abs] at this; simp [this]
    have hNc : (N : Int) < (N + 1 : Nat) := by omega
    have hdlt : db < wc.heap.size := by omega
    clear hcm' hrow' hc hlen hwb4 hf4 hpv4 fr4 hP4 habs hD4 c6 hfig
    go_wp2
    go_loopg [8, 49] n (fun gk _ i wr => ∃ k : Nat, i = .int .i64 k ∧ k + gk = n ∧ SumMap wr g0.mb (g0.ks ++ (List.range k).map f) ∧ Fr (fun x => x = g0.mb) wc wr)
    case atStart => exact ⟨0, rfl, by omega, by simpa using (HP4.out.grp g0 (by simp)).sums.fr (HF3.out.block g0.mb (HP4.out.grp g0 (by simp)).sums.lt id), Fr.refl _ _⟩
    case round =>
      obtain ⟨k, rfl, hkn, hsum, hfr⟩ := hrel
      have HSM : Hid (SumMap wr g0.mb (g0.ks ++ (List.range k).map f)) := hsum
      have HFR : Hid (Fr (fun x => x = g0.mb) wc wr) := hfr
      clear hsum hfr
      by_cases hk : k < n
      · rcases HFIG.out with h | ⟨fb, rfl, hfb, hfc⟩
        · omega
        · obtain ⟨g1, g2, g3⟩ := hfc k hk
          have hfw : ∀ o, wr.cell? ⟨fb, o, none⟩ = wc.cell? ⟨fb, o, none⟩ := fun o => by
            rw [HFR.out.cell (p := ⟨fb, o, none⟩) (by show fb < _; have := HF3.out.size; omega) (by show ¬ fb = g0.mb; have := HLO.out; omega), HF3.out.cell (p := ⟨fb, o, none⟩) (by show fb < _; omega) id]
          have e1 : wr.cell? ⟨fb, k * 3, none⟩ = some (.int .i64 (f k)) := (hfw _).trans g1
          have e2 : wr.cell? ⟨fb, k * 3 + 1, none⟩ = some (.int .i64 0) := (hfw _).trans g2
          have e3 : wr.cell? ⟨fb, k * 3 + 2, none⟩ = some (.pointer none) := (hfw _).trans g3
          have hm : -9223372036854775808 ≤ f k ∧ f k ≤ 9223372036854775807 := by have := HF.out k hk; omega
          have HFK : Hid (-9223372036854775808 ≤ f k ∧ f k ≤ 9223372036854775807) := hm
          have HR0 : Hid (Rs g0.blk g0.mb wr.heap.size (f k) (g0.ks ++ (List.range k).map f) (wr.alloc (.cells #[.int .i64 (f k), .int .i64 0, .pointer none] 57)).drew) := by
            have hs : SumMap (wr.alloc (.cells #[.int .i64 (f k), .int .i64 0, .pointer none] 57)).drew g0.mb (g0.ks ++ (List.range k).map f) := HSM.out.fr (Below.heap_alloc wr _ g0.mb HSM.out.lt)
            have hbl : g0.blk < wr.heap.size := by have := HFR.out.size; have := HF3.out.size; have := HLO.out; omega
            have ht := blockTop wr (.cells #[.int .i64 (f k), .int .i64 0, .pointer none] 57) wr.heap.size rfl
            refine ⟨?_, ?_, ?_, ?_, hs.look hm, hs, by simp; omega, by simp⟩
            · show (wr.alloc _).cell? _ = _
              rw [World.cell?_of_block (w := wr) (a := ⟨g0.blk, 3, none⟩) (Below.heap_alloc wr _ g0.blk hbl), HFR.out.cell (p := ⟨g0.blk, 3, none⟩) (by show g0.blk < _; have := HF3.out.size; have := HLO.out; omega) (by show ¬ g0.blk = g0.mb; exact HLO.out.2.2), HF3.out.cell (p := ⟨g0.blk, 3, none⟩) HLO.out.1 id]
              exact (HP4.out.grp g0 (by simp)).shape.2.2.2
            · show (wr.alloc _).cell? _ = _
              rw [cell_heap ht]; rfl
            · show (wr.alloc _).cell? _ = _
              rw [cell_heap ht]; rfl
            · show (wr.alloc _).cell? _ = _
              rw [cell_heap ht]; rfl
          clear hfc g1 g2 g3 hfw hm
          have hkc : (k : Int) < cf := by omega
          have htm : wr.heap.size ≠ g0.mb := by have := HSM.out.lt; omega
          go_wp2
          go_region_held (fun wc' => wc'.cell? ⟨g0.blk, 3, none⟩ = some (.map (some g0.mb)) ∧ wc'.cell? ⟨wr.heap.size, 0, none⟩ = some (.int .i64 (f k)) ∧ wc'.cell? ⟨wr.heap.size, 1, none⟩ = some (.int .i64 0) ∧ wc'.cell? ⟨wr.heap.size, 2, none⟩ = some (.pointer none) ∧ (Instr.lookup 71 (.map (some g0.mb)) (.int .i64 (f k)) false).run Try.prog wc' = .ok D0 wc')
            (first | exact HRS3.out.five | exact HRS2.out.five | exact HRS1.out.five | exact HR0.out.five)
            (first
              | (go_at_call 27
                 refine (abs0 _).mono ?_
                 rintro e w4 ⟨rfl, hfr4⟩
                 have HRS1 : Hid (Rs g0.blk g0.mb wr.heap.size (f k) (g0.ks ++ (List.range k).map f) w4) := HR0.out.fr HFK.out hfr4
                 have HF4 : Hid (Fr (fun _ => False) (wr.alloc (.cells #[.int .i64 (f k), .int .i64 0, .pointer none] 57)).drew w4) := hfr4
                 clear hfr4)
              | (go_at_call 26
                 refine (add0 _).mono ?_
                 rintro e w5 ⟨rfl, hfr5⟩
                 have HRS2 : Hid (Rs g0.blk g0.mb wr.heap.size (f k) (g0.ks ++ (List.range k).map f) w5) := HRS1.out.fr HFK.out hfr5
                 obtain ⟨w6, hup, hs6, hf6, hr6⟩ := HRS2.out.store HFK.out (by simp; omega) HLO.out.2.2 htm
                 have HRS3 : Hid (Rs g0.blk g0.mb wr.heap.size (f k) (g0.ks ++ (List.range k).map f ++ [f k]) w6) := hr6
                 have HS6 : Hid (SumMap w6 g0.mb (g0.ks ++ (List.range k).map f ++ [f k])) := hs6
                 have HF6 : Hid (Fr (fun x => x = g0.mb) wr w6) := (((((Fr.refl (fun x => x = g0.mb) wr).alloc _).drew).trans HF4.out (fun _ _ e => e.elim)).trans hfr5 (fun _ _ e => e.elim)).trans hf6 (fun _ _ e => e)
                 clear hfr5 hs6 hf6 hr6))
          all_goals
            go_wp2
            go_roundg (gk - 1)
            case measure => omega
            case rel =>
              refine ⟨k + 1, by go_num, by omega, ?_, HFR.out.trans HF6.out (fun _ _ e => e)⟩
              have := HS6.out
              rwa [List.append_assoc, ← range_snoc] at this
      · obtain rfl : k = n := by omega
        have hgo := HP4.out.grp g0 (by simp)
        have hb3 : wr.heap[g0.blk]? = some (.cells (grpCells g0) 73 (0, 0)) := by
          rw [HFR.out.block g0.blk (by have := HF3.out.size; have := HLO.out; omega) HLO.out.2.2, HF3.out.block g0.blk HLO.out.1 id]
          exact hgo.cells
        have hown : wr.ownsRow B 28 1 g0.dv g0.ds.length (ptrs g0.ds) := own_fr hgo.deals (fun j hj => by
          have hjl := (hgo.deals.lt j hj).2
          rw [HFR.out.block j (by have := HF3.out.size; omega) (fun e => ?_), HF3.out.block j hjl id]
          obtain ⟨cs1, h5⟩ := own_tag hgo.deals hj
          obtain ⟨es, cl, h6⟩ := sum_tag hgo.sums
          rw [e, h6] at h5
          cases h5)
        have c2 : wr.cell? ⟨g0.blk, 2, none⟩ = some g0.dv := by rw [cell_heap hb3]; rfl
        have hbl : g0.blk < wr.heap.size := lt_heap hb3
        have HB3 : Hid (wr.heap[g0.blk]? = some (.cells (grpCells g0) 73 (0, 0))) := hb3
        have HO : Hid (wr.ownsRow B 28 1 g0.dv g0.ds.length (ptrs g0.ds)) := hown
        have hwr : wc.heap.size ≤ wr.heap.size := Nat.le_trans HF3.out.size HFR.out.size
        clear hb3 hown hgo
        go_wp2_with (at_builtin; refine wpList_append_lies _ rfl (.tmp 75) (.tmp 77) 70 rfl B 28 i1 (.pointer none) 1 8 Try.underlying70 hi1 hz1 hsz1 hby1 rfl (by decide) _ g0.ds.length (ptrs g0.ds) rfl (HO.out.alloc _) ⟨wr.heap.size, 0, none⟩ 1 1 [.pointer (some ⟨db, 0, none⟩)] rfl rfl ?c1 ?c2 (by decide) ?c3 ?c4 ?c5 _ rfl ?_)
        case c1 =>
          intro j u hj
          rw [Lib.addr_add, Nat.zero_add, World.cell?_alloc_new, List.getElem?_toArray]
          exact hj
        case c2 =>
          intro u hu
          simp at hu
          subst hu
          rfl
        case c3 => unfold maxLen; omega
        case c4 => omega
        case c5 => simp; omega
        intro ng cap w7 hown7 hgrow hat hlt7
        have hblk7 : w7.heap[g0.blk]? = some (.cells (grpCells g0) 73 (0, 0)) := by
          rw [(own_grown hgrow).block g0.blk (by simp; omega) (fun e => ?_)]
          · exact (Below.heap_alloc wr _ _ hbl).trans HB3.out
          · obtain ⟨cs1, h5⟩ := own_tag HO.out e
            rw [HB3.out] at h5
            cases h5
        have c72 : w7.cell? ⟨g0.blk, 2, none⟩ = some g0.dv := by rw [cell_heap hblk7]; rfl
        have f72 : w7.frozen? ⟨g0.blk, 2, none⟩ = false := frozen_heap hblk7 2
        have HB7 : Hid (w7.heap[g0.blk]? = some (.cells (grpCells g0) 73 (0, 0))) := hblk7
        have HO7 : Hid (w7.ownsRow B 28 1 (.slice (some ⟨ng, 0, none⟩) (g0.ds.length + 1) cap) (g0.ds.length + 1) (ptrs g0.ds ++ [.pointer (some ⟨db, 0, none⟩)])) := hown7
        have HG7 : Hid ((wr.alloc (.cells #[.pointer (some ⟨db, 0, none⟩)] 28)).grownBy w7 g0.dv.ownBlock) := hgrow
        have HA7 : Hid (g0.dv.ownBlock = some ng ∨ ng = wr.heap.size + 1) := hat
        clear hblk7 hown7 hgrow hat hlt7
        go_wp2
        go_end0
        obtain ⟨g', q1, q2, q3, q4⟩ := hit_end HP4.out HF3.out HFR.out HSM.out HO.out HB7.out HO7.out HG7.out HA7.out
        exact ⟨rfl, miss_end HM.out q1 q2 q3 q4⟩
end Go.Proofs.Qxb6616145a
