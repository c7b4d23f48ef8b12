import Derived.Test.Qxb6616145aPush
namespace Go.Proofs.Qxb6616145a
open Go.RowKit

theorem found_row {w W : World} {pb N : Nat} {gs : List Grp} (fr : Fr (fun _ => False) w W) (hc : ∀ j, j < N → w.cell? ⟨pb, j, none⟩ = some (.pointer (some ⟨(gat gs j).blk, 0, none⟩))) :
    Hid (N = 0 ∨ ∃ pb', (some ⟨pb, 0, none⟩ : Option Addr) = some ⟨pb', 0, none⟩ ∧ ∀ j, j < N → W.cell? ⟨pb', j, none⟩ = some (.pointer (some ⟨(gat gs j).blk, 0, none⟩))) :=
  .inr ⟨pb, rfl, fun j hj => by
    have h := hc j hj
    have hlt : pb < w.heap.size := World.block_lt_of_cell? _ _ h
    exact (fr.cell (p := ⟨pb, j, none⟩) hlt id).trans h⟩
theorem found_grp {w W : World} {B N : Nat} {pv : Value} {gs : List Grp} (fr : Fr (fun _ => False) w W) (h : PoolOk w B pv gs) (hN : gs.length = N) :
    Hid (∀ j, j < N → W.cell? ⟨(gat gs j).blk, 0, none⟩ = some (.int .u32 (gat gs j).mask) ∧ W.cell? ⟨(gat gs j).blk, 1, none⟩ = some (.int .i64 (gat gs j).rel)) := fun j hj => by
  have hg := h.grp _ (gat_mem (gs := gs) (j := j) (by omega))
  have hlt := lt_heap hg.cells
  exact ⟨(fr.cell (p := ⟨_, 0, none⟩) hlt id).trans hg.shape.1, (fr.cell (p := ⟨_, 1, none⟩) hlt id).trans hg.shape.2.1⟩

theorem range_snoc (ks : List Int) (f : Nat → Int) (k : Nat) : ks ++ (List.range (k + 1)).map f = ks ++ ((List.range k).map f ++ [f k]) := by
  rw [List.range_succ, List.map_append]; rfl

/-- Behind the last store. -/
theorem hit_end {w w3 wr w7 : World} {B db ng cap : Nat} {pv : Value} {l1 l2 : List Grp} {g : Grp} {ks : List Int} (hP : PoolOk w B pv (l1 ++ g :: l2)) (f3 : Fr (fun _ => False) w w3) (fr : Fr (fun x => x = g.mb) w3 wr) (hS : SumMap wr g.mb (g.ks ++ ks)) (hO : wr.ownsRow B 28 1 g.dv g.ds.length (ptrs g.ds))
    (hB : w7.heap[g.blk]? = some (.cells (grpCells g) 73 (0, 0))) (hO7 : w7.ownsRow B 28 1 (.slice (some ⟨ng, 0, none⟩) (g.ds.length + 1) cap) (g.ds.length + 1) (ptrs g.ds ++ [.pointer (some ⟨db, 0, none⟩)]))
    (hG : (wr.alloc (.cells #[.pointer (some ⟨db, 0, none⟩)] 28)).grownBy w7 g.dv.ownBlock) (hA : g.dv.ownBlock = some ng ∨ ng = wr.heap.size + 1) :
    ∃ g', PoolOk (w7.setCell ⟨g.blk, 2, none⟩ (.slice (some ⟨ng, 0, none⟩) (g.ds.length + 1) cap)) B pv (l1 ++ g' :: l2) ∧ g'.abs = ⟨g.mask, g.rel, g.ds ++ [db], g.ks ++ ks⟩ ∧ (∀ k, foot g' k → foot g k ∨ w.heap.size ≤ k) ∧
      Fr (fun k => foot g k) w (w7.setCell ⟨g.blk, 2, none⟩ (.slice (some ⟨ng, 0, none⟩) (g.ds.length + 1) cap)) := by
  have hgo := hP.grp g (by simp)
  have hsz : w.heap.size ≤ wr.heap.size := Nat.le_trans f3.size fr.size
  have hes : (wr.alloc (.cells #[.pointer (some ⟨db, 0, none⟩)] 28)).heap.size = wr.heap.size + 1 := by simp
  have frA : Fr (fun k => foot g k) w (w7.setCell ⟨g.blk, 2, none⟩ (.slice (some ⟨ng, 0, none⟩) (g.ds.length + 1) cap)) := by
    refine Fr.setCell (X := fun k => foot g k) ?_ (p := ⟨g.blk, 2, none⟩) (fun _ => .inl rfl) _
    refine Fr.trans (X := fun k => foot g k) ?_ (own_grown hG) (fun i _ e => .inr (.inr e))
    refine Fr.alloc ?_ _
    exact (f3.mono (fun _ _ e => e.elim)).trans fr (fun i _ e => .inr (.inl e))
  have hmb : g.mb ≠ g.blk := fun e => by
    obtain ⟨es, cl, h5⟩ := sum_tag hgo.sums
    rw [e, hgo.cells] at h5
    cases h5
  have hng : ng ≠ g.blk := fun e => by
    obtain ⟨cs1, h5⟩ := own_tag hO7 rfl
    rw [e, hB] at h5
    cases h5
  have hf : ∀ k, foot { g with dv := .slice (some ⟨ng, 0, none⟩) (g.ds.length + 1) cap, ds := g.ds ++ [db], ks := g.ks ++ ks } k → foot g k ∨ w.heap.size ≤ k := by
    rintro k (h | h | h)
    · exact .inl (.inl h)
    · exact .inl (.inr (.inl h))
    · simp [Value.ownBlock] at h
      subst h
      rcases hA with h | h
      · exact .inl (.inr (.inr h))
      · right; omega
  refine ⟨{ g with dv := .slice (some ⟨ng, 0, none⟩) (g.ds.length + 1) cap, ds := g.ds ++ [db], ks := g.ks ++ ks }, hP.turn rfl ⟨hgo.lo, by rw [heap_setCell hB]; rfl, ?_, ?_⟩ hf frA, rfl, hf, frA⟩
  · refine own_fr (by simpa [ptrs] using hO7) (fun k hk => Below.heap_setCell _ _ _ _ (fun e => ?_))
    simp [Value.ownBlock] at hk
    exact hng (hk.trans e)
  · refine hS.fr ?_
    rw [Below.heap_setCell _ _ _ _ hmb, (own_grown hG).block g.mb (by rw [hes]; have := hS.lt; omega) (fun e => ?_)]
    · exact Below.heap_alloc wr _ _ hS.lt
    · obtain ⟨cs1, h5⟩ := own_tag hO e
      obtain ⟨es, cl, h6⟩ := sum_tag hS
      rw [h6] at h5
      cases h5

set_option maxRecDepth 4000 in
set_option maxHeartbeats 1000000 in
theorem push_hit (wb b U B db : Nat) (cs : Array Value) (pv : Value) (l1 l2 : List Grp) (g : Grp) (rel : Int) (n : Nat) (f : Nat → Int) (w : World) (hw : w.heap[wb]? = some (.cells cs 64 (0, 0))) (hcs : cs[b]? = some pv) (hP : PoolOk w B pv (l1 ++ g :: l2)) (hD : Deal w U db rel n f) (hUB : U ≤ B) (hBw : B ≤ w.heap.size) (hn : n ≤ 1048576)
    (hf : ∀ j, j < n → 0 ≤ f j ∧ f j ≤ 9223372036854775807) (h1 : ∀ x ∈ l1, ¬ (x.mask = maskTo f n ∧ x.rel = rel)) (hg : g.mask = maskTo f n ∧ g.rel = rel) (hlg : (l1 ++ g :: l2).length ≤ 4096) (hlk : g.ks.length ≤ 1073741824) (hld : g.ds.length ≤ 4096) :
    Calls Try.prog 20 #[.pointer (some ⟨wb, b, none⟩), .pointer (some ⟨db, 0, none⟩)] w fun e w' => e = .returned (.tuple #[]) ∧ ∃ g', PoolOk w' B pv (l1 ++ g' :: l2) ∧ g'.abs = ⟨g.mask, g.rel, g.ds ++ [db], g.ks ++ (List.range n).map f⟩ ∧ (∀ k, foot g' k → foot g k ∨ w.heap.size ≤ k) ∧ Fr (fun k => foot g k) w w' := by
  obtain ⟨pa, c, rfl, hnc, hcm, hrow⟩ := hP.read
  obtain ⟨i0, hi, hz, hsz, hby⟩ := info28
  obtain ⟨pb, rfl, hc⟩ : ∃ pb, pa = some ⟨pb, 0, none⟩ ∧ ∀ j, j < (l1 ++ g :: l2).length → w.cell? ⟨pb, j, none⟩ = some (.pointer (some ⟨(gat (l1 ++ g :: l2) j).blk, 0, none⟩)) := by
    rcases hrow with h | h
    · simp at h
    · exact h
  have hpb : pb < w.heap.size := (hP.row.lt pb rfl).2
  obtain ⟨fa, cf, c6, c8, hnf, hcf, hdU, hfig⟩ := hD.read
  have hdlt : db < w.heap.size := by omega
  have HFIG : Hid (n = 0 ∨ ∃ fb, fa = some ⟨fb, 0, none⟩ ∧ fb < U ∧ ∀ j, j < n → w.cell? ⟨fb, j * 3, none⟩ = some (.int .i64 (f j)) ∧ w.cell? ⟨fb, j * 3 + 1, none⟩ = some (.int .i64 0) ∧ w.cell? ⟨fb, j * 3 + 2, none⟩ = some (.pointer none)) := hfig
  have HC8 : Hid (w.cell? ⟨db, 8, none⟩ = some (.slice fa n cf)) := c8
  have hwlt := lt_heap hw
  have HP : Hid (PoolOk w B (.slice (some ⟨pb, 0, none⟩) (l1 ++ g :: l2).length c) (l1 ++ g :: l2)) := hP
  have HD : Hid (Deal w U db rel n f) := hD
  have HF : Hid (∀ j, j < n → 0 ≤ f j ∧ f j ≤ 9223372036854775807) := hf
  have HW : Hid (w.heap[wb]? = some (.cells cs 64 (0, 0)) ∧ cs[b]? = some (.slice (some ⟨pb, 0, none⟩) (l1 ++ g :: l2).length c)) := ⟨hw, hcs⟩
  have HH1 : Hid (∀ x ∈ l1, ¬ (x.mask = maskTo f n ∧ x.rel = rel)) := h1
  have HHG : Hid (g.mask = maskTo f n ∧ g.rel = rel) := hg
  obtain ⟨N, hN⟩ : ∃ N, (l1 ++ g :: l2).length = N := ⟨_, rfl⟩
  have hl1 : l1.length < N := by rw [← hN]; simp
  rw [hN] at hlg hnc hc
  have HC : Hid (∀ j, j < N → w.cell? ⟨pb, j, none⟩ = some (.pointer (some ⟨(gat (l1 ++ g :: l2) j).blk, 0, none⟩))) := hc
  have HN : Hid ((l1 ++ g :: l2).length = N) := hN
  have cwb : ∀ (W : World), Fr (fun _ => False) w W → W.cell? ⟨wb, b, none⟩ = some (.slice (some ⟨pb, 0, none⟩) N c) := fun W fr => by
    rw [fr.cell (p := ⟨wb, b, none⟩) hwlt id, cell_heap hw, hcs, hN]
  have HCWB : Hid (∀ (W : World), Fr (fun _ => False) w W → W.cell? ⟨wb, b, none⟩ = some (.slice (some ⟨pb, 0, none⟩) N c)) := cwb
  have hl1i : (l1.length : Int) < N := by omega
  have HLO : Hid (g.blk < w.heap.size ∧ (B ≤ g.blk ∧ B ≤ g.mb) ∧ g.blk ≠ g.mb) := by
    have hgo := hP.grp g (by simp)
    refine ⟨lt_heap hgo.cells, hgo.lo, fun e => ?_⟩
    obtain ⟨es, cl, h5⟩ := sum_tag hgo.sums
    rw [← e, hgo.cells] at h5
    cases h5
  clear hP hD hf hw hcs h1 hg hrow cwb hN hc c6 c8 hfig
  go_enter Try.func20, Try.ntmps20
  go_wp2_with (first
    | (go_at_call 23
       refine (shapeOf U db rel n f w HD.out (by omega) hn (fun j hj => (HF.out j hj).1)).mono ?_
       rintro e w1 ⟨rfl, hfr1⟩
       have HF1 : Hid (Fr (fun _ => False) w w1) := hfr1
       have HF2 : Hid (Fr (fun _ => False) w (w1.alloc (.cells #[.int .u32 (maskTo f n), .int .i64 rel] 69))) := hfr1.alloc _
       have d0 : (w1.alloc (.cells #[.int .u32 (maskTo f n), .int .i64 rel] 69)).cell? ⟨w1.heap.size, 0, none⟩ = some (.int .u32 (maskTo f n)) := by rw [cell_heap (blockTop _ _ _ rfl)]; rfl
       have d1 : (w1.alloc (.cells #[.int .u32 (maskTo f n), .int .i64 rel] 69)).cell? ⟨w1.heap.size, 1, none⟩ = some (.int .i64 rel) := by rw [cell_heap (blockTop _ _ _ rfl)]; rfl
       have cb : (w1.alloc (.cells #[.int .u32 (maskTo f n), .int .i64 rel] 69)).cell? ⟨wb, b, none⟩ = some (.slice (some ⟨pb, 0, none⟩) N c) := HCWB.out _ (hfr1.alloc _)
       clear hfr1)
    | (go_at_call 24
       refine (indexFunc (some ⟨pb, 0, none⟩) N c w1.heap.size (maskTo f n) rel (fun j => (gat (l1 ++ g :: l2) j).blk) (fun j => (gat (l1 ++ g :: l2) j).mask) (fun j => (gat (l1 ++ g :: l2) j).rel) _ (by omega) d0 d1 (found_row HF2.out HC.out) (found_grp HF2.out HP.out HN.out)).mono ?_
       rintro e w3 ⟨⟨i, rfl, hi⟩, q, hq⟩
       obtain rfl : i = (l1.length : Nat) := found_hit (by unfold FoundAt; rw [HN.out]; exact hi) HH1.out HHG.out
       have hfr3 : Fr (fun _ => False) w w3 := by rw [hq]; exact HF2.out.drewN q
       have cb3 : w3.cell? ⟨wb, b, none⟩ = some (.slice (some ⟨pb, 0, none⟩) N c) := HCWB.out _ hfr3
       have gp3 : w3.cell? ⟨pb, l1.length, none⟩ = some (.pointer (some ⟨g.blk, 0, none⟩)) := by
         rw [hfr3.cell (p := ⟨pb, l1.length, none⟩) hpb id, HC.out l1.length hl1, gat_mid]
       have e8 : w3.cell? ⟨db, 8, none⟩ = some (.slice fa n cf) := (hfr3.cell (p := ⟨db, 8, none⟩) hdlt id).trans HC8.out
       have HF3 : Hid (Fr (fun _ => False) w w3) := hfr3
       clear hi hq hfr3 d0 d1 cb HF1 HF2))
  go_loopg [8, 49] n (fun gk _ i wr => ∃ k : Nat, i = .int .i64 k ∧ k + gk = n ∧ SumMap wr g.mb (g.ks ++ (List.range k).map f) ∧ Fr (fun x => x = g.mb) w3 wr)
  case atStart => exact ⟨0, rfl, by omega, by simpa using (HP.out.grp g (by simp)).sums.fr (HF3.out.block g.mb (HP.out.grp g (by simp)).sums.lt id), Fr.refl _ _⟩
  case round =>
    obtain ⟨k, rfl, hkn, hsum, hfr⟩ := hrel
    have HSM : Hid (SumMap wr g.mb (g.ks ++ (List.range k).map f)) := hsum
    have HFR : Hid (Fr (fun x => x = g.mb) w3 wr) := hfr
    clear hsum hfr
    by_cases hk : k < n
    · rcases HFIG.out with h | ⟨fb, rfl, hfb, hfc⟩
      · omega
      · obtain ⟨g1, g2, g3⟩ := hfc k hk
        have hfw : ∀ o, wr.cell? ⟨fb, o, none⟩ = w.cell? ⟨fb, o, none⟩ := fun o => by
          rw [HFR.out.cell (p := ⟨fb, o, none⟩) (by show fb < _; have := HF3.out.size; omega) (by show ¬ fb = g.mb; have := HLO.out; omega), HF3.out.cell (p := ⟨fb, o, none⟩) (by show fb < _; omega) id]
        have e1 : wr.cell? ⟨fb, k * 3, none⟩ = some (.int .i64 (f k)) := (hfw _).trans g1
        have e2 : wr.cell? ⟨fb, k * 3 + 1, none⟩ = some (.int .i64 0) := (hfw _).trans g2
        have e3 : wr.cell? ⟨fb, k * 3 + 2, none⟩ = some (.pointer none) := (hfw _).trans g3
        have hm : -9223372036854775808 ≤ f k ∧ f k ≤ 9223372036854775807 := by have := HF.out k hk; omega
        have HFK : Hid (-9223372036854775808 ≤ f k ∧ f k ≤ 9223372036854775807) := hm
        have HR0 : Hid (Rs g.blk g.mb wr.heap.size (f k) (g.ks ++ (List.range k).map f) (wr.alloc (.cells #[.int .i64 (f k), .int .i64 0, .pointer none] 57)).drew) := by
          have hs : SumMap (wr.alloc (.cells #[.int .i64 (f k), .int .i64 0, .pointer none] 57)).drew g.mb (g.ks ++ (List.range k).map f) := HSM.out.fr (Below.heap_alloc wr _ g.mb HSM.out.lt)
          have hbl : g.blk < wr.heap.size := by have := HFR.out.size; have := HF3.out.size; have := HLO.out; omega
          have ht := blockTop wr (.cells #[.int .i64 (f k), .int .i64 0, .pointer none] 57) wr.heap.size rfl
          refine ⟨?_, ?_, ?_, ?_, hs.look hm, hs, by simp; omega, by simp⟩
          · show (wr.alloc _).cell? _ = _
            rw [World.cell?_of_block (w := wr) (a := ⟨g.blk, 3, none⟩) (Below.heap_alloc wr _ g.blk hbl), HFR.out.cell (p := ⟨g.blk, 3, none⟩) (by show g.blk < _; have := HF3.out.size; have := HLO.out; omega) (by show ¬ g.blk = g.mb; exact HLO.out.2.2), HF3.out.cell (p := ⟨g.blk, 3, none⟩) HLO.out.1 id]
            exact (HP.out.grp g (by simp)).shape.2.2.2
          · show (wr.alloc _).cell? _ = _
            rw [cell_heap ht]; rfl
          · show (wr.alloc _).cell? _ = _
            rw [cell_heap ht]; rfl
          · show (wr.alloc _).cell? _ = _
            rw [cell_heap ht]; rfl
        clear hfc g1 g2 g3 hfw hm
        have hkc : (k : Int) < cf := by omega
        have htm : wr.heap.size ≠ g.mb := by have := HSM.out.lt; omega
        go_wp2
        go_region_held (fun w' => w'.cell? ⟨g.blk, 3, none⟩ = some (.map (some g.mb)) ∧ w'.cell? ⟨wr.heap.size, 0, none⟩ = some (.int .i64 (f k)) ∧ w'.cell? ⟨wr.heap.size, 1, none⟩ = some (.int .i64 0) ∧ w'.cell? ⟨wr.heap.size, 2, none⟩ = some (.pointer none) ∧ (Instr.lookup 71 (.map (some g.mb)) (.int .i64 (f k)) false).run Try.prog w' = .ok D0 w')
          (first | exact HRS3.out.five | exact HRS2.out.five | exact HRS1.out.five | exact HR0.out.five)
          (first
            | (go_at_call 27
               refine (abs0 _).mono ?_
               rintro e w4 ⟨rfl, hfr4⟩
               have HRS1 : Hid (Rs g.blk g.mb wr.heap.size (f k) (g.ks ++ (List.range k).map f) w4) := HR0.out.fr HFK.out hfr4
               have HF4 : Hid (Fr (fun _ => False) (wr.alloc (.cells #[.int .i64 (f k), .int .i64 0, .pointer none] 57)).drew w4) := hfr4
               clear hfr4)
            | (go_at_call 26
               refine (add0 _).mono ?_
               rintro e w5 ⟨rfl, hfr5⟩
               have HRS2 : Hid (Rs g.blk g.mb wr.heap.size (f k) (g.ks ++ (List.range k).map f) w5) := HRS1.out.fr HFK.out hfr5
               obtain ⟨w6, hup, hs6, hf6, hr6⟩ := HRS2.out.store HFK.out (by simp; omega) HLO.out.2.2 htm
               have HRS3 : Hid (Rs g.blk g.mb wr.heap.size (f k) (g.ks ++ (List.range k).map f ++ [f k]) w6) := hr6
               have HS6 : Hid (SumMap w6 g.mb (g.ks ++ (List.range k).map f ++ [f k])) := hs6
               have HF6 : Hid (Fr (fun x => x = g.mb) wr w6) := (((((Fr.refl (fun x => x = g.mb) wr).alloc _).drew).trans HF4.out (fun _ _ e => e.elim)).trans hfr5 (fun _ _ e => e.elim)).trans hf6 (fun _ _ e => e)
               clear hfr5 hs6 hf6 hr6))
        all_goals
          go_wp2
          go_roundg (gk - 1)
          case measure => omega
          case rel =>
            refine ⟨k + 1, by go_num, by omega, ?_, HFR.out.trans HF6.out (fun _ _ e => e)⟩
            have := HS6.out
            rwa [List.append_assoc, ← range_snoc] at this
    · obtain rfl : k = n := by omega
      have hgo := HP.out.grp g (by simp)
      have hb3 : wr.heap[g.blk]? = some (.cells (grpCells g) 73 (0, 0)) := by
        rw [HFR.out.block g.blk (by have := HF3.out.size; have := HLO.out; omega) HLO.out.2.2, HF3.out.block g.blk HLO.out.1 id]
        exact hgo.cells
      have hown : wr.ownsRow B 28 1 g.dv g.ds.length (ptrs g.ds) := own_fr hgo.deals (fun j hj => by
        have hjl := (hgo.deals.lt j hj).2
        rw [HFR.out.block j (by have := HF3.out.size; omega) (fun e => ?_), HF3.out.block j hjl id]
        obtain ⟨cs1, h5⟩ := own_tag hgo.deals hj
        obtain ⟨es, cl, h6⟩ := sum_tag hgo.sums
        rw [e, h6] at h5
        cases h5)
      have c2 : wr.cell? ⟨g.blk, 2, none⟩ = some g.dv := by rw [cell_heap hb3]; rfl
      have hbl : g.blk < wr.heap.size := lt_heap hb3
      have HB3 : Hid (wr.heap[g.blk]? = some (.cells (grpCells g) 73 (0, 0))) := hb3
      have HO : Hid (wr.ownsRow B 28 1 g.dv g.ds.length (ptrs g.ds)) := hown
      have hwr : w.heap.size ≤ wr.heap.size := Nat.le_trans HF3.out.size HFR.out.size
      clear hb3 hown hgo
      go_wp2_with (at_builtin; refine wpList_append_lies _ rfl (.tmp 75) (.tmp 77) 70 rfl B 28 i0 (.pointer none) 1 8 Try.underlying70 hi hz hsz hby rfl (by decide) _ g.ds.length (ptrs g.ds) rfl (HO.out.alloc _) ⟨wr.heap.size, 0, none⟩ 1 1 [.pointer (some ⟨db, 0, none⟩)] rfl rfl ?c1 ?c2 (by decide) ?c3 ?c4 ?c5 _ rfl ?_)
      case c1 =>
        intro j u hj
        rw [Lib.addr_add, Nat.zero_add, World.cell?_alloc_new, List.getElem?_toArray]
        exact hj
      case c2 =>
        intro u hu
        simp at hu
        subst hu
        rfl
      case c3 => unfold maxLen; omega
      case c4 => omega
      case c5 => simp; omega
      intro ng cap w7 hown7 hgrow hat hlt7
      have hblk7 : w7.heap[g.blk]? = some (.cells (grpCells g) 73 (0, 0)) := by
        rw [(own_grown hgrow).block g.blk (by simp; omega) (fun e => ?_)]
        · exact (Below.heap_alloc wr _ _ hbl).trans HB3.out
        · obtain ⟨cs1, h5⟩ := own_tag HO.out e
          rw [HB3.out] at h5
          cases h5
      have c72 : w7.cell? ⟨g.blk, 2, none⟩ = some g.dv := by rw [cell_heap hblk7]; rfl
      have f72 : w7.frozen? ⟨g.blk, 2, none⟩ = false := frozen_heap hblk7 2
      have HB7 : Hid (w7.heap[g.blk]? = some (.cells (grpCells g) 73 (0, 0))) := hblk7
      have HO7 : Hid (w7.ownsRow B 28 1 (.slice (some ⟨ng, 0, none⟩) (g.ds.length + 1) cap) (g.ds.length + 1) (ptrs g.ds ++ [.pointer (some ⟨db, 0, none⟩)])) := hown7
      have HG7 : Hid ((wr.alloc (.cells #[.pointer (some ⟨db, 0, none⟩)] 28)).grownBy w7 g.dv.ownBlock) := hgrow
      have HA7 : Hid (g.dv.ownBlock = some ng ∨ ng = wr.heap.size + 1) := hat
      clear hblk7 hown7 hgrow hat hlt7
      go_wp2
      go_end0
      exact ⟨rfl, hit_end HP.out HF3.out HFR.out HSM.out HO.out HB7.out HO7.out HG7.out HA7.out⟩
end Go.Proofs.Qxb6616145a
