import Derived.Test.Qxb6616245aDoorWrite
namespace Go.Proofs.Qxb6616245aDoor
open Go.RowKit

/-- Bytes at an address apart from the writer's blocks. -/
structure Apart (w : World) (bb bw bf : Nat) (go : Option Nat) (pb po : Nat) (x : List UInt8) : Prop where
  src : ∀ j v, (Lib.byteCells x)[j]? = some v → w.cell? ⟨pb, po + j, none⟩ = some v
  nb : pb ≠ bb
  nw : pb ≠ bw
  nf : pb ≠ bf
  ng : go ≠ some pb
  lt : pb < w.heap.size

theorem Apart.pre {w : World} {bb bw bf : Nat} {go : Option Nat} {pb po : Nat} {y z : List UInt8} (h : Apart w bb bw bf go pb po (y ++ z)) : Apart w bb bw bf go pb po y :=
  ⟨fun j v hj => h.src j v (by rw [Lib.byteCells_append, List.getElem?_append_left]; exact hj; exact (List.getElem?_eq_some_iff.1 hj).1), h.nb, h.nw, h.nf, h.ng, h.lt⟩
theorem Apart.rest {w w1 w2 : World} {bb bw bf a g' : Nat} {go : Option Nat} {pb po : Nat} {y z : List UInt8} (h : Apart w bb bw bf go pb po (y ++ z)) (hy : y.length = a) (fr1 : Fr (fun k => k = bw ∨ k = bf) w w1) (fr2 : Fr (fun k => k = bb ∨ k = bw ∨ go = some k) w1 w2) (hg : go = some g' ∨ w1.heap.size ≤ g') :
    Apart w2 bb bw bf (some g') pb (po + a) z := by
  have n1 : ¬ (pb = bw ∨ pb = bf) := by rintro (e | e); exact h.nw e; exact h.nf e
  have n2 : ¬ (pb = bb ∨ pb = bw ∨ go = some pb) := by rintro (e | e | e); exact h.nb e; exact h.nw e; exact h.ng e
  have l1 : pb < w1.heap.size := Nat.lt_of_lt_of_le h.lt fr1.size
  refine ⟨fun j v hj => ?_, h.nb, h.nw, h.nf, ?_, Nat.lt_of_lt_of_le l1 fr2.size⟩
  · rw [fr2.cell (p := ⟨pb, po + a + j, none⟩) l1 n2, fr1.cell (p := ⟨pb, po + a + j, none⟩) h.lt n1]
    have := h.src (a + j) v (by rw [Lib.byteCells_append, List.getElem?_append_right (by rw [Lib.byteCells_length]; omega), Lib.byteCells_length, hy]; simpa using hj)
    rwa [← Nat.add_assoc] at this
  · rintro e
    cases e
    rcases hg with hg | hg
    · exact h.ng hg
    · omega
theorem Apart.given {w : World} {bb bw bf n : Nat} {go : Option Nat} {pb po : Nat} {x : List UInt8} (h : Apart w bb bw bf go pb po x) : Given w bb bw bf n go (some ⟨pb, po, none⟩) x :=
  .inr ⟨pb, po, rfl, h.src, .inr ⟨h.nb, h.nw, h.nf, h.ng, h.lt⟩⟩
theorem Given.apart {w : World} {bb bw bf n : Nat} {go : Option Nat} {sp : Option Addr} {x : List UInt8} (h : Given w bb bw bf n go sp x) (hn : n ≤ 16384) (hf : ¬ n + x.length ≤ 16384) : ∃ pb po, sp = some ⟨pb, po, none⟩ ∧ Apart w bb bw bf go pb po x := by
  rcases h with rfl | ⟨pb, po, rfl, hc, h | h⟩
  · exact absurd hn (by simpa using hf)
  · exact absurd h hf
  · exact ⟨pb, po, rfl, hc, h.1, h.2.1, h.2.2.1, h.2.2.2.1, h.2.2.2.2⟩

/-- What stands through a write: all but the writer's own blocks; the buffer's row is none of the others. -/
structure Kp (bb bw bf : Nat) (w : World) (go : Option Nat) (w' : World) (go' : Option Nat) : Prop where
  os : w'.os = w.os
  output : w'.output = w.output
  size : w.heap.size ≤ w'.heap.size
  block : ∀ r, r < w.heap.size → r ≠ bb → r ≠ bw → r ≠ bf → go ≠ some r → w'.heap[r]? = w.heap[r]? ∧ go' ≠ some r
theorem Kp.refl (bb bw bf : Nat) (w : World) (go : Option Nat) : Kp bb bw bf w go w go := ⟨rfl, rfl, Nat.le_refl _, fun _ _ _ _ _ h => ⟨rfl, h⟩⟩
theorem Kp.trans {bb bw bf : Nat} {w w1 w2 : World} {go go1 go2 : Option Nat} (h : Kp bb bw bf w go w1 go1) (k : Kp bb bw bf w1 go1 w2 go2) : Kp bb bw bf w go w2 go2 :=
  ⟨k.os.trans h.os, k.output.trans h.output, Nat.le_trans h.size k.size, fun r h1 h2 h3 h4 h5 => by
    have a := h.block r h1 h2 h3 h4 h5
    have b := k.block r (Nat.lt_of_lt_of_le h1 h.size) h2 h3 h4 a.2
    exact ⟨b.1.trans a.1, b.2⟩⟩
theorem Kp.of_put {bb bw bf : Nat} {w w' : World} {go : Option Nat} (h : Fr (fun k => k = bw ∨ k = bf) w w') : Kp bb bw bf w go w' go :=
  ⟨h.os, h.output, h.size, fun r h1 _ h3 h4 h5 => ⟨h.block r h1 (by rintro (e | e); exact h3 e; exact h4 e), h5⟩⟩
theorem Kp.of_flush {bb bw bf g' : Nat} {w w' : World} {go : Option Nat} (h : Fr (fun k => k = bb ∨ k = bw ∨ go = some k) w w') (hg : go = some g' ∨ w.heap.size ≤ g') : Kp bb bw bf w go w' (some g') :=
  ⟨h.os, h.output, h.size, fun r h1 h2 h3 _ h5 => ⟨h.block r h1 (by rintro (e | e | e); exact h2 e; exact h3 e; exact h5 e), by
    rintro e
    cases e
    rcases hg with hg | hg
    · exact h5 hg
    · omega⟩⟩
theorem Kp.of_none {bb bw bf : Nat} {w w' : World} {go : Option Nat} (h : Fr (fun _ => False) w w') : Kp bb bw bf w go w' go :=
  ⟨h.os, h.output, h.size, fun r h1 _ _ _ h5 => ⟨h.block r h1 id, h5⟩⟩
theorem Kp.below {B bb bw bf : Nat} {w w' : World} {go go' : Option Nat} (h : Kp bb bw bf w go w' go') (hb : B ≤ bb) (hw : B ≤ bw) (hf : B ≤ bf) (hg : ∀ g, go = some g → B ≤ g) : Fr (fun k => B ≤ k) w w' :=
  ⟨h.os, h.output, h.size, fun r h1 h2 => (h.block r h1 (by omega) (by omega) (by omega) (fun e => h2 (hg r e))).1⟩

/-- Behind a write that went straight through. -/
theorem Wr.straight {w w2 : World} {B bb bw bf k g' : Nat} {go : Option Nat} {cur : List Value} {done l x : List UInt8} (h : Wr w B bb bw bf 0 go cur done l) (hb : Bf w2 bb (some g') (Lib.byteCells done ++ Lib.byteCells x)) (fr : Fr (fun k => k = bb ∨ go = some k) (w.drewN k) w2)
    (hg : go = some g' ∨ (w.drewN k).heap.size ≤ g') : Wr (w2.setCell ⟨bw, 0, none⟩ .nilIface) B bb bw bf 0 (some g') cur (done ++ x) [] ∧ Kp bb bw bf w go (w2.setCell ⟨bw, 0, none⟩ .nilIface) (some g') := by
  have hwlt := Lib.lt_of_heap h.wb
  have hflt := Lib.lt_of_heap h.fb
  have nb : ¬ (bw = bb ∨ go = some bw) := by rintro (e | e); exact h.ne.1 e; exact (h.row _ e).2.2 rfl
  have nf : ¬ (bf = bb ∨ go = some bf) := by rintro (e | e); exact h.ne.2.1 e; exact (h.row _ e).2.1 rfl
  have e1 : w2.heap[bw]? = some (.cells (wcells bb bf 0) 52 (0, 0)) := (fr.block bw hwlt nb).trans h.wb
  have e2 : w2.heap[bf]? = some (.cells cur.toArray 5 (0, 0)) := (fr.block bf hflt nf).trans h.fb
  have hg1 : B ≤ g' ∧ g' ≠ bf ∧ g' ≠ bw := by
    rcases hg with hg | hg
    · exact h.row g' hg
    · have : w.heap.size ≤ g' := hg
      have := h.lo
      omega
  refine ⟨⟨h.lo, h.ne, fun g e => by cases e; exact hg1, by rw [heap_setCell e1]; rfl, ?_, h.len, Nat.zero_le _, ?_, by simp [Lib.byteCells]⟩, ?_⟩
  · rw [Below.heap_setCell _ _ _ _ (by have := h.ne; show bf ≠ bw; omega)]; exact e2
  · rw [Lib.byteCells_append]
    refine hb.carry (Below.heap_setCell _ _ _ _ (by have := h.ne; show bb ≠ bw; omega)) (fun g e => ?_)
    cases e
    exact Below.heap_setCell _ _ _ _ (by show g' ≠ bw; omega)
  · refine Kp.of_flush ?_ hg
    refine Fr.setCell (X := fun k => k = bb ∨ k = bw ∨ go = some k) ?_ (p := ⟨bw, 0, none⟩) (fun _ => .inr (.inl rfl)) _
    refine Fr.trans (X := fun k => k = bb ∨ k = bw ∨ go = some k) ((Fr.refl _ w).drewN k) fr ?_
    rintro i _ (e | e)
    · exact .inl e
    · exact .inr (.inr e)

/-- The loop's relation. -/
def Lw (w : World) (go0 : Option Nat) (B bb bw bf : Nat) (all : List UInt8) (tot k : Nat) (p nn : Value) (wr : World) : Prop :=
  ∃ sp m c n go cur done l x cnt, p = .slice sp m c ∧ nn = .int .i64 (cnt : Nat) ∧ Wr wr B bb bw bf n go cur done l ∧ done ++ (l ++ x) = all ∧ x.length = m ∧ cnt + m = tot ∧ m ≤ c ∧ c ≤ 9223372036854775807 ∧ Given wr bb bw bf n go sp x ∧ Kp bb bw bf w go0 wr go ∧
    (k = 0 → n + m ≤ 16384) ∧ (k = 1 → n = 0 ∨ n + m ≤ 16384)

/-- What Write leaves. -/
def Wrote (w : World) (go0 : Option Nat) (B bb bw bf : Nat) (all : List UInt8) (w' : World) : Prop :=
  ∃ n go cur done l, Wr w' B bb bw bf n go cur done l ∧ done ++ l = all ∧ Kp bb bw bf w go0 w' go

set_option maxHeartbeats 4000000 in
theorem write_all (B bb bw bf n : Nat) (go : Option Nat) (cur : List Value) (done l x : List UInt8) (sp : Option Addr) (m c : Nat) (w : World) (h : Wr w B bb bw bf n go cur done l) (hx : x.length = m) (hmc : m ≤ c) (hc : c ≤ 9223372036854775807) (hg : Given w bb bw bf n go sp x) (hall : (done ++ (l ++ x)).length ≤ 1099511627776) :
    Calls Tryd.prog 18 #[.pointer (some ⟨bw, 0, none⟩), .slice sp m c] w fun e w' => e = .returned (.tuple #[.int .i64 m, .nilIface]) ∧ Wrote w go B bb bw bf (done ++ (l ++ x)) w' := by
  have H0 : Hid (Lw w go B bb bw bf (done ++ (l ++ x)) m 2 (.slice sp m c) (.int .i64 0) w) := ⟨sp, m, c, n, go, cur, done, l, x, 0, rfl, rfl, h, rfl, hx, by omega, hmc, hc, hg, Kp.refl _ _ _ _ _, by simp, by simp⟩
  obtain ⟨all, hal⟩ : ∃ all, all = done ++ (l ++ x) := ⟨_, rfl⟩
  rw [← hal] at H0 ⊢
  have hm40 : m ≤ 1099511627776 := by simp only [List.length_append] at hall; omega
  rw [← hal] at hall
  have HA : Hid (all.length ≤ 1099511627776) := hall
  clear h hg hx hmc hc hal hall
  go_enter Tryd.func18, Tryd.ntmps18
  go_wp2
  go_loopg [1, 4, 6] 2 (fun k p nn _ wr => Lw w go B bb bw bf all m k p nn wr)
  case atStart => exact H0.out
  case round =>
    obtain ⟨sp', m', c', n', go', cur', done', l', x', cnt, rfl, rfl, hW, hal, hx, hcnt, hmc, hc, hg, hfr, hk0, hk1⟩ := hrel
    obtain ⟨c0, c1, c2, c3⟩ := hW.wcell
    have hn := hW.hn
    have hni : (n' : Int) ≤ 16384 := by omega
    have HW : Hid (Wr wr B bb bw bf n' go' cur' done' l') := hW
    have HG : Hid (Given wr bb bw bf n' go' sp' x') := hg
    have HX : Hid (x'.length = m') := hx
    have HFR : Hid (Kp bb bw bf w go wr go') := hfr
    have HAL : Hid (done' ++ (l' ++ x') = all) := hal
    have HK : Hid ((gk = 0 → n' + m' ≤ 16384) ∧ (gk = 1 → n' = 0 ∨ n' + m' ≤ 16384)) := ⟨hk0, hk1⟩
    have HC : Hid (cnt + m' = m) := hcnt
    have hcm : cnt ≤ 1099511627776 := by omega
    have hmm : m' ≤ 1099511627776 := by omega
    have HLIM : Hid (done'.length + (l'.length + m') ≤ 1099511627776) := by
      have := HA.out
      rw [← hal] at this
      simp only [List.length_append, hx] at this
      exact this
    have HLL : Hid (l'.length = n') := hW.ll
    have p2 : ∀ k r, ((wr.drewN k).setRow bf r).cell? ⟨bw, 2, none⟩ = some (.int .i64 n') := fun k r => (hW.past k r).1
    have q2 : ∀ k r, ((wr.drewN k).setRow bf r).frozen? ⟨bw, 2, none⟩ = false := fun k r => (hW.past k r).2
    clear hW hg hx hfr hal hk0 hk1 hcnt
    by_cases hf : n' + m' ≤ 16384
    · have hfi : (m' : Int) ≤ 16384 - n' := by omega
      have hfj : ¬ (16384 - (n' : Int) < m') := by omega
      have hcl : (Lib.byteCells x').length = m' := (Lib.byteCells_length _).trans HX.out
      have HM : Hid ((Lib.byteCells x').length = Nat.min m' (16384 - n')) := by
        show _ = _
        rw [hcl]; exact (Nat.min_eq_left (by omega)).symm
      have HF : Hid (n' + (Lib.byteCells x').length ≤ cur'.length) := by
        show _ ≤ _
        rw [hcl, HW.out.len]; exact hf
      have HP : Hid (n' + x'.length ≤ 16384) := by show _ ≤ _; rw [HX.out]; exact hf
      go_wp2_with (go_at_call 21; refine (available B bb bw bf n' go' cur' done' l' _ ?_).mono ?_; exact HW.out; rintro e w' ⟨rfl, k, rfl⟩)
      go_region_law (refine step_copyW rfl (.tmp 80) (.tmp 81) 25 25 rfl 5 Tryd.underlying25 size5 _ sp' (16384 - n') (16384 - n') m' c' rfl rfl bf n' cur' 5 HW.out.fb (Lib.byteCells x') HM.out (HG.out.pos _ (fun _ hq => if_neg (Nat.ne_of_gt hq)) HP.out) HF.out (Lib.byteCells_one _) ?_)
      all_goals
        go_wp2
        all_goals
          go_ret2
          have hput := HW.out.put' (w1 := wr.drewN (k + 1)) rfl rfl rfl HX.out hf
          refine ⟨by rw [← HC.out]; rfl, n' + m', go', _, done', l' ++ x', hput.1, HAL.out, ?_⟩
          exact HFR.out.trans (.of_put hput.2)
    · by_cases h0 : n' = 0
      · subst h0
        obtain ⟨pb, po, rfl, ha⟩ := HG.out.apart hn (by rw [HX.out]; exact hf)
        have HAP : Hid (Apart wr bb bw bf go' pb po x') := ha
        clear ha
        have hmw := method_write ⟨bb, 0, none⟩
        have hfj : (16384 : Int) < m' := by omega
        have hm0 : (m' : Int) ≤ c' := by omega
        go_wp2_with (first
          | (go_at_call 21; refine (available B bb bw bf 0 go' cur' done' l' _ ?_).mono ?_; exact HW.out; rintro e w' ⟨rfl, k, rfl⟩)
          | (go_at_call 22; refine (buffered B bb bw bf 0 go' cur' done' l' _ ?_).mono ?_; exact HW.out.drewN _; rintro e w' ⟨rfl, rfl⟩))
        go_at_call 55
        refine (bufWrite bb go' (Lib.byteCells done') (Lib.byteCells x') pb po m' c' (wr.drewN k) HW.out.buf ((Lib.byteCells_length _).trans HX.out) (by omega) HAP.out.nb HAP.out.lt HAP.out.src (Lib.byteCells_one _) (Lib.byteCells_one _) ?_).mono ?_
        · rw [Lib.byteCells_length]; have := HLIM.out; omega
        · rintro e w2 ⟨rfl, g', hb, fr, hg⟩
          have e1 := Wr.kept (w1 := wr.drewN k) HW.out rfl fr
          have d0 : w2.cell? ⟨bw, 0, none⟩ = some .nilIface := by rw [Lib.cell_of_heap e1]; rfl
          have f0 : w2.frozen? ⟨bw, 0, none⟩ = false := Lib.frozen_of_heap e1 0
          have HS := HW.out.straight (k := k) hb fr hg
          have HS2 : Hid (Wr (w2.setCell ⟨bw, 0, none⟩ .nilIface) B bb bw bf 0 (some g') cur' (done' ++ x') [] ∧ Kp bb bw bf wr go' (w2.setCell ⟨bw, 0, none⟩ .nilIface) (some g')) := HS
          clear hb fr hg e1 HS
          go_wp2
          all_goals
            go_roundg 0
            case measure =>
              have := HK.out
              omega
            case rel =>
              have hl0 : l' = [] := List.eq_nil_of_length_eq_zero HLL.out
              refine ⟨_, 0, _, 0, some g', cur', done' ++ x', [], [], cnt + m', rfl, rfl, HS2.out.1, ?_, rfl, HC.out, by omega, by omega, .inl rfl, HFR.out.trans HS2.out.2, by simp, by simp⟩
              rw [← HAL.out, hl0]; simp
      · obtain ⟨pb, po, rfl, ha⟩ := HG.out.apart hn (by rw [HX.out]; exact hf)
        obtain ⟨a, hna⟩ : ∃ a, n' + a = 16384 := ⟨16384 - n', by omega⟩
        obtain ⟨y, z, rfl, hy⟩ : ∃ y z, x' = y ++ z ∧ y.length = a := ⟨x'.take a, x'.drop a, (List.take_append_drop a x').symm, by have := HX.out; simp; omega⟩
        have HAP : Hid (Apart wr bb bw bf go' pb po (y ++ z)) := ha
        have HY : Hid (y.length = a) := hy
        have hcl : (Lib.byteCells y).length = a := (Lib.byteCells_length _).trans hy
        have HM : Hid ((Lib.byteCells y).length = Nat.min m' (16384 - n')) := by
          show _ = _
          rw [hcl, show 16384 - n' = a by omega]; exact (Nat.min_eq_right (by omega)).symm
        have HF : Hid (n' + (Lib.byteCells y).length ≤ cur'.length) := by
          show _ ≤ _
          rw [hcl, HW.out.len]; omega
        have HPOS : Hid (0 < (Lib.byteCells y).length → ∃ ad, (some ⟨pb, po, none⟩ : Option Addr) = some ad ∧ ∀ j v, (Lib.byteCells y)[j]? = some v → wr.cell? (ad.add j) = some v) :=
          fun _ => ⟨_, rfl, fun j v hj => by rw [Lib.addr_add]; exact ha.pre.src j v hj⟩
        clear ha hy
        have hfj : 16384 - (n' : Int) < m' := by omega
        have hnz : ¬ (n' : Int) = 0 := by omega
        have hai : (a : Int) ≤ 16384 := by omega
        have ham : (a : Int) < m' := by omega
        have ham' : a < m' := by omega
        go_wp2_with (first
          | (go_at_call 21; refine (available B bb bw bf n' go' cur' done' l' _ ?_).mono ?_; exact HW.out; rintro e w' ⟨rfl, k, rfl⟩)
          | (go_at_call 22; refine (buffered B bb bw bf n' go' cur' done' l' _ ?_).mono ?_; exact HW.out.drewN _; rintro e w' ⟨rfl, rfl⟩))
        have hac : a < c' := by omega
        go_region_law (refine step_copyW rfl (.tmp 43) (.tmp 44) 25 25 rfl 5 Tryd.underlying25 size5 _ _ (16384 - n') (16384 - n') m' c' rfl rfl bf n' cur' 5 HW.out.fb (Lib.byteCells y) HM.out (fun hq => ⟨by first | rfl | exact if_neg (by omega), HPOS.out hq⟩) HF.out (Lib.byteCells_one _) ?_)
        all_goals
          go_wp2_with (
            go_at_call 12
            refine (flush_some B bb bw bf (n' + a) go' (splice cur' n' (Lib.byteCells y)) done' (l' ++ y) _ (HW.out.put' (w1 := wr.drewN (k + 1)) rfl rfl rfl HY.out (Nat.le_of_eq hna)).1 (by omega) (by have := HLIM.out; have := HLL.out; omega)).mono ?_
            rintro e w2 ⟨rfl, hq⟩
            have HQ : Hid (∃ g', Wr w2 B bb bw bf 0 (some g') (splice cur' n' (Lib.byteCells y)) (done' ++ (l' ++ y)) [] ∧ Fr (fun k => k = bb ∨ k = bw ∨ go' = some k) (((wr.drewN (k + 1)).setRow bf (splice cur' n' (Lib.byteCells y)).toArray).setCell ⟨bw, 2, none⟩ (.int .i64 ((n' : Int) + (a : Int)))) w2 ∧ (go' = some g' ∨ (((wr.drewN (k + 1)).setRow bf (splice cur' n' (Lib.byteCells y)).toArray).setCell ⟨bw, 2, none⟩ (.int .i64 ((n' : Int) + (a : Int)))).heap.size ≤ g')) := hq
            clear hq)
          all_goals
            go_roundg 1
            case measure =>
              have := HK.out
              omega
            case rel =>
              have hput := HW.out.put' (w1 := wr.drewN (k + 1)) rfl rfl rfl HY.out (Nat.le_of_eq hna)
              obtain ⟨g', hWf, hff, hgf⟩ := HQ.out
              refine ⟨some ⟨pb, po + a, none⟩, m' - a, c' - a, 0, some g', _, done' ++ (l' ++ y), [], z, cnt + a, ?_, ?_, hWf, ?_, ?_, ?_, by omega, by omega, (HAP.out.rest HY.out hput.2 hff hgf).given, ?_, by simp, by simp⟩
              · rfl
              · rfl
              · rw [← HAL.out]; simp
              · have := HX.out
                have := HY.out
                simp at *
                omega
              · have := HC.out
                omega
              · exact (HFR.out.trans (.of_put hput.2)).trans (.of_flush hff hgf)
end Go.Proofs.Qxb6616245aDoor
