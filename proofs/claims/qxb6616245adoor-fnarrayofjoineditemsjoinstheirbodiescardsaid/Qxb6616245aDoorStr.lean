import Derived.Test.Qxb6616245aDoorLong
namespace Go.Proofs.Qxb6616245aDoor
open Go.RowKit

theorem run_copy_str_none {P : Program} (w : World) (dT sT ty elem : TypeId) (dp : Option Addr) (dLen dCap : Nat) (s : ByteArray)
    (hu : P.underlying dT = some (.slice elem)) (hs : (P.info? elem).map (·.size) = some 1) (h0 : Nat.min s.size dLen = 0) :
    (Builtin.copy_ #[dT, sT] ty #[.slice dp dLen dCap, .string s]).run P w = .ok (goInt 0) w := by
  cases hq : P.info? elem with
  | none => simp [hq] at hs
  | some i =>
    cases dp <;> simp [Builtin.copy_, run_underlying hu, Builtin.lenOf, Builtin.firstCells, sizeOf, typeInfo, hq, h0, storeCells]

theorem step_copyT {P : Program} {ops : Array Oper} {o : Oper} {a : Act} {w : World} {K : Act → World → Prop} {Q : Exit → Act → World → Prop} {E : Prop} (hgd : o.guard = none) (d s : Operand) (dT sT : TypeId)
    (ho : o.op = .call { callee := .builtin .copy, args := #[d, s], argTypes := #[dT, sT] }) (elem : TypeId) (hu : P.underlying dT = some (.slice elem)) (hsz : (P.info? elem).map (·.size) = some 1)
    (g off : Nat) (dp : Option Addr) (dLen dCap : Nat) (S : ByteArray) (hd : a.eval d = .slice dp dLen dCap) (hs : a.eval s = .string S)
    (cur : List Value) (t : TypeId) (hg : w.heap[g]? = some (.cells cur.toArray t (0, 0))) (cs : List Value) (hcs : cs = (Lib.byteCells S.data.toList).take (Nat.min S.size dLen))
    (hdp : 0 < cs.length → dp = some ⟨g, off, none⟩) (hfit : off + cs.length ≤ cur.length)
    (h : K (a.put o.dst (goInt cs.length)) (w.setRow g (splice cur off cs).toArray)) :
    if Region.wanted o (yielded ops a.tmps) = true then Oper.wp P o a w K Q else E := by
  by_cases h0 : cs.length = 0
  · have hw : Region.wanted o (yielded ops a.tmps) = true := by simp [Region.wanted, hgd]
    rw [if_pos hw]
    have hm : Nat.min S.size dLen = 0 := by
      rw [hcs, List.length_take, Lib.byteCells_length, ← Lib.size_eq] at h0
      have h1 : Nat.min S.size dLen ≤ S.size := Nat.min_le_left _ _
      rw [Nat.min_eq_left h1] at h0
      exact h0
    have e : cs = [] := List.eq_nil_of_length_eq_zero h0
    have hrun := run_copy_str_none (P := P) w dT sT o.type elem dp dLen dCap S hu hsz hm
    unfold Oper.wp
    simp [execOp, ho, resolve, invoke, builtin, hd, hs, hrun, Result.andThen]
    have e2 : splice cur off [] = cur := by simp [splice]
    rw [e, e2, setRow_same hg] at h
    exact h
  · exact step_copyS hgd d s dT sT ho elem hu hsz g off dp dLen dCap S hd hs cur t hg cs hcs (hdp (by omega)) hfit h

/-- The loop's relation. -/
def Ls (w : World) (go0 : Option Nat) (B bb bw bf : Nat) (all : List UInt8) (k : Nat) (p sw tr nn : Value) (wr : World) : Prop :=
  ∃ s n go cur done l cnt, p = .string s ∧ sw = .nilIface ∧ tr = .bool true ∧ nn = .int .i64 (cnt : Nat) ∧ Wr wr B bb bw bf n go cur done l ∧ done ++ (l ++ s.data.toList) = all ∧ s.size ≤ 2 ∧ cnt + s.size = 2 ∧ Kp bb bw bf w go0 wr go ∧
    (k = 0 → n + s.size ≤ 16384)

set_option maxRecDepth 4000 in
set_option maxHeartbeats 4000000 in
theorem writeString (B bb bw bf n : Nat) (go : Option Nat) (cur : List Value) (done l : List UInt8) (w : World) (h : Wr w B bb bw bf n go cur done l) (hall : (done ++ (l ++ [13, 10])).length ≤ 1099511627776) :
    Calls Tryd.prog 23 #[.pointer (some ⟨bw, 0, none⟩), .string ⟨#[13, 10]⟩] w fun e w' => e = .returned (.tuple #[.int .i64 2, .nilIface]) ∧ Wrote w go B bb bw bf (done ++ (l ++ [13, 10])) w' := by
  have H0 : Hid (Ls w go B bb bw bf (done ++ (l ++ [13, 10])) 1 (.string ⟨#[13, 10]⟩) .nilIface (.bool true) (.int .i64 0) w) := ⟨⟨#[13, 10]⟩, n, go, cur, done, l, 0, rfl, rfl, rfl, rfl, h, rfl, by decide, by decide, Kp.refl _ _ _ _ _, by simp⟩
  obtain ⟨all, hal⟩ : ∃ all, all = done ++ (l ++ [13, 10]) := ⟨_, rfl⟩
  rw [← hal] at hall H0 ⊢
  have HA : Hid (all.length ≤ 1099511627776) := hall
  clear h hal hall
  go_enter Tryd.func23, Tryd.ntmps23
  go_wp2
  go_loopg [1, 6, 7, 8, 9] 1 (fun k p sw tr nn _ wr => Ls w go B bb bw bf all k p sw tr nn wr)
  case atStart => exact H0.out
  case round =>
    obtain ⟨s, n', go', cur', done', l', cnt, rfl, rfl, rfl, rfl, hW, hal, hs2, hcnt, hfr, hk0⟩ := hrel
    obtain ⟨c0, c1, c2, c3⟩ := hW.wcell
    have hn := hW.hn
    have hni : (n' : Int) ≤ 16384 := by omega
    have HW : Hid (Wr wr B bb bw bf n' go' cur' done' l') := hW
    have HFR : Hid (Kp bb bw bf w go wr go') := hfr
    have HAL : Hid (done' ++ (l' ++ s.data.toList) = all) := hal
    obtain ⟨m, hm⟩ : ∃ m, s.size = m := ⟨_, rfl⟩
    rw [hm] at hs2 hcnt hk0
    have HK : Hid (gk = 0 → n' + m ≤ 16384) := hk0
    have HC : Hid (cnt + m = 2) := hcnt
    have HX : Hid (s.data.toList.length = m) := (Lib.size_eq s).symm.trans hm
    have hcm : cnt ≤ 2 := by omega
    have HLL : Hid (l'.length = n') := hW.ll
    have HLIM : Hid (done'.length + (l'.length + m) ≤ 1099511627776) := by
      have := HA.out
      rw [← hal] at this
      simp only [List.length_append, HX.out] at this
      exact this
    have p2 : ∀ k r, ((wr.drewN k).setRow bf r).cell? ⟨bw, 2, none⟩ = some (.int .i64 n') := fun k r => (hW.past k r).1
    have q2 : ∀ k r, ((wr.drewN k).setRow bf r).frozen? ⟨bw, 2, none⟩ = false := fun k r => (hW.past k r).2
    clear hW hfr hal hk0 hcnt
    by_cases hf : n' + m ≤ 16384
    · have hfi : (m : Int) ≤ 16384 - n' := by omega
      have hfj : ¬ (16384 - (n' : Int) < m) := by omega
      obtain ⟨x, hx⟩ : ∃ x, s.data.toList = x := ⟨_, rfl⟩
      have hcl : (Lib.byteCells x).length = m := by rw [Lib.byteCells_length, ← hx]; exact HX.out
      have HM : Hid (Lib.byteCells x = (Lib.byteCells s.data.toList).take (Nat.min s.size (16384 - n'))) := by
        show _ = _
        rw [hm, hx, List.take_of_length_le]
        rw [hcl]; exact Nat.le_min.2 ⟨Nat.le_refl _, by omega⟩
      have HF : Hid (n' + (Lib.byteCells x).length ≤ cur'.length) := by
        show _ ≤ _
        rw [hcl, HW.out.len]; exact hf
      have HPX : Hid (0 < (Lib.byteCells x).length → 16384 ≠ n') := by rw [hcl]; exact fun h => by omega
      have HXX : Hid (s.data.toList = x) := hx
      have HXL : Hid (x.length = m) := by show _ = _; rw [← hx]; exact HX.out
      clear hx
      go_wp2_with (go_at_call 21; refine (available B bb bw bf n' go' cur' done' l' _ ?_).mono ?_; exact HW.out; rintro e w' ⟨rfl, k, rfl⟩)
      go_region_law (refine step_copyT rfl (.tmp 101) (.tmp 102) 25 9 rfl 5 Tryd.underlying25 size5 bf n' _ (16384 - n') (16384 - n') s rfl rfl cur' 5 HW.out.fb (Lib.byteCells x) HM.out (fun hq => if_neg (HPX.out hq)) HF.out ?_)
      all_goals
        go_wp2
        all_goals
          go_ret2
          have hput := HW.out.put' (w1 := wr.drewN (k + 1)) rfl rfl rfl HXL.out hf
          refine ⟨?_, n' + m, go', _, done', l' ++ x, hput.1, by rw [← HXX.out]; exact HAL.out, ?_⟩
          · have : ((cnt : Int) + (m : Int)) = 2 := by have := HC.out; omega
            rw [this]
            rfl
          · exact HFR.out.trans (.of_put hput.2)
    · have hfj : 16384 - (n' : Int) < m := by omega
      have hnz : ¬ (n' : Int) = 0 := by omega
      obtain ⟨a, hna⟩ : ∃ a, n' + a = 16384 := ⟨16384 - n', by omega⟩
      have hai : (a : Int) ≤ 16384 := by omega
      have has : (a : Int) < m := by omega
      obtain ⟨y, hy⟩ : ∃ y, s.data.toList.take a = y := ⟨_, rfl⟩
      have hyl : y.length = a := by rw [← hy, List.length_take, HX.out]; omega
      have hcl : (Lib.byteCells y).length = a := by rw [Lib.byteCells_length]; exact hyl
      have HM : Hid (Lib.byteCells y = (Lib.byteCells s.data.toList).take (Nat.min s.size (16384 - n'))) := by
        show _ = _
        rw [show 16384 - n' = a by omega, hm, show Nat.min m a = a from Nat.min_eq_right (by omega), ← hy]
        simp [Lib.byteCells]
      have HF : Hid (n' + (Lib.byteCells y).length ≤ cur'.length) := by
        show _ ≤ _
        rw [hcl, HW.out.len]; omega
      have HPX : Hid (0 < (Lib.byteCells y).length → 16384 ≠ n') := by rw [hcl]; exact fun h => by omega
      have HY : Hid (y.length = a) := hyl
      have HYY : Hid (s.data.toList.take a = y) := hy
      clear hy hyl
      go_wp2_with (first
          | (go_at_call 21; refine (available B bb bw bf n' go' cur' done' l' _ ?_).mono ?_; exact HW.out; rintro e w' ⟨rfl, k, rfl⟩)
          | (go_at_call 22; refine (buffered B bb bw bf n' go' cur' done' l' _ ?_).mono ?_; exact HW.out.drewN _; rintro e w' ⟨rfl, rfl⟩))
      go_region_law (refine step_copyT rfl (.tmp 64) (.tmp 65) 25 9 rfl 5 Tryd.underlying25 size5 bf n' _ (16384 - n') (16384 - n') s rfl rfl cur' 5 HW.out.fb (Lib.byteCells y) HM.out (fun hq => by first | rfl | exact if_neg (HPX.out hq)) HF.out ?_)
      all_goals
        go_wp2_with (
            go_at_call 12
            refine (flush_some B bb bw bf (n' + a) go' (splice cur' n' (Lib.byteCells y)) done' (l' ++ y) _ (HW.out.put' (w1 := wr.drewN (k + 1)) rfl rfl rfl HY.out (Nat.le_of_eq hna)).1 (by omega) (by have := HLIM.out; have := HLL.out; omega)).mono ?_
            rintro e w2 ⟨rfl, hq⟩
            have HQ : Hid (∃ g', Wr w2 B bb bw bf 0 (some g') (splice cur' n' (Lib.byteCells y)) (done' ++ (l' ++ y)) [] ∧ Fr (fun k => k = bb ∨ k = bw ∨ go' = some k) (((wr.drewN (k + 1)).setRow bf (splice cur' n' (Lib.byteCells y)).toArray).setCell ⟨bw, 2, none⟩ (.int .i64 ((n' : Int) + (a : Int)))) w2 ∧ (go' = some g' ∨ (((wr.drewN (k + 1)).setRow bf (splice cur' n' (Lib.byteCells y)).toArray).setCell ⟨bw, 2, none⟩ (.int .i64 ((n' : Int) + (a : Int)))).heap.size ≤ g')) := hq
            clear hq)
        all_goals
          go_roundg 0
          case measure =>
            have := HK.out
            omega
          case rel =>
            have hput := HW.out.put' (w1 := wr.drewN (k + 1)) rfl rfl rfl HY.out (Nat.le_of_eq hna)
            obtain ⟨g', hWf, hff, hgf⟩ := HQ.out
            have hex : (s.extract a m).data.toList = s.data.toList.drop a := by
              rw [ByteArray.data_extract, Array.toList_extract, List.extract_eq_take_drop, ← hm, List.take_of_length_le]
              rw [List.length_drop, HX.out, hm]
              exact Nat.le_refl _
            have hsz : (s.extract a m).size = m - a := by
              rw [Lib.size_eq, hex, List.length_drop, HX.out]
            refine ⟨s.extract a m, 0, some g', _, done' ++ (l' ++ y), [], cnt + a, rfl, rfl, rfl, rfl, hWf, ?_, by omega, ?_, ?_, by omega⟩
            · rw [hex, ← HAL.out, ← HYY.out]
              simp
            · have := HC.out
              omega
            · exact (HFR.out.trans (.of_put hput.2)).trans (.of_flush hff hgf)
end Go.Proofs.Qxb6616245aDoor
