import Derived.Test.Qxb6616145aSums
namespace Go.Proofs.Qxb6616145a
open Go.RowKit

theorem guard69 : Try.prog.eqGuardType Try.prog.depth 69 = false := by kernel_rfl
theorem eqFields69 (d : Nat) (m r m' r' : Int) (W : World) : (Op.eqFields (d + 1) #[.int .u32 m, .int .i64 r] #[.int .u32 m', .int .i64 r'] (Try.prog.fieldsOf 69).toList).run Try.prog W = .ok (m == m' && r == r') W := by
  have h67 := run_equalIn_int (P := Try.prog) W d 67 .u32 .u32 m m' Try.underlying67
  have h43 := run_equalIn_int (P := Try.prog) W d 43 .i64 .i64 r r' Try.underlying43
  by_cases h : m == m'
  · simp [Program.fieldsOf, Try.underlying69, Op.eqFields, part, h67, h43, h]
    by_cases h2 : r = r' <;> simp [h2]
  · simp [Program.fieldsOf, Try.underlying69, Op.eqFields, part, h67, h]
theorem eqShape (m r m' r' : Int) (W : World) : (binOp .eql 69 (.agg #[.int .u32 m, .int .i64 r]) (.agg #[.int .u32 m', .int .i64 r'])).run Try.prog W = .ok (.bool (m == m' && r == r')) W := by
  have hp : Try.prog.stoodInHeld 69 = false := by kernel_rfl
  have ht : Try.prog.underlying 69 = some (.struct (Try.prog.fieldsOf 69)) := by simp [Program.fieldsOf, Try.underlying69]
  rw [run_eql_struct, run_equalIn_agg W 9999 69 _ _ ht hp, eqFields69 9998]
  rfl

set_option maxHeartbeats 1000000 in
theorem same (gb sb : Nat) (m r m' r' : Int) (w : World) (c0 : w.cell? ⟨gb, 0, none⟩ = some (.int .u32 m)) (c1 : w.cell? ⟨gb, 1, none⟩ = some (.int .i64 r)) (d0 : w.cell? ⟨sb, 0, none⟩ = some (.int .u32 m')) (d1 : w.cell? ⟨sb, 1, none⟩ = some (.int .i64 r')) :
    Calls Try.prog 25 #[.pointer (some ⟨gb, 0, none⟩), .pointer (some ⟨sb, 0, none⟩)] w fun e w' => e = .returned (.bool (decide (m = m' ∧ r = r'))) ∧ ∃ k, w' = w.drewN k := by
  have hq := eqShape m r m' r'
  have hg := guard69
  go_enter Try.func25, Try.ntmps25
  go_wp2
  go_quiet (fail)
  go_wp2
  go_ret
  exact ⟨ret_bool (by by_cases h1 : m = m' <;> by_cases h2 : r = r' <;> simp [h1, h2]), _, rfl⟩

set_option maxHeartbeats 1000000 in
theorem indexFunc (pa : Option Addr) (n c sb : Nat) (m' r' : Int) (gb : Nat → Nat) (gm gr : Nat → Int) (w : World) (hn : n ≤ 1099511627776) (d0 : w.cell? ⟨sb, 0, none⟩ = some (.int .u32 m')) (d1 : w.cell? ⟨sb, 1, none⟩ = some (.int .i64 r'))
    (hrow : Hid (n = 0 ∨ ∃ pb, pa = some ⟨pb, 0, none⟩ ∧ ∀ j, j < n → w.cell? ⟨pb, j, none⟩ = some (.pointer (some ⟨gb j, 0, none⟩))))
    (hg : Hid (∀ j, j < n → w.cell? ⟨gb j, 0, none⟩ = some (.int .u32 (gm j)) ∧ w.cell? ⟨gb j, 1, none⟩ = some (.int .i64 (gr j)))) :
    Calls Try.prog 24 #[.slice pa n c, .func (.func 25) #[] #[.pointer (some ⟨sb, 0, none⟩)]] w fun e w' => (∃ i : Int, e = .returned (.int .i64 i) ∧ ((∃ k : Nat, i = k ∧ k < n ∧ gm k = m' ∧ gr k = r' ∧ ∀ j, j < k → ¬ (gm j = m' ∧ gr j = r')) ∨ (i = -1 ∧ ∀ j, j < n → ¬ (gm j = m' ∧ gr j = r')))) ∧ ∃ k, w' = w.drewN k := by
  go_enter Try.func24, Try.ntmps24
  go_wp2
  go_loopg [5, 8] n (fun gk _ i wr => ∃ (k q : Nat), i = .int .i64 k ∧ k + gk = n ∧ wr = w.drewN q ∧ Hid (∀ j, j < k → ¬ (gm j = m' ∧ gr j = r')))
  case atStart => exact ⟨0, 0, rfl, by omega, rfl, fun j hj => absurd hj (Nat.not_lt_zero _)⟩
  case round =>
    obtain ⟨k, q, rfl, hkn, rfl, HJ⟩ := hrel
    by_cases hk : k < n
    · rcases hrow.out with h | ⟨pb, rfl, hc⟩
      · omega
      · have g1 := hc k hk
        have g2 := hg.out k hk
        clear hc
        by_cases heq : gm k = m' ∧ gr k = r'
        · have HE : Hid (gm k = m' ∧ gr k = r') := heq
          have hd : decide (gm k = m' ∧ gr k = r') = true := decide_eq_true heq
          clear heq
          go_wp2_with (
            go_at_call 25
            refine (same (gb k) sb (gm k) (gr k) m' r' _ ?_ ?_ ?_ ?_).mono ?_
            exact g2.1
            exact g2.2
            exact d0
            exact d1
            rw [hd]
            rintro e w' ⟨rfl, q', rfl⟩)
          go_ret
          exact ⟨⟨k, rfl, .inl ⟨k, rfl, hk, HE.out.1, HE.out.2, HJ.out⟩⟩, _, rfl⟩
        · have HE : Hid (¬ (gm k = m' ∧ gr k = r')) := heq
          have hd : decide (gm k = m' ∧ gr k = r') = false := decide_eq_false heq
          clear heq
          go_wp2_with (
            go_at_call 25
            refine (same (gb k) sb (gm k) (gr k) m' r' _ ?_ ?_ ?_ ?_).mono ?_
            exact g2.1
            exact g2.2
            exact d0
            exact d1
            rw [hd]
            rintro e w' ⟨rfl, q', rfl⟩)
          go_roundg (gk - 1)
          case measure => omega
          case rel => exact ⟨k + 1, q + q', by go_num, by omega, rfl, fun j hj => by
            rcases Nat.lt_or_ge j k with h7 | h7
            · exact HJ.out j h7
            · obtain rfl : j = k := by omega
              exact HE.out⟩
    · obtain rfl : k = n := by omega
      go_wp2
      go_ret
      exact ⟨⟨-1, rfl, .inr ⟨rfl, HJ.out⟩⟩, q, rfl⟩
end Go.Proofs.Qxb6616145a
