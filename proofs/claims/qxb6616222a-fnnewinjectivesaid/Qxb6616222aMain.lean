import Derived.Test.Qxb6616222aWalks
namespace Go.Proofs.Qxb6616222a
open Go.RowKit

set_option maxHeartbeats 400000 in
theorem inj (a ea b eb : Int) (w : World) :
    Calls Try.prog 4 #[.int .u64 a, .int .i32 ea, .int .u64 b, .int .i32 eb] w fun e w' => e = .returned (.bool true) ∧ Below w.heap.size w w' := by
  go_enter Try.func4, Try.ntmps4
  go_wp2_with fail
  refine (new a ea _).mono ?_
  rintro e w1 ⟨b1, g1, g2, rfl, hb1, hf1⟩
  go_wp2_with fail
  refine (new b eb _).mono ?_
  rintro e w2 ⟨b2, g3, g4, rfl, hb2, hf2⟩
  have hne : ¬ b1 = b2 := by omega
  have hf1' := hf1.kept hb2 g2
  clear hf1
  go_wp2_with fail
  refine (fields b1 0 a ea false _ hf1').mono ?_
  rintro e w3 ⟨rfl, n1, rfl⟩
  go_wp2_with fail
  refine (fields b2 0 b eb false _ (hf2.drewN n1)).mono ?_
  rintro e w3 ⟨rfl, n2, rfl⟩
  have hq := neq_figs w2 b1 b2 hne hf1' hf2
  clear hf1' hf2
  go_wp2
  all_goals
    go_ret
    refine ⟨ret_bool ?_, below_drewN (hb1.trans (hb2.mono (by omega))) _⟩
    first | rfl | (simp; assumption)

set_option maxHeartbeats 400000 in
theorem remake (ng : Bool) (hi lo ex : Int) (w : World) :
    Calls Try.prog 3 #[.bool ng, .int .u64 hi, .int .u64 lo, .int .i32 ex] w fun e w' => e = .returned (.bool true) ∧ Below w.heap.size w w' := by
  have hs : ∀ z : Bool, ((ng && z) && z) = (ng && z) := fun z => by cases ng <;> cases z <;> rfl
  obtain ⟨z, hz⟩ : ∃ z, z = (hi != 0 || lo != 0) := ⟨_, rfl⟩
  obtain ⟨m, hm⟩ : ∃ m, m = (ng && z) := ⟨_, rfl⟩
  have HZ : Hid _ := hz
  have HM : Hid _ := hm
  have HS : Hid ((m && z) = m) := by rw [hm]; exact hs z
  clear hz hm hs
  go_enter Try.func3, Try.ntmps3
  go_wp2_with fail
  refine (make ng hi lo ex _).mono ?_
  rw [← HZ.out, ← HM.out]
  rintro e w1 ⟨b1, g1, g2, rfl, hb1, hf1⟩
  go_wp2_with fail
  refine (fields b1 hi lo ex m _ hf1).mono ?_
  rintro e w3 ⟨rfl, n1, rfl⟩
  go_wp2_with fail
  refine (make m hi lo ex _).mono ?_
  rw [← HZ.out, HS.out]
  rintro e w2 ⟨b2, g3, g4, rfl, hb2, hf2⟩
  have g3' : w1.heap.size ≤ b2 := g3
  have hne : ¬ b1 = b2 := by omega
  have hf1' := (hf1.drewN n1).kept hb2 g2
  clear hf1
  go_wp2_with fail
  refine (fields b2 hi lo ex m _ hf2).mono ?_
  rintro e w3 ⟨rfl, n2, rfl⟩
  have hq := neq_figs w2 b1 b2 hne hf1' hf2
  clear hf1' hf2
  go_wp2
  all_goals
    go_ret
    refine ⟨ret_bool ?_, below_drewN ((below_drewN hb1 n1).trans (hb2.mono (by show _ ≤ w1.heap.size; omega))) _⟩
    have hz := HZ.out
    have hm := HM.out
    clear hq hb1 hb2 g1 g2 g3 g3' g4 hne HS
    first | rfl | (exfalso; subst hz; simp_all)
end Go.Proofs.Qxb6616222a
