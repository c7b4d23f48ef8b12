import Derived.Test.Qxb6616057aFmtParts
namespace Go.Proofs.Qxb6616057aFmt
open Go.RowKit

theorem order_ts (sc : Bool) (nd t1 t2 r1 r2 : Int) (w : World) (h : t1 < 0 ∨ 8796093022207 < t1 ∨ t2 < 0 ∨ 8796093022207 < t2) :
    Calls Tryf.prog 3 #[.bool sc, .int .u8 nd, .int .i64 t1, .int .i64 t2, .int .u32 r1, .int .u32 r2] w fun e w' => e = .returned (.bool true) ∧ w' = w := by
  by_cases c1 : t1 < 0
  · go_enter Tryf.func3, Tryf.ntmps3
    go_wp2
    go_ret
    exact ⟨rfl, rfl⟩
  by_cases c2 : 8796093022207 < t1
  · go_enter Tryf.func3, Tryf.ntmps3
    go_wp2
    go_ret
    exact ⟨rfl, rfl⟩
  by_cases c3 : t2 < 0
  · go_enter Tryf.func3, Tryf.ntmps3
    go_wp2
    go_ret
    exact ⟨rfl, rfl⟩
  have c4 : 8796093022207 < t2 := by omega
  clear h
  go_enter Tryf.func3, Tryf.ntmps3
  go_wp2
  go_ret
  exact ⟨rfl, rfl⟩

theorem order_big (sc : Bool) (nd t1 t2 r1 r2 : Int) (w : World) (h1 : 0 ≤ t1) (h2 : t1 ≤ 8796093022207) (g1 : 0 ≤ t2) (g2 : t2 ≤ 8796093022207) (h : 31 < nd) :
    Calls Tryf.prog 3 #[.bool sc, .int .u8 nd, .int .i64 t1, .int .i64 t2, .int .u32 r1, .int .u32 r2] w fun e w' => e = .returned (.bool true) ∧ w' = w := by
  go_enter Tryf.func3, Tryf.ntmps3
  go_wp2_with (go_at_call 6; refine (valid_big _ _ _ h).mono ?_; rintro e w ⟨rfl, rfl⟩)
  go_ret
  exact ⟨rfl, rfl⟩

theorem order_node (nd t1 t2 r1 r2 : Int) (w : World) (h1 : 0 ≤ t1) (h2 : t1 ≤ 8796093022207) (g1 : 0 ≤ t2) (g2 : t2 ≤ 8796093022207) (h3 : nd ≤ 31) (H4 : Hid (¬ nd = 0)) :
    Calls Tryf.prog 3 #[.bool false, .int .u8 nd, .int .i64 t1, .int .i64 t2, .int .u32 r1, .int .u32 r2] w fun e w' => e = .returned (.bool true) ∧ w' = w := by
  go_enter Tryf.func3, Tryf.ntmps3
  go_wp2_with (go_at_call 6; refine (valid_node _ _ h3 H4.out).mono ?_; rintro e w ⟨rfl, rfl⟩)
  go_ret
  exact ⟨rfl, rfl⟩

theorem order_wide (sc : Bool) (nd t1 t2 r1 r2 : Int) (w : World) (h1 : 0 ≤ t1) (h2 : t1 ≤ 8796093022207) (g1 : 0 ≤ t2) (g2 : t2 ≤ 8796093022207) (h3 : 0 ≤ nd) (h4 : nd ≤ 31) (H5 : Hid (nd = 0 ∨ sc = true)) (h6 : top sc ≤ r1 ∨ top sc ≤ r2) :
    Calls Tryf.prog 3 #[.bool sc, .int .u8 nd, .int .i64 t1, .int .i64 t2, .int .u32 r1, .int .u32 r2] w fun e w' => e = .returned (.bool true) ∧ w' = w := by
  cases sc
  · have h7 : 1048576 ≤ r1 ∨ 1048576 ≤ r2 := by simpa [top] using h6
    clear h6
    by_cases c : 1048576 ≤ r1
    · clear h7
      go_enter Tryf.func3, Tryf.ntmps3
      go_wp2_with (first
        | (go_at_call 6; refine (valid_yes _ _ _ h3 h4 H5.out).mono ?_; rintro e w ⟨rfl, rfl⟩)
        | (go_at_call 7; refine (zzW _ _).mono ?_; rintro e w3 ⟨rfl, rfl⟩))
      go_ret
      exact ⟨rfl, rfl⟩
    · have c2 : 1048576 ≤ r2 := by omega
      clear h7
      go_enter Tryf.func3, Tryf.ntmps3
      go_wp2_with (first
        | (go_at_call 6; refine (valid_yes _ _ _ h3 h4 H5.out).mono ?_; rintro e w ⟨rfl, rfl⟩)
        | (go_at_call 7; refine (zzW _ _).mono ?_; rintro e w3 ⟨rfl, rfl⟩))
      go_ret
      exact ⟨rfl, rfl⟩
  · have h7 : 32768 ≤ r1 ∨ 32768 ≤ r2 := by simpa [top] using h6
    clear h6
    by_cases c : 32768 ≤ r1
    · clear h7
      go_enter Tryf.func3, Tryf.ntmps3
      go_wp2_with (first
        | (go_at_call 6; refine (valid_yes _ _ _ h3 h4 H5.out).mono ?_; rintro e w ⟨rfl, rfl⟩)
        | (go_at_call 7; refine (zzW _ _).mono ?_; rintro e w3 ⟨rfl, rfl⟩))
      go_ret
      exact ⟨rfl, rfl⟩
    · have c2 : 32768 ≤ r2 := by omega
      clear h7
      go_enter Tryf.func3, Tryf.ntmps3
      go_wp2_with (first
        | (go_at_call 6; refine (valid_yes _ _ _ h3 h4 H5.out).mono ?_; rintro e w ⟨rfl, rfl⟩)
        | (go_at_call 7; refine (zzW _ _).mono ?_; rintro e w3 ⟨rfl, rfl⟩))
      go_ret
      exact ⟨rfl, rfl⟩

set_option maxHeartbeats 1000000 in
theorem order_go (sc : Bool) (nd t1 t2 r1 r2 : Int) (w : World) (h1 : 0 ≤ t1) (h2 : t1 ≤ 8796093022207) (g1 : 0 ≤ t2) (g2 : t2 ≤ 8796093022207) (h3 : 0 ≤ nd) (h4 : nd ≤ 31) (H5 : Hid (nd = 0 ∨ sc = true))
    (h5 : 0 ≤ r1) (h6 : r1 < top sc) (g5 : 0 ≤ r2) (g6 : r2 < top sc) (A B : Int) (HA : Hid (A = idOf sc t1 r1 nd)) (HB : Hid (B = idOf sc t2 r2 nd)) (ha1 : t1 * 1048576 ≤ A) (ha2 : A < t1 * 1048576 + 1048576) (hb1 : t2 * 1048576 ≤ B) (hb2 : B < t2 * 1048576 + 1048576)
    (HL : Hid (A < B ↔ t1 < t2 ∨ t1 = t2 ∧ r1 < r2)) (HE : Hid (A = B ↔ t1 = t2 ∧ r1 = r2)) :
    Calls Tryf.prog 3 #[.bool sc, .int .u8 nd, .int .i64 t1, .int .i64 t2, .int .u32 r1, .int .u32 r2] w fun e w' => e = .returned (.bool true) ∧ Below w.heap.size w w' := by
  have hw1 : r1 < (if sc then 32768 else 1048576) := h6
  have hw2 : r2 < (if sc then 32768 else 1048576) := g6
  cases sc
  · simp at hw1 hw2
    go_enter Tryf.func3, Tryf.ntmps3
    go_wp2_with (first
      | (go_at_call 6; refine (valid_yes _ _ _ h3 h4 H5.out).mono ?_; rintro e w ⟨rfl, rfl⟩)
      | (go_at_call 7; refine (zzW _ _).mono ?_; rintro e w3 ⟨rfl, rfl⟩)
      | (go_at_call 8; refine (newGen _ _ _ h3 h4 H5.out).mono ?_; rintro e w1 ⟨rfl, hb, hg⟩))
    refine (zzid false _ nd t1 r1 _ hg h3 h4 H5.out h1 h2 h5 h6).mono ?_
    rw [← HA.out]
    rintro e w2 ⟨rfl, n1, rfl⟩
    go_wp2_with fail
    refine (zzid false _ nd t2 r2 _ (hg.drewN n1) h3 h4 H5.out g1 g2 g5 g6).mono ?_
    rw [← HB.out]
    rintro e w2 ⟨rfl, n2, rfl⟩
    go_wp2
    all_goals
      go_ret
      refine ⟨parts_ret ?_, below_drewN hb _⟩
      have hl := HL.out
      have he := HE.out
      first | (exfalso; omega) | (rw [beq_iff_eq, Bool.eq_iff_iff]; simp only [beq_iff_eq]; omega) | (simp; omega)
  · simp at hw1 hw2
    go_enter Tryf.func3, Tryf.ntmps3
    go_wp2_with (first
      | (go_at_call 6; refine (valid_yes _ _ _ h3 h4 (.inr rfl)).mono ?_; rintro e w ⟨rfl, rfl⟩)
      | (go_at_call 7; refine (zzW _ _).mono ?_; rintro e w3 ⟨rfl, rfl⟩)
      | (go_at_call 8; refine (newGen _ _ _ h3 h4 (.inr rfl)).mono ?_; rintro e w1 ⟨rfl, hb, hg⟩))
    refine (zzid true _ nd t1 r1 _ hg h3 h4 (.inr rfl) h1 h2 h5 h6).mono ?_
    rw [← HA.out]
    rintro e w2 ⟨rfl, n1, rfl⟩
    go_wp2_with fail
    refine (zzid true _ nd t2 r2 _ (hg.drewN n1) h3 h4 (.inr rfl) g1 g2 g5 g6).mono ?_
    rw [← HB.out]
    rintro e w2 ⟨rfl, n2, rfl⟩
    go_wp2
    all_goals
      go_ret
      refine ⟨parts_ret ?_, below_drewN hb _⟩
      have hl := HL.out
      have he := HE.out
      first | (exfalso; omega) | (rw [beq_iff_eq, Bool.eq_iff_iff]; simp only [beq_iff_eq]; omega) | (simp; omega)
end Go.Proofs.Qxb6616057aFmt
