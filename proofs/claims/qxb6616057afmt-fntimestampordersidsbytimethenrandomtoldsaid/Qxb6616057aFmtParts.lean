import Derived.Test.Qxb6616057aFmtWalks
namespace Go.Proofs.Qxb6616057aFmt
open Go.RowKit

theorem parts_ret {a b : Bool} (h : a = b) : Ending.returned (.bool a) = .returned (.bool b) := by rw [h]

theorem parts_ts (sc : Bool) (nd ts r : Int) (w : World) (h : ts < 0 ∨ 8796093022207 < ts) :
    Calls Tryf.prog 4 #[.bool sc, .int .u8 nd, .int .i64 ts, .int .u32 r] w fun e w' => e = .returned (.bool true) ∧ w' = w := by
  rcases h with h | h
  · go_enter Tryf.func4, Tryf.ntmps4
    go_wp2
    go_ret
    exact ⟨rfl, rfl⟩
  · have h' : ¬ ts < 0 := by omega
    go_enter Tryf.func4, Tryf.ntmps4
    go_wp2
    go_ret
    exact ⟨rfl, rfl⟩

theorem parts_big (sc : Bool) (nd ts r : Int) (w : World) (h1 : 0 ≤ ts) (h2 : ts ≤ 8796093022207) (h : 31 < nd) :
    Calls Tryf.prog 4 #[.bool sc, .int .u8 nd, .int .i64 ts, .int .u32 r] w fun e w' => e = .returned (.bool true) ∧ w' = w := by
  go_enter Tryf.func4, Tryf.ntmps4
  go_wp2_with (go_at_call 6; refine (valid_big _ _ _ h).mono ?_; rintro e w ⟨rfl, rfl⟩)
  go_ret
  exact ⟨rfl, rfl⟩

theorem parts_node (nd ts r : Int) (w : World) (h1 : 0 ≤ ts) (h2 : ts ≤ 8796093022207) (h3 : nd ≤ 31) (h4 : ¬ nd = 0) :
    Calls Tryf.prog 4 #[.bool false, .int .u8 nd, .int .i64 ts, .int .u32 r] w fun e w' => e = .returned (.bool true) ∧ w' = w := by
  have H4 : Hid _ := h4
  clear h4
  go_enter Tryf.func4, Tryf.ntmps4
  go_wp2_with (go_at_call 6; refine (valid_node _ _ h3 H4.out).mono ?_; rintro e w ⟨rfl, rfl⟩)
  go_ret
  exact ⟨rfl, rfl⟩

theorem zzW (sc : Bool) (w : World) : Calls Tryf.prog 7 #[.bool sc] w fun e w' => e = .returned (.int .i64 (if sc then 15 else 20)) ∧ w' = w := by
  cases sc
  all_goals
    go_enter Tryf.func7, Tryf.ntmps7
    go_wp2
    go_ret
    exact ⟨rfl, rfl⟩

/-- The random part is too wide: nothing is asked. -/
theorem parts_wide (sc : Bool) (nd ts r : Int) (w : World) (h1 : 0 ≤ ts) (h2 : ts ≤ 8796093022207) (h3 : 0 ≤ nd) (h4 : nd ≤ 31) (H5 : Hid (nd = 0 ∨ sc = true)) (h6 : top sc ≤ r) :
    Calls Tryf.prog 4 #[.bool sc, .int .u8 nd, .int .i64 ts, .int .u32 r] w fun e w' => e = .returned (.bool true) ∧ w' = w := by
  cases sc
  all_goals
    simp [top] at h6
    go_enter Tryf.func4, Tryf.ntmps4
    go_wp2_with (first
      | (go_at_call 6; refine (valid_yes _ _ _ h3 h4 H5.out).mono ?_; rintro e w ⟨rfl, rfl⟩)
      | (go_at_call 7; refine (zzW _ _).mono ?_; rintro e w3 ⟨rfl, rfl⟩))
    go_ret
    exact ⟨rfl, rfl⟩

theorem mask_alone (ts r : Int) (h1 : 0 ≤ ts) (h2 : ts ≤ 8796093022207) (h3 : 0 ≤ r) (h4 : r < 1048576) : bits .and .i64 (idOf false ts r 0) 1048575 = r := by
  have b := id_bounds false ts r 0 h1 h2 h3 h4 (by decide) (by decide) (.inl rfl)
  rw [i64_mask 20 _ _ (by omega) (by omega) (by decide) (by decide)]
  simp [idOf] at *
  omega
theorem node_alone (ts r : Int) (h1 : 0 ≤ ts) (h2 : ts ≤ 8796093022207) (h3 : 0 ≤ r) (h4 : r < 1048576) : bits .and .i64 (idOf false ts r 0) 0 = 0 := by
  have b := id_bounds false ts r 0 h1 h2 h3 h4 (by decide) (by decide) (.inl rfl)
  rw [i64_mask 0 _ _ (by omega) (by omega) (by decide) (by decide)]
  omega
theorem mask_scaled (ts r nd : Int) (h1 : 0 ≤ ts) (h2 : ts ≤ 8796093022207) (h3 : 0 ≤ r) (h4 : r < 32768) (h5 : 0 ≤ nd) (h6 : nd ≤ 31) : bits .and .i64 (idOf true ts r nd / 32) 32767 = r := by
  have b := id_bounds true ts r nd h1 h2 h3 h4 h5 h6 (.inr rfl)
  rw [i64_mask 15 _ _ (by omega) (by omega) (by decide) (by decide)]
  simp [idOf] at *
  omega
theorem node_scaled (ts r nd : Int) (h1 : 0 ≤ ts) (h2 : ts ≤ 8796093022207) (h3 : 0 ≤ r) (h4 : r < 32768) (h5 : 0 ≤ nd) (h6 : nd ≤ 31) : bits .and .i64 (idOf true ts r nd) 31 = nd := by
  have b := id_bounds true ts r nd h1 h2 h3 h4 h5 h6 (.inr rfl)
  rw [i64_mask 5 _ _ (by omega) (by omega) (by decide) (by decide)]
  simp [idOf] at *
  omega

set_option maxHeartbeats 400000 in
theorem parts_alone (ts r : Int) (w : World) (h1 : 0 ≤ ts) (h2 : ts ≤ 8796093022207) (h5 : 0 ≤ r) (h6 : r < 1048576) :
    Calls Tryf.prog 4 #[.bool false, .int .u8 0, .int .i64 ts, .int .u32 r] w fun e w' => e = .returned (.bool true) ∧ Below w.heap.size w w' := by
  have b1 := id_bounds false ts r 0 h1 h2 h5 h6 (by decide) (by decide) (.inl rfl)
  have HT : Hid (idOf false ts r 0 / 1048576 = ts) := id_ts false ts r 0 h1 h2 h5 h6 (by decide) (by decide) (.inl rfl)
  have HM : Hid _ := mask_alone ts r h1 h2 h5 h6
  have HN : Hid _ := node_alone ts r h1 h2 h5 h6
  go_enter Tryf.func4, Tryf.ntmps4
  go_wp2_with (first
    | (go_at_call 6; refine (valid_yes _ _ _ (by decide) (by decide) (.inl rfl)).mono ?_; rintro e w ⟨rfl, rfl⟩)
    | (go_at_call 8; refine (newGen _ _ _ (by decide) (by decide) (.inl rfl)).mono ?_; rintro e w1 ⟨rfl, hb, hg⟩)
    | (go_at_call 11; refine (zzwidth _ _ _ _ hg).mono ?_; rintro e w1 ⟨rfl, rfl⟩)
    | (go_at_call 9; refine (zzid false _ 0 ts r _ hg (by decide) (by decide) (.inl rfl) h1 h2 h5 h6).mono ?_; rintro e w2 ⟨rfl, n1, rfl⟩)
    | (go_at_call 7; refine (zzW _ _).mono ?_; rintro e w3 ⟨rfl, rfl⟩))
  go_ret
  exact ⟨parts_ret (by rw [HN.out]; simp), below_drewN hb _⟩

set_option maxHeartbeats 400000 in
theorem parts_scaled (nd ts r : Int) (w : World) (h1 : 0 ≤ ts) (h2 : ts ≤ 8796093022207) (h3 : 0 ≤ nd) (h4 : nd ≤ 31) (h5 : 0 ≤ r) (h6 : r < 32768) :
    Calls Tryf.prog 4 #[.bool true, .int .u8 nd, .int .i64 ts, .int .u32 r] w fun e w' => e = .returned (.bool true) ∧ Below w.heap.size w w' := by
  have b1 := id_bounds true ts r nd h1 h2 h5 h6 h3 h4 (.inr rfl)
  have HT : Hid (idOf true ts r nd / 1048576 = ts) := id_ts true ts r nd h1 h2 h5 h6 h3 h4 (.inr rfl)
  have HM : Hid _ := mask_scaled ts r nd h1 h2 h5 h6 h3 h4
  have HN : Hid _ := node_scaled ts r nd h1 h2 h5 h6 h3 h4
  go_enter Tryf.func4, Tryf.ntmps4
  go_wp2_with (first
    | (go_at_call 6; refine (valid_yes _ _ _ h3 h4 (.inr rfl)).mono ?_; rintro e w ⟨rfl, rfl⟩)
    | (go_at_call 8; refine (newGen _ _ _ h3 h4 (.inr rfl)).mono ?_; rintro e w1 ⟨rfl, hb, hg⟩)
    | (go_at_call 11; refine (zzwidth _ _ _ _ hg).mono ?_; rintro e w1 ⟨rfl, rfl⟩)
    | (go_at_call 9; refine (zzid true _ nd ts r _ hg h3 h4 (.inr rfl) h1 h2 h5 h6).mono ?_; rintro e w2 ⟨rfl, n1, rfl⟩)
    | (go_at_call 7; refine (zzW _ _).mono ?_; rintro e w3 ⟨rfl, rfl⟩))
  go_ret
  exact ⟨parts_ret (by rw [HN.out]; simp), below_drewN hb _⟩
end Go.Proofs.Qxb6616057aFmt
