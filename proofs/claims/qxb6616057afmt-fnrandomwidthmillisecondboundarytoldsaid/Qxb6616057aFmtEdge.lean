import Derived.Test.Qxb6616057aFmtWalks
namespace Go.Proofs.Qxb6616057aFmt
open Go.RowKit

theorem ret_bool {a b : Bool} (h : a = b) : Ending.returned (.bool a) = .returned (.bool b) := by rw [h]

theorem edge_ts (sc : Bool) (nd ts : Int) (w : World) (h : ts < 0 ∨ 8796093022207 ≤ ts) :
    Calls Tryf.prog 5 #[.bool sc, .int .u8 nd, .int .i64 ts] w fun e w' => e = .returned (.bool true) ∧ w' = w := by
  rcases h with h | h
  · go_enter Tryf.func5, Tryf.ntmps5
    go_wp2
    go_ret
    exact ⟨rfl, rfl⟩
  · have h' : ¬ ts < 0 := by omega
    go_enter Tryf.func5, Tryf.ntmps5
    go_wp2
    go_ret
    exact ⟨rfl, rfl⟩

theorem edge_big (sc : Bool) (nd ts : Int) (w : World) (h1 : 0 ≤ ts) (h2 : ts < 8796093022207) (h : 31 < nd) :
    Calls Tryf.prog 5 #[.bool sc, .int .u8 nd, .int .i64 ts] w fun e w' => e = .returned (.bool true) ∧ w' = w := by
  go_enter Tryf.func5, Tryf.ntmps5
  go_wp2_with (go_at_call 6; refine (valid_big _ _ _ h).mono ?_; rintro e w ⟨rfl, rfl⟩)
  go_ret
  exact ⟨rfl, rfl⟩

theorem edge_node (nd ts : Int) (w : World) (h1 : 0 ≤ ts) (h2 : ts < 8796093022207) (h3 : nd ≤ 31) (h4 : ¬ nd = 0) :
    Calls Tryf.prog 5 #[.bool false, .int .u8 nd, .int .i64 ts] w fun e w' => e = .returned (.bool true) ∧ w' = w := by
  have H4 : Hid _ := h4
  clear h4
  go_enter Tryf.func5, Tryf.ntmps5
  go_wp2_with (go_at_call 6; refine (valid_node _ _ h3 H4.out).mono ?_; rintro e w ⟨rfl, rfl⟩)
  go_ret
  exact ⟨rfl, rfl⟩

set_option maxHeartbeats 400000 in
theorem edge_alone (ts : Int) (w : World) (h1 : 0 ≤ ts) (h2 : ts < 8796093022207) :
    Calls Tryf.prog 5 #[.bool false, .int .u8 0, .int .i64 ts] w fun e w' => e = .returned (.bool true) ∧ Below w.heap.size w w' := by
  have b1 := id_bounds false ts 1048575 0 h1 (by omega) (by decide) (by decide) (by decide) (by decide) (.inl rfl)
  have b2 := id_bounds false (ts + 1) 0 0 (by omega) (by omega) (by decide) (by decide) (by decide) (by decide) (.inl rfl)
  have HG : Hid (idOf false (ts + 1) 0 0 - idOf false ts 1048575 0 = 1) := by show _ = _; simp [idOf]; omega
  have HT : Hid (idOf false ts 1048575 0 / 1048576 = ts) := id_ts false ts 1048575 0 h1 (by omega) (by decide) (by decide) (by decide) (by decide) (.inl rfl)
  go_enter Tryf.func5, Tryf.ntmps5
  go_wp2_with (first
    | (go_at_call 6; refine (valid_yes _ _ _ (by decide) (by decide) (.inl rfl)).mono ?_; rintro e w ⟨rfl, rfl⟩)
    | (go_at_call 8; refine (newGen _ _ _ (by decide) (by decide) (.inl rfl)).mono ?_; rintro e w1 ⟨rfl, hb, hg⟩)
    | (go_at_call 11; refine (zzwidth _ _ _ _ hg).mono ?_; rintro e w1 ⟨rfl, rfl⟩))
  refine (zzid false _ 0 ts 1048575 _ hg (by decide) (by decide) (.inl rfl) h1 (by omega) (by decide) (by decide)).mono ?_
  rintro e w2 ⟨rfl, n1, rfl⟩
  go_wp2_with fail
  refine (zzid false _ 0 (ts + 1) 0 _ (hg.drewN n1) (by decide) (by decide) (.inl rfl) (by omega) (by omega) (by decide) (by decide)).mono ?_
  rintro e w2 ⟨rfl, n2, rfl⟩
  go_wp2
  go_ret
  exact ⟨ret_bool (by rw [HT.out]; simp), below_drewN hb _⟩

set_option maxHeartbeats 400000 in
theorem edge_scaled (nd ts : Int) (w : World) (h1 : 0 ≤ ts) (h2 : ts < 8796093022207) (h3 : 0 ≤ nd) (h4 : nd ≤ 31) :
    Calls Tryf.prog 5 #[.bool true, .int .u8 nd, .int .i64 ts] w fun e w' => e = .returned (.bool true) ∧ Below w.heap.size w w' := by
  have b1 := id_bounds true ts 32767 nd h1 (by omega) (by decide) (by decide) h3 h4 (.inr rfl)
  have b2 := id_bounds true (ts + 1) 0 nd (by omega) (by omega) (by decide) (by decide) h3 h4 (.inr rfl)
  have HG : Hid (idOf true (ts + 1) 0 nd - idOf true ts 32767 nd = 32) := by show _ = _; simp [idOf]; omega
  have HT : Hid (idOf true ts 32767 nd / 1048576 = ts) := id_ts true ts 32767 nd h1 (by omega) (by decide) (by decide) h3 h4 (.inr rfl)
  go_enter Tryf.func5, Tryf.ntmps5
  go_wp2_with (first
    | (go_at_call 6; refine (valid_yes _ _ _ h3 h4 (.inr rfl)).mono ?_; rintro e w ⟨rfl, rfl⟩)
    | (go_at_call 8; refine (newGen _ _ _ h3 h4 (.inr rfl)).mono ?_; rintro e w1 ⟨rfl, hb, hg⟩)
    | (go_at_call 11; refine (zzwidth _ _ _ _ hg).mono ?_; rintro e w1 ⟨rfl, rfl⟩))
  refine (zzid true _ nd ts 32767 _ hg h3 h4 (.inr rfl) h1 (by omega) (by decide) (by decide)).mono ?_
  rintro e w2 ⟨rfl, n1, rfl⟩
  go_wp2_with fail
  refine (zzid true _ nd (ts + 1) 0 _ (hg.drewN n1) h3 h4 (.inr rfl) (by omega) (by omega) (by decide) (by decide)).mono ?_
  rintro e w2 ⟨rfl, n2, rfl⟩
  go_wp2
  go_ret
  exact ⟨ret_bool (by rw [HT.out]; simp), below_drewN hb _⟩
end Go.Proofs.Qxb6616057aFmt
