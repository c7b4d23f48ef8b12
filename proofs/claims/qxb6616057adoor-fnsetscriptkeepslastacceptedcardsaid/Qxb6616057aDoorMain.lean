import Derived.Test.Qxb6616057aDoorWalks
namespace Go.Proofs.Qxb6616057aDoor
open Go.RowKit

theorem ret_bool {a b : Bool} (h : a = b) : Ending.returned (.bool a) = .returned (.bool b) := by rw [h]

/-- Too long in all. -/
theorem main_long (s : Int) (a1 a2 : Option Addr) (n c1 m c2 : Nat) (w : World) (hn : n ≤ maxLen) (hm : m ≤ maxLen) (h : ¬ n + m ≤ 1048576) :
    Calls Tryd.prog 3 #[.int .i64 s, .slice a1 n c1, .slice a2 m c2] w fun e w' => e = .returned (.bool true) ∧ w' = w := by
  go_enter Tryd.func3, Tryd.ntmps3
  go_wp2_with (go_at_call 4; refine (bytes_no _ _ _ _ _ _ _ _ hn hm h).mono ?_; rintro e w' ⟨rfl, rfl⟩)
  go_ret
  exact ⟨rfl, rfl⟩

theorem main_wide (s : Int) (a1 a2 : Option Addr) (n c1 m c2 : Nat) (w : World) (h : n + m ≤ 1048576) (h2 : 65536 < n) :
    Calls Tryd.prog 3 #[.int .i64 s, .slice a1 n c1, .slice a2 m c2] w fun e w' => e = .returned (.bool true) ∧ w' = w := by
  go_enter Tryd.func3, Tryd.ntmps3
  go_wp2_with (go_at_call 4; refine (bytes_yes _ _ _ _ _ _ _ _ h).mono ?_; rintro e w' ⟨rfl, rfl⟩)
  go_ret
  exact ⟨rfl, rfl⟩

theorem main_bytes (s : Int) (a1 a2 : Option Addr) (n c1 m c2 : Nat) (w : World) (h : n + m ≤ 1048576) (h2 : ¬ 65536 < n) (h3 : 1048576 < n * 8 + m) :
    Calls Tryd.prog 3 #[.int .i64 s, .slice a1 n c1, .slice a2 m c2] w fun e w' => e = .returned (.bool true) ∧ w' = w := by
  go_enter Tryd.func3, Tryd.ntmps3
  go_wp2_with (go_at_call 4; refine (bytes_yes _ _ _ _ _ _ _ _ h).mono ?_; rintro e w' ⟨rfl, rfl⟩)
  go_ret
  exact ⟨rfl, rfl⟩

/-- Does read k fail? -/
def fl (m : Nat) (bs : Nat → Bool) (k : Nat) : Bool := decide (k < m) && bs k
theorem fl_in {m : Nat} {bs : Nat → Bool} {k : Nat} {b : Bool} (h : k < m) (hb : bs k = b) : fl m bs k = b := by simp [fl, h, hb]
theorem fl_out {m : Nat} {bs : Nat → Bool} {k : Nat} (h : ¬ k < m) : fl m bs k = false := by simp [fl, h]

set_option maxHeartbeats 1000000 in
theorem main_go (s : Int) (a1 a2 : Option Addr) (n c1 m c2 : Nat) (rd : Nat → Int) (bs : Nat → Bool) (t : TypeId) (q : Addr) (w : World) (h3 : n * 8 + m ≤ 1048576) (h2 : n ≤ 65536)
    (hg : w.cell? ⟨0, 0, none⟩ = some (.iface t (.pointer (some q)))) (h0 : 0 < w.heap.size)
    (HR : Hid (∀ k, k < n → ∃ b off, a1 = some ⟨b, off, none⟩ ∧ b < w.heap.size ∧ w.cell? ⟨b, off + k, none⟩ = some (.int .i64 (rd k))))
    (HB : Hid (∀ k, k < m → ∃ b off, a2 = some ⟨b, off, none⟩ ∧ b < w.heap.size ∧ w.cell? ⟨b, off + k, none⟩ = some (.bool (bs k)))) :
    Calls Tryd.prog 3 #[.int .i64 s, .slice a1 n c1, .slice a2 m c2] w fun e w' => e = .returned (.bool true) ∧ Below w.heap.size w w' := by
  have h : n + m ≤ 1048576 := by omega
  go_enter Tryd.func3, Tryd.ntmps3
  go_wp2_with (go_at_call 4; refine (bytes_yes _ _ _ _ _ _ _ _ h).mono ?_; rintro e w ⟨rfl, rfl⟩)
  go_loopw [8] (fun i wr => ∃ k : Nat, k ≤ n ∧ i = .int .i64 k ∧ wr.cell? ⟨w.heap.size, 0, none⟩ = some (.int .i64 (acc s rd (fl m bs) k)) ∧ wr.frozen? ⟨w.heap.size, 0, none⟩ = false ∧ Below w.heap.size w wr ∧ w.heap.size < wr.heap.size)
    (fun i _ => n - (intOf i).toNat)
  case atStart => exact ⟨0, Nat.zero_le _, rfl, by simp [acc], by simp, (Below.refl _ _).alloc (Nat.le_refl _) _, by simp⟩
  case round =>
    obtain ⟨k, hk, rfl, hx, hf, hbel, hsz⟩ := hrel
    have hgr : wr.cell? ⟨0, 0, none⟩ = some (.iface t (.pointer (some q))) := (hbel.cell h0).trans hg
    have nexW : ∀ v : Value, (wr.setCell ⟨w.heap.size, 0, none⟩ v).heap.size = wr.heap.size := fun v => by simp [World.setCell]
    by_cases hlt : k < n
    · obtain ⟨b1, o1, rfl, hb1, hc1⟩ := HR.out k hlt
      have hc1' : wr.cell? ⟨b1, o1 + k, none⟩ = some (.int .i64 (rd k)) := (hbel.cell hb1).trans hc1
      clear hc1
      by_cases hkm : k < m
      · obtain ⟨b2, o2, rfl, hb2, hc2⟩ := HB.out k hkm
        have hc2' : wr.cell? ⟨b2, o2 + k, none⟩ = some (.bool (bs k)) := (hbel.cell hb2).trans hc2
        clear hc2
        cases hbk : bs k with
        | true =>
          rw [hbk] at hc2'
          have HA : Hid (acc s rd (fl m bs) (k + 1) = acc s rd (fl m bs) k) := acc_yes (fl_in hkm hbk)
          clear hbk
          go_wp2_with (go_at_call 5; refine (setErr _ _ _ _ _ hgr).mono ?_; rintro e wr ⟨rfl, rfl⟩)
          go_roundw
          case rel => exact ⟨k + 1, by omega, by go_num, by rw [HA.out]; exact hx, hf, hbel, hsz⟩
          case measure => simp [intOf]; omega
        | false =>
          rw [hbk] at hc2'
          have HA : Hid (acc s rd (fl m bs) (k + 1) = rd k) := acc_no (fl_in hkm hbk)
          clear hbk
          go_wp2_with (go_at_call 6; refine (setOK _ _ _ _ hx hf).mono ?_; rintro e w' ⟨rfl, rfl⟩)
          go_roundw
          case rel => exact ⟨k + 1, by omega, by go_num, by rw [HA.out]; exact World.cell?_setCell_same _ _ _ hx, by simp [hf], hbel.setCell (Nat.le_refl _) _, by rw [nexW]; exact hsz⟩
          case measure => simp [intOf]; omega
      · have HA : Hid (acc s rd (fl m bs) (k + 1) = rd k) := acc_no (fl_out hkm)
        go_wp2_with (go_at_call 6; refine (setOK _ _ _ _ hx hf).mono ?_; rintro e w' ⟨rfl, rfl⟩)
        go_roundw
        case rel => exact ⟨k + 1, by omega, by go_num, by rw [HA.out]; exact World.cell?_setCell_same _ _ _ hx, by simp [hf], hbel.setCell (Nat.le_refl _) _, by rw [nexW]; exact hsz⟩
        case measure => simp [intOf]; omega
    · obtain rfl : k = n := by omega
      go_wp2
      go_loop [11, 12] (fun a i => ∃ j : Nat, j ≤ k ∧ i = .int .i64 ((j : Int) - 1) ∧ a = .int .i64 s ∧ Hid (∀ l, j ≤ l → l < k → fl m bs l = true)) (fun _ i => (intOf i + 1).toNat)
      case atStart => exact ⟨k, Nat.le_refl _, rfl, rfl, fun l h1 h2 => absurd h1 (by omega)⟩
      case round =>
        obtain ⟨j, hj, rfl, rfl, HL⟩ := hrel
        cases j with
        | zero =>
          have HA : Hid (acc s rd (fl m bs) k = s) := acc_same (Nat.zero_le _) HL.out
          go_wp2
          go_ret
          exact ⟨ret_bool (by rw [HA.out]; simp), hbel⟩
        | succ j =>
          have e1 : (((j + 1 : Nat) : Int) - 1) = (j : Int) := by omega
          rw [e1]
          clear e1
          obtain ⟨b1, o1, rfl, hb1, hc1⟩ := HR.out j (by omega)
          have hc1' : wr.cell? ⟨b1, o1 + j, none⟩ = some (.int .i64 (rd j)) := (hbel.cell hb1).trans hc1
          clear hc1
          by_cases hjm : j < m
          · obtain ⟨b2, o2, rfl, hb2, hc2⟩ := HB.out j hjm
            have hc2' : wr.cell? ⟨b2, o2 + j, none⟩ = some (.bool (bs j)) := (hbel.cell hb2).trans hc2
            clear hc2
            cases hbk : bs j with
            | true =>
              rw [hbk] at hc2'
              have HN : Hid (∀ l, j ≤ l → l < k → fl m bs l = true) := fun l h1 h2 => by
                rcases Nat.lt_or_ge j l with h5 | h5
                · exact HL.out l h5 h2
                · obtain rfl : l = j := by omega
                  exact fl_in hjm hbk
              clear hbk
              go_wp2
              go_round
              case rel => exact ⟨j, by omega, by go_num, rfl, HN⟩
              case measure => simp [intOf]
            | false =>
              rw [hbk] at hc2'
              have HA : Hid (acc s rd (fl m bs) k = rd j) := (acc_same hj HL.out).trans (acc_no (fl_in hjm hbk))
              clear hbk
              go_wp2
              go_ret
              exact ⟨ret_bool (by rw [HA.out]; simp), hbel⟩
          · have HA : Hid (acc s rd (fl m bs) k = rd j) := (acc_same hj HL.out).trans (acc_no (fl_out hjm))
            go_wp2
            go_ret
            exact ⟨ret_bool (by rw [HA.out]; simp), hbel⟩
end Go.Proofs.Qxb6616057aDoor
