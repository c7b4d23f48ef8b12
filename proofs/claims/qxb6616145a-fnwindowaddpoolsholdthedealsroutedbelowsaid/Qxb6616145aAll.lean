import Derived.Test.Qxb6616145aMain
namespace Go.Proofs.Qxb6616145a
open Go.RowKit

set_option maxRecDepth 100000 in
set_option maxHeartbeats 4000000 in
/-- Beside the law: the deals out of the domain. -/
theorem law_out (a0 a1 a2 : Option Addr) (n0 n1 n2 c0 c1 c2 n : Nat) (w : World) (hn : n = min (min n0 n1) n2) (h4 : n0 ≤ 4096 ∧ n1 ≤ 4096 ∧ n2 ≤ 4096)
    (hzb : Calls Try.prog 4 #[.slice a0 n0 c0, .slice a1 n1 c1, .slice a2 n2 c2] w fun e w' => e = .returned (.bool true) ∧ w' = w)
    (htb : Calls Try.prog 5 #[.slice a0 n0 c0, .slice a1 n1 c1, .slice a2 n2 c2] w fun e w' => e = .returned (.bool false) ∧ w' = w)
    (hod : Calls Try.prog 6 #[.slice a1 n1 c1, .slice a2 n2 c2, .int .i64 n, .int .i64 (-1), .int .i64 3] w fun e w' => e = .returned (.bool true) ∧ w' = w) :
    Calls Try.prog 3 #[.slice a0 n0 c0, .slice a1 n1 c1, .slice a2 n2 c2] w fun e w' => e = .returned (.bool true) ∧ Fr (fun k => w.heap.size ≤ k) w w' := by
  have HN : Hid (n = min (min n0 n1) n2) := hn
  have HZB := Hid.mk' hzb
  have HTB := Hid.mk' htb
  have HOD := Hid.mk' hod
  have hn0 : n ≤ n0 ∧ n ≤ n1 ∧ n ≤ n2 := by omega
  clear hn hzb htb hod
  obtain ⟨m1, m2, m3⟩ := h4
  obtain ⟨l1, l2, l3⟩ := hn0
  go_enter Try.func3, Try.ntmps3
  go_upto_region 5 with (first
    | (go_at_call 4; refine HZB.out.mono ?_; rintro e w ⟨rfl, rfl⟩)
    | (go_at_call 5; refine HTB.out.mono ?_; rintro e w ⟨rfl, rfl⟩))
  go_cut [7] from 30 (fun s7 wc => s7 = .int .i64 n ∧ wc = w)
  case first =>
    go_wp2
    all_goals
      go_meet
      case rel =>
        refine ⟨?_, rfl⟩
        have := HN.out
        rw [this]
        congr 1
        omega
  case rest =>
    obtain ⟨rfl, rfl⟩ := hcut
    go_wp2_with (go_at_call 6; refine HOD.out.mono ?_; rintro e w ⟨rfl, rfl⟩; dsimp only)
    go_ret
    exact ⟨rfl, Fr.refl _ _⟩

set_option maxRecDepth 100000 in
set_option maxHeartbeats 4000000 in
/-- Whatever the input. -/
theorem law_all (a0 a1 a2 : Option Addr) (n0 n1 n2 c0 c1 c2 : Nat) (rel rt : Nat → Int) (ia : Nat → Option Addr) (il ic : Nat → Nat) (ms : Nat → Nat → Int) (w : World) (hI : Inp w w.heap.size a0 a1 a2 n0 n1 n2 rel rt ia il ic ms)
    (hn0 : n0 ≤ 9223372036854775807) (hn1 : n1 ≤ 9223372036854775807) (hn2 : n2 ≤ 9223372036854775807) (hil : ∀ i, i < n1 → il i ≤ 9223372036854775807) (hms : ∀ i, i < n1 → ∀ j, j < il i → -9223372036854775808 ≤ ms i j ∧ ms i j ≤ 9223372036854775807) (hrt : ∀ i, i < n2 → rt i ≤ 9223372036854775807) :
    Calls Try.prog 3 #[.slice a0 n0 c0, .slice a1 n1 c1, .slice a2 n2 c2] w fun e w' => e = .returned (.bool true) ∧ Fr (fun k => w.heap.size ≤ k) w w' := by
  have hzb := zzBytes a0 a1 a2 n0 n1 n2 c0 c1 c2 w.heap.size ia il ic w hn0 hn1 hn2 hil hI.r1
  by_cases h1 : n0 + n1 + sumTo il n1 + n2 ≤ 1048576
  · rw [decide_eq_true h1] at hzb
    have hils : ∀ i, i < n1 → il i ≤ 1048576 := fun i hi => by have := sumTo_get (f := il) hi; omega
    have htb := tooBig a0 a1 a2 n0 n1 n2 c0 c1 c2 w.heap.size ia il ic w (by omega) (by omega) (by omega) hils hI.r1
    by_cases h2 : Fits n0 n1 n2 il
    · have htb' : Calls Try.prog 5 #[.slice a0 n0 c0, .slice a1 n1 c1, .slice a2 n2 c2] w fun e w' => e = .returned (.bool false) ∧ w' = w := htb.mono (by
        rintro e w' ⟨bv, rfl, rfl, h⟩
        obtain rfl := h.2 h2
        exact ⟨rfl, rfl⟩)
      obtain ⟨f1, f2, f3, f4⟩ := h2
      obtain ⟨n, hn⟩ : ∃ n, n = min (min n0 n1) n2 := ⟨_, rfl⟩
      have hod := outOfDomain a1 a2 n1 n2 n c1 c2 w.heap.size ia il ic ms rt w (by omega) (by omega) f2 hils hI.r1 hI.ri hI.r2
      by_cases h3 : Dom n rt il ms
      · have hle : sumTo il n ≤ sumTo il n1 := sumTo_le (by omega)
        refine law_go a0 a1 a2 n0 n1 n2 c0 c1 c2 n rel rt ia il ic ms w hI hn ⟨f1, f2, f3⟩ hils (by omega) (fun i hi => hms i (by omega)) (fun j hj => ?_) (fun i hi hr j hj => ?_) hzb htb' (hod.mono ?_)
        · have h5 := h3 j hj
          have h6 := hrt j (by omega)
          exact ⟨h5.1, by have := h5.2.1; omega⟩
        · exact ⟨(h3 i hi).2.2 hr j hj, (hms i (by omega) j hj).2⟩
        · rintro e w' ⟨bv, rfl, rfl, h⟩
          obtain rfl := h.2 h3
          exact ⟨rfl, rfl⟩
      · refine law_out a0 a1 a2 n0 n1 n2 c0 c1 c2 n w hn ⟨f1, f2, f3⟩ hzb htb' (hod.mono ?_)
        rintro e w' ⟨bv, rfl, rfl, h⟩
        cases bv with
        | false => exact absurd (h.1 rfl) h3
        | true => exact ⟨rfl, rfl⟩
    · have HTB : Hid (Calls Try.prog 5 #[.slice a0 n0 c0, .slice a1 n1 c1, .slice a2 n2 c2] w fun e w' => e = .returned (.bool true) ∧ w' = w) := htb.mono (by
        rintro e w' ⟨bv, rfl, rfl, h⟩
        cases bv with
        | false => exact absurd (h.1 rfl) h2
        | true => exact ⟨rfl, rfl⟩)
      have HZB := Hid.mk' hzb
      clear hzb htb h2 hils hI hms hrt hil h1
      go_enter Try.func3, Try.ntmps3
      go_wp2_with (first
        | (go_at_call 4; refine HZB.out.mono ?_; rintro e w ⟨rfl, rfl⟩)
        | (go_at_call 5; refine HTB.out.mono ?_; rintro e w ⟨rfl, rfl⟩))
      go_ret
      exact ⟨rfl, Fr.refl _ _⟩
  · rw [decide_eq_false h1] at hzb
    have HZB := Hid.mk' hzb
    clear hzb hI hms hrt hil h1
    go_enter Try.func3, Try.ntmps3
    go_wp2_with (go_at_call 4; refine HZB.out.mono ?_; rintro e w ⟨rfl, rfl⟩)
    go_ret
    exact ⟨rfl, Fr.refl _ _⟩
end Go.Proofs.Qxb6616145a
