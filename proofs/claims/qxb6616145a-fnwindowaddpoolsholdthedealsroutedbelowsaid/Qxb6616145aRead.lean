import Derived.Test.Qxb6616145aWin
namespace Go.Proofs.Qxb6616145a
open Go.RowKit

theorem newWindow (w : World) : Calls Try.prog 9 #[] w fun e w' => e = .returned (.pointer (some ⟨w.heap.size, 0, none⟩)) ∧ w' = w.alloc (.cells #[.slice none 0 0, .slice none 0 0, .slice none 0 0, .slice none 0 0] 64) := by
  go_enter Try.func9, Try.ntmps9
  go_wp2
  go_ret
  exact ⟨rfl, rfl⟩
theorem win_start (w : World) (B : Nat) : WinOk (w.alloc (.cells #[.slice none 0 0, .slice none 0 0, .slice none 0 0, .slice none 0 0] 64)) B w.heap.size (fun _ => .slice none 0 0) (fun _ => []) :=
  ⟨blockTop _ _ _ rfl, fun _ _ => ⟨⟨by simp [ptrs], .inl ⟨rfl, rfl⟩⟩, (fun g hg => by cases hg), List.Pairwise.nil⟩, fun _ _ _ _ _ k hk => by
    rcases hk with hk | ⟨g, hg, _⟩
    · cases hk
    · cases hg⟩

theorem windowAdd (wb U B db : Nat) (pvs : Nat → Value) (gss : Nat → List Grp) (rel rt : Int) (n : Nat) (f : Nat → Int) (w : World) (h : WinOk w B wb pvs gss) (hD : Deal w U db rel n f) (hUB : U ≤ B) (hUw : U ≤ wb) (hBw : B ≤ w.heap.size) (hn : n ≤ 1048576)
    (hrt : -1 ≤ rt ∧ rt < 9223372036854775807) (hf : rt < 3 → ∀ j, j < n → 0 ≤ f j ∧ f j ≤ 9223372036854775807) (hs : Small (St gss) 4095) :
    Calls Try.prog 10 #[.pointer (some ⟨wb, 0, none⟩), .pointer (some ⟨db, 0, none⟩), .int .i64 rt] w fun e w' => e = .returned (.tuple #[]) ∧ ∃ pvs' gss', WinOk w' B wb pvs' gss' ∧ (∀ b, b < 4 → St gss' b = pushTo rt (maskTo f n) rel db ((List.range n).map f) (St gss) 4 b) ∧ Fr (fun k => U ≤ k) w w' := by
  have HC := Hid.mk' (add wb U B db pvs gss rel rt n f w h hD hUB hUw hBw hn hrt hf hs)
  clear h hD hs hf
  go_enter Try.func10, Try.ntmps10
  go_wp2_with (go_at_call 18; refine HC.out.mono ?_; rintro e w' ⟨rfl, hq⟩; have HQ := Hid.mk' hq; clear hq)
  go_end0
  exact ⟨rfl, HQ.out⟩
theorem windowAddNil (db : Nat) (r : Int) (w : World) : Calls Try.prog 10 #[.pointer none, .pointer (some ⟨db, 0, none⟩), .int .i64 r] w fun e w' => e = .returned (.tuple #[]) ∧ w' = w := by
  go_enter Try.func10, Try.ntmps10
  go_wp2_with (go_at_call 18; refine (addNil db r w).mono ?_; rintro e w ⟨rfl, rfl⟩)
  go_end0
  exact ⟨rfl, rfl⟩

/-- A group, as it is read through the window. -/
theorem WinOk.at {w : World} {B wb : Nat} {pvs : Nat → Value} {gss : Nat → List Grp} (h : WinOk w B wb pvs gss) {b : Nat} (hb : b < 4) :
    ∃ pa c, w.cell? ⟨wb, b, none⟩ = some (.slice pa (gss b).length c) ∧ (gss b).length ≤ c ∧ ∀ g, g < (gss b).length → ∃ pb, pa = some ⟨pb, 0, none⟩ ∧ w.cell? ⟨pb, g, none⟩ = some (.pointer (some ⟨(gat (gss b) g).blk, 0, none⟩)) ∧ GrpOk w B (gat (gss b) g) := by
  obtain ⟨pa, c, hv, h1, h2, h3⟩ := (h.pool b hb).read
  refine ⟨pa, c, ?_, h1, fun g hg => ?_⟩
  · rw [cell_heap h.blk, win_get hb, hv]
  · rcases h3 with h0 | ⟨pb, rfl, hc⟩
    · omega
    · exact ⟨pb, rfl, hc g hg, (h.pool b hb).grp _ (gat_mem hg)⟩

theorem poolGroups (wb B b : Nat) (pvs : Nat → Value) (gss : Nat → List Grp) (w : World) (h : WinOk w B wb pvs gss) (hb : b < 4) :
    Calls Try.prog 11 #[.pointer (some ⟨wb, 0, none⟩), .int .i64 b] w fun e w' => e = .returned (.int .i64 ((gss b).length : Nat)) ∧ w' = w := by
  obtain ⟨pa, c, hc, _⟩ := h.at hb
  have hbi : (b : Int) < 4 := by omega
  clear h
  go_enter Try.func11, Try.ntmps11
  go_wp2
  go_ret
  exact ⟨rfl, rfl⟩

theorem groupLen (wb B b g : Nat) (pvs : Nat → Value) (gss : Nat → List Grp) (w : World) (h : WinOk w B wb pvs gss) (hb : b < 4) (hg : g < (gss b).length) :
    Calls Try.prog 13 #[.pointer (some ⟨wb, 0, none⟩), .int .i64 b, .int .i64 g] w fun e w' => e = .returned (.int .i64 ((gat (gss b) g).ds.length : Nat)) ∧ w' = w := by
  obtain ⟨pa, c, hc, hle, hq⟩ := h.at hb
  obtain ⟨pb, rfl, hp, hok⟩ := hq g hg
  obtain ⟨s0, s1, s2, s3⟩ := hok.shape
  obtain ⟨da, dc, hdv⟩ : ∃ da dc, (gat (gss b) g).dv = .slice da (gat (gss b) g).ds.length dc := by
    rcases hok.deals.2 with ⟨e1, e2⟩ | ⟨x, cap, cur, e1, _⟩
    · exact ⟨none, 0, by rw [e1, e2]⟩
    · exact ⟨_, _, e1⟩
  rw [hdv] at s2
  have hbi : (b : Int) < 4 := by omega
  have hgi : (g : Int) < (gss b).length := by omega
  clear h hq hok hdv
  go_enter Try.func13, Try.ntmps13
  go_wp2
  go_ret
  exact ⟨rfl, rfl⟩
theorem groupDeal (wb B b g k : Nat) (pvs : Nat → Value) (gss : Nat → List Grp) (w : World) (h : WinOk w B wb pvs gss) (hb : b < 4) (hg : g < (gss b).length) (hk : k < (gat (gss b) g).ds.length) :
    Calls Try.prog 14 #[.pointer (some ⟨wb, 0, none⟩), .int .i64 b, .int .i64 g, .int .i64 k] w fun e w' => e = .returned (.pointer (some ⟨(gat (gss b) g).ds[k], 0, none⟩)) ∧ w' = w := by
  obtain ⟨pa, c, hc, hle, hq⟩ := h.at hb
  obtain ⟨pb, rfl, hp, hok⟩ := hq g hg
  obtain ⟨s0, s1, s2, s3⟩ := hok.shape
  obtain ⟨dg, dc, hdv, hdc⟩ : ∃ dg dc, (gat (gss b) g).dv = .slice (some ⟨dg, 0, none⟩) (gat (gss b) g).ds.length dc ∧ w.cell? ⟨dg, k, none⟩ = some (.pointer (some ⟨(gat (gss b) g).ds[k], 0, none⟩)) := by
    rcases hok.deals.2 with ⟨e1, e2⟩ | ⟨x, cap, cur, e1, e2, e3, e4, e5, e6, e7⟩
    · omega
    · refine ⟨x, cap, e1, ?_⟩
      rw [Nat.mul_one] at e7
      rw [cell_heap e3]
      have := congrArg (fun l : List Value => l[k]?) e7
      simp only [List.getElem?_take, if_pos hk, Array.getElem?_toList] at this
      rw [this]
      simp [ptrs, hk]
  rw [hdv] at s2
  have hbi : (b : Int) < 4 := by omega
  have hgi : (g : Int) < (gss b).length := by omega
  have hki : (k : Int) < (gat (gss b) g).ds.length := by omega
  clear h hq hok hdv
  go_enter Try.func14, Try.ntmps14
  go_wp2
  go_ret
  exact ⟨rfl, rfl⟩
theorem groupShape (wb B b g : Nat) (pvs : Nat → Value) (gss : Nat → List Grp) (w : World) (h : WinOk w B wb pvs gss) (hb : b < 4) (hg : g < (gss b).length) :
    Calls Try.prog 12 #[.pointer (some ⟨wb, 0, none⟩), .int .i64 b, .int .i64 g] w fun e w' => e = .returned (.tuple #[.int .u32 (gat (gss b) g).mask, .int .i64 (gat (gss b) g).rel]) ∧ Fr (fun _ => False) w w' := by
  obtain ⟨pa, c, hc, hle, hq⟩ := h.at hb
  obtain ⟨pb, rfl, hp, hok⟩ := hq g hg
  obtain ⟨s0, s1, s2, s3⟩ := hok.shape
  have hbi : (b : Int) < 4 := by omega
  have hgi : (g : Int) < (gss b).length := by omega
  clear h hq hok
  go_enter Try.func12, Try.ntmps12
  go_wp2
  go_quiet (fail)
  go_wp2
  go_ret2
  exact ⟨rfl, ((Fr.refl _ w).alloc _).drewN _⟩
theorem groupSumsLen (wb B b g : Nat) (pvs : Nat → Value) (gss : Nat → List Grp) (w : World) (h : WinOk w B wb pvs gss) (hb : b < 4) (hg : g < (gss b).length) :
    Calls Try.prog 17 #[.pointer (some ⟨wb, 0, none⟩), .int .i64 b, .int .i64 g] w fun e w' => e = .returned (.int .i64 (((lits (gat (gss b) g).ks).foldl Maps.addKey []).length : Nat)) ∧ w' = w := by
  obtain ⟨pa, c, hc, hle, hq⟩ := h.at hb
  obtain ⟨pb, rfl, hp, hok⟩ := hq g hg
  obtain ⟨s0, s1, s2, s3⟩ := hok.shape
  have hlen := hok.sums.len
  have hbi : (b : Int) < 4 := by omega
  have hgi : (g : Int) < (gss b).length := by omega
  obtain ⟨L, hL⟩ : ∃ L, ((lits (gat (gss b) g).ks).foldl Maps.addKey []).length = L := ⟨_, rfl⟩
  rw [hL] at hlen ⊢
  clear h hq hok hL
  go_enter Try.func17, Try.ntmps17
  go_wp2
  go_ret
  exact ⟨rfl, rfl⟩
theorem groupSum (wb B b g : Nat) (m : Int) (pvs : Nat → Value) (gss : Nat → List Grp) (w : World) (h : WinOk w B wb pvs gss) (hb : b < 4) (hg : g < (gss b).length) (hm : -9223372036854775808 ≤ m ∧ m ≤ 9223372036854775807) :
    Calls Try.prog 16 #[.pointer (some ⟨wb, 0, none⟩), .int .i64 b, .int .i64 g, .int .i64 m] w fun e w' => e = .returned (.tuple #[.bool ((gat (gss b) g).ks.contains m), .int .i64 0]) ∧ Fr (fun _ => False) w w' := by
  obtain ⟨pa, c, hc, hle, hq⟩ := h.at hb
  obtain ⟨pb, rfl, hp, hok⟩ := hq g hg
  obtain ⟨s0, s1, s2, s3⟩ := hok.shape
  have hlook := hok.sums.lookOk hm
  have hbi : (b : Int) < 4 := by omega
  have hgi : (g : Int) < (gss b).length := by omega
  obtain ⟨L, hL⟩ : ∃ L, (gat (gss b) g).ks.contains m = L := ⟨_, rfl⟩
  rw [hL] at hlook ⊢
  unfold D0 at hlook
  clear h hq hok hL
  go_enter Try.func16, Try.ntmps16
  go_wp2_with (go_at_call 19; refine (sign0 _).mono ?_; rintro e w' ⟨rfl, hfr⟩; have HFR : Hid (Fr (fun _ => False) (w.alloc (.cells #[.int .i64 0, .pointer none] 55)) w') := hfr; clear hfr)
  go_ret2
  exact ⟨rfl, ((Fr.refl _ w).alloc _).trans HFR.out (fun _ _ e => e)⟩
end Go.Proofs.Qxb6616145a
