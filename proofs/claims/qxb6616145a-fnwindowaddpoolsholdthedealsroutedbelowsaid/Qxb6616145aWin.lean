import Derived.Test.Qxb6616145aMiss
namespace Go.Proofs.Qxb6616145a
open Go.RowKit

/-- push, whatever the pool. -/
theorem push (wb b U B db : Nat) (cs : Array Value) (pv : Value) (gs : List Grp) (rel : Int) (n : Nat) (f : Nat → Int) (w : World) (hw : w.heap[wb]? = some (.cells cs 64 (0, 0))) (hcs : cs[b]? = some pv) (hP : PoolOk w B pv gs) (hD : Deal w U db rel n f) (hUB : U ≤ B) (hUw : U ≤ wb) (hBw : B ≤ w.heap.size) (hn : n ≤ 1048576)
    (hf : ∀ j, j < n → 0 ≤ f j ∧ f j ≤ 9223372036854775807) (hlg : gs.length ≤ 4096) (hlk : ∀ g ∈ gs, g.ks.length ≤ 1073741824) (hld : ∀ g ∈ gs, g.ds.length ≤ 4096) :
    Calls Try.prog 20 #[.pointer (some ⟨wb, b, none⟩), .pointer (some ⟨db, 0, none⟩)] w fun e w' => e = .returned (.tuple #[]) ∧ ∃ pv' gs', PoolOk w' B pv' gs' ∧ gs'.map Grp.abs = pushA (maskTo f n) rel db ((List.range n).map f) (gs.map Grp.abs) ∧ w'.heap[wb]? = some (.cells (cs.setIfInBounds b pv') 64 (0, 0)) ∧ (∀ k, pfoot pv' gs' k → pfoot pv gs k ∨ w.heap.size ≤ k) ∧ Fr (fun k => k = wb ∨ pfoot pv gs k) w w' := by
  by_cases hm : ∃ g ∈ gs, g.mask = maskTo f n ∧ g.rel = rel
  · obtain ⟨l1, g, l2, rfl, h1, h2⟩ := first_hit gs hm
    refine (push_hit wb b U B db cs pv l1 l2 g rel n f w hw hcs hP hD hUB hBw hn hf h1 h2 hlg (hlk g (by simp)) (hld g (by simp))).mono ?_
    rintro e w' ⟨rfl, g', q1, q2, q3, q4⟩
    refine ⟨rfl, pv, l1 ++ g' :: l2, q1, ?_, ?_, PoolOk.turn_foot q3, q4.mono (fun i _ e => .inr (.inr ⟨g, by simp, e⟩))⟩
    · simp only [List.map_append, List.map_cons]
      rw [pushA_hit _ _ _ (fun x hx => by obtain ⟨y, hy, rfl⟩ := List.mem_map.1 hx; exact h1 y hy) h2.1 h2.2, q2]
      rfl
    · rw [q4.block wb (lt_heap hw) (foot_not (hP.grp g (by simp)) hw (by decide) (by decide)), hw]
      congr 2
      apply Array.ext_getElem?
      intro i
      by_cases hi : i = b
      · subst hi
        rw [Array.getElem?_setIfInBounds_self_of_lt (Array.getElem?_eq_some_iff.1 hcs).1, hcs]
      · rw [Array.getElem?_setIfInBounds_ne (Ne.symm hi)]
  · have h1 : ∀ x ∈ gs, ¬ (x.mask = maskTo f n ∧ x.rel = rel) := fun x hx h => hm ⟨x, hx, h⟩
    refine (push_miss wb b U B db cs pv gs rel n f w hw hcs hP hD hUB hUw hBw hn hf h1 hlg).mono ?_
    rintro e w' ⟨rfl, pv', g', q1, q2, q3, q4, q5, q6⟩
    refine ⟨rfl, pv', gs ++ [g'], q1, ?_, q3, ?_, q6.mono (fun i _ e => e.imp id .inl)⟩
    · rw [pushA_miss _ (fun x hx => by obtain ⟨y, hy, rfl⟩ := List.mem_map.1 hx; exact h1 y hy), List.map_append, List.map_singleton, q2]
    · rintro k (hk | ⟨x, hx, hk⟩)
      · rcases q5 k hk with h | h
        · exact .inl (.inl h)
        · exact .inr h
      · simp only [List.mem_append, List.mem_singleton] at hx
        rcases hx with hx | rfl
        · exact .inl (.inr ⟨x, hx, hk⟩)
        · exact .inr (q4 k hk)

/-- The window: four pools, apart. -/
structure WinOk (w : World) (B wb : Nat) (pvs : Nat → Value) (gss : Nat → List Grp) : Prop where
  blk : w.heap[wb]? = some (.cells #[pvs 0, pvs 1, pvs 2, pvs 3] 64 (0, 0))
  pool : ∀ b, b < 4 → PoolOk w B (pvs b) (gss b)
  apart : ∀ b b', b < 4 → b' < 4 → b ≠ b' → ∀ k, pfoot (pvs b) (gss b) k → ¬ pfoot (pvs b') (gss b') k

def upd {α : Type} (f : Nat → α) (b : Nat) (x : α) : Nat → α := fun i => if i = b then x else f i
theorem upd_same {α : Type} (f : Nat → α) (b : Nat) (x : α) : upd f b x b = x := if_pos rfl
theorem upd_other {α : Type} (f : Nat → α) {b i : Nat} (x : α) (h : i ≠ b) : upd f b x i = f i := if_neg h

theorem WinOk.push {w w' : World} {B wb : Nat} {pvs : Nat → Value} {gss : Nat → List Grp} (h : WinOk w B wb pvs gss) {b : Nat} (hb : b < 4) {pv' : Value} {gs' : List Grp} (q1 : PoolOk w' B pv' gs') (q3 : w'.heap[wb]? = some (.cells ((#[pvs 0, pvs 1, pvs 2, pvs 3] : Array Value).setIfInBounds b pv') 64 (0, 0)))
    (q4 : ∀ k, pfoot pv' gs' k → pfoot (pvs b) (gss b) k ∨ w.heap.size ≤ k) (q5 : Fr (fun k => k = wb ∨ pfoot (pvs b) (gss b) k) w w') : WinOk w' B wb (upd pvs b pv') (upd gss b gs') := by
  have other : ∀ i, i < 4 → i ≠ b → ∀ k, pfoot (pvs i) (gss i) k → w'.heap[k]? = w.heap[k]? := fun i hi hn k hk => q5.block k (pfoot_lt (h.pool i hi) hk).1 (by
    rintro (e | e)
    · subst e
      exact pfoot_not (h.pool i hi) h.blk (by decide) (by decide) (by decide) hk
    · exact h.apart i b hi hb hn k hk e)
  have new : ∀ i, i < 4 → i ≠ b → ∀ k, pfoot (pvs i) (gss i) k → ¬ pfoot pv' gs' k := fun i hi hn k hk hk' => by
    rcases q4 k hk' with e | e
    · exact h.apart i b hi hb hn k hk e
    · have := (pfoot_lt (h.pool i hi) hk).1; omega
  refine ⟨?_, ?_, ?_⟩
  · rw [q3]
    have : b = 0 ∨ b = 1 ∨ b = 2 ∨ b = 3 := by omega
    rcases this with rfl | rfl | rfl | rfl <;> rfl
  · intro i hi
    by_cases e : i = b
    · subst e; rw [upd_same, upd_same]; exact q1
    · rw [upd_other _ _ e, upd_other _ _ e]; exact (h.pool i hi).fr (other i hi e)
  · intro i j hi hj hn k hk hk'
    by_cases e : i = b
    · subst e
      rw [upd_same, upd_same] at hk
      rw [upd_other _ _ (Ne.symm hn), upd_other _ _ (Ne.symm hn)] at hk'
      exact new j hj (Ne.symm hn) k hk' hk
    · rw [upd_other _ _ e, upd_other _ _ e] at hk
      by_cases e2 : j = b
      · subst e2
        rw [upd_same, upd_same] at hk'
        exact new i hi e k hk hk'
      · rw [upd_other _ _ e2, upd_other _ _ e2] at hk'
        exact h.apart i j hi hj hn k hk hk'

/-- What the pools hold. -/
def St (gss : Nat → List Grp) : Nat → List AG := fun b => (gss b).map Grp.abs
/-- How large they may be. -/
def Small (st : Nat → List AG) (L : Nat) : Prop := ∀ b, b < 4 → (st b).length ≤ L ∧ ∀ g ∈ st b, g.ds.length ≤ L ∧ g.ks.length ≤ 1073741824

theorem addNil (db : Nat) (r : Int) (w : World) : Calls Try.prog 18 #[.pointer none, .pointer (some ⟨db, 0, none⟩), .int .i64 r] w fun e w' => e = .returned (.tuple #[]) ∧ w' = w := by
  go_enter Try.func18, Try.ntmps18
  go_wp2
  refine bodyPost_ret (results_none rfl _ _ _) rfl ?_
  exact ⟨rfl, rfl⟩

/-- The state after the pools from rt + 1 to below t have had their deal. -/
def pushTo (rt : Int) (m r : Int) (d : Nat) (ks : List Int) (st : Nat → List AG) (t : Int) : Nat → List AG := fun b => if rt < (b : Int) ∧ (b : Int) < t then pushA m r d ks (st b) else st b

theorem win_get {pvs : Nat → Value} {b : Nat} (hb : b < 4) : (#[pvs 0, pvs 1, pvs 2, pvs 3] : Array Value)[b]? = some (pvs b) := by
  have : b = 0 ∨ b = 1 ∨ b = 2 ∨ b = 3 := by omega
  rcases this with rfl | rfl | rfl | rfl <;> rfl
theorem pushTo_same {rt m r : Int} {d b : Nat} {ks : List Int} {gss gss' : Nat → List Grp} (h : ∀ i, i < 4 → St gss' i = pushTo rt m r d ks (St gss) (b : Int) i) (hb : b < 4) : St gss' b = St gss b := by
  rw [h b hb]
  unfold pushTo
  rw [if_neg (by omega)]
theorem pushTo_step {rt m r : Int} {d b i : Nat} {ks : List Int} {gss gss' : Nat → List Grp} {gs' : List Grp} (h : ∀ i, i < 4 → St gss' i = pushTo rt m r d ks (St gss) (b : Int) i) (hq : gs'.map Grp.abs = pushA m r d ks ((gss' b).map Grp.abs)) (ht : rt + 1 ≤ (b : Int)) (hi : i < 4) (hb : b < 4) :
    St (upd gss' b gs') i = pushTo rt m r d ks (St gss) ((b : Int) + 1) i := by
  by_cases e : i = b
  · subst e
    show (upd gss' i gs' i).map Grp.abs = _
    rw [upd_same, hq]
    have := pushTo_same h hb
    unfold St at this
    rw [this]
    unfold pushTo
    rw [if_pos (by omega)]
    rfl
  · show (upd gss' b gs' i).map Grp.abs = _
    rw [upd_other _ _ e]
    have := h i hi
    unfold St at this
    rw [this]
    unfold pushTo
    by_cases h1 : rt < (i : Int) ∧ (i : Int) < b
    · rw [if_pos h1, if_pos (by omega)]
      rfl
    · rw [if_neg h1, if_neg (by omega)]
      rfl
theorem small_of {gss gss' : Nat → List Grp} {b : Nat} (h : St gss' b = St gss b) (hs : Small (St gss) 4095) (hb : b < 4) : (gss' b).length ≤ 4096 ∧ (∀ g ∈ gss' b, g.ks.length ≤ 1073741824) ∧ ∀ g ∈ gss' b, g.ds.length ≤ 4096 := by
  have h2 := hs b hb
  rw [← h] at h2
  refine ⟨?_, fun g hg => ?_, fun g hg => ?_⟩
  · have := h2.1; simp [St] at this; omega
  · exact (h2.2 g.abs (List.mem_map.2 ⟨g, hg, rfl⟩)).2
  · have := (h2.2 g.abs (List.mem_map.2 ⟨g, hg, rfl⟩)).1
    exact Nat.le_trans this (by decide)

set_option maxHeartbeats 1000000 in
theorem add (wb U B db : Nat) (pvs : Nat → Value) (gss : Nat → List Grp) (rel rt : Int) (n : Nat) (f : Nat → Int) (w : World) (h : WinOk w B wb pvs gss) (hD : Deal w U db rel n f) (hUB : U ≤ B) (hUw : U ≤ wb) (hBw : B ≤ w.heap.size) (hn : n ≤ 1048576)
    (hrt : -1 ≤ rt ∧ rt < 9223372036854775807) (hf : rt < 3 → ∀ j, j < n → 0 ≤ f j ∧ f j ≤ 9223372036854775807) (hs : Small (St gss) 4095) :
    Calls Try.prog 18 #[.pointer (some ⟨wb, 0, none⟩), .pointer (some ⟨db, 0, none⟩), .int .i64 rt] w fun e w' => e = .returned (.tuple #[]) ∧ ∃ pvs' gss', WinOk w' B wb pvs' gss' ∧ (∀ b, b < 4 → St gss' b = pushTo rt (maskTo f n) rel db ((List.range n).map f) (St gss) 4 b) ∧ Fr (fun k => U ≤ k) w w' := by
  have HW : Hid (WinOk w B wb pvs gss) := h
  have HD : Hid (Deal w U db rel n f) := hD
  have HF : Hid (rt < 3 → ∀ j, j < n → 0 ≤ f j ∧ f j ≤ 9223372036854775807) := hf
  have HS : Hid (Small (St gss) 4095) := hs
  clear h hD hf hs
  go_enter Try.func18, Try.ntmps18
  go_wp2
  go_loopg [6] 5 (fun gk i wr => ∃ (t : Int) (pvs' : Nat → Value) (gss' : Nat → List Grp), i = .int .i64 t ∧ rt + 1 ≤ t ∧ (t ≤ 4 ∨ t = rt + 1) ∧ (4 - t).toNat < gk ∧ WinOk wr B wb pvs' gss' ∧ (∀ b, b < 4 → St gss' b = pushTo rt (maskTo f n) rel db ((List.range n).map f) (St gss) t b) ∧ Fr (fun k => U ≤ k) w wr)
  case atStart =>
    refine ⟨rt + 1, pvs, gss, rfl, by omega, .inr rfl, by omega, HW.out, fun b hb => ?_, Fr.refl _ _⟩
    unfold pushTo
    rw [if_neg (by omega)]
  case round =>
    obtain ⟨t, pvs', gss', rfl, ht1, ht2, htk, hwin, hst, hfr⟩ := hrel
    have HWN : Hid (WinOk wr B wb pvs' gss') := hwin
    have HST : Hid (∀ b, b < 4 → St gss' b = pushTo rt (maskTo f n) rel db ((List.range n).map f) (St gss) t b) := hst
    have HFR : Hid (Fr (fun k => U ≤ k) w wr) := hfr
    clear hwin hst hfr
    by_cases ht : t ≤ 3
    · obtain ⟨b, rfl⟩ : ∃ b : Nat, t = b := ⟨t.toNat, by omega⟩
      have hb4 : (b : Int) < 4 := by omega
      go_wp2_with (
        go_at_call 20
        refine (push wb b U B db #[pvs' 0, pvs' 1, pvs' 2, pvs' 3] (pvs' b) (gss' b) rel n f wr HWN.out.blk (win_get (by omega)) (HWN.out.pool b (by omega)) (HD.out.fr HFR.out (by omega)) hUB hUw (Nat.le_trans hBw HFR.out.size) hn (HF.out (by omega)) ?_ ?_ ?_).mono ?_
        exact (small_of (pushTo_same HST.out (by omega)) HS.out (by omega)).1
        exact (small_of (pushTo_same HST.out (by omega)) HS.out (by omega)).2.1
        exact (small_of (pushTo_same HST.out (by omega)) HS.out (by omega)).2.2
        rintro e w7 ⟨rfl, pv', gs', q1, q2, q3, q4, q5⟩
        have HM : Hid (WinOk w7 B wb (upd pvs' b pv') (upd gss' b gs')) := HWN.out.push (by omega) q1 q3 q4 q5
        have HQ2 : Hid (gs'.map Grp.abs = pushA (maskTo f n) rel db ((List.range n).map f) ((gss' b).map Grp.abs)) := q2
        have HFQ : Hid (Fr (fun k => U ≤ k) w w7) := HFR.out.trans q5 (fun i _ e => by
          rcases e with e | e
          · show U ≤ i; omega
          · have := (pfoot_lt (HWN.out.pool b (by omega)) e).2; show U ≤ i; omega)
        clear q1 q2 q3 q4 q5)
      go_roundg (gk - 1)
      case measure => omega
      case rel =>
        refine ⟨b + 1, upd pvs' b pv', upd gss' b gs', by go_num, by omega, .inl (by omega), by omega, HM.out, fun i hi => ?_, HFQ.out⟩
        exact pushTo_step HST.out HQ2.out ht1 hi (by omega)
    · go_wp2
      go_end0
      refine ⟨rfl, pvs', gss', HWN.out, fun b hb => ?_, HFR.out⟩
      rw [HST.out b hb]
      unfold pushTo
      by_cases h1 : rt < (b : Int)
      · rw [if_pos ⟨h1, by omega⟩, if_pos ⟨h1, by omega⟩]
      · rw [if_neg (fun h => h1 h.1), if_neg (fun h => h1 h.1)]
end Go.Proofs.Qxb6616145a
