import Derived.Test.Qxb6616245aDoorHead
namespace Go.Proofs.Qxb6616245aDoor
open Go.RowKit

theorem Rd.mono {w : World} {B C : Nat} {a : Option Addr} {x : List UInt8} (h : Rd w B a x) (hB : B ≤ C) : Rd w C a x := by
  rcases h with h | ⟨b, o, e, hlt, hc⟩
  · exact .inl h
  · exact .inr ⟨b, o, e, by omega, hc⟩
theorem Rd.up {w w' : World} {a : Option Addr} {x : List UInt8} (h : Rd w w.heap.size a x) (fr : Fr (fun k => w.heap.size ≤ k) w w') : Rd w' w'.heap.size a x :=
  (h.fr fr (Nat.le_refl _)).mono fr.size
theorem Rd.dn {w : World} {B : Nat} {a : Option Addr} {x : List UInt8} (h : Rd w B a x) (k : Nat) : Rd (w.drewN k) B a x := h
/-- The tail behind a cut. -/
theorem Rd.tail {w : World} {B g m c : Nat} {p r : List UInt8} (h : Rd w B (some ⟨g, 0, none⟩) (p ++ r)) (hp : p.length = m) (hc : (p ++ r).length ≤ c) (ad : Option Addr) (ha : c ≠ m → ad = some ⟨g, m, none⟩) : Rd w B ad r := by
  by_cases hr : r = []
  · exact .inl hr
  · have hpos : 0 < r.length := List.length_pos_iff.2 hr
    rw [List.length_append] at hc
    have e := ha (by omega)
    rcases h with h | ⟨b, o, e', hlt, hcell⟩
    · exact absurd (List.append_eq_nil_iff.1 h).2 hr
    · cases e'
      refine .inr ⟨g, m, e, hlt, fun j hj => ?_⟩
      have := hcell (m + j) (by rw [List.length_append]; omega)
      rw [Nat.zero_add] at this
      rw [this]
      simp only [List.getD]
      rw [List.getElem?_append_right (by omega), hp, Nat.add_sub_cancel_left]
theorem Rd.head {w : World} {B : Nat} {a : Option Addr} {p r : List UInt8} (h : Rd w B a (p ++ r)) : Rd w B a p := by
  rcases h with h | ⟨b, o, e, hlt, hcell⟩
  · exact .inl (List.append_eq_nil_iff.1 h).1
  · refine .inr ⟨b, o, e, hlt, fun j hj => ?_⟩
    rw [hcell j (by rw [List.length_append]; omega)]
    simp only [List.getD]
    rw [List.getElem?_append_left hj]
theorem Rd.tail2 {w : World} {B : Nat} {a ad : Option Addr} {p r : List UInt8} {m c : Nat} (h : Rd w B a (p ++ r)) (hp : p.length = m) (hc : (p ++ r).length ≤ c) (ha : ∀ g o, a = some ⟨g, o, none⟩ → c ≠ m → ad = some ⟨g, o + m, none⟩) : Rd w B ad r := by
  by_cases hr : r = []
  · exact .inl hr
  · have hpos : 0 < r.length := List.length_pos_iff.2 hr
    rw [List.length_append] at hc
    rcases h with h | ⟨b, o, e', hlt, hcell⟩
    · exact absurd (List.append_eq_nil_iff.1 h).2 hr
    · refine .inr ⟨b, o + m, ha b o e' (by omega), hlt, fun j hj => ?_⟩
      have := hcell (m + j) (by rw [List.length_append]; omega)
      rw [← Nat.add_assoc] at this
      rw [this]
      simp only [List.getD]
      rw [List.getElem?_append_right (by omega), hp, Nat.add_sub_cancel_left]

theorem Rd.cut2 {w : World} {B g lh lp c1 : Nat} {H P Q : List UInt8} (h : Rd w B (some ⟨g, 0, none⟩) (H ++ (P ++ Q))) (hl : H.length = lh) (hp : P.length = lp) (hc : (H ++ (P ++ Q)).length ≤ c1) :
    Rd w B (if c1 - lh = lp then if c1 = lh then some ⟨g, 0, none⟩ else some ⟨g, lh, none⟩ else Option.map (fun x : Addr => x.add lp) (if c1 = lh then some ⟨g, 0, none⟩ else some ⟨g, lh, none⟩)) Q := by
  have h1 := h.tail hl hc (if c1 = lh then some ⟨g, 0, none⟩ else some ⟨g, lh, none⟩) (fun h => if_neg h)
  refine h1.tail2 (c := c1 - lh) hp (by simp only [List.length_append] at hc ⊢; omega) ?_
  intro g' o' e hne
  rw [if_neg hne, e]
  simp [Lib.addr_add]

theorem bodyTo_add (xs : Nat → List UInt8) (k : Nat) : ∀ j, bodyTo xs (k + j) = bodyTo xs k ++ bodyTo (fun i => xs (k + i)) j
  | 0 => by simp [bodyTo]
  | j + 1 => by
    show bodyTo xs (k + j) ++ encB (xs (k + j)) = _
    rw [bodyTo_add xs k j]
    simp [bodyTo]
theorem bodyTo_sum {xs : Nat → List UInt8} {n : Nat} (h : ∀ i, i < n → (xs i).length ≤ 1048576) : ∀ k, k ≤ n → (bodyTo xs k).length ≤ sumTo (fun i => 24 + (xs i).length) k + k
  | 0, _ => by simp [bodyTo]
  | k + 1, hk => by
    have h1 := bodyTo_sum h k (by omega)
    have h2 := h k (by omega)
    have h3 := digits_le (xs k).length (by omega)
    simp only [bodyTo, encB, sumTo, List.length_append, List.length_cons, List.length_nil]
    omega
theorem encA_hdr (xs : Nat → List UInt8) (n : Nat) : encA xs n = hdr n ++ bodyTo xs n := rfl

theorem Items.take {w : World} {B : Nat} {a : Option Addr} {n k : Nat} {ia : Nat → Option Addr} {ic : Nat → Nat} {xs : Nat → List UInt8} (h : Items w B a n ia ic xs) (hk : k ≤ n) : Items w B a k ia ic xs := by
  refine ⟨?_, fun i hi => h.cap i (by omega), fun i hi => h.small i (by omega), fun i hi => h.rd i (by omega)⟩
  rcases h.hdr with h0 | ⟨b, o, e, hlt, hc⟩
  · exact .inl (by omega)
  · exact .inr ⟨b, o, e, hlt, fun i hi => hc i (by omega)⟩
theorem Items.drop {w : World} {B : Nat} {a : Option Addr} {n k c : Nat} {ia : Nat → Option Addr} {ic : Nat → Nat} {xs : Nat → List UInt8} (h : Items w B a n ia ic xs) (hk : k ≤ n) (hc : n ≤ c) (ad : Option Addr) (ha : ∀ b o, a = some ⟨b, o, none⟩ → c ≠ k → ad = some ⟨b, o + k, none⟩) :
    Items w B ad (n - k) (fun i => ia (k + i)) (fun i => ic (k + i)) (fun i => xs (k + i)) := by
  refine ⟨?_, fun i hi => h.cap _ (by omega), fun i hi => h.small _ (by omega), fun i hi => h.rd _ (by omega)⟩
  by_cases h0 : n - k = 0
  · exact .inl h0
  · rcases h.hdr with h1 | ⟨b, o, e, hlt, hcell⟩
    · omega
    · refine .inr ⟨b, o + k, ha b o e (by omega), hlt, fun i hi => ?_⟩
      rw [Nat.add_assoc]
      exact hcell (k + i) (by omega)

theorem Items.up {w w' : World} {a : Option Addr} {n : Nat} {ia : Nat → Option Addr} {ic : Nat → Nat} {xs : Nat → List UInt8} (h : Items w w.heap.size a n ia ic xs) (fr : Fr (fun k => w.heap.size ≤ k) w w') : Items w' w'.heap.size a n ia ic xs := by
  have h2 := h.fr fr (Nat.le_refl _)
  refine ⟨?_, h2.cap, h2.small, fun i hi => (h2.rd i hi).mono fr.size⟩
  rcases h2.hdr with h0 | ⟨b, o, e, hlt, hc⟩
  · exact .inl h0
  · exact .inr ⟨b, o, e, Nat.lt_of_lt_of_le hlt fr.size, hc⟩

theorem gc {f N : Nat} {args : Array Value} {w : World} {x : List UInt8} (h : Calls Tryd.prog f args w fun e w' => ∃ v, e = .returned v ∧ Got w w' v x) (hN : x.length = N) :
    Calls Tryd.prog f args w fun e w' => ∃ g c, e = .returned (.slice (some ⟨g, 0, none⟩) N c) ∧ N ≤ c ∧ Hid (Rd w' w'.heap.size (some ⟨g, 0, none⟩) x) ∧ Hid (Fr (fun k => w.heap.size ≤ k) w w') := by
  refine h.mono ?_
  rintro e w' ⟨v, rfl, g, c, rfl, h1, h2, h3⟩
  exact ⟨g, c, by rw [hN], by omega, h2, h3⟩

set_option maxRecDepth 4000 in
set_option maxHeartbeats 800000 in
theorem law_main (a : Option Addr) (n c k : Nat) (ia : Nat → Option Addr) (ic : Nat → Nat) (xs : Nat → List UInt8) (w : World) (hB : 2 ≤ w.heap.size) (ht : Tab w) (hn : n ≤ 4096) (hk : k ≤ n) (hnc : n ≤ c) (hcm : c ≤ 9223372036854775807) (hI : Items w w.heap.size a n ia ic xs) (hsum : sumTo (fun i => 24 + (xs i).length) n ≤ 1048576)
    (hzb : Calls Tryd.prog 4 #[.slice a n c, .int .i64 k] w fun e w' => e = .returned (.bool true) ∧ w' = w)
    (hzs : Calls Tryd.prog 5 #[.slice a n c, .int .i64 1048576] w fun e w' => ∃ t : Int, e = .returned (.int .i64 t) ∧ w' = w ∧ t ≤ 1048576) :
    Calls Tryd.prog 3 #[.slice a n c, .int .i64 k] w fun e w' => e = .returned (.bool true) ∧ Fr (fun k => w.heap.size ≤ k) w w' := by
  have HZB : Hid (Calls Tryd.prog 4 #[.slice a n c, .int .i64 k] w fun e w' => e = .returned (.bool true) ∧ w' = w) := hzb
  have HZS : Hid (Calls Tryd.prog 5 #[.slice a n c, .int .i64 1048576] w fun e w' => ∃ t : Int, e = .returned (.int .i64 t) ∧ w' = w ∧ t ≤ 1048576) := hzs
  have HI : Hid (Items w w.heap.size a n ia ic xs) := hI
  have HT : Hid (Tab w) := ht
  have hni : (n : Int) ≤ 4096 := by omega
  have hki : (k : Int) ≤ n := by omega
  have hkk : ¬ ((n : Int) < k) := by omega
  have hkn : ¬ ((k : Int) < 0) := by omega
  -- the parts, by name
  obtain ⟨m, hm⟩ : ∃ m, k + m = n := ⟨n - k, by omega⟩
  obtain ⟨H, hH⟩ : ∃ H, hdr n = H := ⟨_, rfl⟩
  obtain ⟨H1, hH1⟩ : ∃ H, hdr k = H := ⟨_, rfl⟩
  obtain ⟨H2, hH2⟩ : ∃ H, hdr (n - k) = H := ⟨_, rfl⟩
  obtain ⟨P, hP⟩ : ∃ P, bodyTo xs k = P := ⟨_, rfl⟩
  obtain ⟨Q, hQ⟩ : ∃ Q, bodyTo (fun i => xs (k + i)) (n - k) = Q := ⟨_, rfl⟩
  have hPQ : encA xs n = H ++ (P ++ Q) := by
    rw [encA_hdr, hH, ← hP, ← hQ, show n - k = m by omega, ← hm, bodyTo_add]
  have hPE : encA xs k = H1 ++ P := by rw [encA_hdr, hH1, hP]
  have hQE : encA (fun i => xs (k + i)) (n - k) = H2 ++ Q := by rw [encA_hdr, hH2, hQ]
  obtain ⟨lh, hlh⟩ : ∃ l, H.length = l := ⟨_, rfl⟩
  obtain ⟨lh1, hlh1⟩ : ∃ l, H1.length = l := ⟨_, rfl⟩
  obtain ⟨lh2, hlh2⟩ : ∃ l, H2.length = l := ⟨_, rfl⟩
  obtain ⟨lp, hlp⟩ : ∃ l, P.length = l := ⟨_, rfl⟩
  obtain ⟨lq, hlq⟩ : ∃ l, Q.length = l := ⟨_, rfl⟩
  have hb1 : lh ≤ 30 := by
    have := digits_le n (by omega)
    rw [← hlh, ← hH]; simp only [hdr, List.length_append, List.length_cons, List.length_nil]; omega
  have hb2 : lh1 ≤ 30 := by
    have := digits_le k (by omega)
    rw [← hlh1, ← hH1]; simp only [hdr, List.length_append, List.length_cons, List.length_nil]; omega
  have hb3 : lh2 ≤ 30 := by
    have := digits_le (n - k) (by omega)
    rw [← hlh2, ← hH2]; simp only [hdr, List.length_append, List.length_cons, List.length_nil]; omega
  have hb4 : lp + lq ≤ 2000000 := by
    have h1 := bodyTo_sum hI.small n (Nat.le_refl _)
    have h2 : (bodyTo xs n).length = lp + lq := by
      rw [← hm, bodyTo_add, List.length_append, hP, hlp, show m = n - k by omega, hQ, hlq]
    omega
  have C1 : Hid (∀ W, Tab W → 2 ≤ W.heap.size → Items W W.heap.size a n ia ic xs → Calls Tryd.prog 6 #[.slice a n c] W fun e w' => ∃ g c, e = .returned (.slice (some ⟨g, 0, none⟩) (lh + (lp + lq)) c) ∧ lh + (lp + lq) ≤ c ∧ Hid (Rd w' w'.heap.size (some ⟨g, 0, none⟩) (H ++ (P ++ Q))) ∧ Hid (Fr (fun k => W.heap.size ≤ k) W w')) := fun W a1 a2 a3 => by
    have := zzArrayBytes a n c ia ic xs W a2 a1 hn a3
    rw [hPQ] at this
    exact gc this (by simp [hlh, hlp, hlq])
  have C2 : Hid (∀ W, Tab W → 2 ≤ W.heap.size → Items W W.heap.size a k ia ic xs → Calls Tryd.prog 6 #[.slice a k c] W fun e w' => ∃ g c, e = .returned (.slice (some ⟨g, 0, none⟩) (lh1 + lp) c) ∧ lh1 + lp ≤ c ∧ Hid (Rd w' w'.heap.size (some ⟨g, 0, none⟩) (H1 ++ P)) ∧ Hid (Fr (fun k => W.heap.size ≤ k) W w')) := fun W a1 a2 a3 => by
    have := zzArrayBytes a k c ia ic xs W a2 a1 (by omega) a3
    rw [hPE] at this
    exact gc this (by simp [hlh1, hlp])
  have C3 : Hid (∀ W ad, Tab W → 2 ≤ W.heap.size → Items W W.heap.size ad (n - k) (fun i => ia (k + i)) (fun i => ic (k + i)) (fun i => xs (k + i)) → Calls Tryd.prog 6 #[.slice ad (n - k) (c - k)] W fun e w' => ∃ g c, e = .returned (.slice (some ⟨g, 0, none⟩) (lh2 + lq) c) ∧ lh2 + lq ≤ c ∧ Hid (Rd w' w'.heap.size (some ⟨g, 0, none⟩) (H2 ++ Q)) ∧ Hid (Fr (fun k => W.heap.size ≤ k) W w')) := fun W ad a1 a2 a3 => by
    have := zzArrayBytes ad (n - k) (c - k) _ _ _ W a2 a1 (by omega) a3
    rw [hQE] at this
    exact gc this (by simp [hlh2, hlq])
  have C4 : Hid (∀ W, Calls Tryd.prog 7 #[.int .i64 n] W fun e w' => ∃ g c, e = .returned (.slice (some ⟨g, 0, none⟩) lh c) ∧ lh ≤ c ∧ Hid (Rd w' w'.heap.size (some ⟨g, 0, none⟩) H) ∧ Hid (Fr (fun k => W.heap.size ≤ k) W w')) := fun W => by
    have := zzHeader n hn W
    rw [hH] at this
    exact gc this hlh
  have C5 : Hid (∀ W, Calls Tryd.prog 7 #[.int .i64 k] W fun e w' => ∃ g c, e = .returned (.slice (some ⟨g, 0, none⟩) lh1 c) ∧ lh1 ≤ c ∧ Hid (Rd w' w'.heap.size (some ⟨g, 0, none⟩) H1) ∧ Hid (Fr (fun k => W.heap.size ≤ k) W w')) := fun W => by
    have := zzHeader k (by omega) W
    rw [hH1] at this
    exact gc this hlh1
  have C6 : Hid (∀ W, Calls Tryd.prog 7 #[.int .i64 ((n : Int) - k)] W fun e w' => ∃ g c, e = .returned (.slice (some ⟨g, 0, none⟩) lh2 c) ∧ lh2 ≤ c ∧ Hid (Rd w' w'.heap.size (some ⟨g, 0, none⟩) H2) ∧ Hid (Fr (fun k => W.heap.size ≤ k) W w')) := fun W => by
    have := zzHeader (n - k) (by omega) W
    rw [hH2, show ((n - k : Nat) : Int) = (n : Int) - k by omega] at this
    exact gc this hlh2
  have HL : Hid (H.length = lh ∧ H1.length = lh1 ∧ H2.length = lh2 ∧ P.length = lp ∧ Q.length = lq) := ⟨hlh, hlh1, hlh2, hlp, hlq⟩
  clear hzb hzs hI ht hsum hm hH hH1 hH2 hP hQ hPQ hPE hQE hlh hlh1 hlh2 hlp hlq
  go_enter Tryd.func3, Tryd.ntmps3
  go_wp2_with (first
    | (go_at_call 4; refine HZB.out.mono ?_; rintro e w ⟨rfl, rfl⟩)
    | (go_at_call 5; refine HZS.out.mono ?_; rintro e w ⟨t, rfl, rfl, ht'⟩)
    | (go_at_call 6
       refine (C3.out w2 _ HT2.out hs2 (HI2.out.drop hk hnc _ (fun b' o' e h => by rw [if_neg h, e]; simp [Lib.addr_add]))).mono ?_
       rintro e w3 ⟨g3, c3, rfl, hc3, HR3, HF3⟩)
    | (go_at_call 6
       refine (C2.out w1 HT1.out hs1 (HI1.out.take hk)).mono ?_
       rintro e w2 ⟨g2, c2, rfl, hc2, HR2, HF2⟩
       have HT2 : Hid (Tab w2) := HT1.out.fr2 HF2.out hs1 hs1
       have hs2 : 2 ≤ w2.heap.size := Nat.le_trans hs1 HF2.out.size
       have HI2 : Hid (Items w2 w2.heap.size a n ia ic xs) := HI1.out.up HF2.out)
    | (go_at_call 6
       refine (C1.out w HT.out hB HI.out).mono ?_
       rintro e w1 ⟨g1, c1, rfl, hc1, HR1, HF1⟩
       have HT1 : Hid (Tab w1) := HT.out.fr2 HF1.out hB hB
       have hs1 : 2 ≤ w1.heap.size := Nat.le_trans hB HF1.out.size
       have HI1 : Hid (Items w1 w1.heap.size a n ia ic xs) := HI.out.up HF1.out)
    | (go_at_call 7
       refine (C6.out w5).mono ?_
       rintro e w6 ⟨g6, c6, rfl, hc6, HR6, HF6⟩
       have R1 : Hid (Rd w6 w6.heap.size (some ⟨g1, 0, none⟩) (H ++ (P ++ Q))) := ((((HR1.out.up HF2.out).up HF3.out).up HF4.out).up HF5.out).up HF6.out
       have R2 : Hid (Rd w6 w6.heap.size (some ⟨g2, 0, none⟩) (H1 ++ P)) := (((HR2.out.up HF3.out).up HF4.out).up HF5.out).up HF6.out
       have R3 : Hid (Rd w6 w6.heap.size (some ⟨g3, 0, none⟩) (H2 ++ Q)) := ((HR3.out.up HF4.out).up HF5.out).up HF6.out
       have R4 : Hid (Rd w6 w6.heap.size (some ⟨g4, 0, none⟩) H) := (HR4.out.up HF5.out).up HF6.out
       have R5 : Hid (Rd w6 w6.heap.size (some ⟨g5, 0, none⟩) H1) := HR5.out.up HF6.out)
    | (go_at_call 7
       refine (C5.out w4).mono ?_
       rintro e w5 ⟨g5, c5, rfl, hc5, HR5, HF5⟩)
    | (go_at_call 7
       refine (C4.out w3).mono ?_
       rintro e w4 ⟨g4, c4, rfl, hc4, HR4, HF4⟩)
    | (go_at_call 8
       have hk2 := k2
       clear hk2
       refine (prefix_yes (some ⟨g3, 0, none⟩) (some ⟨g6, 0, none⟩) (lh2 + lq) c3 lh2 c6 w6.heap.size H2 Q _ HL.out.2.2.1 (by have := HL.out; simp; omega) (by omega) hc3 ?_ ?_).mono ?_
       first | exact R3.out | exact R3.out.dn _
       first | exact HR6.out | exact HR6.out.dn _
       rintro e w' ⟨rfl, k3, rfl⟩)
    | (go_at_call 8
       have hk1 := k1
       clear hk1
       refine (prefix_yes (some ⟨g2, 0, none⟩) (some ⟨g5, 0, none⟩) (lh1 + lp) c2 lh1 c5 w6.heap.size H1 P _ HL.out.2.1 (by have := HL.out; simp; omega) (by omega) hc2 ?_ ?_).mono ?_
       first | exact R2.out | exact R2.out.dn _
       first | exact R5.out | exact R5.out.dn _
       rintro e w' ⟨rfl, k2, rfl⟩)
    | (go_at_call 8
       refine (prefix_yes (some ⟨g1, 0, none⟩) (some ⟨g4, 0, none⟩) (lh + (lp + lq)) c1 lh c4 w6.heap.size H (P ++ Q) _ HL.out.1 (by have := HL.out; simp; omega) (by omega) hc1 ?_ ?_).mono ?_
       first | exact R1.out | exact R1.out.dn _
       first | exact R4.out | exact R4.out.dn _
       rintro e w' ⟨rfl, k1, rfl⟩)
    | (go_at_call 9
       have hk4 := k4
       clear hk4
       refine (eq_same _ _ lq _ _ w6.heap.size Q _ HL.out.2.2.2.2 (by omega) ?_ ?_).mono ?_
       exact (R1.out.dn _).cut2 HL.out.1 HL.out.2.2.2.1 (by have := HL.out; simp; omega)
       exact (R3.out.dn _).tail HL.out.2.2.1 (by have := HL.out; simp; omega) _ (fun h => if_neg h)
       rintro e w' ⟨rfl, k5, rfl⟩)
    | (go_at_call 9
       refine (eq_same _ _ lp _ _ w6.heap.size P _ HL.out.2.2.2.1 (by omega) ?_ ?_).mono ?_
       exact (((R1.out.dn _).tail HL.out.1 (by have := HL.out; simp; omega) _ (fun h => if_neg h))).head
       exact (R2.out.dn _).tail HL.out.2.1 (by have := HL.out; simp; omega) _ (fun h => if_neg h)
       rintro e w' ⟨rfl, k4, rfl⟩))
  all_goals
    go_ret
    refine ⟨rfl, ?_⟩
    have hF : Fr (fun k => w.heap.size ≤ k) w w6 := ((((HF1.out.trans HF2.out (fun i hi e => Nat.le_trans HF1.out.size e)).trans HF3.out (fun i hi e => by have := HF1.out.size; have := HF2.out.size; omega)).trans HF4.out (fun i hi e => by have := HF1.out.size; have := HF2.out.size; have := HF3.out.size; omega)).trans HF5.out (fun i hi e => by have := HF1.out.size; have := HF2.out.size; have := HF3.out.size; have := HF4.out.size; omega)).trans HF6.out (fun i hi e => by have := HF1.out.size; have := HF2.out.size; have := HF3.out.size; have := HF4.out.size; have := HF5.out.size; omega)
    exact hF.drewN _
end Go.Proofs.Qxb6616245aDoor
