import Derived.Test.Qxb6616245aDoorInt
namespace Go.Proofs.Qxb6616245aDoor
open Go.RowKit

theorem lit (W : World) (T : TypeId) (xs : List UInt8) (m : Nat) (hm : xs.length = m) : Src Tryd.prog 1 25 (.slice (some ⟨W.heap.size, 0, none⟩) m m) m (Lib.byteCells xs) (W.alloc (.cells (Lib.byteCells xs).toArray T)) := by
  subst hm
  refine Src.ofSlice _ Tryd.underlying25 _ _ _ _ (by rw [Lib.byteCells_length, Nat.mul_one]) (fun j u hj => ?_) (Lib.byteCells_one _)
  rw [Lib.addr_add, Nat.zero_add, World.cell?_alloc_new, List.getElem?_toArray]
  exact hj

theorem powGlobal : Tryd.prog.globalNamed powName = some 1 := by kernel_rfl
theorem Tab.two {w w' : World} (h : Tab w) (hb : w'.heap[1]? = w.heap[1]?) : Tab w' := by
  unfold Tab Lib.TabIs World.var? at *
  rw [powGlobal] at h ⊢
  simp only [Option.bind_some] at h ⊢
  rw [hb]; exact h
theorem Tab.kp {bb bw bf B : Nat} {w w' : World} {go go' : Option Nat} (h : Tab w) (k : Kp bb bw bf w go w' go') (hB : 2 ≤ B) (hw : 2 ≤ w.heap.size) (hb : B ≤ bb) (hv : B ≤ bw) (hf : B ≤ bf) (hg : ∀ g, go = some g → B ≤ g) : Tab w' :=
  h.two (k.block 1 (by omega) (by omega) (by omega) (by omega) (fun e => by have := hg 1 e; omega)).1

/-- The resp.Writer, and all it has been given. -/
def Rs (w : World) (B rw bb bw bf : Nat) (out : List UInt8) : Prop :=
  ∃ n go cur done l, Wr w B bb bw bf n go cur done l ∧ done ++ l = out ∧ w.heap[rw]? = some (.cells #[.pointer (some ⟨bw, 0, none⟩)] 41 (0, 0)) ∧ rw ≠ bb ∧ rw ≠ bw ∧ rw ≠ bf ∧ go ≠ some rw

theorem kp_cell {bb bw bf rw : Nat} {w w' : World} {go go' : Option Nat} (k : Kp bb bw bf w go w' go') (hr : w.heap[rw]? = some (.cells #[.pointer (some ⟨bw, 0, none⟩)] 41 (0, 0))) (h1 : rw ≠ bb) (h2 : rw ≠ bw) (h3 : rw ≠ bf) (h4 : go ≠ some rw) :
    w'.cell? ⟨rw, 0, none⟩ = some (.pointer (some ⟨bw, 0, none⟩)) := by
  rw [Lib.cell_of_heap ((k.block rw (Lib.lt_of_heap hr) h1 h2 h3 h4).1.trans hr)]
  rfl

/-- An item's bytes, where they lie: below block B. -/
theorem given_below {w w' : World} {B bb bw bf n : Nat} {go go' : Option Nat} {sp : Option Addr} {x : List UInt8} (h : Rd w B sp x) (k : Kp bb bw bf w go w' go') (hB : B ≤ w.heap.size) (hb : B ≤ bb) (hv : B ≤ bw) (hf : B ≤ bf) (hg : ∀ g, go = some g → B ≤ g) (hg' : ∀ g, go' = some g → B ≤ g) : Given w' bb bw bf n go' sp x := by
  rcases h with h | ⟨b, o, rfl, hlt, hc⟩
  · exact .inl h
  · refine .inr ⟨b, o, rfl, fun j u hj => ?_, .inr ⟨by omega, by omega, by omega, fun e => by have := hg' b e; omega, by have := k.size; omega⟩⟩
    have hjl := (List.getElem?_eq_some_iff.1 hj).1
    rw [Lib.byteCells_length] at hjl
    rw [World.cell?_of_block (w := w) (a := ⟨b, o + j, none⟩) (k.block b (by omega) (by omega) (by omega) (by omega) (fun e => by have := hg b e; omega)).1, hc j hjl]
    rw [← hj]
    simp [Lib.byteCells, hjl]

/-- One item, as it goes over. -/
def encB (x : List UInt8) : List UInt8 := [36] ++ Lib.decDigits x.length ++ [13, 10] ++ x ++ [13, 10]

theorem digits_le (m : Nat) (hm : m < 18446744073709551616) : (Lib.decDigits m).length ≤ 20 := by
  rw [Lib.decDigits_length]
  by_cases h0 : m = 0
  · subst h0; rw [Lib.nDigits_small (by decide)]; decide
  · have := Lib.numDigits_eq m (by omega) hm
    split at this <;> omega

/-- What stands behind a chain of writes. -/
theorem rs_end {w w' : World} {B rw bb bw bf : Nat} {go go0 : Option Nat} {out all : List UInt8} (hq : Wrote w go B bb bw bf all w') {w0 : World} (k : Kp bb bw bf w0 go0 w go) (hr : w0.heap[rw]? = some (.cells #[.pointer (some ⟨bw, 0, none⟩)] 41 (0, 0))) (hne : rw ≠ bb ∧ rw ≠ bw ∧ rw ≠ bf ∧ go0 ≠ some rw)
    (hlo : B ≤ bb ∧ B ≤ bw ∧ B ≤ bf) (hg : ∀ g, go0 = some g → B ≤ g) (he : all = out) : Rs w' B rw bb bw bf out ∧ Fr (fun k => B ≤ k) w0 w' := by
  obtain ⟨n, go', cur, done, l, hW, hd, hk⟩ := hq
  have k2 := k.trans hk
  have hb := k2.block rw (Lib.lt_of_heap hr) hne.1 hne.2.1 hne.2.2.1 hne.2.2.2
  exact ⟨⟨n, go', cur, done, l, hW, hd.trans he, hb.1.trans hr, hne.1, hne.2.1, hne.2.2.1, hb.2⟩, k2.below hlo.1 hlo.2.1 hlo.2.2 hg⟩

set_option maxRecDepth 4000 in
set_option maxHeartbeats 8000000 in
theorem bulk (B rw bb bw bf : Nat) (out x : List UInt8) (sp : Option Addr) (m c : Nat) (w : World) (h : Rs w B rw bb bw bf out) (hB : 2 ≤ B) (hBw : B ≤ w.heap.size) (ht : Tab w) (hx : x.length = m) (hm : m ≤ 1048576) (hmc : m ≤ c) (hc : c ≤ 9223372036854775807) (hrd : Rd w B sp x) (hlim : out.length ≤ 549755813888) :
    Calls Tryd.prog 19 #[.pointer (some ⟨rw, 0, none⟩), .slice sp m c] w fun e w' => e = .returned (.tuple #[]) ∧ Rs w' B rw bb bw bf (out ++ encB x) ∧ Fr (fun k => B ≤ k) w w' := by
  obtain ⟨n, go, cur, done, l, hW, hout, hr, n1, n2, n3, n4⟩ := h
  have r0 : w.cell? ⟨rw, 0, none⟩ = some (.pointer (some ⟨bw, 0, none⟩)) := by rw [Lib.cell_of_heap hr]; rfl
  have HW : Hid (Wr w B bb bw bf n go cur done l) := hW
  have HO : Hid (done ++ l = out) := hout
  have HR : Hid (w.heap[rw]? = some (.cells #[.pointer (some ⟨bw, 0, none⟩)] 41 (0, 0))) := hr
  have HRD : Hid (Rd w B sp x) := hrd
  have HX : Hid (x.length = m) := hx
  have HT : Hid (Tab w) := ht
  have HNE : Hid (rw ≠ bb ∧ rw ≠ bw ∧ rw ≠ bf ∧ go ≠ some rw) := ⟨n1, n2, n3, n4⟩
  have HGO : Hid (∀ g, go = some g → B ≤ g) := fun g e => (hW.row g e).1
  have HDG : Hid ((Lib.decDigits m).length ≤ 20) := digits_le m (by omega)
  have HLL : Hid (done.length + l.length ≤ 549755813888) := by
    have := hlim; rw [← hout, List.length_append] at this; exact this
  clear hW hout hr hrd hx ht n1 n2 n3 n4 hlim
  go_enter Tryd.func19, Tryd.ntmps19
  go_wp2_with (first
    | (go_at_call 16; refine (availBuf B bb bw bf n go cur done l w HW.out).mono ?_; rintro e w1 ⟨v1, rfl, hA1⟩; have HA1 : Hid (Ap w w1 B bb bw bf n go done l v1 []) := hA1; clear hA1)
    | (at_builtin; refine wpList_append_ap rfl (.tmp 10) (.tmp 11) 25 rfl rfl (HA1.out.alloc _) _ [36] 1 rfl (by decide) rfl (lit w1 5 [36] 1 rfl) (by decide) ?_; intro v2 w2 HA2)
    | (go_at_call 17; refine (appendInt m (by omega) HA2.out (by decide) (HT.out.kp HA2.out.kp hB (by omega) HW.out.lo.1 HW.out.lo.2.1 HW.out.lo.2.2 HGO.out)).mono ?_; rintro e w3 ⟨v3, rfl, hA3⟩; have HA3 : Hid (Ap w w3 B bb bw bf n go done l v3 ([] ++ [36] ++ Lib.decDigits m)) := hA3; clear hA3))
  have r3 : w3.cell? ⟨rw, 0, none⟩ = some (.pointer (some ⟨bw, 0, none⟩)) := kp_cell HA3.out.kp HR.out HNE.out.1 HNE.out.2.1 HNE.out.2.2.1 HNE.out.2.2.2
  have r3' : ∀ o, (w3.alloc o).cell? ⟨rw, 0, none⟩ = some (.pointer (some ⟨bw, 0, none⟩)) := fun o => kp_cell (HA3.out.alloc o).kp HR.out HNE.out.1 HNE.out.2.1 HNE.out.2.2.1 HNE.out.2.2.2
  have HL3 : Hid (([] ++ [36] ++ Lib.decDigits m).length + 2 ≤ 1000000) := by
    have := HDG.out
    show _ ≤ _
    simp only [List.nil_append, List.length_append, List.length_cons, List.length_nil]
    omega
  go_region_law (first
    | (refine step_append_ap rfl (.tmp 21) (.tmp 22) 25 rfl rfl ((HA3.out.drewN 1).alloc _) _ [13, 10] 2 rfl (by decide) rfl (lit w3.drew 5 [13, 10] 2 rfl) HL3.out ?_
       intro v4 w4 HA4
       have r4 : w4.cell? ⟨rw, 0, none⟩ = some (.pointer (some ⟨bw, 0, none⟩)) := kp_cell HA4.out.kp HR.out HNE.out.1 HNE.out.2.1 HNE.out.2.2.1 HNE.out.2.2.2)
    | (go_simp
       go_wp2_with (
         go_at_call 18
         obtain ⟨cur4, sp4, c4, hW4, rfl, hle4, hc4, hg4⟩ := HA4.out.given
         refine (write_all B bb bw bf n go cur4 done l _ sp4 _ c4 w4 hW4 rfl hle4 hc4 hg4 ?_).mono ?_
         have h1 := HLL.out
         have h2 := HL3.out
         simp only [List.length_append, List.length_cons, List.length_nil] at h1 h2 ⊢
         omega
         rintro e w5 ⟨rfl, hq⟩
         have HQ5 : Hid (Wrote w4 go B bb bw bf (done ++ (l ++ ([] ++ [36] ++ Lib.decDigits m ++ [13, 10]))) w5) := hq
         clear hq hW4 hle4 hc4 hg4)))
  all_goals
    obtain ⟨n5, go5, cur5, done5, l5, hW5, hd5, hk5⟩ := HQ5.out
    have hk5' := HA4.out.kp.trans hk5
    have r5 : w5.cell? ⟨rw, 0, none⟩ = some (.pointer (some ⟨bw, 0, none⟩)) := kp_cell hk5' HR.out HNE.out.1 HNE.out.2.1 HNE.out.2.2.1 HNE.out.2.2.2
    have HW5 : Hid (Wr w5 B bb bw bf n5 go5 cur5 done5 l5) := hW5
    have HD5 : Hid (done5 ++ l5 = done ++ (l ++ ([] ++ [36] ++ Lib.decDigits m ++ [13, 10]))) := hd5
    have HK5 : Hid (Kp bb bw bf w go w5 go5) := hk5'
    have HL5 : Hid ((done5 ++ (l5 ++ x)).length ≤ 1099511627776) := by
      have h1 := HLL.out
      have h2 := HL3.out
      have h3 := congrArg List.length hd5
      have h4 := HX.out
      show _ ≤ _
      simp only [List.length_append, List.length_cons, List.length_nil] at h1 h2 h3 ⊢
      omega
    clear hW5 hd5 hk5 hk5'
    go_wp2_with (
      go_at_call 18
      refine (write_all B bb bw bf n5 go5 cur5 done5 l5 x sp m c w5 HW5.out HX.out hmc hc (given_below HRD.out HK5.out hBw HW.out.lo.1 HW.out.lo.2.1 HW.out.lo.2.2 HGO.out (fun g e => (HW5.out.row g e).1)) HL5.out).mono ?_
      rintro e w6 ⟨rfl, n6, go6, cur6, done6, l6, hW6, hd6, hk6⟩
      have r6 : w6.cell? ⟨rw, 0, none⟩ = some (.pointer (some ⟨bw, 0, none⟩)) := kp_cell (HK5.out.trans hk6) HR.out HNE.out.1 HNE.out.2.1 HNE.out.2.2.1 HNE.out.2.2.2
      have HW6 : Hid (Wr w6 B bb bw bf n6 go6 cur6 done6 l6) := hW6
      have HD6 : Hid (done6 ++ l6 = done5 ++ (l5 ++ x)) := hd6
      have HK6 : Hid (Kp bb bw bf w5 go5 w6 go6) := hk6
      clear hW6 hd6 hk6)
    go_at_call 23
    refine (writeString B bb bw bf n6 go6 cur6 done6 l6 w6 HW6.out ?_).mono ?_
    · have h3 := congrArg List.length HD6.out
      have h1 := HLL.out
      have h2 := HL3.out
      have h4 := congrArg List.length HD5.out
      have h5 := HX.out
      simp only [List.length_append, List.length_cons, List.length_nil] at h1 h2 h3 h4 ⊢
      omega
    · rintro e w7 ⟨rfl, hq7⟩
      have HQ7 : Hid (Wrote w6 go6 B bb bw bf (done6 ++ (l6 ++ [13, 10])) w7) := hq7
      clear hq7
      go_wp2
      go_end0
      refine ⟨rfl, rs_end HQ7.out (HK5.out.trans HK6.out) HR.out HNE.out HW.out.lo HGO.out ?_⟩
      rw [← List.append_assoc, HD6.out, ← List.append_assoc done5, HD5.out, ← HO.out, encB, HX.out]
      simp
end Go.Proofs.Qxb6616245aDoor
