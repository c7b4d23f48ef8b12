import Derived.Test.Qxb6616245aDoorAp
import Derived.Lib.ItoaMem
import Derived.Lib.AppendIntMem
namespace Go.Proofs.Qxb6616245aDoor
open Go.RowKit Go.Sort

theorem ap_start {w : World} {B bb bw bf n : Nat} {go : Option Nat} {cur : List Value} {done l : List UInt8} (h : Wr w B bb bw bf n go cur done l) (o k : Nat) (ho : n < 16384 → o = n) : Ap w (w.drewN k) B bb bw bf n go done l (.slice (some ⟨bf, o, none⟩) 0 (16384 - n)) [] :=
  ⟨cur, h.drewN k, .of_none ((Fr.refl _ w).drewN k), ⟨h.buf.lt, Lib.lt_of_heap h.wb, Lib.lt_of_heap h.fb, fun g hg => by have := h.buf; rw [hg] at this; exact this.rowLt.1⟩, .inl ⟨o, by simpa using h.hn, rfl, ho, by simp [Lib.byteCells]⟩⟩

theorem availBuf (B bb bw bf n : Nat) (go : Option Nat) (cur : List Value) (done l : List UInt8) (w : World) (h : Wr w B bb bw bf n go cur done l) :
    Calls Tryd.prog 16 #[.pointer (some ⟨bw, 0, none⟩)] w fun e w' => ∃ v, e = .returned v ∧ Ap w w' B bb bw bf n go done l v [] := by
  obtain ⟨c0, c1, c2, c3⟩ := h.wcell
  have hn := h.hn
  have hni : (n : Int) ≤ 16384 := by omega
  have HW : Hid (Wr w B bb bw bf n go cur done l) := h
  clear h
  go_enter Tryd.func16, Tryd.ntmps16
  go_wp2
  go_quiet (fail)
  go_wp2
  all_goals
    go_ret
    refine ⟨_, rfl, ?_⟩
    first
      | exact ap_start HW.out n _ (fun _ => rfl)
      | (subst h; exact ap_start HW.out 0 _ (fun hq => absurd hq (by decide)))

def Tab (w : World) : Prop := Lib.TabIs Tryd.prog w powName .u64 Lib.pow10Tab

set_option maxHeartbeats 2000000 in
theorem appendUint_small {w0 w : World} {B bb bw bf n : Nat} {go : Option Nat} {done l : List UInt8} {v : Value} {ks : List UInt8} (u : Nat) (hu : u < 100) (h : Ap w0 w B bb bw bf n go done l v ks) (hlim : ks.length ≤ 1000) :
    Calls Tryd.prog 24 #[v, .int .u64 u, .int .i64 10] w fun e w' => ∃ v', e = .returned v' ∧ Ap w0 w' B bb bw bf n go done l v' (ks ++ Lib.decDigits u) := by
  have hlen : (Lib.decDigits u).length ≤ 20 ∧ 1 ≤ (Lib.decDigits u).length := by
    rw [Lib.decDigits_length]
    by_cases h10 : u < 10
    · rw [Lib.nDigits_small h10]; omega
    · rw [Lib.nDigits_big h10, Lib.nDigits_small (show u / 10 < 10 by omega)]; omega
  have HA : Hid (Ap w0 w B bb bw bf n go done l v ks) := h
  have HL : Hid ((Lib.decDigits u).length ≤ 20 ∧ 1 ≤ (Lib.decDigits u).length) := hlen
  have hsrc : ∀ W, Src Tryd.prog 1 9 (.string ⟨(Lib.decDigits u).toArray⟩) (Lib.decDigits u).length (Lib.byteCells (Lib.decDigits u)) W := fun W => by
    have := Src.ofString (P := Tryd.prog) W (tx := 9) Tryd.underlying9 ⟨(Lib.decDigits u).toArray⟩
    have e1 : (⟨(Lib.decDigits u).toArray⟩ : ByteArray).size = (Lib.decDigits u).length := by simp [ByteArray.size]
    have e2 : byteCells ⟨(Lib.decDigits u).toArray⟩ = Lib.byteCells (Lib.decDigits u) := by simp [byteCells, Lib.byteCells]
    rw [e1, e2] at this
    exact this
  have HS : Hid (∀ W, Src Tryd.prog 1 9 (.string ⟨(Lib.decDigits u).toArray⟩) (Lib.decDigits u).length (Lib.byteCells (Lib.decDigits u)) W) := hsrc
  clear h hlen hsrc
  go_enter Tryd.func24, Tryd.ntmps24
  go_wp2_with (first
    | (go_at_call 25; refine (Tryd.internal_strconv_small u hu _).mono ?_; rintro e w' ⟨rfl, rfl⟩)
    | (at_builtin; refine wpList_append_ap rfl (.tmp 13) (.tmp 16) 9 rfl rfl HA.out _ (Lib.decDigits u) _ rfl HL.out.2 rfl (HS.out _) (by have := HL.out; omega) ?_))
  intro v' w1 HA1
  go_wp2
  go_ret
  exact ⟨v', rfl, HA1.out⟩

theorem Tab.fr {w w' : World} (h : Tab w) (fr : Fr (fun _ => False) w w') : Tab w' := by
  unfold Tab Lib.TabIs World.var? at *
  cases hg : Tryd.prog.globalNamed powName with
  | none => simp [hg] at h
  | some g =>
    simp only [hg, Option.bind_some] at h ⊢
    have hlt : g < w.heap.size := by
      rcases Nat.lt_or_ge g w.heap.size with h' | h'
      · exact h'
      · rw [Array.getElem?_eq_none h'] at h; simp at h
    rw [fr.block g hlt id]
    exact h

theorem info53 : Tryd.prog.arrayLen 53 = 24 := by simp [Program.arrayLen, Tryd.underlying53]

set_option maxHeartbeats 4000000 in
theorem appendUint_big {w0 w : World} {B bb bw bf n : Nat} {go : Option Nat} {done l : List UInt8} {v : Value} {ks : List UInt8} (u : Nat) (hu : 100 ≤ u) (hu64 : u < 18446744073709551616) (h : Ap w0 w B bb bw bf n go done l v ks) (hlim : ks.length ≤ 1000) (htab : Tab w) :
    Calls Tryd.prog 24 #[v, .int .u64 u, .int .i64 10] w fun e w' => ∃ v', e = .returned v' ∧ Ap w0 w' B bb bw bf n go done l v' (ks ++ Lib.decDigits u) := by
  have hu1 : 1 ≤ u := by omega
  have hnd20 : Lib.nDigits u ≤ 20 := by have := Lib.numDigits_eq u hu1 hu64; split at this <;> omega
  have hnd1 : 1 ≤ Lib.nDigits u := by rw [Lib.nDigits_big (by omega)]; omega
  have hal := info53
  have hsl : ∀ W, (Instr.sliceAt 53 (.pointer (some ⟨w.heap.size, 0, none⟩)) none (some (.int .i64 (Lib.nDigits u : Int))) none).run Tryd.prog W = .ok (.slice (some ⟨w.heap.size, 0, none⟩) (Lib.nDigits u) 24) W := fun W => by
    rw [run_sliceAt_array_h W 53 ⟨w.heap.size, 0, none⟩ (by simp [Program.arrayLen, Program.elem, Tryd.underlying53]) .i64 (Lib.nDigits u : Int) (by omega) (by rw [hal]; omega)]
    go_simp
  have hH0 := Lib.holds_zero0 w 53 (Lib.nDigits u) (by omega)
  have hfmt := Tryd.internal_strconv_formatBase10 w.heap.size 0 24 u (Array.replicate (Lib.nDigits u) 0) (w.alloc (.cells Lib.zeros24 53)) hH0 (by rw [Array.size_replicate]; exact Lib.lt_pow_nDigits u) hu64 (by rw [Array.size_replicate]; omega)
  rw [Array.size_replicate] at hfmt
  have HH0 := Lib.hid hH0
  have HFM := Lib.hid hfmt
  have HT : Hid (Tab w) := htab
  have HA : Hid (Ap w0 w B bb bw bf n go done l v ks) := h
  have iu : (100 : Int) ≤ (u : Int) := by omega
  clear hH0 hal hfmt h htab
  go_enter Tryd.func24, Tryd.ntmps24
  go_wp2_with (first
    | (go_at_call 26; refine (Tryd.internal_strconv_numDigits u hu1 hu64 _ (HT.out.fr ((Fr.refl _ w).alloc _))).mono ?_; rintro e w' ⟨rfl, rfl⟩))
  go_at_call 27
  refine HFM.out.mono ?_
  rintro e w' ⟨rfl, k, v', dk, rfl, hF⟩
  have hcells : ∀ j u', (Lib.byteCells (Lib.decDigits u))[j]? = some u' → ((putRow (fun (b : UInt8) => Value.int .u8 (b.toNat : Int)) (w.alloc (.cells Lib.zeros24 53)) w.heap.size 0 dk).drewN k).cell? ((⟨w.heap.size, 0, none⟩ : Addr).add j) = some u' := by
    intro j u' hj
    have hjl : j < (Lib.decDigits u).length := by
      have h5 := (List.getElem?_eq_some_iff.1 hj).1
      rwa [Lib.byteCells_length] at h5
    have e5 : (Lib.byteCells (Lib.decDigits u))[j]? = some (Value.int .u8 ((Lib.decDigits u)[j].toNat : Int)) := by simp [Lib.byteCells, hjl]
    rw [e5] at hj
    cases hj
    rw [Lib.row_is_numeral hF j hjl, Lib.add_plain, World.cell?_drewN]
    exact cell?_putRow (fun (b : UInt8) => Value.int .u8 (b.toNat : Int)) _ w.heap.size 0 _ dk HH0.out (by rw [hF.size, Array.size_replicate]) j (by rw [hF.size]; rw [Lib.decDigits_length] at hjl; exact hjl)
  obtain ⟨os, eo⟩ := Lib.fin_at w (.cells Lib.zeros24 53) dk k 0
  have hA2 : Ap w0 ((putRow (fun (b : UInt8) => Value.int .u8 (b.toNat : Int)) (w.alloc (.cells Lib.zeros24 53)) w.heap.size 0 dk).drewN k) B bb bw bf n go done l v ks := by
    rw [eo]
    refine HA.out.carry ⟨rfl, rfl, Lib.size_grow w k os, fun g hg _ => Lib.heap_grow_old w k os g hg⟩
  generalize (putRow (fun (b : UInt8) => Value.int .u8 (b.toNat : Int)) (w.alloc (.cells Lib.zeros24 53)) w.heap.size 0 dk).drewN k = W2 at hcells hA2 ⊢
  have HA2 : Hid (Ap w0 W2 B bb bw bf n go done l v ks) := hA2
  have HS : Hid (Src Tryd.prog 1 25 (.slice (some ⟨w.heap.size, 0, none⟩) (Lib.nDigits u) 24) (Lib.nDigits u) (Lib.byteCells (Lib.decDigits u)) W2) :=
    Src.ofSlice W2 Tryd.underlying25 _ _ _ _ (by rw [Lib.byteCells_length, Lib.decDigits_length, Nat.mul_one]) hcells (Lib.byteCells_one _)
  clear eo HH0 HFM hA2 hcells hF
  go_wp2_with (at_builtin; refine wpList_append_ap rfl (.tmp 24) (.tmp 26) 25 rfl rfl HA2.out _ (Lib.decDigits u) _ (Lib.decDigits_length u) hnd1 rfl HS.out (by omega) ?_)
  intro v2 w3 HA3
  go_wp2
  go_ret
  exact ⟨v2, rfl, HA3.out⟩

theorem appendUint {w0 w : World} {B bb bw bf n : Nat} {go : Option Nat} {done l : List UInt8} {v : Value} {ks : List UInt8} (u : Nat) (hu64 : u < 18446744073709551616) (h : Ap w0 w B bb bw bf n go done l v ks) (hlim : ks.length ≤ 1000) (htab : Tab w) :
    Calls Tryd.prog 24 #[v, .int .u64 u, .int .i64 10] w fun e w' => ∃ v', e = .returned v' ∧ Ap w0 w' B bb bw bf n go done l v' (ks ++ Lib.decDigits u) := by
  by_cases hu : u < 100
  · exact appendUint_small u hu h hlim
  · exact appendUint_big u (by omega) hu64 h hlim htab

set_option maxRecDepth 20000 in
set_option maxHeartbeats 1000000 in
theorem appendInt' {w0 w : World} {B bb bw bf n : Nat} {go : Option Nat} {done l : List UInt8} {v : Value} {ks : List UInt8} (u : Nat) (hu : u < 1099511627776) (h : Ap w0 w B bb bw bf n go done l v ks) (hlim : ks.length ≤ 1000) (htab : Tab w) :
    Calls Tryd.prog 20 #[v, .int .i64 u, .int .i64 10] w fun e w' => ∃ v', e = .returned v' ∧ Ap w0 w' B bb bw bf n go done l v' (ks ++ Lib.decDigits u) := by
  have HT : Hid (Tab w) := htab
  have HA : Hid (Ap w0 w B bb bw bf n go done l v ks) := h
  have hui : (u : Int) < 1099511627776 := by omega
  have hnn : ¬ ((u : Int) < 0) := by omega
  have hwr : IntKind.u64.wrap (u : Int) = (u : Int) := by simp [IntKind.wrap, IntKind.bits, IntKind.signed]; omega
  clear h htab
  go_enter Tryd.func20, Tryd.ntmps20
  go_wp2_with (go_at_call 24; refine (appendUint u (by omega) HA.out hlim HT.out).mono ?_; rintro e w' ⟨v', rfl, hA⟩)
  go_ret
  exact ⟨v', rfl, hA⟩
theorem appendInt {w0 w : World} {B bb bw bf n : Nat} {go : Option Nat} {done l : List UInt8} {v : Value} {ks : List UInt8} (u : Nat) (hu : u < 1099511627776) (h : Ap w0 w B bb bw bf n go done l v ks) (hlim : ks.length ≤ 1000) (htab : Tab w) :
    Calls Tryd.prog 17 #[v, .int .i64 u, .int .i64 10] w fun e w' => ∃ v', e = .returned v' ∧ Ap w0 w' B bb bw bf n go done l v' (ks ++ Lib.decDigits u) := by
  have HT : Hid (Tab w) := htab
  have HA : Hid (Ap w0 w B bb bw bf n go done l v ks) := h
  clear h htab
  go_enter Tryd.func17, Tryd.ntmps17
  go_wp2_with (go_at_call 20; refine (appendInt' u hu HA.out hlim HT.out).mono ?_; rintro e w' ⟨v', rfl, hA⟩)
  go_ret
  exact ⟨v', rfl, hA⟩
end Go.Proofs.Qxb6616245aDoor
