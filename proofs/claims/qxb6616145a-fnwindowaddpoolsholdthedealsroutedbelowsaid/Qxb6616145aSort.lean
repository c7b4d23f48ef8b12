import Derived.Test.Qxb6616145aMerge
import Derived.Deep.CutRange
namespace Go.Proofs.Qxb6616145a
open Go.RowKit

def ints (xs : List Int) : List Value := xs.map fun x => Value.int .i64 x
/-- A row of integers, known whole. -/
def Row (w : World) (b : Nat) (xs : List Int) : Prop := w.heap[b]? = some (.cells (ints xs).toArray 3 (0, 0))
theorem Row.cell {w : World} {b j : Nat} {xs : List Int} (h : Row w b xs) (hj : j < xs.length) : w.cell? ⟨b, j, none⟩ = some (.int .i64 (xs.getD j 0)) := by
  rw [cell_heap h, List.getElem?_toArray]
  simp [ints, List.getD, hj]
theorem Row.set {w : World} {b j : Nat} {xs : List Int} (h : Row w b xs) (v : Int) : Row (w.setCell ⟨b, j, none⟩ (.int .i64 v)) b (xs.set j v) := by
  unfold Row
  rw [heap_setCell h]
  simp [ints, List.map_set]
theorem Row.other {w : World} {b c j : Nat} {xs : List Int} (h : Row w b xs) (hn : b ≠ c) (v : Value) : Row (w.setCell ⟨c, j, none⟩ v) b xs := (Below.heap_setCell _ _ _ _ hn).trans h
theorem Row.lt {w : World} {b : Nat} {xs : List Int} (h : Row w b xs) : b < w.heap.size := lt_heap h

theorem info3 : ∃ i, Try.prog.info? 3 = some i ∧ i.zero = some (.int .i64 0) ∧ i.size = 1 ∧ i.bytes = 8 := by
  have h : (Try.prog.info? 3).map (fun i => (i.zero, i.size, i.bytes)) = some (some (.int .i64 0), 1, 8) := by kernel_rfl
  obtain ⟨i, hi, he⟩ := Option.map_eq_some_iff.1 h
  simp only [Prod.mk.injEq] at he
  exact ⟨i, hi, he.1, he.2.1, he.2.2⟩
theorem size3 : (Try.prog.info? 3).map (·.size) = some 1 := by
  obtain ⟨i, hi, _, h, _⟩ := info3
  rw [hi]; simp [h]
theorem makeInts (n : Nat) (hn : n ≤ 1099511627776) (w : World) :
    (Instr.makeSlice 22 (.int .i64 n) (.int .i64 n)).run Try.prog w = .ok (.slice (some ⟨w.heap.size, 0, none⟩) n n) (w.alloc (.cells (ints (List.replicate n 0)).toArray 3)) := by
  obtain ⟨i, hi, hz, hs, hb⟩ := info3
  have hr := run_make (P := Try.prog) w 22 3 i (.int .i64 0) Try.underlying22 hi hz .i64 .i64 n n (by omega) (by omega) (by rw [hb]; omega) (by omega)
  simp only [Int.toNat_natCast, hs, Nat.mul_one] at hr
  have e : madeCells (Value.int .i64 0).cells n = (ints (List.replicate n 0)).toArray := by
    apply Array.ext'
    simp [madeCells, ints, Value.cells]
    apply List.ext_getElem
    · simp
    · intro j h1 h2
      simp [Nat.mod_one]
  rw [hr, e]

/-- One element more of the merge. -/
theorem drop_take_cons {xs : List Int} {i m : Nat} (h : i < m) (hm : m ≤ xs.length) : (xs.take m).drop i = xs.getD i 0 :: (xs.take m).drop (i + 1) := by
  rw [List.drop_eq_getElem_cons (by simp; omega)]
  congr 1
  simp [List.getD, show i < xs.length by omega]
theorem take_set {ys : List Int} {k : Nat} {v : Int} (h : k < ys.length) : (ys.set k v).take (k + 1) = ys.take k ++ [v] := by
  rw [List.take_add_one, List.take_set_of_le (Nat.le_refl _), List.getElem?_set_self h]
  rfl

/-- The rows and the frame, all through. -/
def Two (w wr : World) (S D n : Nat) (xs ys : List Int) : Prop := S ≠ D ∧ Row wr S xs ∧ Row wr D ys ∧ xs.length = n ∧ ys.length = n ∧ w.heap.size ≤ D ∧ Fr (fun k => w.heap.size ≤ k) w wr
theorem Two.put {w wr : World} {S D n : Nat} {xs ys : List Int} (h : Two w wr S D n xs ys) (k : Nat) (v : Int) : Two w (wr.setCell ⟨D, k, none⟩ (.int .i64 v)) S D n xs (ys.set k v) :=
  ⟨h.1, h.2.1.other h.1 _, h.2.2.1.set v, h.2.2.2.1, by rw [List.length_set]; exact h.2.2.2.2.1, h.2.2.2.2.2.1, h.2.2.2.2.2.2.setCell (p := ⟨D, k, none⟩) (fun hq => absurd h.2.2.2.2.2.1 (by show ¬ _ ≤ D; exact Nat.not_le.2 hq)) _⟩

/-- What the merge's loops keep. -/
def Mg (xs ys R T : List Int) (mid hi i j k : Nat) : Prop := ys.take k ++ (List.merge ((xs.take mid).drop i) ((xs.take hi).drop j) leI ++ R) = T
theorem Mg.left {xs ys R T : List Int} {mid hi i j k : Nat} (h : Mg xs ys R T mid hi i j k) (hi' : i < mid) (hm : mid ≤ xs.length) (hk : k < ys.length) (hc : j < hi → hi ≤ xs.length ∧ xs.getD i 0 ≤ xs.getD j 0) : Mg xs (ys.set k (xs.getD i 0)) R T mid hi (i + 1) j (k + 1) := by
  unfold Mg at *
  rw [take_set hk, ← h, drop_take_cons hi' hm]
  by_cases hj : j < hi
  · obtain ⟨h1, h2⟩ := hc hj
    rw [drop_take_cons hj h1, List.merge, if_pos (by unfold leI; simpa using h2)]
    simp
  · have e9 : (xs.take hi).drop j = [] := List.drop_eq_nil_of_le (by simp; omega)
    rw [e9]
    simp
theorem Mg.right {xs ys R T : List Int} {mid hi i j k : Nat} (h : Mg xs ys R T mid hi i j k) (hj : j < hi) (hh : hi ≤ xs.length) (hk : k < ys.length) (hc : i < mid → mid ≤ xs.length ∧ ¬ xs.getD i 0 ≤ xs.getD j 0) : Mg xs (ys.set k (xs.getD j 0)) R T mid hi i (j + 1) (k + 1) := by
  unfold Mg at *
  rw [take_set hk, ← h, drop_take_cons hj hh]
  by_cases hi' : i < mid
  · obtain ⟨h1, h2⟩ := hc hi'
    rw [drop_take_cons hi' h1, List.merge, if_neg (by unfold leI; simpa using h2)]
    simp
  · have e9 : (xs.take mid).drop i = [] := List.drop_eq_nil_of_le (by simp; omega)
    rw [e9]
    simp

theorem Two.drewN {w wr : World} {S D n : Nat} {xs ys : List Int} (h : Two w wr S D n xs ys) (k : Nat) : Two w (wr.drewN k) S D n xs ys := ⟨h.1, h.2.1, h.2.2.1, h.2.2.2.1, h.2.2.2.2.1, h.2.2.2.2.2.1, h.2.2.2.2.2.2.drewN k⟩
theorem seg {xs : List Int} {lo W m : Nat} (hm : m = min (lo + W) xs.length) : (xs.take m).drop lo = (xs.drop lo).take W := by
  apply List.ext_getElem?
  intro j
  rw [List.getElem?_drop, List.getElem?_take, List.getElem?_take, List.getElem?_drop]
  by_cases h1 : j < W
  · by_cases h2 : lo + j < xs.length
    · rw [if_pos (by omega), if_pos h1]
    · rw [if_neg (by omega), if_pos h1, List.getElem?_eq_none (by omega)]
  · rw [if_neg (by omega), if_neg h1]
theorem mg_start {xs ys T : List Int} {n lo W mid hi : Nat} {hW : 0 < W} (h : ys.take lo ++ pass W hW (xs.drop lo) = T) (hn : xs.length = n) (hlo : lo < n) (hm : mid = min (lo + W) n) (hh : hi = min (lo + 2 * W) n) : Mg xs ys (pass W hW (xs.drop (lo + 2 * W))) T mid hi lo mid lo := by
  subst hn
  unfold Mg
  rw [← h, pass_cons W hW (xs := xs.drop lo) (fun e => by have := congrArg List.length e; simp at this; omega), List.drop_drop, List.drop_drop, seg hm]
  congr 3
  by_cases hl : lo + W ≤ xs.length
  · rw [show mid = lo + W by omega]
    exact seg (W := W) (by omega)
  · rw [show xs.drop (lo + W) = [] from List.drop_eq_nil_of_le (by omega), show (xs.take hi).drop mid = [] from List.drop_eq_nil_of_le (by simp; omega)]
    simp

theorem mg_end {xs ys R T : List Int} {n lo W mid hi : Nat} (h : Mg xs ys R T mid hi mid hi (mid + (hi - mid))) (hy : ys.length = n) (hmh : mid ≤ hi) (hh : hi = min (lo + 2 * W) n) : ys.take (lo + 2 * W) ++ R = T := by
  unfold Mg at h
  have e1 : (xs.take mid).drop mid = [] := List.drop_eq_nil_of_le (by simp; omega)
  have e2 : (xs.take hi).drop hi = [] := List.drop_eq_nil_of_le (by simp; omega)
  rw [e1, e2, show mid + (hi - mid) = hi by omega] at h
  have e3 : ys.take hi = ys.take (lo + 2 * W) := by
    by_cases hl : lo + 2 * W ≤ n
    · rw [show hi = lo + 2 * W by omega]
    · rw [List.take_of_length_le (by omega), List.take_of_length_le (by omega)]
  rw [← e3]
  simpa using h

set_option maxRecDepth 4000 in
set_option maxHeartbeats 4000000 in
theorem sortInts (a : Option Addr) (n c B : Nat) (xs0 : List Int) (w : World) (hx : xs0.length = n) (hI : Ints w B a n (fun j => xs0.getD j 0)) (hB : B ≤ w.heap.size) (hn : n ≤ 1073741824) :
    Calls Try.prog 15 #[.slice a n c] w fun e w' => ∃ S ys, e = .returned (.slice (some ⟨S, 0, none⟩) n n) ∧ Row w' S ys ∧ ys.Perm xs0 ∧ Srt ys ∧ Fr (fun k => w.heap.size ≤ k) w w' := by
  have hmk := makeInts n (by omega)
  have HX : Hid (xs0.length = n) := hx
  have HI : Hid (Ints w B a n (fun j => xs0.getD j 0)) := hI
  have HCP : Hid (∀ ad, a = some ad → ∀ j v, (ints xs0)[j]? = some v → (w.alloc (.cells (ints (List.replicate n 0)).toArray 3)).cell? (ad.add j) = some v) := by
    intro ad e j v hj
    rcases hI with h | ⟨b, o, h1, h2, h3⟩
    · have : xs0 = [] := List.eq_nil_of_length_eq_zero (by omega)
      subst this
      simp [ints] at hj
    · rw [h1] at e
      cases e
      have hjl : j < xs0.length := by
        have := (List.getElem?_eq_some_iff.1 hj).1
        simpa [ints] using this
      rw [Lib.addr_add, World.cell?_of_block (w := w) (a := ⟨b, o + j, none⟩) (Below.heap_alloc w _ b (by omega)), h3 j (by omega), ← hj]
      simp [ints, List.getD, hjl]
  clear hx hI
  go_enter Try.func15, Try.ntmps15
  go_wp2_with (refine wpList_copy_splice rfl (.tmp 17) (.tmp 18) 22 22 rfl 3 Try.underlying22 size3 _ a n n n c rfl rfl w.heap.size 0 (ints (List.replicate n 0)) 3 (blockTop _ _ _ rfl) (ints xs0) ?q1 ?q2 ?q3 ?q4 w.heap.size w ?q5 (Nat.le_refl _) ?_)
  case q1 => rw [ints, List.length_map, HX.out]; exact (Nat.min_self n).symm
  case q2 =>
    intro hp
    rw [ints, List.length_map, HX.out] at hp
    rcases HI.out with h | ⟨b, o, h1, h2, h3⟩
    · omega
    · first | exact ⟨rfl, ⟨b, o, none⟩, h1, HCP.out _ h1⟩ | exact ⟨⟨b, o, none⟩, h1, HCP.out _ h1⟩
  case q3 => simp [ints, HX.out]
  case q4 =>
    intro v hv
    obtain ⟨x, _, rfl⟩ := List.mem_map.1 hv
    rfl
  case q5 => exact (Below.refl _ w).alloc (Nat.le_refl _) _
  intro w2 HG2 hB2
  have HR2 : Hid (Row w2 w.heap.size xs0) := by
    have := HG2.out
    rwa [splice, List.take_zero, List.nil_append, List.drop_eq_nil_of_le (by simp [ints, HX.out]), List.append_nil] at this
  have HF2 : Hid (Fr (fun k => w.heap.size ≤ k) w w2) := Fr.of_below hB2
  clear HG2 hB2
  have H2 : Hid (Two w (w2.alloc (.cells (ints (List.replicate n 0)).toArray 3)) w.heap.size w2.heap.size n xs0 (List.replicate n 0)) := by
    have hlt := HR2.out.lt
    exact ⟨by omega, (Below.heap_alloc w2 _ _ hlt).trans HR2.out, blockTop _ _ _ rfl, HX.out, by simp, HF2.out.size, HF2.out.alloc _⟩
  go_wp2
  go_loopg [4, 5, 6] (n + 1) (fun gk s4 s5 s6 wr => ∃ (S D W : Nat) (xs ys : List Int), s4 = .slice (some ⟨S, 0, none⟩) n n ∧ s5 = .slice (some ⟨D, 0, none⟩) n n ∧ s6 = .int .i64 W ∧ 1 ≤ W ∧ W ≤ 2 * n + 1 ∧ n - W < gk ∧ Two w wr S D n xs ys ∧ w.heap.size ≤ S ∧ xs.Perm xs0 ∧ Chunks W xs)
  case atStart => exact ⟨_, _, 1, xs0, _, rfl, rfl, rfl, by omega, by omega, by omega, H2.out, Nat.le_refl _, List.Perm.refl _, chunks_one _⟩
  case round =>
    obtain ⟨S, D, W, xs, ys, rfl, rfl, rfl, hW1, hW2, hgk, htwo, hS, hperm, hch⟩ := hrel
    have HT : Hid (Two w wr S D n xs ys) := htwo
    have HP : Hid (xs.Perm xs0) := hperm
    have HC : Hid (Chunks W xs) := hch
    obtain ⟨GK, hGK⟩ : ∃ x, x = gk := ⟨_, rfl⟩
    clear htwo hperm hch
    by_cases hWn : W < n
    · obtain ⟨T, hT⟩ : ∃ T, pass W hW1 xs = T := ⟨_, rfl⟩
      have HTT : Hid (pass W hW1 xs = T) := hT
      clear hT
      go_wp2
      go_loopg [7] (n + 1) (fun gk s7 wr => ∃ (lo : Nat) (ys : List Int), s7 = .int .i64 lo ∧ lo ≤ 3 * n + 2 ∧ n - lo < gk ∧ Two w wr S D n xs ys ∧ ys.take lo ++ pass W hW1 (xs.drop lo) = T)
      case atStart => exact ⟨0, ys, rfl, by omega, by omega, HT.out, by simpa using HTT.out⟩
      case round =>
        obtain ⟨lo, ys1, rfl, hlo, hgk1, htwo1, hinv⟩ := hrel
        have HT1 : Hid (Two w wr S D n xs ys1) := htwo1
        have HV : Hid (ys1.take lo ++ pass W hW1 (xs.drop lo) = T) := hinv
        obtain ⟨GL, hGL⟩ : ∃ x, x = gk := ⟨_, rfl⟩
        clear htwo1 hinv
        by_cases hln : lo < n
        · obtain ⟨mid, hmid⟩ : ∃ m, m = min (lo + W) n := ⟨_, rfl⟩
          obtain ⟨hi, hhi⟩ : ∃ h, h = min (lo + 2 * W) n := ⟨_, rfl⟩
          have HMID : Hid (mid = min (lo + W) n) := hmid
          have HHI : Hid (hi = min (lo + 2 * W) n) := hhi
          clear hmid hhi
          go_upto_region 11 with fail
          go_cut [8] from 27 to 112 (fun s8 wc => s8 = .int .i64 mid ∧ wc = wr)
          case first =>
            go_wp2
            all_goals
              go_meet
              case rel =>
                refine ⟨?_, rfl⟩
                have := HMID.out
                rw [this]
                congr 1
                omega
          case rest =>
            obtain ⟨rfl, rfl⟩ := hcut
            go_upto_region 12 with fail
            go_cut [9] from 27 to 112 (fun s9 wc2 => s9 = .int .i64 hi ∧ wc2 = wc)
            case first =>
              go_wp2
              all_goals
                go_meet
                case rel =>
                  refine ⟨?_, rfl⟩
                  have := HHI.out
                  rw [this]
                  congr 1
                  omega
            case rest =>
              obtain ⟨rfl, rfl⟩ := hcut
              have hm1 : lo ≤ mid ∧ mid ≤ hi ∧ hi ≤ n := by have := HMID.out; have := HHI.out; omega
              have H3 : Hid (Mg xs ys1 (pass W hW1 (xs.drop (lo + 2 * W))) T mid hi lo mid lo) := mg_start HV.out HT1.out.2.2.2.1 hln HMID.out HHI.out
              obtain ⟨R, hR⟩ : ∃ R, pass W hW1 (xs.drop (lo + 2 * W)) = R := ⟨_, rfl⟩
              rw [hR] at H3
              have HR : Hid (pass W hW1 (xs.drop (lo + 2 * W)) = R) := hR
              clear hR
              go_wp2
              go_loopg [10, 11, 12] (2 * n + 1) (fun gk s10 s11 s12 wr => ∃ (i j : Nat) (ys2 : List Int), s10 = .int .i64 i ∧ s11 = .int .i64 j ∧ s12 = .int .i64 ((i + (j - mid) : Nat) : Int) ∧ lo ≤ i ∧ i ≤ mid ∧ mid ≤ j ∧ j ≤ hi ∧ (mid - i) + (hi - j) < gk ∧ Two w wr S D n xs ys2 ∧ Mg xs ys2 R T mid hi i j (i + (j - mid)))
              case atStart => exact ⟨lo, mid, ys1, rfl, rfl, by simp, by omega, by omega, by omega, by omega, by omega, HT1.out, by simpa using H3.out⟩
              case round =>
                obtain ⟨i, j, ys2, rfl, rfl, rfl, h1, h2, h3, h4, hgk2, htwo2, hmg⟩ := hrel
                have HT2 : Hid (Two w wr S D n xs ys2) := htwo2
                have HM2 : Hid (Mg xs ys2 R T mid hi i j (i + (j - mid))) := hmg
                clear htwo2 hmg
                obtain ⟨k, hk⟩ : ∃ k, i + (j - mid) = k := ⟨_, rfl⟩
                have HK : Hid (i + (j - mid) = k) := hk
                rw [hk] at HM2 ⊢
                have hk1 : k ≤ hi := by omega
                clear hk
                have hkn : k ≤ n := by omega
                have hlx := HT2.out.2.2.2.1
                have hly := HT2.out.2.2.2.2.1
                by_cases hij : i < mid ∧ j < hi
                · obtain ⟨hi1, hj1⟩ := hij
                  have hkk : k < n := by have := HK.out; omega
                  have cS1 := HT2.out.2.1.cell (j := i) (by omega)
                  have cS2 := HT2.out.2.1.cell (j := j) (by omega)
                  have cD := HT2.out.2.2.1.cell (j := k) (by omega)
                  have fD : wr.frozen? ⟨D, k, none⟩ = false := frozen_heap HT2.out.2.2.1 k
                  obtain ⟨vi, hvi⟩ : ∃ v, xs.getD i 0 = v := ⟨_, rfl⟩
                  obtain ⟨vj, hvj⟩ : ∃ v, xs.getD j 0 = v := ⟨_, rfl⟩
                  obtain ⟨vk, hvk⟩ : ∃ v, ys2.getD k 0 = v := ⟨_, rfl⟩
                  rw [hvi] at cS1
                  rw [hvj] at cS2
                  rw [hvk] at cD
                  have HVI : Hid (xs.getD i 0 = vi) := hvi
                  have HVJ : Hid (xs.getD j 0 = vj) := hvj
                  have HLN : Hid (xs.length = n ∧ ys2.length = n) := ⟨hlx, hly⟩
                  have hin : (i : Int) < n := by omega
                  have hjn : (j : Int) < n := by omega
                  have hkn2 : (k : Int) < n := by omega
                  have hi1' : (i : Int) < mid := by omega
                  have hj1' : (j : Int) < hi := by omega
                  clear hlx hly hvi hvj hvk
                  by_cases hle : vi ≤ vj
                  · go_wp2
                    go_quiet (fail)
                    go_wp2
                    go_roundg (gk - 1)
                    case measure => omega
                    case rel =>
                      have hl := HLN.out
                      have hmg := HM2.out.left hi1 (by omega) (by omega) (fun _ => ⟨by omega, by rw [HVI.out, HVJ.out]; exact hle⟩)
                      rw [HVI.out] at hmg
                      have e : i + 1 + (j - mid) = k + 1 := by have := HK.out; omega
                      exact ⟨i + 1, j, ys2.set k vi, by go_num, rfl, by rw [e]; go_num, by omega, by omega, by omega, by omega, by omega, (HT2.out.drewN _).put k vi, by rw [e]; exact hmg⟩
                  · go_wp2
                    go_quiet (fail)
                    go_wp2
                    go_roundg (gk - 1)
                    case measure => omega
                    case rel =>
                      have hl := HLN.out
                      have hmg := HM2.out.right hj1 (by omega) (by omega) (fun _ => ⟨by omega, by rw [HVI.out, HVJ.out]; omega⟩)
                      rw [HVJ.out] at hmg
                      have e : i + (j + 1 - mid) = k + 1 := by have := HK.out; omega
                      exact ⟨i, j + 1, ys2.set k vj, rfl, by go_num, by rw [e]; go_num, by omega, by omega, by omega, by omega, by omega, (HT2.out.drewN _).put k vj, by rw [e]; exact hmg⟩
                · have hEx : ¬ (i < mid) ∨ ¬ (j < hi) := by omega
                  have hor : i < mid → j = hi := by omega
                  have HOR : Hid (i < mid → j = hi) := hor
                  clear hlx hly hor hij
                  by_cases hi2 : i < mid
                  · have hi2' : (i : Int) < mid := by omega
                    have hj2 : ¬ ((j : Int) < hi) := by omega
                    go_wp2
                    go_loopg [10, 12] (n + 1) (fun gk s10 s12 wr => ∃ (i2 : Nat) (ys3 : List Int), s10 = .int .i64 i2 ∧ s12 = .int .i64 ((i2 + (j - mid) : Nat) : Int) ∧ lo ≤ i2 ∧ i2 ≤ mid ∧ mid - i2 < gk ∧ (i2 < mid → j = hi) ∧ Two w wr S D n xs ys3 ∧ Mg xs ys3 R T mid hi i2 j (i2 + (j - mid)))
                    case atStart => exact ⟨i, ys2, rfl, by rw [HK.out], h1, h2, by omega, HOR.out, HT2.out, by rw [HK.out]; exact HM2.out⟩
                    case round =>
                      obtain ⟨i2, ys3, rfl, rfl, p1, p2, hgk3, por, htwo3, hmg3⟩ := hrel
                      have HT3 : Hid (Two w wr S D n xs ys3) := htwo3
                      have HM3 : Hid (Mg xs ys3 R T mid hi i2 j (i2 + (j - mid))) := hmg3
                      have HPO : Hid (i2 < mid → j = hi) := por
                      obtain ⟨k3, hk3⟩ : ∃ k, i2 + (j - mid) = k := ⟨_, rfl⟩
                      have HK3 : Hid (i2 + (j - mid) = k3) := hk3
                      rw [hk3] at HM3 ⊢
                      clear htwo3 hmg3 por hk3
                      by_cases hi3 : i2 < mid
                      · have hkk : k3 < n := by have := HK3.out; omega
                        have hlx := HT3.out.2.2.2.1
                        have hly := HT3.out.2.2.2.2.1
                        have cS1 := HT3.out.2.1.cell (j := i2) (by omega)
                        have cD := HT3.out.2.2.1.cell (j := k3) (by omega)
                        have fD : wr.frozen? ⟨D, k3, none⟩ = false := frozen_heap HT3.out.2.2.1 k3
                        obtain ⟨vi, hvi⟩ : ∃ v, xs.getD i2 0 = v := ⟨_, rfl⟩
                        obtain ⟨vk, hvk⟩ : ∃ v, ys3.getD k3 0 = v := ⟨_, rfl⟩
                        rw [hvi] at cS1
                        rw [hvk] at cD
                        have HVI : Hid (xs.getD i2 0 = vi) := hvi
                        have HLN : Hid (xs.length = n ∧ ys3.length = n) := ⟨hlx, hly⟩
                        have hin : (i2 : Int) < n := by omega
                        have hkn2 : (k3 : Int) < n := by omega
                        have hi3' : (i2 : Int) < mid := by omega
                        clear hlx hly hvi hvk
                        go_wp2
                        go_roundg (gk - 1)
                        case measure => omega
                        case rel =>
                          have hl := HLN.out
                          have hmg := HM3.out.left hi3 (by omega) (by omega) (fun hq => absurd (HPO.out hi3) (by omega))
                          rw [HVI.out] at hmg
                          have e : i2 + 1 + (j - mid) = k3 + 1 := by have := HK3.out; omega
                          exact ⟨i2 + 1, ys3.set k3 vi, by go_num, by rw [e]; go_num, by omega, by omega, by omega, fun _ => HPO.out hi3, HT3.out.put k3 vi, by rw [e]; exact hmg⟩
                      · have hi3' : ¬ ((i2 : Int) < mid) := by omega
                        have HI2 : Hid (i2 = mid) := by show _ = _; omega
                        go_wp2
                        go_loopg [11, 12] (n + 1) (fun gk s11 s12 wr => ∃ (j2 : Nat) (ys4 : List Int), s11 = .int .i64 j2 ∧ s12 = .int .i64 ((mid + (j2 - mid) : Nat) : Int) ∧ mid ≤ j2 ∧ j2 ≤ hi ∧ hi - j2 < gk ∧ Two w wr S D n xs ys4 ∧ Mg xs ys4 R T mid hi mid j2 (mid + (j2 - mid)))
                        case atStart => exact ⟨j, ys3, rfl, by rw [← HK3.out, HI2.out], h3, h4, by omega, HT3.out, by have := HM3.out; rw [← HK3.out, HI2.out] at this; exact this⟩
                        case round =>
                          obtain ⟨j2, ys4, rfl, rfl, r1, r2, hgk4, htwo4, hmg4⟩ := hrel
                          have HT4 : Hid (Two w wr S D n xs ys4) := htwo4
                          have HM4 : Hid (Mg xs ys4 R T mid hi mid j2 (mid + (j2 - mid))) := hmg4
                          obtain ⟨k4, hk4⟩ : ∃ k, mid + (j2 - mid) = k := ⟨_, rfl⟩
                          have HK4 : Hid (mid + (j2 - mid) = k4) := hk4
                          rw [hk4] at HM4 ⊢
                          clear htwo4 hmg4 hk4
                          by_cases hj3 : j2 < hi
                          · have hkk : k4 < n := by have := HK4.out; omega
                            have hlx := HT4.out.2.2.2.1
                            have hly := HT4.out.2.2.2.2.1
                            have cS1 := HT4.out.2.1.cell (j := j2) (by omega)
                            have cD := HT4.out.2.2.1.cell (j := k4) (by omega)
                            have fD : wr.frozen? ⟨D, k4, none⟩ = false := frozen_heap HT4.out.2.2.1 k4
                            obtain ⟨vi, hvi⟩ : ∃ v, xs.getD j2 0 = v := ⟨_, rfl⟩
                            obtain ⟨vk, hvk⟩ : ∃ v, ys4.getD k4 0 = v := ⟨_, rfl⟩
                            rw [hvi] at cS1
                            rw [hvk] at cD
                            have HVI : Hid (xs.getD j2 0 = vi) := hvi
                            have HLN : Hid (xs.length = n ∧ ys4.length = n) := ⟨hlx, hly⟩
                            have hin : (j2 : Int) < n := by omega
                            have hkn2 : (k4 : Int) < n := by omega
                            have hj3' : (j2 : Int) < hi := by omega
                            clear hlx hly hvi hvk
                            go_wp2
                            go_roundg (gk - 1)
                            case measure => omega
                            case rel =>
                              have hl := HLN.out
                              have hmg := HM4.out.right hj3 (by omega) (by omega) (fun hq => absurd hq (Nat.lt_irrefl _))
                              rw [HVI.out] at hmg
                              have e : mid + (j2 + 1 - mid) = k4 + 1 := by have := HK4.out; omega
                              exact ⟨j2 + 1, ys4.set k4 vi, by go_num, by rw [e]; go_num, by omega, by omega, by omega, HT4.out.put k4 vi, by rw [e]; exact hmg⟩
                          · have hj3' : ¬ ((j2 : Int) < hi) := by omega
                            have HJ2 : Hid (j2 = hi) := by show _ = _; omega
                            go_wp2
                            go_roundg (GL - 1)
                            case measure => omega
                            case rel =>
                              refine ⟨lo + 2 * W, ys4, by go_num, by omega, by omega, HT4.out, ?_⟩
                              have h9 := HM4.out
                              rw [← HK4.out, HJ2.out] at h9
                              rw [HR.out]
                              exact mg_end h9 HT4.out.2.2.2.2.1 hm1.2.1 HHI.out
                  · have hi2' : ¬ ((i : Int) < mid) := by omega
                    go_wp2
                    go_loopg [10, 12] (n + 1) (fun gk s10 s12 wr => ∃ (i2 : Nat) (ys3 : List Int), s10 = .int .i64 i2 ∧ s12 = .int .i64 ((i2 + (j - mid) : Nat) : Int) ∧ lo ≤ i2 ∧ i2 ≤ mid ∧ mid - i2 < gk ∧ (i2 < mid → j = hi) ∧ Two w wr S D n xs ys3 ∧ Mg xs ys3 R T mid hi i2 j (i2 + (j - mid)))
                    case atStart => exact ⟨i, ys2, rfl, by rw [HK.out], h1, h2, by omega, HOR.out, HT2.out, by rw [HK.out]; exact HM2.out⟩
                    case round =>
                      obtain ⟨i2, ys3, rfl, rfl, p1, p2, hgk3, por, htwo3, hmg3⟩ := hrel
                      have HT3 : Hid (Two w wr S D n xs ys3) := htwo3
                      have HM3 : Hid (Mg xs ys3 R T mid hi i2 j (i2 + (j - mid))) := hmg3
                      have HPO : Hid (i2 < mid → j = hi) := por
                      obtain ⟨k3, hk3⟩ : ∃ k, i2 + (j - mid) = k := ⟨_, rfl⟩
                      have HK3 : Hid (i2 + (j - mid) = k3) := hk3
                      rw [hk3] at HM3 ⊢
                      clear htwo3 hmg3 por hk3
                      by_cases hi3 : i2 < mid
                      · have hkk : k3 < n := by have := HK3.out; omega
                        have hlx := HT3.out.2.2.2.1
                        have hly := HT3.out.2.2.2.2.1
                        have cS1 := HT3.out.2.1.cell (j := i2) (by omega)
                        have cD := HT3.out.2.2.1.cell (j := k3) (by omega)
                        have fD : wr.frozen? ⟨D, k3, none⟩ = false := frozen_heap HT3.out.2.2.1 k3
                        obtain ⟨vi, hvi⟩ : ∃ v, xs.getD i2 0 = v := ⟨_, rfl⟩
                        obtain ⟨vk, hvk⟩ : ∃ v, ys3.getD k3 0 = v := ⟨_, rfl⟩
                        rw [hvi] at cS1
                        rw [hvk] at cD
                        have HVI : Hid (xs.getD i2 0 = vi) := hvi
                        have HLN : Hid (xs.length = n ∧ ys3.length = n) := ⟨hlx, hly⟩
                        have hin : (i2 : Int) < n := by omega
                        have hkn2 : (k3 : Int) < n := by omega
                        have hi3' : (i2 : Int) < mid := by omega
                        clear hlx hly hvi hvk
                        go_wp2
                        go_roundg (gk - 1)
                        case measure => omega
                        case rel =>
                          have hl := HLN.out
                          have hmg := HM3.out.left hi3 (by omega) (by omega) (fun hq => absurd (HPO.out hi3) (by omega))
                          rw [HVI.out] at hmg
                          have e : i2 + 1 + (j - mid) = k3 + 1 := by have := HK3.out; omega
                          exact ⟨i2 + 1, ys3.set k3 vi, by go_num, by rw [e]; go_num, by omega, by omega, by omega, fun _ => HPO.out hi3, HT3.out.put k3 vi, by rw [e]; exact hmg⟩
                      · have hi3' : ¬ ((i2 : Int) < mid) := by omega
                        have HI2 : Hid (i2 = mid) := by show _ = _; omega
                        go_wp2
                        go_loopg [11, 12] (n + 1) (fun gk s11 s12 wr => ∃ (j2 : Nat) (ys4 : List Int), s11 = .int .i64 j2 ∧ s12 = .int .i64 ((mid + (j2 - mid) : Nat) : Int) ∧ mid ≤ j2 ∧ j2 ≤ hi ∧ hi - j2 < gk ∧ Two w wr S D n xs ys4 ∧ Mg xs ys4 R T mid hi mid j2 (mid + (j2 - mid)))
                        case atStart => exact ⟨j, ys3, rfl, by rw [← HK3.out, HI2.out], h3, h4, by omega, HT3.out, by have := HM3.out; rw [← HK3.out, HI2.out] at this; exact this⟩
                        case round =>
                          obtain ⟨j2, ys4, rfl, rfl, r1, r2, hgk4, htwo4, hmg4⟩ := hrel
                          have HT4 : Hid (Two w wr S D n xs ys4) := htwo4
                          have HM4 : Hid (Mg xs ys4 R T mid hi mid j2 (mid + (j2 - mid))) := hmg4
                          obtain ⟨k4, hk4⟩ : ∃ k, mid + (j2 - mid) = k := ⟨_, rfl⟩
                          have HK4 : Hid (mid + (j2 - mid) = k4) := hk4
                          rw [hk4] at HM4 ⊢
                          clear htwo4 hmg4 hk4
                          by_cases hj3 : j2 < hi
                          · have hkk : k4 < n := by have := HK4.out; omega
                            have hlx := HT4.out.2.2.2.1
                            have hly := HT4.out.2.2.2.2.1
                            have cS1 := HT4.out.2.1.cell (j := j2) (by omega)
                            have cD := HT4.out.2.2.1.cell (j := k4) (by omega)
                            have fD : wr.frozen? ⟨D, k4, none⟩ = false := frozen_heap HT4.out.2.2.1 k4
                            obtain ⟨vi, hvi⟩ : ∃ v, xs.getD j2 0 = v := ⟨_, rfl⟩
                            obtain ⟨vk, hvk⟩ : ∃ v, ys4.getD k4 0 = v := ⟨_, rfl⟩
                            rw [hvi] at cS1
                            rw [hvk] at cD
                            have HVI : Hid (xs.getD j2 0 = vi) := hvi
                            have HLN : Hid (xs.length = n ∧ ys4.length = n) := ⟨hlx, hly⟩
                            have hin : (j2 : Int) < n := by omega
                            have hkn2 : (k4 : Int) < n := by omega
                            have hj3' : (j2 : Int) < hi := by omega
                            clear hlx hly hvi hvk
                            go_wp2
                            go_roundg (gk - 1)
                            case measure => omega
                            case rel =>
                              have hl := HLN.out
                              have hmg := HM4.out.right hj3 (by omega) (by omega) (fun hq => absurd hq (Nat.lt_irrefl _))
                              rw [HVI.out] at hmg
                              have e : mid + (j2 + 1 - mid) = k4 + 1 := by have := HK4.out; omega
                              exact ⟨j2 + 1, ys4.set k4 vi, by go_num, by rw [e]; go_num, by omega, by omega, by omega, HT4.out.put k4 vi, by rw [e]; exact hmg⟩
                          · have hj3' : ¬ ((j2 : Int) < hi) := by omega
                            have HJ2 : Hid (j2 = hi) := by show _ = _; omega
                            go_wp2
                            go_roundg (GL - 1)
                            case measure => omega
                            case rel =>
                              refine ⟨lo + 2 * W, ys4, by go_num, by omega, by omega, HT4.out, ?_⟩
                              have h9 := HM4.out
                              rw [← HK4.out, HJ2.out] at h9
                              rw [HR.out]
                              exact mg_end h9 HT4.out.2.2.2.2.1 hm1.2.1 HHI.out
        · go_wp2
          go_roundg (GK - 1)
          case measure => omega
          case rel =>
            have h5 := HT1.out
            have he : ys1 = T := by
              have := HV.out
              rwa [List.take_of_length_le (by rw [h5.2.2.2.2.1]; omega), List.drop_eq_nil_of_le (by rw [h5.2.2.2.1]; omega), pass_nil, List.append_nil] at this
            refine ⟨D, S, 2 * W, ys1, xs, rfl, rfl, by go_num, by omega, by omega, by omega, ⟨fun e => h5.1 e.symm, h5.2.2.1, h5.2.1, h5.2.2.2.2.1, h5.2.2.2.1, hS, h5.2.2.2.2.2.2⟩, h5.2.2.2.2.2.1, ?_, ?_⟩
            · rw [he, ← HTT.out]; exact (pass_perm W hW1 xs).trans HP.out
            · rw [he, ← HTT.out]; exact chunks_pass W hW1 xs HC.out
    · go_wp2
      go_ret
      have h5 := HT.out
      exact ⟨S, xs, rfl, h5.2.1, HP.out, chunks_end HC.out (by rw [h5.2.2.2.1]; omega), h5.2.2.2.2.2.2⟩
end Go.Proofs.Qxb6616145a
