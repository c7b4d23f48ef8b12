import Derived.Test.Qxb6616245aDoorCopy
import Derived.Deep.LoopGhost
namespace Go.Proofs.Qxb6616245aDoor
open Go.RowKit

/-- What Write is handed: nothing, or bytes at an address; where they do not fit the writer's rest, the address lies apart from the writer's blocks. -/
def Given (w : World) (bb bw bf n : Nat) (go : Option Nat) (sp : Option Addr) (x : List UInt8) : Prop :=
  x = [] ∨ ∃ pb po, sp = some ⟨pb, po, none⟩ ∧ (∀ j v, (Lib.byteCells x)[j]? = some v → w.cell? ⟨pb, po + j, none⟩ = some v) ∧ (n + x.length ≤ 16384 ∨ (pb ≠ bb ∧ pb ≠ bw ∧ pb ≠ bf ∧ go ≠ some pb ∧ pb < w.heap.size))

theorem Given.pos {w : World} {bb bw bf n : Nat} {go : Option Nat} {sp : Option Addr} {x : List UInt8} (h : Given w bb bw bf n go sp x) (dp : Option Addr) (hdp : n + x.length ≤ 16384 → n < 16384 → dp = some ⟨bf, n, none⟩) (hf : n + x.length ≤ 16384) :
    0 < (Lib.byteCells x).length → dp = some ⟨bf, n, none⟩ ∧ ∃ ad, sp = some ad ∧ ∀ j v, (Lib.byteCells x)[j]? = some v → w.cell? (ad.add j) = some v := by
  intro hp
  rw [Lib.byteCells_length] at hp
  rcases h with rfl | ⟨pb, po, rfl, hc, _⟩
  · simp at hp
  · exact ⟨hdp hf (by omega), _, rfl, fun j v hj => by rw [Lib.addr_add]; exact hc j v hj⟩

theorem Wr.put' {w w1 : World} {B bb bw bf n m : Nat} {go : Option Nat} {cur : List Value} {done l x : List UInt8} (h : Wr w B bb bw bf n go cur done l) (e : w1.heap = w.heap) (ho : w1.os = w.os) (hu : w1.output = w.output) (hx : x.length = m) (hm : n + m ≤ 16384) :
    Wr ((w1.setRow bf (splice cur n (Lib.byteCells x)).toArray).setCell ⟨bw, 2, none⟩ (.int .i64 ((n : Int) + (m : Int)))) B bb bw bf (n + m) go (splice cur n (Lib.byteCells x)) done (l ++ x) ∧
    Fr (fun k => k = bw ∨ k = bf) w ((w1.setRow bf (splice cur n (Lib.byteCells x)).toArray).setCell ⟨bw, 2, none⟩ (.int .i64 ((n : Int) + (m : Int)))) := by
  have := h.put e ho hu hx hm
  rwa [Int.natCast_add] at this

/-- Cells of bw behind the copy. -/
theorem Wr.past {w : World} {B bb bw bf n : Nat} {go : Option Nat} {cur : List Value} {done l : List UInt8} (h : Wr w B bb bw bf n go cur done l) (k : Nat) (r : Array Value) :
    ((w.drewN k).setRow bf r).cell? ⟨bw, 2, none⟩ = some (.int .i64 n) ∧ ((w.drewN k).setRow bf r).frozen? ⟨bw, 2, none⟩ = false := by
  have e : ((w.drewN k).setRow bf r).heap[bw]? = some (.cells (wcells bb bf n) 52 (0, 0)) := (setRow_other _ _ _ _ h.ne.2.2).trans h.wb
  exact ⟨by rw [Lib.cell_of_heap e]; rfl, Lib.frozen_of_heap e 2⟩

set_option maxHeartbeats 2000000 in
theorem write_fit (B bb bw bf n : Nat) (go : Option Nat) (cur : List Value) (done l x : List UInt8) (sp : Option Addr) (m c : Nat) (w : World) (h : Wr w B bb bw bf n go cur done l) (hx : x.length = m) (hf : n + m ≤ 16384) (hg : Given w bb bw bf n go sp x) :
    Calls Tryd.prog 18 #[.pointer (some ⟨bw, 0, none⟩), .slice sp m c] w fun e w' => e = .returned (.tuple #[.int .i64 m, .nilIface]) ∧ Wr w' B bb bw bf (n + m) go (splice cur n (Lib.byteCells x)) done (l ++ x) ∧ Fr (fun k => k = bw ∨ k = bf) w w' := by
  obtain ⟨c0, c1, c2, c3⟩ := h.wcell
  have hn := h.hn
  have hni : (n : Int) ≤ 16384 := by omega
  have hfi : (m : Int) ≤ 16384 - n := by omega
  have hfj : ¬ (16384 - (n : Int) < m) := by omega
  have HW : Hid (Wr w B bb bw bf n go cur done l) := h
  have HG : Hid (Given w bb bw bf n go sp x) := hg
  have HX : Hid (x.length = m) := hx
  have HN : Hid ((Lib.byteCells x).length = m) := (Lib.byteCells_length _).trans hx
  have HM : Hid ((Lib.byteCells x).length = Nat.min m (16384 - n)) := by
    show _ = _
    rw [HN.out]; exact (Nat.min_eq_left (by omega)).symm
  have HF : Hid (n + (Lib.byteCells x).length ≤ cur.length) := by
    show _ ≤ _
    rw [HN.out, h.len]; exact hf
  have HP : Hid (n + x.length ≤ 16384) := by show _ ≤ _; rw [hx]; exact hf
  have p2 : ∀ k r, ((w.drewN k).setRow bf r).cell? ⟨bw, 2, none⟩ = some (.int .i64 n) := fun k r => (h.past k r).1
  have q2 : ∀ k r, ((w.drewN k).setRow bf r).frozen? ⟨bw, 2, none⟩ = false := fun k r => (h.past k r).2
  clear h hg hx
  go_enter Tryd.func18, Tryd.ntmps18
  go_wp2
  go_loopg [1, 4, 6] 2 (fun _ p nn _ wr => p = .slice sp m c ∧ nn = .int .i64 0 ∧ wr = w)
  case atStart => exact ⟨rfl, rfl, rfl⟩
  case round =>
    obtain ⟨rfl, rfl, rfl⟩ := hrel
    go_wp2_with (go_at_call 21; refine (available B bb bw bf n go cur done l _ ?_).mono ?_; exact HW.out; rintro e w' ⟨rfl, k, rfl⟩)
    have hcl : (Lib.byteCells x).length = m := HN.out
    go_region_law (refine step_copyW rfl (.tmp 80) (.tmp 81) 25 25 rfl 5 Tryd.underlying25 size5 _ sp (16384 - n) (16384 - n) m c rfl rfl bf n cur 5 HW.out.fb (Lib.byteCells x) HM.out (HG.out.pos _ (fun _ hq => if_neg (Nat.ne_of_gt hq)) HP.out) HF.out (Lib.byteCells_one _) ?_)
    all_goals
      go_wp2
      all_goals
        go_ret2
        exact ⟨rfl, HW.out.put' (w1 := wr.drewN _) rfl rfl rfl HX.out hf⟩
end Go.Proofs.Qxb6616245aDoor
