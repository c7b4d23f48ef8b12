import Derived.Test.Qxb6616245aDoorFlush
import Derived.Lib.BufferWrite
namespace Go.Proofs.Qxb6616245aDoor
open Go.RowKit

theorem setRow_same {w : World} {g : Nat} {cs : Array Value} {t : TypeId} {f : Nat × Nat} (hg : w.heap[g]? = some (.cells cs t f)) : w.setRow g cs = w := by
  have : (w.setRow g cs).heap = w.heap := by
    apply Array.ext_getElem?
    intro i
    by_cases h : i = g
    · subst h; rw [setRow_heap _ _ _ _ _ _ hg, hg]
    · exact setRow_other _ _ _ _ h
  cases w
  simp only [World.setRow] at this ⊢
  rw [this]

/-- 'copy', one step of a region that draws, the world behind it said. -/
theorem step_copyW {P : Program} {ops : Array Oper} {o : Oper} {a : Act} {w : World} {K : Act → World → Prop} {Q : Exit → Act → World → Prop} {E : Prop} (hgd : o.guard = none) (d s : Operand) (dT sT : TypeId)
    (ho : o.op = .call { callee := .builtin .copy, args := #[d, s], argTypes := #[dT, sT] }) (elem : TypeId) (hu : P.underlying dT = some (.slice elem)) (hsz : (P.info? elem).map (·.size) = some 1)
    (dp sp : Option Addr) (dLen dCap sLen sCap : Nat) (hd : a.eval d = .slice dp dLen dCap) (hs : a.eval s = .slice sp sLen sCap)
    (g off : Nat) (cur : List Value) (t : TypeId) (hg : w.heap[g]? = some (.cells cur.toArray t (0, 0))) (cs : List Value) (hn : cs.length = Nat.min sLen dLen)
    (hpos : 0 < cs.length → dp = some ⟨g, off, none⟩ ∧ ∃ ad, sp = some ad ∧ ∀ j v, cs[j]? = some v → w.cell? (ad.add j) = some v)
    (hfit : off + cs.length ≤ cur.length) (h1 : ∀ v ∈ cs, v.oneCell' = true)
    (h : K (a.put o.dst (goInt cs.length)) (w.setRow g (splice cur off cs).toArray)) :
    if Region.wanted o (yielded ops a.tmps) = true then Oper.wp P o a w K Q else E := by
  have hw : Region.wanted o (yielded ops a.tmps) = true := by simp [Region.wanted, hgd]
  rw [if_pos hw]
  by_cases h0 : cs.length = 0
  · obtain rfl : cs = [] := List.eq_nil_of_length_eq_zero h0
    have hrun := run_copy_none (P := P) w dT sT o.type elem dp sp dLen dCap sLen sCap hu hsz (by simpa using hn.symm)
    unfold Oper.wp
    simp [execOp, ho, resolve, invoke, builtin, hd, hs, hrun, Result.andThen]
    have e : splice cur off [] = cur := by simp [splice]
    rw [e, setRow_same hg] at h
    exact h
  · obtain ⟨rfl, ad, rfl, hsrc⟩ := hpos (by omega)
    have hrun := run_copy_row (P := P) w dT sT o.type elem g off dLen dCap ad sLen sCap cur.toArray t cs hu hsz hg hn hsrc (by simpa using hfit) h1
    unfold Oper.wp
    simp [execOp, ho, resolve, invoke, builtin, hd, hs, hrun, Result.andThen]
    have e : (splice cur off cs).toArray = (List.take off cur ++ (cs ++ List.drop (off + cs.length) cur)).toArray := rfl
    rw [e] at h
    exact h

theorem run_copy_str {P : Program} (w : World) (dT sT ty elem : TypeId) (g o dLen dCap : Nat) (s : ByteArray) (cur : Array Value) (t : TypeId) (cs : List Value) (hcs : cs = (Lib.byteCells s.data.toList).take (Nat.min s.size dLen))
    (hu : P.underlying dT = some (.slice elem)) (hs : (P.info? elem).map (·.size) = some 1) (hg : w.heap[g]? = some (.cells cur t (0, 0))) (hfit : o + cs.length ≤ cur.size) :
    (Builtin.copy_ #[dT, sT] ty #[.slice (some ⟨g, o, none⟩) dLen dCap, .string s]).run P w =
      .ok (goInt cs.length) (w.setRow g (cur.toList.take o ++ (cs ++ cur.toList.drop (o + cs.length))).toArray) := by
  have h1 : ∀ v ∈ cs, v.oneCell' = true := fun v hv => Lib.byteCells_one _ v (List.mem_of_mem_take (hcs ▸ hv))
  have hst := run_storeCells_at P g o t cs 0 cur w hg (by simpa using hfit) h1
  simp only [Nat.add_zero] at hst
  have hl : cs.length = Nat.min s.size dLen := by
    rw [hcs, List.length_take, Lib.byteCells_length, ← Lib.size_eq]
    exact Nat.min_eq_left (Nat.min_le_left _ _)
  cases hq : P.info? elem with
  | none => simp [hq] at hs
  | some i =>
    simp only [Builtin.copy_, Builtin.lenOf, Builtin.firstCells, sizeOf, typeInfo]
    have he : List.take (Nat.min s.size dLen) (List.map (fun b : UInt8 => Value.int IntKind.u8 (b.toNat : Int)) s.data.toList) = cs := hcs.symm
    simp [run_underlying hu, hq]
    rw [he, hst]
    simp [Result.andThen, hl]

theorem step_copyS {P : Program} {ops : Array Oper} {o : Oper} {a : Act} {w : World} {K : Act → World → Prop} {Q : Exit → Act → World → Prop} {E : Prop} (hgd : o.guard = none) (d s : Operand) (dT sT : TypeId)
    (ho : o.op = .call { callee := .builtin .copy, args := #[d, s], argTypes := #[dT, sT] }) (elem : TypeId) (hu : P.underlying dT = some (.slice elem)) (hsz : (P.info? elem).map (·.size) = some 1)
    (g off : Nat) (dp : Option Addr) (dLen dCap : Nat) (S : ByteArray) (hd : a.eval d = .slice dp dLen dCap) (hs : a.eval s = .string S)
    (cur : List Value) (t : TypeId) (hg : w.heap[g]? = some (.cells cur.toArray t (0, 0))) (cs : List Value) (hcs : cs = (Lib.byteCells S.data.toList).take (Nat.min S.size dLen))
    (hdp : dp = some ⟨g, off, none⟩ ) (hfit : off + cs.length ≤ cur.length)
    (h : K (a.put o.dst (goInt cs.length)) (w.setRow g (splice cur off cs).toArray)) :
    if Region.wanted o (yielded ops a.tmps) = true then Oper.wp P o a w K Q else E := by
  have hw : Region.wanted o (yielded ops a.tmps) = true := by simp [Region.wanted, hgd]
  rw [if_pos hw]
  subst hdp
  have hrun := run_copy_str (P := P) w dT sT o.type elem g off dLen dCap S cur.toArray t cs hcs hu hsz hg (by simpa using hfit)
  unfold Oper.wp
  simp [execOp, ho, resolve, invoke, builtin, hd, hs, hrun, Result.andThen]
  have e : (splice cur off cs).toArray = (List.take off cur ++ (cs ++ List.drop (off + cs.length) cur)).toArray := rfl
  rw [e] at h
  exact h

theorem Wr.put {w w1 : World} {B bb bw bf n m : Nat} {go : Option Nat} {cur : List Value} {done l x : List UInt8} (h : Wr w B bb bw bf n go cur done l) (e : w1.heap = w.heap) (ho : w1.os = w.os) (hu : w1.output = w.output) (hx : x.length = m) (hm : n + m ≤ 16384) :
    Wr ((w1.setRow bf (splice cur n (Lib.byteCells x)).toArray).setCell ⟨bw, 2, none⟩ (.int .i64 ((n + m : Nat) : Int))) B bb bw bf (n + m) go (splice cur n (Lib.byteCells x)) done (l ++ x) ∧
    Fr (fun k => k = bw ∨ k = bf) w ((w1.setRow bf (splice cur n (Lib.byteCells x)).toArray).setCell ⟨bw, 2, none⟩ (.int .i64 ((n + m : Nat) : Int))) := by
  have hlc := h.len
  have hlx : (Lib.byteCells x).length = m := by rw [Lib.byteCells_length, hx]
  have hwb : (w1.setRow bf (splice cur n (Lib.byteCells x)).toArray).heap[bw]? = some (.cells (wcells bb bf n) 52 (0, 0)) := by
    rw [setRow_other _ _ _ _ h.ne.2.2, e]; exact h.wb
  refine ⟨⟨h.lo, h.ne, h.row, by rw [heap_setCell hwb]; rfl, ?_, ?_, hm, ?_, ?_⟩, ?_⟩
  · rw [Below.heap_setCell _ _ _ _ (by have := h.ne; show bf ≠ bw; omega)]
    exact setRow_heap _ _ _ _ _ _ (by rw [e]; exact h.fb)
  · rw [length_splice _ _ _ (by omega)]; exact hlc
  · refine h.buf.carry ?_ (fun g hg => ?_)
    · rw [Below.heap_setCell _ _ _ _ (by have := h.ne; show bb ≠ bw; omega), setRow_other _ _ _ _ (by have := h.ne; omega), e]
    · have := h.row g hg
      rw [Below.heap_setCell _ _ _ _ (by show g ≠ bw; omega), setRow_other _ _ _ _ (by omega), e]
  · rw [splice, laid_take (by omega) hlx, h.pend, Lib.byteCells_append]
  · refine Fr.setCell (X := fun k => k = bw ∨ k = bf) ?_ (p := ⟨bw, 2, none⟩) (fun _ => .inl rfl) _
    refine Fr.setRow (X := fun k => k = bw ∨ k = bf) ?_ (fun _ => .inr rfl) _
    exact ⟨ho, hu, by rw [e]; exact Nat.le_refl _, fun k _ _ => by rw [e]⟩
end Go.Proofs.Qxb6616245aDoor
