import Derived.Test.Qxb6616245aDoorStr
namespace Go.Proofs.Qxb6616245aDoor
open Go.RowKit

/-- append with room in a row that is known whole. -/
theorem run_append_row {P : Program} (w : World) (t tx ty e : TypeId) (i : TypeInfo) (ht : P.underlying t = some (.slice e)) (hi : P.info? e = some i) (h1 : i.size = 1) (b off sLen sCap : Nat) (x : Value) (n : Nat) (news : List Value) (hs : Src P 1 tx x n news w)
    (hroom : sLen + n ≤ sCap) (cur : List Value) (T : TypeId) (hg : w.heap[b]? = some (.cells cur.toArray T (0, 0))) (hfit : off + sLen + n ≤ cur.length) :
    (Builtin.append_ #[t, tx] ty #[.slice (some ⟨b, off, none⟩) sLen sCap, x]).run P w = .ok (.slice (some ⟨b, off, none⟩) (sLen + n) sCap) (w.setRow b (splice cur (off + sLen) news).toArray) := by
  have hnl : news.length = n := by simpa using hs.newsLen
  have hst := run_storeCells_at P b (off + sLen) T news 0 cur.toArray w hg (by simp; omega) hs.one
  simp only [Nat.add_zero] at hst
  have e1 : (List.take (off + sLen) cur ++ news ++ List.drop (off + sLen + news.length) cur).toArray = (splice cur (off + sLen) news).toArray := by rw [splice, List.append_assoc]
  rw [e1] at hst
  rcases hs.kind with ⟨e', hk⟩ | hk <;> simp [Builtin.append_, run_underlying ht, run_underlying hk, sizeOf, typeInfo, hi, h1, hs.len, hroom, hs.cells, Addr.add_lit, hst]

/-- What has been appended to the spare that AvailableBuffer handed out: it lies in the writer's own buffer still, or in a row of its own. -/
def Ap (w0 w : World) (B bb bw bf n : Nat) (go : Option Nat) (done l : List UInt8) (v : Value) (ks : List UInt8) : Prop :=
  ∃ cur, Wr w B bb bw bf n go cur done l ∧ Kp bb bw bf w0 go w go ∧ (bb < w0.heap.size ∧ bw < w0.heap.size ∧ bf < w0.heap.size ∧ ∀ g, go = some g → g < w0.heap.size) ∧
    ((∃ o, n + ks.length ≤ 16384 ∧ v = .slice (some ⟨bf, o, none⟩) ks.length (16384 - n) ∧ (n < 16384 → o = n) ∧ ∀ j u, (Lib.byteCells ks)[j]? = some u → cur[n + j]? = some u) ∨
     (∃ (g : Nat) (arr : List Value), v = .slice (some ⟨g, 0, none⟩) ks.length arr.length ∧ w.heap[g]? = some (.cells arr.toArray 5 (0, 0)) ∧ arr.length ≤ maxLen ∧ ks.length ≤ arr.length ∧ arr.take ks.length = Lib.byteCells ks ∧ w0.heap.size ≤ g))

section
variable {w0 w : World} {B bb bw bf n : Nat} {go : Option Nat} {done l : List UInt8} {v : Value} {ks : List UInt8}

theorem Ap.carry {w' : World} (h : Ap w0 w B bb bw bf n go done l v ks) (fr : Fr (fun _ => False) w w') : Ap w0 w' B bb bw bf n go done l v ks := by
  obtain ⟨cur, hW, hK, hlt, h⟩ := h
  refine ⟨cur, hW.carry (fun k _ hk => fr.block k hk id), hK.trans (.of_none fr), hlt, h.imp id ?_⟩
  rintro ⟨g, arr, h1, h2, h3⟩
  exact ⟨g, arr, h1, (fr.block g (Lib.lt_of_heap h2) id).trans h2, h3⟩
theorem Ap.alloc (h : Ap w0 w B bb bw bf n go done l v ks) (o : Obj) : Ap w0 (w.alloc o) B bb bw bf n go done l v ks := h.carry ((Fr.refl _ w).alloc o)
theorem Ap.drewN (h : Ap w0 w B bb bw bf n go done l v ks) (k : Nat) : Ap w0 (w.drewN k) B bb bw bf n go done l v ks := h.carry ((Fr.refl _ w).drewN k)
theorem Ap.kp (h : Ap w0 w B bb bw bf n go done l v ks) : Kp bb bw bf w0 go w go := by obtain ⟨_, _, h, _⟩ := h; exact h

/-- What Write gets. -/
theorem Ap.given (h : Ap w0 w B bb bw bf n go done l v ks) : ∃ cur sp c, Wr w B bb bw bf n go cur done l ∧ v = .slice sp ks.length c ∧ ks.length ≤ c ∧ c ≤ 9223372036854775807 ∧ Given w bb bw bf n go sp ks := by
  obtain ⟨cur, hW, hK, hlt, ⟨o, hf, rfl, ho, hc⟩ | ⟨g, arr, rfl, hg, hm, hle, htk, hge⟩⟩ := h
  · refine ⟨cur, _, _, hW, rfl, by omega, by omega, ?_⟩
    by_cases h0 : ks = []
    · exact .inl h0
    · have hpos : 0 < ks.length := List.length_pos_iff.2 h0
      obtain rfl := ho (by omega)
      refine .inr ⟨bf, o, rfl, fun j u hj => ?_, .inl hf⟩
      rw [Lib.cell_of_heap hW.fb, List.getElem?_toArray]
      exact hc j u hj
  · refine ⟨cur, _, _, hW, rfl, hle, hm, ?_⟩
    refine .inr ⟨g, 0, rfl, fun j u hj => ?_, .inr ⟨by omega, by omega, by omega, fun e => by have := hlt.2.2.2 g e; omega, Lib.lt_of_heap hg⟩⟩
    rw [Nat.zero_add, Lib.cell_of_heap hg, List.getElem?_toArray]
    rw [← htk, List.getElem?_take] at hj
    split at hj
    · exact hj
    · cases hj

theorem splice_get {α : Type} {cur news : List α} {off : Nat} (h : off + news.length ≤ cur.length) (j : Nat) (hj : j < off) : (splice cur off news)[j]? = cur[j]? := by
  rw [splice, List.getElem?_append_left (by simp; omega), List.getElem?_take, if_pos hj]
theorem splice_in {α : Type} {cur news : List α} {off : Nat} (h : off + news.length ≤ cur.length) (j : Nat) (hj : j < news.length) : (splice cur off news)[off + j]? = news[j]? := by
  rw [splice, List.getElem?_append_right (by simp; omega), List.getElem?_append_left (by simp; omega)]
  congr 1
  simp
  omega

/-- A row of the writer's buffer set behind n. -/
theorem Wr.spare {cur : List Value} (h : Wr w B bb bw bf n go cur done l) (off : Nat) (news : List Value) (h1 : n ≤ off) (h2 : off + news.length ≤ 16384) :
    Wr (w.setRow bf (splice cur off news).toArray) B bb bw bf n go (splice cur off news) done l := by
  have hl := h.len
  refine ⟨h.lo, h.ne, h.row, (setRow_other _ _ _ _ h.ne.2.2).trans h.wb, setRow_heap _ _ _ _ _ _ h.fb, by rw [length_splice _ _ _ (by omega)]; exact hl, h.hn, ?_, ?_⟩
  · refine h.buf.carry (setRow_other _ _ _ _ (by have := h.ne; omega)) (fun g hg => setRow_other _ _ _ _ (by have := h.row g hg; omega))
  · rw [← h.pend, splice, List.take_append_of_le_length (by simp; omega), List.take_take, Nat.min_eq_left h1]

/-- One append more. -/
theorem ap_append (h : Ap w0 w B bb bw bf n go done l v ks) (tx ty : TypeId) (x : Value) (ys : List UInt8) (m : Nat) (hm : ys.length = m) (hy : 1 ≤ m) (hs : Src Tryd.prog 1 tx x m (Lib.byteCells ys) w) (hlim : ks.length + m ≤ 1000000) :
    ∃ v' w', (Builtin.append_ #[25, tx] ty #[v, x]).run Tryd.prog w = .ok v' w' ∧ Ap w0 w' B bb bw bf n go done l v' (ks ++ ys) := by
  subst hm
  obtain ⟨i, hi, hz, hsz, hby⟩ := info5
  obtain ⟨cur, hW, hK, hlt, hv⟩ := h
  have hyl : (Lib.byteCells ys).length = ys.length := Lib.byteCells_length _
  have hkl : (Lib.byteCells ks).length = ks.length := Lib.byteCells_length _
  have hWl := hW.len
  have hn := hW.hn
  -- a new row
  have grow : ∀ (ao : Option Addr) (c : Nat), v = .slice ao ks.length c → c < ks.length + ys.length → (Builtin.firstCells i.size ks.length (.slice ao ks.length c)).run Tryd.prog w.drew = .ok (Lib.byteCells ks).toArray w.drew →
      ∃ v' w', (Builtin.append_ #[25, tx] ty #[v, x]).run Tryd.prog w = .ok v' w' ∧ Ap w0 w' B bb bw bf n go done l v' (ks ++ ys) := by
    rintro ao c rfl hc hold
    have hrun := run_append_grow_src (P := Tryd.prog) w 25 tx ty 5 i (.int .u8 0) Tryd.underlying25 hi hz ao ks.length c (Lib.byteCells ks) hold x ys.length (Lib.byteCells ys) (by rw [hsz]; exact hs) hc (by omega) (growslice_fits hc (by rw [hby]; omega))
    refine ⟨_, _, hrun, cur, (hW.carry (fun k _ hk => Below.heap_alloc w.drew _ k hk)), hK.trans (.of_none (((Fr.refl _ w).drew).alloc _)), hlt, .inr ⟨w.heap.size, Lib.byteCells ks ++ Lib.byteCells ys ++ (Builtin.zeroCells (Value.int .u8 0).cells (grownCap w (ks.length + ys.length) c 5 - (ks.length + ys.length))).toList, ?_, ?_, ?_, ?_, ?_, hK.size⟩⟩
    · have hge := grownCap_ge w (ks.length + ys.length) c 5
      have e : (Lib.byteCells ks ++ Lib.byteCells ys ++ (Builtin.zeroCells (Value.int .u8 0).cells (grownCap w (ks.length + ys.length) c 5 - (ks.length + ys.length))).toList).length = grownCap w (ks.length + ys.length) c 5 := by
        have hzc : (Builtin.zeroCells (Value.int .u8 0).cells (grownCap w (ks.length + ys.length) c 5 - (ks.length + ys.length))).size = grownCap w (ks.length + ys.length) c 5 - (ks.length + ys.length) := by
          rw [size_zeroCells]
          simp [Value.cells]
        simp only [List.length_append, hkl, hyl, Array.length_toList, hzc]
        omega
      rw [e, List.length_append]
    · refine (blockTop w.drew _ _ rfl).trans ?_
      simp
    · have hge := grownCap_ge w (ks.length + ys.length) c 5
      have hle := grownCap_le_maxLen w (ks.length + ys.length) c 5 (by unfold maxLen; omega)
      have hzc : (Builtin.zeroCells (Value.int .u8 0).cells (grownCap w (ks.length + ys.length) c 5 - (ks.length + ys.length))).size = grownCap w (ks.length + ys.length) c 5 - (ks.length + ys.length) := by
        rw [size_zeroCells]
        simp [Value.cells]
      simp only [List.length_append, hkl, hyl, Array.length_toList, hzc]
      omega
    · simp only [List.length_append, hkl, hyl]
      omega
    · rw [List.take_append_of_le_length (by simp [hkl, hyl]), List.take_of_length_le (by simp [hkl, hyl]), Lib.byteCells_append]
  rcases hv with ⟨o, hf, rfl, ho, hc⟩ | ⟨g, arr, rfl, hg, hmx, hle, htk, hge⟩
  · by_cases hroom : ks.length + ys.length ≤ 16384 - n
    · obtain rfl := ho (by omega)
      have hrun := run_append_row (P := Tryd.prog) w 25 tx ty 5 i Tryd.underlying25 hi hsz bf o ks.length (16384 - o) x ys.length (Lib.byteCells ys) hs hroom cur 5 hW.fb (by omega)
      refine ⟨_, _, hrun, _, hW.spare (o + ks.length) _ (by omega) (by omega), hK.trans (.of_put ((Fr.refl _ w).setRow (fun _ => .inr rfl) _)), hlt, .inl ⟨o, by simp; omega, by simp, fun _ => rfl, fun j u hj => ?_⟩⟩
      rw [Lib.byteCells_append] at hj
      by_cases hjk : j < ks.length
      · rw [splice_get (by omega) _ (by omega)]
        rw [List.getElem?_append_left (by omega)] at hj
        exact hc j u hj
      · rw [List.getElem?_append_right (by omega), hkl] at hj
        have hlt' := (List.getElem?_eq_some_iff.1 hj).1
        have := splice_in (cur := cur) (news := Lib.byteCells ys) (off := o + ks.length) (by omega) (j - ks.length) hlt'
        rw [show o + ks.length + (j - ks.length) = o + j by omega] at this
        rw [this]
        exact hj
    · refine grow _ _ rfl (by omega) ?_
      rw [hsz]
      refine run_firstCells_some w.drew 1 ks.length ⟨bf, o, none⟩ ks.length _ (Lib.byteCells ks) (by omega) (fun j u hj => ?_)
      have hjl := (List.getElem?_eq_some_iff.1 hj).1
      obtain rfl := ho (by omega)
      rw [Lib.addr_add]
      show w.cell? _ = _
      rw [Lib.cell_of_heap hW.fb, List.getElem?_toArray]
      exact hc j u hj
  · by_cases hroom : ks.length + ys.length ≤ arr.length
    · have hrun := run_append_row (P := Tryd.prog) w 25 tx ty 5 i Tryd.underlying25 hi hsz g 0 ks.length arr.length x ys.length (Lib.byteCells ys) hs hroom arr 5 hg (by omega)
      have hne : ∀ k, k < w0.heap.size → k ≠ g := fun k hk => by omega
      refine ⟨_, _, hrun, cur, ⟨hW.lo, hW.ne, hW.row, (setRow_other _ _ _ _ (hne _ hlt.2.1)).trans hW.wb, (setRow_other _ _ _ _ (hne _ hlt.2.2.1)).trans hW.fb, hW.len, hW.hn, hW.buf.carry (setRow_other _ _ _ _ (hne _ hlt.1)) (fun g' hg' => setRow_other _ _ _ _ (hne _ (hlt.2.2.2 g' hg'))), hW.pend⟩, ?_, hlt, .inr ⟨g, splice arr (0 + ks.length) (Lib.byteCells ys), ?_, setRow_heap _ _ _ _ _ _ hg, ?_, ?_, ?_, hge⟩⟩
      · exact ⟨hK.os, hK.output, by simpa using hK.size, fun r h1 h2 h3 h4 h5 => ⟨(setRow_other _ _ _ _ (hne _ h1)).trans (hK.block r h1 h2 h3 h4 h5).1, h5⟩⟩
      · rw [length_splice _ _ _ (by omega), List.length_append]
      · rw [length_splice _ _ _ (by omega)]; exact hmx
      · rw [length_splice _ _ _ (by omega), List.length_append]; exact hroom
      · rw [List.length_append, splice, Nat.zero_add, laid_take hle hyl, htk, Lib.byteCells_append]
    · refine grow _ _ rfl (by omega) ?_
      rw [hsz]
      refine run_firstCells_some w.drew 1 ks.length ⟨g, 0, none⟩ ks.length _ (Lib.byteCells ks) (by omega) (fun j u hj => ?_)
      rw [Lib.addr_add, Nat.zero_add]
      show w.cell? _ = _
      rw [Lib.cell_of_heap hg, List.getElem?_toArray]
      rw [← htk, List.getElem?_take] at hj
      split at hj
      · exact hj
      · cases hj
end

/-- .. for a plain region. -/
theorem wpList_append_ap {w0 w : World} {B bb bw bf n : Nat} {go : Option Nat} {done l : List UInt8} {v : Value} {ks : List UInt8} {ops : Array Oper} {rest : List Oper} {o : Oper} {a : Act} {Q : Exit → Act → World → Prop} (hgd : o.guard = none) (s x : Operand) (tx : TypeId)
    (ho : o.op = .call { callee := .builtin .append, args := #[s, x], argTypes := #[25, tx] }) (hv : a.eval s = v) (h : Ap w0 w B bb bw bf n go done l v ks)
    (xv : Value) (ys : List UInt8) (m : Nat) (hm : ys.length = m) (hy : 1 ≤ m) (hx : a.eval x = xv) (hs : Src Tryd.prog 1 tx xv m (Lib.byteCells ys) w) (hlim : ks.length + m ≤ 1000000)
    (hK : ∀ v' w', Hid (Ap w0 w' B bb bw bf n go done l v' (ks ++ ys)) → wpList Tryd.prog ops Q rest (a.put o.dst v') w') : wpList Tryd.prog ops Q (o :: rest) a w := by
  refine wpList_plain hgd fun K hK' => ?_
  obtain ⟨v', w', hrun, r'⟩ := ap_append h tx o.type xv ys m hm hy hs hlim
  unfold Oper.wp
  simp [execOp, ho, resolve, invoke, builtin, hv, hx, hrun, Result.andThen]
  exact hK' _ _ (hK v' w' r')

/-- .. for a step of a region that draws. -/
theorem step_append_ap {w0 w : World} {B bb bw bf n : Nat} {go : Option Nat} {done l : List UInt8} {v : Value} {ks : List UInt8} {ops : Array Oper} {o : Oper} {a : Act} {K : Act → World → Prop} {Q : Exit → Act → World → Prop} {E : Prop} (hgd : o.guard = none) (s x : Operand) (tx : TypeId)
    (ho : o.op = .call { callee := .builtin .append, args := #[s, x], argTypes := #[25, tx] }) (hv : a.eval s = v) (h : Ap w0 w B bb bw bf n go done l v ks)
    (xv : Value) (ys : List UInt8) (m : Nat) (hm : ys.length = m) (hy : 1 ≤ m) (hx : a.eval x = xv) (hs : Src Tryd.prog 1 tx xv m (Lib.byteCells ys) w) (hlim : ks.length + m ≤ 1000000)
    (hK : ∀ v' w', Hid (Ap w0 w' B bb bw bf n go done l v' (ks ++ ys)) → K (a.put o.dst v') w') :
    if Region.wanted o (yielded ops a.tmps) = true then Oper.wp Tryd.prog o a w K Q else E := by
  have hw : Region.wanted o (yielded ops a.tmps) = true := by simp [Region.wanted, hgd]
  rw [if_pos hw]
  obtain ⟨v', w', hrun, r'⟩ := ap_append h tx o.type xv ys m hm hy hs hlim
  unfold Oper.wp
  simp [execOp, ho, resolve, invoke, builtin, hv, hx, hrun, Result.andThen]
  exact hK v' w' r'
end Go.Proofs.Qxb6616245aDoor
