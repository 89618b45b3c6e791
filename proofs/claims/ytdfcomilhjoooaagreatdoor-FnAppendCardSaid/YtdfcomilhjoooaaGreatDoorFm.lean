/- Bytes that are put behind bytes of one's own, whatever kind of block holds them. -/
import Derived.Test.YtdfcomilhjoooaaGreatDoorIntApp
import Derived.Deep.AppendSrc
namespace Go.Proofs.YtdfcomilhjoooaaGreatDoor.Div
open Go.RowKit Go.Proofs.YtdfcomilhjoooaaGreatDoorW.PrintWords Go.Proofs.YtdfcomilhjoooaaGreatDoor.Base Go.Proofs.YtdfcomilhjoooaaGreatDoor.Num Go.Proofs.YtdfcomilhjoooaaGreatDoor.Flo Go.Proofs.YtdfcomilhjoooaaGreatDoor.Byt
set_option linter.unusedVariables false

/-- the buffer v holds bs; all blocks of w0 but g0 are as they were -/
structure Fm (g0 : Nat) (w0 : World) (v : Value) (bs : List Int) (w : World) : Prop where
  row : ∃ g c cells t, v = .slice (some ⟨g, 0, none⟩) bs.length c ∧ (g = g0 ∨ w0.heap.size ≤ g) ∧ w.heap[g]? = some (.cells cells t (0, 0)) ∧ cells.size = c ∧ bs.length ≤ c ∧ cells.toList.take bs.length = nums .u8 bs
  gr : w0.grownBy w (some g0)
theorem Fm.size {g0 : Nat} {w0 w : World} {v : Value} {bs : List Int} (h : Fm g0 w0 v bs w) : w0.heap.size ≤ w.heap.size := h.gr.size
theorem Fm.sh {g0 : Nat} {w0 w : World} {v : Value} {bs : List Int} (h : Fm g0 w0 v bs w) : ∃ g c, v = .slice (some ⟨g, 0, none⟩) bs.length c := by
  obtain ⟨g, c, cells, t, hv, _⟩ := h.row
  exact ⟨g, c, hv⟩
/-- what leaves the blocks alone that were there -/
theorem Fm.below {g0 : Nat} {w0 w w' : World} {v : Value} {bs : List Int} (h : Fm g0 w0 v bs w) (hb : Below w.heap.size w w') : Fm g0 w0 v bs w' := by
  obtain ⟨g, c, cells, t, hv, hg, hh, r⟩ := h.row
  have hlt : g < w.heap.size := (Array.getElem?_eq_some_iff.1 hh).1
  refine ⟨⟨g, c, cells, t, hv, hg, (hb.block g hlt).trans hh, r⟩, ⟨hb.os.trans h.gr.os, hb.tape.trans h.gr.tape, hb.output.trans h.gr.output, Nat.le_trans h.gr.size hb.size, fun k hk hne => (hb.block k (Nat.lt_of_lt_of_le hk h.gr.size)).trans (h.gr.block k hk hne)⟩⟩
theorem Fm.alloc {g0 : Nat} {w0 w : World} {v : Value} {bs : List Int} (h : Fm g0 w0 v bs w) (o : Obj) : Fm g0 w0 v bs (w.alloc o) := h.below (below_alloc (Below.refl _ _) o)
theorem Fm.trans {g0 g1 c1 : Nat} {w0 w w' : World} {v' : Value} {bs bs' : List Int} (h : Fm g0 w0 (.slice (some ⟨g1, 0, none⟩) bs.length c1) bs w) (h2 : Fm g1 w v' bs' w') : Fm g0 w0 v' bs' w' := by
  obtain ⟨g, c, cells, t, hv, hg, hh, r⟩ := h.row
  obtain ⟨g', c', cells', t', hv', hg', hh', r'⟩ := h2.row
  injection hv with e1 e2 e3
  injection e1 with e1
  injection e1 with e1
  subst e1
  have hs := h.gr.size
  refine ⟨⟨g', c', cells', t', hv', ?_, hh', r'⟩, ⟨h2.gr.os.trans h.gr.os, h2.gr.tape.trans h.gr.tape, h2.gr.output.trans h.gr.output, Nat.le_trans h.gr.size h2.gr.size, fun k hk hne => ?_⟩⟩
  · rcases hg' with e | e
    · rw [e]; exact hg
    · exact .inr (by omega)
  · refine (h2.gr.block k (Nat.lt_of_lt_of_le hk hs) (fun e => ?_)).trans (h.gr.block k hk hne)
    injection e with e
    rcases hg with e2 | e2
    · exact hne (by rw [e, e2])
    · omega
/-- a block that was there and is not the buffer's -/
theorem Fm.old {g0 : Nat} {w0 w : World} {v : Value} {bs : List Int} (h : Fm g0 w0 v bs w) {k : Nat} (hk : k < w0.heap.size) (hne : k ≠ g0) : w.heap[k]? = w0.heap[k]? := h.gr.block k hk (fun e => hne (by injection e))
theorem Fm.oldb {g0 : Nat} {w0 w : World} {v : Value} {bs : List Int} (h : Fm g0 w0 v bs w) {k : Nat} {o : Obj} (hk : w0.heap[k]? = some o) (hne : k ≠ g0) : w.heap[k]? = some o := (h.old (Array.getElem?_eq_some_iff.1 hk).1 hne).trans hk
theorem Fm.dig {g0 : Nat} {w0 w : World} {v : Value} {bs : List Int} (h : Fm g0 w0 v bs w) {ad : Addr} {l : List Int} {n : Nat} (hr : ReadsInt w0 .u8 (some ad) n l) (hk : ad.block < w0.heap.size) (hne : ad.block ≠ g0) : ReadsInt w .u8 (some ad) n l := by
  refine ⟨hr.1, hr.2.1, fun h0 => ?_⟩
  obtain ⟨ad', e', hc⟩ := hr.2.2 h0
  cases e'
  refine ⟨ad, rfl, fun j hj => ?_⟩
  rw [← hc j hj]
  exact World.cell?_of_block (h.old (by rw [Base.add_block]; exact hk) (by rw [Base.add_block]; exact hne))
/-- a buffer of one's own above B -/
theorem Fm.bel {B g0 : Nat} {w0 w : World} {v : Value} {bs : List Int} (h : Fm g0 w0 v bs w) (hB : B ≤ g0) (hBw : B ≤ w0.heap.size) : Below B w0 w :=
  ⟨h.gr.os, h.gr.tape, h.gr.output, h.gr.size, fun k hk => h.old (by omega) (by omega)⟩
theorem Fm.reads {g0 : Nat} {w0 w : World} {v : Value} {bs : List Int} (h : Fm g0 w0 v bs w) : ∃ g c, v = .slice (some ⟨g, 0, none⟩) bs.length c ∧ (g = g0 ∨ w0.heap.size ≤ g) ∧ bs.length ≤ c ∧ (bs.length ≤ maxLen → ReadsInt w .u8 (some ⟨g, 0, none⟩) bs.length bs) := by
  obtain ⟨g, c, cells, t, hv, hg, hh, hc, hl, ht⟩ := h.row
  refine ⟨g, c, hv, hg, hl, fun hm => ⟨rfl, hm, fun _ => ⟨_, rfl, fun j hj => ?_⟩⟩⟩
  have ea : (⟨g, 0, none⟩ : Addr).add j = ⟨g, j, none⟩ := by by_cases hj0 : j = 0 <;> simp [Addr.add, hj0]
  rw [ea, blk_cell hh j]
  have : (cells.toList.take bs.length)[j]? = (nums .u8 bs)[j]? := by rw [ht]
  rw [List.getElem?_take, if_pos hj] at this
  rw [← Array.getElem?_toList, this]
  simp [nums, List.getD_eq_getElem?_getD, hj]
theorem bytes_at {w : World} {ad : Addr} {l : List Int} (hr : ReadsInt w .u8 (some ad) l.length l) : ∀ j u, (nums .u8 l)[j]? = some u → w.cell? (ad.add j) = some u := by
  intro j u hj
  simp only [nums, List.getElem?_map, Option.map_eq_some_iff] at hj
  obtain ⟨y, hy, rfl⟩ := hj
  have hjl : j < l.length := by
    rcases Nat.lt_or_ge j l.length with h | h
    · exact h
    · rw [List.getElem?_eq_none h] at hy; cases hy
  obtain ⟨ad', e', hcl⟩ := hr.2.2 (by omega)
  cases e'
  rw [hcl j hjl, List.getD_eq_getElem?_getD, hy]
  rfl
/-- a part of the figures -/
theorem part_at {w : World} {ad : Addr} {l : List Int} (hr : ReadsInt w .u8 (some ad) l.length l) (i k : Nat) (hk : i + k ≤ l.length) (hp : 0 < k) : ReadsInt w .u8 (some (ad.add i)) ((l.drop i).take k).length ((l.drop i).take k) := by
  have hl : ((l.drop i).take k).length = k := by rw [List.length_take, List.length_drop]; omega
  refine ⟨rfl, by have := hr.2.1; omega, fun _ => ⟨_, rfl, fun j hj => ?_⟩⟩
  rw [hl] at hj
  obtain ⟨ad', e', hcl⟩ := hr.2.2 (by omega)
  cases e'
  rw [Go.Addr.add_add, hcl (i + j) (by omega)]
  simp only [List.getD_eq_getElem?_getD, List.getElem?_take, List.getElem?_drop]
  rw [if_pos hj]

theorem oneCell_nums (l : List Int) : ∀ u ∈ nums .u8 l, u.oneCell' = true := nums_one .u8 l
/-- append -/
theorem run_append_fm {P : Program} {g0 : Nat} {w0 w : World} {v : Value} {bs ms : List Int} (h : Fm g0 w0 v bs w) (t tx ty e : TypeId) (i : TypeInfo) (h1 : P.underlying t = some (.slice e)) (h2 : P.info? e = some i) (h3 : i.zero = some (.int .u8 0)) (h4 : i.size = 1) (h5 : i.bytes = 1)
    (x : Value) (hs : Src P 1 tx x ms.length (nums .u8 ms) w) (hl : bs.length + ms.length ≤ 100000) :
    ∃ v' w', (Builtin.append_ #[t, tx] ty #[v, x]).run P w = .ok v' w' ∧ Fm g0 w0 v' (bs ++ ms) w' := by
  obtain ⟨g, c, cells, t', rfl, hg, hh, hc, hlc, ht⟩ := h.row
  have en : nums .u8 bs ++ nums .u8 ms = nums .u8 (bs ++ ms) := (nums_append .u8 bs ms).symm
  have lb : (nums .u8 bs).length = bs.length := nums_length .u8 bs
  have lm : (nums .u8 ms).length = ms.length := nums_length .u8 ms
  by_cases hr : bs.length + ms.length ≤ c
  · have hfit : bs.length + 0 + (nums .u8 ms).length ≤ cells.size := by rw [lm]; omega
    have hst := run_storeCells_at P g bs.length t' (nums .u8 ms) 0 cells w hh hfit hs.one
    simp only [Nat.add_zero] at hst
    refine ⟨.slice (some ⟨g, 0, none⟩) (bs.length + ms.length) c, w.setRow g (cells.toList.take bs.length ++ nums .u8 ms ++ cells.toList.drop (bs.length + (nums .u8 ms).length)).toArray, ?_, ⟨⟨g, c, _, t', by rw [List.length_append], hg, setRow_heap w g cells _ t' _ hh, ?_, by rw [List.length_append]; exact hr, ?_⟩, ⟨h.gr.os, h.gr.tape, h.gr.output, Nat.le_trans h.gr.size (by simp), fun k hk hne => ?_⟩⟩⟩
    · generalize w.setRow g (cells.toList.take bs.length ++ nums .u8 ms ++ cells.toList.drop (bs.length + (nums .u8 ms).length)).toArray = W at hst ⊢
      have hcs := hs.cells
      rcases hs.kind with ⟨e', hk⟩ | hk <;> simp [Builtin.append_, run_underlying h1, run_underlying hk, sizeOf, typeInfo, h2, hs.len, hr, hcs, Addr.add_lit, h4, hst]
    · simp only [List.size_toArray, List.length_append, List.length_take, List.length_drop, Array.length_toList, lm]
      omega
    · rw [ht, List.append_assoc, List.length_append, ← List.append_assoc, en]
      have : bs.length + ms.length = (nums .u8 (bs ++ ms)).length := by rw [nums_length, List.length_append]
      rw [this]
      exact List.take_left
    · have hkg : k ≠ g := by
        rcases hg with e | e
        · rw [e]; exact fun e => hne (by rw [e])
        · omega
      exact (setRow_other w g k _ hkg).trans (h.gr.block k hk hne)
  · have hw0 : w0.heap.size ≤ w.heap.size := h.gr.size
    have holds : (Builtin.firstCells i.size bs.length (.slice (some ⟨g, 0, none⟩) bs.length c)).run P w.drew = .ok (nums .u8 bs).toArray w.drew := by
      rw [h4]
      refine run_firstCells_some w.drew 1 bs.length ⟨g, 0, none⟩ bs.length c _ (by rw [lb, Nat.mul_one]) fun j u hj => ?_
      have hj2 : (cells.toList.take bs.length)[j]? = some u := by rw [ht]; exact hj
      have hjl : j < bs.length := by
        have := (List.getElem?_eq_some_iff.1 hj).1
        rw [lb] at this; exact this
      rw [List.getElem?_take, if_pos hjl, Array.getElem?_toList] at hj2
      have ea : (⟨g, 0, none⟩ : Addr).add j = ⟨g, j, none⟩ := by by_cases hj0 : j = 0 <;> simp [Addr.add, hj0]
      rw [ea]
      show w.cell? _ = _
      rw [blk_cell hh j]; exact hj2
    have hs' : Src P i.size tx x ms.length (nums .u8 ms) w := by rw [h4]; exact hs
    have hfit : Builtin.nextslicecap (bs.length + ms.length) c * i.bytes ≤ 281474976710656 := growslice_fits (by omega) (by rw [h5]; omega)
    have hrun := run_append_grow_src (P := P) w t tx ty e i (.int .u8 0) h1 h2 h3 (some ⟨g, 0, none⟩) bs.length c (nums .u8 bs) holds x ms.length (nums .u8 ms) hs' (by omega) (by omega) hfit
    have hge := grownCap_ge w (bs.length + ms.length) c e
    refine ⟨_, _, hrun, ⟨⟨w.heap.size, grownCap w (bs.length + ms.length) c e, _, e, by rw [List.length_append], .inr hw0, heap_alloc_new w.drew _, ?_, by rw [List.length_append]; exact hge, ?_⟩, ⟨h.gr.os, h.gr.tape, h.gr.output, by simp; omega, fun k hk hne => ?_⟩⟩⟩
    · simp only [Array.size_append, List.size_toArray, size_zeroCells, List.length_append, lb, lm]
      have : (Value.int IntKind.u8 0).cells.size = 1 := rfl
      rw [this]
      omega
    · rw [en, Array.toList_append]
      have : (bs ++ ms).length = (nums .u8 (bs ++ ms)).length := by rw [nums_length]
      rw [this]
      exact List.take_left
    · exact (heap_alloc_old w.drew _ (Nat.lt_of_lt_of_le hk hw0)).trans (h.gr.block k hk hne)
/-- append in a walk -/
theorem wpList_append_fm {P : Program} {ops : Array Oper} {rest : List Oper} {o : Oper} {a : Act} {Q : Exit → Act → World → Prop} {g0 : Nat} {w0 w : World} {v : Value} {bs : List Int} (h : Fm g0 w0 v bs w) (ms : List Int)
    (hg : o.guard = none) (s x : Operand) (t tx : TypeId) (hop : o.op = Op.call { callee := Callee.builtin Builtin.append, args := #[s, x], argTypes := #[t, tx] })
    (e : TypeId) (i : TypeInfo) (h1 : P.underlying t = some (.slice e)) (h2 : P.info? e = some i) (h3 : i.zero = some (.int .u8 0)) (h4 : i.size = 1) (h5 : i.bytes = 1)
    (hv : a.eval s = v) (xv : Value) (hx : a.eval x = xv) (hs : Src P 1 tx xv ms.length (nums .u8 ms) w) (hl : bs.length + ms.length ≤ 100000)
    (hK : ∀ v' w', Fm g0 w0 v' (bs ++ ms) w' → wpList P ops Q rest (a.put o.dst v') w') :
    wpList P ops Q (o :: rest) a w := by
  refine wpList_plain hg fun K hK' => ?_
  obtain ⟨v', w', hrun, hf⟩ := run_append_fm h t tx o.type e i h1 h2 h3 h4 h5 xv hs hl
  unfold Oper.wp
  simp [execOp, hop, resolve, invoke, builtin, hv, hx, hrun, Result.andThen]
  exact hK' _ _ (hK v' w' hf)
theorem src_slice {P : Program} {w : World} {tx e' : TypeId} (hk : P.underlying tx = some (.slice e')) {ad : Addr} {c : Nat} {l : List Int} (hr : ReadsInt w .u8 (some ad) l.length l) : Src P 1 tx (.slice (some ad) l.length c) l.length (nums .u8 l) w :=
  Src.ofSlice w hk ad l.length c (nums .u8 l) (by rw [nums_length, Nat.mul_one]) (bytes_at hr) (nums_one .u8 l)
/-- one new cell -/
theorem src_one {P : Program} {w : World} {tx e' t : TypeId} (hk : P.underlying tx = some (.slice e')) (x : Int) (c : Nat) : Src P 1 tx (.slice (some ⟨w.heap.size, 0, none⟩) 1 c) 1 (nums .u8 [x]) (w.alloc (.cells #[.int .u8 x] t)) := by
  refine Src.ofSlice _ hk _ 1 c (nums .u8 [x]) rfl (fun j u hj => ?_) (nums_one .u8 [x])
  cases j with
  | zero =>
    cases hj
    have : (⟨w.heap.size, 0, none⟩ : Addr).add 0 = ⟨w.heap.size, 0, none⟩ := rfl
    rw [this]
    exact (blk_cell (heap_alloc_new w _) 0).trans rfl
  | succ j => cases hj
end Go.Proofs.YtdfcomilhjoooaaGreatDoor.Div
