/- Decimal.Text at the formats e, E, f, g, G. Texts by their bytes. impl.Text and impl.Append. -/
import Derived.Test.YtdfcomilhjoooaaGreatDoorDapp
import Derived.Laws.BytesArg
import Derived.Test.YtdfcomilhjoooaaGreatDoorBase7
namespace Go.Proofs.YtdfcomilhjoooaaGreatDoor.Div
open Go.RowKit Go.Sort Go.Lib Go.Proofs.YtdfcomilhjoooaaGreatDoorW.PrintWords Go.Proofs.YtdfcomilhjoooaaGreatDoor.Base Go.Proofs.YtdfcomilhjoooaaGreatDoor.Num Go.Proofs.YtdfcomilhjoooaaGreatDoor.Flo Go.Proofs.YtdfcomilhjoooaaGreatDoor.Byt
set_option linter.unusedVariables false

/-- bytes as a text -/
theorem conv_at {w : World} {ad : Addr} {l : List Int} {c : Nat} (hr : ReadsInt w .u8 (some ad) l.length l) :
    (convert 22 9 (.slice (some ad) l.length c)).run Tryz.prog w = .ok (.string (strOfNums l)) w := by
  have hl : (loadCells ad l.length).run Tryz.prog w = .ok (l.map (Value.int .u8)).toArray w := by
    have := run_loadCells_list (P := Tryz.prog) w ad (l.map (Value.int .u8)) (fun j v hj => bytes_at hr j v hj)
    simpa using this
  rw [run_convert_bytes_string w _ _ 5 _ _ c Tryz.underlying22 Tryz.underlying5 Tryz.underlying9, run_bytesToString w ad l.length c l hl, foldl_push_bytes]
  simp [strOfNums, ByteArray.empty, ByteArray.emptyWithCapacity]
  rfl
theorem conv_any {w : World} {A : Option Addr} {l : List Int} {c : Nat} (hr : ReadsInt w .u8 A l.length l) :
    (convert 22 9 (.slice A l.length c)).run Tryz.prog w = .ok (.string (strOfNums l)) w := by
  cases A with
  | some ad => exact conv_at hr
  | none =>
    have h0 : l = [] := by
      rcases Nat.eq_zero_or_pos l.length with h | h
      · exact List.eq_nil_of_length_eq_zero h
      · obtain ⟨ad, e, _⟩ := hr.2.2 h; cases e
    subst h0
    exact run_convert_bytes_nil w 22 5 Tryz.underlying22 Tryz.underlying5 _ c _ Tryz.underlying9
theorem conv_fm {g0 : Nat} {w0 w : World} {v : Value} {l : List Int} (h : Fm g0 w0 v l w) :
    (convert 22 9 v).run Tryz.prog w = .ok (.string (strOfNums l)) w := by
  obtain ⟨g, c, cells, t, rfl, hg, hh, hc, hlc, ht⟩ := h.row
  have hl : (loadCells ⟨g, 0, none⟩ l.length).run Tryz.prog w = .ok (l.map (Value.int .u8)).toArray w := by
    have := run_loadCells_list (P := Tryz.prog) w ⟨g, 0, none⟩ (l.map (Value.int .u8)) (fun j v hj => by
      have hj2 : (cells.toList.take l.length)[j]? = some v := by rw [ht]; exact hj
      have hjl : j < l.length := by
        have := (List.getElem?_eq_some_iff.1 hj).1
        rwa [List.length_map] at this
      rw [List.getElem?_take, if_pos hjl, Array.getElem?_toList] at hj2
      have ea : (⟨g, 0, none⟩ : Addr).add j = ⟨g, j, none⟩ := by by_cases hj0 : j = 0 <;> simp [Addr.add, hj0]
      rw [ea, blk_cell hh j]
      exact hj2)
    simpa using this
  rw [run_convert_bytes_string w _ _ 5 _ _ c Tryz.underlying22 Tryz.underlying5 Tryz.underlying9, run_bytesToString w _ l.length c l hl, foldl_push_bytes]
  simp [strOfNums, ByteArray.empty, ByteArray.emptyWithCapacity]
  rfl
/-- the blocks that Append looks at -/
structure Src1 (D t cB : Nat) (ex : Int) (neg : Bool) (A : Option Addr) (l : List Int) (w : World) : Prop where
  dig : Dig 18446744073709551616 l
  nrm : Nrm l
  len : l.length ≤ 3
  reads : ReadsInt w .u64 A l.length l
  apart : ∀ ad, A = some ad → ad.block < w.heap.size
  dec : w.heap[D]? = some (.cells #[.int .i8 0, .bool neg, .int .i32 ex, .bool false, .slice A l.length cB, .bool false] t (0, 0))
  leaf : w.cell? ⟨1, 0, none⟩ = some (.int .i64 8)
  tab : Lib.TabIs Tryz.prog w "internal/strconv.uint64pow10" .u64 Lib.pow10Tab
theorem leaf_on {w w' : World} (h : w.cell? ⟨1, 0, none⟩ = some (.int .i64 8)) (hb : Below w.heap.size w w') : w'.cell? ⟨1, 0, none⟩ = some (.int .i64 8) := by
  rw [← h]
  exact World.cell?_of_block (hb.block _ (leaf_lt h))
theorem tab_on {w w' : World} (ht : Lib.TabIs Tryz.prog w "internal/strconv.uint64pow10" .u64 Lib.pow10Tab) (hb : Below w.heap.size w w') : Lib.TabIs Tryz.prog w' "internal/strconv.uint64pow10" .u64 Lib.pow10Tab := by
  have hlt := tab_lt ht
  unfold Lib.TabIs World.var? at *
  have e : Tryz.prog.globalNamed "internal/strconv.uint64pow10" = some 7 := by kernel_rfl
  rw [e] at ht ⊢
  simp only [Option.bind_some] at ht ⊢
  rw [hb.block _ hlt]
  exact ht
theorem src0_of {D t cB : Nat} {ex : Int} {neg : Bool} {A : Option Addr} {l : List Int} {w w' : World} (h : Src1 D t cB ex neg A l w) (hb : Below w.heap.size w w') {g : Nat} (hg : w.heap.size ≤ g) : Src0 D t g cB ex neg A l w' where
  dig := h.dig
  nrm := h.nrm
  len := h.len
  reads := h.reads.below hb
  apart := fun ad e => ⟨Nat.lt_of_lt_of_le (h.apart ad e) hb.size, Nat.ne_of_lt (Nat.lt_of_lt_of_le (h.apart ad e) hg)⟩
  dec := blk_below h.dec hb
  dne := Nat.ne_of_lt (Nat.lt_of_lt_of_le (blk_lt h.dec) hg)
  leaf := leaf_on h.leaf hb
  leafne := Nat.ne_of_lt (Nat.lt_of_lt_of_le (leaf_lt h.leaf) hg)
  tab := tab_on h.tab hb
  tabne := Nat.ne_of_lt (Nat.lt_of_lt_of_le (tab_lt h.tab) hg)
theorem fm_new (w : World) : Fm w.heap.size (w.alloc room16) (.slice (some ⟨w.heap.size, 0, none⟩) 0 16) [] (w.alloc room16) :=
  ⟨⟨w.heap.size, 16, _, _, rfl, .inl rfl, heap_alloc_new w _, rfl, by decide, rfl⟩, ⟨rfl, rfl, rfl, Nat.le_refl _, fun _ _ _ => rfl⟩⟩
/-- a text comes back, what was there is as it was -/
def TxOut (R : List Int) (w : World) (e : Ending) (w' : World) : Prop := e = .returned (.string (strOfNums R)) ∧ Below w.heap.size w w'
theorem fm_nil {g0 : Nat} {w0 w : World} {v : Value} {l : List Int} (h : Fm g0 w0 v ([] ++ l) w) : Fm g0 w0 v l w := h
set_option maxRecDepth 100000 in
set_option maxHeartbeats 8000000 in
theorem text_c (f : Int) (hf5 : f = 101 ∨ f = 69 ∨ f = 102 ∨ f = 103 ∨ f = 71) (D t cB : Nat) (ex : Int) (neg : Bool) (A : Option Addr) (l : List Int) (w : World) (hs : Src1 D t cB ex neg A l w) (h0 : -100 ≤ ex) (h1 : ex ≤ 100) :
    Calls Tryz.prog 15 #[.pointer (some ⟨D, 0, none⟩), .int .u8 f] w fun e w' => TxOut (fA f neg ex l) w e w' := by
  have hb0 : Below w.heap.size w (w.alloc room16) := below_alloc (Below.refl _ _) _
  have HA := Lib.hid (dapp f hf5 neg D t w.heap.size cB ex A l _ [] _ (fm_new w) (src0_of hs hb0 (Nat.le_refl _)) h0 h1 (by decide))
  clear hs hf5 h0 h1 hb0
  go_enter Tryz.func15, Tryz.ntmps15
  go_wp2_with (go_at_call 14; refine HA.out.mono ?_; rintro e w1 ⟨v1, rfl, hf1⟩; have HC := conv_fm (fm_nil hf1); have HB : Hid (Below w.heap.size w w1) := Lib.hid ((below_alloc (Below.refl _ _) room16).trans (hf1.bel (Nat.le_refl _) (by simp))); clear hf1 HA)
  go_ret
  exact ⟨rfl, HB.out⟩
end Go.Proofs.YtdfcomilhjoooaaGreatDoor.Div
namespace Go.Proofs.YtdfcomilhjoooaaGreatDoor.Div
open Go.RowKit Go.Sort Go.Lib Go.Proofs.YtdfcomilhjoooaaGreatDoorW.PrintWords Go.Proofs.YtdfcomilhjoooaaGreatDoor.Base Go.Proofs.YtdfcomilhjoooaaGreatDoor.Num Go.Proofs.YtdfcomilhjoooaaGreatDoor.Flo Go.Proofs.YtdfcomilhjoooaaGreatDoor.Byt
set_option linter.unusedVariables false

theorem str_app (b R : List Int) : strOfNums b ++ strOfNums R = strOfNums (b ++ R) := by
  apply ByteArray.ext
  simp [strOfNums]
theorem fF_le {ex : Int} {dl : List Int} (h0 : -100 ≤ ex) (h1 : ex ≤ 100) : (fF ex dl).length ≤ dl.length + 102 := by
  unfold fF
  split
  · split
    · simp only [List.length_append, List.length_cons, List.length_nil, List.length_replicate]; omega
    · simp only [List.length_append, List.length_cons, List.length_nil, List.length_take, List.length_drop]; omega
  · simp only [List.length_append, List.length_replicate]; omega
theorem fE_le {f ex : Int} {dl : List Int} (h0 : -100 ≤ ex) (h1 : ex ≤ 100) (hl : dl.length ≤ 200) : (fE f ex dl).length ≤ dl.length + 30 := by
  have hd := decI_le (ex + dl.length - 1).natAbs (by omega)
  unfold fE
  split
  · simp only [List.length_append, List.length_cons, List.length_nil, List.length_take, List.length_drop]; omega
  · simp only [List.length_append, List.length_cons, List.length_nil, List.length_take]; omega
theorem fA_le {f : Int} {neg : Bool} {ex : Int} {l : List Int} (h0 : -100 ≤ ex) (h1 : ex ≤ 100) (hd : Dig 18446744073709551616 l) (hn : Nrm l) (hl : l.length ≤ 3) : (fA f neg ex l).length ≤ 400 := by
  have ht := tx_le hd hn hl
  have hF := fF_le (dl := tx l) h0 h1
  have hE := fun f => fE_le (f := f) (dl := tx l) h0 h1 ht
  have hG : ∀ f, (fG f ex l).length ≤ (tx l).length + 102 := by
    intro f
    have hE := hE f
    unfold fG
    by_cases h : ex ≤ 0 ∧ -6 ≤ ex + (((tx l).length : Int) + (if bitL l = 0 ∧ ex < 0 then -ex else 0) - 1)
    · rw [if_pos h]; exact hF
    · rw [if_neg h]; omega
  have h1 := hE f
  have h2 := hG 101
  have h3 := hG 69
  unfold fA
  rw [List.length_append]
  have h5 : (if neg = true then [45] else ([] : List Int)).length ≤ 1 := by cases neg <;> decide
  generalize (if neg = true then [45] else ([] : List Int)) = N at h5 ⊢
  split
  · omega
  · split
    · omega
    · split <;> omega
/-- the text of three -/
theorem fA_three : fA 102 false 0 [3] = [51] := by
  unfold fA
  rw [tx_three]
  decide
theorem str_len (b : List Int) : (strOfNums b).size = b.length := by simp [strOfNums, ByteArray.size]
end Go.Proofs.YtdfcomilhjoooaaGreatDoor.Div
namespace Go.Proofs.YtdfcomilhjoooaaGreatDoor.Div
open Go.RowKit Go.Sort Go.Lib Go.Proofs.YtdfcomilhjoooaaGreatDoorW.PrintWords Go.Proofs.YtdfcomilhjoooaaGreatDoor.Base Go.Proofs.YtdfcomilhjoooaaGreatDoor.Num Go.Proofs.YtdfcomilhjoooaaGreatDoor.Flo Go.Proofs.YtdfcomilhjoooaaGreatDoor.Byt
set_option linter.unusedVariables false

/-- a Decimal made of a Dec -/
def MdOut (neg : Bool) (ex : Int) (l : List Int) (w : World) (e : Ending) (w' : World) : Prop := ∃ D A' c', e = .returned (.pointer (some ⟨D, 0, none⟩)) ∧ Src1 D 57 c' ex neg A' l w' ∧ Below w.heap.size w w'
/-- what a Dec's words are, and the variables that the text reads -/
structure DecIn (ex : Int) (A : Option Addr) (l : List Int) (w : World) : Prop where
  lo : -100 ≤ ex
  hi : ex ≤ 100
  dig : Dig 18446744073709551616 l
  nrm : Nrm l
  len : l.length ≤ 3
  reads : ReadsInt w .u64 A l.length l
  leaf : w.cell? ⟨1, 0, none⟩ = some (.int .i64 8)
  tab : Lib.TabIs Tryz.prog w "internal/strconv.uint64pow10" .u64 Lib.pow10Tab
theorem DecIn.below {ex : Int} {A : Option Addr} {l : List Int} {w w' : World} (h : DecIn ex A l w) (hb : Below w.heap.size w w') : DecIn ex A l w' :=
  ⟨h.lo, h.hi, h.dig, h.nrm, h.len, h.reads.below hb, leaf_on h.leaf hb, tab_on h.tab hb⟩
theorem made_c {neg : Bool} {ex : Int} {A : Option Addr} {c : Nat} {l : List Int} {w : World} (h : DecIn ex A l w) :
    Calls Tryz.prog 13 #[.agg #[.int .i64 0, .bool neg, .slice A l.length c, .int .i64 ex]] w fun e w' => MdOut neg ex l w e w' := by
  have h0 := h.lo
  have h1 := h.hi
  have h2 := h.len
  refine (made_any neg ex (by omega) (by omega) A c l (by omega) w h.reads).mono ?_
  rintro e w' ⟨D, A', c', rfl, hD, hblk, hown, _, _, hb⟩
  rw [nlTo_of_nrm h.nrm] at hblk hown
  rw [List.take_length] at hown
  obtain ⟨A2, c2, e2, _, _, _, h5⟩ := own_form hown
  injection e2 with e2 _ _
  subst e2
  exact ⟨D, A', c', rfl, ⟨h.dig, h.nrm, h.len, own_reads' hown, fun ad ha => (h5 ad ha).1, hblk, leaf_on h.leaf hb, tab_on h.tab hb⟩, hb⟩

set_option maxRecDepth 100000 in
set_option maxHeartbeats 8000000 in
theorem itext_c {neg : Bool} {ex : Int} {A : Option Addr} {c : Nat} {l : List Int} {w : World} (f : Int) (hf5 : f = 101 ∨ f = 69 ∨ f = 102 ∨ f = 103 ∨ f = 71) (h : DecIn ex A l w) :
    Calls Tryz.prog 8 #[.agg #[.int .i64 0, .bool neg, .slice A l.length c, .int .i64 ex], .int .u8 f] w fun e w' => TxOut (fA f neg ex l) w e w' := by
  obtain ⟨W, hW⟩ : ∃ W, W = w.alloc (.cells #[.int .i64 0, .bool neg, .slice A l.length c, .int .i64 ex] 25) := ⟨_, rfl⟩
  have hbw : Below w.heap.size w W := by rw [hW]; go_grown
  have HBW := Lib.hid hbw
  have HM := Lib.hid (made_c (neg := neg) (c := c) (h.below hbw))
  have HH := Lib.hid h
  have HF := Lib.hid hf5
  have HW := Lib.hid hW
  clear h hf5 hW hbw
  go_enter Tryz.func8, Tryz.ntmps8
  go_wp2_with fail
  rw [← HW.out]
  refine HM.out.mono ?_
  rintro e w1 ⟨D, A1, c1, rfl, hs1, hb1⟩
  have HT := Lib.hid (text_c f HF.out D _ c1 ex neg A1 l w1 hs1 HH.out.lo HH.out.hi)
  have HB1 := Lib.hid hb1
  clear hs1 hb1 HM
  go_wp2_with fail
  refine HT.out.mono ?_
  rintro e w2 ⟨rfl, hb2⟩
  have HB2 := Lib.hid hb2
  clear hb2 HT
  go_wp2_with fail
  go_ret
  exact ⟨rfl, HBW.out.trans ((HB1.out.trans (HB2.out.mono HB1.out.size)).mono HBW.out.size)⟩
theorem src_any {P : Program} {w : World} {tx e' : TypeId} (hk : P.underlying tx = some (.slice e')) {B0 : Option Addr} {c : Nat} {l : List Int} (hr : ReadsInt w .u8 B0 l.length l) : Src P 1 tx (.slice B0 l.length c) l.length (nums .u8 l) w := by
  cases B0 with
  | some ad => exact src_slice hk hr
  | none =>
    have h0 : l = [] := by
      rcases Nat.eq_zero_or_pos l.length with h | h
      · exact List.eq_nil_of_length_eq_zero h
      · obtain ⟨ad, e, _⟩ := hr.2.2 h; cases e
    subst h0
    exact Src.ofNil w hk c
theorem fm_empty (w : World) : Fm w.heap.size (w.alloc (.cells #[] 5)) (.slice (some ⟨w.heap.size, 0, none⟩) 0 0) [] (w.alloc (.cells #[] 5)) :=
  ⟨⟨w.heap.size, 0, _, _, rfl, .inl rfl, heap_alloc_new w _, rfl, by decide, rfl⟩, ⟨rfl, rfl, rfl, Nat.le_refl _, fun _ _ _ => rfl⟩⟩
/-- Append onto a copy of the bytes -/
theorem onto_c {neg : Bool} {ex : Int} {A : Option Addr} {l : List Int} {w1 w2 : World} {D cB : Nat} {b : List Int} {v2 : Value} (f : Int) (hf5 : f = 101 ∨ f = 69 ∨ f = 102 ∨ f = 103 ∨ f = 71) (h0 : -100 ≤ ex) (h1 : ex ≤ 100) (hb : b.length ≤ 60)
    (hs : Src1 D 57 cB ex neg A l w1) (hf : Fm w1.heap.size (w1.alloc (.cells #[] 5)) v2 ([] ++ b) w2) :
    Calls Tryz.prog 14 #[.pointer (some ⟨D, 0, none⟩), v2, .int .u8 f] w2 fun e w' => ∃ v', e = .returned v' ∧ Below w1.heap.size w1 w' ∧ ∀ w4, Below w'.heap.size w' w4 → (convert 22 9 v').run Tryz.prog w4 = .ok (.string (strOfNums (b ++ fA f neg ex l))) w4 := by
  have hbl : Below w1.heap.size w1 w2 := (below_alloc (Below.refl _ _) (.cells #[] 5)).trans (hf.bel (Nat.le_refl _) (by simp))
  have hf' := fm_nil hf
  have hg : ∃ g c, v2 = .slice (some ⟨g, 0, none⟩) b.length c ∧ w1.heap.size ≤ g := by
    obtain ⟨g, c, cells, t, hv, hg, _⟩ := hf'.row
    refine ⟨g, c, hv, ?_⟩
    rcases hg with h | h
    · omega
    · simp at h; omega
  obtain ⟨g, c, rfl, hg⟩ := hg
  refine (dapp f hf5 neg D _ g cB ex A l _ b w2 (fm_self hf') (src0_of hs hbl hg) h0 h1 (by omega)).mono ?_
  rintro e w' ⟨v', rfl, h3⟩
  exact ⟨v', rfl, hbl.trans (h3.bel hg hbl.size), fun w4 hb4 => conv_fm (h3.below hb4)⟩

set_option maxRecDepth 100000 in
set_option maxHeartbeats 8000000 in
theorem iapp_c {neg : Bool} {ex : Int} {A : Option Addr} {c : Nat} {l : List Int} {w : World} (B0 : Option Addr) (cb : Nat) (b : List Int) (hb : b.length ≤ 60) (hrb : ReadsInt w .u8 B0 b.length b) (f : Int) (hf5 : f = 101 ∨ f = 69 ∨ f = 102 ∨ f = 103 ∨ f = 71) (h : DecIn ex A l w) :
    Calls Tryz.prog 7 #[.slice B0 b.length cb, .agg #[.int .i64 0, .bool neg, .slice A l.length c, .int .i64 ex], .int .u8 f] w fun e w' => ∃ v', e = .returned v' ∧ Below w.heap.size w w' ∧ ∀ w4, Below w'.heap.size w' w4 → (convert 22 9 v').run Tryz.prog w4 = .ok (.string (strOfNums (b ++ fA f neg ex l))) w4 := by
  obtain ⟨i0, hi, hz0, hz1, hz2⟩ := info_parts infoB
  obtain ⟨W, hW⟩ : ∃ W, W = w.alloc (.cells #[.int .i64 0, .bool neg, .slice A l.length c, .int .i64 ex] 25) := ⟨_, rfl⟩
  have hbw : Below w.heap.size w W := by rw [hW]; go_grown
  have HBW := Lib.hid hbw
  have HM := Lib.hid (made_c (neg := neg) (c := c) (h.below hbw))
  have HH := Lib.hid h
  have HF := Lib.hid hf5
  have HW := Lib.hid hW
  have HRB := Lib.hid (hrb.below hbw)
  have HLB := Lib.hid hb
  clear h hf5 hW hbw hrb hb
  go_enter Tryz.func7, Tryz.ntmps7
  go_wp2_with fail
  rw [← HW.out]
  refine HM.out.mono ?_
  rintro e w1 ⟨D, A1, c1, rfl, hs1, hb1⟩
  have HS1 := Lib.hid hs1
  have HB1 := Lib.hid hb1
  have HSR := Lib.hid (src_any (P := Tryz.prog) Tryz.underlying22 (c := cb) ((HRB.out.below hb1).below (below_alloc (Below.refl _ _) (.cells #[] 5))))
  clear hs1 hb1 HM HRB
  go_wp2_with (at_builtin; refine wpList_append_fm (fm_empty w1) b rfl _ _ 22 22 rfl 5 i0 Tryz.underlying22 hi hz0 hz1 hz2 rfl _ rfl HSR.out (by have := HLB.out; simp only [List.length_nil]; omega) ?_)
  intro v2 w2 hf2
  have HO := Lib.hid (onto_c f HF.out HH.out.lo HH.out.hi HLB.out HS1.out hf2)
  clear hf2 HSR
  go_wp2_with fail
  refine HO.out.mono ?_
  rintro e w3 ⟨v', rfl, hb3, hcv⟩
  have HB3 := Lib.hid hb3
  have HCV := Lib.hid hcv
  clear hb3 hcv HO
  go_wp2_with fail
  go_ret
  exact ⟨_, rfl, HBW.out.trans ((HB1.out.trans (HB3.out.mono HB1.out.size)).mono HBW.out.size), HCV.out⟩
end Go.Proofs.YtdfcomilhjoooaaGreatDoor.Div
