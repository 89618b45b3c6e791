/- What the scratch figures of Decimal.Append are, beside the buffer. -/
import Derived.Test.YtdfcomilhjoooaaGreatDoorFmtE
namespace Go.Proofs.YtdfcomilhjoooaaGreatDoor.Div
open Go.RowKit Go.Sort Go.Lib Go.Proofs.YtdfcomilhjoooaaGreatDoorW.PrintWords Go.Proofs.YtdfcomilhjoooaaGreatDoor.Base Go.Proofs.YtdfcomilhjoooaaGreatDoor.Num Go.Proofs.YtdfcomilhjoooaaGreatDoor.Flo Go.Proofs.YtdfcomilhjoooaaGreatDoor.Byt
set_option linter.unusedVariables false

theorem tx_three : tx [3] = [51] := by
  unfold tx
  rw [if_neg (by decide)]
  have hv : val 18446744073709551616 [3] = 3 := by decide
  rw [hv]
  have hd : Dig 18446744073709551616 [3] := fun x hx => by simp only [List.mem_singleton] at hx; subst hx; decide
  have hn : Nrm [3] := by unfold Nrm; decide
  obtain ⟨h1, h2, h3⟩ := room_fits hd (by decide) hn (by decide)
  obtain ⟨k, hk⟩ : ∃ k, room (bitL [3]) = k + 1 := ⟨room (bitL [3]) - 1, by omega⟩
  rw [hk]
  have hp : ∀ p : Nat, 0 < p → (3 : Int) / 10 ^ p = 0 := fun p hp => by
    refine Int.ediv_eq_zero_of_lt (by decide) ?_
    obtain ⟨q, rfl⟩ : ∃ q, p = q + 1 := ⟨p - 1, by omega⟩
    have : (0 : Int) < 10 ^ q := Int.pow_pos (by decide)
    rw [Int.pow_succ]
    omega
  rw [txt_is (z := k) (by omega) (fun i hi => by unfold fig; rw [hp _ (by omega)]; rfl) (by unfold fig; rw [show k + 1 - 1 - k = 0 by omega]; decide)]
  have : full 3 (k + 1) = (full 3 (k + 1)).take k ++ [51] := by
    unfold full
    rw [List.range_succ, List.map_append, List.map_singleton]
    rw [List.take_append_of_le_length (by simp), List.take_of_length_le (by simp)]
    rw [show k + 1 - 1 - k = 0 by omega]
    rfl
  rw [this, List.drop_append_of_le_length (by rw [List.length_take, full_len]; omega)]
  rw [List.drop_of_length_le (by rw [List.length_take, full_len]; omega)]
  rfl
theorem dw_nil : ∀ {l : List Int}, l.dropWhile (fun x => x == 48) = [] → ∀ x ∈ l, (x == 48) = true
  | [], _, x, hx => by cases hx
  | y :: l, h, x, hx => by
    by_cases hy : (y == 48) = true
    · rw [List.dropWhile, hy] at h
      rcases List.mem_cons.1 hx with rfl | hx
      · exact hy
      · exact dw_nil h x hx
    · have hy' : (y == 48) = false := by simpa using hy
      rw [List.dropWhile, hy'] at h
      cases h
theorem tx_pos {l : List Int} (hd : Dig 18446744073709551616 l) (hn : Nrm l) (hl : l.length ≤ 3) : 0 < (tx l).length := by
  unfold tx
  by_cases h : l.length = 0
  · rw [if_pos h]; decide
  · rw [if_neg h]
    obtain ⟨h1, h2, h3⟩ := room_fits hd (by omega) hn hl
    have hv0 : 0 < val 18446744073709551616 l := val_pos (by decide) hd hn (by intro e; rw [e] at h; exact h rfl)
    generalize val 18446744073709551616 l = V at h3 hv0 ⊢
    generalize room (bitL l) = N at h1 h2 h3 ⊢
    rcases Nat.eq_zero_or_pos (txt V N).length with h0 | h0
    · exfalso
      have h4 : txt V N = [] := List.eq_nil_of_length_eq_zero h0
      unfold txt at h4
      have h4 := dw_nil h4
      have h5 := all_nought (V := V) N (fun p hp => by
        have h6 := h4 (fig V p) (by
          unfold full
          refine List.mem_map.2 ⟨N - 1 - p, List.mem_range.2 (by omega), ?_⟩
          rw [show N - 1 - (N - 1 - p) = p by omega])
        have h7 : fig V p = 48 := by simpa using h6
        unfold fig at h7
        omega)
      rw [Int.ediv_eq_zero_of_lt (by omega) h3] at h5
      simp at h5
      omega
    · exact h0
theorem Fm.digW {g0 : Nat} {w0 w : World} {v : Value} {bs : List Int} (h : Fm g0 w0 v bs w) {A : Option Addr} {l : List Int} {n : Nat} (hr : ReadsInt w0 .u64 A n l) (hA : ∀ ad, A = some ad → ad.block < w0.heap.size ∧ ad.block ≠ g0) : ReadsInt w .u64 A n l := by
  refine ⟨hr.1, hr.2.1, fun h0 => ?_⟩
  obtain ⟨ad, e, hc⟩ := hr.2.2 h0
  refine ⟨ad, e, fun j hj => ?_⟩
  rw [← hc j hj]
  exact World.cell?_of_block (h.old (by rw [Base.add_block]; exact (hA ad e).1) (by rw [Base.add_block]; exact (hA ad e).2))
/-- the scratch room of Decimal.Append -/
def room16 : Obj := .cells #[.int .u8 0, .int .u8 0, .int .u8 0, .int .u8 0, .int .u8 0, .int .u8 0, .int .u8 0, .int .u8 0, .int .u8 0, .int .u8 0, .int .u8 0, .int .u8 0, .int .u8 0, .int .u8 0, .int .u8 0, .int .u8 0] 61
/-- what comes back from the coefficient's Append, the buffer beside it -/
def DgOut (g0 : Nat) (w0 : World) (g n c : Nat) (bs l : List Int) (e : Ending) (w' : World) : Prop := ∃ ad cd, e = .returned (.slice (some ad) (tx l).length cd) ∧ (tx l).length ≤ cd ∧ ReadsInt w' .u8 (some ad) (tx l).length (tx l) ∧ ad.block < w'.heap.size ∧ ad.block ≠ g ∧
  Fm g0 w0 (.slice (some ⟨g, 0, none⟩) n c) bs w'
/-- the blocks that Append looks at, none of them the buffer's -/
structure Src0 (D t g0 cB : Nat) (ex : Int) (neg : Bool) (A : Option Addr) (l : List Int) (w : World) : Prop where
  dig : Dig 18446744073709551616 l
  nrm : Nrm l
  len : l.length ≤ 3
  reads : ReadsInt w .u64 A l.length l
  apart : ∀ ad, A = some ad → ad.block < w.heap.size ∧ ad.block ≠ g0
  dec : w.heap[D]? = some (.cells #[.int .i8 0, .bool neg, .int .i32 ex, .bool false, .slice A l.length cB, .bool false] t (0, 0))
  dne : D ≠ g0
  leaf : w.cell? ⟨1, 0, none⟩ = some (.int .i64 8)
  leafne : ¬ 1 = g0
  tab : Lib.TabIs Tryz.prog w "internal/strconv.uint64pow10" .u64 Lib.pow10Tab
  tabne : ¬ 7 = g0
theorem leaf_lt {w : World} (h : w.cell? ⟨1, 0, none⟩ = some (.int .i64 8)) : 1 < w.heap.size := World.block_lt_of_cell? w _ h
theorem dig_c {D t g0 cB : Nat} {ex : Int} {neg : Bool} {A : Option Addr} {l : List Int} {w0 w : World} (hs : Src0 D t g0 cB ex neg A l w0) {g n c : Nat} {bs : List Int} (hf : Fm g0 w0 (.slice (some ⟨g, 0, none⟩) n c) bs w) :
    Calls Tryz.prog 21 #[.pointer (some ⟨D, 3, none⟩), .slice (some ⟨w.heap.size, 0, none⟩) 0 16, .int .i64 10] (w.alloc room16).drew fun e w' => DgOut g0 w0 g n c bs l e w' := by
  have hlt := leaf_lt hs.leaf
  have hD1 : (w.alloc room16).drew.heap[D]? = some (.cells #[.int .i8 0, .bool neg, .int .i32 ex, .bool false, .slice A l.length cB, .bool false] t (0, 0)) := blk_alloc (hf.oldb hs.dec hs.dne) _
  have hle : (w.alloc room16).drew.cell? ⟨1, 0, none⟩ = some (.int .i64 8) := by
    rw [← hs.leaf]
    exact World.cell?_of_block ((Below.heap_alloc w room16 _ (Nat.lt_of_lt_of_le hlt hf.size)).trans (hf.old hlt hs.leafne))
  have hb0 : Below w.heap.size w (w.alloc room16).drew := below_drew (below_alloc (Below.refl _ _) _)
  have hr1 := (hf.digW hs.reads hs.apart).below hb0
  have hS : Scr w.heap.size (w.alloc room16).drew := ⟨_, _, heap_alloc_new w _, rfl⟩
  refine (bigApp w.heap.size D 3 t w.heap.size _ A cB l hs.len hs.dig hs.nrm (w.alloc room16).drew hr1 hle (by have := hf.size; have := hb0.size; omega) hD1 ⟨rfl, rfl⟩ hS (Nat.le_refl _) hb0.size).mono ?_
  rintro e w' ⟨v, rfl, ad, cd, rfl, h1, h2, h3, h4⟩
  refine ⟨ad, cd, rfl, h1, h2, ?_, ?_, hf.below (hb0.trans h3)⟩
  · obtain ⟨ad', e', hc⟩ := h2.2.2 (tx_pos hs.dig hs.nrm hs.len)
    cases e'
    have := World.block_lt_of_cell? w' _ (hc 0 (tx_pos hs.dig hs.nrm hs.len))
    rwa [Base.add_block] at this
  · obtain ⟨g', c', cells, t', hv, hg, hh, _⟩ := hf.row
    injection hv with e1 e2 e3
    injection e1 with e1
    injection e1 with e1
    have := (Array.getElem?_eq_some_iff.1 hh).1
    omega
end Go.Proofs.YtdfcomilhjoooaaGreatDoor.Div
