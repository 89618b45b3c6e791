/- Contracts of MathBigInt, Bits and impl.words. Lengths up to a hundred thousand words. -/
import Derived.Test.YtdfcomilhjoooaaBase5
namespace Go.Proofs.Ytdfcomilhjoooaa.Base
open Go.RowKit Go.Proofs.YtdfcomilhjoooaaW.PrintWords

theorem mathbig (b2 o2 t2 : Nat) (c2 : Array Value) (xn : Bool) (A : Option Addr) (c : Nat) (l : List Int) (hl : l.length ≤ 100000) (w : World) (hr : ReadsInt w .u64 A l.length l)
    (hb2 : w.heap[b2]? = some (.cells c2 t2 (0, 0))) (hx : isInt c2 o2 xn (.slice A l.length c)) :
    Calls Try.prog 36 #[.pointer (some ⟨b2, o2, none⟩)] w fun e w' => ∃ A' c', e = .returned (.pointer (some ⟨w.heap.size, 0, none⟩)) ∧
      Below w.heap.size w w' ∧ w'.heap[w.heap.size]? = some (.cells #[.bool xn, .slice A' l.length c'] 63 (0, 0)) ∧
      w'.ownsRow w.heap.size 80 1 (.slice A' l.length c') l.length (nums .u64 l) ∧ c' ≤ l.length + 4 ∧ (A' = none → c' = 0) := by
  have C := Lib.hid (intset w.heap.size 0 b2 o2 63 t2 #[.bool false, .slice none 0 0] c2 (by have := blk_lt hb2; omega) xn false A c l hl (w.alloc (.cells #[.bool false, .slice none 0 0] 63))
    (hr.below (below_alloc (Below.refl _ _) _)) (blk_new w _) (blk_alloc hb2 _) ⟨rfl, rfl⟩ hx)
  clear hr hb2 hx hl
  obtain ⟨n, hn⟩ : ∃ n, n = l.length := ⟨_, rfl⟩
  rw [← hn] at C ⊢
  clear hn
  go_enter Try.func36, Try.ntmps36
  go_wp2_with fail
  refine C.out.mono ?_
  rintro e w2 ⟨A', c', rfl, hbut, hblk, hown, hc, hA'⟩
  have HBUT := Lib.hid hbut
  have HBLK := Lib.hid hblk
  have HOWN := Lib.hid hown
  have HC' := Lib.hid hc
  have HA' := Lib.hid hA'
  clear hbut hblk hown hc hA' C
  go_wp2_with fail
  go_ret
  exact ⟨A', c', rfl, (below_alloc (Below.refl w.heap.size w) (.cells #[.bool false, .slice none 0 0] 63)).trans (HBUT.out.below (Nat.le_refl _) (by simp)), HBLK.out, own_lower HOWN.out (by simp), HC'.out, HA'.out⟩

theorem bits_any (b : Nat) (v : Value) (xn : Bool) (t : Nat) (w : World) (hb : w.heap[b]? = some (.cells #[.bool xn, v] t (0, 0))) :
    Calls Try.prog 37 #[.pointer (some ⟨b, 0, none⟩)] w fun e w' => e = .returned v ∧ w = w' := by
  have Z1 : w.cell? ⟨b, 1, none⟩ = some v := blk_cell hb 1
  clear hb
  go_enter Try.func37, Try.ntmps37
  go_wp2_with fail
  go_ret
  exact ⟨rfl, rfl⟩

set_option maxRecDepth 100000 in
set_option maxHeartbeats 1000000 in
theorem words_any (b2 o2 t2 : Nat) (c2 : Array Value) (xn : Bool) (A : Option Addr) (c : Nat) (l : List Int) (hl : l.length ≤ 100000) (w : World) (hr : ReadsInt w .u64 A l.length l)
    (hb2 : w.heap[b2]? = some (.cells c2 t2 (0, 0))) (hx : isInt c2 o2 xn (.slice A l.length c)) :
    Calls Try.prog 27 #[.pointer (some ⟨b2, o2, none⟩)] w fun e w' => ∃ A' c', e = .returned (.slice A' l.length c') ∧
      Below w.heap.size w w' ∧ w'.ownsRow w.heap.size 49 1 (.slice A' l.length c') l.length (nums .u64 l) := by
  obtain ⟨i0, hi, hz0, hz1, hz2⟩ := info_parts infoU
  have HM := Lib.hid (mathbig b2 o2 t2 c2 xn A c l hl w hr hb2 hx)
  clear hr hb2 hx
  obtain ⟨n, hn⟩ : ∃ n, n = l.length := ⟨_, rfl⟩
  rw [← hn] at HM hl ⊢
  have HN := Lib.hid hn
  clear hn
  go_enter Try.func27, Try.ntmps27
  go_wp2_with fail
  refine HM.out.mono ?_
  rintro e w1 ⟨A1, c1, rfl, hbel, hblk, hown, _, _⟩
  clear HM
  have HOWN := Lib.hid hown
  have HBEL := Lib.hid hbel
  have HBLK := Lib.hid hblk
  clear hown hbel hblk
  go_wp2_with fail
  refine (bits_any _ _ _ _ _ HBLK.out).mono ?_
  rintro e w2 ⟨rfl, rfl⟩
  go_wp2_with fail
  go_loopw [3, 10] (fun v3 v10 wr => ∃ k : Nat, k ≤ n ∧ v10 = .int .i64 k ∧ wr.ownsRow w.heap.size 49 1 v3 k (nums .u64 (l.take k)) ∧ wr.ownsRow w.heap.size 80 1 (.slice A1 n c1) n (nums .u64 l) ∧ Below w.heap.size w wr)
    (fun _ v10 _ => n - (intOf v10).toNat)
  case atStart => exact ⟨0, Nat.zero_le _, rfl, own_nil _ _ _ _, HOWN.out, HBEL.out⟩
  case round =>
    obtain ⟨k, hk, rfl, ho, hA, hb⟩ := hrel
    have HO := Lib.hid ho
    have HA := Lib.hid hA
    have HB := Lib.hid hb
    clear ho hA hb
    by_cases hlt : k < n
    · have hn := HN.out
      obtain ⟨ad, rfl, hcl⟩ := reads_cells (own_reads' HA.out) (by omega)
      have hcell : wr.cell? (ad.add k) = some (.int .u64 (l.getD k 0)) := by
        refine hcl k _ ?_
        simp only [nums, List.getElem?_map, List.getD_eq_getElem?_getD]
        rw [List.getElem?_eq_getElem (by omega)]
        rfl
      clear hcl hn
      obtain ⟨x, hx⟩ : ∃ x, x = l.getD k 0 := ⟨_, rfl⟩
      rw [← hx] at hcell
      have HX := Lib.hid hx
      clear hx
      go_wp2_with (first | (at_builtin; refine wpList_append_own _ rfl _ _ 29 rfl w.heap.size 49 i0 (.int .u64 0) 1 8 Try.underlying29 hi hz0 hz1 hz2 rfl (by decide) _ _ _ rfl (HO.out.alloc _) ⟨wr.heap.size, 0, none⟩ 1 1 [.int .u64 x] rfl rfl (new_one _ _ _) (fun u hu => by simp at hu; subst hu; rfl) (by unfold maxLen; omega) (by omega) (by have := HB.out.size; simp; omega) ?_; intro v' w1 hown' hgrow _))
      have R := gather (o := .cells #[.int .u64 x] 49) (by have := HN.out; omega) HB.out HO.out (by rw [← HX.out]; exact hown') hgrow
      have RA := own_other (HA.out.alloc (.cells #[.int .u64 x] 49)) hgrow (own_type_ne HA.out HO.out (by decide))
      clear hown' hgrow
      go_wp2_with fail
      go_roundw
      case rel => exact ⟨k + 1, by omega, by go_num, R.1, RA, R.2⟩
      case measure => simp [intOf]; omega
    · obtain rfl : k = n := by omega
      go_wp2_with fail
      go_ret
      have ho := HO.out
      rw [HN.out, List.take_length] at ho
      obtain ⟨A', c', rfl, _⟩ := own_reads ho
      exact ⟨A', c', by rw [HN.out]; rfl, HB.out, by rw [HN.out]; exact ho⟩
end Go.Proofs.Ytdfcomilhjoooaa.Base
