/- Contract of impl.told on a finite Decimal. Lengths up to a hundred thousand words, exponents of 32 bits. -/
import Derived.Test.YtdfcomilhjoooaaWords
import Derived.Deep.RegionWith
namespace Go.Proofs.Ytdfcomilhjoooaa.Base
open Go.RowKit Go.Proofs.YtdfcomilhjoooaaW.PrintWords

theorem told_end {w W1 w1 : World} {A' : Option Addr} {n c' : Nat} {l : List Int} {neg : Bool} {ex : Int} (hb : Below w.heap.size w W1) (hs : W1.heap.size = w.heap.size + 2) (hbe : Below W1.drew.heap.size W1.drew w1)
    (hown : w1.ownsRow W1.drew.heap.size 49 1 (.slice A' n c') n (nums .u64 l)) :
    ∃ A2 c2, Ending.returned (.agg #[.int .i64 0, .bool neg, .slice A' n c', .int .i64 ex]) = Ending.returned (.agg #[.int .i64 0, .bool neg, .slice A2 n c2, .int .i64 ex]) ∧
      Below w.heap.size w ((((((w1.setCell ⟨w.heap.size + 1, 2, none⟩ (.slice A' n c')).setCell ⟨w.heap.size + 1, 3, none⟩ (.int .i64 ex)).setCell ⟨w.heap.size, 0, none⟩ (.int .i64 0)).setCell ⟨w.heap.size, 1, none⟩ (.bool neg)).setCell ⟨w.heap.size, 2, none⟩ (.slice A' n c')).setCell ⟨w.heap.size, 3, none⟩ (.int .i64 ex)) ∧
      ((((((w1.setCell ⟨w.heap.size + 1, 2, none⟩ (.slice A' n c')).setCell ⟨w.heap.size + 1, 3, none⟩ (.int .i64 ex)).setCell ⟨w.heap.size, 0, none⟩ (.int .i64 0)).setCell ⟨w.heap.size, 1, none⟩ (.bool neg)).setCell ⟨w.heap.size, 2, none⟩ (.slice A' n c')).setCell ⟨w.heap.size, 3, none⟩ (.int .i64 ex)).ownsRow w.heap.size 49 1 (.slice A2 n c2) n (nums .u64 l) := by
  have hd : W1.drew.heap.size = w.heap.size + 2 := hs
  have h1 : Below w.heap.size w w1 := hb.trans ((below_of_drew hbe).mono (by omega))
  refine ⟨A', c', rfl, ?_, ?_⟩
  · exact (((((h1.setCell (by simp) _).setCell (by simp) _).setCell (by simp) _).setCell (by simp) _).setCell (by simp) _).setCell (by simp) _
  · rw [hd] at hown
    exact own_lower (own_set (own_set (own_set (own_set (own_set (own_set hown (by omega)) (by omega)) (by omega)) (by omega)) (by omega)) (by omega)) (by omega)

set_option maxRecDepth 100000 in
set_option maxHeartbeats 2000000 in
theorem told_any (D t : Nat) (neg xn mm : Bool) (ex : Int) (h0 : -2147483648 ≤ ex) (h1 : ex ≤ 2147483647) (A : Option Addr) (c : Nat) (l : List Int) (hl : l.length ≤ 100000) (w : World) (hr : ReadsInt w .u64 A l.length l)
    (hD : w.heap[D]? = some (.cells #[.int .i8 0, .bool neg, .int .i32 ex, .bool xn, .slice A l.length c, .bool mm] t (0, 0))) :
    Calls Try.prog 18 #[.pointer (some ⟨D, 0, none⟩)] w fun e w' => ∃ A' c', e = .returned (.agg #[.int .i64 0, .bool neg, .slice A' l.length c', .int .i64 ex]) ∧
      Below w.heap.size w w' ∧ w'.ownsRow w.heap.size 49 1 (.slice A' l.length c') l.length (nums .u64 l) := by
  obtain ⟨W0, hW0⟩ : ∃ W0, W0 = w.alloc (.cells #[.int .i64 0, .bool false, .slice none 0 0, .int .i64 0] 31) := ⟨_, rfl⟩
  obtain ⟨W1, hW1⟩ : ∃ W1, W1 = W0.alloc (.cells #[.int .i64 0, .bool neg, .slice none 0 0, .int .i64 0] 31) := ⟨_, rfl⟩
  have X0 : (w.alloc (.cells #[.int .i64 0, .bool false, .slice none 0 0, .int .i64 0] 31)).cell? ⟨D, 1, none⟩ = some (.bool neg) := blk_cell (blk_alloc hD _) 1
  have X1 : ((w.alloc (.cells #[.int .i64 0, .bool false, .slice none 0 0, .int .i64 0] 31)).alloc (.cells #[.int .i64 0, .bool neg, .slice none 0 0, .int .i64 0] 31)).cell? ⟨D, 0, none⟩ = some (.int .i8 0) := blk_cell (blk_alloc (blk_alloc hD _) _) 0
  have HB1 : Hid (Below w.heap.size w W1) := Lib.hid (by rw [hW1, hW0]; go_grown)
  have HS1 : Hid (W1.heap.size = w.heap.size + 2) := Lib.hid (by rw [hW1, hW0]; simp)
  have HD1 : Hid (W1.heap[D]? = some (.cells #[.int .i8 0, .bool neg, .int .i32 ex, .bool xn, .slice A l.length c, .bool mm] t (0, 0))) := Lib.hid (by rw [hW1, hW0]; exact blk_alloc (blk_alloc hD _) _)
  have HO1 : Hid (W1.heap[w.heap.size + 1]? = some (.cells #[.int .i64 0, .bool neg, .slice none 0 0, .int .i64 0] 31 (0, 0))) := Lib.hid (by rw [hW1, hW0]; have := blk_new (w.alloc (.cells #[.int .i64 0, .bool false, .slice none 0 0, .int .i64 0] 31)) (.cells #[.int .i64 0, .bool neg, .slice none 0 0, .int .i64 0] 31); rw [World.size_alloc] at this; exact this)
  have HR1 : Hid (W1.heap[w.heap.size]? = some (.cells #[.int .i64 0, .bool false, .slice none 0 0, .int .i64 0] 31 (0, 0))) := Lib.hid (by rw [hW1, hW0]; exact blk_alloc (blk_new w _) _)
  have HDL : Hid (¬ D = w.heap.size + 1) := Lib.hid (by have := blk_lt hD; omega)
  have HW := Lib.hid (words_any D 3 t _ xn A c l hl W1.drew ((hr.below HB1.out).below (below_drew (Below.refl _ _))) HD1.out ⟨rfl, rfl⟩)
  have HE : Hid (W1 = (w.alloc (.cells #[.int .i64 0, .bool false, .slice none 0 0, .int .i64 0] 31)).alloc (.cells #[.int .i64 0, .bool neg, .slice none 0 0, .int .i64 0] 31)) := Lib.hid (by rw [hW1, hW0])
  clear hW0 hW1 hD hr
  obtain ⟨n, hn⟩ : ∃ n, n = l.length := ⟨_, rfl⟩
  rw [← hn] at HW HD1 ⊢
  clear hn
  go_enter Try.func18, Try.ntmps18
  go_wp2_with fail
  rw [← HE.out]
  have Y2 : W1.drew.cell? ⟨D, 2, none⟩ = some (.int .i32 ex) := blk_cell HD1.out 2
  have Y2' : W1.cell? ⟨D, 2, none⟩ = some (.int .i32 ex) := blk_cell HD1.out 2
  go_region_with (go_at_call 27; refine HW.out.mono ?_; rintro e w1 ⟨A', c', rfl, hbel, hown⟩; have Z2 : w1.cell? ⟨D, 2, none⟩ = some (.int .i32 ex) := blk_cell (blk_below (w := W1.drew) HD1.out hbel) 2; have Z3 : (w1.setCell ⟨w.heap.size + 1, 2, none⟩ (.slice A' n c')).cell? ⟨D, 2, none⟩ = some (.int .i32 ex) := blk_cell (blk_far (blk_below (w := W1.drew) HD1.out hbel) (p := ⟨w.heap.size + 1, 2, none⟩) HDL.out _) 2; have hob := blk_below (w := W1.drew) HO1.out hbel; have hrb := blk_below (w := W1.drew) HR1.out hbel; have Q0 := blk_cell hob 0; have Q1 := blk_cell hob 1; have U0 := blk_cell hrb 0; have U1 := blk_cell hrb 1; have U2 := blk_cell hrb 2; have U3 := blk_cell hrb 3; have V0 := blk_frozen hrb 0; have V1 := blk_frozen hrb 1; have V2 := blk_frozen hrb 2; have V3 := blk_frozen hrb 3; have Q2 := blk_cell hob 2; have Q3 := blk_cell hob 3; have E2 := blk_frozen hob 2; have E3 := blk_frozen hob 3; have HOB := Lib.hid hob; have HRB := Lib.hid hrb; have ho2 := blk_set (blk_set hob 2 (.slice A' n c')) 3 (.int .i64 ex); have hr2 := blk_far (blk_far hrb (p := ⟨w.heap.size + 1, 2, none⟩) (by simp) (.slice A' n c')) (p := ⟨w.heap.size + 1, 3, none⟩) (by simp) (.int .i64 ex); have R0 := blk_cell ho2 0; have R1 := blk_cell ho2 1; have R2 := blk_cell ho2 2; have R3 := blk_cell ho2 3; have S0 := blk_cell hr2 0; have S1 := blk_cell hr2 1; have S2 := blk_cell hr2 2; have S3 := blk_cell hr2 3; have T0 := blk_frozen hr2 0; have T1 := blk_frozen hr2 1; have T2 := blk_frozen hr2 2; have T3 := blk_frozen hr2 3; have HR2 := Lib.hid hr2; have HBEL := Lib.hid hbel; have HOWN := Lib.hid hown; simp only [List.getElem?_toArray, List.getElem?_cons_zero, List.getElem?_cons_succ] at Q0 Q1 Q2 Q3 U0 U1 U2 U3 S0 S1 S2 S3; change _ = some (Value.int .i64 0) at R0; change _ = some (Value.bool neg) at R1; change _ = some (Value.slice A' n c') at R2; change _ = some (Value.int .i64 ex) at R3; clear ho2 hr2 hob hrb hbel hown HW)
  all_goals go_wp2_with fail
  all_goals refine bodyPost_ret (results_cell_row rfl _ _ w.heap.size 31 _ (0, 0) _ rfl (blk_set (blk_set (blk_set (blk_set HR2.out 0 _) 1 _) 2 _) 3 _) Try.underlying31 rfl (by kernel_rfl)) rfl ?_
  all_goals exact told_end (neg := neg) (ex := ex) HB1.out HS1.out HBEL.out HOWN.out
end Go.Proofs.Ytdfcomilhjoooaa.Base
