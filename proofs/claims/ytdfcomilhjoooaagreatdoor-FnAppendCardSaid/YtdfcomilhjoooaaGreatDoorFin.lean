/- Contracts of laws.zzFits1 and laws.finite. -/
import Derived.Test.YtdfcomilhjoooaaGreatDoorSpec1
namespace Go.Proofs.YtdfcomilhjoooaaGreatDoor.Base
open Go.RowKit Go.Proofs.YtdfcomilhjoooaaGreatDoorW.PrintWords

theorem fits_any (f : Int) (neg : Bool) (A : Option Addr) (c : Nat) (l : List Int) (e : Int) (w : World) :
    Calls Tryz.prog 5 #[.agg #[.int .i64 f, .bool neg, .slice A l.length c, .int .i64 e]] w fun x w' => (l.length > 2147483647 → x = .returned (.bool false)) ∧ (l.length ≤ 2147483647 → x = .returned (.bool true)) ∧ Below w.heap.size w w' := by
  go_enter Tryz.func5, Tryz.ntmps5
  by_cases h : 2147483647 < (l.length : Int)
  · have h0 : decide (2147483647 < (l.length : Int)) = true := decide_eq_true h
    go_wp2_with fail
    go_ret
    exact ⟨fun _ => rfl, fun h' => absurd h (by omega), by go_grown⟩
  · have h0 : decide (2147483647 < (l.length : Int)) = false := decide_eq_false h
    go_wp2_with fail
    go_ret
    exact ⟨fun h' => absurd h' (by omega), fun _ => rfl, by go_grown⟩

theorem ofdec_any (f : Int) (neg : Bool) (A : Option Addr) (c : Nat) (l : List Int) (e : Int) (hl : l.length ≤ 1000) (hc : l.length ≤ c) (w : World) (hr : ReadsInt w .u64 A l.length l) :
    Calls Tryz.prog 12 #[.agg #[.int .i64 f, .bool neg, .slice A l.length c, .int .i64 e]] w fun x w' => ∃ A' n' c' b, x = .returned (.tuple #[.agg #[.bool neg, .slice A' n' c', .int .i64 e], .bool b]) ∧ (b = true → f = 0 ∧ nlTo l l.length = l.length) ∧ Below w.heap.size w w' := by
  obtain ⟨k, d, b, hs, hb⟩ := Spec.ofdec_some f neg l e hl
  have hC : Kd.C (Kd.int .u64) w A l.length l := Kd.C_of_reads (readsInt_of.1 hr)
  refine (POfDec.spec_OfDec.calls k f neg A c l e neg d e b w hC hc hs).mono ?_
  rintro x w' ⟨v, rfl, hv, hbel⟩
  obtain ⟨A', c', rfl⟩ := Kd.V_slice hv
  exact ⟨A', d.length, c', b, rfl, hb, hbel⟩

/-- what laws.finite gives -/
def FinOut (f : Int) (l : List Int) (e : Int) (w : World) (x : Ending) (w' : World) : Prop :=
  ∃ ng A' n' c' e' b, x = .returned (.tuple #[.agg #[.bool ng, .slice A' n' c', .int .i64 e'], .bool b]) ∧ (b = true → f = 0 ∧ nlTo l l.length = l.length ∧ l.length ≤ 3 ∧ -100 ≤ e ∧ e ≤ 100) ∧ Below w.heap.size w w'

set_option maxHeartbeats 2000000 in
theorem finite_any (f : Int) (neg : Bool) (A : Option Addr) (c : Nat) (l : List Int) (e : Int) (hc : l.length ≤ c) (w : World) (hr : ReadsInt w .u64 A l.length l) :
    Calls Tryz.prog 6 #[.agg #[.int .i64 f, .bool neg, .slice A l.length c, .int .i64 e]] w fun x w' => FinOut f l e w x w' := by
  have HR := Lib.hid hr
  have HC := Lib.hid hc
  obtain ⟨W, hW⟩ : ∃ W, W = (w.alloc (.cells #[.int .i64 f, .bool neg, .slice A l.length c, .int .i64 e] 25)).alloc (.cells #[.bool false, .slice none 0 0, .int .i64 0] 30) := ⟨_, rfl⟩
  have hWH := Lib.hid hW
  have HBW : Hid (Below w.heap.size w W) := Lib.hid (by rw [hW]; go_grown)
  have HD : Hid (W.heap[w.heap.size + 1]? = some (.cells #[.bool false, .slice none 0 0, .int .i64 0] 30 (0, 0))) :=
    Lib.hid (by rw [hW]; have := blk_new (w.alloc (.cells #[.int .i64 f, .bool neg, .slice A l.length c, .int .i64 e] 25)) (.cells #[.bool false, .slice none 0 0, .int .i64 0] 30); rw [World.size_alloc] at this; exact this)
  have HZ : Hid (w.heap.size + 2 = W.heap.size) := Lib.hid (by rw [hW]; simp)
  clear hr hc hW
  go_enter Tryz.func6, Tryz.ntmps6
  by_cases h1 : 3 < (l.length : Int)
  · have g1 : decide (3 < (l.length : Int)) = true := decide_eq_true h1
    go_wp2_with fail
    rw [← hWH.out]
    refine bodyPost_ret (results_ct rfl _ _ (w.heap.size + 1) 30 _ (0, 0) _ rfl HD.out Tryz.underlying30 rfl (by kernel_rfl)) rfl ?_
    exact ⟨_, _, _, _, _, _, rfl, fun h => (by cases h), HBW.out⟩
  have g1 : decide (3 < (l.length : Int)) = false := decide_eq_false h1
  by_cases h2 : e < -100
  · have g2 : decide (e < -100) = true := decide_eq_true h2
    go_wp2_with fail
    rw [← hWH.out]
    refine bodyPost_ret (results_ct rfl _ _ (w.heap.size + 1) 30 _ (0, 0) _ rfl HD.out Tryz.underlying30 rfl (by kernel_rfl)) rfl ?_
    exact ⟨_, _, _, _, _, _, rfl, fun h => (by cases h), HBW.out⟩
  have g2 : decide (e < -100) = false := decide_eq_false h2
  by_cases h3 : 100 < e
  · have g3 : decide (100 < e) = true := decide_eq_true h3
    go_wp2_with fail
    rw [← hWH.out]
    refine bodyPost_ret (results_ct rfl _ _ (w.heap.size + 1) 30 _ (0, 0) _ rfl HD.out Tryz.underlying30 rfl (by kernel_rfl)) rfl ?_
    exact ⟨_, _, _, _, _, _, rfl, fun h => (by cases h), HBW.out⟩
  have g3 : decide (100 < e) = false := decide_eq_false h3
  go_wp2_with fail
  rw [← hWH.out]
  refine (ofdec_any f neg A c l e (by omega) HC.out W (HR.out.below HBW.out)).mono ?_
  rintro x w' ⟨A', n', c', b, rfl, hb, hbel⟩
  have hblk := blk_below HD.out hbel
  have HK := Lib.hid hblk
  have X0 := blk_cell hblk 0
  have X1 := blk_cell hblk 1
  have X2 := blk_cell hblk 2
  have F0 := blk_frozen hblk 0
  have F1 := blk_frozen hblk 1
  have F2 := blk_frozen hblk 2
  simp only [List.getElem?_toArray, List.getElem?_cons_zero, List.getElem?_cons_succ] at X0 X1 X2
  have HBL := Lib.hid hbel
  have HB := Lib.hid hb
  clear hblk hbel hb
  go_wp2_with fail
  refine bodyPost_ret (results_ct rfl _ _ (w.heap.size + 1) 30 _ (0, 0) _ rfl (blk_set (blk_set (blk_set HK.out 0 _) 1 _) 2 _) Tryz.underlying30 rfl (by kernel_rfl)) rfl ?_
  refine ⟨_, _, _, _, _, _, rfl, fun h => ⟨(HB.out h).1, (HB.out h).2, by omega, by omega, by omega⟩, ?_⟩
  have hz := HZ.out
  exact (HBW.out.trans (HBL.out.mono (by omega))).setCell (by simp) _ |>.setCell (by simp) _ |>.setCell (by simp) _
end Go.Proofs.YtdfcomilhjoooaaGreatDoor.Base
