/- The walk of laws.FnComposeBack, kind 2 of three. -/
import Derived.Test.YtdfcomilhjoooaaCbBase
import Derived.Deep.CutRange
namespace Go.Proofs.Ytdfcomilhjoooaa.Byt
open Go.RowKit Go.Proofs.YtdfcomilhjoooaaW.PrintWords Go.Proofs.Ytdfcomilhjoooaa.Base Go.Proofs.Ytdfcomilhjoooaa.Num Go.Proofs.Ytdfcomilhjoooaa.Be
set_option linter.unusedVariables false

set_option maxRecDepth 100000 in
set_option maxHeartbeats 16000000 in
theorem cb_walk2 (q : Nat) (hq : q ≤ 255) (neg : Bool) (f : Int) (ng : Bool) (A : Option Addr) (c : Nat) (l : List Int) (e : Int) (hc : l.length ≤ c) (hd : Dig (2 ^ 64) l) (w : World) (hr : ReadsInt w .u64 A l.length l)
    (h3 : q % 3 = 2) :
    Calls Try.prog 4 #[.int .u8 q, .bool neg, .agg #[.int .i64 f, .bool ng, .slice A l.length c, .int .i64 e]] w fun x w' => CbOut w x w' := by
  have HR := Lib.hid hr
  have HC := Lib.hid hc
  have HD := Lib.hid hd
  have H3 := Lib.hid h3
  obtain ⟨W, hW⟩ : ∃ W, W = w.alloc (.cells #[.int .i64 f, .bool ng, .slice A l.length c, .int .i64 e] 31) := ⟨_, rfl⟩
  have HZ : Hid (W.heap.size = w.heap.size + 1) := Lib.hid (by rw [hW]; simp)
  have HX : Hid (W.heap[w.heap.size]? = some (.cells #[.int .i64 f, .bool ng, .slice A l.length c, .int .i64 e] 31 (0, 0))) := Lib.hid (by rw [hW]; exact blk_new w _)
  have HBW : Hid (Below w.heap.size w W) := Lib.hid (by rw [hW]; go_grown)
  have HW := Lib.hid hW
  clear hr hc hW hd h3
  go_enter Try.func4, Try.ntmps4
  go_wp2_with fail
  rw [← HW.out]
  refine (fits_any f ng A c l e W).mono ?_
  rintro x w1 ⟨k1, k2, b1⟩
  by_cases hfit : l.length ≤ 2147483647
  case neg =>
    obtain rfl := k1 (by omega)
    clear k1 k2
    have H := Lib.hid b1
    go_wp2_with fail
    go_ret
    exact ⟨rfl, HBW.out.trans (b1.mono HBW.out.size)⟩
  obtain rfl := k2 hfit
  have hbw1 : Below w.heap.size w w1 := HBW.out.trans (b1.mono HBW.out.size)
  have hx1 := blk_below HX.out b1
  have X0 := blk_cell hx1 0
  have X1 := blk_cell hx1 1
  have X2 := blk_cell hx1 2
  have X3 := blk_cell hx1 3
  simp only [List.getElem?_toArray, List.getElem?_cons_zero, List.getElem?_cons_succ] at X0 X1 X2 X3
  have HX1 := Lib.hid hx1
  have HB1 := Lib.hid hbw1
  clear k1 k2 b1 hx1 hbw1 HX HBW hfit
  go_wp2_with fail
  refine (finite_any f ng A c l e HC.out w1 (HR.out.below HB1.out)).mono ?_
  rintro x w2 ⟨ng', A', n', c', e', b, rfl, hb, bel⟩
  have hbw2 : Below w.heap.size w w2 := HB1.out.trans (bel.mono HB1.out.size)
  have hx2 := blk_below HX1.out bel
  have HX2 := Lib.hid hx2
  have HB2 := Lib.hid hbw2
  clear X0 X1 X2 X3 bel hx2 hbw2
  cases b
  case false =>
    clear hb
    go_wp2_with fail
    go_ret
    exact ⟨rfl, below_alloc HB2.out _⟩
  obtain ⟨h0, hnl, h1, h2, h3⟩ := hb rfl
  have HN := Lib.hid (nrm_of_nlTo hnl)
  have HL3 := Lib.hid h1
  have HE0 := Lib.hid h2
  have HE1 := Lib.hid h3
  subst h0
  clear hb hnl h1 h2 h3
  go_wp2_with fail
  obtain ⟨w3, hw3⟩ : ∃ w3, w3 = w2.alloc (.cells #[.bool ng', .slice A' n' c', .int .i64 e'] 38) := ⟨_, rfl⟩
  have HX3 : Hid (w3.heap[w.heap.size]? = some (.cells #[.int .i64 0, .bool ng, .slice A l.length c, .int .i64 e] 31 (0, 0))) := Lib.hid (by rw [hw3]; exact blk_alloc HX2.out _)
  have HB3 : Hid (Below w.heap.size w w3) := Lib.hid (by rw [hw3]; exact below_alloc HB2.out _)
  rw [← hw3]
  clear hw3 HX2 HB2
  have Y0 : w3.cell? ⟨w.heap.size, 0, none⟩ = some (.int .i64 0) := blk_cell HX3.out 0
  have Y1 : w3.cell? ⟨w.heap.size, 1, none⟩ = some (.bool ng) := blk_cell HX3.out 1
  have Y2 : w3.cell? ⟨w.heap.size, 2, none⟩ = some (.slice A l.length c) := blk_cell HX3.out 2
  have Y3 : w3.cell? ⟨w.heap.size, 3, none⟩ = some (.int .i64 e) := blk_cell HX3.out 3
  have Z0 : ∀ o, (w3.alloc o).cell? ⟨w.heap.size, 0, none⟩ = some (.int .i64 0) := fun o => blk_cell (blk_alloc HX3.out o) 0
  have Z1 : ∀ o, (w3.alloc o).cell? ⟨w.heap.size, 1, none⟩ = some (.bool ng) := fun o => blk_cell (blk_alloc HX3.out o) 1
  have Z2 : ∀ o, (w3.alloc o).cell? ⟨w.heap.size, 2, none⟩ = some (.slice A l.length c) := fun o => blk_cell (blk_alloc HX3.out o) 2
  have Z3 : ∀ o, (w3.alloc o).cell? ⟨w.heap.size, 3, none⟩ = some (.int .i64 e) := fun o => blk_cell (blk_alloc HX3.out o) 3
  have V0 : ∀ o o', ((w3.alloc o).alloc o').cell? ⟨w.heap.size, 0, none⟩ = some (.int .i64 0) := fun o o' => blk_cell (blk_alloc (blk_alloc HX3.out o) o') 0
  have V1 : ∀ o o', ((w3.alloc o).alloc o').cell? ⟨w.heap.size, 1, none⟩ = some (.bool ng) := fun o o' => blk_cell (blk_alloc (blk_alloc HX3.out o) o') 1
  have V2 : ∀ o o', ((w3.alloc o).alloc o').cell? ⟨w.heap.size, 2, none⟩ = some (.slice A l.length c) := fun o o' => blk_cell (blk_alloc (blk_alloc HX3.out o) o') 2
  have V3 : ∀ o o', ((w3.alloc o).alloc o').cell? ⟨w.heap.size, 3, none⟩ = some (.int .i64 e) := fun o o' => blk_cell (blk_alloc (blk_alloc HX3.out o) o') 3
  obtain ⟨n, hn⟩ : ∃ n, n = l.length := ⟨_, rfl⟩
  rw [← hn] at Y2 Z2 V2 HX3 ⊢
  have HNL := Lib.hid hn
  clear hn
  have h := H3.out
  clear H3
  have T1 : Int.tmod (q : Int) 3 = 2 := by rw [Int.tmod_eq_emod_of_nonneg (by omega)]; omega
  have T2 : (q : Int) % 3 = 2 := by omega
  clear h
  have HK : Hid (∀ u : World, Calls Try.prog 12 #[.int .u8 3, .bool neg, .agg #[.int .i64 0, .bool ng, .slice A n c, .int .i64 e]] u fun x w' => x = .returned (.agg #[.int .i64 3, .bool neg, .slice none 0 0, .int .i64 0]) ∧ Below u.heap.size u w') := Lib.hid (fun (u : World) => ofKind_any 3 (.inr (.inr rfl)) neg 0 ng A n c e u)
  have HDE := Lib.hid (deco_c12 3 (.inr rfl) w neg)
  have HCO := Lib.hid (comp_c12 2 3 (.inr ⟨rfl, rfl⟩) neg)
  go_cut [9] from 26 to 33 (fun v9 wx => CutR w (#[.int .i64 3, .bool neg, .slice none 0 0, .int .i64 0]) v9 wx)
  case first =>
    clear HDE HCO
    go_region_with (go_at_call 12; refine (HK.out _).mono ?_; rintro x w4 ⟨rfl, hb4⟩; have HB4 := Lib.hid (ok_below HB3.out hb4); first | (have hR := ok_sr hb4; have R0 := blk_cell hR 0; have R1 := blk_cell hR 1; have R2 := blk_cell hR 2; have R3 := blk_cell hR 3; simp only [List.getElem?_toArray, List.getElem?_cons_zero, List.getElem?_cons_succ] at R0 R1 R2 R3; have E0 := blk_frozen hR 0; have E1 := blk_frozen hR 1; have E2 := blk_frozen hR 2; have E3 := blk_frozen hR 3; have HRR := Lib.hid hR; clear hR) | (have hR := ok_rs hb4; have R0 := blk_cell hR 0; have R1 := blk_cell hR 1; have R2 := blk_cell hR 2; have R3 := blk_cell hR 3; simp only [List.getElem?_toArray, List.getElem?_cons_zero, List.getElem?_cons_succ] at R0 R1 R2 R3; have E0 := blk_frozen hR 0; have E1 := blk_frozen hR 1; have E2 := blk_frozen hR 2; have E3 := blk_frozen hR 3; have HRR := Lib.hid hR; clear hR) | skip; clear hb4)
    all_goals go_wp2_with fail
    all_goals go_meet
    all_goals refine ⟨_, rfl, ?_, ?_⟩
    all_goals first
      | (with_reducible exact blk_new w4 _)
      | (with_reducible exact set4 HRR.out _ _ _ _)
      | (with_reducible exact below_alloc HB4.out _)
      | (with_reducible exact below4 HB4.out (by have := HB3.out.size; omega) _ _ _ _)
  case rest =>
    obtain ⟨G, rfl, hg, hb5⟩ := hcut
    have HG := Lib.hid hg
    have HB5 := Lib.hid hb5
    clear hg hb5 HK Y0 Y1 Y2 Y3 Z0 Z1 Z2 Z3 V0 V1 V2 V3
    have K0 := blk_cell HG.out 0
    have K1 := blk_cell HG.out 1
    have K2 := blk_cell HG.out 2
    have K3 := blk_cell HG.out 3
    simp only [List.getElem?_toArray, List.getElem?_cons_zero, List.getElem?_cons_succ] at K0 K1 K2 K3
    go_wp2_with fail
    clear K0 K1 K2 K3
    refine (HDE.out wc HB5.out).mono ?_
    rintro x w6 ⟨B, cc, rfl, hcc, hr6, hb6⟩
    have HG6 := Lib.hid (blk_below HG.out hb6)
    have HB6 : Hid (Below w.heap.size w w6) := Lib.hid (HB5.out.trans (hb6.mono HB5.out.size))
    have HCC := Lib.hid (HCO.out w6 B cc hcc hr6)
    clear hcc hr6 hb6 HG HB5 HDE HCO
    go_wp2_with fail
    refine HCC.out.mono ?_
    rintro x w7 ⟨rfl, hb7⟩
    have HG7 := Lib.hid (blk_below HG6.out hb7)
    have HB7 : Hid (Below w.heap.size w w7) := Lib.hid (HB6.out.trans (hb7.mono HB6.out.size))
    clear hb7 HG6 HB6 HCC
    have L0 : ∀ o, (w7.alloc o).cell? ⟨G, 0, none⟩ = some (.int .i64 3) := fun o => blk_cell (blk_alloc HG7.out o) 0
    have L1 : ∀ o, (w7.alloc o).cell? ⟨G, 1, none⟩ = some (.bool neg) := fun o => blk_cell (blk_alloc HG7.out o) 1
    have L2 : ∀ o, (w7.alloc o).cell? ⟨G, 2, none⟩ = some (.slice none 0 0) := fun o => blk_cell (blk_alloc HG7.out o) 2
    have L3 : ∀ o, (w7.alloc o).cell? ⟨G, 3, none⟩ = some (.int .i64 0) := fun o => blk_cell (blk_alloc HG7.out o) 3
    go_wp2_with fail
    go_ret
    exact ⟨rfl, below_alloc HB7.out _⟩
end Go.Proofs.Ytdfcomilhjoooaa.Byt
