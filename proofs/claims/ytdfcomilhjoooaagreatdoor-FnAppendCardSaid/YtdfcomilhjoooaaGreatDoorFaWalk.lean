/- The walk of laws.FnAppend for every argument, over what its callees answer. -/
import Derived.Test.YtdfcomilhjoooaaGreatDoorFin
import Derived.Deep.CutRange
import Derived.Deep.RegionHeld
namespace Go.Proofs.YtdfcomilhjoooaaGreatDoor.Div
open Go.RowKit Go.Lib Go.Proofs.YtdfcomilhjoooaaGreatDoorW.PrintWords Go.Proofs.YtdfcomilhjoooaaGreatDoor.Base
set_option linter.unusedVariables false

/-- a slice of bytes comes back whose text is S in every later world -/
def BufOut (S : ByteArray) (w : World) (e : Ending) (w' : World) : Prop := ∃ v', e = .returned v' ∧ Below w.heap.size w w' ∧ ∀ w2, Below w'.heap.size w' w2 → (convert 22 9 v').run Tryz.prog w2 = .ok (.string S) w2
/-- a text comes back -/
def StrOut (S : ByteArray) (w : World) (e : Ending) (w' : World) : Prop := e = .returned (.string S) ∧ Below w.heap.size w w'
/-- what the callees answer -/
structure Alls (w : World) (neg : Bool) (A : Option Addr) (c : Nat) (l : List Int) (e : Int) (bv : Value) (F : Int) (B R : ByteArray) : Prop where
  conv : ∀ u, Below w.heap.size w u → (convert 22 9 bv).run Tryz.prog u = .ok (.string B) u
  app : ∀ u, Below w.heap.size w u → Calls Tryz.prog 7 #[bv, .agg #[.int .i64 0, .bool neg, .slice A l.length c, .int .i64 e], .int .u8 F] u fun x w' => BufOut (B ++ R) u x w'
  text : ∀ u, Below w.heap.size w u → Calls Tryz.prog 8 #[.agg #[.int .i64 0, .bool neg, .slice A l.length c, .int .i64 e], .int .u8 F] u fun x w' => StrOut R u x w'
  three : ∀ u ad, Below w.heap.size w u → ReadsInt u .u64 (some ad) 1 [3] → Calls Tryz.prog 8 #[.agg #[.int .i64 0, .bool false, .slice (some ad) 1 1, .int .i64 0], .int .u8 102] u fun x w' => StrOut ⟨#[51]⟩ u x w'
  size : ((B.size + R.size : Nat) : Int) ≤ 9223372036854775807
/-- the same, the length by its name -/
structure Alls' (w : World) (neg : Bool) (A : Option Addr) (c z : Nat) (e : Int) (bv : Value) (F : Int) (B R : ByteArray) : Prop where
  conv : ∀ u, Below w.heap.size w u → (convert 22 9 bv).run Tryz.prog u = .ok (.string B) u
  app : ∀ u, Below w.heap.size w u → Calls Tryz.prog 7 #[bv, .agg #[.int .i64 0, .bool neg, .slice A z c, .int .i64 e], .int .u8 F] u fun x w' => BufOut (B ++ R) u x w'
  text : ∀ u, Below w.heap.size w u → Calls Tryz.prog 8 #[.agg #[.int .i64 0, .bool neg, .slice A z c, .int .i64 e], .int .u8 F] u fun x w' => StrOut R u x w'
  three : ∀ u ad, Below w.heap.size w u → ReadsInt u .u64 (some ad) 1 [3] → Calls Tryz.prog 8 #[.agg #[.int .i64 0, .bool false, .slice (some ad) 1 1, .int .i64 0], .int .u8 102] u fun x w' => StrOut ⟨#[51]⟩ u x w'
theorem Alls.to {w : World} {neg : Bool} {A : Option Addr} {c : Nat} {l : List Int} {e : Int} {bv : Value} {F : Int} {B R : ByteArray} (h : Alls w neg A c l e bv F B R) : Alls' w neg A c l.length e bv F B R := ⟨h.conv, h.app, h.text, h.three⟩
theorem fmt_at (k : Nat) (F : Int) (hF : (k = 0 ∧ F = 101) ∨ (k = 1 ∧ F = 69) ∨ (k = 2 ∧ F = 102) ∨ (k = 3 ∧ F = 103) ∨ (k = 4 ∧ F = 71)) (h : k < (⟨#[101, 69, 102, 103, 71]⟩ : ByteArray).size) : (((⟨#[101, 69, 102, 103, 71]⟩ : ByteArray)[k]'h).toNat : Int) = F := by
  rcases hF with ⟨rfl, rfl⟩ | ⟨rfl, rfl⟩ | ⟨rfl, rfl⟩ | ⟨rfl, rfl⟩ | ⟨rfl, rfl⟩ <;> rfl
/-- the cells of x and the bytes' text -/
def Keep (w : World) (neg : Bool) (A : Option Addr) (c z : Nat) (e : Int) (bv : Value) (B : ByteArray) (u : World) : Prop :=
  u.cell? ⟨w.heap.size, 0, none⟩ = some (.int .i64 0) ∧ u.cell? ⟨w.heap.size, 1, none⟩ = some (.bool neg) ∧ u.cell? ⟨w.heap.size, 2, none⟩ = some (.slice A z c) ∧ u.cell? ⟨w.heap.size, 3, none⟩ = some (.int .i64 e) ∧ (convert 22 9 bv).run Tryz.prog u = .ok (.string B) u
theorem keep_of {w w3 u : World} {neg : Bool} {A : Option Addr} {c z : Nat} {e F : Int} {bv : Value} {B R : ByteArray} (hx : w3.heap[w.heap.size]? = some (.cells #[.int .i64 0, .bool neg, .slice A z c, .int .i64 e] 25 (0, 0))) (hb : Below w.heap.size w w3) (h : Alls' w neg A c z e bv F B R) (hu : Below w3.drew.heap.size w3.drew u) : Keep w neg A c z e bv B u := by
  have hu' : Below w3.heap.size w3 u := (below_drew (Below.refl _ _)).trans hu
  have hx' := blk_below hx hu'
  exact ⟨blk_cell hx' 0, blk_cell hx' 1, blk_cell hx' 2, blk_cell hx' 3, h.conv u (hb.trans (hu'.mono hb.size))⟩
def FaOut (w : World) (x : Ending) (w' : World) : Prop := x = .returned (.bool true) ∧ Below w.heap.size w w'
theorem three_any (w : World) : Calls Tryz.prog 9 #[] w fun x w' => ∃ ad, x = .returned (.agg #[.int .i64 0, .bool false, .slice (some ad) 1 1, .int .i64 0]) ∧ ReadsInt w' .u64 (some ad) 1 [3] ∧ Below w.heap.size w w' := by
  go_enter Tryz.func9, Tryz.ntmps9
  go_wp2_with fail
  refine bodyPost_ret (results_cell_row rfl _ _ w.heap.size 25 _ (0, 0) _ rfl (blk_alloc (blk_new w _) _) Tryz.underlying25 rfl (by kernel_rfl)) rfl ?_
  refine ⟨_, rfl, ⟨rfl, by decide, fun _ => ⟨_, rfl, fun j hj => ?_⟩⟩, by go_grown⟩
  obtain rfl : j = 0 := by omega
  have hb : ((w.alloc (.cells #[.int .i64 0, .bool false, .slice (some ⟨w.heap.size + 1, 0, none⟩) 1 1, .int .i64 0] 25)).alloc (.cells #[.int .u64 3] 44)).heap[w.heap.size + 1]? = some (.cells #[.int .u64 3] 44 (0, 0)) := by
    have := blk_new (w.alloc (.cells #[.int .i64 0, .bool false, .slice (some ⟨w.heap.size + 1, 0, none⟩) 1 1, .int .i64 0] 25)) (.cells #[.int .u64 3] 44)
    rwa [World.size_alloc] at this
  exact blk_cell hb 0

set_option maxRecDepth 100000 in
set_option maxHeartbeats 8000000 in
theorem fa_walk (f : Int) (neg : Bool) (A : Option Addr) (c : Nat) (l : List Int) (e : Int) (hc : l.length ≤ c) (B0 : Option Addr) (m cb : Nat) (q : Nat) (hq : q ≤ 255) (F : Int)
    (hF : (q % 5 = 0 ∧ F = 101) ∨ (q % 5 = 1 ∧ F = 69) ∨ (q % 5 = 2 ∧ F = 102) ∨ (q % 5 = 3 ∧ F = 103) ∨ (q % 5 = 4 ∧ F = 71)) (B R : ByteArray)
    (w : World) (hr : ReadsInt w .u64 A l.length l)
    (hall : f = 0 → nlTo l l.length = l.length → l.length ≤ 3 → -100 ≤ e → e ≤ 100 → m ≤ 60 → Alls w neg A c l e (.slice B0 m cb) F B R) :
    Calls Tryz.prog 3 #[.slice B0 m cb, .agg #[.int .i64 f, .bool neg, .slice A l.length c, .int .i64 e], .int .u8 q] w fun x w' => FaOut w x w' := by
  have HR := Lib.hid hr
  have HC := Lib.hid hc
  have HALL := Lib.hid hall
  have HF := Lib.hid hF
  obtain ⟨W, hW⟩ : ∃ W, W = w.alloc (.cells #[.int .i64 f, .bool neg, .slice A l.length c, .int .i64 e] 25) := ⟨_, rfl⟩
  have HZ : Hid (W.heap.size = w.heap.size + 1) := Lib.hid (by rw [hW]; simp)
  have HX : Hid (W.heap[w.heap.size]? = some (.cells #[.int .i64 f, .bool neg, .slice A l.length c, .int .i64 e] 25 (0, 0))) := Lib.hid (by rw [hW]; exact blk_new w _)
  have HBW : Hid (Below w.heap.size w W) := Lib.hid (by rw [hW]; go_grown)
  have HW := Lib.hid hW
  clear hr hc hall hF hW
  go_enter Tryz.func3, Tryz.ntmps3
  by_cases g1 : 2147483647 < (m : Int)
  · have d1 : decide (2147483647 < (m : Int)) = true := decide_eq_true g1
    go_wp2_with fail
    go_ret
    exact ⟨rfl, by rw [← HW.out]; exact HBW.out⟩
  have d1 : decide (2147483647 < (m : Int)) = false := decide_eq_false g1
  go_wp2_with fail
  rw [← HW.out]
  refine (fits_any f neg A c l e W).mono ?_
  rintro x w1 ⟨k1, k2, b1⟩
  by_cases hfit : l.length ≤ 2147483647
  case neg =>
    obtain rfl := k1 (by omega)
    clear k1 k2
    have H := Lib.hid b1
    go_wp2_with fail
    go_ret
    exact ⟨rfl, HBW.out.trans (b1.mono HBW.out.size)⟩
  obtain rfl := k2 hfit
  have hbw1 : Below w.heap.size w w1 := HBW.out.trans (b1.mono HBW.out.size)
  have hx1 := blk_below HX.out b1
  have X0 := blk_cell hx1 0
  have X1 := blk_cell hx1 1
  have X2 := blk_cell hx1 2
  have X3 := blk_cell hx1 3
  simp only [List.getElem?_toArray, List.getElem?_cons_zero, List.getElem?_cons_succ] at X0 X1 X2 X3
  have HX1 := Lib.hid hx1
  have HB1 := Lib.hid hbw1
  clear k1 k2 b1 hx1 hbw1 HX HBW hfit
  go_wp2_with fail
  refine (finite_any f neg A c l e HC.out w1 (HR.out.below HB1.out)).mono ?_
  rintro x w2 ⟨ng, A', n', c', e', b, rfl, hb, bel⟩
  have hbw2 : Below w.heap.size w w2 := HB1.out.trans (bel.mono HB1.out.size)
  have hx2 := blk_below HX1.out bel
  have HX2 := Lib.hid hx2
  have HB2 := Lib.hid hbw2
  clear X0 X1 X2 X3 bel hx2 hbw2
  cases b
  case false =>
    clear hb
    go_wp2_with fail
    go_ret
    exact ⟨rfl, below_alloc HB2.out _⟩
  obtain ⟨h0, hnl, h1, h2, h3⟩ := hb rfl
  clear hb
  by_cases g2 : 60 < (m : Int)
  · have d2 : decide (60 < (m : Int)) = true := decide_eq_true g2
    clear h0 hnl h1 h2 h3
    go_wp2_with fail
    go_ret
    exact ⟨rfl, below_alloc HB2.out _⟩
  have d2 : decide (60 < (m : Int)) = false := decide_eq_false g2
  have HAS := Lib.hid (HALL.out h0 hnl h1 h2 h3 (by omega))
  subst h0
  clear hnl h1 h2 h3 HALL g1 g2
  have hFi := fun h => fmt_at (q % 5) F HF.out h
  go_wp2_with fail
  try simp only [hFi]
  clear hFi HF
  obtain ⟨w3, hw3⟩ : ∃ w3, w3 = w2.alloc (.cells #[.bool ng, .slice A' n' c', .int .i64 e'] 30) := ⟨_, rfl⟩
  have HX3 : Hid (w3.heap[w.heap.size]? = some (.cells #[.int .i64 0, .bool neg, .slice A l.length c, .int .i64 e] 25 (0, 0))) := Lib.hid (by rw [hw3]; exact blk_alloc HX2.out _)
  have HB3 : Hid (Below w.heap.size w w3) := Lib.hid (by rw [hw3]; exact below_alloc HB2.out _)
  rw [← hw3]
  clear hw3 HX2 HB2 HX1 HB1
  have hsz : ¬ 9223372036854775807 < (B.size : Int) + (R.size : Int) := by have := HAS.out.size; omega
  obtain ⟨z, hz⟩ : ∃ z, z = l.length := ⟨_, rfl⟩
  have HAS' : Hid (Alls' w neg A c z e (.slice B0 m cb) F B R) := Lib.hid (by rw [hz]; exact HAS.out.to)
  rw [← hz] at HX3 ⊢
  clear HAS hz HR HC HW HZ
  have HK : Hid (∀ u, Below w3.drew.heap.size w3.drew u → Keep w neg A c z e (.slice B0 m cb) B u) := Lib.hid (fun u hu => keep_of HX3.out HB3.out HAS'.out hu)
  have HS3 := Lib.hid (HK.out _ (Below.refl _ _))
  have HB3' := Lib.hid (below_drew HB3.out)
  clear HX3 HB3
  go_region_held (fun u => u.cell? ⟨w.heap.size, 0, none⟩ = some (.int .i64 0) ∧ u.cell? ⟨w.heap.size, 1, none⟩ = some (.bool neg) ∧ u.cell? ⟨w.heap.size, 2, none⟩ = some (.slice A z c) ∧ u.cell? ⟨w.heap.size, 3, none⟩ = some (.int .i64 e) ∧ (convert 22 9 (.slice B0 m cb)).run Tryz.prog u = .ok (.string B) u)
    (first | exact HS7.out | exact HS6.out | exact HS5.out | exact HS4.out | exact HS3.out)
    (first
    | (go_at_call 7; refine (HAS'.out.app _ HB3'.out).mono ?_; rintro x w4 ⟨v4, rfl, hb4, hcv4⟩; have HB4 := Lib.hid (HB3'.out.trans (hb4.mono HB3'.out.size)); have HS4 := Lib.hid (HK.out w4 hb4); have D4 := hcv4 w4 (Below.refl _ _); have HCV4 := Lib.hid hcv4; have HU4 := Lib.hid hb4; clear hcv4 hb4 HS3)
    | (go_at_call 8; refine (HAS'.out.three _ ad6 HB6.out HR6.out).mono ?_; rintro x w7 ⟨rfl, hb7⟩; have HB7 := Lib.hid (HB6.out.trans (hb7.mono HB6.out.size)); have HS7 := Lib.hid (HK.out w7 (HU6.out.trans (hb7.mono HU6.out.size))); clear hb7)
    | (go_at_call 8; refine (HAS'.out.text _ HB4.out).mono ?_; rintro x w5 ⟨rfl, hb5⟩; have HB5 := Lib.hid (HB4.out.trans (hb5.mono HB4.out.size)); have HU5 := Lib.hid (HU4.out.trans (hb5.mono HU4.out.size)); have HS5 := Lib.hid (HK.out w5 HU5.out); have D5 := HCV4.out w5 hb5; clear hb5 D4 HCV4 HS4)
    | (go_at_call 9; refine (three_any _).mono ?_; rintro x w6 ⟨ad6, rfl, hr6, hb6⟩; have HB6 := Lib.hid (HB5.out.trans (hb6.mono HB5.out.size)); have HU6 := Lib.hid (HU5.out.trans (hb6.mono HU5.out.size)); have HS6 := Lib.hid (HK.out w6 HU6.out); have HR6 := Lib.hid hr6; clear hr6 hb6))
  all_goals go_wp2_with fail
  all_goals go_ret
  all_goals exact ⟨rfl, HB7.out⟩
end Go.Proofs.YtdfcomilhjoooaaGreatDoor.Div
