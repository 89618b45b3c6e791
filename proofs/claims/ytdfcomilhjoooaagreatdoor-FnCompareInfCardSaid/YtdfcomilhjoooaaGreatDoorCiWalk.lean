/- The walk of laws.FnCompareInf for every argument. -/
import Derived.Test.YtdfcomilhjoooaaGreatDoorFin
import Derived.Test.YtdfcomilhjoooaaGreatDoorCmp2
namespace Go.Proofs.YtdfcomilhjoooaaGreatDoor.Base
open Go.RowKit Go.Proofs.YtdfcomilhjoooaaGreatDoorW.PrintWords

theorem inf_any (neg : Bool) (w : World) :
    Calls Tryz.prog 10 #[.bool neg] w fun x w' => x = .returned (.agg #[.int .i64 1, .bool neg, .slice none 0 0, .int .i64 0]) ∧ w.alloc (.cells #[.int .i64 1, .bool neg, .slice none 0 0, .int .i64 0] 25) = w' := by
  go_enter Tryz.func10, Tryz.ntmps10
  go_wp2_with fail
  refine bodyPost_ret (results_cell_row rfl _ _ w.heap.size 25 _ (0, 0) _ rfl (blk_new w _) Tryz.underlying25 rfl (by kernel_rfl)) rfl ?_
  exact ⟨rfl, rfl⟩

def sd (one : Bool) : Int := if one then -1 else 1
def wn (one two : Bool) : Int := if one && !two then -1 else if !one && two then 1 else 0
theorem cv1 (one two : Bool) (m1 m2 : Nat) : cmpv (sg 1 one m1) (sg 1 two m2) 1 1 = wn one two := by cases one <;> cases two <;> simp [cmpv, sg, wn]
theorem cv2 (one neg : Bool) (m1 m2 : Nat) : cmpv (sg 1 one m1) (sg 0 neg m2) 1 0 = sd one := by
  by_cases h : m2 = 0 <;> cases one <;> cases neg <;> simp [cmpv, sg, sd, h]
theorem cv3 (one neg : Bool) (m1 m2 : Nat) : cmpv (sg 0 neg m1) (sg 1 one m2) 0 1 = - sd one := by
  by_cases h : m1 = 0 <;> cases one <;> cases neg <;> simp [cmpv, sg, sd, h]
def CiOut (w : World) (x : Ending) (w' : World) : Prop := x = .returned (.bool true) ∧ Below w.heap.size w w'

/-- what the three comparisons give -/
def Cmps (w : World) (f : Int) (neg : Bool) (A : Option Addr) (c : Nat) (l : List Int) (e : Int) (one two : Bool) (want side mside : Int) : Prop :=
  (∀ w1, Calls Tryz.prog 11 #[.agg #[.int .i64 1, .bool one, .slice none 0 0, .int .i64 0], .agg #[.int .i64 1, .bool two, .slice none 0 0, .int .i64 0]] w1 fun x w' => x = .returned (.int .i64 want) ∧ Below w1.heap.size w1 w') ∧
  (∀ w1, Below w.heap.size w w1 → Calls Tryz.prog 11 #[.agg #[.int .i64 1, .bool one, .slice none 0 0, .int .i64 0], .agg #[.int .i64 f, .bool neg, .slice A l.length c, .int .i64 e]] w1 fun x w' => x = .returned (.int .i64 side) ∧ Below w1.heap.size w1 w') ∧
  (∀ w1, Below w.heap.size w w1 → Calls Tryz.prog 11 #[.agg #[.int .i64 f, .bool neg, .slice A l.length c, .int .i64 e], .agg #[.int .i64 1, .bool one, .slice none 0 0, .int .i64 0]] w1 fun x w' => x = .returned (.int .i64 mside) ∧ Below w1.heap.size w1 w')
theorem cmps_all (w : World) (f : Int) (neg : Bool) (A : Option Addr) (c : Nat) (l : List Int) (e : Int) (one two : Bool) (hr : ReadsInt w .u64 A l.length l) (h0 : f = 0) (h1 : l.length ≤ 3) (h2 : -100 ≤ e) (h3 : e ≤ 100) :
    Cmps w f neg A c l e one two (wn one two) (sd one) (- sd one) := by
  have dx : isDec w f A c l e := .inr ⟨h0, by omega, by omega, by omega, hr⟩
  have di : ∀ w1, isDec w1 1 none 0 [] 0 := fun w1 => .inl ⟨rfl, rfl, rfl, rfl, rfl⟩
  subst h0
  refine ⟨fun w1 => ?_, fun w1 hb => ?_, fun w1 hb => ?_⟩
  · have := compare_any 1 1 one two none none 0 0 [] [] 0 0 (.inl ⟨rfl, .inr rfl⟩) w1 (di w1) (di w1)
    rw [cv1] at this
    exact this
  · have := compare_any 1 0 one neg none A 0 c [] l 0 e (.inl ⟨rfl, .inl rfl⟩) w1 (di w1) (dx.below hb)
    rw [cv2] at this
    exact this
  · have := compare_any 0 1 neg one A none c 0 l [] e 0 (.inr ⟨rfl, rfl⟩) w1 (dx.below hb) (di w1)
    rw [cv3] at this
    exact this

set_option maxRecDepth 100000 in
set_option maxHeartbeats 8000000 in
theorem ci_walk (f : Int) (neg : Bool) (A : Option Addr) (c : Nat) (l : List Int) (e : Int) (hc : l.length ≤ c) (one two : Bool) (want side mside : Int)
    (hv : (one = true ∧ two = true ∧ want = 0 ∧ side = -1 ∧ mside = 1) ∨ (one = true ∧ two = false ∧ want = -1 ∧ side = -1 ∧ mside = 1) ∨ (one = false ∧ two = true ∧ want = 1 ∧ side = 1 ∧ mside = -1) ∨ (one = false ∧ two = false ∧ want = 0 ∧ side = 1 ∧ mside = -1))
    (w : World) (hr : ReadsInt w .u64 A l.length l)
    (hcm : f = 0 → l.length ≤ 3 → -100 ≤ e → e ≤ 100 → Cmps w f neg A c l e one two want side mside) :
    Calls Tryz.prog 4 #[.agg #[.int .i64 f, .bool neg, .slice A l.length c, .int .i64 e], .bool one, .bool two] w fun x w' => CiOut w x w' := by
  have HR := Lib.hid hr
  have HC := Lib.hid hc
  have HCM := Lib.hid hcm
  have HV := Lib.hid hv
  obtain ⟨W, hW⟩ : ∃ W, W = w.alloc (.cells #[.int .i64 f, .bool neg, .slice A l.length c, .int .i64 e] 25) := ⟨_, rfl⟩
  have HZ : Hid (W.heap.size = w.heap.size + 1) := Lib.hid (by rw [hW]; simp)
  have HX : Hid (W.heap[w.heap.size]? = some (.cells #[.int .i64 f, .bool neg, .slice A l.length c, .int .i64 e] 25 (0, 0))) := Lib.hid (by rw [hW]; exact blk_new w _)
  have HBW : Hid (Below w.heap.size w W) := Lib.hid (by rw [hW]; go_grown)
  have HW := Lib.hid hW
  clear hr hc hcm hv hW
  go_enter Tryz.func4, Tryz.ntmps4
  go_wp2_with fail
  rw [← HW.out]
  refine (fits_any f neg A c l e W).mono ?_
  rintro x w1 ⟨k1, k2, b1⟩
  by_cases hfit : l.length ≤ 2147483647
  case neg =>
    obtain rfl := k1 (by omega)
    clear k1 k2
    have H := Lib.hid b1
    go_wp2_with fail
    go_ret
    exact ⟨rfl, HBW.out.trans (b1.mono HBW.out.size)⟩
  obtain rfl := k2 hfit
  have hbw1 : Below w.heap.size w w1 := HBW.out.trans (b1.mono HBW.out.size)
  have hx1 := blk_below HX.out b1
  have X0 := blk_cell hx1 0
  have X1 := blk_cell hx1 1
  have X2 := blk_cell hx1 2
  have X3 := blk_cell hx1 3
  simp only [List.getElem?_toArray, List.getElem?_cons_zero, List.getElem?_cons_succ] at X0 X1 X2 X3
  have HX1 := Lib.hid hx1
  have HB1 := Lib.hid hbw1
  clear k1 k2 b1 hx1 hbw1 HX HBW hfit
  go_wp2_with fail
  refine (finite_any f neg A c l e HC.out w1 (HR.out.below HB1.out)).mono ?_
  rintro x w2 ⟨ng, A', n', c', e', b, rfl, hb, bel⟩
  have hbw2 : Below w.heap.size w w2 := HB1.out.trans (bel.mono HB1.out.size)
  have hx2 := blk_below HX1.out bel
  have HX2 := Lib.hid hx2
  have HB2 := Lib.hid hbw2
  clear X0 X1 X2 X3 bel hx2 hbw2
  cases b
  case false =>
    clear hb
    go_wp2_with fail
    go_ret
    exact ⟨rfl, below_alloc HB2.out _⟩
  obtain ⟨h0, _, h1, h2, h3⟩ := hb rfl
  have HCS := Lib.hid (HCM.out h0 h1 h2 h3)
  clear hb h0 h1 h2 h3 HCM
  go_wp2_with fail
  obtain ⟨w3, hw3⟩ : ∃ w3, w3 = w2.alloc (.cells #[.bool ng, .slice A' n' c', .int .i64 e'] 30) := ⟨_, rfl⟩
  have HX3 : Hid (w3.heap[w.heap.size]? = some (.cells #[.int .i64 f, .bool neg, .slice A l.length c, .int .i64 e] 25 (0, 0))) := Lib.hid (by rw [hw3]; exact blk_alloc HX2.out _)
  have HB3 : Hid (Below w.heap.size w w3) := Lib.hid (by rw [hw3]; exact below_alloc HB2.out _)
  rw [← hw3]
  clear hw3 HX2 HB2
  refine (inf_any one w3).mono ?_
  rintro x w4 ⟨rfl, rfl⟩
  go_wp2_with fail
  refine (inf_any two _).mono ?_
  rintro x w4 ⟨rfl, rfl⟩
  obtain ⟨w5, hw5⟩ : ∃ w5, w5 = (w3.alloc (.cells #[.int .i64 1, .bool one, .slice none 0 0, .int .i64 0] 25)).alloc (.cells #[.int .i64 1, .bool two, .slice none 0 0, .int .i64 0] 25) := ⟨_, rfl⟩
  have HX5 : Hid (w5.heap[w.heap.size]? = some (.cells #[.int .i64 f, .bool neg, .slice A l.length c, .int .i64 e] 25 (0, 0))) := Lib.hid (by rw [hw5]; exact blk_alloc (blk_alloc HX3.out _) _)
  have HB5 : Hid (Below w.heap.size w w5) := Lib.hid (by rw [hw5]; exact below_alloc (below_alloc HB3.out _) _)
  rw [← hw5]
  clear hw5 HX3 HB3
  obtain ⟨w6, hw6⟩ : ∃ w6, w6 = (w5.alloc (.cells #[.int .i64 1, .bool one, .slice none 0 0, .int .i64 0] 25)).alloc (.cells #[.int .i64 1, .bool two, .slice none 0 0, .int .i64 0] 25) := ⟨_, rfl⟩
  have HX6 : Hid (w6.heap[w.heap.size]? = some (.cells #[.int .i64 f, .bool neg, .slice A l.length c, .int .i64 e] 25 (0, 0))) := Lib.hid (by rw [hw6]; exact blk_alloc (blk_alloc HX5.out _) _)
  have HY6 : Hid (w6.heap[w5.heap.size]? = some (.cells #[.int .i64 1, .bool one, .slice none 0 0, .int .i64 0] 25 (0, 0))) := Lib.hid (by rw [hw6]; exact blk_alloc (blk_new w5 _) _)
  have HB6 : Hid (Below w.heap.size w w6) := Lib.hid (by rw [hw6]; exact below_alloc (below_alloc HB5.out _) _)
  have HW6 := Lib.hid hw6
  clear hw6
  have HV' := HV.out
  clear HV
  rcases HV' with ⟨rfl, rfl, rfl, rfl, rfl⟩ | ⟨rfl, rfl, rfl, rfl, rfl⟩ | ⟨rfl, rfl, rfl, rfl, rfl⟩ | ⟨rfl, rfl, rfl, rfl, rfl⟩
  all_goals go_wp2_with fail
  all_goals rw [← HW6.out]
  all_goals refine (HCS.out.1 w6).mono ?_
  all_goals rintro x w7 ⟨rfl, b7⟩
  all_goals have hx7 := blk_below HX6.out b7
  all_goals have hy7 := blk_below HY6.out b7
  all_goals have hb7 := HB6.out.trans (b7.mono HB6.out.size)
  all_goals have HX7 := Lib.hid hx7
  all_goals have HY7 := Lib.hid hy7
  all_goals have HB7 := Lib.hid hb7
  all_goals have X0 := blk_cell hx7 0
  all_goals have X1 := blk_cell hx7 1
  all_goals have X2 := blk_cell hx7 2
  all_goals have X3 := blk_cell hx7 3
  all_goals have Y0 := blk_cell hy7 0
  all_goals have Y1 := blk_cell hy7 1
  all_goals have Y2 := blk_cell hy7 2
  all_goals have Y3 := blk_cell hy7 3
  all_goals simp only [List.getElem?_toArray, List.getElem?_cons_zero, List.getElem?_cons_succ] at X0 X1 X2 X3 Y0 Y1 Y2 Y3
  all_goals clear b7 hx7 hy7 hb7 HX6 HY6
  all_goals go_wp2_with fail
  all_goals clear X0 X1 X2 X3 Y0 Y1 Y2 Y3
  all_goals refine (HCS.out.2.1 w7 HB7.out).mono ?_
  all_goals rintro x w8 ⟨rfl, b8⟩
  all_goals have hx8 := blk_below HX7.out b8
  all_goals have hy8 := blk_below HY7.out b8
  all_goals have hb8 := HB7.out.trans (b8.mono HB7.out.size)
  all_goals have HX8 := Lib.hid hx8
  all_goals have HY8 := Lib.hid hy8
  all_goals have HB8 := Lib.hid hb8
  all_goals have X0 := blk_cell hx8 0
  all_goals have X1 := blk_cell hx8 1
  all_goals have X2 := blk_cell hx8 2
  all_goals have X3 := blk_cell hx8 3
  all_goals have Y0 := blk_cell hy8 0
  all_goals have Y1 := blk_cell hy8 1
  all_goals have Y2 := blk_cell hy8 2
  all_goals have Y3 := blk_cell hy8 3
  all_goals simp only [List.getElem?_toArray, List.getElem?_cons_zero, List.getElem?_cons_succ] at X0 X1 X2 X3 Y0 Y1 Y2 Y3
  all_goals clear b8 hx8 hy8 hb8 HX7 HY7
  all_goals go_wp2_with fail
  all_goals clear X0 X1 X2 X3 Y0 Y1 Y2 Y3
  all_goals refine (HCS.out.2.2 w8 HB8.out).mono ?_
  all_goals rintro x w9 ⟨rfl, b9⟩
  all_goals have HB9 := Lib.hid (HB8.out.trans (b9.mono HB8.out.size))
  all_goals clear b9
  all_goals go_wp2_with fail
  all_goals go_ret
  all_goals exact ⟨rfl, HB9.out⟩
theorem ci_all (f : Int) (neg : Bool) (A : Option Addr) (c : Nat) (l : List Int) (e : Int) (hc : l.length ≤ c) (one two : Bool) (w : World) (hr : ReadsInt w .u64 A l.length l) :
    Calls Tryz.prog 4 #[.agg #[.int .i64 f, .bool neg, .slice A l.length c, .int .i64 e], .bool one, .bool two] w fun x w' => CiOut w x w' :=
  ci_walk f neg A c l e hc one two (wn one two) (sd one) (- sd one) (by cases one <;> cases two <;> simp [wn, sd]) w hr (cmps_all w f neg A c l e one two hr)
end Go.Proofs.YtdfcomilhjoooaaGreatDoor.Base
