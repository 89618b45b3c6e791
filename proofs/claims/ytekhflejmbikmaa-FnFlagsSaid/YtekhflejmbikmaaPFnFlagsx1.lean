-- PRINTED BY print.sh 35421559b90ae4d0a3588c463048766b98c2df88dd9212a6774a882060cdf62d: not written by this session
import Derived.Test.YtekhflejmbikmaaPFnFlagsx0
namespace Go.Proofs.Ytekhflejmbikmaa.PFnFlags
open Go.RowKit Go.Proofs.YtekhflejmbikmaaW.PrintWords Go.Proofs.YtekhflejmbikmaaW.PrintLast Go.Proofs.YtekhflejmbikmaaW.PrintMore
attribute [local go_sem] max2_int min2_int max_two min_two max_three min_three max_four min_four   -- for this text's walks alone
set_option linter.unusedVariables false
set_option linter.unusedSimpArgs false

/-! ### impl_kinds: function 29 -/
def impl_kinds.f  : Option (List Int) := some (([4, 8, 16, 32, 64, 128, 256, 512, 1024, 2048, 1, 2] : List Int))
set_option maxHeartbeats 8000000 in
set_option maxRecDepth 100000 in
theorem impl_kinds.calls  (r : List Int) (w : World) (h : impl_kinds.f  = some r) :
    Calls Try.prog 29 #[] w fun e w' => ∃ v0_ : Value, e = .returned (v0_) ∧ Kd.R (Kd.int .u32) 36 w' w.heap.size (fun _ => True) v0_ r ∧ Below w.heap.size w w' := by
  have HB := Aside0.mk (Below.refl w.heap.size w)
  have H : (some (([4, 8, 16, 32, 64, 128, 256, 512, 1024, 2048, 1, 2] : List Int))) = some r := h
  clear h
  obtain ⟨y101, hy101⟩ : ∃ y_ : List Int, y_ = (([4, 8, 16, 32, 64, 128, 256, 512, 1024, 2048, 1, 2] : List Int)) := ⟨_, rfl⟩
  replace H : (some y101) = some r := by first | (rw [hy101]; with_reducible exact H) | (have H2_ := (Option.bind_some _ _).symm.trans H; rw [hy101]; with_reducible exact H2_) | (have H2_ := (Option.bind_some _ _).symm.trans H; with_reducible exact H2_) | with_reducible exact H | (rw [hy101]; exact H) | exact H
  have Ny101 := Aside0.mk hy101
  clear hy101
  obtain rfl := Option.some.inj H
  go_enter Try.func29, Try.ntmps29
  go_wp2_with (first | ((with_reducible refine gate_dst (N := 1) rfl ?_); refine Kd.R_lit (Kd.int .u32) _ 36 ?hg (N := 1) ?hd (xs := ([4, 8, 16, 32, 64, 128, 256, 512, 1024, 2048, 1, 2] : List Int)) (inner := [.int .u32 4, .int .u32 8, .int .u32 16, .int .u32 32, .int .u32 64, .int .u32 128, .int .u32 256, .int .u32 512, .int .u32 1024, .int .u32 2048, .int .u32 1, .int .u32 2]) (ok := fun _ => True) (okp := fun _ => True) ?hr ?hp (fun _ hk => hk) trivial (Below.refl _ _) (Nat.le_refl _) (by simp) ?_; (case hd => rfl); (case hg => rfl); (case hr => first | (go_simp; done) | (go_simp; rfl)); (case hp => exact (Reps.one (show Kd.M (Kd.int .u32) _ _ _ 4 [.int .u32 4] from rfl) (Reps.one (show Kd.M (Kd.int .u32) _ _ _ 8 [.int .u32 8] from rfl) (Reps.one (show Kd.M (Kd.int .u32) _ _ _ 16 [.int .u32 16] from rfl) (Reps.one (show Kd.M (Kd.int .u32) _ _ _ 32 [.int .u32 32] from rfl) (Reps.one (show Kd.M (Kd.int .u32) _ _ _ 64 [.int .u32 64] from rfl) (Reps.one (show Kd.M (Kd.int .u32) _ _ _ 128 [.int .u32 128] from rfl) (Reps.one (show Kd.M (Kd.int .u32) _ _ _ 256 [.int .u32 256] from rfl) (Reps.one (show Kd.M (Kd.int .u32) _ _ _ 512 [.int .u32 512] from rfl) (Reps.one (show Kd.M (Kd.int .u32) _ _ _ 1024 [.int .u32 1024] from rfl) (Reps.one (show Kd.M (Kd.int .u32) _ _ _ 2048 [.int .u32 2048] from rfl) (Reps.one (show Kd.M (Kd.int .u32) _ _ _ 1 [.int .u32 1] from rfl) (Reps.one (show Kd.M (Kd.int .u32) _ _ _ 2 [.int .u32 2] from rfl) (Reps.none _ _)))))))))))))); intro v102 w1 ho2 hb hg_ hnew_; clear hg_ hnew_; (first | rw [← Ny101.out] at ho2 | (simp only [Int.reduceToNat] at ho2; rw [← Ny101.out] at ho2)); have n0_ := Aside0.mk (Kd.R_lower ho2 (below_size (by repeat (first | (with_reducible first | exact HB.out | apply below_alloc | apply pw_below_drewN | apply below_drew1) | exact HB.out)))); have n1_ := Aside0.mk (below_step (by repeat (first | (with_reducible first | exact HB.out | apply below_alloc | apply pw_below_drewN | apply below_drew1) | exact HB.out)) hb); clear HB; have HO103 := n0_; have HB := n1_; clear n0_ n1_; clear hb ho2))
  go_ret
  exact ⟨_, by first | rfl | (simp [errW_none, errW_some] <;> rfl) | (simp [*, errW_none, errW_some] <;> rfl), by (with_reducible repeat (first | apply Kd.R_alloc | apply Kd.R_drewN | apply Kd.R_drew)); exact HO103.out, by repeat (first | (with_reducible first | exact HB.out | apply below_alloc | apply pw_below_drewN | apply below_drew1) | exact HB.out)⟩

/-! ### impl_raised: function 10 -/
def impl_raised.l0 : Nat → Int → Int → List Int → Int → Int → Option (Int)
  | 0, _, _, _, _, _ => none
  | k + 1, x0, x3, x6, x7, x8 => if x8 < x7 then (if 0 ≤ x8 then (if x8 < (x6.length : Int) then (if (Go.bits .and .i64 (shr .i64 x0 x8) 1) = 1 then (impl_raised.l0 k x0 (Go.bits .or .u32 x3 (rd x6 x8)) x6 x7 (wrap64 (x8 + 1))) else (impl_raised.l0 k x0 x3 x6 x7 (wrap64 (x8 + 1)))) else (none)) else (none)) else (some x3)
def impl_raised.f (k : Nat) (a0 : Int) : Option (Int) := (impl_kinds.f).bind fun t104 => (impl_raised.l0 k a0 0 t104 (t104.length : Int) 0)
theorem impl_raised.mono_l : ∀ k, (∀ y0 y1 y2 y3 y4, LeO (impl_raised.l0 k y0 y1 y2 y3 y4) (impl_raised.l0 (k + 1) y0 y1 y2 y3 y4))
  | 0 => fun _ _ _ _ _ r h => by simp [impl_raised.l0] at h
  | k + 1 => by
    have ih0 := impl_raised.mono_l k
    · intro y0 y1 y2 y3 y4
      unfold impl_raised.l0
      repeat' first
      | (with_reducible exact ih0 _ _ _ _ _)
      | (with_reducible exact LeO.refl _)
      | (with_reducible exact LeO.none _)
      | (with_reducible refine LeO.ite ?_ ?_)
      | (with_reducible refine LeO.bind ?_ (fun _ => ?_))
      | exact ih0 _ _ _ _ _
      | exact LeO.none _
      | refine LeO.ite ?_ ?_
      | refine LeO.bind ?_ (fun _ => ?_)
theorem impl_raised.mono : ∀ a0 k, LeO (impl_raised.f k a0) (impl_raised.f (k + 1) a0) := by
  intro a0 k
  have ih0 := impl_raised.mono_l k
  unfold impl_raised.f
  repeat' first
      | (with_reducible exact ih0 _ _ _ _ _)
      | (with_reducible exact LeO.refl _)
      | (with_reducible exact LeO.none _)
      | (with_reducible refine LeO.ite ?_ ?_)
      | (with_reducible refine LeO.bind ?_ (fun _ => ?_))
      | exact ih0 _ _ _ _ _
      | exact LeO.none _
      | refine LeO.ite ?_ ?_
      | refine LeO.bind ?_ (fun _ => ?_)
set_option maxHeartbeats 8000000 in
set_option maxRecDepth 100000 in
theorem impl_raised.calls (k : Nat) (a0 : Int) (r : Int) (w : World) (h : impl_raised.f k a0 = some r) :
    Calls Try.prog 10 #[.int .i64 a0] w fun e w' => e = .returned (.int .u32 r) ∧ Below w.heap.size w w' := by
  have HB := Aside0.mk (Below.refl w.heap.size w)
  have H : ((impl_kinds.f).bind fun t104 => (impl_raised.l0 k a0 0 t104 (t104.length : Int) 0)) = some r := h
  clear h
  replace H := Option.bind_eq_some_iff.mp H
  obtain ⟨t104, A20, H⟩ := H
  replace H : (impl_raised.l0 k a0 0 t104 (t104.length : Int) 0) = some r := H
  have A2 := Aside0.mk A20
  clear A20
  have H' := Aside0.mk H
  clear H
  go_enter Try.func10, Try.ntmps10
  go_wp2_with (first | ((with_reducible refine gate_callee (f := 29) rfl ?_); refine goesL_ (some 6) rfl rfl Try.func29 (by kernel_rfl) rfl #[] rfl (by (try simp only [List.map_toArray, List.map_cons, List.map_nil]); first | done | rfl | (simp only [List.length_drop, List.length_take]; rfl)) ?_; (with_reducible refine (impl_kinds.calls  t104 _ A2.out).mono ?_); rintro e w3 ⟨v105, rfl, ho0, hb⟩; refine ⟨_, rfl, ?_⟩; have n0_ := Aside0.mk (Kd.R_lower ho0 (below_size (by repeat (first | (with_reducible first | exact HB.out | apply below_alloc | apply pw_below_drewN | apply below_drew1) | exact HB.out)))); have n1_ := Aside0.mk (below_step (by repeat (first | (with_reducible first | exact HB.out | apply below_alloc | apply pw_below_drewN | apply below_drew1) | exact HB.out)) hb); clear HB; have HO106 := n0_; have HB := n1_; clear n0_ n1_; (try clear hb); (try clear hb2); (try clear hk); (try clear hi); (try clear ho0); obtain ⟨Ao4, co4, eo4⟩ := Kd.R_slice HO106.out; subst eo4))
  go_loopg [3, 8] k (fun kq v3 v8 w' => ∃ (x3_1 : Int) (x8_1 : Int), v3 = .int .u32 x3_1 ∧ v8 = .int .i64 x8_1 ∧ Aside0 (impl_raised.l0 kq a0 x3_1 t104 (t104.length : Int) x8_1 = some r) ∧ Aside0 (kq ≤ k) ∧ Aside0 (Kd.R (Kd.int .u32) 36 w' w.heap.size (fun _ => True) (.slice Ao4 t104.length co4) t104) ∧ Aside0 (Below w.heap.size w w'))
  case atStart => exact ⟨(0), (0), (by first | rfl | (simp; done) | (simp [*]; done)), (by first | rfl | (simp; done) | (simp [*]; done)), H', ⟨Nat.le_refl _⟩, ⟨by (with_reducible repeat (first | apply Kd.R_alloc | apply Kd.R_drewN | apply Kd.R_drew)); exact HO106.out⟩, ⟨by repeat (first | (with_reducible first | exact HB.out | apply below_alloc | apply pw_below_drewN | apply below_drew1) | exact HB.out)⟩⟩
  case round =>
    clear H'
    try clear c1
    try clear c2
    try clear p2
    obtain ⟨x3_1, x8_1, rfl, rfl, HA, HK1, HO_6, HB⟩ := hrel
    cases gk with
    | zero => exact absurd HA.out (by simp [impl_raised.l0])
    | succ k1 =>
      have H := HA.out
      clear HA
      simp only [impl_raised.l0] at H
      by_cases c5 : x8_1 < (t104.length : Int)
      · rw [if_pos c5] at H
        have c5b0 : decide (x8_1 < (t104.length : Int)) = true := decide_eq_true c5
        clear c5
        by_cases c6 : 0 ≤ x8_1
        · rw [if_pos c6] at H
          have c6b0 : decide (0 ≤ x8_1) = true := decide_eq_true c6
          clear c6
          by_cases c7 : x8_1 < (t104.length : Int)
          · rw [if_pos c7] at H
            have c7b0 : decide (x8_1 < (t104.length : Int)) = true := decide_eq_true c7
            clear c7
            have c8b0 := eq_true (of_decide_eq_true (by first | (with_reducible assumption) | assumption) : 0 ≤ x8_1)
            obtain ⟨ji9, hji9⟩ : ∃ j_ : Int, (shr .i64 a0 x8_1) = j_ := ⟨_, rfl⟩
            replace H : (if (Go.bits .and .i64 (ji9) 1) = 1 then (impl_raised.l0 k1 a0 (Go.bits .or .u32 x3_1 (rd t104 x8_1)) t104 (t104.length : Int) (wrap64 (x8_1 + 1))) else (impl_raised.l0 k1 a0 x3_1 t104 (t104.length : Int) (wrap64 (x8_1 + 1)))) = some r := by first | (rw [hji9] at H; exact H) | (simp only [hji9] at H ⊢; exact H)
            have hji9_ : (a0 / 2 ^ min x8_1.toNat 64) = ji9 := hji9
            have hji9z : x8_1 ≤ 64 → (a0 / 2 ^ x8_1.toNat) = ji9 := shr_small hji9
            by_cases c10 : (Go.bits .and .i64 (ji9) 1) = 1
            · rw [if_pos c10] at H
              have c10b0 : ((Go.bits .and .i64 (ji9) 1) == 1) = true := beq_iff_eq.mpr c10
              have c10b1 : ((Go.bits .and .i64 (ji9) 1) != 1) = false := bne_eq_false_iff_eq.mpr c10
              clear c10
              have H' := Aside0.mk H
              clear H
              have p107 : 0 ≤ (x8_1 : Int) := of_decide_eq_true (by first | (with_reducible assumption) | assumption)
              have q107 : x8_1 < (t104.length : Int) := of_decide_eq_true (by first | (with_reducible assumption) | assumption)
              obtain ⟨ad107, e107, hx107_0⟩ := Kd.at_int (Kd.R_reads' HO_6.out).2.2 x8_1 p107 q107
              cases e107
              replace p107 := eq_true p107
              replace q107 := eq_true q107
              go_wp2
              go_roundg k1
              case measure => have := HK1.out; omega
              case rel => exact ⟨(Go.bits .or .u32 x3_1 (rd t104 x8_1)), (wrap64 (x8_1 + 1)), (by first | rfl | (simp; done) | (simp [*]; done)), (by first | rfl | (simp; done) | (simp [*]; done)), H', ⟨by have := HK1.out; omega⟩, ⟨by (with_reducible repeat (first | apply Kd.R_alloc | apply Kd.R_drewN | apply Kd.R_drew)); exact HO_6.out⟩, ⟨by repeat (first | (with_reducible first | exact HB.out | apply below_alloc | apply pw_below_drewN | apply below_drew1) | exact HB.out)⟩⟩
            · rw [if_neg c10] at H
              have c10b0 : ((Go.bits .and .i64 (ji9) 1) == 1) = false := beq_eq_false_iff_ne.mpr c10
              have c10b1 : ((Go.bits .and .i64 (ji9) 1) != 1) = true := bne_iff_ne.mpr c10
              have H' := Aside0.mk H
              clear H
              have p107 : 0 ≤ (x8_1 : Int) := of_decide_eq_true (by first | (with_reducible assumption) | assumption)
              have q107 : x8_1 < (t104.length : Int) := of_decide_eq_true (by first | (with_reducible assumption) | assumption)
              obtain ⟨ad107, e107, hx107_0⟩ := Kd.at_int (Kd.R_reads' HO_6.out).2.2 x8_1 p107 q107
              cases e107
              replace p107 := eq_true p107
              replace q107 := eq_true q107
              go_wp2
              go_roundg k1
              case measure => have := HK1.out; omega
              case rel => exact ⟨(x3_1), (wrap64 (x8_1 + 1)), (by first | rfl | (simp; done) | (simp [*]; done)), (by first | rfl | (simp; done) | (simp [*]; done)), H', ⟨by have := HK1.out; omega⟩, ⟨by (with_reducible repeat (first | apply Kd.R_alloc | apply Kd.R_drewN | apply Kd.R_drew)); exact HO_6.out⟩, ⟨by repeat (first | (with_reducible first | exact HB.out | apply below_alloc | apply pw_below_drewN | apply below_drew1) | exact HB.out)⟩⟩
          · rw [if_neg c7] at H
            exact absurd H (by simp)
        · rw [if_neg c6] at H
          exact absurd H (by simp)
      · rw [if_neg c5] at H
        have c5b0 : decide (x8_1 < (t104.length : Int)) = false := decide_eq_false c5
        clear c5
        obtain rfl := Option.some.inj H
        go_wp2
        go_ret
        exact ⟨by first | rfl | (simp [errW_none, errW_some] <;> rfl) | (simp [*, errW_none, errW_some] <;> rfl), by repeat (first | (with_reducible first | exact HB.out | apply below_alloc | apply pw_below_drewN | apply below_drew1) | exact HB.out)⟩

/-! ### apd_Condition_Any: function 11 -/
def apd_Condition_Any.f (a0 : Int) : Option (Bool) := some (a0 != 0)
set_option maxHeartbeats 8000000 in
set_option maxRecDepth 100000 in
theorem apd_Condition_Any.calls (a0 : Int) (r : Bool) (w : World) (h : apd_Condition_Any.f a0 = some r) :
    Calls Try.prog 11 #[.int .u32 a0] w fun e w' => e = .returned (.bool r) ∧ Drawn0 w w' := by
  have H : (some (a0 != 0)) = some r := h
  clear h
  obtain rfl := Option.some.inj H
  go_enter Try.func11, Try.ntmps11
  go_wp2
  go_ret
  exact ⟨by first | rfl | (simp; done) | (simp [*]; done), by repeat (first | exact Drawn0.refl _ | apply Drawn0.step)⟩

/-! ### apd_Condition_Overflow: function 12 -/
def apd_Condition_Overflow.f (a0 : Int) : Option (Bool) := some ((Go.bits .and .u32 a0 4) != 0)
set_option maxHeartbeats 8000000 in
set_option maxRecDepth 100000 in
theorem apd_Condition_Overflow.calls (a0 : Int) (r : Bool) (w : World) (h : apd_Condition_Overflow.f a0 = some r) :
    Calls Try.prog 12 #[.int .u32 a0] w fun e w' => e = .returned (.bool r) ∧ Drawn0 w w' := by
  have H : (some ((Go.bits .and .u32 a0 4) != 0)) = some r := h
  clear h
  obtain rfl := Option.some.inj H
  go_enter Try.func12, Try.ntmps12
  go_wp2
  go_ret
  exact ⟨by first | rfl | (simp; done) | (simp [*]; done), by repeat (first | exact Drawn0.refl _ | apply Drawn0.step)⟩

/-! ### apd_Condition_Underflow: function 13 -/
def apd_Condition_Underflow.f (a0 : Int) : Option (Bool) := some ((Go.bits .and .u32 a0 8) != 0)
set_option maxHeartbeats 8000000 in
set_option maxRecDepth 100000 in
theorem apd_Condition_Underflow.calls (a0 : Int) (r : Bool) (w : World) (h : apd_Condition_Underflow.f a0 = some r) :
    Calls Try.prog 13 #[.int .u32 a0] w fun e w' => e = .returned (.bool r) ∧ Drawn0 w w' := by
  have H : (some ((Go.bits .and .u32 a0 8) != 0)) = some r := h
  clear h
  obtain rfl := Option.some.inj H
  go_enter Try.func13, Try.ntmps13
  go_wp2
  go_ret
  exact ⟨by first | rfl | (simp; done) | (simp [*]; done), by repeat (first | exact Drawn0.refl _ | apply Drawn0.step)⟩

/-! ### apd_Condition_Inexact: function 14 -/
def apd_Condition_Inexact.f (a0 : Int) : Option (Bool) := some ((Go.bits .and .u32 a0 16) != 0)
set_option maxHeartbeats 8000000 in
set_option maxRecDepth 100000 in
theorem apd_Condition_Inexact.calls (a0 : Int) (r : Bool) (w : World) (h : apd_Condition_Inexact.f a0 = some r) :
    Calls Try.prog 14 #[.int .u32 a0] w fun e w' => e = .returned (.bool r) ∧ Drawn0 w w' := by
  have H : (some ((Go.bits .and .u32 a0 16) != 0)) = some r := h
  clear h
  obtain rfl := Option.some.inj H
  go_enter Try.func14, Try.ntmps14
  go_wp2
  go_ret
  exact ⟨by first | rfl | (simp; done) | (simp [*]; done), by repeat (first | exact Drawn0.refl _ | apply Drawn0.step)⟩

/-! ### apd_Condition_Subnormal: function 15 -/
def apd_Condition_Subnormal.f (a0 : Int) : Option (Bool) := some ((Go.bits .and .u32 a0 32) != 0)
set_option maxHeartbeats 8000000 in
set_option maxRecDepth 100000 in
theorem apd_Condition_Subnormal.calls (a0 : Int) (r : Bool) (w : World) (h : apd_Condition_Subnormal.f a0 = some r) :
    Calls Try.prog 15 #[.int .u32 a0] w fun e w' => e = .returned (.bool r) ∧ Drawn0 w w' := by
  have H : (some ((Go.bits .and .u32 a0 32) != 0)) = some r := h
  clear h
  obtain rfl := Option.some.inj H
  go_enter Try.func15, Try.ntmps15
  go_wp2
  go_ret
  exact ⟨by first | rfl | (simp; done) | (simp [*]; done), by repeat (first | exact Drawn0.refl _ | apply Drawn0.step)⟩

/-! ### apd_Condition_Rounded: function 16 -/
def apd_Condition_Rounded.f (a0 : Int) : Option (Bool) := some ((Go.bits .and .u32 a0 64) != 0)
set_option maxHeartbeats 8000000 in
set_option maxRecDepth 100000 in
theorem apd_Condition_Rounded.calls (a0 : Int) (r : Bool) (w : World) (h : apd_Condition_Rounded.f a0 = some r) :
    Calls Try.prog 16 #[.int .u32 a0] w fun e w' => e = .returned (.bool r) ∧ Drawn0 w w' := by
  have H : (some ((Go.bits .and .u32 a0 64) != 0)) = some r := h
  clear h
  obtain rfl := Option.some.inj H
  go_enter Try.func16, Try.ntmps16
  go_wp2
  go_ret
  exact ⟨by first | rfl | (simp; done) | (simp [*]; done), by repeat (first | exact Drawn0.refl _ | apply Drawn0.step)⟩

/-! ### apd_Condition_DivisionUndefined: function 17 -/
def apd_Condition_DivisionUndefined.f (a0 : Int) : Option (Bool) := some ((Go.bits .and .u32 a0 128) != 0)
set_option maxHeartbeats 8000000 in
set_option maxRecDepth 100000 in
theorem apd_Condition_DivisionUndefined.calls (a0 : Int) (r : Bool) (w : World) (h : apd_Condition_DivisionUndefined.f a0 = some r) :
    Calls Try.prog 17 #[.int .u32 a0] w fun e w' => e = .returned (.bool r) ∧ Drawn0 w w' := by
  have H : (some ((Go.bits .and .u32 a0 128) != 0)) = some r := h
  clear h
  obtain rfl := Option.some.inj H
  go_enter Try.func17, Try.ntmps17
  go_wp2
  go_ret
  exact ⟨by first | rfl | (simp; done) | (simp [*]; done), by repeat (first | exact Drawn0.refl _ | apply Drawn0.step)⟩

/-! ### apd_Condition_DivisionByZero: function 18 -/
def apd_Condition_DivisionByZero.f (a0 : Int) : Option (Bool) := some ((Go.bits .and .u32 a0 256) != 0)
set_option maxHeartbeats 8000000 in
set_option maxRecDepth 100000 in
theorem apd_Condition_DivisionByZero.calls (a0 : Int) (r : Bool) (w : World) (h : apd_Condition_DivisionByZero.f a0 = some r) :
    Calls Try.prog 18 #[.int .u32 a0] w fun e w' => e = .returned (.bool r) ∧ Drawn0 w w' := by
  have H : (some ((Go.bits .and .u32 a0 256) != 0)) = some r := h
  clear h
  obtain rfl := Option.some.inj H
  go_enter Try.func18, Try.ntmps18
  go_wp2
  go_ret
  exact ⟨by first | rfl | (simp; done) | (simp [*]; done), by repeat (first | exact Drawn0.refl _ | apply Drawn0.step)⟩

/-! ### apd_Condition_DivisionImpossible: function 19 -/
def apd_Condition_DivisionImpossible.f (a0 : Int) : Option (Bool) := some ((Go.bits .and .u32 a0 512) != 0)
set_option maxHeartbeats 8000000 in
set_option maxRecDepth 100000 in
theorem apd_Condition_DivisionImpossible.calls (a0 : Int) (r : Bool) (w : World) (h : apd_Condition_DivisionImpossible.f a0 = some r) :
    Calls Try.prog 19 #[.int .u32 a0] w fun e w' => e = .returned (.bool r) ∧ Drawn0 w w' := by
  have H : (some ((Go.bits .and .u32 a0 512) != 0)) = some r := h
  clear h
  obtain rfl := Option.some.inj H
  go_enter Try.func19, Try.ntmps19
  go_wp2
  go_ret
  exact ⟨by first | rfl | (simp; done) | (simp [*]; done), by repeat (first | exact Drawn0.refl _ | apply Drawn0.step)⟩

/-! ### apd_Condition_InvalidOperation: function 20 -/
def apd_Condition_InvalidOperation.f (a0 : Int) : Option (Bool) := some ((Go.bits .and .u32 a0 1024) != 0)
set_option maxHeartbeats 8000000 in
set_option maxRecDepth 100000 in
theorem apd_Condition_InvalidOperation.calls (a0 : Int) (r : Bool) (w : World) (h : apd_Condition_InvalidOperation.f a0 = some r) :
    Calls Try.prog 20 #[.int .u32 a0] w fun e w' => e = .returned (.bool r) ∧ Drawn0 w w' := by
  have H : (some ((Go.bits .and .u32 a0 1024) != 0)) = some r := h
  clear h
  obtain rfl := Option.some.inj H
  go_enter Try.func20, Try.ntmps20
  go_wp2
  go_ret
  exact ⟨by first | rfl | (simp; done) | (simp [*]; done), by repeat (first | exact Drawn0.refl _ | apply Drawn0.step)⟩

/-! ### apd_Condition_Clamped: function 21 -/
def apd_Condition_Clamped.f (a0 : Int) : Option (Bool) := some ((Go.bits .and .u32 a0 2048) != 0)
set_option maxHeartbeats 8000000 in
set_option maxRecDepth 100000 in
theorem apd_Condition_Clamped.calls (a0 : Int) (r : Bool) (w : World) (h : apd_Condition_Clamped.f a0 = some r) :
    Calls Try.prog 21 #[.int .u32 a0] w fun e w' => e = .returned (.bool r) ∧ Drawn0 w w' := by
  have H : (some ((Go.bits .and .u32 a0 2048) != 0)) = some r := h
  clear h
  obtain rfl := Option.some.inj H
  go_enter Try.func21, Try.ntmps21
  go_wp2
  go_ret
  exact ⟨by first | rfl | (simp; done) | (simp [*]; done), by repeat (first | exact Drawn0.refl _ | apply Drawn0.step)⟩

/-! ### apd_Condition_SystemOverflow: function 22 -/
def apd_Condition_SystemOverflow.f (a0 : Int) : Option (Bool) := some ((Go.bits .and .u32 a0 1) != 0)
set_option maxHeartbeats 8000000 in
set_option maxRecDepth 100000 in
theorem apd_Condition_SystemOverflow.calls (a0 : Int) (r : Bool) (w : World) (h : apd_Condition_SystemOverflow.f a0 = some r) :
    Calls Try.prog 22 #[.int .u32 a0] w fun e w' => e = .returned (.bool r) ∧ Drawn0 w w' := by
  have H : (some ((Go.bits .and .u32 a0 1) != 0)) = some r := h
  clear h
  obtain rfl := Option.some.inj H
  go_enter Try.func22, Try.ntmps22
  go_wp2
  go_ret
  exact ⟨by first | rfl | (simp; done) | (simp [*]; done), by repeat (first | exact Drawn0.refl _ | apply Drawn0.step)⟩

/-! ### apd_Condition_SystemUnderflow: function 23 -/
def apd_Condition_SystemUnderflow.f (a0 : Int) : Option (Bool) := some ((Go.bits .and .u32 a0 2) != 0)
set_option maxHeartbeats 8000000 in
set_option maxRecDepth 100000 in
theorem apd_Condition_SystemUnderflow.calls (a0 : Int) (r : Bool) (w : World) (h : apd_Condition_SystemUnderflow.f a0 = some r) :
    Calls Try.prog 23 #[.int .u32 a0] w fun e w' => e = .returned (.bool r) ∧ Drawn0 w w' := by
  have H : (some ((Go.bits .and .u32 a0 2) != 0)) = some r := h
  clear h
  obtain rfl := Option.some.inj H
  go_enter Try.func23, Try.ntmps23
  go_wp2
  go_ret
  exact ⟨by first | rfl | (simp; done) | (simp [*]; done), by repeat (first | exact Drawn0.refl _ | apply Drawn0.step)⟩

/-! ### impl_Flags: function 6 -/
def impl_Flags.f (k : Nat) (a0 : Int) : Option (List Bool) := (impl_raised.f k a0).bind fun t108 => ((apd_Condition_Any.f t108).bind fun t109 => ((apd_Condition_Overflow.f t108).bind fun t110 => ((apd_Condition_Underflow.f t108).bind fun t111 => ((apd_Condition_Inexact.f t108).bind fun t112 => ((apd_Condition_Subnormal.f t108).bind fun t113 => ((apd_Condition_Rounded.f t108).bind fun t114 => ((apd_Condition_DivisionUndefined.f t108).bind fun t115 => ((apd_Condition_DivisionByZero.f t108).bind fun t116 => ((apd_Condition_DivisionImpossible.f t108).bind fun t117 => ((apd_Condition_InvalidOperation.f t108).bind fun t118 => ((apd_Condition_Clamped.f t108).bind fun t119 => ((apd_Condition_SystemOverflow.f t108).bind fun t120 => ((apd_Condition_SystemUnderflow.f t108).bind fun t121 => (some (([t109, t110, t111, t112, t113, t114, t115, t116, t117, t118, t119, t120, t121] : List Bool))))))))))))))))
theorem impl_Flags.mono : ∀ a0 k, LeO (impl_Flags.f k a0) (impl_Flags.f (k + 1) a0) := by
  intro a0 k
  unfold impl_Flags.f
  repeat' first
      | (with_reducible exact impl_raised.mono _ _)
      | (with_reducible exact LeO.refl _)
      | (with_reducible exact LeO.none _)
      | (with_reducible refine LeO.ite ?_ ?_)
      | (with_reducible refine LeO.bind ?_ (fun _ => ?_))
      | exact impl_raised.mono _ _
      | exact LeO.none _
      | refine LeO.ite ?_ ?_
      | refine LeO.bind ?_ (fun _ => ?_)
set_option maxHeartbeats 8000000 in
set_option maxRecDepth 100000 in
theorem impl_Flags.calls (k : Nat) (a0 : Int) (r : List Bool) (w : World) (h : impl_Flags.f k a0 = some r) :
    Calls Try.prog 6 #[.int .i64 a0] w fun e w' => ∃ v0_ : Value, e = .returned (v0_) ∧ Kd.R Kd.bool 4 w' w.heap.size (fun _ => True) v0_ r ∧ Below w.heap.size w w' := by
  have HB := Aside0.mk (Below.refl w.heap.size w)
  have H : ((impl_raised.f k a0).bind fun t108 => ((apd_Condition_Any.f t108).bind fun t109 => ((apd_Condition_Overflow.f t108).bind fun t110 => ((apd_Condition_Underflow.f t108).bind fun t111 => ((apd_Condition_Inexact.f t108).bind fun t112 => ((apd_Condition_Subnormal.f t108).bind fun t113 => ((apd_Condition_Rounded.f t108).bind fun t114 => ((apd_Condition_DivisionUndefined.f t108).bind fun t115 => ((apd_Condition_DivisionByZero.f t108).bind fun t116 => ((apd_Condition_DivisionImpossible.f t108).bind fun t117 => ((apd_Condition_InvalidOperation.f t108).bind fun t118 => ((apd_Condition_Clamped.f t108).bind fun t119 => ((apd_Condition_SystemOverflow.f t108).bind fun t120 => ((apd_Condition_SystemUnderflow.f t108).bind fun t121 => (some (([t109, t110, t111, t112, t113, t114, t115, t116, t117, t118, t119, t120, t121] : List Bool))))))))))))))))) = some r := h
  clear h
  replace H := Option.bind_eq_some_iff.mp H
  obtain ⟨t108, A20, H⟩ := H
  replace H : ((apd_Condition_Any.f t108).bind fun t109 => ((apd_Condition_Overflow.f t108).bind fun t110 => ((apd_Condition_Underflow.f t108).bind fun t111 => ((apd_Condition_Inexact.f t108).bind fun t112 => ((apd_Condition_Subnormal.f t108).bind fun t113 => ((apd_Condition_Rounded.f t108).bind fun t114 => ((apd_Condition_DivisionUndefined.f t108).bind fun t115 => ((apd_Condition_DivisionByZero.f t108).bind fun t116 => ((apd_Condition_DivisionImpossible.f t108).bind fun t117 => ((apd_Condition_InvalidOperation.f t108).bind fun t118 => ((apd_Condition_Clamped.f t108).bind fun t119 => ((apd_Condition_SystemOverflow.f t108).bind fun t120 => ((apd_Condition_SystemUnderflow.f t108).bind fun t121 => (some (([t109, t110, t111, t112, t113, t114, t115, t116, t117, t118, t119, t120, t121] : List Bool)))))))))))))))) = some r := H
  have A2 := Aside0.mk A20
  clear A20
  replace H := Option.bind_eq_some_iff.mp H
  obtain ⟨t109, A30, H⟩ := H
  replace H : ((apd_Condition_Overflow.f t108).bind fun t110 => ((apd_Condition_Underflow.f t108).bind fun t111 => ((apd_Condition_Inexact.f t108).bind fun t112 => ((apd_Condition_Subnormal.f t108).bind fun t113 => ((apd_Condition_Rounded.f t108).bind fun t114 => ((apd_Condition_DivisionUndefined.f t108).bind fun t115 => ((apd_Condition_DivisionByZero.f t108).bind fun t116 => ((apd_Condition_DivisionImpossible.f t108).bind fun t117 => ((apd_Condition_InvalidOperation.f t108).bind fun t118 => ((apd_Condition_Clamped.f t108).bind fun t119 => ((apd_Condition_SystemOverflow.f t108).bind fun t120 => ((apd_Condition_SystemUnderflow.f t108).bind fun t121 => (some (([t109, t110, t111, t112, t113, t114, t115, t116, t117, t118, t119, t120, t121] : List Bool))))))))))))))) = some r := H
  have A3 := Aside0.mk A30
  clear A30
  replace H := Option.bind_eq_some_iff.mp H
  obtain ⟨t110, A40, H⟩ := H
  replace H : ((apd_Condition_Underflow.f t108).bind fun t111 => ((apd_Condition_Inexact.f t108).bind fun t112 => ((apd_Condition_Subnormal.f t108).bind fun t113 => ((apd_Condition_Rounded.f t108).bind fun t114 => ((apd_Condition_DivisionUndefined.f t108).bind fun t115 => ((apd_Condition_DivisionByZero.f t108).bind fun t116 => ((apd_Condition_DivisionImpossible.f t108).bind fun t117 => ((apd_Condition_InvalidOperation.f t108).bind fun t118 => ((apd_Condition_Clamped.f t108).bind fun t119 => ((apd_Condition_SystemOverflow.f t108).bind fun t120 => ((apd_Condition_SystemUnderflow.f t108).bind fun t121 => (some (([t109, t110, t111, t112, t113, t114, t115, t116, t117, t118, t119, t120, t121] : List Bool)))))))))))))) = some r := H
  have A4 := Aside0.mk A40
  clear A40
  replace H := Option.bind_eq_some_iff.mp H
  obtain ⟨t111, A50, H⟩ := H
  replace H : ((apd_Condition_Inexact.f t108).bind fun t112 => ((apd_Condition_Subnormal.f t108).bind fun t113 => ((apd_Condition_Rounded.f t108).bind fun t114 => ((apd_Condition_DivisionUndefined.f t108).bind fun t115 => ((apd_Condition_DivisionByZero.f t108).bind fun t116 => ((apd_Condition_DivisionImpossible.f t108).bind fun t117 => ((apd_Condition_InvalidOperation.f t108).bind fun t118 => ((apd_Condition_Clamped.f t108).bind fun t119 => ((apd_Condition_SystemOverflow.f t108).bind fun t120 => ((apd_Condition_SystemUnderflow.f t108).bind fun t121 => (some (([t109, t110, t111, t112, t113, t114, t115, t116, t117, t118, t119, t120, t121] : List Bool))))))))))))) = some r := H
  have A5 := Aside0.mk A50
  clear A50
  replace H := Option.bind_eq_some_iff.mp H
  obtain ⟨t112, A60, H⟩ := H
  replace H : ((apd_Condition_Subnormal.f t108).bind fun t113 => ((apd_Condition_Rounded.f t108).bind fun t114 => ((apd_Condition_DivisionUndefined.f t108).bind fun t115 => ((apd_Condition_DivisionByZero.f t108).bind fun t116 => ((apd_Condition_DivisionImpossible.f t108).bind fun t117 => ((apd_Condition_InvalidOperation.f t108).bind fun t118 => ((apd_Condition_Clamped.f t108).bind fun t119 => ((apd_Condition_SystemOverflow.f t108).bind fun t120 => ((apd_Condition_SystemUnderflow.f t108).bind fun t121 => (some (([t109, t110, t111, t112, t113, t114, t115, t116, t117, t118, t119, t120, t121] : List Bool)))))))))))) = some r := H
  have A6 := Aside0.mk A60
  clear A60
  replace H := Option.bind_eq_some_iff.mp H
  obtain ⟨t113, A70, H⟩ := H
  replace H : ((apd_Condition_Rounded.f t108).bind fun t114 => ((apd_Condition_DivisionUndefined.f t108).bind fun t115 => ((apd_Condition_DivisionByZero.f t108).bind fun t116 => ((apd_Condition_DivisionImpossible.f t108).bind fun t117 => ((apd_Condition_InvalidOperation.f t108).bind fun t118 => ((apd_Condition_Clamped.f t108).bind fun t119 => ((apd_Condition_SystemOverflow.f t108).bind fun t120 => ((apd_Condition_SystemUnderflow.f t108).bind fun t121 => (some (([t109, t110, t111, t112, t113, t114, t115, t116, t117, t118, t119, t120, t121] : List Bool))))))))))) = some r := H
  have A7 := Aside0.mk A70
  clear A70
  replace H := Option.bind_eq_some_iff.mp H
  obtain ⟨t114, A80, H⟩ := H
  replace H : ((apd_Condition_DivisionUndefined.f t108).bind fun t115 => ((apd_Condition_DivisionByZero.f t108).bind fun t116 => ((apd_Condition_DivisionImpossible.f t108).bind fun t117 => ((apd_Condition_InvalidOperation.f t108).bind fun t118 => ((apd_Condition_Clamped.f t108).bind fun t119 => ((apd_Condition_SystemOverflow.f t108).bind fun t120 => ((apd_Condition_SystemUnderflow.f t108).bind fun t121 => (some (([t109, t110, t111, t112, t113, t114, t115, t116, t117, t118, t119, t120, t121] : List Bool)))))))))) = some r := H
  have A8 := Aside0.mk A80
  clear A80
  replace H := Option.bind_eq_some_iff.mp H
  obtain ⟨t115, A90, H⟩ := H
  replace H : ((apd_Condition_DivisionByZero.f t108).bind fun t116 => ((apd_Condition_DivisionImpossible.f t108).bind fun t117 => ((apd_Condition_InvalidOperation.f t108).bind fun t118 => ((apd_Condition_Clamped.f t108).bind fun t119 => ((apd_Condition_SystemOverflow.f t108).bind fun t120 => ((apd_Condition_SystemUnderflow.f t108).bind fun t121 => (some (([t109, t110, t111, t112, t113, t114, t115, t116, t117, t118, t119, t120, t121] : List Bool))))))))) = some r := H
  have A9 := Aside0.mk A90
  clear A90
  replace H := Option.bind_eq_some_iff.mp H
  obtain ⟨t116, A100, H⟩ := H
  replace H : ((apd_Condition_DivisionImpossible.f t108).bind fun t117 => ((apd_Condition_InvalidOperation.f t108).bind fun t118 => ((apd_Condition_Clamped.f t108).bind fun t119 => ((apd_Condition_SystemOverflow.f t108).bind fun t120 => ((apd_Condition_SystemUnderflow.f t108).bind fun t121 => (some (([t109, t110, t111, t112, t113, t114, t115, t116, t117, t118, t119, t120, t121] : List Bool)))))))) = some r := H
  have A10 := Aside0.mk A100
  clear A100
  replace H := Option.bind_eq_some_iff.mp H
  obtain ⟨t117, A110, H⟩ := H
  replace H : ((apd_Condition_InvalidOperation.f t108).bind fun t118 => ((apd_Condition_Clamped.f t108).bind fun t119 => ((apd_Condition_SystemOverflow.f t108).bind fun t120 => ((apd_Condition_SystemUnderflow.f t108).bind fun t121 => (some (([t109, t110, t111, t112, t113, t114, t115, t116, t117, t118, t119, t120, t121] : List Bool))))))) = some r := H
  have A11 := Aside0.mk A110
  clear A110
  replace H := Option.bind_eq_some_iff.mp H
  obtain ⟨t118, A120, H⟩ := H
  replace H : ((apd_Condition_Clamped.f t108).bind fun t119 => ((apd_Condition_SystemOverflow.f t108).bind fun t120 => ((apd_Condition_SystemUnderflow.f t108).bind fun t121 => (some (([t109, t110, t111, t112, t113, t114, t115, t116, t117, t118, t119, t120, t121] : List Bool)))))) = some r := H
  have A12 := Aside0.mk A120
  clear A120
  replace H := Option.bind_eq_some_iff.mp H
  obtain ⟨t119, A130, H⟩ := H
  replace H : ((apd_Condition_SystemOverflow.f t108).bind fun t120 => ((apd_Condition_SystemUnderflow.f t108).bind fun t121 => (some (([t109, t110, t111, t112, t113, t114, t115, t116, t117, t118, t119, t120, t121] : List Bool))))) = some r := H
  have A13 := Aside0.mk A130
  clear A130
  replace H := Option.bind_eq_some_iff.mp H
  obtain ⟨t120, A140, H⟩ := H
  replace H : ((apd_Condition_SystemUnderflow.f t108).bind fun t121 => (some (([t109, t110, t111, t112, t113, t114, t115, t116, t117, t118, t119, t120, t121] : List Bool)))) = some r := H
  have A14 := Aside0.mk A140
  clear A140
  replace H := Option.bind_eq_some_iff.mp H
  obtain ⟨t121, A150, H⟩ := H
  replace H : (some (([t109, t110, t111, t112, t113, t114, t115, t116, t117, t118, t119, t120, t121] : List Bool))) = some r := H
  have A15 := Aside0.mk A150
  clear A150
  obtain ⟨y122, hy122⟩ : ∃ y_ : List Bool, y_ = (([t109, t110, t111, t112, t113, t114, t115, t116, t117, t118, t119, t120, t121] : List Bool)) := ⟨_, rfl⟩
  replace H : (some y122) = some r := by first | (rw [hy122]; with_reducible exact H) | (have H2_ := (Option.bind_some _ _).symm.trans H; rw [hy122]; with_reducible exact H2_) | (have H2_ := (Option.bind_some _ _).symm.trans H; with_reducible exact H2_) | with_reducible exact H | (rw [hy122]; exact H) | exact H
  have Ny122 := Aside0.mk hy122
  clear hy122
  obtain rfl := Option.some.inj H
  go_enter Try.func6, Try.ntmps6
  go_wp2_with (first | ((with_reducible refine gate_callee (f := 10) rfl ?_); refine goesL_ (some 5) rfl rfl Try.func10 (by kernel_rfl) rfl #[.int .i64 a0] rfl (by (try simp only [List.map_toArray, List.map_cons, List.map_nil]); first | done | rfl | (simp only [List.length_drop, List.length_take]; rfl)) ?_; (with_reducible refine (impl_raised.calls k a0 t108 _ A2.out).mono ?_); rintro e w16 ⟨rfl, hb⟩; refine ⟨_, rfl, ?_⟩; have n0_ := Aside0.mk (below_step (by repeat (first | (with_reducible first | exact HB.out | apply below_alloc | apply pw_below_drewN | apply below_drew1) | exact HB.out)) hb); clear HB; have HB := n0_; clear n0_; (try clear hb); (try clear hb2); (try clear hk); (try clear hi)) | ((with_reducible refine gate_callee (f := 11) rfl ?_); refine goesL_ (some 7) rfl rfl Try.func11 (by kernel_rfl) rfl #[.int .u32 t108] rfl (by (try simp only [List.map_toArray, List.map_cons, List.map_nil]); first | done | rfl | (simp only [List.length_drop, List.length_take]; rfl)) ?_; (with_reducible refine (apd_Condition_Any.calls t108 t109 _ A3.out).mono ?_); rintro e w' ⟨rfl, ⟨nd, rfl⟩⟩; refine ⟨_, rfl, ?_⟩) | ((with_reducible refine gate_callee (f := 12) rfl ?_); refine goesL_ (some 9) rfl rfl Try.func12 (by kernel_rfl) rfl #[.int .u32 t108] rfl (by (try simp only [List.map_toArray, List.map_cons, List.map_nil]); first | done | rfl | (simp only [List.length_drop, List.length_take]; rfl)) ?_; (with_reducible refine (apd_Condition_Overflow.calls t108 t110 _ A4.out).mono ?_); rintro e w' ⟨rfl, ⟨nd, rfl⟩⟩; refine ⟨_, rfl, ?_⟩) | ((with_reducible refine gate_callee (f := 13) rfl ?_); refine goesL_ (some 11) rfl rfl Try.func13 (by kernel_rfl) rfl #[.int .u32 t108] rfl (by (try simp only [List.map_toArray, List.map_cons, List.map_nil]); first | done | rfl | (simp only [List.length_drop, List.length_take]; rfl)) ?_; (with_reducible refine (apd_Condition_Underflow.calls t108 t111 _ A5.out).mono ?_); rintro e w' ⟨rfl, ⟨nd, rfl⟩⟩; refine ⟨_, rfl, ?_⟩) | ((with_reducible refine gate_callee (f := 14) rfl ?_); refine goesL_ (some 13) rfl rfl Try.func14 (by kernel_rfl) rfl #[.int .u32 t108] rfl (by (try simp only [List.map_toArray, List.map_cons, List.map_nil]); first | done | rfl | (simp only [List.length_drop, List.length_take]; rfl)) ?_; (with_reducible refine (apd_Condition_Inexact.calls t108 t112 _ A6.out).mono ?_); rintro e w' ⟨rfl, ⟨nd, rfl⟩⟩; refine ⟨_, rfl, ?_⟩) | ((with_reducible refine gate_callee (f := 15) rfl ?_); refine goesL_ (some 15) rfl rfl Try.func15 (by kernel_rfl) rfl #[.int .u32 t108] rfl (by (try simp only [List.map_toArray, List.map_cons, List.map_nil]); first | done | rfl | (simp only [List.length_drop, List.length_take]; rfl)) ?_; (with_reducible refine (apd_Condition_Subnormal.calls t108 t113 _ A7.out).mono ?_); rintro e w' ⟨rfl, ⟨nd, rfl⟩⟩; refine ⟨_, rfl, ?_⟩) | ((with_reducible refine gate_callee (f := 16) rfl ?_); refine goesL_ (some 17) rfl rfl Try.func16 (by kernel_rfl) rfl #[.int .u32 t108] rfl (by (try simp only [List.map_toArray, List.map_cons, List.map_nil]); first | done | rfl | (simp only [List.length_drop, List.length_take]; rfl)) ?_; (with_reducible refine (apd_Condition_Rounded.calls t108 t114 _ A8.out).mono ?_); rintro e w' ⟨rfl, ⟨nd, rfl⟩⟩; refine ⟨_, rfl, ?_⟩) | ((with_reducible refine gate_callee (f := 17) rfl ?_); refine goesL_ (some 19) rfl rfl Try.func17 (by kernel_rfl) rfl #[.int .u32 t108] rfl (by (try simp only [List.map_toArray, List.map_cons, List.map_nil]); first | done | rfl | (simp only [List.length_drop, List.length_take]; rfl)) ?_; (with_reducible refine (apd_Condition_DivisionUndefined.calls t108 t115 _ A9.out).mono ?_); rintro e w' ⟨rfl, ⟨nd, rfl⟩⟩; refine ⟨_, rfl, ?_⟩) | ((with_reducible refine gate_callee (f := 18) rfl ?_); refine goesL_ (some 21) rfl rfl Try.func18 (by kernel_rfl) rfl #[.int .u32 t108] rfl (by (try simp only [List.map_toArray, List.map_cons, List.map_nil]); first | done | rfl | (simp only [List.length_drop, List.length_take]; rfl)) ?_; (with_reducible refine (apd_Condition_DivisionByZero.calls t108 t116 _ A10.out).mono ?_); rintro e w' ⟨rfl, ⟨nd, rfl⟩⟩; refine ⟨_, rfl, ?_⟩) | ((with_reducible refine gate_callee (f := 19) rfl ?_); refine goesL_ (some 23) rfl rfl Try.func19 (by kernel_rfl) rfl #[.int .u32 t108] rfl (by (try simp only [List.map_toArray, List.map_cons, List.map_nil]); first | done | rfl | (simp only [List.length_drop, List.length_take]; rfl)) ?_; (with_reducible refine (apd_Condition_DivisionImpossible.calls t108 t117 _ A11.out).mono ?_); rintro e w' ⟨rfl, ⟨nd, rfl⟩⟩; refine ⟨_, rfl, ?_⟩) | ((with_reducible refine gate_callee (f := 20) rfl ?_); refine goesL_ (some 25) rfl rfl Try.func20 (by kernel_rfl) rfl #[.int .u32 t108] rfl (by (try simp only [List.map_toArray, List.map_cons, List.map_nil]); first | done | rfl | (simp only [List.length_drop, List.length_take]; rfl)) ?_; (with_reducible refine (apd_Condition_InvalidOperation.calls t108 t118 _ A12.out).mono ?_); rintro e w' ⟨rfl, ⟨nd, rfl⟩⟩; refine ⟨_, rfl, ?_⟩) | ((with_reducible refine gate_callee (f := 21) rfl ?_); refine goesL_ (some 27) rfl rfl Try.func21 (by kernel_rfl) rfl #[.int .u32 t108] rfl (by (try simp only [List.map_toArray, List.map_cons, List.map_nil]); first | done | rfl | (simp only [List.length_drop, List.length_take]; rfl)) ?_; (with_reducible refine (apd_Condition_Clamped.calls t108 t119 _ A13.out).mono ?_); rintro e w' ⟨rfl, ⟨nd, rfl⟩⟩; refine ⟨_, rfl, ?_⟩) | ((with_reducible refine gate_callee (f := 22) rfl ?_); refine goesL_ (some 29) rfl rfl Try.func22 (by kernel_rfl) rfl #[.int .u32 t108] rfl (by (try simp only [List.map_toArray, List.map_cons, List.map_nil]); first | done | rfl | (simp only [List.length_drop, List.length_take]; rfl)) ?_; (with_reducible refine (apd_Condition_SystemOverflow.calls t108 t120 _ A14.out).mono ?_); rintro e w' ⟨rfl, ⟨nd, rfl⟩⟩; refine ⟨_, rfl, ?_⟩) | ((with_reducible refine gate_callee (f := 23) rfl ?_); refine goesL_ (some 31) rfl rfl Try.func23 (by kernel_rfl) rfl #[.int .u32 t108] rfl (by (try simp only [List.map_toArray, List.map_cons, List.map_nil]); first | done | rfl | (simp only [List.length_drop, List.length_take]; rfl)) ?_; (with_reducible refine (apd_Condition_SystemUnderflow.calls t108 t121 _ A15.out).mono ?_); rintro e w' ⟨rfl, ⟨nd, rfl⟩⟩; refine ⟨_, rfl, ?_⟩) | ((with_reducible refine gate_dst (N := 32) rfl ?_); refine Kd.R_lit Kd.bool _ 4 ?hg (N := 32) ?hd (xs := ([t109, t110, t111, t112, t113, t114, t115, t116, t117, t118, t119, t120, t121] : List Bool)) (inner := [.bool t109, .bool t110, .bool t111, .bool t112, .bool t113, .bool t114, .bool t115, .bool t116, .bool t117, .bool t118, .bool t119, .bool t120, .bool t121]) (ok := fun _ => True) (okp := fun _ => True) ?hr ?hp (fun _ hk => hk) trivial (Below.refl _ _) (Nat.le_refl _) (by simp) ?_; (case hd => rfl); (case hg => rfl); (case hr => first | (go_simp; done) | (go_simp; rfl)); (case hp => exact (Reps.one (show Kd.M Kd.bool _ _ _ t109 [.bool t109] from rfl) (Reps.one (show Kd.M Kd.bool _ _ _ t110 [.bool t110] from rfl) (Reps.one (show Kd.M Kd.bool _ _ _ t111 [.bool t111] from rfl) (Reps.one (show Kd.M Kd.bool _ _ _ t112 [.bool t112] from rfl) (Reps.one (show Kd.M Kd.bool _ _ _ t113 [.bool t113] from rfl) (Reps.one (show Kd.M Kd.bool _ _ _ t114 [.bool t114] from rfl) (Reps.one (show Kd.M Kd.bool _ _ _ t115 [.bool t115] from rfl) (Reps.one (show Kd.M Kd.bool _ _ _ t116 [.bool t116] from rfl) (Reps.one (show Kd.M Kd.bool _ _ _ t117 [.bool t117] from rfl) (Reps.one (show Kd.M Kd.bool _ _ _ t118 [.bool t118] from rfl) (Reps.one (show Kd.M Kd.bool _ _ _ t119 [.bool t119] from rfl) (Reps.one (show Kd.M Kd.bool _ _ _ t120 [.bool t120] from rfl) (Reps.one (show Kd.M Kd.bool _ _ _ t121 [.bool t121] from rfl) (Reps.none _ _))))))))))))))); intro v123 w17 ho18 hb hg_ hnew_; clear hg_ hnew_; (first | rw [← Ny122.out] at ho18 | (simp only [Int.reduceToNat] at ho18; rw [← Ny122.out] at ho18)); have n0_ := Aside0.mk (Kd.R_lower ho18 (below_size (by repeat (first | (with_reducible first | exact HB.out | apply below_alloc | apply pw_below_drewN | apply below_drew1) | exact HB.out)))); have n1_ := Aside0.mk (below_step (by repeat (first | (with_reducible first | exact HB.out | apply below_alloc | apply pw_below_drewN | apply below_drew1) | exact HB.out)) hb); clear HB; have HO124 := n0_; have HB := n1_; clear n0_ n1_; clear hb ho18))
  go_ret
  exact ⟨_, by first | rfl | (simp [errW_none, errW_some] <;> rfl) | (simp [*, errW_none, errW_some] <;> rfl), by (with_reducible repeat (first | apply Kd.R_alloc | apply Kd.R_drewN | apply Kd.R_drew)); exact HO124.out, by repeat (first | (with_reducible first | exact HB.out | apply below_alloc | apply pw_below_drewN | apply below_drew1) | exact HB.out)⟩

/-! ### laws_FnFlags: function 3 -/
mutual
def laws_FnFlags.j0 : Nat → Int → List Bool → Bool → Option (Bool)
  | 0, _, _, _ => none
  | k + 1, x3, x4, x21 => if x21 = true then (some false) else (laws_FnFlags.l0 k x3 x4 0)
def laws_FnFlags.l0 : Nat → Int → List Bool → Int → Option (Bool)
  | 0, _, _, _ => none
  | k + 1, x3, x4, x22 => if x22 < 12 then (if 0 ≤ (wrap64 (x22 + 1)) then (if (wrap64 (x22 + 1)) < (x4.length : Int) then (if 0 ≤ x22 then (if ((rdOf false x4 (wrap64 (x22 + 1))) != ((Go.bits .and .i64 (shr .i64 x3 x22) 1) == 1)) = true then (some false) else (laws_FnFlags.l0 k x3 x4 (wrap64 (x22 + 1)))) else (none)) else (none)) else (none)) else (some true)
end
def laws_FnFlags.f (k : Nat) (a0 : Int) : Option (Bool) := (impl_Flags.f k (wrap64 (Int.tmod a0 4096))).bind fun t125 => (if (t125.length : Int) = 13 then (if 0 < (t125.length : Int) then (laws_FnFlags.j0 k (wrap64 (Int.tmod a0 4096)) t125 ((rdOf false t125 0) != ((wrap64 (Int.tmod a0 4096)) != 0))) else (none)) else (laws_FnFlags.j0 k (wrap64 (Int.tmod a0 4096)) t125 true))
theorem laws_FnFlags.mono_l : ∀ k, (∀ y0 y1 y2, LeO (laws_FnFlags.j0 k y0 y1 y2) (laws_FnFlags.j0 (k + 1) y0 y1 y2)) ∧ (∀ y0 y1 y2, LeO (laws_FnFlags.l0 k y0 y1 y2) (laws_FnFlags.l0 (k + 1) y0 y1 y2))
  | 0 => ⟨fun _ _ _ r h => by simp [laws_FnFlags.j0] at h, fun _ _ _ r h => by simp [laws_FnFlags.l0] at h⟩
  | k + 1 => by
    obtain ⟨ih0, ih1⟩ := laws_FnFlags.mono_l k
    refine ⟨?_, ?_⟩
    · intro y0 y1 y2
      unfold laws_FnFlags.j0
      repeat' first
      | (with_reducible exact ih0 _ _ _)
      | (with_reducible exact ih1 _ _ _)
      | (with_reducible exact impl_Flags.mono _ _)
      | (with_reducible exact LeO.refl _)
      | (with_reducible exact LeO.none _)
      | (with_reducible refine LeO.ite ?_ ?_)
      | (with_reducible refine LeO.bind ?_ (fun _ => ?_))
      | exact ih0 _ _ _
      | exact ih1 _ _ _
      | exact impl_Flags.mono _ _
      | exact LeO.none _
      | refine LeO.ite ?_ ?_
      | refine LeO.bind ?_ (fun _ => ?_)
    · intro y0 y1 y2
      unfold laws_FnFlags.l0
      repeat' first
      | (with_reducible exact ih0 _ _ _)
      | (with_reducible exact ih1 _ _ _)
      | (with_reducible exact impl_Flags.mono _ _)
      | (with_reducible exact LeO.refl _)
      | (with_reducible exact LeO.none _)
      | (with_reducible refine LeO.ite ?_ ?_)
      | (with_reducible refine LeO.bind ?_ (fun _ => ?_))
      | exact ih0 _ _ _
      | exact ih1 _ _ _
      | exact impl_Flags.mono _ _
      | exact LeO.none _
      | refine LeO.ite ?_ ?_
      | refine LeO.bind ?_ (fun _ => ?_)
theorem laws_FnFlags.mono : ∀ a0 k, LeO (laws_FnFlags.f k a0) (laws_FnFlags.f (k + 1) a0) := by
  intro a0 k
  obtain ⟨ih0, ih1⟩ := laws_FnFlags.mono_l k
  unfold laws_FnFlags.f
  repeat' first
      | (with_reducible exact ih0 _ _ _)
      | (with_reducible exact ih1 _ _ _)
      | (with_reducible exact impl_Flags.mono _ _)
      | (with_reducible exact LeO.refl _)
      | (with_reducible exact LeO.none _)
      | (with_reducible refine LeO.ite ?_ ?_)
      | (with_reducible refine LeO.bind ?_ (fun _ => ?_))
      | exact ih0 _ _ _
      | exact ih1 _ _ _
      | exact impl_Flags.mono _ _
      | exact LeO.none _
      | refine LeO.ite ?_ ?_
      | refine LeO.bind ?_ (fun _ => ?_)
set_option maxHeartbeats 8000000 in
set_option maxRecDepth 100000 in
theorem laws_FnFlags.calls (k : Nat) (a0 : Int) (r : Bool) (w : World) (h : laws_FnFlags.f k a0 = some r) :
    Calls Try.prog 3 #[.int .u16 a0] w fun e w' => e = .returned (.bool r) ∧ Below w.heap.size w w' := by
  have HB := Aside0.mk (Below.refl w.heap.size w)
  have H : ((impl_Flags.f k (wrap64 (Int.tmod a0 4096))).bind fun t125 => (if (t125.length : Int) = 13 then (if 0 < (t125.length : Int) then (laws_FnFlags.j0 k (wrap64 (Int.tmod a0 4096)) t125 ((rdOf false t125 0) != ((wrap64 (Int.tmod a0 4096)) != 0))) else (none)) else (laws_FnFlags.j0 k (wrap64 (Int.tmod a0 4096)) t125 true))) = some r := h
  clear h
  replace H := Option.bind_eq_some_iff.mp H
  obtain ⟨t125, A20, H⟩ := H
  replace H : (if (t125.length : Int) = 13 then (if 0 < (t125.length : Int) then (laws_FnFlags.j0 k (wrap64 (Int.tmod a0 4096)) t125 ((rdOf false t125 0) != ((wrap64 (Int.tmod a0 4096)) != 0))) else (none)) else (laws_FnFlags.j0 k (wrap64 (Int.tmod a0 4096)) t125 true)) = some r := H
  have A2 := Aside0.mk A20
  clear A20
  have HC3 := Aside0.mk H
  clear H
  go_enter Try.func3, Try.ntmps3
  go_upto_region 3 with (first | (go_at_call 6; (with_reducible refine (impl_Flags.calls k (wrap64 (Int.tmod a0 4096)) t125 _ A2.out).mono ?_); rintro e w4 ⟨v126, rfl, ho0, hb⟩; have n0_ := Aside0.mk (Kd.R_lower ho0 (below_size (by repeat (first | (with_reducible first | exact HB.out | apply below_alloc | apply pw_below_drewN | apply below_drew1) | exact HB.out)))); have n1_ := Aside0.mk (below_step (by repeat (first | (with_reducible first | exact HB.out | apply below_alloc | apply pw_below_drewN | apply below_drew1) | exact HB.out)) hb); clear HB; have HO127 := n0_; have HB := n1_; clear n0_ n1_; (try clear hb); (try clear hb2); (try clear hk); (try clear hi); (try clear ho0)))
  repeat (go_quiet (first | (go_at_call 6; (with_reducible refine (impl_Flags.calls k (wrap64 (Int.tmod a0 4096)) t125 _ A2.out).mono ?_); rintro e w4 ⟨v126, rfl, ho0, hb⟩; have n0_ := Aside0.mk (Kd.R_lower ho0 (below_size (by repeat (first | (with_reducible first | exact HB.out | apply below_alloc | apply pw_below_drewN | apply below_drew1) | exact HB.out)))); have n1_ := Aside0.mk (below_step (by repeat (first | (with_reducible first | exact HB.out | apply below_alloc | apply pw_below_drewN | apply below_drew1) | exact HB.out)) hb); clear HB; have HO127 := n0_; have HB := n1_; clear n0_ n1_; (try clear hb); (try clear hb2); (try clear hk); (try clear hi); (try clear ho0))); go_upto_region 3 with (first | (go_at_call 6; (with_reducible refine (impl_Flags.calls k (wrap64 (Int.tmod a0 4096)) t125 _ A2.out).mono ?_); rintro e w4 ⟨v126, rfl, ho0, hb⟩; have n0_ := Aside0.mk (Kd.R_lower ho0 (below_size (by repeat (first | (with_reducible first | exact HB.out | apply below_alloc | apply pw_below_drewN | apply below_drew1) | exact HB.out)))); have n1_ := Aside0.mk (below_step (by repeat (first | (with_reducible first | exact HB.out | apply below_alloc | apply pw_below_drewN | apply below_drew1) | exact HB.out)) hb); clear HB; have HO127 := n0_; have HB := n1_; clear n0_ n1_; (try clear hb); (try clear hb2); (try clear hk); (try clear hi); (try clear ho0))))
  (try simp only [Act.put, List.setIfInBounds_toArray, List.set_cons_zero, List.set_cons_succ])
  go_cut [21] (fun v21 wc => ∃ (kq : Nat) (x21_2 : Bool), v21 = .bool x21_2 ∧ Aside0 (laws_FnFlags.j0 kq (wrap64 (Int.tmod a0 4096)) t125 x21_2 = some r) ∧ Aside0 (kq ≤ k) ∧ Aside0 (Kd.R Kd.bool 4 wc w.heap.size (fun _ => True) v126 t125) ∧ Aside0 (Below w.heap.size w wc))
  case first =>
    have H := HC3.out
    clear HC3
    by_cases c5 : (t125.length : Int) = 13
    · rw [if_pos c5] at H
      have c5b0 : ((t125.length : Int) == 13) = true := beq_iff_eq.mpr c5
      have c5b1 : ((t125.length : Int) != 13) = false := bne_eq_false_iff_eq.mpr c5
      clear c5
      (first | rw [c5b0] | (simp only [i64_w, i32_w]; rw [c5b0]) | skip)
      by_cases c6 : 0 < (t125.length : Int)
      · rw [if_pos c6] at H
        have c6b0 : decide (0 < (t125.length : Int)) = true := decide_eq_true c6
        have c6b1 : decide (0 < t125.length) = true := decide_eq_true (by omega)
        clear c6
        have H' := Aside0.mk H
        clear H
        obtain ⟨Ao7, co7, eo7⟩ := Kd.R_slice HO127.out
        subst eo7
        have p128 : 0 ≤ (0 : Int) := (by omega)
        have q128 : 0 < (t125.length : Int) := of_decide_eq_true (by first | (with_reducible assumption) | assumption)
        obtain ⟨ad128, e128, hx128_0⟩ := Kd.at_bool (Kd.R_reads' HO127.out).2.2 0 p128 q128
        cases e128
        have qi128 : (0 < t125.length) = True := eq_true (by omega)
        (try rw [show ((0 : Int)).toNat = 0 from rfl] at hx128_0)
        (try rw [Addr.add_zero'] at hx128_0)
        replace p128 := eq_true p128
        replace q128 := eq_true q128
        go_wp2
        repeat (go_quiet (fail); try go_wp2)
        go_meet
        case rel => exact ⟨_, (((rdOf false t125 0) != ((wrap64 (Int.tmod a0 4096)) != 0))), (by first | rfl | (simp; done) | (simp [*]; done)), H', ⟨by first | omega | exact Nat.le_refl _⟩, ⟨by (with_reducible repeat (first | apply Kd.R_alloc | apply Kd.R_drewN | apply Kd.R_drew)); exact HO127.out⟩, ⟨by repeat (first | (with_reducible first | exact HB.out | apply below_alloc | apply pw_below_drewN | apply below_drew1) | exact HB.out)⟩⟩
      · rw [if_neg c6] at H
        exact absurd H (by simp)
    · rw [if_neg c5] at H
      have c5b0 : ((t125.length : Int) == 13) = false := beq_eq_false_iff_ne.mpr c5
      have c5b1 : ((t125.length : Int) != 13) = true := bne_iff_ne.mpr c5
      (first | rw [c5b0] | (simp only [i64_w, i32_w]; rw [c5b0]) | skip)
      have H' := Aside0.mk H
      clear H
      obtain ⟨Ao8, co8, eo8⟩ := Kd.R_slice HO127.out
      subst eo8
      go_wp2
      repeat (go_quiet (fail); try go_wp2)
      go_meet
      case rel => exact ⟨_, (true), (by first | rfl | (simp; done) | (simp [*]; done)), H', ⟨by first | omega | exact Nat.le_refl _⟩, ⟨by (with_reducible repeat (first | apply Kd.R_alloc | apply Kd.R_drewN | apply Kd.R_drew)); exact HO127.out⟩, ⟨by repeat (first | (with_reducible first | exact HB.out | apply below_alloc | apply pw_below_drewN | apply below_drew1) | exact HB.out)⟩⟩
  case rest =>
    clear HC3
    try clear p1
    try clear q1
    try clear hx1
    try clear qi1
    try clear p2
    try clear c3
    try clear c5
    try clear c5b0
    try clear c5b1
    try clear c6
    try clear c6b0
    try clear c6b1
    try clear p6
    try clear hx128_0
    try clear p128
    try clear q128
    obtain ⟨kq, x21_2, rfl, HA, HJ2, HO_4, HB⟩ := hcut
    cases kq with
    | zero => exact absurd HA.out (by simp [laws_FnFlags.j0])
    | succ kj2 =>
      have H := HA.out
      clear HA
      simp only [laws_FnFlags.j0] at H
      by_cases c9 : x21_2 = true
      · subst c9
        have H1 : (some false) = some r := by rw [if_pos rfl] at H; exact H
        clear H
        have H := H1
        clear H1
        obtain rfl := Option.some.inj H
        go_wp2
        repeat (go_quiet (fail); try go_wp2)
        go_ret
        exact ⟨by first | rfl | (simp [errW_none, errW_some] <;> rfl) | (simp [*, errW_none, errW_some] <;> rfl), by repeat (first | (with_reducible first | exact HB.out | apply below_alloc | apply pw_below_drewN | apply below_drew1) | exact HB.out)⟩
      · replace c9 := Bool.eq_false_iff.mpr c9
        subst c9
        have H1 : (laws_FnFlags.l0 kj2 (wrap64 (Int.tmod a0 4096)) t125 0) = some r := by rw [if_neg (show ¬ (false = true) by decide)] at H; exact H
        clear H
        have H := H1
        clear H1
        have H' := Aside0.mk H
        clear H
        go_wp2
        repeat (go_quiet (fail); try go_wp2)
        go_loopg [22] kj2 (fun kq v22 w' => ∃ (x22_2 : Int), v22 = .int .i64 x22_2 ∧ Aside0 (laws_FnFlags.l0 kq (wrap64 (Int.tmod a0 4096)) t125 x22_2 = some r) ∧ Aside0 (kq ≤ kj2) ∧ Aside0 (Kd.R Kd.bool 4 w' w.heap.size (fun _ => True) v126 t125) ∧ Aside0 (Below w.heap.size w w'))
        case atStart => exact ⟨(0), (by first | rfl | (simp; done) | (simp [*]; done)), H', ⟨Nat.le_refl _⟩, ⟨by (with_reducible repeat (first | apply Kd.R_alloc | apply Kd.R_drewN | apply Kd.R_drew)); exact HO_4.out⟩, ⟨by repeat (first | (with_reducible first | exact HB.out | apply below_alloc | apply pw_below_drewN | apply below_drew1) | exact HB.out)⟩⟩
        case round =>
          clear H'
          try clear p1
          try clear q1
          try clear hx1
          try clear qi1
          try clear p2
          try clear c3
          try clear c5
          try clear c5b0
          try clear c5b1
          try clear c6
          try clear c6b0
          try clear c6b1
          try clear p6
          try clear c9
          try clear hx128_0
          try clear p1
          try clear p128
          try clear p2
          try clear p6
          try clear q1
          try clear q128
          obtain ⟨x22_2, rfl, HA, HK2, HO_4, HB⟩ := hrel
          cases gk with
          | zero => exact absurd HA.out (by simp [laws_FnFlags.l0])
          | succ k2 =>
            have H := HA.out
            clear HA
            simp only [laws_FnFlags.l0] at H
            by_cases c10 : x22_2 < 12
            · rw [if_pos c10] at H
              have c10b0 : decide (x22_2 < 12) = true := decide_eq_true c10
              clear c10
              obtain ⟨ji11, hji11⟩ : ∃ j_ : Int, (wrap64 (x22_2 + 1)) = j_ := ⟨_, rfl⟩
              replace H : (if 0 ≤ (ji11) then (if (ji11) < (t125.length : Int) then (if 0 ≤ x22_2 then (if ((rdOf false t125 (ji11)) != ((Go.bits .and .i64 (shr .i64 (wrap64 (Int.tmod a0 4096)) x22_2) 1) == 1)) = true then (some false) else (laws_FnFlags.l0 k2 (wrap64 (Int.tmod a0 4096)) t125 ji11)) else (none)) else (none)) else (none)) = some r := by first | (rw [hji11] at H; exact H) | (simp only [hji11] at H ⊢; exact H)
              have hji11w : (IntKind.i64.wrap (x22_2 + 1)) = ji11 := (i64_w _).trans hji11
              by_cases c12 : 0 ≤ (ji11)
              · rw [if_pos c12] at H
                have c12b0 : decide (0 ≤ (ji11)) = true := decide_eq_true c12
                clear c12
                by_cases c13 : (ji11) < (t125.length : Int)
                · rw [if_pos c13] at H
                  have c13b0 : decide ((ji11) < (t125.length : Int)) = true := decide_eq_true c13
                  clear c13
                  by_cases c14 : 0 ≤ x22_2
                  · rw [if_pos c14] at H
                    have c14b0 := eq_true c14
                    have c14b1 : decide (0 ≤ x22_2) = true := decide_eq_true c14
                    clear c14
                    obtain ⟨ji15, hji15⟩ : ∃ j_ : Int, (shr .i64 (wrap64 (Int.tmod a0 4096)) x22_2) = j_ := ⟨_, rfl⟩
                    replace H : (if ((rdOf false t125 (ji11)) != ((Go.bits .and .i64 (ji15) 1) == 1)) = true then (some false) else (laws_FnFlags.l0 k2 (wrap64 (Int.tmod a0 4096)) t125 ji11)) = some r := by first | (rw [hji15] at H; exact H) | (simp only [hji15] at H ⊢; exact H)
                    have hji15_ : ((wrap64 (Int.tmod a0 4096)) / 2 ^ min x22_2.toNat 64) = ji15 := hji15
                    have hji15z : x22_2 ≤ 64 → ((wrap64 (Int.tmod a0 4096)) / 2 ^ x22_2.toNat) = ji15 := shr_small hji15
                    by_cases c16 : ((rdOf false t125 (ji11)) != ((Go.bits .and .i64 (ji15) 1) == 1)) = true
                    · rw [if_pos c16] at H
                      have c16b0 : ((rdOf false t125 (ji11)) != ((Go.bits .and .i64 (ji15) 1) == 1)) = true := c16
                      (try (have c16b1 : decide ((rdOf false t125 (ji11)) = ((Go.bits .and .i64 (ji15) 1) == 1)) = false := by simpa using c16))
                      (try (have c16b2 : ((rdOf false t125 (ji11)) == ((Go.bits .and .i64 (ji15) 1) == 1)) = false := by simpa using c16))
                      (try (have c16b3 : ¬ ((rdOf false t125 (ji11)) = ((Go.bits .and .i64 (ji15) 1) == 1)) := by simpa using c16))
                      clear c16
                      obtain rfl := Option.some.inj H
                      obtain ⟨Ao17, co17, eo17⟩ := Kd.R_slice HO_4.out
                      subst eo17
                      have p129 : 0 ≤ ((ji11) : Int) := of_decide_eq_true (by first | (with_reducible assumption) | assumption)
                      have q129 : (ji11) < (t125.length : Int) := of_decide_eq_true (by first | (with_reducible assumption) | assumption)
                      obtain ⟨ad129, e129, hx129_0⟩ := Kd.at_bool (Kd.R_reads' HO_4.out).2.2 (ji11) p129 q129
                      cases e129
                      replace p129 := eq_true p129
                      replace q129 := eq_true q129
                      go_wp2
                      repeat (go_quiet (fail); try go_wp2)
                      go_ret
                      exact ⟨by first | rfl | (simp [errW_none, errW_some] <;> rfl) | (simp only [← hji11, ← hji15]; first | rfl | (simp [errW_none, errW_some] <;> rfl)) | (simp [*, errW_none, errW_some] <;> rfl), by repeat (first | (with_reducible first | exact HB.out | apply below_alloc | apply pw_below_drewN | apply below_drew1) | exact HB.out)⟩
                    · rw [if_neg c16] at H
                      have c16b0 : ((rdOf false t125 (ji11)) != ((Go.bits .and .i64 (ji15) 1) == 1)) = false := by simpa using c16
                      (try (have c16b1 : decide ((rdOf false t125 (ji11)) = ((Go.bits .and .i64 (ji15) 1) == 1)) = true := by simpa using c16))
                      (try (have c16b2 : ((rdOf false t125 (ji11)) == ((Go.bits .and .i64 (ji15) 1) == 1)) = true := by simpa using c16))
                      clear c16
                      have H' := Aside0.mk H
                      clear H
                      obtain ⟨Ao18, co18, eo18⟩ := Kd.R_slice HO_4.out
                      subst eo18
                      have p129 : 0 ≤ ((ji11) : Int) := of_decide_eq_true (by first | (with_reducible assumption) | assumption)
                      have q129 : (ji11) < (t125.length : Int) := of_decide_eq_true (by first | (with_reducible assumption) | assumption)
                      obtain ⟨ad129, e129, hx129_0⟩ := Kd.at_bool (Kd.R_reads' HO_4.out).2.2 (ji11) p129 q129
                      cases e129
                      replace p129 := eq_true p129
                      replace q129 := eq_true q129
                      go_wp2
                      repeat (go_quiet (fail); try go_wp2)
                      go_roundg k2
                      case measure => have := HJ2.out; have := HK2.out; omega
                      case rel => exact ⟨(ji11), (by first | rfl | (simp; done) | (simp only [← hji11] <;> (first | rfl | simp)) | (simp [*]; done)), H', ⟨by have := HJ2.out; have := HK2.out; omega⟩, ⟨by (with_reducible repeat (first | apply Kd.R_alloc | apply Kd.R_drewN | apply Kd.R_drew)); exact HO_4.out⟩, ⟨by repeat (first | (with_reducible first | exact HB.out | apply below_alloc | apply pw_below_drewN | apply below_drew1) | exact HB.out)⟩⟩
                  · rw [if_neg c14] at H
                    exact absurd H (by simp)
                · rw [if_neg c13] at H
                  exact absurd H (by simp)
              · rw [if_neg c12] at H
                exact absurd H (by simp)
            · rw [if_neg c10] at H
              have c10b0 : decide (x22_2 < 12) = false := decide_eq_false c10
              clear c10
              obtain rfl := Option.some.inj H
              go_wp2
              repeat (go_quiet (fail); try go_wp2)
              go_ret
              exact ⟨by first | rfl | (simp [errW_none, errW_some] <;> rfl) | (simp [*, errW_none, errW_some] <;> rfl), by repeat (first | (with_reducible first | exact HB.out | apply below_alloc | apply pw_below_drewN | apply below_drew1) | exact HB.out)⟩

/-- THE ONE PURE STATEMENT of laws_FnFlags: yours. -/
def laws_FnFlags.Pure : Prop := ∀ (a0 : Int), (Lit.int .u16 a0).wf = true → ∃ k, laws_FnFlags.f k a0 = some true
theorem laws_FnFlags.walk (P : laws_FnFlags.Pure) (a0 : Int) (w : World) (w0 : (Lit.int .u16 a0).wf = true) :
    Calls Try.prog 3 #[.int .u16 a0] w fun e w' => e = .returned (.bool true) ∧ Below w.heap.size w w' := by
  obtain ⟨k, h⟩ := P a0 w0
  refine (laws_FnFlags.calls k a0 true w h).mono ?_
  rintro e w' ⟨rfl, hd⟩
  exact ⟨rfl, hd⟩

end Go.Proofs.Ytekhflejmbikmaa.PFnFlags
