-- PRINTED BY print.sh 35421559b90ae4d0a3588c463048766b98c2df88dd9212a6774a882060cdf62d: not written by this session
import Derived.Test.YtekhflejmbikmaaPFnGoErrorx0
namespace Go.Proofs.Ytekhflejmbikmaa.PFnGoError
open Go.RowKit Go.Proofs.YtekhflejmbikmaaW.PrintWords Go.Proofs.YtekhflejmbikmaaW.PrintLast Go.Proofs.YtekhflejmbikmaaW.PrintMore
attribute [local go_sem] max2_int min2_int max_two min_two max_three min_three max_four min_four   -- for this text's walks alone
set_option linter.unusedVariables false
set_option linter.unusedSimpArgs false

/-! ### impl_kinds: function 29 -/
def impl_kinds.f  : Option (List Int) := some (([4, 8, 16, 32, 64, 128, 256, 512, 1024, 2048, 1, 2] : List Int))
set_option maxHeartbeats 8000000 in
set_option maxRecDepth 100000 in
theorem impl_kinds.calls  (r : List Int) (w : World) (h : impl_kinds.f  = some r) :
    Calls Try.prog 29 #[] w fun e w' => ∃ v0_ : Value, e = .returned (v0_) ∧ Kd.R (Kd.int .u32) 36 w' w.heap.size (fun _ => True) v0_ r ∧ Below w.heap.size w w' := by
  have HB := Aside0.mk (Below.refl w.heap.size w)
  have H : (some (([4, 8, 16, 32, 64, 128, 256, 512, 1024, 2048, 1, 2] : List Int))) = some r := h
  clear h
  obtain ⟨y101, hy101⟩ : ∃ y_ : List Int, y_ = (([4, 8, 16, 32, 64, 128, 256, 512, 1024, 2048, 1, 2] : List Int)) := ⟨_, rfl⟩
  replace H : (some y101) = some r := by first | (rw [hy101]; with_reducible exact H) | (have H2_ := (Option.bind_some _ _).symm.trans H; rw [hy101]; with_reducible exact H2_) | (have H2_ := (Option.bind_some _ _).symm.trans H; with_reducible exact H2_) | with_reducible exact H | (rw [hy101]; exact H) | exact H
  have Ny101 := Aside0.mk hy101
  clear hy101
  obtain rfl := Option.some.inj H
  go_enter Try.func29, Try.ntmps29
  go_wp2_with (first | ((with_reducible refine gate_dst (N := 1) rfl ?_); refine Kd.R_lit (Kd.int .u32) _ 36 ?hg (N := 1) ?hd (xs := ([4, 8, 16, 32, 64, 128, 256, 512, 1024, 2048, 1, 2] : List Int)) (inner := [.int .u32 4, .int .u32 8, .int .u32 16, .int .u32 32, .int .u32 64, .int .u32 128, .int .u32 256, .int .u32 512, .int .u32 1024, .int .u32 2048, .int .u32 1, .int .u32 2]) (ok := fun _ => True) (okp := fun _ => True) ?hr ?hp (fun _ hk => hk) trivial (Below.refl _ _) (Nat.le_refl _) (by simp) ?_; (case hd => rfl); (case hg => rfl); (case hr => first | (go_simp; done) | (go_simp; rfl)); (case hp => exact (Reps.one (show Kd.M (Kd.int .u32) _ _ _ 4 [.int .u32 4] from rfl) (Reps.one (show Kd.M (Kd.int .u32) _ _ _ 8 [.int .u32 8] from rfl) (Reps.one (show Kd.M (Kd.int .u32) _ _ _ 16 [.int .u32 16] from rfl) (Reps.one (show Kd.M (Kd.int .u32) _ _ _ 32 [.int .u32 32] from rfl) (Reps.one (show Kd.M (Kd.int .u32) _ _ _ 64 [.int .u32 64] from rfl) (Reps.one (show Kd.M (Kd.int .u32) _ _ _ 128 [.int .u32 128] from rfl) (Reps.one (show Kd.M (Kd.int .u32) _ _ _ 256 [.int .u32 256] from rfl) (Reps.one (show Kd.M (Kd.int .u32) _ _ _ 512 [.int .u32 512] from rfl) (Reps.one (show Kd.M (Kd.int .u32) _ _ _ 1024 [.int .u32 1024] from rfl) (Reps.one (show Kd.M (Kd.int .u32) _ _ _ 2048 [.int .u32 2048] from rfl) (Reps.one (show Kd.M (Kd.int .u32) _ _ _ 1 [.int .u32 1] from rfl) (Reps.one (show Kd.M (Kd.int .u32) _ _ _ 2 [.int .u32 2] from rfl) (Reps.none _ _)))))))))))))); intro v102 w1 ho2 hb hg_ hnew_; clear hg_ hnew_; (first | rw [← Ny101.out] at ho2 | (simp only [Int.reduceToNat] at ho2; rw [← Ny101.out] at ho2)); have n0_ := Aside0.mk (Kd.R_lower ho2 (below_size (by repeat (first | (with_reducible first | exact HB.out | apply below_alloc | apply pw_below_drewN | apply below_drew1) | exact HB.out)))); have n1_ := Aside0.mk (below_step (by repeat (first | (with_reducible first | exact HB.out | apply below_alloc | apply pw_below_drewN | apply below_drew1) | exact HB.out)) hb); clear HB; have HO103 := n0_; have HB := n1_; clear n0_ n1_; clear hb ho2))
  go_ret
  exact ⟨_, by first | rfl | (simp [errW_none, errW_some] <;> rfl) | (simp [*, errW_none, errW_some] <;> rfl), by (with_reducible repeat (first | apply Kd.R_alloc | apply Kd.R_drewN | apply Kd.R_drew)); exact HO103.out, by repeat (first | (with_reducible first | exact HB.out | apply below_alloc | apply pw_below_drewN | apply below_drew1) | exact HB.out)⟩

/-! ### impl_raised: function 10 -/
def impl_raised.l0 : Nat → Int → Int → List Int → Int → Int → Option (Int)
  | 0, _, _, _, _, _ => none
  | k + 1, x0, x3, x6, x7, x8 => if x8 < x7 then (if 0 ≤ x8 then (if x8 < (x6.length : Int) then (if (Go.bits .and .i64 (shr .i64 x0 x8) 1) = 1 then (impl_raised.l0 k x0 (Go.bits .or .u32 x3 (rd x6 x8)) x6 x7 (wrap64 (x8 + 1))) else (impl_raised.l0 k x0 x3 x6 x7 (wrap64 (x8 + 1)))) else (none)) else (none)) else (some x3)
def impl_raised.f (k : Nat) (a0 : Int) : Option (Int) := (impl_kinds.f).bind fun t104 => (impl_raised.l0 k a0 0 t104 (t104.length : Int) 0)
theorem impl_raised.mono_l : ∀ k, (∀ y0 y1 y2 y3 y4, LeO (impl_raised.l0 k y0 y1 y2 y3 y4) (impl_raised.l0 (k + 1) y0 y1 y2 y3 y4))
  | 0 => fun _ _ _ _ _ r h => by simp [impl_raised.l0] at h
  | k + 1 => by
    have ih0 := impl_raised.mono_l k
    · intro y0 y1 y2 y3 y4
      unfold impl_raised.l0
      repeat' first
      | (with_reducible exact ih0 _ _ _ _ _)
      | (with_reducible exact LeO.refl _)
      | (with_reducible exact LeO.none _)
      | (with_reducible refine LeO.ite ?_ ?_)
      | (with_reducible refine LeO.bind ?_ (fun _ => ?_))
      | exact ih0 _ _ _ _ _
      | exact LeO.none _
      | refine LeO.ite ?_ ?_
      | refine LeO.bind ?_ (fun _ => ?_)
theorem impl_raised.mono : ∀ a0 k, LeO (impl_raised.f k a0) (impl_raised.f (k + 1) a0) := by
  intro a0 k
  have ih0 := impl_raised.mono_l k
  unfold impl_raised.f
  repeat' first
      | (with_reducible exact ih0 _ _ _ _ _)
      | (with_reducible exact LeO.refl _)
      | (with_reducible exact LeO.none _)
      | (with_reducible refine LeO.ite ?_ ?_)
      | (with_reducible refine LeO.bind ?_ (fun _ => ?_))
      | exact ih0 _ _ _ _ _
      | exact LeO.none _
      | refine LeO.ite ?_ ?_
      | refine LeO.bind ?_ (fun _ => ?_)
set_option maxHeartbeats 8000000 in
set_option maxRecDepth 100000 in
theorem impl_raised.calls (k : Nat) (a0 : Int) (r : Int) (w : World) (h : impl_raised.f k a0 = some r) :
    Calls Try.prog 10 #[.int .i64 a0] w fun e w' => e = .returned (.int .u32 r) ∧ Below w.heap.size w w' := by
  have HB := Aside0.mk (Below.refl w.heap.size w)
  have H : ((impl_kinds.f).bind fun t104 => (impl_raised.l0 k a0 0 t104 (t104.length : Int) 0)) = some r := h
  clear h
  replace H := Option.bind_eq_some_iff.mp H
  obtain ⟨t104, A20, H⟩ := H
  replace H : (impl_raised.l0 k a0 0 t104 (t104.length : Int) 0) = some r := H
  have A2 := Aside0.mk A20
  clear A20
  have H' := Aside0.mk H
  clear H
  go_enter Try.func10, Try.ntmps10
  go_wp2_with (first | ((with_reducible refine gate_callee (f := 29) rfl ?_); refine goesL_ (some 6) rfl rfl Try.func29 (by kernel_rfl) rfl #[] rfl (by (try simp only [List.map_toArray, List.map_cons, List.map_nil]); first | done | rfl | (simp only [List.length_drop, List.length_take]; rfl)) ?_; (with_reducible refine (impl_kinds.calls  t104 _ A2.out).mono ?_); rintro e w3 ⟨v105, rfl, ho0, hb⟩; refine ⟨_, rfl, ?_⟩; have n0_ := Aside0.mk (Kd.R_lower ho0 (below_size (by repeat (first | (with_reducible first | exact HB.out | apply below_alloc | apply pw_below_drewN | apply below_drew1) | exact HB.out)))); have n1_ := Aside0.mk (below_step (by repeat (first | (with_reducible first | exact HB.out | apply below_alloc | apply pw_below_drewN | apply below_drew1) | exact HB.out)) hb); clear HB; have HO106 := n0_; have HB := n1_; clear n0_ n1_; (try clear hb); (try clear hb2); (try clear hk); (try clear hi); (try clear ho0); obtain ⟨Ao4, co4, eo4⟩ := Kd.R_slice HO106.out; subst eo4))
  go_loopg [3, 8] k (fun kq v3 v8 w' => ∃ (x3_1 : Int) (x8_1 : Int), v3 = .int .u32 x3_1 ∧ v8 = .int .i64 x8_1 ∧ Aside0 (impl_raised.l0 kq a0 x3_1 t104 (t104.length : Int) x8_1 = some r) ∧ Aside0 (kq ≤ k) ∧ Aside0 (Kd.R (Kd.int .u32) 36 w' w.heap.size (fun _ => True) (.slice Ao4 t104.length co4) t104) ∧ Aside0 (Below w.heap.size w w'))
  case atStart => exact ⟨(0), (0), (by first | rfl | (simp; done) | (simp [*]; done)), (by first | rfl | (simp; done) | (simp [*]; done)), H', ⟨Nat.le_refl _⟩, ⟨by (with_reducible repeat (first | apply Kd.R_alloc | apply Kd.R_drewN | apply Kd.R_drew)); exact HO106.out⟩, ⟨by repeat (first | (with_reducible first | exact HB.out | apply below_alloc | apply pw_below_drewN | apply below_drew1) | exact HB.out)⟩⟩
  case round =>
    clear H'
    try clear c1
    try clear c2
    try clear p2
    obtain ⟨x3_1, x8_1, rfl, rfl, HA, HK1, HO_6, HB⟩ := hrel
    cases gk with
    | zero => exact absurd HA.out (by simp [impl_raised.l0])
    | succ k1 =>
      have H := HA.out
      clear HA
      simp only [impl_raised.l0] at H
      by_cases c5 : x8_1 < (t104.length : Int)
      · rw [if_pos c5] at H
        have c5b0 : decide (x8_1 < (t104.length : Int)) = true := decide_eq_true c5
        clear c5
        by_cases c6 : 0 ≤ x8_1
        · rw [if_pos c6] at H
          have c6b0 : decide (0 ≤ x8_1) = true := decide_eq_true c6
          clear c6
          by_cases c7 : x8_1 < (t104.length : Int)
          · rw [if_pos c7] at H
            have c7b0 : decide (x8_1 < (t104.length : Int)) = true := decide_eq_true c7
            clear c7
            have c8b0 := eq_true (of_decide_eq_true (by first | (with_reducible assumption) | assumption) : 0 ≤ x8_1)
            obtain ⟨ji9, hji9⟩ : ∃ j_ : Int, (shr .i64 a0 x8_1) = j_ := ⟨_, rfl⟩
            replace H : (if (Go.bits .and .i64 (ji9) 1) = 1 then (impl_raised.l0 k1 a0 (Go.bits .or .u32 x3_1 (rd t104 x8_1)) t104 (t104.length : Int) (wrap64 (x8_1 + 1))) else (impl_raised.l0 k1 a0 x3_1 t104 (t104.length : Int) (wrap64 (x8_1 + 1)))) = some r := by first | (rw [hji9] at H; exact H) | (simp only [hji9] at H ⊢; exact H)
            have hji9_ : (a0 / 2 ^ min x8_1.toNat 64) = ji9 := hji9
            have hji9z : x8_1 ≤ 64 → (a0 / 2 ^ x8_1.toNat) = ji9 := shr_small hji9
            by_cases c10 : (Go.bits .and .i64 (ji9) 1) = 1
            · rw [if_pos c10] at H
              have c10b0 : ((Go.bits .and .i64 (ji9) 1) == 1) = true := beq_iff_eq.mpr c10
              have c10b1 : ((Go.bits .and .i64 (ji9) 1) != 1) = false := bne_eq_false_iff_eq.mpr c10
              clear c10
              have H' := Aside0.mk H
              clear H
              have p107 : 0 ≤ (x8_1 : Int) := of_decide_eq_true (by first | (with_reducible assumption) | assumption)
              have q107 : x8_1 < (t104.length : Int) := of_decide_eq_true (by first | (with_reducible assumption) | assumption)
              obtain ⟨ad107, e107, hx107_0⟩ := Kd.at_int (Kd.R_reads' HO_6.out).2.2 x8_1 p107 q107
              cases e107
              replace p107 := eq_true p107
              replace q107 := eq_true q107
              go_wp2
              go_roundg k1
              case measure => have := HK1.out; omega
              case rel => exact ⟨(Go.bits .or .u32 x3_1 (rd t104 x8_1)), (wrap64 (x8_1 + 1)), (by first | rfl | (simp; done) | (simp [*]; done)), (by first | rfl | (simp; done) | (simp [*]; done)), H', ⟨by have := HK1.out; omega⟩, ⟨by (with_reducible repeat (first | apply Kd.R_alloc | apply Kd.R_drewN | apply Kd.R_drew)); exact HO_6.out⟩, ⟨by repeat (first | (with_reducible first | exact HB.out | apply below_alloc | apply pw_below_drewN | apply below_drew1) | exact HB.out)⟩⟩
            · rw [if_neg c10] at H
              have c10b0 : ((Go.bits .and .i64 (ji9) 1) == 1) = false := beq_eq_false_iff_ne.mpr c10
              have c10b1 : ((Go.bits .and .i64 (ji9) 1) != 1) = true := bne_iff_ne.mpr c10
              have H' := Aside0.mk H
              clear H
              have p107 : 0 ≤ (x8_1 : Int) := of_decide_eq_true (by first | (with_reducible assumption) | assumption)
              have q107 : x8_1 < (t104.length : Int) := of_decide_eq_true (by first | (with_reducible assumption) | assumption)
              obtain ⟨ad107, e107, hx107_0⟩ := Kd.at_int (Kd.R_reads' HO_6.out).2.2 x8_1 p107 q107
              cases e107
              replace p107 := eq_true p107
              replace q107 := eq_true q107
              go_wp2
              go_roundg k1
              case measure => have := HK1.out; omega
              case rel => exact ⟨(x3_1), (wrap64 (x8_1 + 1)), (by first | rfl | (simp; done) | (simp [*]; done)), (by first | rfl | (simp; done) | (simp [*]; done)), H', ⟨by have := HK1.out; omega⟩, ⟨by (with_reducible repeat (first | apply Kd.R_alloc | apply Kd.R_drewN | apply Kd.R_drew)); exact HO_6.out⟩, ⟨by repeat (first | (with_reducible first | exact HB.out | apply below_alloc | apply pw_below_drewN | apply below_drew1) | exact HB.out)⟩⟩
          · rw [if_neg c7] at H
            exact absurd H (by simp)
        · rw [if_neg c6] at H
          exact absurd H (by simp)
      · rw [if_neg c5] at H
        have c5b0 : decide (x8_1 < (t104.length : Int)) = false := decide_eq_false c5
        clear c5
        obtain rfl := Option.some.inj H
        go_wp2
        go_ret
        exact ⟨by first | rfl | (simp [errW_none, errW_some] <;> rfl) | (simp [*, errW_none, errW_some] <;> rfl), by repeat (first | (with_reducible first | exact HB.out | apply below_alloc | apply pw_below_drewN | apply below_drew1) | exact HB.out)⟩

-- NOT PRINTED: function 30 (errors_New)

-- NOT PRINTED: function 38 (abi_NoEscape)

-- NOT PRINTED: function 36 (strings_Builder_copyCheck)

-- NOT PRINTED: function 39 (bytealg_MakeNoZero)

-- NOT PRINTED: function 37 (strings_Builder_grow)

-- NOT PRINTED: function 33 (strings_Builder_Grow)

-- NOT PRINTED: function 34 (strings_Builder_WriteString)

-- NOT PRINTED: function 35 (strings_Builder_String)

-- NOT PRINTED: function 32 (strings_Join)

-- NOT PRINTED: function 31 (apd_Condition_String)

-- NOT PRINTED: function 27 (apd_Condition_GoError)

-- NOT PRINTED: function 28 (impl_conditions)

-- NOT PRINTED: function 9 (impl_GoError)

-- NOT PRINTED: function 5 (laws_FnGoError)

end Go.Proofs.Ytekhflejmbikmaa.PFnGoError
