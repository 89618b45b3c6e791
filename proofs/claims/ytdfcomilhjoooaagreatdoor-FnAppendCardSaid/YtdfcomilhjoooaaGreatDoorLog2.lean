/- math.Log2 of ten. -/
import Derived.Test.YtdfcomilhjoooaaGreatDoorProg
import Derived.WalkLawsBesides
import Derived.WalkSpells
import Derived.Handy
import Derived.KernelRfl
namespace Go.Proofs.YtdfcomilhjoooaaGreatDoor.Flo
open Go.RowKit
set_option maxRecDepth 100000
set_option maxHeartbeats 8000000
theorem nan_no (x : Nat) (hx : x = 4621819117588971520 ∨ x = 4603804719079489536) (w : World) : Calls Tryz.prog 163 #[.float .f64 x] w fun e w' => e = .returned (.bool false) ∧ w = w' := by
  rcases hx with rfl | rfl
  all_goals go_enter Tryz.func163, Tryz.ntmps163
  all_goals go_wp2_with fail
  all_goals go_ret
  all_goals exact ⟨by kernel_rfl, rfl⟩
theorem ord1 : (FloatKind.f64.format.order 4621819117588971520 9218868437227405311 == some Ordering.gt) = false := by kernel_rfl
theorem ord2 : (FloatKind.f64.format.order 4603804719079489536 9218868437227405311 == some Ordering.gt) = false := by kernel_rfl
theorem fb1 (w : World) : (callFunc 165 #[.float .f64 4621819117588971520]).run Tryz.prog w = .ok (.value (.int .u64 4621819117588971520)) w := by kernel_rfl
theorem fb2 (w : World) : (callFunc 165 #[.float .f64 4603804719079489536]).run Tryz.prog w = .ok (.value (.int .u64 4603804719079489536)) w := by kernel_rfl
theorem bf1 (w : World) : (callFunc 166 #[.int .u64 4621819117588971520]).run Tryz.prog w = .ok (.value (.float .f64 4621819117588971520)) w := by kernel_rfl
theorem bf2 (w : World) : (callFunc 166 #[.int .u64 4603804719079489536]).run Tryz.prog w = .ok (.value (.float .f64 4603804719079489536)) w := by kernel_rfl
theorem abs_same (x : Nat) (hx : x = 4621819117588971520 ∨ x = 4603804719079489536) (w : World) : Calls Tryz.prog 188 #[.float .f64 x] w fun e w' => e = .returned (.float .f64 x) ∧ w = w' := by
  have h1 := fb1
  have h2 := fb2
  have h3 := bf1
  have h4 := bf2
  have a1 : Go.bits .andNot .u64 4621819117588971520 9223372036854775808 = 4621819117588971520 := by kernel_rfl
  have a2 : Go.bits .andNot .u64 4603804719079489536 9223372036854775808 = 4603804719079489536 := by kernel_rfl
  rcases hx with rfl | rfl
  all_goals go_enter Tryz.func188, Tryz.ntmps188
  all_goals go_wp2_with fail
  all_goals go_ret
  all_goals exact ⟨rfl, rfl⟩
theorem inf_no (x : Nat) (hx : x = 4621819117588971520 ∨ x = 4603804719079489536) (s : Int) (hs : s = 0 ∨ s = 1) (w : World) : Calls Tryz.prog 162 #[.float .f64 x, .int .i64 s] w fun e w' => e = .returned (.bool false) ∧ w = w' := by
  have o1 := ord1
  have o2 := ord2
  have h1 := abs_same x hx
  rcases hx with rfl | rfl <;> rcases hs with rfl | rfl
  all_goals go_enter Tryz.func162, Tryz.ntmps162
  all_goals go_wp2_with (go_at_call 188; refine (h1 _).mono ?_; rintro e w' ⟨rfl, rfl⟩)
  all_goals go_ret
  all_goals exact ⟨by first | rfl | kernel_rfl, rfl⟩
theorem norm_same (x : Nat) (hx : x = 4621819117588971520 ∨ x = 4603804719079489536) (w : World) : Calls Tryz.prog 164 #[.float .f64 x] w fun e w' => e = .returned (.tuple #[.float .f64 x, .int .i64 0]) ∧ w = w' := by
  have h1 := abs_same x hx
  rcases hx with rfl | rfl
  all_goals go_enter Tryz.func164, Tryz.ntmps164
  all_goals go_wp2_with (go_at_call 188; refine (h1 _).mono ?_; rintro e w' ⟨rfl, rfl⟩)
  all_goals go_ret2
  all_goals exact ⟨rfl, rfl⟩
theorem frexp_c (x : Nat) (k : Int) (hx : (x = 4621819117588971520 ∧ k = 4) ∨ (x = 4603804719079489536 ∧ k = 0)) (w : World) : Calls Tryz.prog 132 #[.float .f64 x] w fun e w' => e = .returned (.tuple #[.float .f64 4603804719079489536, .int .i64 k]) ∧ w = w' := by
  have h1 := fb1
  have h2 := fb2
  have h3 := bf2
  have b1 : Go.bits .and .u64 1026 2047 = 1026 := by kernel_rfl
  have b2 : Go.bits .and .u64 1022 2047 = 1022 := by kernel_rfl
  have b3 : Go.bits .andNot .u64 4621819117588971520 9218868437227405312 = 1125899906842624 := by kernel_rfl
  have b4 : Go.bits .andNot .u64 4603804719079489536 9218868437227405312 = 1125899906842624 := by kernel_rfl
  have b5 : Go.bits .or .u64 1125899906842624 4602678819172646912 = 4603804719079489536 := by kernel_rfl
  have hi := inf_no x (by rcases hx with ⟨rfl, _⟩ | ⟨rfl, _⟩ <;> simp) 0 (.inl rfl)
  have hn := nan_no x (by rcases hx with ⟨rfl, _⟩ | ⟨rfl, _⟩ <;> simp)
  have hm := norm_same x (by rcases hx with ⟨rfl, _⟩ | ⟨rfl, _⟩ <;> simp)
  rcases hx with ⟨rfl, rfl⟩ | ⟨rfl, rfl⟩
  all_goals go_enter Tryz.func132, Tryz.ntmps132
  all_goals go_wp2_with (first | (go_at_call 162; refine (hi _).mono ?_; rintro e w' ⟨rfl, rfl⟩) | (go_at_call 163; refine (hn _).mono ?_; rintro e w' ⟨rfl, rfl⟩) | (go_at_call 164; refine (hm _).mono ?_; rintro e w' ⟨rfl, rfl⟩))
  all_goals go_ret2
  all_goals exact ⟨by kernel_rfl, rfl⟩
theorem Frexp_c (x : Nat) (k : Int) (hx : (x = 4621819117588971520 ∧ k = 4) ∨ (x = 4603804719079489536 ∧ k = 0)) (w : World) : Calls Tryz.prog 106 #[.float .f64 x] w fun e w' => e = .returned (.tuple #[.float .f64 4603804719079489536, .int .i64 k]) ∧ w = w' := by
  have h1 := frexp_c x k hx
  clear hx
  go_enter Tryz.func106, Tryz.ntmps106
  go_wp2_with fail
  refine (h1 _).mono ?_
  rintro e w' ⟨rfl, rfl⟩
  go_wp2_with fail
  go_ret2
  exact ⟨rfl, rfl⟩
theorem fo29 (w : World) : (binOp .mul 90 (.float .f64 13825510489450817230) (.float .f64 4609176140021203710)).run Tryz.prog w = .ok (.float .f64 13827654785158443579) w := by kernel_rfl
theorem fo30 (w : World) : (binOp .add 90 (.float .f64 13827654785158443579) (.float .f64 4616189618054758400)).run Tryz.prog w = .ok (.float .f64 4614662735865160561) w := by kernel_rfl
theorem arch_c (w : World) : (callFunc 133 #[.float .f64 4603804719079489536]).run Tryz.prog w = .ok (.value (.float .f64 13825510489450817230)) w := by kernel_rfl
theorem Log_c (w : World) : Calls Tryz.prog 107 #[.float .f64 4603804719079489536] w fun e w' => e = .returned (.float .f64 13825510489450817230) ∧ w = w' := by
  have h := arch_c
  go_enter Tryz.func107, Tryz.ntmps107
  go_wp2_with fail
  go_ret
  exact ⟨rfl, rfl⟩
theorem ord5 : (FloatKind.f64.format.order 4603804719079489536 4602678819172646912 == some Ordering.eq) = false := by kernel_rfl
theorem log2_c (w : World) : Calls Tryz.prog 76 #[.float .f64 4621819117588971520] w fun e w' => e = .returned (.float .f64 4614662735865160561) ∧ w = w' := by
  have hf := Frexp_c 4621819117588971520 4 (by simp)
  have cv : ∀ u : World, (convert 3 90 (.int .i64 4)).run Tryz.prog u = .ok (.float .f64 4616189618054758400) u := fun u => by kernel_rfl
  have o5 := ord5
  have g29 := fo29
  have g30 := fo30
  go_enter Tryz.func76, Tryz.ntmps76
  go_wp2_with (first | (go_at_call 107; refine (Log_c _).mono ?_; rintro e w' ⟨rfl, rfl⟩) | (go_at_call 106; refine (hf _).mono ?_; rintro e w' ⟨rfl, rfl⟩))
  go_ret
  exact ⟨rfl, rfl⟩
/-- math.Log2 of ten -/
theorem Log2_ten (w : World) : Calls Tryz.prog 57 #[.float .f64 4621819117588971520] w fun e w' => e = .returned (.float .f64 4614662735865160561) ∧ w = w' := by
  go_enter Tryz.func57, Tryz.ntmps57
  go_wp2_with (go_at_call 76; refine (log2_c _).mono ?_; rintro e w' ⟨rfl, rfl⟩)
  go_ret
  exact ⟨rfl, rfl⟩
end Go.Proofs.YtdfcomilhjoooaaGreatDoor.Flo
