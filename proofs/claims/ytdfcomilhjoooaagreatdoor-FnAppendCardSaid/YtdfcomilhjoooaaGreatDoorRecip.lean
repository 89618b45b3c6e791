/- bigall.bitsDiv and reciprocalWord where the divisor is ten to the nineteenth. -/
import Derived.Test.YtdfcomilhjoooaaGreatDoorDivWW
import Derived.BigQuiet
namespace Go.Proofs.YtdfcomilhjoooaaGreatDoor.Div
open Go.RowKit
set_option linter.unusedVariables false
set_option maxRecDepth 100000
set_option maxHeartbeats 4000000
/-- the quotient and the rest; orders may have been drawn -/
def WWOutN (V : Int) (w : World) (e : Ending) (w' : World) : Prop := e = .returned (.tuple #[.int .u64 (V / 10000000000000000000), .int .u64 (V % 10000000000000000000)]) ∧ ∃ nd, w.drewN nd = w'
/-- of one word -/
theorem div64_low (x : Int) (h : 0 ≤ x ∧ x < 18446744073709551616) (w : World) :
    Calls Tryz.prog 180 #[.int .u64 0, .int .u64 x, .int .u64 10000000000000000000] w fun e w' => WWOutN x w e w' := by
  have hx : 0 ≤ x := h.1
  have hx1 : x < 18446744073709551616 := h.2
  have hq0 : 0 ≤ x / 10000000000000000000 := by omega
  have hq1 : IntKind.u64.wrap (x / 10000000000000000000) = x / 10000000000000000000 := wrapu (by omega) (by omega)
  clear h
  go_enter Tryz.func180, Tryz.ntmps180
  go_wp2_with fail
  go_quiet (fail)
  go_wp2_with fail
  go_ret2
  exact ⟨rfl, _, rfl⟩
theorem div_low (x : Int) (h : 0 ≤ x ∧ x < 18446744073709551616) (w : World) :
    Calls Tryz.prog 145 #[.int .u64 0, .int .u64 x, .int .u64 10000000000000000000] w fun e w' => WWOutN x w e w' := by
  have H := Lib.hid (div64_low x h w)
  have h1 : IntKind.u64.wrap (x / 10000000000000000000) = x / 10000000000000000000 := wrapu (by omega) (by omega)
  have h2 : IntKind.u64.wrap (x % 10000000000000000000) = x % 10000000000000000000 := wrapu (by omega) (by omega)
  have h3 : IntKind.u64.wrap x = x := wrapu h.1 h.2
  generalize hq : x / 10000000000000000000 = q at h1
  generalize hr : x % 10000000000000000000 = r at h2
  have HQ := Lib.hid hq
  have HR := Lib.hid hr
  clear h hq hr
  go_enter Tryz.func145, Tryz.ntmps145
  go_wp2_with fail
  refine H.out.mono ?_
  rintro e w' ⟨rfl, nd, rfl⟩
  rw [HQ.out, HR.out]
  go_wp2_with fail
  go_ret2
  exact ⟨by rw [HQ.out, HR.out]; rfl, _, rfl⟩
theorem lz_ten (w : World) : Calls Tryz.prog 189 #[.int .u64 10000000000000000000] w fun e w' => e = .returned (.int .i64 0) ∧ w = w' := by
  refine (Tryz.bits_LeadingZeros64 10000000000000000000 w (by decide) (by decide)).mono ?_
  rintro e w' ⟨rfl, rfl⟩
  exact ⟨rfl, rfl⟩
theorem div64_rec (w : World) :
    Calls Tryz.prog 180 #[.int .u64 8446744073709551615, .int .u64 18446744073709551615, .int .u64 10000000000000000000] w fun e w' => (∃ r, e = .returned (.tuple #[.int .u64 15581492618384294730, .int .u64 r])) ∧ w = w' := by
  go_enter Tryz.func180, Tryz.ntmps180
  go_wp2_with fail
  refine (lz_ten w).mono ?_
  rintro e w' ⟨rfl, rfl⟩
  have b1 : Go.bits .and .u64 10000000000000000000 4294967295 = 2313682944 := by kernel_rfl
  have b2 : Go.bits .and .u64 18446744073709551615 4294967295 = 4294967295 := by kernel_rfl
  have b3 : Go.bits .or .u64 8446744073709551615 0 = 8446744073709551615 := by kernel_rfl
  go_wp2_with fail
  refine wp_loop_rounds 3 ?_; rw [rounds_succ]
  go_wp2_with fail
  rw [rounds_succ]
  go_wp2_with fail
  refine wp_loop_rounds 3 ?_; rw [rounds_succ]
  go_wp2_with fail
  go_ret2
  exact ⟨⟨3374607431768211455, by kernel_rfl⟩, rfl⟩
theorem div_rec (w : World) :
    Calls Tryz.prog 145 #[.int .u64 8446744073709551615, .int .u64 18446744073709551615, .int .u64 10000000000000000000] w fun e w' => (∃ r, e = .returned (.tuple #[.int .u64 15581492618384294730, .int .u64 r])) ∧ w = w' := by
  go_enter Tryz.func145, Tryz.ntmps145
  go_wp2_with fail
  refine (div64_rec w).mono ?_
  rintro e w' ⟨⟨r, rfl⟩, rfl⟩
  go_wp2_with fail
  go_ret2
  exact ⟨⟨_, rfl⟩, rfl⟩
theorem recip_ten (w : World) : Calls Tryz.prog 146 #[.int .u64 10000000000000000000] w fun e w' => e = .returned (.int .u64 15581492618384294730) ∧ w = w' := by
  go_enter Tryz.func146, Tryz.ntmps146
  go_wp2_with fail
  refine (nlz_ten w).mono ?_
  rintro e w' ⟨rfl, rfl⟩
  go_wp2_with fail
  refine (div_rec w).mono ?_
  rintro e w' ⟨⟨r, rfl⟩, rfl⟩
  go_wp2_with fail
  go_ret
  exact ⟨rfl, rfl⟩
end Go.Proofs.YtdfcomilhjoooaaGreatDoor.Div
