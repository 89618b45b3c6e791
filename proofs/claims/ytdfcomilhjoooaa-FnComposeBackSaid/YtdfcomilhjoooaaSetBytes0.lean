/- nat.setBytes of no byte. -/
import Derived.Test.YtdfcomilhjoooaaSetBytes
namespace Go.Proofs.Ytdfcomilhjoooaa.Be
open Go.RowKit Go.Proofs.YtdfcomilhjoooaaW.PrintWords Go.Proofs.Ytdfcomilhjoooaa.Base Go.Proofs.Ytdfcomilhjoooaa.Num

theorem setBytes_nil (A : Option Addr) (m cap : Nat) (hcap : cap ≤ 1000) (hA : A = none → cap = 0) (B : Option Addr) (cb : Nat) (w : World) :
    Calls Try.prog 43 #[.slice A m cap, .slice B 0 cb] w fun e w' => e = .returned (.slice A 0 cap) ∧ w = w' := by
  have HM := Lib.hid (make_re A m cap 0 (Nat.zero_le _) (by omega) hA w)
  have hr : ReadsInt w .u64 A 0 [] := ⟨rfl, by decide, fun h => absurd h (by decide)⟩
  have HN : Hid (Calls Try.prog 42 #[.slice A 0 cap] w fun e w' => e = .returned (.slice A 0 cap) ∧ w = w') := Lib.hid (norm_any A cap [] (by decide) (Nat.zero_le _) (by omega) hA w hr)
  clear hr
  go_enter Try.func43, Try.ntmps43
  go_wp2_with fail
  refine HM.out.mono ?_
  rintro e w' ⟨rfl, rfl⟩
  go_wp2_with fail
  refine wp_loop_rounds 1 ?_; rw [rounds_succ]
  go_wp2_with fail
  refine HN.out.mono ?_
  rintro e w' ⟨rfl, rfl⟩
  go_wp2_with fail
  go_ret
  exact ⟨rfl, rfl⟩
end Go.Proofs.Ytdfcomilhjoooaa.Be
