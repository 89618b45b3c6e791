/- FnGoError, second part: what impl.conditions tells, for every sum below 4096. No condition beside the bound. -/
import Derived.Test.YtekhflejmbikmaaProg
import Derived.WalkKit
import Derived.WalkLawsBesides
import Derived.WalkSpells
import Derived.Handy
import Derived.StillTailTactics
import Derived.Deep.Draws
import Derived.KernelRfl
import Derived.Laws.BitsLemmas
import Derived.Lib.Hide
namespace Go.Proofs.Ytekhflejmbikmaa.GE
open Go.RowKit

/-- the kinds of conditions by their order -/
def kd : Nat → Int
  | 0 => 4
  | 1 => 8
  | 2 => 16
  | 3 => 32
  | 4 => 64
  | 5 => 128
  | 6 => 256
  | 7 => 512
  | 8 => 1024
  | 9 => 2048
  | 10 => 1
  | 11 => 2
  | _ => 0
/-- what impl.conditions has gathered behind k rounds -/
def condN (r : Nat) : Nat → Int
  | 0 => 0
  | k + 1 => if bits .and .u32 (r : Int) (kd k) != 0 then bits .or .i64 (condN r k) (2 ^ k) else condN r k
theorem condN_set (r k : Nat) (_hk : k < 12) (_hr : r < 4096) (h : ¬ bits .and .u32 (r : Int) (kd k) = 0) : condN r (k + 1) = bits .or .i64 (condN r k) (2 ^ k) := by
  simp [condN, h]
theorem condN_clear (r k : Nat) (h : bits .and .u32 (r : Int) (kd k) = 0) : condN r (k + 1) = condN r k := by
  simp [condN, h]

set_option maxHeartbeats 4000000 in
theorem cond_any (r : Nat) (hr : r < 4096) (w : World) :
    Calls Try.prog 28 #[.int .u32 r] w fun e w' => e = .returned (.int .i64 (condN r 12)) ∧ w = w' := by
  go_enter Try.func28, Try.ntmps28
  go_wp2_with fail
  go_loop [3, 7] (fun v3 v7 => ∃ k : Nat, k ≤ 12 ∧ v7 = .int .i64 k ∧ v3 = .int .i64 (condN r k)) (fun _ v7 => 12 - (intOf v7).toNat)
  case atStart => exact ⟨0, by omega, rfl, rfl⟩
  case round =>
    obtain ⟨k, hk, rfl, rfl⟩ := hrel
    match k, hk with
    | 0, hk =>
      have hix : ∀ w : World, (Instr.index 55 (.agg #[.int .u32 4, .int .u32 8, .int .u32 16, .int .u32 32, .int .u32 64, .int .u32 128, .int .u32 256, .int .u32 512, .int .u32 1024, .int .u32 2048, .int .u32 1, .int .u32 2]) (.int .i64 0)).run Try.prog w = .ok (.int .u32 4) w := fun _ => by kernel_rfl
      by_cases hb : (bits .and .u32 (r : Int) 4 != 0) = true
      · go_wp2_with fail
        go_round
        case rel => exact ⟨1, by omega, rfl, by rw [condN_set r 0 (by decide) hr (by simpa [kd] using hb)]; rfl⟩
        case measure => simp [intOf]
      · have hb2 : (bits .and .u32 (r : Int) 4 != 0) = false := by simpa using hb
        clear hb
        go_wp2_with fail
        go_round
        case rel => exact ⟨1, by omega, rfl, by rw [condN_clear r 0 (by simpa [kd] using hb2)]⟩
        case measure => simp [intOf]
    | 1, hk =>
      have hix : ∀ w : World, (Instr.index 55 (.agg #[.int .u32 4, .int .u32 8, .int .u32 16, .int .u32 32, .int .u32 64, .int .u32 128, .int .u32 256, .int .u32 512, .int .u32 1024, .int .u32 2048, .int .u32 1, .int .u32 2]) (.int .i64 1)).run Try.prog w = .ok (.int .u32 8) w := fun _ => by kernel_rfl
      by_cases hb : (bits .and .u32 (r : Int) 8 != 0) = true
      · go_wp2_with fail
        go_round
        case rel => exact ⟨2, by omega, rfl, by rw [condN_set r 1 (by decide) hr (by simpa [kd] using hb)]; rfl⟩
        case measure => simp [intOf]
      · have hb2 : (bits .and .u32 (r : Int) 8 != 0) = false := by simpa using hb
        clear hb
        go_wp2_with fail
        go_round
        case rel => exact ⟨2, by omega, rfl, by rw [condN_clear r 1 (by simpa [kd] using hb2)]⟩
        case measure => simp [intOf]
    | 2, hk =>
      have hix : ∀ w : World, (Instr.index 55 (.agg #[.int .u32 4, .int .u32 8, .int .u32 16, .int .u32 32, .int .u32 64, .int .u32 128, .int .u32 256, .int .u32 512, .int .u32 1024, .int .u32 2048, .int .u32 1, .int .u32 2]) (.int .i64 2)).run Try.prog w = .ok (.int .u32 16) w := fun _ => by kernel_rfl
      by_cases hb : (bits .and .u32 (r : Int) 16 != 0) = true
      · go_wp2_with fail
        go_round
        case rel => exact ⟨3, by omega, rfl, by rw [condN_set r 2 (by decide) hr (by simpa [kd] using hb)]; rfl⟩
        case measure => simp [intOf]
      · have hb2 : (bits .and .u32 (r : Int) 16 != 0) = false := by simpa using hb
        clear hb
        go_wp2_with fail
        go_round
        case rel => exact ⟨3, by omega, rfl, by rw [condN_clear r 2 (by simpa [kd] using hb2)]⟩
        case measure => simp [intOf]
    | 3, hk =>
      have hix : ∀ w : World, (Instr.index 55 (.agg #[.int .u32 4, .int .u32 8, .int .u32 16, .int .u32 32, .int .u32 64, .int .u32 128, .int .u32 256, .int .u32 512, .int .u32 1024, .int .u32 2048, .int .u32 1, .int .u32 2]) (.int .i64 3)).run Try.prog w = .ok (.int .u32 32) w := fun _ => by kernel_rfl
      by_cases hb : (bits .and .u32 (r : Int) 32 != 0) = true
      · go_wp2_with fail
        go_round
        case rel => exact ⟨4, by omega, rfl, by rw [condN_set r 3 (by decide) hr (by simpa [kd] using hb)]; rfl⟩
        case measure => simp [intOf]
      · have hb2 : (bits .and .u32 (r : Int) 32 != 0) = false := by simpa using hb
        clear hb
        go_wp2_with fail
        go_round
        case rel => exact ⟨4, by omega, rfl, by rw [condN_clear r 3 (by simpa [kd] using hb2)]⟩
        case measure => simp [intOf]
    | 4, hk =>
      have hix : ∀ w : World, (Instr.index 55 (.agg #[.int .u32 4, .int .u32 8, .int .u32 16, .int .u32 32, .int .u32 64, .int .u32 128, .int .u32 256, .int .u32 512, .int .u32 1024, .int .u32 2048, .int .u32 1, .int .u32 2]) (.int .i64 4)).run Try.prog w = .ok (.int .u32 64) w := fun _ => by kernel_rfl
      by_cases hb : (bits .and .u32 (r : Int) 64 != 0) = true
      · go_wp2_with fail
        go_round
        case rel => exact ⟨5, by omega, rfl, by rw [condN_set r 4 (by decide) hr (by simpa [kd] using hb)]; rfl⟩
        case measure => simp [intOf]
      · have hb2 : (bits .and .u32 (r : Int) 64 != 0) = false := by simpa using hb
        clear hb
        go_wp2_with fail
        go_round
        case rel => exact ⟨5, by omega, rfl, by rw [condN_clear r 4 (by simpa [kd] using hb2)]⟩
        case measure => simp [intOf]
    | 5, hk =>
      have hix : ∀ w : World, (Instr.index 55 (.agg #[.int .u32 4, .int .u32 8, .int .u32 16, .int .u32 32, .int .u32 64, .int .u32 128, .int .u32 256, .int .u32 512, .int .u32 1024, .int .u32 2048, .int .u32 1, .int .u32 2]) (.int .i64 5)).run Try.prog w = .ok (.int .u32 128) w := fun _ => by kernel_rfl
      by_cases hb : (bits .and .u32 (r : Int) 128 != 0) = true
      · go_wp2_with fail
        go_round
        case rel => exact ⟨6, by omega, rfl, by rw [condN_set r 5 (by decide) hr (by simpa [kd] using hb)]; rfl⟩
        case measure => simp [intOf]
      · have hb2 : (bits .and .u32 (r : Int) 128 != 0) = false := by simpa using hb
        clear hb
        go_wp2_with fail
        go_round
        case rel => exact ⟨6, by omega, rfl, by rw [condN_clear r 5 (by simpa [kd] using hb2)]⟩
        case measure => simp [intOf]
    | 6, hk =>
      have hix : ∀ w : World, (Instr.index 55 (.agg #[.int .u32 4, .int .u32 8, .int .u32 16, .int .u32 32, .int .u32 64, .int .u32 128, .int .u32 256, .int .u32 512, .int .u32 1024, .int .u32 2048, .int .u32 1, .int .u32 2]) (.int .i64 6)).run Try.prog w = .ok (.int .u32 256) w := fun _ => by kernel_rfl
      by_cases hb : (bits .and .u32 (r : Int) 256 != 0) = true
      · go_wp2_with fail
        go_round
        case rel => exact ⟨7, by omega, rfl, by rw [condN_set r 6 (by decide) hr (by simpa [kd] using hb)]; rfl⟩
        case measure => simp [intOf]
      · have hb2 : (bits .and .u32 (r : Int) 256 != 0) = false := by simpa using hb
        clear hb
        go_wp2_with fail
        go_round
        case rel => exact ⟨7, by omega, rfl, by rw [condN_clear r 6 (by simpa [kd] using hb2)]⟩
        case measure => simp [intOf]
    | 7, hk =>
      have hix : ∀ w : World, (Instr.index 55 (.agg #[.int .u32 4, .int .u32 8, .int .u32 16, .int .u32 32, .int .u32 64, .int .u32 128, .int .u32 256, .int .u32 512, .int .u32 1024, .int .u32 2048, .int .u32 1, .int .u32 2]) (.int .i64 7)).run Try.prog w = .ok (.int .u32 512) w := fun _ => by kernel_rfl
      by_cases hb : (bits .and .u32 (r : Int) 512 != 0) = true
      · go_wp2_with fail
        go_round
        case rel => exact ⟨8, by omega, rfl, by rw [condN_set r 7 (by decide) hr (by simpa [kd] using hb)]; rfl⟩
        case measure => simp [intOf]
      · have hb2 : (bits .and .u32 (r : Int) 512 != 0) = false := by simpa using hb
        clear hb
        go_wp2_with fail
        go_round
        case rel => exact ⟨8, by omega, rfl, by rw [condN_clear r 7 (by simpa [kd] using hb2)]⟩
        case measure => simp [intOf]
    | 8, hk =>
      have hix : ∀ w : World, (Instr.index 55 (.agg #[.int .u32 4, .int .u32 8, .int .u32 16, .int .u32 32, .int .u32 64, .int .u32 128, .int .u32 256, .int .u32 512, .int .u32 1024, .int .u32 2048, .int .u32 1, .int .u32 2]) (.int .i64 8)).run Try.prog w = .ok (.int .u32 1024) w := fun _ => by kernel_rfl
      by_cases hb : (bits .and .u32 (r : Int) 1024 != 0) = true
      · go_wp2_with fail
        go_round
        case rel => exact ⟨9, by omega, rfl, by rw [condN_set r 8 (by decide) hr (by simpa [kd] using hb)]; rfl⟩
        case measure => simp [intOf]
      · have hb2 : (bits .and .u32 (r : Int) 1024 != 0) = false := by simpa using hb
        clear hb
        go_wp2_with fail
        go_round
        case rel => exact ⟨9, by omega, rfl, by rw [condN_clear r 8 (by simpa [kd] using hb2)]⟩
        case measure => simp [intOf]
    | 9, hk =>
      have hix : ∀ w : World, (Instr.index 55 (.agg #[.int .u32 4, .int .u32 8, .int .u32 16, .int .u32 32, .int .u32 64, .int .u32 128, .int .u32 256, .int .u32 512, .int .u32 1024, .int .u32 2048, .int .u32 1, .int .u32 2]) (.int .i64 9)).run Try.prog w = .ok (.int .u32 2048) w := fun _ => by kernel_rfl
      by_cases hb : (bits .and .u32 (r : Int) 2048 != 0) = true
      · go_wp2_with fail
        go_round
        case rel => exact ⟨10, by omega, rfl, by rw [condN_set r 9 (by decide) hr (by simpa [kd] using hb)]; rfl⟩
        case measure => simp [intOf]
      · have hb2 : (bits .and .u32 (r : Int) 2048 != 0) = false := by simpa using hb
        clear hb
        go_wp2_with fail
        go_round
        case rel => exact ⟨10, by omega, rfl, by rw [condN_clear r 9 (by simpa [kd] using hb2)]⟩
        case measure => simp [intOf]
    | 10, hk =>
      have hix : ∀ w : World, (Instr.index 55 (.agg #[.int .u32 4, .int .u32 8, .int .u32 16, .int .u32 32, .int .u32 64, .int .u32 128, .int .u32 256, .int .u32 512, .int .u32 1024, .int .u32 2048, .int .u32 1, .int .u32 2]) (.int .i64 10)).run Try.prog w = .ok (.int .u32 1) w := fun _ => by kernel_rfl
      by_cases hb : (bits .and .u32 (r : Int) 1 != 0) = true
      · go_wp2_with fail
        go_round
        case rel => exact ⟨11, by omega, rfl, by rw [condN_set r 10 (by decide) hr (by simpa [kd] using hb)]; rfl⟩
        case measure => simp [intOf]
      · have hb2 : (bits .and .u32 (r : Int) 1 != 0) = false := by simpa using hb
        clear hb
        go_wp2_with fail
        go_round
        case rel => exact ⟨11, by omega, rfl, by rw [condN_clear r 10 (by simpa [kd] using hb2)]⟩
        case measure => simp [intOf]
    | 11, hk =>
      have hix : ∀ w : World, (Instr.index 55 (.agg #[.int .u32 4, .int .u32 8, .int .u32 16, .int .u32 32, .int .u32 64, .int .u32 128, .int .u32 256, .int .u32 512, .int .u32 1024, .int .u32 2048, .int .u32 1, .int .u32 2]) (.int .i64 11)).run Try.prog w = .ok (.int .u32 2) w := fun _ => by kernel_rfl
      by_cases hb : (bits .and .u32 (r : Int) 2 != 0) = true
      · go_wp2_with fail
        go_round
        case rel => exact ⟨12, by omega, rfl, by rw [condN_set r 11 (by decide) hr (by simpa [kd] using hb)]; rfl⟩
        case measure => simp [intOf]
      · have hb2 : (bits .and .u32 (r : Int) 2 != 0) = false := by simpa using hb
        clear hb
        go_wp2_with fail
        go_round
        case rel => exact ⟨12, by omega, rfl, by rw [condN_clear r 11 (by simpa [kd] using hb2)]⟩
        case measure => simp [intOf]
    | 12, hk =>
      go_wp2_with fail
      go_ret
      exact ⟨rfl, rfl⟩
end Go.Proofs.Ytekhflejmbikmaa.GE
