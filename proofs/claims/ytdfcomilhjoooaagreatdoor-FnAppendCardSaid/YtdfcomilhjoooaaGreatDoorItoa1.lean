/- maxPow(10), getStack, stack.free, divisors without a table, the figures of a number as text. -/
import Derived.Test.YtdfcomilhjoooaaGreatDoorConv
import Derived.Defers
namespace Go.Proofs.YtdfcomilhjoooaaGreatDoor.Div
open Go.RowKit Go.Proofs.YtdfcomilhjoooaaGreatDoorW.PrintWords Go.Proofs.YtdfcomilhjoooaaGreatDoor.Base Go.Proofs.YtdfcomilhjoooaaGreatDoor.Num
set_option linter.unusedVariables false
set_option maxRecDepth 100000
set_option maxHeartbeats 8000000

theorem maxPow_ten (w : World) : Calls Tryz.prog 61 #[.int .u64 10] w fun e w' => e = .returned (.tuple #[.int .u64 10000000000000000000, .int .i64 19]) ∧ w = w' := by
  go_enter Tryz.func61, Tryz.ntmps61
  go_wp2_with fail
  refine wp_loop_rounds 19 ?_
  iterate 19 (rw [rounds_succ]; go_wp2_with fail)
  go_ret2
  exact ⟨rfl, rfl⟩
theorem getStack_c (w : World) : Calls Tryz.prog 59 #[] w fun e w' => e = .returned (.pointer (some ⟨w.heap.size, 0, none⟩)) ∧ w.alloc (.cells #[.pointer none] 117) = w' := by
  go_enter Tryz.func59, Tryz.ntmps59
  go_wp2_with fail
  go_ret
  exact ⟨rfl, rfl⟩
theorem free_c (S : Nat) (u : FrameMode) (w : World) (h : w.cell? ⟨S, 0, none⟩ = some (.pointer none)) : CallsD Tryz.prog 60 #[.pointer (some ⟨S, 0, none⟩)] u w fun e u' w' => u' = u ∧ (e = .returned (.tuple #[]) ∧ w = w') := by
  go_enter_d Tryz.func60, Tryz.ntmps60
  go_wp2_with fail
  go_end0
  exact ⟨rfl, rfl⟩
theorem divisors_nil (S : Value) (n : Nat) (hn : n ≤ 8) (w : World) (h : w.cell? ⟨1, 0, none⟩ = some (.int .i64 8)) :
    Calls Tryz.prog 62 #[S, .int .i64 n, .int .u64 10, .int .i64 19, .int .u64 10000000000000000000] w fun e w' => e = .returned (.slice none 0 0) ∧ w = w' := by
  have hn' : ((n : Int) ≤ 8) := by omega
  go_enter Tryz.func62, Tryz.ntmps62
  go_wp2_with fail
  go_ret
  exact ⟨rfl, rfl⟩

/-- the figures, the highest first, and without the noughts at the front -/
def full (V : Int) (N : Nat) : List Int := (List.range N).map fun i => fig V (N - 1 - i)
def txt (V : Int) (N : Nat) : List Int := (full V N).dropWhile (fun x => x == 48)
theorem dw : ∀ (z : Nat) (l : List Int), z < l.length → (∀ i, i < z → l.getD i 0 = 48) → l.getD z 0 ≠ 48 → l.dropWhile (fun x => x == 48) = l.drop z
  | 0, [], h, _, _ => absurd h (Nat.not_lt_zero _)
  | 0, x :: l, _, _, h => by
    have hx : (x == 48) = false := by simpa using h
    simp only [List.dropWhile, hx, List.drop_zero]
  | z + 1, [], h, _, _ => absurd h (Nat.not_lt_zero _)
  | z + 1, x :: l, h, h1, h2 => by
    have hx : x = 48 := by simpa using h1 0 (by omega)
    subst hx
    have := dw z l (by simpa using h) (fun i hi => by simpa using h1 (i + 1) (by omega)) (by simpa using h2)
    simpa [List.dropWhile] using this
theorem full_len (V : Int) (N : Nat) : (full V N).length = N := by simp [full]
theorem full_getD (V : Int) (N i : Nat) (h : i < N) : (full V N).getD i 0 = fig V (N - 1 - i) := by simp [full, List.getD_eq_getElem?_getD, h]
theorem txt_is {V : Int} {N z : Nat} (hz : z < N) (h1 : ∀ i, i < z → fig V (N - 1 - i) = 48) (h2 : ¬ fig V (N - 1 - z) = 48) : txt V N = (full V N).drop z :=
  dw z _ (by rw [full_len]; exact hz) (fun i hi => by rw [full_getD V N i (by omega)]; exact h1 i hi) (by rw [full_getD V N z hz]; exact h2)
/-- a number below ten to the N whose figures are noughts all is nought -/
theorem all_nought {V : Int} : ∀ k : Nat, (∀ p, p < k → V / 10 ^ p % 10 = 0) → V = 10 ^ k * (V / 10 ^ k)
  | 0, _ => by simp
  | k + 1, h => by
    have ih := all_nought k (fun p hp => h p (by omega))
    have h1 := h k (by omega)
    have h2 := div_div10 V k 1
    rw [← div_div10 V k 1, Int.pow_succ]
    have e : V / 10 ^ k = 10 * (V / 10 ^ k / 10 ^ 1) := by
      have : (10 : Int) ^ 1 = 10 := rfl
      rw [this]; omega
    rw [Int.mul_assoc, ← e]; exact ih
end Go.Proofs.YtdfcomilhjoooaaGreatDoor.Div
